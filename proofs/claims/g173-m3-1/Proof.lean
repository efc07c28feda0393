import JvmDerived
import JvmDerived.Pilot.@@N@@Statement
import JvmDerived.Pilot.@@N@@Code
set_option linter.unusedVariables false
set_option linter.unusedSimpArgs false
@@BLOCK:NumsL.lean.txt@@
namespace Jvm.OwnGo
open Jvm Sem ClassFile Op Lib Jvm.Stand Jvm.Free Jvm.LawKit Jvm.RoadKit
/-! ## 1. plain values: a reference is a place in the list of the objects that the law has made -/
def sv (n0 : Nat) : Value → Value
  | .ref a => .ref (n0 + a)
  | .int x => .int x
  | .long x => .long x
  | .null => .null
  | .float x => .float x
  | .double x => .double x
  | .retAddr x => .retAddr x
def ss (n0 : Nat) : Slot → Slot
  | .val v => .val (sv n0 v)
  | .unset => .unset
  | .second => .second
abbrev Obj := (String × List (String × String × Value)) ⊕ (FieldType × List Value)
abbrev Hp := List Obj
abbrev Ctx := Launch × State × Array Value × Nat
abbrev Mt := MethodName × ByteArray × Nat × Option FieldType
abbrev Res := Option Value × Option Hp × Nat × Nat
abbrev LL (n0 : Nat) (ls : List Slot) : Array Slot := (ls.map (ss n0)).toArray
abbrev SS (n0 : Nat) (st : List Value) : List Value := st.map (sv n0)
theorem sv_cat (n0 : Nat) (v : Value) : (sv n0 v).category = v.category := by cases v <;> rfl
theorem sv_ref (n0 : Nat) (v : Value) : (sv n0 v).isRef = v.isRef := by cases v <;> rfl
theorem LL_get {n0 : Nat} {ls : List Slot} {k : Nat} {x : Slot} (h : ls[k]? = some x) : (LL n0 ls)[k]? = some (ss n0 x) := by simp [LL, h]
theorem LL_size (n0 : Nat) (ls : List Slot) : (LL n0 ls).size = ls.length := by simp [LL]
theorem cats (n0 : Nat) (st : List Value) : ((SS n0 st).map fun v => v.category).sum = (st.map fun v => v.category).sum := by
  induction st with
  | nil => rfl
  | cons v r ih => simp only [SS, List.map_cons, List.sum_cons, sv_cat] at ih ⊢; rw [ih]
/-! ## 2. what an object of the list is in the heap -/
def COk (Z : State) (a0 : Array Value) (n0 : Nat) (h : Heap) (a : Addr) : Obj → Prop
  | .inl o => Exa Z h a o.1 ∧ (o.2.map (fun f => f.1)).Nodup ∧ ∀ f ∈ o.2, Laid Z a0 o.1 o.1 f.1 f.2.1 ∧ (∃ ty, parseFieldDescriptor f.2.1 = some ty) ∧ Fld Z h a o.1 f.1 f.2.1 (sv n0 f.2.2)
  | .inr o => Exa Z h a ("[" ++ o.1.toString) ∧ ∃ c : Cell, Arr Z h a c o.1 ∧ c.slots = (o.2.map (sv n0)).toArray
def Sim (K : Ctx) (h : Heap) (H : Hp) : Prop := h.size = K.2.2.2 + H.length ∧ ∀ (i : Nat) (o : Obj), H[i]? = some o → COk K.2.1 K.2.2.1 K.2.2.2 h (K.2.2.2 + i) o
theorem COk.ext {Z : State} {a0 : Array Value} {n0 : Nat} {h h' : Heap} {a : Addr} {o : Obj} (E : Ext h h') (C : COk Z a0 n0 h a o) : COk Z a0 n0 h' a o := by
  cases o with
  | inl o => exact ⟨C.1.ext E, C.2.1, fun f hf => ⟨(C.2.2 f hf).1, (C.2.2 f hf).2.1, (C.2.2 f hf).2.2.ext E⟩⟩
  | inr o => obtain ⟨e0, c, A, q⟩ := C; exact ⟨e0.ext E, c, A.ext E, q⟩
theorem COk.other {Z : State} {a0 : Array Value} {n0 : Nat} {h h' : Heap} {a b : Addr} {o : Obj} {sl : Nat} {v : Value} (W : Wr h h' b sl v) (ne : a ≠ b) (C : COk Z a0 n0 h a o) : COk Z a0 n0 h' a o := by
  cases o with
  | inl o => exact ⟨C.1.wr W, C.2.1, fun f hf => ⟨(C.2.2 f hf).1, (C.2.2 f hf).2.1, (C.2.2 f hf).2.2.other W (Or.inl ne)⟩⟩
  | inr o => obtain ⟨e0, c, A, q⟩ := C; exact ⟨e0.wr W, c, A.other W ne, q⟩
theorem Sim.push {K : Ctx} {h h' : Heap} {H : Hp} {o : Obj} (S : Sim K h H) (E : Ext h h') (hs : h'.size = h.size + 1) (C : COk K.2.1 K.2.2.1 K.2.2.2 h' (K.2.2.2 + H.length) o) : Sim K h' (H ++ [o]) := by
  refine ⟨by rw [hs, S.1, List.length_append]; rfl, fun i o' hi => ?_⟩
  by_cases q : i < H.length
  · rw [List.getElem?_append_left q] at hi
    exact (S.2 i o' hi).ext E
  · have hl := (List.getElem?_eq_some_iff.mp hi).1
    rw [List.length_append, List.length_singleton] at hl
    obtain rfl : i = H.length := by omega
    rw [List.getElem?_append_right (Nat.le_refl _), Nat.sub_self] at hi
    cases hi
    exact C
theorem Sim.set {K : Ctx} {h h' : Heap} {H : Hp} {o o' : Obj} {i sl : Nat} {v : Value} (S : Sim K h H) (W : Wr h h' (K.2.2.2 + i) sl v) (hi : H[i]? = some o) (C : COk K.2.1 K.2.2.1 K.2.2.2 h' (K.2.2.2 + i) o') : Sim K h' (H.set i o') := by
  refine ⟨by rw [W.size, S.1, List.length_set], fun j u hj => ?_⟩
  by_cases q : j = i
  · subst q
    rw [List.getElem?_set_self (List.getElem?_eq_some_iff.mp hi).1] at hj
    cases hj
    exact C
  · rw [List.getElem?_set_ne (Ne.symm q)] at hj
    exact (S.2 j u hj).other W (fun z => q (Nat.add_left_cancel z))
/-! ## 3. 'Go': from here the invocation comes to its end with r: the value, the objects, at the most so many cells and slots made -/
def FinH (K : Ctx) (h : Heap) (o : Option Hp) : Prop := ∀ H', o = some H' → Sim K h H'
def HOk (H : Hp) (o : Option Hp) : Prop := ∀ H', o = some H' → H = H'
theorem HOk.any {H : Hp} : HOk H none := fun _ h => nomatch h
theorem HOk.eq {H H' : Hp} (h : H = H') : HOk H (some H') := fun _ e => h.trans (Option.some.inj e)
theorem HOk.fin {K : Ctx} {h : Heap} {H : Hp} {o : Option Hp} (q : HOk H o) (S : Sim K h H) : FinH K h o := fun H' e => q H' e ▸ S
def Go (K : Ctx) (M : Mt) (F Lo : Nat) (pc : Nat) (ls : List Slot) (st : List Value) (H : Hp) (r : Res) : Prop :=
  ∀ (R : Room) (cells slots : Nat) (p : Program) (e : Env) (s : State) (m : MethodId) (args : Array Value) (below : List Frame) (meth : Method) (c : Code) (T : State) (locs : List Loc),
    F ≤ R.frames → Lo ≤ R.locals → cells + r.2.2.1 ≤ R.cells → slots + r.2.2.2 ≤ R.slots → p.tables.exec = Jvm.exec → K.2.1.Warmed39 s.vm → c.code = M.2.1 → c.maxLocals = M.2.2.1 → meth.sig.returnType = M.2.2.2 → meth.locks = false → s.vm.findClass M.1.cls = some m.cls → meth.name = M.1.name →
    Stand p K.1 e R s m args below meth c T locs cells slots → Sim K T.heap H → Fr K.2.2.2 locs →
    ∃ (s₂ : State) (L : List Loc), Steps p.tables e below (T.setTop (mkF m pc (LL K.2.2.2 ls) (SS K.2.2.2 st))) s₂ ∧ s₂.status = .running ∧ Ended s₂ below (.returned (r.1.map (sv K.2.2.2))) ∧ FinH K s₂.heap r.2.1 ∧ Fr K.2.2.2 L ∧ FrameEnd s (.returned (r.1.map (sv K.2.2.2))) s₂ L (cells + r.2.2.1) (slots + r.2.2.2)
def Dec (M : Mt) (pc : Nat) (i : Instr) (n pc' : Nat) : Prop := decode M.2.1 pc = .ok (i, n) ∧ pc + n = pc'
def Jmp (pc : Nat) (o : Int) (pc' : Nat) : Prop := 0 ≤ (pc : Int) + o ∧ ((pc : Int) + o).toNat = pc'
instance (M : Mt) (pc : Nat) (i : Instr) (n pc' : Nat) : Decidable (Dec M pc i n pc') := inferInstanceAs (Decidable (_ ∧ _))
instance (pc : Nat) (o : Int) (pc' : Nat) : Decidable (Jmp pc o pc') := inferInstanceAs (Decidable (_ ∧ _))
section G
variable {K : Ctx} {M : Mt} {F Lo pc pc' pt : Nat} {ls ls' : List Slot} {st st' : List Value} {H : Hp} {r : Res}
theorem Go.mono {F' Lo' : Nat} {rv : Option Value} {H' : Option Hp} {dc ds dc' ds' : Nat} (h : Go K M F Lo pc ls st H (rv, H', dc, ds)) (h1 : F ≤ F') (h2 : Lo ≤ Lo') (h3 : dc ≤ dc') (h4 : ds ≤ ds') : Go K M F' Lo' pc ls st H (rv, H', dc', ds') := by
  intro R cells slots p e s m args below meth c T locs a1 a2 a3 a4 b1 b2 b3 b4 b5 b6 b7 b8 X S N
  obtain ⟨s₂, L, q1, q2, q3, q4, q5, q6⟩ := h R cells slots p e s m args below meth c T locs (Nat.le_trans h1 a1) (Nat.le_trans h2 a2) (Nat.le_trans (Nat.add_le_add_left h3 _) a3) (Nat.le_trans (Nat.add_le_add_left h4 _) a4) b1 b2 b3 b4 b5 b6 b7 b8 X S N
  exact ⟨s₂, L, q1, q2, q3, q4, q5, q6.1, q6.2.1, q6.2.2.mono (Nat.add_le_add_left h3 _) (Nat.add_le_add_left h4 _)⟩
theorem Go.cast {r' : Res} (h : Go K M F Lo pc ls st H r) (e : r = r') : Go K M F Lo pc ls st H r' := e ▸ h
theorem Go.pureS (hs : ∀ {p : Program} {e : Env} {below : List Frame} {T target : State} {m : MethodId} {c : Code}, At T m c below → p.tables.exec = Jvm.exec → c.code = M.2.1 → Steps p.tables e below (T.setTop (mkF m pc' (LL K.2.2.2 ls') (SS K.2.2.2 st'))) target → Steps p.tables e below (T.setTop (mkF m pc (LL K.2.2.2 ls) (SS K.2.2.2 st))) target)
    (h : Go K M F Lo pc' ls' st' H r) : Go K M F Lo pc ls st H r := by
  intro R cells slots p e s m args below meth c T locs a1 a2 a3 a4 b1 b2 b3 b4 b5 b6 b7 b8 X S N
  obtain ⟨s₂, L, q1, q⟩ := h R cells slots p e s m args below meth c T locs a1 a2 a3 a4 b1 b2 b3 b4 b5 b6 b7 b8 X S N
  exact ⟨s₂, L, hs X.here b1 b3 q1, q⟩
theorem Dec.at {M : Mt} {pc n pc' : Nat} {i : Instr} (d : Dec M pc i n pc') {c : Code} (hc : c.code = M.2.1) : decode c.code pc = .ok (i, n) := hc ▸ d.1
/-! ## 4. one law a plain instruction -/
theorem rem_mod (x y : Int32) : x - (x / y) * y = x % y := irem_eq_mod x y
def setM (n0 : Nat) (A : Array Slot) : Array Slot := A.map (ss n0)
theorem setAt_map (n0 : Nat) (A : Array Slot) (i : Nat) (x : Slot) : setAt (setM n0 A) i (ss n0 x) = (setAt A i x).map (setM n0) := by
  simp only [setAt, setM, Array.size_map]
  split
  · show some ((A.map (ss n0)).setIfInBounds i (ss n0 x)) = some ((A.setIfInBounds i x).map (ss n0))
    rw [Array.map_setIfInBounds]
  · rfl
theorem setM_get (n0 : Nat) (A : Array Slot) (i : Nat) : (setM n0 A)[i]? = (A[i]?).map (ss n0) := by simp [setM]
theorem storeSelf_map (n0 : Nat) (A : Array Slot) (i : Nat) (v : Value) : storeSelf (setM n0 A) i (sv n0 v) = (storeSelf A i v).map (setM n0) := by
  have e0 : setAt (setM n0 A) i (.val (sv n0 v)) = (setAt A i (.val v)).map (setM n0) := setAt_map n0 A i (.val v)
  have eu : ∀ B j, setAt (setM n0 B) j .unset = (setAt B j .unset).map (setM n0) := fun B j => setAt_map n0 B j .unset
  have es : ∀ B j, setAt (setM n0 B) j .second = (setAt B j .second).map (setM n0) := fun B j => setAt_map n0 B j .second
  simp only [storeSelf, e0, sv_cat]
  cases setAt A i (.val v) with
  | none => rfl
  | some B =>
    simp only [Option.map_some, Option.bind_eq_bind, Option.bind_some, setM_get]
    split
    · cases B[i + 1]? with
      | none => rfl
      | some x =>
        cases x with
        | unset => simp only [Option.map_some, Option.bind_some, ss, es]
        | second => simp only [Option.map_some, Option.bind_some, ss, es]
        | val w =>
          simp only [Option.map_some, Option.bind_some, ss, sv_cat]
          split
          · rw [eu]
            cases setAt B (i + 2) .unset with
            | none => rfl
            | some D => simp only [Option.map_some, Option.bind_some, es]
          · rw [es]
    · rfl
theorem storeLocals_map (n0 : Nat) (A : Array Slot) (i : Nat) (v : Value) : storeLocals (setM n0 A) i (sv n0 v) = (storeLocals A i v).map (setM n0) := by
  have eu : ∀ B j, setAt (setM n0 B) j .unset = (setAt B j .unset).map (setM n0) := fun B j => setAt_map n0 B j .unset
  simp only [storeLocals, setM_get, Option.bind_eq_bind]
  cases A[i]? with
  | none => rfl
  | some x =>
    cases x with
    | unset => simp only [Option.map_some, Option.bind_some, ss, storeSelf_map]
    | second =>
      simp only [Option.map_some, Option.bind_some, ss, eu]
      cases setAt A (i - 1) .unset with
      | none => rfl
      | some D => simp only [Option.map_some, Option.bind_some, storeSelf_map]
    | val w =>
      simp only [Option.map_some, Option.bind_some, ss, sv_cat]
      split
      · rw [eu]
        cases setAt A (i + 1) .unset with
        | none => rfl
        | some D => simp only [Option.map_some, Option.bind_some, storeSelf_map]
      · rw [storeSelf_map]
def stl (ls : List Slot) (k : Nat) (v : Value) : Option (List Slot) := (storeLocals ls.toArray k v).map Array.toList
theorem stl_ok {n0 : Nat} {ls ls' : List Slot} {k : Nat} {v : Value} (h : stl ls k v = some ls') : storeLocals (LL n0 ls) k (sv n0 v) = some (LL n0 ls') := by
  have e : LL n0 ls = setM n0 ls.toArray := by simp [LL, setM]
  rw [e, storeLocals_map]
  simp only [stl] at h
  cases hq : storeLocals ls.toArray k v with
  | none => rw [hq] at h; cases h
  | some B =>
    rw [hq] at h
    cases h
    show some (setM n0 B) = some (LL n0 B.toList)
    congr 1
    apply Array.toList_inj.mp
    simp [LL, setM]
theorem Go.iloadN {k : Fin 4} {v : Int32} (hd : Dec M pc (.iload_n k) 1 pc') (hl : ls[k.val]? = some (.val (.int v))) (h : Go K M F Lo pc' ls (.int v :: st) H r) : Go K M F Lo pc ls st H r := by
  obtain ⟨hd, rfl⟩ := hd
  exact h.pureS fun A hx hc k => XS.iloadN A hx rfl (hc ▸ hd) (LL_get hl) k
theorem Go.iload {k : Nat} {v : Int32} (hd : Dec M pc (.iload k) 2 pc') (hl : ls[k]? = some (.val (.int v))) (h : Go K M F Lo pc' ls (.int v :: st) H r) : Go K M F Lo pc ls st H r := by
  obtain ⟨hd, rfl⟩ := hd
  exact h.pureS fun A hx hc k => XS.iload A hx rfl (hc ▸ hd) (LL_get hl) k
theorem Go.istoreN {k : Fin 4} {v : Int32} (hd : Dec M pc (.istore_n k) 1 pc') (hl : stl ls k.val (.int v) = some ls') (h : Go K M F Lo pc' ls' st H r) : Go K M F Lo pc ls (.int v :: st) H r := by
  obtain ⟨hd, rfl⟩ := hd
  exact h.pureS fun A hx hc k => XS.istoreN A hx rfl (hc ▸ hd) rfl (stl_ok (n0 := K.2.2.2) hl) k
theorem Go.istore {k : Nat} {v : Int32} (hd : Dec M pc (.istore k) 2 pc') (hl : stl ls k (.int v) = some ls') (h : Go K M F Lo pc' ls' st H r) : Go K M F Lo pc ls (.int v :: st) H r := by
  obtain ⟨hd, rfl⟩ := hd
  exact h.pureS fun A hx hc k => XS.istore A hx rfl (hc ▸ hd) rfl (stl_ok (n0 := K.2.2.2) hl) k
theorem Go.lloadN {k : Fin 4} {v : Int64} (hd : Dec M pc (.lload_n k) 1 pc') (hl : ls[k.val]? = some (.val (.long v))) (h : Go K M F Lo pc' ls (.long v :: st) H r) : Go K M F Lo pc ls st H r := by
  obtain ⟨hd, rfl⟩ := hd
  exact h.pureS fun A hx hc k => XT.lloadN A hx rfl (hc ▸ hd) (LL_get hl) k
theorem Go.lload {k : Nat} {v : Int64} (hd : Dec M pc (.lload k) 2 pc') (hl : ls[k]? = some (.val (.long v))) (h : Go K M F Lo pc' ls (.long v :: st) H r) : Go K M F Lo pc ls st H r := by
  obtain ⟨hd, rfl⟩ := hd
  exact h.pureS fun A hx hc k => XT.lload A hx rfl (hc ▸ hd) (LL_get hl) k
theorem Go.lstoreN {k : Fin 4} {v : Int64} (hd : Dec M pc (.lstore_n k) 1 pc') (hl : stl ls k.val (.long v) = some ls') (h : Go K M F Lo pc' ls' st H r) : Go K M F Lo pc ls (.long v :: st) H r := by
  obtain ⟨hd, rfl⟩ := hd
  exact h.pureS fun A hx hc k => XT.lstoreN A hx rfl (hc ▸ hd) rfl (stl_ok (n0 := K.2.2.2) hl) k
theorem Go.lstore {k : Nat} {v : Int64} (hd : Dec M pc (.lstore k) 2 pc') (hl : stl ls k (.long v) = some ls') (h : Go K M F Lo pc' ls' st H r) : Go K M F Lo pc ls (.long v :: st) H r := by
  obtain ⟨hd, rfl⟩ := hd
  exact h.pureS fun A hx hc k => XT.lstore A hx rfl (hc ▸ hd) rfl (stl_ok (n0 := K.2.2.2) hl) k
theorem Go.aloadN {k : Fin 4} {v : Value} (hd : Dec M pc (.aload_n k) 1 pc') (hl : ls[k.val]? = some (.val v)) (hv : v.isRef = true) (h : Go K M F Lo pc' ls (v :: st) H r) : Go K M F Lo pc ls st H r := by
  obtain ⟨hd, rfl⟩ := hd
  exact h.pureS fun A hx hc k => XS.aloadN A hx rfl (hc ▸ hd) (LL_get hl) (by rw [sv_ref]; exact hv) k
theorem Go.aload {k : Nat} {v : Value} (hd : Dec M pc (.aload k) 2 pc') (hl : ls[k]? = some (.val v)) (hv : v.isRef = true) (h : Go K M F Lo pc' ls (v :: st) H r) : Go K M F Lo pc ls st H r := by
  obtain ⟨hd, rfl⟩ := hd
  exact h.pureS fun A hx hc k => XS.aload A hx rfl (hc ▸ hd) (LL_get hl) (by rw [sv_ref]; exact hv) k
theorem Go.astoreN {k : Fin 4} {v : Value} (hd : Dec M pc (.astore_n k) 1 pc') (hl : stl ls k.val v = some ls') (hv : v.isRef = true) (h : Go K M F Lo pc' ls' st H r) : Go K M F Lo pc ls (v :: st) H r := by
  obtain ⟨hd, rfl⟩ := hd
  exact h.pureS fun A hx hc k => XS.astoreN A hx rfl (hc ▸ hd) rfl (by rw [sv_ref]; exact hv) (stl_ok (n0 := K.2.2.2) hl) k
theorem Go.astore {k : Nat} {v : Value} (hd : Dec M pc (.astore k) 2 pc') (hl : stl ls k v = some ls') (hv : v.isRef = true) (h : Go K M F Lo pc' ls' st H r) : Go K M F Lo pc ls (v :: st) H r := by
  obtain ⟨hd, rfl⟩ := hd
  exact h.pureS fun A hx hc k => XS.astore A hx rfl (hc ▸ hd) rfl (by rw [sv_ref]; exact hv) (stl_ok (n0 := K.2.2.2) hl) k
theorem Go.iconst {i : Int} {v : Int32} (hd : Dec M pc (.iconst i) 1 pc') (hv : Int32.ofInt i = v) (h : Go K M F Lo pc' ls (.int v :: st) H r) : Go K M F Lo pc ls st H r := by
  obtain ⟨hd, rfl⟩ := hd
  exact h.pureS fun A hx hc k => XT.iconstV A hx rfl v (hc ▸ hd) hv k
theorem Go.bipush {i : Int} {v : Int32} (hd : Dec M pc (.bipush i) 2 pc') (hv : (Int8.ofInt i).toInt32 = v) (h : Go K M F Lo pc' ls (.int v :: st) H r) : Go K M F Lo pc ls st H r := by
  obtain ⟨hd, rfl⟩ := hd
  exact h.pureS fun A hx hc k => XT.bipushV A hx rfl v (hc ▸ hd) hv k
theorem Go.sipush {i : Int} {v : Int32} (hd : Dec M pc (.sipush i) 3 pc') (hv : (Int16.ofInt i).toInt32 = v) (h : Go K M F Lo pc' ls (.int v :: st) H r) : Go K M F Lo pc ls st H r := by
  obtain ⟨hd, rfl⟩ := hd
  exact h.pureS fun A hx hc k => XT.sipushV A hx rfl v (hc ▸ hd) hv k
theorem Go.lconst {i : Fin 2} {v : Int64} (hd : Dec M pc (.lconst i) 1 pc') (hv : Int64.ofNat i = v) (h : Go K M F Lo pc' ls (.long v :: st) H r) : Go K M F Lo pc ls st H r := by
  obtain ⟨hd, rfl⟩ := hd
  exact h.pureS fun A hx hc k => XT.lconstV A hx rfl v (hc ▸ hd) hv k
theorem Go.aconstNull  (hd : Dec M pc .aconst_null 1 pc') (h : Go K M F Lo pc' ls (.null :: st) H r) : Go K M F Lo pc ls st H r := by
  obtain ⟨hd, rfl⟩ := hd
  exact h.pureS fun A hx hc k => XS.aconstNull A hx rfl (hc ▸ hd) k
theorem Go.iadd {x y : Int32} (hd : Dec M pc .iadd 1 pc') (h : Go K M F Lo pc' ls (.int (x + y) :: st) H r) : Go K M F Lo pc ls (.int y :: .int x :: st) H r := by
  obtain ⟨hd, rfl⟩ := hd
  exact h.pureS fun A hx hc k => XS.iadd A hx rfl (hc ▸ hd) rfl k
theorem Go.isub {x y : Int32} (hd : Dec M pc .isub 1 pc') (h : Go K M F Lo pc' ls (.int (x - y) :: st) H r) : Go K M F Lo pc ls (.int y :: .int x :: st) H r := by
  obtain ⟨hd, rfl⟩ := hd
  exact h.pureS fun A hx hc k => XS.isub A hx rfl (hc ▸ hd) rfl k
theorem Go.imul {x y : Int32} (hd : Dec M pc .imul 1 pc') (h : Go K M F Lo pc' ls (.int (x * y) :: st) H r) : Go K M F Lo pc ls (.int y :: .int x :: st) H r := by
  obtain ⟨hd, rfl⟩ := hd
  exact h.pureS fun A hx hc k => XS.imul A hx rfl (hc ▸ hd) rfl k
theorem Go.iand {x y : Int32} (hd : Dec M pc .iand 1 pc') (h : Go K M F Lo pc' ls (.int (x &&& y) :: st) H r) : Go K M F Lo pc ls (.int y :: .int x :: st) H r := by
  obtain ⟨hd, rfl⟩ := hd
  exact h.pureS fun A hx hc k => XS.iand A hx rfl (hc ▸ hd) rfl k
theorem Go.ior {x y : Int32} (hd : Dec M pc .ior 1 pc') (h : Go K M F Lo pc' ls (.int (x ||| y) :: st) H r) : Go K M F Lo pc ls (.int y :: .int x :: st) H r := by
  obtain ⟨hd, rfl⟩ := hd
  exact h.pureS fun A hx hc k => XT.ior A hx rfl (hc ▸ hd) rfl k
theorem Go.ixor {x y : Int32} (hd : Dec M pc .ixor 1 pc') (h : Go K M F Lo pc' ls (.int (x ^^^ y) :: st) H r) : Go K M F Lo pc ls (.int y :: .int x :: st) H r := by
  obtain ⟨hd, rfl⟩ := hd
  exact h.pureS fun A hx hc k => XT.ixor A hx rfl (hc ▸ hd) rfl k
theorem Go.ishl {x y : Int32} (hd : Dec M pc .ishl 1 pc') (h : Go K M F Lo pc' ls (.int (x <<< (y &&& 31)) :: st) H r) : Go K M F Lo pc ls (.int y :: .int x :: st) H r := by
  obtain ⟨hd, rfl⟩ := hd
  exact h.pureS fun A hx hc k => XT.ishl A hx rfl (hc ▸ hd) rfl k
theorem Go.ishr {x y : Int32} (hd : Dec M pc .ishr 1 pc') (h : Go K M F Lo pc' ls (.int (x >>> (y &&& 31)) :: st) H r) : Go K M F Lo pc ls (.int y :: .int x :: st) H r := by
  obtain ⟨hd, rfl⟩ := hd
  exact h.pureS fun A hx hc k => XT.ishr A hx rfl (hc ▸ hd) rfl k
theorem Go.iushr {x y : Int32} (hd : Dec M pc .iushr 1 pc') (h : Go K M F Lo pc' ls (.int (XT.ushr x y) :: st) H r) : Go K M F Lo pc ls (.int y :: .int x :: st) H r := by
  obtain ⟨hd, rfl⟩ := hd
  exact h.pureS fun A hx hc k => XT.iushr A hx rfl (hc ▸ hd) rfl k
theorem Go.irem {x y : Int32} (hd : Dec M pc .irem 1 pc') (hy : y ≠ 0) (h : Go K M F Lo pc' ls (.int (x % y) :: st) H r) : Go K M F Lo pc ls (.int y :: .int x :: st) H r := by
  obtain ⟨hd, rfl⟩ := hd
  exact h.pureS fun A hx hc k => XS.irem A hx rfl (hc ▸ hd) rfl hy (by rw [rem_mod]; exact k)
theorem Go.idiv {x y : Int32} (hd : Dec M pc .idiv 1 pc') (hy : y ≠ 0) (h : Go K M F Lo pc' ls (.int (x / y) :: st) H r) : Go K M F Lo pc ls (.int y :: .int x :: st) H r := by
  obtain ⟨hd, rfl⟩ := hd
  exact h.pureS fun A hx hc k => XS.idiv A hx rfl (hc ▸ hd) rfl hy k
theorem Go.ineg {x : Int32} (hd : Dec M pc .ineg 1 pc') (h : Go K M F Lo pc' ls (.int (-x) :: st) H r) : Go K M F Lo pc ls (.int x :: st) H r := by
  obtain ⟨hd, rfl⟩ := hd
  exact h.pureS fun A hx hc k => XS.ineg A hx rfl (hc ▸ hd) rfl k
theorem Go.iinc {i : Nat} {cst : Int} {v x : Int32} (hd : Dec M pc (.iinc i cst) 3 pc') (hv : Int32.ofInt cst = v) (hl : ls[i]? = some (.val (.int x))) (hl' : stl ls i (.int (x + v)) = some ls') (h : Go K M F Lo pc' ls' st H r) : Go K M F Lo pc ls st H r := by
  obtain ⟨hd, rfl⟩ := hd
  exact h.pureS fun A hx hc k => XT.iincV A hx rfl v (hc ▸ hd) hv (LL_get hl) (stl_ok (n0 := K.2.2.2) hl') k
theorem Go.ladd {x y : Int64} (hd : Dec M pc .ladd 1 pc') (h : Go K M F Lo pc' ls (.long (x + y) :: st) H r) : Go K M F Lo pc ls (.long y :: .long x :: st) H r := by
  obtain ⟨hd, rfl⟩ := hd
  exact h.pureS fun A hx hc k => XT.ladd A hx rfl (hc ▸ hd) rfl k
theorem Go.lsub {x y : Int64} (hd : Dec M pc .lsub 1 pc') (h : Go K M F Lo pc' ls (.long (x - y) :: st) H r) : Go K M F Lo pc ls (.long y :: .long x :: st) H r := by
  obtain ⟨hd, rfl⟩ := hd
  exact h.pureS fun A hx hc k => XT.lsub A hx rfl (hc ▸ hd) rfl k
theorem Go.lmul {x y : Int64} (hd : Dec M pc .lmul 1 pc') (h : Go K M F Lo pc' ls (.long (x * y) :: st) H r) : Go K M F Lo pc ls (.long y :: .long x :: st) H r := by
  obtain ⟨hd, rfl⟩ := hd
  exact h.pureS fun A hx hc k => XT.lmul A hx rfl (hc ▸ hd) rfl k
theorem Go.land {x y : Int64} (hd : Dec M pc .land 1 pc') (h : Go K M F Lo pc' ls (.long (x &&& y) :: st) H r) : Go K M F Lo pc ls (.long y :: .long x :: st) H r := by
  obtain ⟨hd, rfl⟩ := hd
  exact h.pureS fun A hx hc k => XT.land A hx rfl (hc ▸ hd) rfl k
theorem Go.lor {x y : Int64} (hd : Dec M pc .lor 1 pc') (h : Go K M F Lo pc' ls (.long (x ||| y) :: st) H r) : Go K M F Lo pc ls (.long y :: .long x :: st) H r := by
  obtain ⟨hd, rfl⟩ := hd
  exact h.pureS fun A hx hc k => XT.lor A hx rfl (hc ▸ hd) rfl k
theorem Go.lxor {x y : Int64} (hd : Dec M pc .lxor 1 pc') (h : Go K M F Lo pc' ls (.long (x ^^^ y) :: st) H r) : Go K M F Lo pc ls (.long y :: .long x :: st) H r := by
  obtain ⟨hd, rfl⟩ := hd
  exact h.pureS fun A hx hc k => XT.lxor A hx rfl (hc ▸ hd) rfl k
theorem Go.lshl {x : Int64} {y : Int32} (hd : Dec M pc .lshl 1 pc') (h : Go K M F Lo pc' ls (.long (x <<< (y.toInt64 &&& 63)) :: st) H r) : Go K M F Lo pc ls (.int y :: .long x :: st) H r := by
  obtain ⟨hd, rfl⟩ := hd
  exact h.pureS fun A hx hc k => XT.lshl A hx rfl (hc ▸ hd) rfl k
theorem Go.lshr {x : Int64} {y : Int32} (hd : Dec M pc .lshr 1 pc') (h : Go K M F Lo pc' ls (.long (x >>> (y.toInt64 &&& 63)) :: st) H r) : Go K M F Lo pc ls (.int y :: .long x :: st) H r := by
  obtain ⟨hd, rfl⟩ := hd
  exact h.pureS fun A hx hc k => XT.lshr A hx rfl (hc ▸ hd) rfl k
theorem Go.lushr {x : Int64} {y : Int32} (hd : Dec M pc .lushr 1 pc') (h : Go K M F Lo pc' ls (.long (XT.ushrL x y) :: st) H r) : Go K M F Lo pc ls (.int y :: .long x :: st) H r := by
  obtain ⟨hd, rfl⟩ := hd
  exact h.pureS fun A hx hc k => XT.lushr A hx rfl (hc ▸ hd) rfl k
theorem Go.lrem {x y : Int64} (hd : Dec M pc .lrem 1 pc') (hy : y ≠ 0) (h : Go K M F Lo pc' ls (.long (x % y) :: st) H r) : Go K M F Lo pc ls (.long y :: .long x :: st) H r := by
  obtain ⟨hd, rfl⟩ := hd
  exact h.pureS fun A hx hc k => XT.lrem A hx rfl (hc ▸ hd) rfl hy (by rw [lrem_mod]; exact k)
theorem Go.ldiv {x y : Int64} (hd : Dec M pc .ldiv 1 pc') (hy : y ≠ 0) (h : Go K M F Lo pc' ls (.long (x / y) :: st) H r) : Go K M F Lo pc ls (.long y :: .long x :: st) H r := by
  obtain ⟨hd, rfl⟩ := hd
  exact h.pureS fun A hx hc k => XT.ldiv A hx rfl (hc ▸ hd) rfl hy k
theorem Go.lneg {x : Int64} (hd : Dec M pc .lneg 1 pc') (h : Go K M F Lo pc' ls (.long (-x) :: st) H r) : Go K M F Lo pc ls (.long x :: st) H r := by
  obtain ⟨hd, rfl⟩ := hd
  exact h.pureS fun A hx hc k => XT.lneg A hx rfl (hc ▸ hd) rfl k
theorem Go.lcmp {x y : Int64} (hd : Dec M pc .lcmp 1 pc') (h : Go K M F Lo pc' ls (.int (XT.cmpL x y) :: st) H r) : Go K M F Lo pc ls (.long y :: .long x :: st) H r := by
  obtain ⟨hd, rfl⟩ := hd
  exact h.pureS fun A hx hc k => XT.lcmp A hx rfl (hc ▸ hd) rfl k
theorem Go.i2l {x : Int32} (hd : Dec M pc .i2l 1 pc') (h : Go K M F Lo pc' ls (.long x.toInt64 :: st) H r) : Go K M F Lo pc ls (.int x :: st) H r := by
  obtain ⟨hd, rfl⟩ := hd
  exact h.pureS fun A hx hc k => XT.i2l A hx rfl (hc ▸ hd) rfl k
theorem Go.l2i {x : Int64} (hd : Dec M pc .l2i 1 pc') (h : Go K M F Lo pc' ls (.int x.toInt32 :: st) H r) : Go K M F Lo pc ls (.long x :: st) H r := by
  obtain ⟨hd, rfl⟩ := hd
  exact h.pureS fun A hx hc k => XT.l2i A hx rfl (hc ▸ hd) rfl k
theorem Go.i2b {x : Int32} (hd : Dec M pc .i2b 1 pc') (h : Go K M F Lo pc' ls (.int x.toInt8.toInt32 :: st) H r) : Go K M F Lo pc ls (.int x :: st) H r := by
  obtain ⟨hd, rfl⟩ := hd
  exact h.pureS fun A hx hc k => XT.i2b A hx rfl (hc ▸ hd) rfl k
theorem Go.i2c {x : Int32} (hd : Dec M pc .i2c 1 pc') (h : Go K M F Lo pc' ls (.int x.toUInt32.toUInt16.toUInt32.toInt32 :: st) H r) : Go K M F Lo pc ls (.int x :: st) H r := by
  obtain ⟨hd, rfl⟩ := hd
  exact h.pureS fun A hx hc k => XT.i2c A hx rfl (hc ▸ hd) rfl k
theorem Go.i2s {x : Int32} (hd : Dec M pc .i2s 1 pc') (h : Go K M F Lo pc' ls (.int x.toInt16.toInt32 :: st) H r) : Go K M F Lo pc ls (.int x :: st) H r := by
  obtain ⟨hd, rfl⟩ := hd
  exact h.pureS fun A hx hc k => XT.i2s A hx rfl (hc ▸ hd) rfl k
theorem Go.pop {x : Value} (hd : Dec M pc .pop 1 pc') (hx1 : x.category = 1) (h : Go K M F Lo pc' ls st H r) : Go K M F Lo pc ls (x :: st) H r := by
  obtain ⟨hd, rfl⟩ := hd
  exact h.pureS fun A hx hc k => XT.pop A hx rfl (hc ▸ hd) rfl (by rw [sv_cat]; exact hx1) k
theorem Go.dup {x : Value} (hd : Dec M pc .dup 1 pc') (hx1 : x.category = 1) (h : Go K M F Lo pc' ls (x :: x :: st) H r) : Go K M F Lo pc ls (x :: st) H r := by
  obtain ⟨hd, rfl⟩ := hd
  exact h.pureS fun A hx hc k => XS.dup A hx rfl (hc ▸ hd) rfl (by rw [sv_cat]; exact hx1) k
theorem Go.dupX1 {x y : Value} (hd : Dec M pc .dup_x1 1 pc') (hx1 : x.category = 1) (hy1 : y.category = 1) (h : Go K M F Lo pc' ls (x :: y :: x :: st) H r) : Go K M F Lo pc ls (x :: y :: st) H r := by
  obtain ⟨hd, rfl⟩ := hd
  exact h.pureS fun A hx hc k => XT.dupX1 A hx rfl (hc ▸ hd) rfl (by rw [sv_cat]; exact hx1) (by rw [sv_cat]; exact hy1) k
theorem Go.dup2 {x y : Value} (hd : Dec M pc .dup2 1 pc') (hx1 : x.category = 1) (hy1 : y.category = 1) (h : Go K M F Lo pc' ls (x :: y :: x :: y :: st) H r) : Go K M F Lo pc ls (x :: y :: st) H r := by
  obtain ⟨hd, rfl⟩ := hd
  exact h.pureS fun A hx hc k => XT.dup2 A hx rfl (hc ▸ hd) rfl (by rw [sv_cat]; exact hx1) (by rw [sv_cat]; exact hy1) k
theorem Go.dup2L {x : Int64} (hd : Dec M pc .dup2 1 pc') (h : Go K M F Lo pc' ls (.long x :: .long x :: st) H r) : Go K M F Lo pc ls (.long x :: st) H r := by
  obtain ⟨hd, rfl⟩ := hd
  exact h.pureS fun A hx hc k => XT.dup2L A hx rfl (hc ▸ hd) rfl k
theorem hset_self {H : Hp} {i : Nat} {o o' : Obj} (h : H[i]? = some o) : (H.set i o')[i]? = some o' := List.getElem?_set_self (List.getElem?_eq_some_iff.mp h).1
theorem hset_ne {H : Hp} {i j : Nat} {o o' : Obj} (h : H[j]? = some o) (ne : i ≠ j) : (H.set i o')[j]? = some o := (List.getElem?_set_ne ne).trans h
theorem happ {H : Hp} {i : Nat} {o : Obj} (h : H[i]? = some o) (L : Hp) : (H ++ L)[i]? = some o := (List.getElem?_append_left (List.getElem?_eq_some_iff.mp h).1).trans h
theorem happ_last {H : Hp} {i : Nat} {o : Obj} (h : H.length = i) : (H ++ [o])[i]? = some o := by subst h; simp
theorem Go.goto {o : Int} (hd : Dec M pc (.goto o) 3 pc') (hj : Jmp pc o pt) (h : Go K M F Lo pt ls st H r) : Go K M F Lo pc ls st H r :=
  h.pureS fun A hx hc k => XS.goto A hx rfl rfl (hd.at hc) hj.1 hj.2 k
theorem Go.icmpT {cd : ClassFile.Cond} {x y : Int32} {o : Int} (hd : Dec M pc (.if_icmp cd o) 3 pc') (hj : Jmp pc o pt) (hv : if_icmp.holds cd x y = true) (h : Go K M F Lo pt ls st H r) : Go K M F Lo pc ls (.int y :: .int x :: st) H r :=
  h.pureS fun A hx hc k => XS.icmpYes A hx rfl rfl (hd.at hc) rfl hv hj.1 hj.2 k
theorem Go.icmpF {cd : ClassFile.Cond} {x y : Int32} {o : Int} (hd : Dec M pc (.if_icmp cd o) 3 pc') (hv : if_icmp.holds cd x y = false) (h : Go K M F Lo pc' ls st H r) : Go K M F Lo pc ls (.int y :: .int x :: st) H r := by
  obtain ⟨hd, rfl⟩ := hd
  exact h.pureS fun A hx hc k => XS.icmpNo A hx rfl (hc ▸ hd) rfl hv k
theorem Go.ifT {cd : ClassFile.Cond} {x : Int32} {o : Int} (hd : Dec M pc (.ifCond cd o) 3 pc') (hj : Jmp pc o pt) (hv : ifCond.holds cd x = true) (h : Go K M F Lo pt ls st H r) : Go K M F Lo pc ls (.int x :: st) H r :=
  h.pureS fun A hx hc k => XS.ifYes A hx rfl rfl (hd.at hc) rfl hv hj.1 hj.2 k
theorem Go.ifF {cd : ClassFile.Cond} {x : Int32} {o : Int} (hd : Dec M pc (.ifCond cd o) 3 pc') (hv : ifCond.holds cd x = false) (h : Go K M F Lo pc' ls st H r) : Go K M F Lo pc ls (.int x :: st) H r := by
  obtain ⟨hd, rfl⟩ := hd
  exact h.pureS fun A hx hc k => XS.ifNo A hx rfl (hc ▸ hd) rfl hv k
theorem Go.icmp_lt {x y : Int32} {o : Int} (hd : Dec M pc (.if_icmp .lt o) 3 pc') (hj : Jmp pc o pt) (hT : x < y → Go K M F Lo pt ls st H r) (hF : ¬ x < y → Go K M F Lo pc' ls st H r) : Go K M F Lo pc ls (.int y :: .int x :: st) H r := by
  by_cases q : x < y
  · exact Go.icmpT hd hj (XT.ii_lt_t q) (hT q)
  · exact Go.icmpF hd (XT.ii_lt_f q) (hF q)
theorem Go.if_lt {x : Int32} {o : Int} (hd : Dec M pc (.ifCond .lt o) 3 pc') (hj : Jmp pc o pt) (hT : x < 0 → Go K M F Lo pt ls st H r) (hF : ¬ x < 0 → Go K M F Lo pc' ls st H r) : Go K M F Lo pc ls (.int x :: st) H r := by
  by_cases q : x < 0
  · exact Go.ifT hd hj (XT.i0_lt_t q) (hT q)
  · exact Go.ifF hd (XT.i0_lt_f q) (hF q)
theorem Go.lif_lt {x y : Int64} {o : Int} (hd : Dec M pc (.ifCond .lt o) 3 pc') (hj : Jmp pc o pt) (hT : x < y → Go K M F Lo pt ls st H r) (hF : ¬ x < y → Go K M F Lo pc' ls st H r) : Go K M F Lo pc ls (.int (XT.cmpL x y) :: st) H r := by
  by_cases q : x < y
  · exact Go.ifT hd hj (XT.ll_lt_t q) (hT q)
  · exact Go.ifF hd (XT.ll_lt_f q) (hF q)
theorem Go.icmp_ge {x y : Int32} {o : Int} (hd : Dec M pc (.if_icmp .ge o) 3 pc') (hj : Jmp pc o pt) (hT : ¬ x < y → Go K M F Lo pt ls st H r) (hF : x < y → Go K M F Lo pc' ls st H r) : Go K M F Lo pc ls (.int y :: .int x :: st) H r := by
  by_cases q : x < y
  · exact Go.icmpF hd (XT.ii_ge_f q) (hF q)
  · exact Go.icmpT hd hj (XT.ii_ge_t q) (hT q)
theorem Go.if_ge {x : Int32} {o : Int} (hd : Dec M pc (.ifCond .ge o) 3 pc') (hj : Jmp pc o pt) (hT : ¬ x < 0 → Go K M F Lo pt ls st H r) (hF : x < 0 → Go K M F Lo pc' ls st H r) : Go K M F Lo pc ls (.int x :: st) H r := by
  by_cases q : x < 0
  · exact Go.ifF hd (XT.i0_ge_f q) (hF q)
  · exact Go.ifT hd hj (XT.i0_ge_t q) (hT q)
theorem Go.lif_ge {x y : Int64} {o : Int} (hd : Dec M pc (.ifCond .ge o) 3 pc') (hj : Jmp pc o pt) (hT : ¬ x < y → Go K M F Lo pt ls st H r) (hF : x < y → Go K M F Lo pc' ls st H r) : Go K M F Lo pc ls (.int (XT.cmpL x y) :: st) H r := by
  by_cases q : x < y
  · exact Go.ifF hd (XT.ll_ge_f q) (hF q)
  · exact Go.ifT hd hj (XT.ll_ge_t q) (hT q)
theorem Go.icmp_gt {x y : Int32} {o : Int} (hd : Dec M pc (.if_icmp .gt o) 3 pc') (hj : Jmp pc o pt) (hT : y < x → Go K M F Lo pt ls st H r) (hF : ¬ y < x → Go K M F Lo pc' ls st H r) : Go K M F Lo pc ls (.int y :: .int x :: st) H r := by
  by_cases q : y < x
  · exact Go.icmpT hd hj (XT.ii_gt_t q) (hT q)
  · exact Go.icmpF hd (XT.ii_gt_f q) (hF q)
theorem Go.if_gt {x : Int32} {o : Int} (hd : Dec M pc (.ifCond .gt o) 3 pc') (hj : Jmp pc o pt) (hT : 0 < x → Go K M F Lo pt ls st H r) (hF : ¬ 0 < x → Go K M F Lo pc' ls st H r) : Go K M F Lo pc ls (.int x :: st) H r := by
  by_cases q : 0 < x
  · exact Go.ifT hd hj (XT.i0_gt_t q) (hT q)
  · exact Go.ifF hd (XT.i0_gt_f q) (hF q)
theorem Go.lif_gt {x y : Int64} {o : Int} (hd : Dec M pc (.ifCond .gt o) 3 pc') (hj : Jmp pc o pt) (hT : y < x → Go K M F Lo pt ls st H r) (hF : ¬ y < x → Go K M F Lo pc' ls st H r) : Go K M F Lo pc ls (.int (XT.cmpL x y) :: st) H r := by
  by_cases q : y < x
  · exact Go.ifT hd hj (XT.ll_gt_t q) (hT q)
  · exact Go.ifF hd (XT.ll_gt_f q) (hF q)
theorem Go.icmp_le {x y : Int32} {o : Int} (hd : Dec M pc (.if_icmp .le o) 3 pc') (hj : Jmp pc o pt) (hT : ¬ y < x → Go K M F Lo pt ls st H r) (hF : y < x → Go K M F Lo pc' ls st H r) : Go K M F Lo pc ls (.int y :: .int x :: st) H r := by
  by_cases q : y < x
  · exact Go.icmpF hd (XT.ii_le_f q) (hF q)
  · exact Go.icmpT hd hj (XT.ii_le_t q) (hT q)
theorem Go.if_le {x : Int32} {o : Int} (hd : Dec M pc (.ifCond .le o) 3 pc') (hj : Jmp pc o pt) (hT : ¬ 0 < x → Go K M F Lo pt ls st H r) (hF : 0 < x → Go K M F Lo pc' ls st H r) : Go K M F Lo pc ls (.int x :: st) H r := by
  by_cases q : 0 < x
  · exact Go.ifF hd (XT.i0_le_f q) (hF q)
  · exact Go.ifT hd hj (XT.i0_le_t q) (hT q)
theorem Go.lif_le {x y : Int64} {o : Int} (hd : Dec M pc (.ifCond .le o) 3 pc') (hj : Jmp pc o pt) (hT : ¬ y < x → Go K M F Lo pt ls st H r) (hF : y < x → Go K M F Lo pc' ls st H r) : Go K M F Lo pc ls (.int (XT.cmpL x y) :: st) H r := by
  by_cases q : y < x
  · exact Go.ifF hd (XT.ll_le_f q) (hF q)
  · exact Go.ifT hd hj (XT.ll_le_t q) (hT q)
theorem Go.icmp_eq {x y : Int32} {o : Int} (hd : Dec M pc (.if_icmp .eq o) 3 pc') (hj : Jmp pc o pt) (hT : x = y → Go K M F Lo pt ls st H r) (hF : ¬ x = y → Go K M F Lo pc' ls st H r) : Go K M F Lo pc ls (.int y :: .int x :: st) H r := by
  by_cases q : x = y
  · exact Go.icmpT hd hj (XT.ii_eq_t q) (hT q)
  · exact Go.icmpF hd (XT.ii_eq_f q) (hF q)
theorem Go.if_eq {x : Int32} {o : Int} (hd : Dec M pc (.ifCond .eq o) 3 pc') (hj : Jmp pc o pt) (hT : x = 0 → Go K M F Lo pt ls st H r) (hF : ¬ x = 0 → Go K M F Lo pc' ls st H r) : Go K M F Lo pc ls (.int x :: st) H r := by
  by_cases q : x = 0
  · exact Go.ifT hd hj (XT.i0_eq_t q) (hT q)
  · exact Go.ifF hd (XT.i0_eq_f q) (hF q)
theorem Go.lif_eq {x y : Int64} {o : Int} (hd : Dec M pc (.ifCond .eq o) 3 pc') (hj : Jmp pc o pt) (hT : x = y → Go K M F Lo pt ls st H r) (hF : ¬ x = y → Go K M F Lo pc' ls st H r) : Go K M F Lo pc ls (.int (XT.cmpL x y) :: st) H r := by
  by_cases q : x = y
  · exact Go.ifT hd hj (XT.ll_eq_t q) (hT q)
  · exact Go.ifF hd (XT.ll_eq_f q) (hF q)
theorem Go.icmp_ne {x y : Int32} {o : Int} (hd : Dec M pc (.if_icmp .ne o) 3 pc') (hj : Jmp pc o pt) (hT : ¬ x = y → Go K M F Lo pt ls st H r) (hF : x = y → Go K M F Lo pc' ls st H r) : Go K M F Lo pc ls (.int y :: .int x :: st) H r := by
  by_cases q : x = y
  · exact Go.icmpF hd (XT.ii_ne_f q) (hF q)
  · exact Go.icmpT hd hj (XT.ii_ne_t q) (hT q)
theorem Go.if_ne {x : Int32} {o : Int} (hd : Dec M pc (.ifCond .ne o) 3 pc') (hj : Jmp pc o pt) (hT : ¬ x = 0 → Go K M F Lo pt ls st H r) (hF : x = 0 → Go K M F Lo pc' ls st H r) : Go K M F Lo pc ls (.int x :: st) H r := by
  by_cases q : x = 0
  · exact Go.ifF hd (XT.i0_ne_f q) (hF q)
  · exact Go.ifT hd hj (XT.i0_ne_t q) (hT q)
theorem Go.lif_ne {x y : Int64} {o : Int} (hd : Dec M pc (.ifCond .ne o) 3 pc') (hj : Jmp pc o pt) (hT : ¬ x = y → Go K M F Lo pt ls st H r) (hF : x = y → Go K M F Lo pc' ls st H r) : Go K M F Lo pc ls (.int (XT.cmpL x y) :: st) H r := by
  by_cases q : x = y
  · exact Go.ifF hd (XT.ll_ne_f q) (hF q)
  · exact Go.ifT hd hj (XT.ll_ne_t q) (hT q)
theorem Go.ifnullT {o : Int} (hd : Dec M pc (.ifnull o) 3 pc') (hj : Jmp pc o pt) (h : Go K M F Lo pt ls st H r) : Go K M F Lo pc ls (.null :: st) H r :=
  h.pureS fun A hx hc k => XS.ifnullYes A hx rfl rfl (hd.at hc) rfl hj.1 hj.2 k
theorem Go.ifnullF {i : Nat} {o : Int} (hd : Dec M pc (.ifnull o) 3 pc') (h : Go K M F Lo pc' ls st H r) : Go K M F Lo pc ls (.ref i :: st) H r := by
  obtain ⟨hd, rfl⟩ := hd
  exact h.pureS fun A hx hc k => XS.ifnullNo A hx rfl (hc ▸ hd) rfl k
theorem Go.ifnonnullT {i : Nat} {o : Int} (hd : Dec M pc (.ifnonnull o) 3 pc') (hj : Jmp pc o pt) (h : Go K M F Lo pt ls st H r) : Go K M F Lo pc ls (.ref i :: st) H r :=
  h.pureS fun A hx hc k => XT.ifnonnullYes A hx rfl rfl (hd.at hc) rfl hj.1 hj.2 k
theorem Go.ifnonnullF {o : Int} (hd : Dec M pc (.ifnonnull o) 3 pc') (h : Go K M F Lo pc' ls st H r) : Go K M F Lo pc ls (.null :: st) H r := by
  obtain ⟨hd, rfl⟩ := hd
  exact h.pureS fun A hx hc k => XT.ifnonnullNo A hx rfl (hc ▸ hd) rfl k
theorem sv_inj (n0 : Nat) {x y : Value} : sv n0 x = sv n0 y ↔ x = y := by
  cases x <;> cases y <;> simp [sv]
theorem acmp_sv (n0 : Nat) (cd : ClassFile.ACond) (x y : Value) : XT.acmp cd (sv n0 x) (sv n0 y) = XT.acmp cd x y := by
  cases cd <;> simp [XT.acmp, sv_inj]
theorem Go.acmpT {cd : ClassFile.ACond} {x y : Value} {o : Int} (hd : Dec M pc (.if_acmp cd o) 3 pc') (hj : Jmp pc o pt) (h1 : x.isRef = true) (h2 : y.isRef = true) (hv : XT.acmp cd x y = true) (h : Go K M F Lo pt ls st H r) : Go K M F Lo pc ls (y :: x :: st) H r :=
  h.pureS fun A hx hc k => XT.acmpYes A hx rfl rfl (hd.at hc) rfl (by rw [sv_ref]; exact h1) (by rw [sv_ref]; exact h2) (by rw [acmp_sv]; exact hv) hj.1 hj.2 k
theorem Go.acmpF {cd : ClassFile.ACond} {x y : Value} {o : Int} (hd : Dec M pc (.if_acmp cd o) 3 pc') (h1 : x.isRef = true) (h2 : y.isRef = true) (hv : XT.acmp cd x y = false) (h : Go K M F Lo pc' ls st H r) : Go K M F Lo pc ls (y :: x :: st) H r := by
  obtain ⟨hd, rfl⟩ := hd
  exact h.pureS fun A hx hc k => XT.acmpNo A hx rfl (hc ▸ hd) rfl (by rw [sv_ref]; exact h1) (by rw [sv_ref]; exact h2) (by rw [acmp_sv]; exact hv) k
/-! ## 5. constants of the pool -/
theorem Go.ldc {idx : Nat} {v : Int32} (hd : Dec M pc (.ldc idx) 2 pc') (w : (Cond.constant M.1.cls idx v).before K.2.2.1 K.2.1 = true) (h : Go K M F Lo pc' ls (.int v :: st) H r) : Go K M F Lo pc ls st H r := by
  obtain ⟨hd, rfl⟩ := hd
  intro R cells slots p e s m args below meth c T locs a1 a2 a3 a4 b1 b2 b3 b4 b5 b6 b7 b8 X S N
  obtain ⟨s₂, L, q1, q⟩ := h R cells slots p e s m args below meth c T locs a1 a2 a3 a4 b1 b2 b3 b4 b5 b6 b7 b8 X S N
  exact ⟨s₂, L, X.ldcI b1 b7 (mvT b2 w) rfl (b3 ▸ hd) q1, q⟩
theorem Go.ldc2 {idx : Nat} {v : Int64} (hd : Dec M pc (.ldc2_w idx) 3 pc') (w : (Cond.constantLong M.1.cls idx v).before K.2.2.1 K.2.1 = true) (h : Go K M F Lo pc' ls (.long v :: st) H r) : Go K M F Lo pc ls st H r := by
  obtain ⟨hd, rfl⟩ := hd
  intro R cells slots p e s m args below meth c T locs a1 a2 a3 a4 b1 b2 b3 b4 b5 b6 b7 b8 X S N
  obtain ⟨s₂, L, q1, q⟩ := h R cells slots p e s m args below meth c T locs a1 a2 a3 a4 b1 b2 b3 b4 b5 b6 b7 b8 X S N
  exact ⟨s₂, L, X.ldc2J b1 b7 (mvT b2 w) rfl (b3 ▸ hd) q1, q⟩
/-! ## 6. fields -/
theorem Go.getfield {idx i : Nat} (j : Nat) {C n d : String} {fs : List (String × String × Value)} {v : Value} (hd : Dec M pc (.getfield idx) 3 pc') (w : (Cond.fieldLink M.1.cls idx C n d).before K.2.2.1 K.2.1 = true) (hH : H[i]? = some (.inl (C, fs))) (hf : fs[j]? = some (n, d, v))
    (h : Go K M F Lo pc' ls (v :: st) H r) : Go K M F Lo pc ls (.ref i :: st) H r := by
  obtain ⟨hd, rfl⟩ := hd
  intro R cells slots p e s m args below meth c T locs a1 a2 a3 a4 b1 b2 b3 b4 b5 b6 b7 b8 X S N
  have C0 := S.2 i _ hH
  have Fl := (C0.2.2 _ (List.mem_of_getElem? hf)).2.2
  obtain ⟨T', X', e', stp⟩ := getF X b1 b2 b7 (host := "") (Or.inl w) Via.refl rfl Fl (g := mkF m pc (LL K.2.2.2 ls) (SS K.2.2.2 (.ref i :: st))) rfl rfl (b3 ▸ hd)
  obtain ⟨s₂, L, q1, q⟩ := h R cells slots p e s m args below meth c T' locs a1 a2 a3 a4 b1 b2 b3 b4 b5 b6 b7 b8 X' (e' ▸ S) N
  exact ⟨s₂, L, stp _ q1, q⟩
def PutOk (ty : FieldType) (v : Value) : Prop := ∀ n0, narrow ty (sv n0 v) = sv n0 v ∧ fits ty (sv n0 v) = true
theorem names_set {fs : List (String × String × Value)} {j : Nat} {n d : String} {v w : Value} (hf : fs[j]? = some (n, d, w)) : (fs.set j (n, d, v)).map (fun f => f.1) = fs.map (fun f => f.1) := by
  apply List.ext_getElem?
  intro k
  rw [List.getElem?_map, List.getElem?_map]
  by_cases q : j = k
  · subst q
    rw [List.getElem?_set_self (List.getElem?_eq_some_iff.mp hf).1, hf]; rfl
  · rw [List.getElem?_set_ne q]
theorem fields_set {K : Ctx} {h h' : Heap} {a : Addr} {C n d : String} {fs : List (String × String × Value)} {j : Nat} {v old : Value} {ty : FieldType} (Ck : COk K.2.1 K.2.2.1 K.2.2.2 h a (.inl (C, fs))) (hf : fs[j]? = some (n, d, old)) (hty : parseFieldDescriptor d = some ty)
    (L : Laid K.2.1 K.2.2.1 C C n d) (W : Wr h h' a (Jvm.RoadKit.slotOf K.2.1 C n d) (sv K.2.2.2 v)) : COk K.2.1 K.2.2.1 K.2.2.2 h' a (.inl (C, fs.set j (n, d, v))) := by
  obtain ⟨E, nd, al⟩ := Ck
  refine ⟨E.wr W, by rw [names_set hf]; exact nd, fun f hm => ?_⟩
  obtain ⟨k, hk⟩ := List.mem_iff_getElem?.mp hm
  by_cases q : j = k
  · subst q
    rw [List.getElem?_set_self (List.getElem?_eq_some_iff.mp hf).1] at hk
    cases hk
    exact ⟨L, ⟨ty, hty⟩, (al _ (List.mem_of_getElem? hf)).2.2.same W⟩
  · rw [List.getElem?_set_ne q] at hk
    obtain ⟨l1, ⟨t1, p1⟩, f1⟩ := al f (List.mem_of_getElem? hk)
    refine ⟨l1, ⟨t1, p1⟩, f1.other W (Or.inr (slot_ne l1 L ?_ p1 hty))⟩
    intro e
    have h1 : (fs.map (fun f => f.1))[k]? = some f.1 := by rw [List.getElem?_map, hk]; rfl
    have h2 : (fs.map (fun f => f.1))[j]? = some f.1 := by rw [List.getElem?_map, hf, e]; rfl
    exact q ((List.getElem?_inj (List.getElem?_eq_some_iff.mp h2).1 nd).mp (h2.trans h1.symm))
theorem Go.putfield {idx i kk : Nat} (j : Nat) {C n d : String} {ty : FieldType} {fs : List (String × String × Value)} {v old : Value} {H1 : Hp} (hd : Dec M pc (.putfield idx) 3 pc') (w : (Cond.fieldLink M.1.cls idx C n d).before K.2.2.1 K.2.1 = true)
    (wl : (Cond.lays C C n d).before K.2.2.1 K.2.1 = true ∨ ((Cond.laysFinal C C n d).before K.2.2.1 K.2.1 = true ∧ M.1.cls = C ∧ M.1.name = "<init>")) (wi : (Cond.instantiable C kk).before K.2.2.1 K.2.1 = true) (hty : parseFieldDescriptor d = some ty) (hv : PutOk ty v)
    (hH : H[i]? = some (.inl (C, fs))) (hf : fs[j]? = some (n, d, old)) (hH1 : H.set i (.inl (C, fs.set j (n, d, v))) = H1) (h : Go K M F Lo pc' ls st H1 r) : Go K M F Lo pc ls (v :: .ref i :: st) H r := by
  obtain ⟨hd, rfl⟩ := hd
  intro R cells slots p e s m args below meth c T locs a1 a2 a3 a4 b1 b2 b3 b4 b5 b6 b7 b8 X S N
  subst hH1
  have C0 := S.2 i _ hH
  have Fl := (C0.2.2 _ (List.mem_of_getElem? hf)).2.2
  have L0 : Laid K.2.1 K.2.2.1 C C n d := wl.imp id (fun q => q.1)
  obtain ⟨T', h', X', e', W, stp⟩ := putF X b1 b2 b7 (host := "") (Or.inl w) Via.refl rfl Fl C0.1 (wl.imp id (fun q => ⟨q.1, q.2.1, b8.trans q.2.2⟩)) wi hty (hv K.2.2.2).1 (hv K.2.2.2).2 (g := mkF m pc (LL K.2.2.2 ls) (SS K.2.2.2 (v :: .ref i :: st))) rfl rfl (b3 ▸ hd)
  subst e'
  obtain ⟨s₂, L, q1, q⟩ := h R cells slots p e s m args below meth c T' _ a1 a2 a3 a4 b1 b2 b3 b4 b5 b6 b7 b8 X' (S.set W hH (fields_set C0 hf hty L0 W)) (Fr.snoc X' N (Nat.le_add_right _ _))
  exact ⟨s₂, L, stp _ q1, q⟩
/-! ## 7. new -/
theorem sv_dflt (n0 : Nat) (ty : FieldType) : sv n0 (defaultValue ty) = defaultValue ty := by cases ty <;> rfl
theorem Go.new {idx k i : Nat} {C : String} (fs : List (String × String × Value)) {rv : Option Value} {H' : Option Hp} {dct dst : Nat} (hd : Dec M pc (.new idx) 3 pc') (w1 : (Cond.classLink M.1.cls idx C).before K.2.2.1 K.2.1 = true) (w2 : (Cond.instantiable C k).before K.2.2.1 K.2.1 = true) (w3 : (Cond.initialized C).before K.2.2.1 K.2.1 = true)
    (hnd : (fs.map (fun f => f.1)).Nodup) (hfs : ∀ f ∈ fs, Laid K.2.1 K.2.2.1 C C f.1 f.2.1 ∧ ∃ ty, parseFieldDescriptor f.2.1 = some ty ∧ f.2.2 = defaultValue ty) (hi : H.length = i)
    (dc ds : Nat) (hdc : dc + 1 ≤ dct) (hds : ds + k ≤ dst) (h : Go K M F Lo pc' ls (.ref i :: st) (H ++ [.inl (C, fs)]) (rv, H', dc, ds)) : Go K M F Lo pc ls st H (rv, H', dct, dst) := by
  obtain ⟨hd, rfl⟩ := hd
  intro R cells slots p e s m args below meth c T locs a1 a2 a3 a4 b1 b2 b3 b4 b5 b6 b7 b8 X S N
  subst hi
  have a3' : cells + dct ≤ R.cells := a3
  have a4' : slots + dst ≤ R.slots := a4
  obtain ⟨vm', cC, kC, h1, h2, h3, h4, X', stp⟩ := X.newCold b1 b7 (mv b2 w1) (mv b2 w2) (mv b2 w3) (g := mkF m pc (LL K.2.2.2 ls) (SS K.2.2.2 st)) rfl (b3 ▸ hd) (by omega) (by omega)
  rw [b2.alike.findClass] at h1
  obtain ⟨kZ, z1, -⟩ := Vm.findClass_spec h1
  obtain ⟨k', z2, z3⟩ := b2.alike.2.2 _ _ z1
  cases h2.symm.trans z2
  have ei : kC.instanceTypes = kZ.instanceTypes := by rw [z3]
  have hN : (T.heap.push { cls := cC, slots := kC.instanceTypes.map defaultValue, vm := .none })[T.heap.size]? = some { cls := cC, slots := kC.instanceTypes.map defaultValue, vm := .none } := by simp
  have E : Ext T.heap (T.heap.push { cls := cC, slots := kC.instanceTypes.map defaultValue, vm := .none }) := ⟨by simp, fun a c h => by
    rw [Array.getElem?_push_lt (Array.getElem?_eq_some_iff.mp h).1]; exact (Array.getElem?_eq_getElem _).symm.trans h⟩
  have S' : Sim K (T.heap.push { cls := cC, slots := kC.instanceTypes.map defaultValue, vm := .none }) (H ++ [.inl (C, fs)]) := by
    refine S.push E (by simp) ?_
    rw [← S.1]
    refine ⟨⟨_, kZ, hN, h1, z1, rfl, fun _ => by simp [ei]⟩, hnd, fun f hf => ?_⟩
    obtain ⟨Lf, ty, ht, hv⟩ := hfs f hf
    refine ⟨Lf, ⟨ty, ht⟩, ?_⟩
    rw [hv, sv_dflt]
    obtain ⟨c1, k1, cf, kf, i, f', y1, y2, y3, y4, y5, y6, -⟩ := Lf.spec
    cases h1.symm.trans y1
    cases z1.symm.trans y2
    exact ⟨_, cf, kf, i, f', hN, y3, y4, by simp, rfl, y5, by simp [ei, y6, (State.fieldFound?_type y3 ht).2]⟩
  obtain ⟨s₂, L, q1, q2, q3, q4, q5, q6⟩ := h R (cells + 1) (slots + k) p e s m args below meth c _ locs a1 a2 (by show cells + 1 + dc ≤ _; omega) (by show slots + k + ds ≤ _; omega) b1 b2 b3 b4 b5 b6 b7 b8 X' S' N
  refine ⟨s₂, L, stp _ ?_, q2, q3, q4, q5, q6.1, q6.2.1, q6.2.2.mono (by show cells + 1 + dc ≤ cells + dct; omega) (by show slots + k + ds ≤ slots + dst; omega)⟩
  have e : SS K.2.2.2 (.ref H.length :: st) = .ref T.heap.size :: SS K.2.2.2 st := by rw [S.1]; rfl
  rw [e] at q1
  exact q1
theorem Go.newarray {aty : ArrayType} {t : FieldType} {n : Int32} {i : Nat} (cap : Nat) {vs : List Value} {rv : Option Value} {H' : Option Hp} {dct dst : Nat} (hd : Dec M pc (.newarray aty) 2 pc') (w : (Cond.arrayClass (newarray.typeOf aty)).before K.2.2.1 K.2.1 = true) (ht : newarray.typeOf aty = t)
    (hn : ¬ n < 0) (hcap : n.toNatClampNeg ≤ cap) (hb : cap * 8 ≤ 536870912) (hvs : List.replicate n.toNatClampNeg (defaultValue t) = vs) (hi : H.length = i)
    (dc ds : Nat) (hdc : dc + 1 ≤ dct) (hds : ds + cap ≤ dst) (h : Go K M F Lo pc' ls (.ref i :: st) (H ++ [.inr (t, vs)]) (rv, H', dc, ds)) : Go K M F Lo pc ls (.int n :: st) H (rv, H', dct, dst) := by
  obtain ⟨hd, rfl⟩ := hd
  intro R cells slots p e s m args below meth c T locs a1 a2 a3 a4 b1 b2 b3 b4 b5 b6 b7 b8 X S N
  subst hi ht hvs
  have a3' : cells + dct ≤ R.cells := a3
  have a4' : slots + dst ≤ R.slots := a4
  have hcb : componentBytes (newarray.typeOf aty) ≤ 8 := by cases aty <;> decide
  obtain ⟨cA, kA, comp, h1, h2, h3, X', stp⟩ := X.newarrayPrim b1 (mvA b2 w) (g := mkF m pc (LL K.2.2.2 ls) (SS K.2.2.2 (.int n :: st))) rfl (b3 ▸ hd) (n := n) (rest := SS K.2.2.2 st) rfl hn (Nat.le_trans (Nat.mul_le_mul hcap hcb) hb) (by omega) (by omega)
  rw [b2.alike.findClass] at h1
  obtain ⟨kZ, z1, -⟩ := Vm.findClass_spec h1
  obtain ⟨k', z2, z3⟩ := b2.alike.2.2 _ _ z1
  cases h2.symm.trans z2
  have hN : (T.heap.push { cls := cA, slots := Array.replicate n.toNatClampNeg (defaultValue (newarray.typeOf aty)), vm := .none })[T.heap.size]? = some { cls := cA, slots := Array.replicate n.toNatClampNeg (defaultValue (newarray.typeOf aty)), vm := .none } := by simp
  have E : Ext T.heap (T.heap.push { cls := cA, slots := Array.replicate n.toNatClampNeg (defaultValue (newarray.typeOf aty)), vm := .none }) := ⟨by simp, fun a c h => by
    rw [Array.getElem?_push_lt (Array.getElem?_eq_some_iff.mp h).1]; exact (Array.getElem?_eq_getElem _).symm.trans h⟩
  have S' : Sim K (T.heap.push { cls := cA, slots := Array.replicate n.toNatClampNeg (defaultValue (newarray.typeOf aty)), vm := .none }) (H ++ [.inr (newarray.typeOf aty, List.replicate n.toNatClampNeg (defaultValue (newarray.typeOf aty)))]) := by
    refine S.push E (by simp) ?_
    rw [← S.1]
    refine ⟨⟨_, kZ, hN, h1, z1, rfl, fun q => ?_⟩, _, ⟨hN, ⟨by simp, kZ, z1, comp, by rw [← h3, z3]⟩, by simp⟩, ?_⟩
    · have q2 : kZ.kind = .array comp (newarray.typeOf aty) := by rw [← h3, z3]
      rw [q2] at q; cases q
    · simp [sv_dflt]
  obtain ⟨s₂, L, q1, q2, q3, q4, q5, q6⟩ := h R (cells + 1) (slots + cap) p e s m args below meth c _ locs a1 a2 (by show cells + 1 + dc ≤ _; omega) (by show slots + cap + ds ≤ _; omega) b1 b2 b3 b4 b5 b6 b7 b8 (X'.more (Nat.le_refl _) (by omega)) S' N
  refine ⟨s₂, L, stp _ ?_, q2, q3, q4, q5, q6.1, q6.2.1, q6.2.2.mono (by show cells + 1 + dc ≤ cells + dct; omega) (by show slots + cap + ds ≤ slots + dst; omega)⟩
  have e : SS K.2.2.2 (.ref H.length :: st) = .ref T.heap.size :: SS K.2.2.2 st := by rw [S.1]; rfl
  rw [e] at q1
  exact q1
/-! ## 8. arrays -/
theorem Go.arraylength {i : Nat} {t : FieldType} {vs : List Value} {z : Int32} (hd : Dec M pc .arraylength 1 pc') (hH : H[i]? = some (.inr (t, vs))) (hz : vs.length.toInt32 = z) (h : Go K M F Lo pc' ls (.int z :: st) H r) : Go K M F Lo pc ls (.ref i :: st) H r := by
  obtain ⟨hd, rfl⟩ := hd
  intro R cells slots p e s m args below meth c T locs a1 a2 a3 a4 b1 b2 b3 b4 b5 b6 b7 b8 X S N
  obtain ⟨Ex, cl, Ar, hc⟩ := S.2 i _ hH
  obtain ⟨s₂, L, q1, q⟩ := h R cells slots p e s m args below meth c T locs a1 a2 a3 a4 b1 b2 b3 b4 b5 b6 b7 b8 X S N
  refine ⟨s₂, L, X.arraylength b1 Ar.1 (State.isArrayOf_alike b2.alike Ar.2.1) (g := mkF m pc (LL K.2.2.2 ls) (SS K.2.2.2 (.ref i :: st))) rfl (rest := SS K.2.2.2 st) rfl (b3 ▸ hd) _ ?_, q⟩
  have e : cl.slots.size.toInt32 = z := by rw [hc, ← hz]; simp
  rw [e]; exact q1
theorem in_of {cl : Cell} {n0 : Nat} {vs : List Value} {j : Int32} {v : Value} (hc : cl.slots = (vs.map (sv n0)).toArray) (hj : ¬ j < 0) (hv : vs[j.toNatClampNeg]? = some v) : ¬ (j < 0 ∨ cl.slots.size ≤ j.toNatClampNeg) ∧ cl.slots[j.toNatClampNeg]? = some (sv n0 v) := by
  have hl := (List.getElem?_eq_some_iff.mp hv).1
  refine ⟨?_, by rw [hc]; simp [hv]⟩
  rintro (q | q)
  · exact hj q
  · rw [hc] at q; simp at q; omega
theorem Go.iaload {i : Nat} {vs : List Value} {j : Int32} {v : Value} (hd : Dec M pc .iaload 1 pc') (hH : H[i]? = some (.inr (.int, vs))) (hj : ¬ j < 0) (hv : vs[j.toNatClampNeg]? = some v) (h : Go K M F Lo pc' ls (v :: st) H r) : Go K M F Lo pc ls (.int j :: .ref i :: st) H r := by
  obtain ⟨hd, rfl⟩ := hd
  intro R cells slots p e s m args below meth c T locs a1 a2 a3 a4 b1 b2 b3 b4 b5 b6 b7 b8 X S N
  obtain ⟨Ex, cl, Ar, hc⟩ := S.2 i _ hH
  obtain ⟨hin, hat⟩ := in_of hc hj hv
  obtain ⟨s₂, L, q1, q⟩ := h R cells slots p e s m args below meth c T locs a1 a2 a3 a4 b1 b2 b3 b4 b5 b6 b7 b8 X S N
  exact ⟨s₂, L, X.iaload b1 Ar.1 (State.isArrayOf_alike b2.alike Ar.2.1) Ar.2.2 hin hat (g := mkF m pc (LL K.2.2.2 ls) (SS K.2.2.2 (.int j :: .ref i :: st))) rfl (rest := SS K.2.2.2 st) rfl (b3 ▸ hd) _ q1, q⟩
theorem Go.laload {i : Nat} {vs : List Value} {j : Int32} {v : Value} (hd : Dec M pc .laload 1 pc') (hH : H[i]? = some (.inr (.long, vs))) (hj : ¬ j < 0) (hv : vs[j.toNatClampNeg]? = some v) (h : Go K M F Lo pc' ls (v :: st) H r) : Go K M F Lo pc ls (.int j :: .ref i :: st) H r := by
  obtain ⟨hd, rfl⟩ := hd
  intro R cells slots p e s m args below meth c T locs a1 a2 a3 a4 b1 b2 b3 b4 b5 b6 b7 b8 X S N
  obtain ⟨Ex, cl, Ar, hc⟩ := S.2 i _ hH
  obtain ⟨hin, hat⟩ := in_of hc hj hv
  obtain ⟨s₂, L, q1, q⟩ := h R cells slots p e s m args below meth c T locs a1 a2 a3 a4 b1 b2 b3 b4 b5 b6 b7 b8 X S N
  exact ⟨s₂, L, X.laload b1 Ar.1 (State.isArrayOf_alike b2.alike Ar.2.1) Ar.2.2 hin hat (g := mkF m pc (LL K.2.2.2 ls) (SS K.2.2.2 (.int j :: .ref i :: st))) rfl (rest := SS K.2.2.2 st) rfl (b3 ▸ hd) _ q1, q⟩
theorem Go.caload {i : Nat} {vs : List Value} {j : Int32} {v : Value} (hd : Dec M pc .caload 1 pc') (hH : H[i]? = some (.inr (.char, vs))) (hj : ¬ j < 0) (hv : vs[j.toNatClampNeg]? = some v) (h : Go K M F Lo pc' ls (v :: st) H r) : Go K M F Lo pc ls (.int j :: .ref i :: st) H r := by
  obtain ⟨hd, rfl⟩ := hd
  intro R cells slots p e s m args below meth c T locs a1 a2 a3 a4 b1 b2 b3 b4 b5 b6 b7 b8 X S N
  obtain ⟨Ex, cl, Ar, hc⟩ := S.2 i _ hH
  obtain ⟨hin, hat⟩ := in_of hc hj hv
  obtain ⟨s₂, L, q1, q⟩ := h R cells slots p e s m args below meth c T locs a1 a2 a3 a4 b1 b2 b3 b4 b5 b6 b7 b8 X S N
  exact ⟨s₂, L, X.caload b1 Ar.1 (State.isArrayOf_alike b2.alike Ar.2.1) Ar.2.2 hin hat (g := mkF m pc (LL K.2.2.2 ls) (SS K.2.2.2 (.int j :: .ref i :: st))) rfl (rest := SS K.2.2.2 st) rfl (b3 ▸ hd) _ q1, q⟩
theorem Go.baload {i : Nat} {vs : List Value} {j : Int32} {v : Value} (hd : Dec M pc .baload 1 pc') (hH : H[i]? = some (.inr (.byte, vs))) (hj : ¬ j < 0) (hv : vs[j.toNatClampNeg]? = some v) (h : Go K M F Lo pc' ls (v :: st) H r) : Go K M F Lo pc ls (.int j :: .ref i :: st) H r := by
  obtain ⟨hd, rfl⟩ := hd
  intro R cells slots p e s m args below meth c T locs a1 a2 a3 a4 b1 b2 b3 b4 b5 b6 b7 b8 X S N
  obtain ⟨Ex, cl, Ar, hc⟩ := S.2 i _ hH
  obtain ⟨hin, hat⟩ := in_of hc hj hv
  obtain ⟨s₂, L, q1, q⟩ := h R cells slots p e s m args below meth c T locs a1 a2 a3 a4 b1 b2 b3 b4 b5 b6 b7 b8 X S N
  exact ⟨s₂, L, X.baloadBytes b1 Ar.1 (State.isArrayOf_alike b2.alike Ar.2.1) Ar.2.2 hin hat (g := mkF m pc (LL K.2.2.2 ls) (SS K.2.2.2 (.int j :: .ref i :: st))) rfl (rest := SS K.2.2.2 st) rfl (b3 ▸ hd) _ q1, q⟩
theorem arr_set {K : Ctx} {h h' : Heap} {a : Addr} {cl : Cell} {t : FieldType} {vs : List Value} {k : Nat} {v : Value} (Ex : Exa K.2.1 h a ("[" ++ t.toString)) (Ar : Arr K.2.1 h a cl t) (hc : cl.slots = (vs.map (sv K.2.2.2)).toArray) (W : Wr h h' a k (sv K.2.2.2 v)) : COk K.2.1 K.2.2.1 K.2.2.2 h' a (.inr (t, vs.set k v)) :=
  ⟨Ex.wr W, _, Ar.same W, by simp [Cell.setSlot, hc, List.map_set]⟩
theorem Go.iastore {i : Nat} {vs : List Value} {j : Int32} {x : Int32} {H1 : Hp} (hd : Dec M pc .iastore 1 pc') (hH : H[i]? = some (.inr (.int, vs))) (hj : ¬ j < 0) (hl : j.toNatClampNeg < vs.length) (hH1 : H.set i (.inr (.int, vs.set j.toNatClampNeg (.int x))) = H1) (h : Go K M F Lo pc' ls st H1 r) : Go K M F Lo pc ls (.int x :: .int j :: .ref i :: st) H r := by
  obtain ⟨hd, rfl⟩ := hd
  intro R cells slots p e s m args below meth c T locs a1 a2 a3 a4 b1 b2 b3 b4 b5 b6 b7 b8 X S N
  subst hH1
  obtain ⟨Ex, cl, Ar, hc⟩ := S.2 i _ hH
  have hin : ¬ (j < 0 ∨ cl.slots.size ≤ j.toNatClampNeg) := by
    rintro (q | q)
    · exact hj q
    · rw [hc] at q; simp at q; omega
  obtain ⟨T', h', X', e', W, stp⟩ := stI X b1 b2 rfl Ar hin (g := mkF m pc (LL K.2.2.2 ls) (SS K.2.2.2 (.int x :: .int j :: .ref i :: st))) rfl (rest := SS K.2.2.2 st) rfl (b3 ▸ hd)
  subst e'
  obtain ⟨s₂, L, q1, q⟩ := h R cells slots p e s m args below meth c T' _ a1 a2 a3 a4 b1 b2 b3 b4 b5 b6 b7 b8 X' (S.set W hH (arr_set (v := .int x) Ex Ar hc W)) (Fr.snoc X' N (Nat.le_add_right _ _))
  exact ⟨s₂, L, stp _ q1, q⟩
theorem Go.lastore {i : Nat} {vs : List Value} {j : Int32} {x : Int64} {H1 : Hp} (hd : Dec M pc .lastore 1 pc') (hH : H[i]? = some (.inr (.long, vs))) (hj : ¬ j < 0) (hl : j.toNatClampNeg < vs.length) (hH1 : H.set i (.inr (.long, vs.set j.toNatClampNeg (.long x))) = H1) (h : Go K M F Lo pc' ls st H1 r) : Go K M F Lo pc ls (.long x :: .int j :: .ref i :: st) H r := by
  obtain ⟨hd, rfl⟩ := hd
  intro R cells slots p e s m args below meth c T locs a1 a2 a3 a4 b1 b2 b3 b4 b5 b6 b7 b8 X S N
  subst hH1
  obtain ⟨Ex, cl, Ar, hc⟩ := S.2 i _ hH
  have hin : ¬ (j < 0 ∨ cl.slots.size ≤ j.toNatClampNeg) := by
    rintro (q | q)
    · exact hj q
    · rw [hc] at q; simp at q; omega
  obtain ⟨T', h', X', e', W, stp⟩ := stJ X b1 b2 rfl Ar hin (g := mkF m pc (LL K.2.2.2 ls) (SS K.2.2.2 (.long x :: .int j :: .ref i :: st))) rfl (rest := SS K.2.2.2 st) rfl (b3 ▸ hd)
  subst e'
  obtain ⟨s₂, L, q1, q⟩ := h R cells slots p e s m args below meth c T' _ a1 a2 a3 a4 b1 b2 b3 b4 b5 b6 b7 b8 X' (S.set W hH (arr_set (v := .long x) Ex Ar hc W)) (Fr.snoc X' N (Nat.le_add_right _ _))
  exact ⟨s₂, L, stp _ q1, q⟩
theorem Go.castore {i : Nat} {vs : List Value} {j : Int32} {x : Int32} {H1 : Hp} (hd : Dec M pc .castore 1 pc') (hH : H[i]? = some (.inr (.char, vs))) (hj : ¬ j < 0) (hl : j.toNatClampNeg < vs.length) (hH1 : H.set i (.inr (.char, vs.set j.toNatClampNeg (.int (nar .char x)))) = H1) (h : Go K M F Lo pc' ls st H1 r) : Go K M F Lo pc ls (.int x :: .int j :: .ref i :: st) H r := by
  obtain ⟨hd, rfl⟩ := hd
  intro R cells slots p e s m args below meth c T locs a1 a2 a3 a4 b1 b2 b3 b4 b5 b6 b7 b8 X S N
  subst hH1
  obtain ⟨Ex, cl, Ar, hc⟩ := S.2 i _ hH
  have hin : ¬ (j < 0 ∨ cl.slots.size ≤ j.toNatClampNeg) := by
    rintro (q | q)
    · exact hj q
    · rw [hc] at q; simp at q; omega
  obtain ⟨T', h', X', e', W, stp⟩ := stC X b1 b2 rfl Ar hin (g := mkF m pc (LL K.2.2.2 ls) (SS K.2.2.2 (.int x :: .int j :: .ref i :: st))) rfl (rest := SS K.2.2.2 st) rfl (b3 ▸ hd)
  subst e'
  obtain ⟨s₂, L, q1, q⟩ := h R cells slots p e s m args below meth c T' _ a1 a2 a3 a4 b1 b2 b3 b4 b5 b6 b7 b8 X' (S.set W hH (arr_set (v := .int (nar .char x)) Ex Ar hc W)) (Fr.snoc X' N (Nat.le_add_right _ _))
  exact ⟨s₂, L, stp _ q1, q⟩
theorem Go.bastore {i : Nat} {vs : List Value} {j : Int32} {x : Int32} {H1 : Hp} (hd : Dec M pc .bastore 1 pc') (hH : H[i]? = some (.inr (.byte, vs))) (hj : ¬ j < 0) (hl : j.toNatClampNeg < vs.length) (hH1 : H.set i (.inr (.byte, vs.set j.toNatClampNeg (.int (nar .byte x)))) = H1) (h : Go K M F Lo pc' ls st H1 r) : Go K M F Lo pc ls (.int x :: .int j :: .ref i :: st) H r := by
  obtain ⟨hd, rfl⟩ := hd
  intro R cells slots p e s m args below meth c T locs a1 a2 a3 a4 b1 b2 b3 b4 b5 b6 b7 b8 X S N
  subst hH1
  obtain ⟨Ex, cl, Ar, hc⟩ := S.2 i _ hH
  have hin : ¬ (j < 0 ∨ cl.slots.size ≤ j.toNatClampNeg) := by
    rintro (q | q)
    · exact hj q
    · rw [hc] at q; simp at q; omega
  obtain ⟨T', h', X', e', W, stp⟩ := stB X b1 b2 rfl Ar hin (g := mkF m pc (LL K.2.2.2 ls) (SS K.2.2.2 (.int x :: .int j :: .ref i :: st))) rfl (rest := SS K.2.2.2 st) rfl (b3 ▸ hd)
  subst e'
  obtain ⟨s₂, L, q1, q⟩ := h R cells slots p e s m args below meth c T' _ a1 a2 a3 a4 b1 b2 b3 b4 b5 b6 b7 b8 X' (S.set W hH (arr_set (v := .int (nar .byte x)) Ex Ar hc W)) (Fr.snoc X' N (Nat.le_add_right _ _))
  exact ⟨s₂, L, stp _ q1, q⟩
/-! ## 9. returns -/
theorem Go.retW {i : Instr} {v : Value} {t : FieldType} {dc ds : Nat} {H' : Option Hp} (hH : HOk H H') (hd : Dec M pc i 1 pc') (ht : M.2.2.2 = some t) (hn : ∀ n0, narrow t (sv n0 v) = sv n0 v)
    (hi : ∀ n0, (i = .ireturn ∧ (t = .int ∨ t = .boolean ∨ t = .byte ∨ t = .char ∨ t = .short) ∧ ∃ z, sv n0 v = .int z) ∨ (i = .lreturn ∧ t = .long ∧ ∃ z, sv n0 v = .long z) ∨ (i = .dreturn ∧ t = .double ∧ ∃ z, sv n0 v = .double z) ∨ (i = .freturn ∧ t = .float ∧ ∃ z, sv n0 v = .float z) ∨ (i = .areturn ∧ t.isReference = true ∧ (sv n0 v).isRef = true)) : Go K M F Lo pc ls (v :: st) H (some v, H', dc, ds) := by
  intro R cells slots p e s m args below meth c T locs a1 a2 a3 a4 b1 b2 b3 b4 b5 b6 b7 b8 X S N
  obtain ⟨fs, hr, hrun, hended, hW, hsame⟩ := X.leave (v := some (sv K.2.2.2 v)) (fun q => by rw [b5, ht] at q; cases q) b6
  exact ⟨_, locs, retOut X b1 (b5.trans ht) (hn _) (hi _) (b3 ▸ hd.1) hr, hrun, hended, hH.fin S, N, ⟨_, rfl⟩, hW, hsame.mono (Nat.le_add_right _ _) (Nat.le_add_right _ _)⟩
theorem Go.ireturn {v : Int32} {dc ds : Nat} {rv : Option Value} {H' : Option Hp} (hd : Dec M pc .ireturn 1 pc') (ht : M.2.2.2 = some .int) (hv : rv = some (.int v)) (hH : HOk H H') : Go K M F Lo pc ls (.int v :: st) H (rv, H', dc, ds) := by
  subst hv
  exact Go.retW hH hd ht (fun _ => rfl) (fun _ => Or.inl ⟨rfl, Or.inl rfl, _, rfl⟩)
theorem Go.ireturnZ {v : Int32} {dc ds : Nat} {rv : Option Value} {H' : Option Hp} (hd : Dec M pc .ireturn 1 pc') (ht : M.2.2.2 = some .boolean) (h01 : v = 0 ∨ v = 1) (hv : rv = some (.int v)) (hH : HOk H H') : Go K M F Lo pc ls (.int v :: st) H (rv, H', dc, ds) := by
  subst hv
  exact Go.retW hH hd ht (fun _ => by rcases h01 with rfl | rfl <;> rfl) (fun _ => Or.inl ⟨rfl, Or.inr (Or.inl rfl), _, rfl⟩)
theorem Go.lreturn {v : Int64} {dc ds : Nat} {rv : Option Value} {H' : Option Hp} (hd : Dec M pc .lreturn 1 pc') (ht : M.2.2.2 = some .long) (hv : rv = some (.long v)) (hH : HOk H H') : Go K M F Lo pc ls (.long v :: st) H (rv, H', dc, ds) := by
  subst hv
  exact Go.retW hH hd ht (fun _ => rfl) (fun _ => Or.inr (Or.inl ⟨rfl, rfl, _, rfl⟩))
theorem Go.areturn {v : Value} {t : FieldType} {dc ds : Nat} {rv : Option Value} {H' : Option Hp} (hd : Dec M pc .areturn 1 pc') (ht : M.2.2.2 = some t) (htr : t.isReference = true) (hr : v.isRef = true) (hv : rv = some v) (hH : HOk H H') : Go K M F Lo pc ls (v :: st) H (rv, H', dc, ds) := by
  subst hv
  refine Go.retW hH hd ht (fun _ => ?_) (fun _ => Or.inr (Or.inr (Or.inr (Or.inr ⟨rfl, htr, by rw [sv_ref]; exact hr⟩))))
  rcases ref_cases hr with rfl | ⟨a, rfl⟩ <;> cases t <;> first | rfl | (simp [FieldType.isReference] at htr)
theorem Go.ret {dc ds : Nat} {rv : Option Value} {H' : Option Hp} (hd : Dec M pc .return_ 1 pc') (ht : M.2.2.2 = none) (hv : rv = none) (hH : HOk H H') : Go K M F Lo pc ls [] H (rv, H', dc, ds) := by
  subst hv
  intro R cells slots p e s m args below meth c T locs a1 a2 a3 a4 b1 b2 b3 b4 b5 b6 b7 b8 X S N
  obtain ⟨fs, hr, hrun, hended, hW, hsame⟩ := X.leave (v := none) (fun _ => rfl) b6
  exact ⟨_, locs, X.returnOut b1 (b5.trans ht) (b3 ▸ hd.1) hr, hrun, hended, hH.fin S, N, ⟨_, rfl⟩, hW, hsame.mono (Nat.le_add_right _ _) (Nat.le_add_right _ _)⟩
/-! ## 10. a whole invocation; calls -/
def ent (as : List Value) (mx : Nat) : List Slot := Jvm.Sym.laidSlots as ++ List.replicate (mx - (Jvm.Sym.laidSlots as).length) .unset
theorem laid_map (n0 : Nat) (as : List Value) : Jvm.Sym.laidSlots (as.map (sv n0)) = (Jvm.Sym.laidSlots as).map (ss n0) := by
  induction as with
  | nil => rfl
  | cons v r ih =>
    simp only [List.map_cons, Jvm.Sym.laidSlots, sv_cat, ih]
    split <;> rfl
theorem ent_map (n0 : Nat) (as : List Value) (mx : Nat) : Jvm.Sym.laidSlots (as.map (sv n0)) ++ List.replicate (mx - (Jvm.Sym.laidSlots (as.map (sv n0))).length) .unset = (LL n0 (ent as mx)).toList := by
  rw [laid_map, List.length_map, LL, ent, List.map_append, List.map_replicate]
  rfl
theorem Go.met {as : List Value} {ws : List Jvm.Cond} {rm : Room} {h : Heap} {rv : Option Value} {H' : Option Hp} (hpn : plainFor M.1 = true) (S : Sim K h H) (hls : ent as M.2.2.1 = ls) (g : Go K M rm.frames rm.locals 0 ls [] H (rv, H', rm.cells, rm.slots)) :
    MetFree K.1 M.1 (head1 (Jvm.Cond.code M.1 M.2.1 M.2.2.1 M.2.2.2 :: ws) rm) (fun a U => a = (SS K.2.2.2 as).toArray ∧ K.2.1.Warmed39 U.vm ∧ U.heap = h) (fun _ _ _ _ _ => True)
      (fun _ U o U' => ∃ v L, o = .returned v ∧ (v = rv.map (sv K.2.2.2) ∧ FinH K U'.heap H' ∧ Fr K.2.2.2 L) ∧ FrameEnd U o U' L rm.cells rm.slots) := by
  refine MetFree.of_bodySF hpn hisR ?_
  intro p e s m args below meth c s₁ Bd hml0 hP hK
  obtain ⟨rfl, hZ, hh⟩ := hP
  subst hls
  have X0 : Stand p K.1 e rm s m (SS K.2.2.2 as).toArray below meth c s₁ [] 0 0 := Stand.of_body Bd
  have e0 : s₁.heap = h := by rw [← hh, Bd.state]; rfl
  obtain ⟨s₂, L, q1, q2, q3, q4, q5, q6⟩ := g rm 0 0 p e s m _ below meth c s₁ [] (Nat.le_refl _) (Nat.le_refl _) (Nat.le_of_eq (Nat.zero_add _)) (Nat.le_of_eq (Nat.zero_add _)) Bd.exec hZ Bd.bytes hml0 Bd.returns Bd.notSynchronized (findClass_of_methodNamed Bd.named) (name_of_methodNamed Bd.named Bd.method).1 X0 (by rw [e0]; exact S) (Fr.nil _)
  refine ⟨s₂, _, (XT.entry (Ls := LL K.2.2.2 (ent as M.2.2.1)) (by simpa using ent_map K.2.2.2 as M.2.2.1)).trans q1, q2, q3, _, L, rfl, ⟨rfl, q4, q5⟩, ?_⟩
  have e1 : (0 : Nat) + rm.cells = rm.cells := Nat.zero_add _
  have e2 : (0 : Nat) + rm.slots = rm.slots := Nat.zero_add _
  simp only [e1, e2] at q6
  exact q6
def MInfo (M : Mt) (na : Nat) : Prop := plainFor M.1 = true ∧ (M.1.cls ≠ "java/lang/invoke/MethodHandle" ∧ M.1.cls ≠ "java/lang/invoke/VarHandle") ∧ (parseMethodDescriptor M.1.desc).map (fun q => q.parameters.length) = some na
instance (M : Mt) (na : Nat) : Decidable (MInfo M na) := inferInstanceAs (Decidable (_ ∧ _ ∧ _))
theorem MInfo.len {M : Mt} {na : Nat} (mi : MInfo M na) {n0 : Nat} {as : List Value} (h : as.length = na) : ∀ sig, parseMethodDescriptor M.1.desc = some sig → (SS n0 as).length = sig.parameters.length := fun sig hs => by
  have q := mi.2.2
  rw [hs] at q
  rw [List.length_map, h]
  exact (Option.some.inj q).symm
theorem Go.back {M' : Mt} {F' Lo' W dc1 ds1 : Nat} {as : List Value} {ls1 : List Slot} {h : Heap} {rv1 : Option Value} {H1 : Hp} {R : Room} {p : Program} {e : Env} {below : List Frame} {s : State} {sargs : Array Value} (g : Go K M' F' Lo' 0 ls1 [] H (rv1, some H1, dc1, ds1)) (hls : ent as M'.2.2.1 = ls1) (hpn : plainFor M'.1 = true) (S : Sim K h H)
    (hZ : K.2.1.Warmed39 s.vm) (wc : (Jvm.Cond.code M'.1 M'.2.1 M'.2.2.1 M'.2.2.2).before K.2.2.1 K.2.1 = true) (wz : (Jvm.Cond.initialized M'.1.cls).before K.2.2.1 K.2.1 = true) (hf : F' + 1 ≤ R.frames) (hl : W + (M'.2.2.1 + 11) + Lo' ≤ R.locals) :
    Back K.1 R p e below s sargs M'.1 3 W (fun A a => a = (SS K.2.2.2 as).toArray ∧ A.U.heap = h ∧ A.cells + dc1 ≤ R.cells ∧ A.slots + ds1 ≤ R.slots)
      (fun A _ v B => ∃ L, (v = rv1.map (sv K.2.2.2) ∧ FinH K B.U.heap (some H1) ∧ Fr K.2.2.2 L) ∧ B.locs = A.locs ++ L ∧ B.cells = A.cells + dc1 ∧ B.slots = A.slots + ds1) :=
  backOf (rm := ({ frames := F', cells := dc1, slots := ds1, locals := Lo' } : Room)) (Q := fun v hp L => v = rv1.map (sv K.2.2.2) ∧ FinH K hp (some H1) ∧ Fr K.2.2.2 L) (Go.met (ws := []) hpn S hls g) hZ wc wz hf hl
theorem SS_app (n0 : Nat) (as st : List Value) : SS n0 (as.reverse ++ st) = (SS n0 as).reverse ++ SS n0 st := by simp [SS]
theorem SS_ret (n0 : Nat) (rv : Option Value) (st : List Value) : (rv.map (sv n0)).toList ++ SS n0 st = SS n0 (rv.toList ++ st) := by cases rv <;> rfl
theorem Go.callS {idx na W F' Lo' dc1 ds1 dct dst : Nat} {M' : Mt} {as : List Value} {ls1 : List Slot} {st0 : List Value} {rv1 rv : Option Value} {H1 : Hp} {H' : Option Hp} (hd : Dec M pc (.invokestatic idx) 3 pc') (w1 : (Jvm.Cond.methodLink M.1.cls idx M'.1).before K.2.2.1 K.2.1 = true) (w2 : (Jvm.Cond.static M'.1).before K.2.2.1 K.2.1 = true) (w3 : (Jvm.Cond.initialized M'.1.cls).before K.2.2.1 K.2.1 = true) (w4 : (Jvm.Cond.code M'.1 M'.2.1 M'.2.2.1 M'.2.2.2).before K.2.2.1 K.2.1 = true)
    (mi : MInfo M' na) (has : as.length = na) (hsz : ls.length = M.2.2.1) (hst : as.reverse ++ st = st0) (hls : ent as M'.2.2.1 = ls1) (hW : (st.map fun v => v.category).sum = W) (hF : F' + 1 ≤ F) (hLo : W + (M'.2.2.1 + 11) + Lo' ≤ Lo) (g : Go K M' F' Lo' 0 ls1 [] H (rv1, some H1, dc1, ds1))
    (dc ds : Nat) (hdc : dc + dc1 ≤ dct) (hds : ds + ds1 ≤ dst) (h : Go K M F Lo pc' ls (rv1.toList ++ st) H1 (rv, H', dc, ds)) : Go K M F Lo pc ls st0 H (rv, H', dct, dst) := by
  obtain ⟨hd, rfl⟩ := hd
  intro R cells slots p e s m args below meth c T locs a1 a2 a3 a4 b1 b2 b3 b4 b5 b6 b7 b8 X S N
  subst hst
  have a3' : cells + dct ≤ R.cells := a3
  have a4' : slots + dst ≤ R.slots := a4
  obtain ⟨v, vm₁, ⟨T', L1, k1, n1⟩, -, X', ⟨Lc, ⟨hv, S', N'⟩, l1, l2, l3⟩, stp⟩ := Jvm.LawKit.callS X b1 (y := M'.1) b7 (mvT b2 w1) (mvT b2 w2) (mvT b2 w3) (mvT b2 w4) mi.2.1 (g.back (W := W) hls mi.1 S b2 w4 w3 (Nat.le_trans hF a1) (Nat.le_trans hLo a2)) (g := mkF m pc (LL K.2.2.2 ls) (SS K.2.2.2 (as.reverse ++ st))) rfl (by rw [b4, ← hsz]; exact LL_size _ _) (argsL := SS K.2.2.2 as) (rest := SS K.2.2.2 st) (mi.len has) (SS_app _ _ _) (by show 2 * 0 + _ ≤ W; rw [cats, hW]; omega) (b3 ▸ hd) (fun _ _ => ⟨rfl, rfl, by show cells + dc1 ≤ _; omega, by show slots + ds1 ≤ _; omega⟩)
  dsimp only [Pt.U, Pt.locs, Pt.cells, Pt.slots] at X' l1 l2 l3 stp S' hv
  subst l1 l2 l3 hv
  obtain ⟨s₂, L, q1, q2, q3, q4, q5, q6⟩ := h R (cells + dc1) (slots + ds1) p e s m args below meth c T' _ a1 a2 (by show cells + dc1 + dc ≤ _; omega) (by show slots + ds1 + ds ≤ _; omega) b1 b2 b3 b4 b5 b6 b7 b8 X' (S' _ rfl) (N.app N')
  refine ⟨s₂, L, stp _ ?_, q2, q3, q4, q5, q6.1, q6.2.1, q6.2.2.mono (by show cells + dc1 + dc ≤ cells + dct; omega) (by show slots + ds1 + ds ≤ slots + dst; omega)⟩
  rw [← SS_ret] at q1
  exact q1
theorem Go.callI {idx na W F' Lo' dc1 ds1 dct dst i : Nat} {M' : Mt} {as : List Value} {ls1 : List Slot} {st0 : List Value} {rv1 rv : Option Value} {H1 : Hp} {H' : Option Hp} (hd : Dec M pc (.invokespecial idx) 3 pc') (hnm : M'.1.name = "<init>") (hrn : M'.2.2.2 = none) (w1 : (Jvm.Cond.methodLink M.1.cls idx M'.1).before K.2.2.1 K.2.1 = true) (w2 : (Jvm.Cond.instanceMethod M'.1).before K.2.2.1 K.2.1 = true) (w3 : (Jvm.Cond.initialized M'.1.cls).before K.2.2.1 K.2.1 = true) (w4 : (Jvm.Cond.code M'.1 M'.2.1 M'.2.2.1 M'.2.2.2).before K.2.2.1 K.2.1 = true)
    (mi : MInfo M' na) (has : as.length = na) (hsz : ls.length = M.2.2.1) (hst : as.reverse ++ .ref i :: st = st0) (hls : ent (.ref i :: as) M'.2.2.1 = ls1) (hW : (st.map fun v => v.category).sum = W) (hF : F' + 1 ≤ F) (hLo : W + (M'.2.2.1 + 11) + Lo' ≤ Lo) (g : Go K M' F' Lo' 0 ls1 [] H (rv1, some H1, dc1, ds1))
    (dc ds : Nat) (hdc : dc + dc1 ≤ dct) (hds : ds + ds1 ≤ dst) (h : Go K M F Lo pc' ls (rv1.toList ++ st) H1 (rv, H', dc, ds)) : Go K M F Lo pc ls st0 H (rv, H', dct, dst) := by
  obtain ⟨hd, rfl⟩ := hd
  intro R cells slots p e s m args below meth c T locs a1 a2 a3 a4 b1 b2 b3 b4 b5 b6 b7 b8 X S N
  subst hst
  have a3' : cells + dct ≤ R.cells := a3
  have a4' : slots + dst ≤ R.slots := a4
  have hstk : SS K.2.2.2 (as.reverse ++ .ref i :: st) = (SS K.2.2.2 as).reverse ++ .ref (K.2.2.2 + i) :: SS K.2.2.2 st := SS_app _ _ _
  obtain ⟨v, vm₁, ⟨T', L1, k1, n1⟩, -, X', ⟨Lc, ⟨hv, S', N'⟩, l1, l2, l3⟩, stp⟩ := X.specialBack b1 (y := M'.1) hnm b7 (mvT b2 w1) (mvT b2 w2) (mvT b2 (hrn ▸ w4)) mi.2.1 (g.back (as := .ref i :: as) (W := W) hls mi.1 S b2 w4 w3 (Nat.le_trans hF a1) (Nat.le_trans hLo a2)) (g := mkF m pc (LL K.2.2.2 ls) (SS K.2.2.2 (as.reverse ++ .ref i :: st))) rfl (by rw [b4, ← hsz]; exact LL_size _ _) (Steps.refl _) (a := K.2.2.2 + i) (argsL := SS K.2.2.2 as) (rest := SS K.2.2.2 st) (mi.len has) hstk (by show 2 * 0 + _ ≤ W; rw [cats, hW]; omega) (b3 ▸ hd) (fun _ _ => ⟨rfl, rfl, by show cells + dc1 ≤ _; omega, by show slots + ds1 ≤ _; omega⟩)
  dsimp only [Pt.U, Pt.locs, Pt.cells, Pt.slots] at X' l1 l2 l3 stp S' hv
  subst l1 l2 l3 hv
  obtain ⟨s₂, L, q1, q2, q3, q4, q5, q6⟩ := h R (cells + dc1) (slots + ds1) p e s m args below meth c T' _ a1 a2 (by show cells + dc1 + dc ≤ _; omega) (by show slots + ds1 + ds ≤ _; omega) b1 b2 b3 b4 b5 b6 b7 b8 X' (S' _ rfl) (N.app N')
  refine ⟨s₂, L, stp.trans ?_, q2, q3, q4, q5, q6.1, q6.2.1, q6.2.2.mono (by show cells + dc1 + dc ≤ cells + dct; omega) (by show slots + ds1 + ds ≤ slots + dst; omega)⟩
  rw [← SS_ret] at q1
  exact q1
theorem Go.callV {idx na W F' Lo' dc1 ds1 dct dst i : Nat} {M' : Mt} {as : List Value} {ls1 : List Slot} {st0 : List Value} {rv1 rv : Option Value} {H1 : Hp} {H' : Option Hp} {fs : List (String × String × Value)} (hd : Dec M pc (.invokevirtual idx) 3 pc') (hH : H[i]? = some (.inl (M'.1.cls, fs))) (w1 : (Jvm.Cond.methodLink M.1.cls idx M'.1).before K.2.2.1 K.2.1 = true) (w2 : (Jvm.Cond.instanceMethod M'.1).before K.2.2.1 K.2.1 = true) (w3 : (Jvm.Cond.initialized M'.1.cls).before K.2.2.1 K.2.1 = true) (w5 : (Jvm.Cond.declares M'.1).before K.2.2.1 K.2.1 = true) (w6 : (Jvm.Cond.selects M'.1.cls M'.1 M'.1).before K.2.2.1 K.2.1 = true) (w4 : (Jvm.Cond.code M'.1 M'.2.1 M'.2.2.1 M'.2.2.2).before K.2.2.1 K.2.1 = true)
    (mi : MInfo M' na) (has : as.length = na) (hsz : ls.length = M.2.2.1) (hst : as.reverse ++ .ref i :: st = st0) (hls : ent (.ref i :: as) M'.2.2.1 = ls1) (hW : (st.map fun v => v.category).sum = W) (hF : F' + 1 ≤ F) (hLo : W + (M'.2.2.1 + 11) + Lo' ≤ Lo) (g : Go K M' F' Lo' 0 ls1 [] H (rv1, some H1, dc1, ds1))
    (dc ds : Nat) (hdc : dc + dc1 ≤ dct) (hds : ds + ds1 ≤ dst) (h : Go K M F Lo pc' ls (rv1.toList ++ st) H1 (rv, H', dc, ds)) : Go K M F Lo pc ls st0 H (rv, H', dct, dst) := by
  obtain ⟨hd, rfl⟩ := hd
  intro R cells slots p e s m args below meth c T locs a1 a2 a3 a4 b1 b2 b3 b4 b5 b6 b7 b8 X S N
  subst hst
  have a3' : cells + dct ≤ R.cells := a3
  have a4' : slots + dst ≤ R.slots := a4
  have hstk : SS K.2.2.2 (as.reverse ++ .ref i :: st) = (SS K.2.2.2 as).reverse ++ .ref (K.2.2.2 + i) :: SS K.2.2.2 st := SS_app _ _ _
  obtain ⟨cq, kq, qa, qb, qc⟩ := isOf b2 rfl (S.2 i _ hH).1
  obtain ⟨v, vm₁, ⟨T', L1, k1, n1⟩, -, X', ⟨Lc, ⟨hv, S', N'⟩, l1, l2, l3⟩, stp⟩ := X.virtualBack b1 (y := M'.1) (z := M'.1) b7 (mvT b2 w1) (mvT b2 w5) (notFace_of_selects (args := #[]) (mvT b2 w6)) (mvT b2 w6) (mvT b2 w2) mi.2.1 (g.back (as := .ref i :: as) (W := W) hls mi.1 S b2 w4 w3 (Nat.le_trans hF a1) (Nat.le_trans hLo a2)) qa qc (g := mkF m pc (LL K.2.2.2 ls) (SS K.2.2.2 (as.reverse ++ .ref i :: st))) rfl (by rw [b4, ← hsz]; exact LL_size _ _) (Steps.refl _) (argsL := SS K.2.2.2 as) (rest := SS K.2.2.2 st) (mi.len has) hstk (by show 2 * 0 + _ ≤ W; rw [cats, hW]; omega) (b3 ▸ hd) (fun _ _ => ⟨rfl, rfl, by show cells + dc1 ≤ _; omega, by show slots + ds1 ≤ _; omega⟩)
  dsimp only [Pt.U, Pt.locs, Pt.cells, Pt.slots] at X' l1 l2 l3 stp S' hv
  subst l1 l2 l3 hv
  obtain ⟨s₂, L, q1, q2, q3, q4, q5, q6⟩ := h R (cells + dc1) (slots + ds1) p e s m args below meth c T' _ a1 a2 (by show cells + dc1 + dc ≤ _; omega) (by show slots + ds1 + ds ≤ _; omega) b1 b2 b3 b4 b5 b6 b7 b8 X' (S' _ rfl) (N.app N')
  refine ⟨s₂, L, stp.trans ?_, q2, q3, q4, q5, q6.1, q6.2.1, q6.2.2.mono (by show cells + dc1 + dc ≤ cells + dct; omega) (by show slots + ds1 + ds ≤ slots + dst; omega)⟩
  rw [← SS_ret] at q1
  exact q1
theorem Go.callP {idx na W F' Lo' dc1 ds1 dct dst i : Nat} {M' : Mt} {as : List Value} {ls1 : List Slot} {st0 : List Value} {rv1 rv : Option Value} {H1 : Hp} {H' : Option Hp} {kk : Nat} {fs : List (String × String × Value)} (hd : Dec M pc (.invokevirtual idx) 3 pc') (hH : H[i]? = some (.inl (M'.1.cls, fs))) (w1 : (Jvm.Cond.methodLink M.1.cls idx M'.1).before K.2.2.1 K.2.1 = true) (w2 : (Jvm.Cond.instanceMethod M'.1).before K.2.2.1 K.2.1 = true) (w3 : (Jvm.Cond.initialized M'.1.cls).before K.2.2.1 K.2.1 = true) (w5 : (Jvm.Cond.privateMethod M'.1).before K.2.2.1 K.2.1 = true) (w6 : (Jvm.Cond.instantiable M'.1.cls kk).before K.2.2.1 K.2.1 = true) (w4 : (Jvm.Cond.code M'.1 M'.2.1 M'.2.2.1 M'.2.2.2).before K.2.2.1 K.2.1 = true)
    (mi : MInfo M' na) (has : as.length = na) (hsz : ls.length = M.2.2.1) (hst : as.reverse ++ .ref i :: st = st0) (hls : ent (.ref i :: as) M'.2.2.1 = ls1) (hW : (st.map fun v => v.category).sum = W) (hF : F' + 1 ≤ F) (hLo : W + (M'.2.2.1 + 11) + Lo' ≤ Lo) (g : Go K M' F' Lo' 0 ls1 [] H (rv1, some H1, dc1, ds1))
    (dc ds : Nat) (hdc : dc + dc1 ≤ dct) (hds : ds + ds1 ≤ dst) (h : Go K M F Lo pc' ls (rv1.toList ++ st) H1 (rv, H', dc, ds)) : Go K M F Lo pc ls st0 H (rv, H', dct, dst) := by
  obtain ⟨hd, rfl⟩ := hd
  intro R cells slots p e s m args below meth c T locs a1 a2 a3 a4 b1 b2 b3 b4 b5 b6 b7 b8 X S N
  subst hst
  have a3' : cells + dct ≤ R.cells := a3
  have a4' : slots + dst ≤ R.slots := a4
  have hstk : SS K.2.2.2 (as.reverse ++ .ref i :: st) = (SS K.2.2.2 as).reverse ++ .ref (K.2.2.2 + i) :: SS K.2.2.2 st := SS_app _ _ _
  obtain ⟨cq, qa, qb⟩ := (S.2 i _ hH).1.cell
  have hpr : s.PrivateAt M'.1 := Cond.privateMethod_at (mvP b2 w5 (args := #[]))
  have hsel : (Jvm.Cond.selects M'.1.cls M'.1 M'.1).before args s = true := by
    obtain ⟨c9, k9, z1, z2, z3, z4, -⟩ := Cond.instantiable_spec (mvT (args := args) b2 w6)
    refine selects_self_of_private z1 z2 ?_ hpr (mvT b2 w2) mi.2.1
    simp only [Bool.or_eq_false_iff] at z4
    exact z4.1
  obtain ⟨v, vm₁, ⟨T', L1, k1, n1⟩, -, X', ⟨Lc, ⟨hv, S', N'⟩, l1, l2, l3⟩, stp⟩ := X.privateBack b1 (y := M'.1) b7 (mvT b2 w1) (mvT b2 w2) hsel hpr (mvT b2 w4) mi.2.1 (g.back (as := .ref i :: as) (W := W) hls mi.1 S b2 w4 w3 (Nat.le_trans hF a1) (Nat.le_trans hLo a2)) (g := mkF m pc (LL K.2.2.2 ls) (SS K.2.2.2 (as.reverse ++ .ref i :: st))) rfl (by rw [b4, ← hsz]; exact LL_size _ _) (Steps.refl _) (a := K.2.2.2 + i) qa qb (argsL := SS K.2.2.2 as) (rest := SS K.2.2.2 st) (mi.len has) hstk (by show 2 * 0 + _ ≤ W; rw [cats, hW]; omega) (b3 ▸ hd) (fun _ _ => ⟨rfl, rfl, by show cells + dc1 ≤ _; omega, by show slots + ds1 ≤ _; omega⟩)
  dsimp only [Pt.U, Pt.locs, Pt.cells, Pt.slots] at X' l1 l2 l3 stp S' hv
  subst l1 l2 l3 hv
  obtain ⟨s₂, L, q1, q2, q3, q4, q5, q6⟩ := h R (cells + dc1) (slots + ds1) p e s m args below meth c T' _ a1 a2 (by show cells + dc1 + dc ≤ _; omega) (by show slots + ds1 + ds ≤ _; omega) b1 b2 b3 b4 b5 b6 b7 b8 X' (S' _ rfl) (N.app N')
  refine ⟨s₂, L, stp.trans ?_, q2, q3, q4, q5, q6.1, q6.2.1, q6.2.2.mono (by show cells + dc1 + dc ≤ cells + dct; omega) (by show slots + ds1 + ds ≤ slots + dst; omega)⟩
  rw [← SS_ret] at q1
  exact q1
theorem Go.initObj {idx i W : Nat} (hd : Dec M pc (.invokespecial idx) 3 pc') (w1 : (Jvm.Cond.methodLink M.1.cls idx Lib.objectInit).before K.2.2.1 K.2.1 = true) (w2 : (Jvm.Cond.instanceMethod Lib.objectInit).before K.2.2.1 K.2.1 = true) (w3 : (Jvm.Cond.code Lib.objectInit ⟨#[0xb1]⟩ 1 none).before K.2.2.1 K.2.1 = true)
    (hsz : ls.length = M.2.2.1) (hW : (st.map fun v => v.category).sum = W) (hF : 1 ≤ F) (hLo : W + 12 ≤ Lo) (h : Go K M F Lo pc' ls st H r) : Go K M F Lo pc ls (.ref i :: st) H r := by
  obtain ⟨hd, rfl⟩ := hd
  intro R cells slots p e s m args below meth c T locs a1 a2 a3 a4 b1 b2 b3 b4 b5 b6 b7 b8 X S N
  obtain ⟨T', X', e', stp⟩ := initO X b1 b2 b7 w1 w2 w3 rfl (g := mkF m pc (LL K.2.2.2 ls) (SS K.2.2.2 (.ref i :: st))) rfl (by rw [b4, ← hsz]; exact LL_size _ _) (rest := SS K.2.2.2 st) rfl (b3 ▸ hd) (Nat.le_trans hF a1) (W := W) (by show 2 * 0 + _ ≤ W; rw [cats, hW]; omega) (Nat.le_trans hLo a2)
  obtain ⟨s₂, L, q1, q⟩ := h R cells slots p e s m args below meth c T' locs a1 a2 a3 a4 b1 b2 b3 b4 b5 b6 b7 b8 X' (e' ▸ S) N
  exact ⟨s₂, L, stp _ q1, q⟩
theorem Go.cloneArr {idx i j W : Nat} {t : FieldType} {vs : List Value} {ad : String} (cap : Nat) {rv : Option Value} {H' : Option Hp} {dct dst : Nat} (hd : Dec M pc (.invokevirtual idx) 3 pc') (w1 : (Jvm.Cond.methodLink M.1.cls idx ⟨ad, "clone", "()Ljava/lang/Object;"⟩).before K.2.2.1 K.2.1 = true) (w2 : (Jvm.Cond.sameMethod ad "java/lang/Object" "clone" "()Ljava/lang/Object;").before K.2.2.1 K.2.1 = true) (w3 : (Jvm.Cond.native ⟨"java/lang/Object", "clone", "()Ljava/lang/Object;"⟩).before K.2.2.1 K.2.1 = true)
    (w4 : (Jvm.Cond.instanceMethod ⟨"java/lang/Object", "clone", "()Ljava/lang/Object;"⟩).before K.2.2.1 K.2.1 = true) (w5 : (Jvm.Cond.selects ad ⟨ad, "clone", "()Ljava/lang/Object;"⟩ ⟨"java/lang/Object", "clone", "()Ljava/lang/Object;"⟩).before K.2.2.1 K.2.1 = true) (w6 : (Jvm.Cond.castable ad "java/lang/Cloneable").before K.2.2.1 K.2.1 = true)
    (had : "[" ++ t.toString = ad) (hH : H[i]? = some (.inr (t, vs))) (hfit : ∀ v ∈ vs, ∀ n0, fits t (sv n0 v) = true) (hcap : vs.length ≤ cap) (hj : H.length = j) (hsz : ls.length = M.2.2.1) (hW : (st.map fun v => v.category).sum = W) (hF : 1 ≤ F) (hLo : W + 14 ≤ Lo)
    (dc ds : Nat) (hdc : dc + 1 ≤ dct) (hds : ds + cap ≤ dst) (h : Go K M F Lo pc' ls (.ref j :: st) (H ++ [.inr (t, vs)]) (rv, H', dc, ds)) : Go K M F Lo pc ls (.ref i :: st) H (rv, H', dct, dst) := by
  obtain ⟨hd, rfl⟩ := hd
  intro R cells slots p e s m args below meth c T locs a1 a2 a3 a4 b1 b2 b3 b4 b5 b6 b7 b8 X S N
  subst hj had
  have a3' : cells + dct ≤ R.cells := a3
  have a4' : slots + dst ≤ R.slots := a4
  obtain ⟨Ex, cl, Ar, hcl⟩ := S.2 i _ hH
  have hlen : cl.slots.size = vs.length := by rw [hcl]; simp
  have Fc : FitC K.2.1 cl := fitC_of Ar fun k hk v hv => by
    rw [hcl] at hv
    simp only [List.getElem?_toArray, List.getElem?_map] at hv
    cases hq : vs[k]? with
    | none => rw [hq] at hv; cases hv
    | some w => rw [hq] at hv; cases hv; exact hfit w (List.mem_of_getElem? hq) _
  obtain ⟨c2, k, e1, e2, e3, e4, e5⟩ := Ex
  cases Ar.1.symm.trans e1
  obtain ⟨c1, cC, g1, g2, g3⟩ := Cond.castable_spec w6
  cases e2.symm.trans g1
  have hal : K.2.1.vm.Alike T.vm := b2.alike.trans X.warmed.alike
  obtain ⟨vm', X', stp⟩ := X.cloneArray b1 b7 (mv b2 w1) (mv b2 w2) (mv b2 w3) (mv b2 w4) (mv b2 w5) (a := K.2.2.2 + i) Ar.1 Ar.2.1.1 Ar.2.2 (by rw [b2.alike.findClass]; exact e2) (by rw [b2.alike.findClass]; exact g2) (by rw [b2.alike.assignable]; exact g3)
    (fun i v hv => by have q := Fc i v hv; rw [← State.fitsSlot_setVm hal] at q; exact q) (g := mkF m pc (LL K.2.2.2 ls) (SS K.2.2.2 (.ref i :: st))) rfl (by rw [b4, ← hsz]; exact LL_size _ _) (rest := SS K.2.2.2 st) rfl (b3 ▸ hd) (Nat.le_trans hF a1) (by show 2 * 0 + _ + 14 ≤ _; rw [cats, hW]; omega) (by omega) (by omega)
    (by obtain ⟨-, k2, hk2, comp, hkind⟩ := Ar.2.1; rw [b2.alike.clonesLoader]; exact Vm.clonesLoader_of_array hk2 hkind)
  have hN : (T.heap.push (cloneOf cl))[T.heap.size]? = some (cloneOf cl) := by simp
  have S' : Sim K (T.heap.push (cloneOf cl)) (H ++ [.inr (t, vs)]) := by
    refine S.push (ext_of fun a q => Array.getElem?_push_lt q |>.trans (Array.getElem?_eq_getElem q).symm) (by simp) ?_
    rw [← S.1]
    exact ⟨⟨_, k, hN, e2, e3, rfl, e5⟩, _, ⟨hN, ⟨fun _ z => (by cases z), Ar.2.1.2⟩, fun z => (by cases z)⟩, hcl⟩
  obtain ⟨s₂, L, q1, q2, q3, q4, q5, q6⟩ := h R (cells + 1) (slots + cap) p e s m args below meth c _ locs a1 a2 (by show cells + 1 + dc ≤ _; omega) (by show slots + cap + ds ≤ _; omega) b1 b2 b3 b4 b5 b6 b7 b8 (X'.more (Nat.le_refl _) (by omega)) S' N
  refine ⟨s₂, L, stp _ ?_, q2, q3, q4, q5, q6.1, q6.2.1, q6.2.2.mono (by show cells + 1 + dc ≤ cells + dct; omega) (by show slots + cap + ds ≤ slots + dst; omega)⟩
  have e : SS K.2.2.2 (.ref H.length :: st) = .ref T.heap.size :: SS K.2.2.2 st := by rw [S.1]; rfl
  rw [e] at q1
  exact q1
theorem Go.checkcastArr {idx i : Nat} {t : FieldType} {vs : List Value} {C : String} (hd : Dec M pc (.checkcast idx) 3 pc') (w : (Jvm.Cond.classLink M.1.cls idx C).before K.2.2.1 K.2.1 = true) (hC : "[" ++ t.toString = C) (hH : H[i]? = some (.inr (t, vs))) (h : Go K M F Lo pc' ls (.ref i :: st) H r) : Go K M F Lo pc ls (.ref i :: st) H r := by
  obtain ⟨hd, rfl⟩ := hd
  intro R cells slots p e s m args below meth c T locs a1 a2 a3 a4 b1 b2 b3 b4 b5 b6 b7 b8 X S N
  subst hC
  obtain ⟨T', X', e', stp⟩ := castY X b1 b2 b7 w rfl (Ins.self (S.2 i _ hH).1) (g := mkF m pc (LL K.2.2.2 ls) (SS K.2.2.2 (.ref i :: st))) rfl (rest := SS K.2.2.2 st) rfl (b3 ▸ hd)
  obtain ⟨s₂, L, q1, q⟩ := h R cells slots p e s m args below meth c T' locs a1 a2 a3 a4 b1 b2 b3 b4 b5 b6 b7 b8 X' (e' ▸ S) N
  exact ⟨s₂, L, stp _ q1, q⟩
end G
end Jvm.OwnGo
namespace Jvm.Pilot.@@N@@
open Jvm Jvm.ClassFile Sem Op Lib Jvm.Free Jvm.Stand Jvm.LawKit Jvm.RoadKit Bundle Jvm.Pilot.@@N@@.Jvm.D Jvm.OwnGo
abbrev m0 : Mt := (x, code, maxLocals, ret)
theorem mi0 : MInfo m0 6 := by decide +kernel
theorem d0_0 : Dec m0 0 (.iload_n 0) 1 1 := by decide +kernel
theorem d0_1 : Dec m0 1 (.invokestatic 7) 3 4 := by decide +kernel
theorem d0_4 : Dec m0 4 (.istore 6) 2 6 := by decide +kernel
theorem d0_6 : Dec m0 6 (.iload_n 1) 1 7 := by decide +kernel
theorem d0_7 : Dec m0 7 (.invokestatic 7) 3 10 := by decide +kernel
theorem d0_10 : Dec m0 10 (.istore 7) 2 12 := by decide +kernel
theorem d0_12 : Dec m0 12 (.iload_n 2) 1 13 := by decide +kernel
theorem d0_13 : Dec m0 13 (.invokestatic 7) 3 16 := by decide +kernel
theorem d0_16 : Dec m0 16 (.istore 8) 2 18 := by decide +kernel
theorem d0_18 : Dec m0 18 (.iload_n 3) 1 19 := by decide +kernel
theorem d0_19 : Dec m0 19 (.iconst 3) 1 20 := by decide +kernel
theorem d0_20 : Dec m0 20 (.iand) 1 21 := by decide +kernel
theorem d0_21 : Dec m0 21 (.istore 9) 2 23 := by decide +kernel
theorem d0_23 : Dec m0 23 (.iload 9) 2 25 := by decide +kernel
theorem d0_25 : Dec m0 25 (.ifCond .ne 11) 3 28 := by decide +kernel
theorem j0_25 : Jmp 25 (11) 36 := by decide
theorem d0_28 : Dec m0 28 (.iconst 0) 1 29 := by decide +kernel
theorem d0_29 : Dec m0 29 (.newarray .int) 2 31 := by decide +kernel
theorem d0_31 : Dec m0 31 (.astore 10) 2 33 := by decide +kernel
theorem d0_33 : Dec m0 33 (.goto 66) 3 36 := by decide +kernel
theorem j0_33 : Jmp 33 (66) 99 := by decide
theorem d0_36 : Dec m0 36 (.iload 9) 2 38 := by decide +kernel
theorem d0_38 : Dec m0 38 (.iconst 1) 1 39 := by decide +kernel
theorem d0_39 : Dec m0 39 (.if_icmp .ne 16) 3 42 := by decide +kernel
theorem j0_39 : Jmp 39 (16) 55 := by decide
theorem d0_42 : Dec m0 42 (.iconst 1) 1 43 := by decide +kernel
theorem d0_43 : Dec m0 43 (.newarray .int) 2 45 := by decide +kernel
theorem d0_45 : Dec m0 45 (.dup) 1 46 := by decide +kernel
theorem d0_46 : Dec m0 46 (.iconst 0) 1 47 := by decide +kernel
theorem d0_47 : Dec m0 47 (.iload 6) 2 49 := by decide +kernel
theorem d0_49 : Dec m0 49 (.iastore) 1 50 := by decide +kernel
theorem d0_50 : Dec m0 50 (.astore 10) 2 52 := by decide +kernel
theorem d0_52 : Dec m0 52 (.goto 47) 3 55 := by decide +kernel
theorem j0_52 : Jmp 52 (47) 99 := by decide
theorem d0_55 : Dec m0 55 (.iload 9) 2 57 := by decide +kernel
theorem d0_57 : Dec m0 57 (.iconst 2) 1 58 := by decide +kernel
theorem d0_58 : Dec m0 58 (.if_icmp .ne 21) 3 61 := by decide +kernel
theorem j0_58 : Jmp 58 (21) 79 := by decide
theorem d0_61 : Dec m0 61 (.iconst 2) 1 62 := by decide +kernel
theorem d0_62 : Dec m0 62 (.newarray .int) 2 64 := by decide +kernel
theorem d0_64 : Dec m0 64 (.dup) 1 65 := by decide +kernel
theorem d0_65 : Dec m0 65 (.iconst 0) 1 66 := by decide +kernel
theorem d0_66 : Dec m0 66 (.iload 6) 2 68 := by decide +kernel
theorem d0_68 : Dec m0 68 (.iastore) 1 69 := by decide +kernel
theorem d0_69 : Dec m0 69 (.dup) 1 70 := by decide +kernel
theorem d0_70 : Dec m0 70 (.iconst 1) 1 71 := by decide +kernel
theorem d0_71 : Dec m0 71 (.iload 7) 2 73 := by decide +kernel
theorem d0_73 : Dec m0 73 (.iastore) 1 74 := by decide +kernel
theorem d0_74 : Dec m0 74 (.astore 10) 2 76 := by decide +kernel
theorem d0_76 : Dec m0 76 (.goto 23) 3 79 := by decide +kernel
theorem j0_76 : Jmp 76 (23) 99 := by decide
theorem d0_79 : Dec m0 79 (.iconst 3) 1 80 := by decide +kernel
theorem d0_80 : Dec m0 80 (.newarray .int) 2 82 := by decide +kernel
theorem d0_82 : Dec m0 82 (.dup) 1 83 := by decide +kernel
theorem d0_83 : Dec m0 83 (.iconst 0) 1 84 := by decide +kernel
theorem d0_84 : Dec m0 84 (.iload 6) 2 86 := by decide +kernel
theorem d0_86 : Dec m0 86 (.iastore) 1 87 := by decide +kernel
theorem d0_87 : Dec m0 87 (.dup) 1 88 := by decide +kernel
theorem d0_88 : Dec m0 88 (.iconst 1) 1 89 := by decide +kernel
theorem d0_89 : Dec m0 89 (.iload 7) 2 91 := by decide +kernel
theorem d0_91 : Dec m0 91 (.iastore) 1 92 := by decide +kernel
theorem d0_92 : Dec m0 92 (.dup) 1 93 := by decide +kernel
theorem d0_93 : Dec m0 93 (.iconst 2) 1 94 := by decide +kernel
theorem d0_94 : Dec m0 94 (.iload 8) 2 96 := by decide +kernel
theorem d0_96 : Dec m0 96 (.iastore) 1 97 := by decide +kernel
theorem d0_97 : Dec m0 97 (.astore 10) 2 99 := by decide +kernel
theorem d0_99 : Dec m0 99 (.iload 4) 2 101 := by decide +kernel
theorem d0_101 : Dec m0 101 (.ldc 13) 2 103 := by decide +kernel
theorem d0_103 : Dec m0 103 (.iand) 1 104 := by decide +kernel
theorem d0_104 : Dec m0 104 (.istore 11) 2 106 := by decide +kernel
theorem d0_106 : Dec m0 106 (.iload_n 3) 1 107 := by decide +kernel
theorem d0_107 : Dec m0 107 (.iconst 2) 1 108 := by decide +kernel
theorem d0_108 : Dec m0 108 (.iushr) 1 109 := by decide +kernel
theorem d0_109 : Dec m0 109 (.iconst 1) 1 110 := by decide +kernel
theorem d0_110 : Dec m0 110 (.iand) 1 111 := by decide +kernel
theorem d0_111 : Dec m0 111 (.ifCond .eq 8) 3 114 := by decide +kernel
theorem j0_111 : Jmp 111 (8) 119 := by decide
theorem d0_114 : Dec m0 114 (.iload 11) 2 116 := by decide +kernel
theorem d0_116 : Dec m0 116 (.goto 7) 3 119 := by decide +kernel
theorem j0_116 : Jmp 116 (7) 123 := by decide
theorem d0_119 : Dec m0 119 (.iload 11) 2 121 := by decide +kernel
theorem d0_121 : Dec m0 121 (.iconst 3) 1 122 := by decide +kernel
theorem d0_122 : Dec m0 122 (.iand) 1 123 := by decide +kernel
theorem d0_123 : Dec m0 123 (.istore 12) 2 125 := by decide +kernel
theorem d0_125 : Dec m0 125 (.iload 5) 2 127 := by decide +kernel
theorem d0_127 : Dec m0 127 (.ldc 13) 2 129 := by decide +kernel
theorem d0_129 : Dec m0 129 (.iand) 1 130 := by decide +kernel
theorem d0_130 : Dec m0 130 (.istore 13) 2 132 := by decide +kernel
theorem d0_132 : Dec m0 132 (.new 14) 3 135 := by decide +kernel
theorem d0_135 : Dec m0 135 (.dup) 1 136 := by decide +kernel
theorem d0_136 : Dec m0 136 (.aload 10) 2 138 := by decide +kernel
theorem d0_138 : Dec m0 138 (.invokespecial 16) 3 141 := by decide +kernel
theorem d0_141 : Dec m0 141 (.astore 14) 2 143 := by decide +kernel
theorem d0_143 : Dec m0 143 (.aload 14) 2 145 := by decide +kernel
theorem d0_145 : Dec m0 145 (.iload 12) 2 147 := by decide +kernel
theorem d0_147 : Dec m0 147 (.iload 13) 2 149 := by decide +kernel
theorem d0_149 : Dec m0 149 (.invokevirtual 19) 3 152 := by decide +kernel
theorem d0_152 : Dec m0 152 (.istore 15) 2 154 := by decide +kernel
theorem d0_154 : Dec m0 154 (.iconst 0) 1 155 := by decide +kernel
theorem d0_155 : Dec m0 155 (.iload 9) 2 157 := by decide +kernel
theorem d0_157 : Dec m0 157 (.iload 6) 2 159 := by decide +kernel
theorem d0_159 : Dec m0 159 (.iload 12) 2 161 := by decide +kernel
theorem d0_161 : Dec m0 161 (.iload 13) 2 163 := by decide +kernel
theorem d0_163 : Dec m0 163 (.invokestatic 23) 3 166 := by decide +kernel
theorem d0_166 : Dec m0 166 (.ifCond .ne 33) 3 169 := by decide +kernel
theorem j0_166 : Jmp 166 (33) 199 := by decide
theorem d0_169 : Dec m0 169 (.iconst 1) 1 170 := by decide +kernel
theorem d0_170 : Dec m0 170 (.iload 9) 2 172 := by decide +kernel
theorem d0_172 : Dec m0 172 (.iload 7) 2 174 := by decide +kernel
theorem d0_174 : Dec m0 174 (.iload 12) 2 176 := by decide +kernel
theorem d0_176 : Dec m0 176 (.iload 13) 2 178 := by decide +kernel
theorem d0_178 : Dec m0 178 (.invokestatic 23) 3 181 := by decide +kernel
theorem d0_181 : Dec m0 181 (.ifCond .ne 18) 3 184 := by decide +kernel
theorem j0_181 : Jmp 181 (18) 199 := by decide
theorem d0_184 : Dec m0 184 (.iconst 2) 1 185 := by decide +kernel
theorem d0_185 : Dec m0 185 (.iload 9) 2 187 := by decide +kernel
theorem d0_187 : Dec m0 187 (.iload 8) 2 189 := by decide +kernel
theorem d0_189 : Dec m0 189 (.iload 12) 2 191 := by decide +kernel
theorem d0_191 : Dec m0 191 (.iload 13) 2 193 := by decide +kernel
theorem d0_193 : Dec m0 193 (.invokestatic 23) 3 196 := by decide +kernel
theorem d0_196 : Dec m0 196 (.ifCond .eq 7) 3 199 := by decide +kernel
theorem j0_196 : Jmp 196 (7) 203 := by decide
theorem d0_199 : Dec m0 199 (.iconst 1) 1 200 := by decide +kernel
theorem d0_200 : Dec m0 200 (.goto 4) 3 203 := by decide +kernel
theorem j0_200 : Jmp 200 (4) 204 := by decide
theorem d0_203 : Dec m0 203 (.iconst 0) 1 204 := by decide +kernel
theorem d0_204 : Dec m0 204 (.istore 16) 2 206 := by decide +kernel
theorem d0_206 : Dec m0 206 (.iload 15) 2 208 := by decide +kernel
theorem d0_208 : Dec m0 208 (.iload 16) 2 210 := by decide +kernel
theorem d0_210 : Dec m0 210 (.if_icmp .ne 7) 3 213 := by decide +kernel
theorem j0_210 : Jmp 210 (7) 217 := by decide
theorem d0_213 : Dec m0 213 (.iconst 1) 1 214 := by decide +kernel
theorem d0_214 : Dec m0 214 (.goto 4) 3 217 := by decide +kernel
theorem j0_214 : Jmp 214 (4) 218 := by decide
theorem d0_217 : Dec m0 217 (.iconst 0) 1 218 := by decide +kernel
theorem d0_218 : Dec m0 218 (.ireturn) 1 219 := by decide +kernel
abbrev m1 : Mt := (⟨"com/example/subsume/subsume/NestingCoversPinLaw", "entry", "(I)I"⟩, method_2_code, 1, some .int)
theorem mi1 : MInfo m1 1 := by decide +kernel
theorem d1_0 : Dec m1 0 (.iload_n 0) 1 1 := by decide +kernel
theorem d1_1 : Dec m1 1 (.ifCond .ge 7) 3 4 := by decide +kernel
theorem j1_1 : Jmp 1 (7) 8 := by decide
theorem d1_4 : Dec m1 4 (.iconst (-1)) 1 5 := by decide +kernel
theorem d1_5 : Dec m1 5 (.goto 4) 3 8 := by decide +kernel
theorem j1_5 : Jmp 5 (4) 9 := by decide
theorem d1_8 : Dec m1 8 (.iload_n 0) 1 9 := by decide +kernel
theorem d1_9 : Dec m1 9 (.ireturn) 1 10 := by decide +kernel
abbrev m2 : Mt := (⟨"com/example/subsume/subsume/Nesting", "<init>", "([I)V"⟩, prog_38_method_1_code, 3, none)
theorem mi2 : MInfo m2 1 := by decide +kernel
theorem d2_0 : Dec m2 0 (.aload_n 0) 1 1 := by decide +kernel
theorem d2_1 : Dec m2 1 (.invokespecial 1) 3 4 := by decide +kernel
theorem d2_4 : Dec m2 4 (.aload_n 0) 1 5 := by decide +kernel
theorem d2_5 : Dec m2 5 (.aload_n 1) 1 6 := by decide +kernel
theorem d2_6 : Dec m2 6 (.invokevirtual 7) 3 9 := by decide +kernel
theorem d2_9 : Dec m2 9 (.checkcast 8) 3 12 := by decide +kernel
theorem d2_12 : Dec m2 12 (.putfield 13) 3 15 := by decide +kernel
theorem d2_15 : Dec m2 15 (.aload_n 0) 1 16 := by decide +kernel
theorem d2_16 : Dec m2 16 (.getfield 13) 3 19 := by decide +kernel
theorem d2_19 : Dec m2 19 (.arraylength) 1 20 := by decide +kernel
theorem d2_20 : Dec m2 20 (.iconst 2) 1 21 := by decide +kernel
theorem d2_21 : Dec m2 21 (.isub) 1 22 := by decide +kernel
theorem d2_22 : Dec m2 22 (.istore_n 2) 1 23 := by decide +kernel
theorem d2_23 : Dec m2 23 (.iload_n 2) 1 24 := by decide +kernel
theorem d2_24 : Dec m2 24 (.ifCond .lt 32) 3 27 := by decide +kernel
theorem j2_24 : Jmp 24 (32) 56 := by decide
theorem d2_27 : Dec m2 27 (.aload_n 0) 1 28 := by decide +kernel
theorem d2_28 : Dec m2 28 (.getfield 13) 3 31 := by decide +kernel
theorem d2_31 : Dec m2 31 (.iload_n 2) 1 32 := by decide +kernel
theorem d2_32 : Dec m2 32 (.aload_n 0) 1 33 := by decide +kernel
theorem d2_33 : Dec m2 33 (.getfield 13) 3 36 := by decide +kernel
theorem d2_36 : Dec m2 36 (.iload_n 2) 1 37 := by decide +kernel
theorem d2_37 : Dec m2 37 (.iaload) 1 38 := by decide +kernel
theorem d2_38 : Dec m2 38 (.aload_n 0) 1 39 := by decide +kernel
theorem d2_39 : Dec m2 39 (.getfield 13) 3 42 := by decide +kernel
theorem d2_42 : Dec m2 42 (.iload_n 2) 1 43 := by decide +kernel
theorem d2_43 : Dec m2 43 (.iconst 1) 1 44 := by decide +kernel
theorem d2_44 : Dec m2 44 (.iadd) 1 45 := by decide +kernel
theorem d2_45 : Dec m2 45 (.iaload) 1 46 := by decide +kernel
theorem d2_46 : Dec m2 46 (.invokestatic 18) 3 49 := by decide +kernel
theorem d2_49 : Dec m2 49 (.iastore) 1 50 := by decide +kernel
theorem d2_50 : Dec m2 50 (.iinc 2 (-1)) 3 53 := by decide +kernel
theorem d2_53 : Dec m2 53 (.goto (-30)) 3 56 := by decide +kernel
theorem j2_53 : Jmp 53 (-30) 23 := by decide
theorem d2_56 : Dec m2 56 (.return_) 1 57 := by decide +kernel
abbrev m4 : Mt := (⟨"com/example/subsume/subsume/Nesting", "covers", "(II)Z"⟩, prog_38_method_2_code, 3, some .boolean)
theorem mi4 : MInfo m4 2 := by decide +kernel
theorem d4_0 : Dec m4 0 (.iload_n 1) 1 1 := by decide +kernel
theorem d4_1 : Dec m4 1 (.aload_n 0) 1 2 := by decide +kernel
theorem d4_2 : Dec m4 2 (.getfield 13) 3 5 := by decide +kernel
theorem d4_5 : Dec m4 5 (.arraylength) 1 6 := by decide +kernel
theorem d4_6 : Dec m4 6 (.if_icmp .ge 17) 3 9 := by decide +kernel
theorem j4_6 : Jmp 6 (17) 23 := by decide
theorem d4_9 : Dec m4 9 (.aload_n 0) 1 10 := by decide +kernel
theorem d4_10 : Dec m4 10 (.getfield 13) 3 13 := by decide +kernel
theorem d4_13 : Dec m4 13 (.iload_n 1) 1 14 := by decide +kernel
theorem d4_14 : Dec m4 14 (.iaload) 1 15 := by decide +kernel
theorem d4_15 : Dec m4 15 (.iload_n 2) 1 16 := by decide +kernel
theorem d4_16 : Dec m4 16 (.if_icmp .lt 7) 3 19 := by decide +kernel
theorem j4_16 : Jmp 16 (7) 23 := by decide
theorem d4_19 : Dec m4 19 (.iconst 1) 1 20 := by decide +kernel
theorem d4_20 : Dec m4 20 (.goto 4) 3 23 := by decide +kernel
theorem j4_20 : Jmp 20 (4) 24 := by decide
theorem d4_23 : Dec m4 23 (.iconst 0) 1 24 := by decide +kernel
theorem d4_24 : Dec m4 24 (.ireturn) 1 25 := by decide +kernel
abbrev m5 : Mt := (⟨"com/example/subsume/subsume/NestingCoversPinLaw", "cov", "(IIIII)Z"⟩, method_3_code, 5, some .boolean)
theorem mi5 : MInfo m5 5 := by decide +kernel
theorem d5_0 : Dec m5 0 (.iload_n 0) 1 1 := by decide +kernel
theorem d5_1 : Dec m5 1 (.iload_n 3) 1 2 := by decide +kernel
theorem d5_2 : Dec m5 2 (.if_icmp .lt 22) 3 5 := by decide +kernel
theorem j5_2 : Jmp 2 (22) 24 := by decide
theorem d5_5 : Dec m5 5 (.iload_n 0) 1 6 := by decide +kernel
theorem d5_6 : Dec m5 6 (.iload_n 1) 1 7 := by decide +kernel
theorem d5_7 : Dec m5 7 (.if_icmp .ge 17) 3 10 := by decide +kernel
theorem j5_7 : Jmp 7 (17) 24 := by decide
theorem d5_10 : Dec m5 10 (.iload_n 2) 1 11 := by decide +kernel
theorem d5_11 : Dec m5 11 (.ifCond .lt 13) 3 14 := by decide +kernel
theorem j5_11 : Jmp 11 (13) 24 := by decide
theorem d5_14 : Dec m5 14 (.iload_n 2) 1 15 := by decide +kernel
theorem d5_15 : Dec m5 15 (.iload 4) 2 17 := by decide +kernel
theorem d5_17 : Dec m5 17 (.if_icmp .lt 7) 3 20 := by decide +kernel
theorem j5_17 : Jmp 17 (7) 24 := by decide
theorem d5_20 : Dec m5 20 (.iconst 1) 1 21 := by decide +kernel
theorem d5_21 : Dec m5 21 (.goto 4) 3 24 := by decide +kernel
theorem j5_21 : Jmp 21 (4) 25 := by decide
theorem d5_24 : Dec m5 24 (.iconst 0) 1 25 := by decide +kernel
theorem d5_25 : Dec m5 25 (.ireturn) 1 26 := by decide +kernel
abbrev m6 : Mt := (⟨"java/lang/Math", "max", "(II)I"⟩, jdk_29_method_65_code, 2, some .int)
theorem mi6 : MInfo m6 2 := by decide +kernel
theorem d6_0 : Dec m6 0 (.iload_n 0) 1 1 := by decide +kernel
theorem d6_1 : Dec m6 1 (.iload_n 1) 1 2 := by decide +kernel
theorem d6_2 : Dec m6 2 (.if_icmp .lt 7) 3 5 := by decide +kernel
theorem j6_2 : Jmp 2 (7) 9 := by decide
theorem d6_5 : Dec m6 5 (.iload_n 0) 1 6 := by decide +kernel
theorem d6_6 : Dec m6 6 (.goto 4) 3 9 := by decide +kernel
theorem j6_6 : Jmp 6 (4) 10 := by decide
theorem d6_9 : Dec m6 9 (.iload_n 1) 1 10 := by decide +kernel
theorem d6_10 : Dec m6 10 (.ireturn) 1 11 := by decide +kernel
def own_en (x0 : Int32) : Int32 := (if x0 < 0 then (-1) else x0)
theorem go_own_en (K : Ctx) (hw : ∀ d ∈ tables_1, d.before K.2.2.1 K.2.1 = true) (x0 : Int32) (H : Hp) : Go K m1 0 0 0 [.val (.int x0)] [] H (some (.int (own_en x0)), some H, 0, 0) := by
  refine Go.iloadN d1_0 rfl ?_
  refine Go.if_ge d1_1 j1_1 (fun h1 => ?_) (fun h1 => ?_)
  · -- pc 1 taken
    refine Go.iloadN d1_8 rfl ?_
    exact Go.ireturn d1_9 rfl (by rw [own_en, if_neg h1]) (HOk.eq rfl)
  · -- pc 1 not taken
    refine Go.iconst d1_4 (v := (-1)) rfl ?_
    refine Go.goto d1_5 j1_5 ?_
    exact Go.ireturn d1_9 rfl (by rw [own_en, if_pos h1]) (HOk.eq rfl)
def own_cov (x0 : Int32) (x1 : Int32) (x2 : Int32) (x3 : Int32) (x4 : Int32) : Int32 := (if x0 < x3 then 0 else (if x0 < x1 then (if x2 < 0 then 0 else (if x2 < x4 then 0 else 1)) else 0))
theorem go_own_cov (K : Ctx) (hw : ∀ d ∈ tables_1, d.before K.2.2.1 K.2.1 = true) (x0 : Int32) (x1 : Int32) (x2 : Int32) (x3 : Int32) (x4 : Int32) (H : Hp) : Go K m5 0 0 0 [.val (.int x0), .val (.int x1), .val (.int x2), .val (.int x3), .val (.int x4)] [] H (some (.int (own_cov x0 x1 x2 x3 x4)), some H, 0, 0) := by
  refine Go.iloadN d5_0 rfl ?_
  refine Go.iloadN d5_1 rfl ?_
  refine Go.icmp_lt d5_2 j5_2 (fun h2 => ?_) (fun h2 => ?_)
  · -- pc 2 taken
    refine Go.iconst d5_24 (v := 0) rfl ?_
    exact Go.ireturnZ d5_25 rfl (by decide) (by rw [own_cov, if_pos h2]) (HOk.eq rfl)
  · -- pc 2 not taken
    refine Go.iloadN d5_5 rfl ?_
    refine Go.iloadN d5_6 rfl ?_
    refine Go.icmp_ge d5_7 j5_7 (fun h7 => ?_) (fun h7 => ?_)
    · -- pc 7 taken
      refine Go.iconst d5_24 (v := 0) rfl ?_
      exact Go.ireturnZ d5_25 rfl (by decide) (by rw [own_cov, if_neg h2, if_neg h7]) (HOk.eq rfl)
    · -- pc 7 not taken
      refine Go.iloadN d5_10 rfl ?_
      refine Go.if_lt d5_11 j5_11 (fun h11 => ?_) (fun h11 => ?_)
      · -- pc 11 taken
        refine Go.iconst d5_24 (v := 0) rfl ?_
        exact Go.ireturnZ d5_25 rfl (by decide) (by rw [own_cov, if_neg h2, if_pos h7, if_pos h11]) (HOk.eq rfl)
      · -- pc 11 not taken
        refine Go.iloadN d5_14 rfl ?_
        refine Go.iload d5_15 rfl ?_
        refine Go.icmp_lt d5_17 j5_17 (fun h17 => ?_) (fun h17 => ?_)
        · -- pc 17 taken
          refine Go.iconst d5_24 (v := 0) rfl ?_
          exact Go.ireturnZ d5_25 rfl (by decide) (by rw [own_cov, if_neg h2, if_pos h7, if_neg h11, if_pos h17]) (HOk.eq rfl)
        · -- pc 17 not taken
          refine Go.iconst d5_20 (v := 1) rfl ?_
          refine Go.goto d5_21 j5_21 ?_
          exact Go.ireturnZ d5_25 rfl (by decide) (by rw [own_cov, if_neg h2, if_pos h7, if_neg h11, if_neg h17]) (HOk.eq rfl)
def own_max (x0 : Int32) (x1 : Int32) : Int32 := (if x0 < x1 then x1 else x0)
theorem go_own_max (K : Ctx) (hw : ∀ d ∈ tables_1, d.before K.2.2.1 K.2.1 = true) (x0 : Int32) (x1 : Int32) (H : Hp) : Go K m6 0 0 0 [.val (.int x0), .val (.int x1)] [] H (some (.int (own_max x0 x1)), some H, 0, 0) := by
  refine Go.iloadN d6_0 rfl ?_
  refine Go.iloadN d6_1 rfl ?_
  refine Go.icmp_lt d6_2 j6_2 (fun h2 => ?_) (fun h2 => ?_)
  · -- pc 2 taken
    refine Go.iloadN d6_9 rfl ?_
    exact Go.ireturn d6_10 rfl (by rw [own_max, if_pos h2]) (HOk.eq rfl)
  · -- pc 2 not taken
    refine Go.iloadN d6_5 rfl ?_
    refine Go.goto d6_6 j6_6 ?_
    exact Go.ireturn d6_10 rfl (by rw [own_max, if_neg h2]) (HOk.eq rfl)
theorem go_ctor0 (K : Ctx) (hw : ∀ d ∈ tables_1, d.before K.2.2.1 K.2.1 = true)  : Go K m2 1 16 0 [.val (.ref 1), .val (.ref 0), .unset] [] [.inr (.int, []), .inl ("com/example/subsume/subsume/Nesting", [("restrictions", "[I", .null)])] (none, some [.inr (.int, []), .inl ("com/example/subsume/subsume/Nesting", [("restrictions", "[I", .ref 2)]), .inr (.int, [])], 1, 0) := by
  refine Go.aloadN d2_0 rfl rfl ?_
  refine Go.initObj d2_1 (hw _ (List.mem_of_getElem? (i := 12) rfl)) (hw _ (List.mem_of_getElem? (i := 13) rfl)) (hw _ (List.mem_of_getElem? (i := 14) rfl)) rfl (W := 0) rfl (by decide) (by decide) ?_
  refine Go.aloadN d2_4 rfl rfl ?_
  refine Go.aloadN d2_5 rfl rfl ?_
  refine Go.cloneArr 0 d2_6 (hw _ (List.mem_of_getElem? (i := 15) rfl)) (hw _ (List.mem_of_getElem? (i := 16) rfl)) (hw _ (List.mem_of_getElem? (i := 20) rfl)) (hw _ (List.mem_of_getElem? (i := 18) rfl)) (hw _ (List.mem_of_getElem? (i := 19) rfl)) (hw _ (List.mem_of_getElem? (i := 21) rfl)) (t := .int) (by decide) (i := 0) rfl (by simp [sv, fits]) (Nat.le_of_ble_eq_true rfl) (j := 2) rfl rfl (W := 1) rfl (by decide) (by decide) 0 0 (by decide) (by decide) ?_
  show Go _ _ _ _ 9 [.val (.ref 1), .val (.ref 0), .unset] [.ref 2, .ref 1] [.inr (.int, []), .inl ("com/example/subsume/subsume/Nesting", [("restrictions", "[I", .null)]), .inr (.int, [])] _
  refine Go.checkcastArr d2_9 (hw _ (List.mem_of_getElem? (i := 22) rfl)) (by decide) rfl ?_
  refine Go.putfield 0 d2_12 (hw _ (List.mem_of_getElem? (i := 24) rfl)) (Or.inr ⟨(hw _ (List.mem_of_getElem? (i := 25) rfl)), rfl, rfl⟩) (hw _ (List.mem_of_getElem? (i := 7) rfl)) (ty := (.array .int)) (by decide) (fun _ => ⟨rfl, rfl⟩) rfl rfl (H1 := [.inr (.int, []), .inl ("com/example/subsume/subsume/Nesting", [("restrictions", "[I", .ref 2)]), .inr (.int, [])]) rfl ?_
  refine Go.aloadN d2_15 rfl rfl ?_
  refine Go.getfield 0 d2_16 (hw _ (List.mem_of_getElem? (i := 24) rfl)) rfl rfl ?_
  refine Go.arraylength d2_19 rfl (z := 0) rfl ?_
  refine Go.iconst d2_20 (v := 2) rfl ?_
  refine Go.isub d2_21 ?_
  show Go _ _ _ _ 22 [.val (.ref 1), .val (.ref 0), .unset] [.int (-2)] [.inr (.int, []), .inl ("com/example/subsume/subsume/Nesting", [("restrictions", "[I", .ref 2)]), .inr (.int, [])] _
  refine Go.istoreN d2_22 (ls' := [.val (.ref 1), .val (.ref 0), .val (.int (-2))]) rfl ?_
  refine Go.iloadN d2_23 rfl ?_
  refine Go.ifT d2_24 j2_24 (XT.i0_lt_t (by decide)) ?_
  exact Go.ret d2_56 rfl rfl (HOk.eq rfl)
theorem go_ctor1 (K : Ctx) (hw : ∀ d ∈ tables_1, d.before K.2.2.1 K.2.1 = true) (d0 : Int32) : Go K m2 1 16 0 [.val (.ref 1), .val (.ref 0), .unset] [] [.inr (.int, [.int d0]), .inl ("com/example/subsume/subsume/Nesting", [("restrictions", "[I", .null)])] (none, some [.inr (.int, [.int d0]), .inl ("com/example/subsume/subsume/Nesting", [("restrictions", "[I", .ref 2)]), .inr (.int, [.int d0])], 1, 1) := by
  refine Go.aloadN d2_0 rfl rfl ?_
  refine Go.initObj d2_1 (hw _ (List.mem_of_getElem? (i := 12) rfl)) (hw _ (List.mem_of_getElem? (i := 13) rfl)) (hw _ (List.mem_of_getElem? (i := 14) rfl)) rfl (W := 0) rfl (by decide) (by decide) ?_
  refine Go.aloadN d2_4 rfl rfl ?_
  refine Go.aloadN d2_5 rfl rfl ?_
  refine Go.cloneArr 1 d2_6 (hw _ (List.mem_of_getElem? (i := 15) rfl)) (hw _ (List.mem_of_getElem? (i := 16) rfl)) (hw _ (List.mem_of_getElem? (i := 20) rfl)) (hw _ (List.mem_of_getElem? (i := 18) rfl)) (hw _ (List.mem_of_getElem? (i := 19) rfl)) (hw _ (List.mem_of_getElem? (i := 21) rfl)) (t := .int) (by decide) (i := 0) rfl (by simp [sv, fits]) (Nat.le_of_ble_eq_true rfl) (j := 2) rfl rfl (W := 1) rfl (by decide) (by decide) 0 0 (by decide) (by decide) ?_
  show Go _ _ _ _ 9 [.val (.ref 1), .val (.ref 0), .unset] [.ref 2, .ref 1] [.inr (.int, [.int d0]), .inl ("com/example/subsume/subsume/Nesting", [("restrictions", "[I", .null)]), .inr (.int, [.int d0])] _
  refine Go.checkcastArr d2_9 (hw _ (List.mem_of_getElem? (i := 22) rfl)) (by decide) rfl ?_
  refine Go.putfield 0 d2_12 (hw _ (List.mem_of_getElem? (i := 24) rfl)) (Or.inr ⟨(hw _ (List.mem_of_getElem? (i := 25) rfl)), rfl, rfl⟩) (hw _ (List.mem_of_getElem? (i := 7) rfl)) (ty := (.array .int)) (by decide) (fun _ => ⟨rfl, rfl⟩) rfl rfl (H1 := [.inr (.int, [.int d0]), .inl ("com/example/subsume/subsume/Nesting", [("restrictions", "[I", .ref 2)]), .inr (.int, [.int d0])]) rfl ?_
  refine Go.aloadN d2_15 rfl rfl ?_
  refine Go.getfield 0 d2_16 (hw _ (List.mem_of_getElem? (i := 24) rfl)) rfl rfl ?_
  refine Go.arraylength d2_19 rfl (z := 1) rfl ?_
  refine Go.iconst d2_20 (v := 2) rfl ?_
  refine Go.isub d2_21 ?_
  show Go _ _ _ _ 22 [.val (.ref 1), .val (.ref 0), .unset] [.int (-1)] [.inr (.int, [.int d0]), .inl ("com/example/subsume/subsume/Nesting", [("restrictions", "[I", .ref 2)]), .inr (.int, [.int d0])] _
  refine Go.istoreN d2_22 (ls' := [.val (.ref 1), .val (.ref 0), .val (.int (-1))]) rfl ?_
  refine Go.iloadN d2_23 rfl ?_
  refine Go.ifT d2_24 j2_24 (XT.i0_lt_t (by decide)) ?_
  exact Go.ret d2_56 rfl rfl (HOk.eq rfl)
theorem go_ctor2 (K : Ctx) (hw : ∀ d ∈ tables_1, d.before K.2.2.1 K.2.1 = true) (d0 d1 : Int32) : Go K m2 1 16 0 [.val (.ref 1), .val (.ref 0), .unset] [] [.inr (.int, [.int d0, .int d1]), .inl ("com/example/subsume/subsume/Nesting", [("restrictions", "[I", .null)])] (none, some [.inr (.int, [.int d0, .int d1]), .inl ("com/example/subsume/subsume/Nesting", [("restrictions", "[I", .ref 2)]), .inr (.int, [.int (own_max d0 d1), .int d1])], 1, 2) := by
  refine Go.aloadN d2_0 rfl rfl ?_
  refine Go.initObj d2_1 (hw _ (List.mem_of_getElem? (i := 12) rfl)) (hw _ (List.mem_of_getElem? (i := 13) rfl)) (hw _ (List.mem_of_getElem? (i := 14) rfl)) rfl (W := 0) rfl (by decide) (by decide) ?_
  refine Go.aloadN d2_4 rfl rfl ?_
  refine Go.aloadN d2_5 rfl rfl ?_
  refine Go.cloneArr 2 d2_6 (hw _ (List.mem_of_getElem? (i := 15) rfl)) (hw _ (List.mem_of_getElem? (i := 16) rfl)) (hw _ (List.mem_of_getElem? (i := 20) rfl)) (hw _ (List.mem_of_getElem? (i := 18) rfl)) (hw _ (List.mem_of_getElem? (i := 19) rfl)) (hw _ (List.mem_of_getElem? (i := 21) rfl)) (t := .int) (by decide) (i := 0) rfl (by simp [sv, fits]) (Nat.le_of_ble_eq_true rfl) (j := 2) rfl rfl (W := 1) rfl (by decide) (by decide) 0 0 (by decide) (by decide) ?_
  show Go _ _ _ _ 9 [.val (.ref 1), .val (.ref 0), .unset] [.ref 2, .ref 1] [.inr (.int, [.int d0, .int d1]), .inl ("com/example/subsume/subsume/Nesting", [("restrictions", "[I", .null)]), .inr (.int, [.int d0, .int d1])] _
  refine Go.checkcastArr d2_9 (hw _ (List.mem_of_getElem? (i := 22) rfl)) (by decide) rfl ?_
  refine Go.putfield 0 d2_12 (hw _ (List.mem_of_getElem? (i := 24) rfl)) (Or.inr ⟨(hw _ (List.mem_of_getElem? (i := 25) rfl)), rfl, rfl⟩) (hw _ (List.mem_of_getElem? (i := 7) rfl)) (ty := (.array .int)) (by decide) (fun _ => ⟨rfl, rfl⟩) rfl rfl (H1 := [.inr (.int, [.int d0, .int d1]), .inl ("com/example/subsume/subsume/Nesting", [("restrictions", "[I", .ref 2)]), .inr (.int, [.int d0, .int d1])]) rfl ?_
  refine Go.aloadN d2_15 rfl rfl ?_
  refine Go.getfield 0 d2_16 (hw _ (List.mem_of_getElem? (i := 24) rfl)) rfl rfl ?_
  refine Go.arraylength d2_19 rfl (z := 2) rfl ?_
  refine Go.iconst d2_20 (v := 2) rfl ?_
  refine Go.isub d2_21 ?_
  show Go _ _ _ _ 22 [.val (.ref 1), .val (.ref 0), .unset] [.int 0] [.inr (.int, [.int d0, .int d1]), .inl ("com/example/subsume/subsume/Nesting", [("restrictions", "[I", .ref 2)]), .inr (.int, [.int d0, .int d1])] _
  refine Go.istoreN d2_22 (ls' := [.val (.ref 1), .val (.ref 0), .val (.int 0)]) rfl ?_
  refine Go.iloadN d2_23 rfl ?_
  refine Go.ifF d2_24 (XT.i0_lt_f (by decide)) ?_
  refine Go.aloadN d2_27 rfl rfl ?_
  refine Go.getfield 0 d2_28 (hw _ (List.mem_of_getElem? (i := 24) rfl)) rfl rfl ?_
  refine Go.iloadN d2_31 rfl ?_
  refine Go.aloadN d2_32 rfl rfl ?_
  refine Go.getfield 0 d2_33 (hw _ (List.mem_of_getElem? (i := 24) rfl)) rfl rfl ?_
  refine Go.iloadN d2_36 rfl ?_
  refine Go.iaload d2_37 rfl (by decide) rfl ?_
  refine Go.aloadN d2_38 rfl rfl ?_
  refine Go.getfield 0 d2_39 (hw _ (List.mem_of_getElem? (i := 24) rfl)) rfl rfl ?_
  refine Go.iloadN d2_42 rfl ?_
  refine Go.iconst d2_43 (v := 1) rfl ?_
  refine Go.iadd d2_44 ?_
  show Go _ _ _ _ 45 [.val (.ref 1), .val (.ref 0), .val (.int 0)] [.int 1, .ref 2, .int d0, .int 0, .ref 2] [.inr (.int, [.int d0, .int d1]), .inl ("com/example/subsume/subsume/Nesting", [("restrictions", "[I", .ref 2)]), .inr (.int, [.int d0, .int d1])] _
  refine Go.iaload d2_45 rfl (by decide) rfl ?_
  refine Go.callS (M' := m6) d2_46 (hw _ (List.mem_of_getElem? (i := 34) rfl)) (hw _ (List.mem_of_getElem? (i := 35) rfl)) (hw _ (List.mem_of_getElem? (i := 36) rfl)) (hw _ (List.mem_of_getElem? (i := 37) rfl)) mi6 (as := [.int d0, .int d1]) rfl rfl (st := [.int 0, .ref 2]) rfl (ls1 := [.val (.int d0), .val (.int d1)]) rfl (W := 2) rfl (by decide) (by decide) (go_own_max K hw d0 d1 _) 0 0 (by decide) (by decide) ?_
  show Go _ _ _ _ 49 [.val (.ref 1), .val (.ref 0), .val (.int 0)] [.int (own_max d0 d1), .int 0, .ref 2] [.inr (.int, [.int d0, .int d1]), .inl ("com/example/subsume/subsume/Nesting", [("restrictions", "[I", .ref 2)]), .inr (.int, [.int d0, .int d1])] _
  refine Go.iastore d2_49 rfl (by decide) (Nat.le_of_ble_eq_true rfl) (H1 := [.inr (.int, [.int d0, .int d1]), .inl ("com/example/subsume/subsume/Nesting", [("restrictions", "[I", .ref 2)]), .inr (.int, [.int (own_max d0 d1), .int d1])]) rfl ?_
  refine Go.iinc d2_50 (v := (-1)) rfl rfl (ls' := [.val (.ref 1), .val (.ref 0), .val (.int (-1))]) rfl ?_
  refine Go.goto d2_53 j2_53 ?_
  refine Go.iloadN d2_23 rfl ?_
  refine Go.ifT d2_24 j2_24 (XT.i0_lt_t (by decide)) ?_
  exact Go.ret d2_56 rfl rfl (HOk.eq rfl)
theorem go_ctor3 (K : Ctx) (hw : ∀ d ∈ tables_1, d.before K.2.2.1 K.2.1 = true) (d0 d1 d2 : Int32) : Go K m2 1 16 0 [.val (.ref 1), .val (.ref 0), .unset] [] [.inr (.int, [.int d0, .int d1, .int d2]), .inl ("com/example/subsume/subsume/Nesting", [("restrictions", "[I", .null)])] (none, some [.inr (.int, [.int d0, .int d1, .int d2]), .inl ("com/example/subsume/subsume/Nesting", [("restrictions", "[I", .ref 2)]), .inr (.int, [.int (own_max d0 (own_max d1 d2)), .int (own_max d1 d2), .int d2])], 1, 3) := by
  refine Go.aloadN d2_0 rfl rfl ?_
  refine Go.initObj d2_1 (hw _ (List.mem_of_getElem? (i := 12) rfl)) (hw _ (List.mem_of_getElem? (i := 13) rfl)) (hw _ (List.mem_of_getElem? (i := 14) rfl)) rfl (W := 0) rfl (by decide) (by decide) ?_
  refine Go.aloadN d2_4 rfl rfl ?_
  refine Go.aloadN d2_5 rfl rfl ?_
  refine Go.cloneArr 3 d2_6 (hw _ (List.mem_of_getElem? (i := 15) rfl)) (hw _ (List.mem_of_getElem? (i := 16) rfl)) (hw _ (List.mem_of_getElem? (i := 20) rfl)) (hw _ (List.mem_of_getElem? (i := 18) rfl)) (hw _ (List.mem_of_getElem? (i := 19) rfl)) (hw _ (List.mem_of_getElem? (i := 21) rfl)) (t := .int) (by decide) (i := 0) rfl (by simp [sv, fits]) (Nat.le_of_ble_eq_true rfl) (j := 2) rfl rfl (W := 1) rfl (by decide) (by decide) 0 0 (by decide) (by decide) ?_
  show Go _ _ _ _ 9 [.val (.ref 1), .val (.ref 0), .unset] [.ref 2, .ref 1] [.inr (.int, [.int d0, .int d1, .int d2]), .inl ("com/example/subsume/subsume/Nesting", [("restrictions", "[I", .null)]), .inr (.int, [.int d0, .int d1, .int d2])] _
  refine Go.checkcastArr d2_9 (hw _ (List.mem_of_getElem? (i := 22) rfl)) (by decide) rfl ?_
  refine Go.putfield 0 d2_12 (hw _ (List.mem_of_getElem? (i := 24) rfl)) (Or.inr ⟨(hw _ (List.mem_of_getElem? (i := 25) rfl)), rfl, rfl⟩) (hw _ (List.mem_of_getElem? (i := 7) rfl)) (ty := (.array .int)) (by decide) (fun _ => ⟨rfl, rfl⟩) rfl rfl (H1 := [.inr (.int, [.int d0, .int d1, .int d2]), .inl ("com/example/subsume/subsume/Nesting", [("restrictions", "[I", .ref 2)]), .inr (.int, [.int d0, .int d1, .int d2])]) rfl ?_
  refine Go.aloadN d2_15 rfl rfl ?_
  refine Go.getfield 0 d2_16 (hw _ (List.mem_of_getElem? (i := 24) rfl)) rfl rfl ?_
  refine Go.arraylength d2_19 rfl (z := 3) rfl ?_
  refine Go.iconst d2_20 (v := 2) rfl ?_
  refine Go.isub d2_21 ?_
  show Go _ _ _ _ 22 [.val (.ref 1), .val (.ref 0), .unset] [.int 1] [.inr (.int, [.int d0, .int d1, .int d2]), .inl ("com/example/subsume/subsume/Nesting", [("restrictions", "[I", .ref 2)]), .inr (.int, [.int d0, .int d1, .int d2])] _
  refine Go.istoreN d2_22 (ls' := [.val (.ref 1), .val (.ref 0), .val (.int 1)]) rfl ?_
  refine Go.iloadN d2_23 rfl ?_
  refine Go.ifF d2_24 (XT.i0_lt_f (by decide)) ?_
  refine Go.aloadN d2_27 rfl rfl ?_
  refine Go.getfield 0 d2_28 (hw _ (List.mem_of_getElem? (i := 24) rfl)) rfl rfl ?_
  refine Go.iloadN d2_31 rfl ?_
  refine Go.aloadN d2_32 rfl rfl ?_
  refine Go.getfield 0 d2_33 (hw _ (List.mem_of_getElem? (i := 24) rfl)) rfl rfl ?_
  refine Go.iloadN d2_36 rfl ?_
  refine Go.iaload d2_37 rfl (by decide) rfl ?_
  refine Go.aloadN d2_38 rfl rfl ?_
  refine Go.getfield 0 d2_39 (hw _ (List.mem_of_getElem? (i := 24) rfl)) rfl rfl ?_
  refine Go.iloadN d2_42 rfl ?_
  refine Go.iconst d2_43 (v := 1) rfl ?_
  refine Go.iadd d2_44 ?_
  show Go _ _ _ _ 45 [.val (.ref 1), .val (.ref 0), .val (.int 1)] [.int 2, .ref 2, .int d1, .int 1, .ref 2] [.inr (.int, [.int d0, .int d1, .int d2]), .inl ("com/example/subsume/subsume/Nesting", [("restrictions", "[I", .ref 2)]), .inr (.int, [.int d0, .int d1, .int d2])] _
  refine Go.iaload d2_45 rfl (by decide) rfl ?_
  refine Go.callS (M' := m6) d2_46 (hw _ (List.mem_of_getElem? (i := 34) rfl)) (hw _ (List.mem_of_getElem? (i := 35) rfl)) (hw _ (List.mem_of_getElem? (i := 36) rfl)) (hw _ (List.mem_of_getElem? (i := 37) rfl)) mi6 (as := [.int d1, .int d2]) rfl rfl (st := [.int 1, .ref 2]) rfl (ls1 := [.val (.int d1), .val (.int d2)]) rfl (W := 2) rfl (by decide) (by decide) (go_own_max K hw d1 d2 _) 0 0 (by decide) (by decide) ?_
  show Go _ _ _ _ 49 [.val (.ref 1), .val (.ref 0), .val (.int 1)] [.int (own_max d1 d2), .int 1, .ref 2] [.inr (.int, [.int d0, .int d1, .int d2]), .inl ("com/example/subsume/subsume/Nesting", [("restrictions", "[I", .ref 2)]), .inr (.int, [.int d0, .int d1, .int d2])] _
  refine Go.iastore d2_49 rfl (by decide) (Nat.le_of_ble_eq_true rfl) (H1 := [.inr (.int, [.int d0, .int d1, .int d2]), .inl ("com/example/subsume/subsume/Nesting", [("restrictions", "[I", .ref 2)]), .inr (.int, [.int d0, .int (own_max d1 d2), .int d2])]) rfl ?_
  refine Go.iinc d2_50 (v := (-1)) rfl rfl (ls' := [.val (.ref 1), .val (.ref 0), .val (.int 0)]) rfl ?_
  refine Go.goto d2_53 j2_53 ?_
  refine Go.iloadN d2_23 rfl ?_
  refine Go.ifF d2_24 (XT.i0_lt_f (by decide)) ?_
  refine Go.aloadN d2_27 rfl rfl ?_
  refine Go.getfield 0 d2_28 (hw _ (List.mem_of_getElem? (i := 24) rfl)) rfl rfl ?_
  refine Go.iloadN d2_31 rfl ?_
  refine Go.aloadN d2_32 rfl rfl ?_
  refine Go.getfield 0 d2_33 (hw _ (List.mem_of_getElem? (i := 24) rfl)) rfl rfl ?_
  refine Go.iloadN d2_36 rfl ?_
  refine Go.iaload d2_37 rfl (by decide) rfl ?_
  refine Go.aloadN d2_38 rfl rfl ?_
  refine Go.getfield 0 d2_39 (hw _ (List.mem_of_getElem? (i := 24) rfl)) rfl rfl ?_
  refine Go.iloadN d2_42 rfl ?_
  refine Go.iconst d2_43 (v := 1) rfl ?_
  refine Go.iadd d2_44 ?_
  show Go _ _ _ _ 45 [.val (.ref 1), .val (.ref 0), .val (.int 0)] [.int 1, .ref 2, .int d0, .int 0, .ref 2] [.inr (.int, [.int d0, .int d1, .int d2]), .inl ("com/example/subsume/subsume/Nesting", [("restrictions", "[I", .ref 2)]), .inr (.int, [.int d0, .int (own_max d1 d2), .int d2])] _
  refine Go.iaload d2_45 rfl (by decide) rfl ?_
  refine Go.callS (M' := m6) d2_46 (hw _ (List.mem_of_getElem? (i := 34) rfl)) (hw _ (List.mem_of_getElem? (i := 35) rfl)) (hw _ (List.mem_of_getElem? (i := 36) rfl)) (hw _ (List.mem_of_getElem? (i := 37) rfl)) mi6 (as := [.int d0, .int (own_max d1 d2)]) rfl rfl (st := [.int 0, .ref 2]) rfl (ls1 := [.val (.int d0), .val (.int (own_max d1 d2))]) rfl (W := 2) rfl (by decide) (by decide) (go_own_max K hw d0 (own_max d1 d2) _) 0 0 (by decide) (by decide) ?_
  show Go _ _ _ _ 49 [.val (.ref 1), .val (.ref 0), .val (.int 0)] [.int (own_max d0 (own_max d1 d2)), .int 0, .ref 2] [.inr (.int, [.int d0, .int d1, .int d2]), .inl ("com/example/subsume/subsume/Nesting", [("restrictions", "[I", .ref 2)]), .inr (.int, [.int d0, .int (own_max d1 d2), .int d2])] _
  refine Go.iastore d2_49 rfl (by decide) (Nat.le_of_ble_eq_true rfl) (H1 := [.inr (.int, [.int d0, .int d1, .int d2]), .inl ("com/example/subsume/subsume/Nesting", [("restrictions", "[I", .ref 2)]), .inr (.int, [.int (own_max d0 (own_max d1 d2)), .int (own_max d1 d2), .int d2])]) rfl ?_
  refine Go.iinc d2_50 (v := (-1)) rfl rfl (ls' := [.val (.ref 1), .val (.ref 0), .val (.int (-1))]) rfl ?_
  refine Go.goto d2_53 j2_53 ?_
  refine Go.iloadN d2_23 rfl ?_
  refine Go.ifT d2_24 j2_24 (XT.i0_lt_t (by decide)) ?_
  exact Go.ret d2_56 rfl rfl (HOk.eq rfl)
def own_cv (v rr : Int32) : Int32 := (if v < rr then 0 else 1)
theorem go_own_cv (K : Ctx) (hw : ∀ d ∈ tables_1, d.before K.2.2.1 K.2.1 = true) (H : Hp) (i j : Nat) (vs : List Value) (ii rr z v : Int32) (hH : H[i]? = some (.inl ("com/example/subsume/subsume/Nesting", [("restrictions", "[I", .ref j)]))) (hJ : H[j]? = some (.inr (.int, vs))) (hz : vs.length.toInt32 = z) (hlt : ii < z) (hj : ¬ ii < 0) (hv : vs[ii.toNatClampNeg]? = some (.int v)) : Go K m4 0 0 0 [.val (.ref i), .val (.int ii), .val (.int rr)] [] H (some (.int (own_cv v rr)), some H, 0, 0) := by
  refine Go.iloadN d4_0 rfl ?_
  refine Go.aloadN d4_1 rfl rfl ?_
  refine Go.getfield 0 d4_2 (hw _ (List.mem_of_getElem? (i := 24) rfl)) hH rfl ?_
  refine Go.arraylength d4_5 hJ (z := z) hz ?_
  refine Go.icmpF d4_6 (XT.ii_ge_f hlt) ?_
  refine Go.aloadN d4_9 rfl rfl ?_
  refine Go.getfield 0 d4_10 (hw _ (List.mem_of_getElem? (i := 24) rfl)) hH rfl ?_
  refine Go.iloadN d4_13 rfl ?_
  refine Go.iaload d4_14 hJ hj hv ?_
  refine Go.iloadN d4_15 rfl ?_
  refine Go.icmp_lt d4_16 j4_16 (fun h16 => ?_) (fun h16 => ?_)
  · -- pc 16 taken
    refine Go.iconst d4_23 (v := 0) rfl ?_
    exact Go.ireturnZ d4_24 rfl (by decide) (by rw [own_cv, if_pos h16]) (HOk.eq rfl)
  · -- pc 16 not taken
    refine Go.iconst d4_19 (v := 1) rfl ?_
    refine Go.goto d4_20 j4_20 ?_
    exact Go.ireturnZ d4_24 rfl (by decide) (by rw [own_cv, if_neg h16]) (HOk.eq rfl)
theorem go_cvN (K : Ctx) (hw : ∀ d ∈ tables_1, d.before K.2.2.1 K.2.1 = true) (H : Hp) (i j : Nat) (vs : List Value) (ii rr z : Int32) (hH : H[i]? = some (.inl ("com/example/subsume/subsume/Nesting", [("restrictions", "[I", .ref j)]))) (hJ : H[j]? = some (.inr (.int, vs))) (hz : vs.length.toInt32 = z) (hge : ¬ ii < z) : Go K m4 0 0 0 [.val (.ref i), .val (.int ii), .val (.int rr)] [] H (some (.int 0), some H, 0, 0) := by
  refine Go.iloadN d4_0 rfl ?_
  refine Go.aloadN d4_1 rfl rfl ?_
  refine Go.getfield 0 d4_2 (hw _ (List.mem_of_getElem? (i := 24) rfl)) hH rfl ?_
  refine Go.arraylength d4_5 hJ (z := z) hz ?_
  refine Go.icmpT d4_6 j4_6 (XT.ii_ge_t hge) ?_
  refine Go.iconst d4_23 (v := 0) rfl ?_
  exact Go.ireturnZ d4_24 rfl (by decide) rfl (HOk.eq rfl)
theorem own_lits : (0 : Int32).toInt = 0 ∧ (1 : Int32).toInt = 1 ∧ (2 : Int32).toInt = 2 ∧ (3 : Int32).toInt = 3 := by decide
theorem own_ge {i k : Int32} (h : ¬ i < 3) (hk : ¬ 3 < k) : ¬ i < k := by
  rw [Int32.lt_iff_toInt_lt] at *; omega
theorem own_c3 {j n d i r : Int32} (hj : j < 3) (h : ¬ i < 3) : own_cov j n d i r = 0 := by
  rw [own_cov, if_pos]; rw [Int32.lt_iff_toInt_lt] at *; omega
theorem own_cz1 {j n d i r : Int32} (h : j < i) : own_cov j n d i r = 0 := by rw [own_cov, if_pos h]
theorem own_cz2 {j n d i r : Int32} (h : ¬ j < i) (h2 : ¬ j < n) : own_cov j n d i r = 0 := by rw [own_cov, if_neg h, if_neg h2]
theorem own_covz (j n d i r : Int32) : (own_cov j n d i r = 0) = (j.toInt < i.toInt ∨ ¬ j.toInt < n.toInt ∨ d.toInt < 0 ∨ d.toInt < r.toInt) := by
  apply propext
  rw [own_cov]
  simp only [Int32.lt_iff_toInt_lt, own_lits]
  by_cases h1 : j.toInt < i.toInt
  · simp [h1]
  · by_cases h2 : j.toInt < n.toInt
    · by_cases h3 : d.toInt < 0
      · simp [h1, h2, h3]
      · by_cases h4 : d.toInt < r.toInt
        · simp [h1, h2, h3, h4]
        · simp [h1, h2, h3, h4]
    · simp [h1, h2]
theorem own_maxv (x y : Int32) : (own_max x y).toInt = max x.toInt y.toInt := by
  rw [own_max]
  by_cases h : x < y
  · rw [if_pos h]; rw [Int32.lt_iff_toInt_lt] at h; omega
  · rw [if_neg h]; rw [Int32.lt_iff_toInt_lt] at h; omega
theorem own_fp {v r : Int32} (h : ¬ v.toInt < r.toInt) : own_cv v r = 1 := by rw [own_cv, if_neg (by rw [Int32.lt_iff_toInt_lt]; exact h)]
theorem own_fn {v r : Int32} (h : v.toInt < r.toInt) : own_cv v r = 0 := by rw [own_cv, if_pos (by rw [Int32.lt_iff_toInt_lt]; exact h)]
theorem own_m3 (z : Int32) : z &&& 3 = 0 ∨ z &&& 3 = 1 ∨ z &&& 3 = 2 ∨ z &&& 3 = 3 := by
  have h := Jvm.Kit.i32_mask z 3 (k := 2) (by decide) (by decide)
  rcases (by omega : (z &&& 3).toInt = 0 ∨ (z &&& 3).toInt = 1 ∨ (z &&& 3).toInt = 2 ∨ (z &&& 3).toInt = 3) with q | q | q | q
  · exact Or.inl (Int32.toInt_inj.mp q)
  · exact Or.inr (Or.inl (Int32.toInt_inj.mp q))
  · exact Or.inr (Or.inr (Or.inl (Int32.toInt_inj.mp q)))
  · exact Or.inr (Or.inr (Or.inr (Int32.toInt_inj.mp q)))
theorem own_nn (x : Int32) : 0 ≤ (x &&& 2147483647).toInt := by
  have h := Jvm.Kit.i32_mask x 2147483647 (k := 31) (by decide) (by decide)
  omega
theorem own_n31 (x : Int32) : ¬ (x &&& 2147483647) < 0 := by
  have h := own_nn x
  rw [Int32.lt_iff_toInt_lt]; simp only [own_lits]; omega
theorem own_n3 (x : Int32) : ¬ (x &&& 3) < 0 := by
  have h := Jvm.Kit.i32_mask x 3 (k := 2) (by decide) (by decide)
  rw [Int32.lt_iff_toInt_lt]; simp only [own_lits]; omega
theorem own_ii {i : Int32} (h : ¬ i < 0) : i = 0 ∨ i = 1 ∨ i = 2 ∨ ¬ i < 3 := by
  rw [Int32.lt_iff_toInt_lt] at h ⊢
  simp only [own_lits] at h ⊢
  rcases (by omega : i.toInt = 0 ∨ i.toInt = 1 ∨ i.toInt = 2 ∨ ¬ i.toInt < 3) with q | q | q | q
  · exact Or.inl (Int32.toInt_inj.mp q)
  · exact Or.inr (Or.inl (Int32.toInt_inj.mp q))
  · exact Or.inr (Or.inr (Or.inl (Int32.toInt_inj.mp q)))
  · exact Or.inr (Or.inr (Or.inr q))
theorem go_t125_0_0 (K : Ctx) (hw : ∀ d ∈ tables_1, d.before K.2.2.1 K.2.1 = true) (x0 x1 x2 x3 x4 x5 d0 d1 d2 iw : Int32) (hr : 0 ≤ (x5 &&& 2147483647).toInt) : Go K m0 5 128 125 [.val (.int x0), .val (.int x1), .val (.int x2), .val (.int x3), .val (.int x4), .val (.int x5), .val (.int d0), .val (.int d1), .val (.int d2), .val (.int 0), .val (.ref 0), .val (.int iw), .val (.int 0), .unset, .unset, .unset, .unset] [] [.inr (.int, [])] (some (.int 1), none, 15, 128) := by
  refine Go.iload d0_125 rfl ?_
  refine Go.ldc d0_127 (hw _ (List.mem_of_getElem? (i := 5) rfl)) ?_
  refine Go.iand d0_129 ?_
  refine Go.istore d0_130 (ls' := [.val (.int x0), .val (.int x1), .val (.int x2), .val (.int x3), .val (.int x4), .val (.int x5), .val (.int d0), .val (.int d1), .val (.int d2), .val (.int 0), .val (.ref 0), .val (.int iw), .val (.int 0), .val (.int (x5 &&& 2147483647)), .unset, .unset, .unset]) rfl ?_
  refine Go.new [("restrictions", "[I", .null)] d0_132 (hw _ (List.mem_of_getElem? (i := 6) rfl)) (hw _ (List.mem_of_getElem? (i := 7) rfl)) (hw _ (List.mem_of_getElem? (i := 8) rfl)) (by decide) (fun f hf => ?_) (i := 1) rfl 14 127 (by decide) (by decide) ?_
  · simp only [List.mem_cons, List.not_mem_nil, or_false] at hf
    rcases hf with rfl
    · exact ⟨Or.inr (hw _ (List.mem_of_getElem? (i := 25) rfl)), _, (by decide : parseFieldDescriptor "[I" = some (.array .int)), rfl⟩
  show Go _ _ _ _ 135 [.val (.int x0), .val (.int x1), .val (.int x2), .val (.int x3), .val (.int x4), .val (.int x5), .val (.int d0), .val (.int d1), .val (.int d2), .val (.int 0), .val (.ref 0), .val (.int iw), .val (.int 0), .val (.int (x5 &&& 2147483647)), .unset, .unset, .unset] [.ref 1] [.inr (.int, []), .inl ("com/example/subsume/subsume/Nesting", [("restrictions", "[I", .null)])] _
  refine Go.dup d0_135 rfl ?_
  refine Go.aload d0_136 rfl rfl ?_
  refine Go.callI (M' := m2) (i := 1) d0_138 rfl rfl (hw _ (List.mem_of_getElem? (i := 9) rfl)) (hw _ (List.mem_of_getElem? (i := 10) rfl)) (hw _ (List.mem_of_getElem? (i := 8) rfl)) (hw _ (List.mem_of_getElem? (i := 11) rfl)) mi2 (as := [.ref 0]) rfl rfl (st := [.ref 1]) rfl (ls1 := [.val (.ref 1), .val (.ref 0), .unset]) rfl (W := 1) rfl (by decide) (by decide) (go_ctor0 K hw ) 13 127 (by decide) (by decide) ?_
  show Go _ _ _ _ 141 [.val (.int x0), .val (.int x1), .val (.int x2), .val (.int x3), .val (.int x4), .val (.int x5), .val (.int d0), .val (.int d1), .val (.int d2), .val (.int 0), .val (.ref 0), .val (.int iw), .val (.int 0), .val (.int (x5 &&& 2147483647)), .unset, .unset, .unset] [.ref 1] [.inr (.int, []), .inl ("com/example/subsume/subsume/Nesting", [("restrictions", "[I", .ref 2)]), .inr (.int, [])] _
  refine Go.astore d0_141 (ls' := [.val (.int x0), .val (.int x1), .val (.int x2), .val (.int x3), .val (.int x4), .val (.int x5), .val (.int d0), .val (.int d1), .val (.int d2), .val (.int 0), .val (.ref 0), .val (.int iw), .val (.int 0), .val (.int (x5 &&& 2147483647)), .val (.ref 1), .unset, .unset]) rfl rfl ?_
  refine Go.aload d0_143 rfl rfl ?_
  refine Go.iload d0_145 rfl ?_
  refine Go.iload d0_147 rfl ?_
  refine Go.callV (M' := m4) (i := 1) d0_149 rfl (hw _ (List.mem_of_getElem? (i := 26) rfl)) (hw _ (List.mem_of_getElem? (i := 28) rfl)) (hw _ (List.mem_of_getElem? (i := 8) rfl)) (hw _ (List.mem_of_getElem? (i := 27) rfl)) (hw _ (List.mem_of_getElem? (i := 29) rfl)) (hw _ (List.mem_of_getElem? (i := 30) rfl)) mi4 (as := [.int 0, .int (x5 &&& 2147483647)]) rfl rfl (st := []) rfl (ls1 := [.val (.ref 1), .val (.int 0), .val (.int (x5 &&& 2147483647))]) rfl (W := 0) rfl (by decide) (by decide) (go_cvN K hw _ 1 2 _ _ _ 0 rfl rfl rfl (by decide)) 13 127 (by decide) (by decide) ?_
  show Go _ _ _ _ 152 [.val (.int x0), .val (.int x1), .val (.int x2), .val (.int x3), .val (.int x4), .val (.int x5), .val (.int d0), .val (.int d1), .val (.int d2), .val (.int 0), .val (.ref 0), .val (.int iw), .val (.int 0), .val (.int (x5 &&& 2147483647)), .val (.ref 1), .unset, .unset] [.int 0] [.inr (.int, []), .inl ("com/example/subsume/subsume/Nesting", [("restrictions", "[I", .ref 2)]), .inr (.int, [])] _
  refine Go.istore d0_152 (ls' := [.val (.int x0), .val (.int x1), .val (.int x2), .val (.int x3), .val (.int x4), .val (.int x5), .val (.int d0), .val (.int d1), .val (.int d2), .val (.int 0), .val (.ref 0), .val (.int iw), .val (.int 0), .val (.int (x5 &&& 2147483647)), .val (.ref 1), .val (.int 0), .unset]) rfl ?_
  refine Go.iconst d0_154 (v := 0) rfl ?_
  refine Go.iload d0_155 rfl ?_
  refine Go.iload d0_157 rfl ?_
  refine Go.iload d0_159 rfl ?_
  refine Go.iload d0_161 rfl ?_
  refine Go.callS (M' := m5) d0_163 (hw _ (List.mem_of_getElem? (i := 31) rfl)) (hw _ (List.mem_of_getElem? (i := 32) rfl)) (hw _ (List.mem_of_getElem? (i := 2) rfl)) (hw _ (List.mem_of_getElem? (i := 33) rfl)) mi5 (as := [.int 0, .int 0, .int d0, .int 0, .int (x5 &&& 2147483647)]) rfl rfl (st := []) rfl (ls1 := [.val (.int 0), .val (.int 0), .val (.int d0), .val (.int 0), .val (.int (x5 &&& 2147483647))]) rfl (W := 0) rfl (by decide) (by decide) (go_own_cov K hw 0 0 d0 0 (x5 &&& 2147483647) _) 13 127 (by decide) (by decide) ?_
  show Go _ _ _ _ 166 [.val (.int x0), .val (.int x1), .val (.int x2), .val (.int x3), .val (.int x4), .val (.int x5), .val (.int d0), .val (.int d1), .val (.int d2), .val (.int 0), .val (.ref 0), .val (.int iw), .val (.int 0), .val (.int (x5 &&& 2147483647)), .val (.ref 1), .val (.int 0), .unset] [.int (own_cov 0 0 d0 0 (x5 &&& 2147483647))] [.inr (.int, []), .inl ("com/example/subsume/subsume/Nesting", [("restrictions", "[I", .ref 2)]), .inr (.int, [])] _
  refine Go.ifF d0_166 (XT.i0_ne_f (own_cz2 (by decide) (by decide))) ?_
  refine Go.iconst d0_169 (v := 1) rfl ?_
  refine Go.iload d0_170 rfl ?_
  refine Go.iload d0_172 rfl ?_
  refine Go.iload d0_174 rfl ?_
  refine Go.iload d0_176 rfl ?_
  refine Go.callS (M' := m5) d0_178 (hw _ (List.mem_of_getElem? (i := 31) rfl)) (hw _ (List.mem_of_getElem? (i := 32) rfl)) (hw _ (List.mem_of_getElem? (i := 2) rfl)) (hw _ (List.mem_of_getElem? (i := 33) rfl)) mi5 (as := [.int 1, .int 0, .int d1, .int 0, .int (x5 &&& 2147483647)]) rfl rfl (st := []) rfl (ls1 := [.val (.int 1), .val (.int 0), .val (.int d1), .val (.int 0), .val (.int (x5 &&& 2147483647))]) rfl (W := 0) rfl (by decide) (by decide) (go_own_cov K hw 1 0 d1 0 (x5 &&& 2147483647) _) 13 127 (by decide) (by decide) ?_
  show Go _ _ _ _ 181 [.val (.int x0), .val (.int x1), .val (.int x2), .val (.int x3), .val (.int x4), .val (.int x5), .val (.int d0), .val (.int d1), .val (.int d2), .val (.int 0), .val (.ref 0), .val (.int iw), .val (.int 0), .val (.int (x5 &&& 2147483647)), .val (.ref 1), .val (.int 0), .unset] [.int (own_cov 1 0 d1 0 (x5 &&& 2147483647))] [.inr (.int, []), .inl ("com/example/subsume/subsume/Nesting", [("restrictions", "[I", .ref 2)]), .inr (.int, [])] _
  refine Go.ifF d0_181 (XT.i0_ne_f (own_cz2 (by decide) (by decide))) ?_
  refine Go.iconst d0_184 (v := 2) rfl ?_
  refine Go.iload d0_185 rfl ?_
  refine Go.iload d0_187 rfl ?_
  refine Go.iload d0_189 rfl ?_
  refine Go.iload d0_191 rfl ?_
  refine Go.callS (M' := m5) d0_193 (hw _ (List.mem_of_getElem? (i := 31) rfl)) (hw _ (List.mem_of_getElem? (i := 32) rfl)) (hw _ (List.mem_of_getElem? (i := 2) rfl)) (hw _ (List.mem_of_getElem? (i := 33) rfl)) mi5 (as := [.int 2, .int 0, .int d2, .int 0, .int (x5 &&& 2147483647)]) rfl rfl (st := []) rfl (ls1 := [.val (.int 2), .val (.int 0), .val (.int d2), .val (.int 0), .val (.int (x5 &&& 2147483647))]) rfl (W := 0) rfl (by decide) (by decide) (go_own_cov K hw 2 0 d2 0 (x5 &&& 2147483647) _) 13 127 (by decide) (by decide) ?_
  show Go _ _ _ _ 196 [.val (.int x0), .val (.int x1), .val (.int x2), .val (.int x3), .val (.int x4), .val (.int x5), .val (.int d0), .val (.int d1), .val (.int d2), .val (.int 0), .val (.ref 0), .val (.int iw), .val (.int 0), .val (.int (x5 &&& 2147483647)), .val (.ref 1), .val (.int 0), .unset] [.int (own_cov 2 0 d2 0 (x5 &&& 2147483647))] [.inr (.int, []), .inl ("com/example/subsume/subsume/Nesting", [("restrictions", "[I", .ref 2)]), .inr (.int, [])] _
  refine Go.ifT d0_196 j0_196 (XT.i0_eq_t (own_cz2 (by decide) (by decide))) ?_
  refine Go.iconst d0_203 (v := 0) rfl ?_
  refine Go.istore d0_204 (ls' := [.val (.int x0), .val (.int x1), .val (.int x2), .val (.int x3), .val (.int x4), .val (.int x5), .val (.int d0), .val (.int d1), .val (.int d2), .val (.int 0), .val (.ref 0), .val (.int iw), .val (.int 0), .val (.int (x5 &&& 2147483647)), .val (.ref 1), .val (.int 0), .val (.int 0)]) rfl ?_
  refine Go.iload d0_206 rfl ?_
  refine Go.iload d0_208 rfl ?_
  refine Go.icmpF d0_210 (XT.ii_ne_f (by decide)) ?_
  refine Go.iconst d0_213 (v := 1) rfl ?_
  refine Go.goto d0_214 j0_214 ?_
  exact Go.ireturnZ d0_218 rfl (by decide) rfl HOk.any
theorem go_t125_0_1 (K : Ctx) (hw : ∀ d ∈ tables_1, d.before K.2.2.1 K.2.1 = true) (x0 x1 x2 x3 x4 x5 d0 d1 d2 iw : Int32) (hr : 0 ≤ (x5 &&& 2147483647).toInt) : Go K m0 5 128 125 [.val (.int x0), .val (.int x1), .val (.int x2), .val (.int x3), .val (.int x4), .val (.int x5), .val (.int d0), .val (.int d1), .val (.int d2), .val (.int 0), .val (.ref 0), .val (.int iw), .val (.int 1), .unset, .unset, .unset, .unset] [] [.inr (.int, [])] (some (.int 1), none, 15, 128) := by
  refine Go.iload d0_125 rfl ?_
  refine Go.ldc d0_127 (hw _ (List.mem_of_getElem? (i := 5) rfl)) ?_
  refine Go.iand d0_129 ?_
  refine Go.istore d0_130 (ls' := [.val (.int x0), .val (.int x1), .val (.int x2), .val (.int x3), .val (.int x4), .val (.int x5), .val (.int d0), .val (.int d1), .val (.int d2), .val (.int 0), .val (.ref 0), .val (.int iw), .val (.int 1), .val (.int (x5 &&& 2147483647)), .unset, .unset, .unset]) rfl ?_
  refine Go.new [("restrictions", "[I", .null)] d0_132 (hw _ (List.mem_of_getElem? (i := 6) rfl)) (hw _ (List.mem_of_getElem? (i := 7) rfl)) (hw _ (List.mem_of_getElem? (i := 8) rfl)) (by decide) (fun f hf => ?_) (i := 1) rfl 14 127 (by decide) (by decide) ?_
  · simp only [List.mem_cons, List.not_mem_nil, or_false] at hf
    rcases hf with rfl
    · exact ⟨Or.inr (hw _ (List.mem_of_getElem? (i := 25) rfl)), _, (by decide : parseFieldDescriptor "[I" = some (.array .int)), rfl⟩
  show Go _ _ _ _ 135 [.val (.int x0), .val (.int x1), .val (.int x2), .val (.int x3), .val (.int x4), .val (.int x5), .val (.int d0), .val (.int d1), .val (.int d2), .val (.int 0), .val (.ref 0), .val (.int iw), .val (.int 1), .val (.int (x5 &&& 2147483647)), .unset, .unset, .unset] [.ref 1] [.inr (.int, []), .inl ("com/example/subsume/subsume/Nesting", [("restrictions", "[I", .null)])] _
  refine Go.dup d0_135 rfl ?_
  refine Go.aload d0_136 rfl rfl ?_
  refine Go.callI (M' := m2) (i := 1) d0_138 rfl rfl (hw _ (List.mem_of_getElem? (i := 9) rfl)) (hw _ (List.mem_of_getElem? (i := 10) rfl)) (hw _ (List.mem_of_getElem? (i := 8) rfl)) (hw _ (List.mem_of_getElem? (i := 11) rfl)) mi2 (as := [.ref 0]) rfl rfl (st := [.ref 1]) rfl (ls1 := [.val (.ref 1), .val (.ref 0), .unset]) rfl (W := 1) rfl (by decide) (by decide) (go_ctor0 K hw ) 13 127 (by decide) (by decide) ?_
  show Go _ _ _ _ 141 [.val (.int x0), .val (.int x1), .val (.int x2), .val (.int x3), .val (.int x4), .val (.int x5), .val (.int d0), .val (.int d1), .val (.int d2), .val (.int 0), .val (.ref 0), .val (.int iw), .val (.int 1), .val (.int (x5 &&& 2147483647)), .unset, .unset, .unset] [.ref 1] [.inr (.int, []), .inl ("com/example/subsume/subsume/Nesting", [("restrictions", "[I", .ref 2)]), .inr (.int, [])] _
  refine Go.astore d0_141 (ls' := [.val (.int x0), .val (.int x1), .val (.int x2), .val (.int x3), .val (.int x4), .val (.int x5), .val (.int d0), .val (.int d1), .val (.int d2), .val (.int 0), .val (.ref 0), .val (.int iw), .val (.int 1), .val (.int (x5 &&& 2147483647)), .val (.ref 1), .unset, .unset]) rfl rfl ?_
  refine Go.aload d0_143 rfl rfl ?_
  refine Go.iload d0_145 rfl ?_
  refine Go.iload d0_147 rfl ?_
  refine Go.callV (M' := m4) (i := 1) d0_149 rfl (hw _ (List.mem_of_getElem? (i := 26) rfl)) (hw _ (List.mem_of_getElem? (i := 28) rfl)) (hw _ (List.mem_of_getElem? (i := 8) rfl)) (hw _ (List.mem_of_getElem? (i := 27) rfl)) (hw _ (List.mem_of_getElem? (i := 29) rfl)) (hw _ (List.mem_of_getElem? (i := 30) rfl)) mi4 (as := [.int 1, .int (x5 &&& 2147483647)]) rfl rfl (st := []) rfl (ls1 := [.val (.ref 1), .val (.int 1), .val (.int (x5 &&& 2147483647))]) rfl (W := 0) rfl (by decide) (by decide) (go_cvN K hw _ 1 2 _ _ _ 0 rfl rfl rfl (by decide)) 13 127 (by decide) (by decide) ?_
  show Go _ _ _ _ 152 [.val (.int x0), .val (.int x1), .val (.int x2), .val (.int x3), .val (.int x4), .val (.int x5), .val (.int d0), .val (.int d1), .val (.int d2), .val (.int 0), .val (.ref 0), .val (.int iw), .val (.int 1), .val (.int (x5 &&& 2147483647)), .val (.ref 1), .unset, .unset] [.int 0] [.inr (.int, []), .inl ("com/example/subsume/subsume/Nesting", [("restrictions", "[I", .ref 2)]), .inr (.int, [])] _
  refine Go.istore d0_152 (ls' := [.val (.int x0), .val (.int x1), .val (.int x2), .val (.int x3), .val (.int x4), .val (.int x5), .val (.int d0), .val (.int d1), .val (.int d2), .val (.int 0), .val (.ref 0), .val (.int iw), .val (.int 1), .val (.int (x5 &&& 2147483647)), .val (.ref 1), .val (.int 0), .unset]) rfl ?_
  refine Go.iconst d0_154 (v := 0) rfl ?_
  refine Go.iload d0_155 rfl ?_
  refine Go.iload d0_157 rfl ?_
  refine Go.iload d0_159 rfl ?_
  refine Go.iload d0_161 rfl ?_
  refine Go.callS (M' := m5) d0_163 (hw _ (List.mem_of_getElem? (i := 31) rfl)) (hw _ (List.mem_of_getElem? (i := 32) rfl)) (hw _ (List.mem_of_getElem? (i := 2) rfl)) (hw _ (List.mem_of_getElem? (i := 33) rfl)) mi5 (as := [.int 0, .int 0, .int d0, .int 1, .int (x5 &&& 2147483647)]) rfl rfl (st := []) rfl (ls1 := [.val (.int 0), .val (.int 0), .val (.int d0), .val (.int 1), .val (.int (x5 &&& 2147483647))]) rfl (W := 0) rfl (by decide) (by decide) (go_own_cov K hw 0 0 d0 1 (x5 &&& 2147483647) _) 13 127 (by decide) (by decide) ?_
  show Go _ _ _ _ 166 [.val (.int x0), .val (.int x1), .val (.int x2), .val (.int x3), .val (.int x4), .val (.int x5), .val (.int d0), .val (.int d1), .val (.int d2), .val (.int 0), .val (.ref 0), .val (.int iw), .val (.int 1), .val (.int (x5 &&& 2147483647)), .val (.ref 1), .val (.int 0), .unset] [.int (own_cov 0 0 d0 1 (x5 &&& 2147483647))] [.inr (.int, []), .inl ("com/example/subsume/subsume/Nesting", [("restrictions", "[I", .ref 2)]), .inr (.int, [])] _
  refine Go.ifF d0_166 (XT.i0_ne_f (own_cz1 (by decide))) ?_
  refine Go.iconst d0_169 (v := 1) rfl ?_
  refine Go.iload d0_170 rfl ?_
  refine Go.iload d0_172 rfl ?_
  refine Go.iload d0_174 rfl ?_
  refine Go.iload d0_176 rfl ?_
  refine Go.callS (M' := m5) d0_178 (hw _ (List.mem_of_getElem? (i := 31) rfl)) (hw _ (List.mem_of_getElem? (i := 32) rfl)) (hw _ (List.mem_of_getElem? (i := 2) rfl)) (hw _ (List.mem_of_getElem? (i := 33) rfl)) mi5 (as := [.int 1, .int 0, .int d1, .int 1, .int (x5 &&& 2147483647)]) rfl rfl (st := []) rfl (ls1 := [.val (.int 1), .val (.int 0), .val (.int d1), .val (.int 1), .val (.int (x5 &&& 2147483647))]) rfl (W := 0) rfl (by decide) (by decide) (go_own_cov K hw 1 0 d1 1 (x5 &&& 2147483647) _) 13 127 (by decide) (by decide) ?_
  show Go _ _ _ _ 181 [.val (.int x0), .val (.int x1), .val (.int x2), .val (.int x3), .val (.int x4), .val (.int x5), .val (.int d0), .val (.int d1), .val (.int d2), .val (.int 0), .val (.ref 0), .val (.int iw), .val (.int 1), .val (.int (x5 &&& 2147483647)), .val (.ref 1), .val (.int 0), .unset] [.int (own_cov 1 0 d1 1 (x5 &&& 2147483647))] [.inr (.int, []), .inl ("com/example/subsume/subsume/Nesting", [("restrictions", "[I", .ref 2)]), .inr (.int, [])] _
  refine Go.ifF d0_181 (XT.i0_ne_f (own_cz2 (by decide) (by decide))) ?_
  refine Go.iconst d0_184 (v := 2) rfl ?_
  refine Go.iload d0_185 rfl ?_
  refine Go.iload d0_187 rfl ?_
  refine Go.iload d0_189 rfl ?_
  refine Go.iload d0_191 rfl ?_
  refine Go.callS (M' := m5) d0_193 (hw _ (List.mem_of_getElem? (i := 31) rfl)) (hw _ (List.mem_of_getElem? (i := 32) rfl)) (hw _ (List.mem_of_getElem? (i := 2) rfl)) (hw _ (List.mem_of_getElem? (i := 33) rfl)) mi5 (as := [.int 2, .int 0, .int d2, .int 1, .int (x5 &&& 2147483647)]) rfl rfl (st := []) rfl (ls1 := [.val (.int 2), .val (.int 0), .val (.int d2), .val (.int 1), .val (.int (x5 &&& 2147483647))]) rfl (W := 0) rfl (by decide) (by decide) (go_own_cov K hw 2 0 d2 1 (x5 &&& 2147483647) _) 13 127 (by decide) (by decide) ?_
  show Go _ _ _ _ 196 [.val (.int x0), .val (.int x1), .val (.int x2), .val (.int x3), .val (.int x4), .val (.int x5), .val (.int d0), .val (.int d1), .val (.int d2), .val (.int 0), .val (.ref 0), .val (.int iw), .val (.int 1), .val (.int (x5 &&& 2147483647)), .val (.ref 1), .val (.int 0), .unset] [.int (own_cov 2 0 d2 1 (x5 &&& 2147483647))] [.inr (.int, []), .inl ("com/example/subsume/subsume/Nesting", [("restrictions", "[I", .ref 2)]), .inr (.int, [])] _
  refine Go.ifT d0_196 j0_196 (XT.i0_eq_t (own_cz2 (by decide) (by decide))) ?_
  refine Go.iconst d0_203 (v := 0) rfl ?_
  refine Go.istore d0_204 (ls' := [.val (.int x0), .val (.int x1), .val (.int x2), .val (.int x3), .val (.int x4), .val (.int x5), .val (.int d0), .val (.int d1), .val (.int d2), .val (.int 0), .val (.ref 0), .val (.int iw), .val (.int 1), .val (.int (x5 &&& 2147483647)), .val (.ref 1), .val (.int 0), .val (.int 0)]) rfl ?_
  refine Go.iload d0_206 rfl ?_
  refine Go.iload d0_208 rfl ?_
  refine Go.icmpF d0_210 (XT.ii_ne_f (by decide)) ?_
  refine Go.iconst d0_213 (v := 1) rfl ?_
  refine Go.goto d0_214 j0_214 ?_
  exact Go.ireturnZ d0_218 rfl (by decide) rfl HOk.any
theorem go_t125_0_2 (K : Ctx) (hw : ∀ d ∈ tables_1, d.before K.2.2.1 K.2.1 = true) (x0 x1 x2 x3 x4 x5 d0 d1 d2 iw : Int32) (hr : 0 ≤ (x5 &&& 2147483647).toInt) : Go K m0 5 128 125 [.val (.int x0), .val (.int x1), .val (.int x2), .val (.int x3), .val (.int x4), .val (.int x5), .val (.int d0), .val (.int d1), .val (.int d2), .val (.int 0), .val (.ref 0), .val (.int iw), .val (.int 2), .unset, .unset, .unset, .unset] [] [.inr (.int, [])] (some (.int 1), none, 15, 128) := by
  refine Go.iload d0_125 rfl ?_
  refine Go.ldc d0_127 (hw _ (List.mem_of_getElem? (i := 5) rfl)) ?_
  refine Go.iand d0_129 ?_
  refine Go.istore d0_130 (ls' := [.val (.int x0), .val (.int x1), .val (.int x2), .val (.int x3), .val (.int x4), .val (.int x5), .val (.int d0), .val (.int d1), .val (.int d2), .val (.int 0), .val (.ref 0), .val (.int iw), .val (.int 2), .val (.int (x5 &&& 2147483647)), .unset, .unset, .unset]) rfl ?_
  refine Go.new [("restrictions", "[I", .null)] d0_132 (hw _ (List.mem_of_getElem? (i := 6) rfl)) (hw _ (List.mem_of_getElem? (i := 7) rfl)) (hw _ (List.mem_of_getElem? (i := 8) rfl)) (by decide) (fun f hf => ?_) (i := 1) rfl 14 127 (by decide) (by decide) ?_
  · simp only [List.mem_cons, List.not_mem_nil, or_false] at hf
    rcases hf with rfl
    · exact ⟨Or.inr (hw _ (List.mem_of_getElem? (i := 25) rfl)), _, (by decide : parseFieldDescriptor "[I" = some (.array .int)), rfl⟩
  show Go _ _ _ _ 135 [.val (.int x0), .val (.int x1), .val (.int x2), .val (.int x3), .val (.int x4), .val (.int x5), .val (.int d0), .val (.int d1), .val (.int d2), .val (.int 0), .val (.ref 0), .val (.int iw), .val (.int 2), .val (.int (x5 &&& 2147483647)), .unset, .unset, .unset] [.ref 1] [.inr (.int, []), .inl ("com/example/subsume/subsume/Nesting", [("restrictions", "[I", .null)])] _
  refine Go.dup d0_135 rfl ?_
  refine Go.aload d0_136 rfl rfl ?_
  refine Go.callI (M' := m2) (i := 1) d0_138 rfl rfl (hw _ (List.mem_of_getElem? (i := 9) rfl)) (hw _ (List.mem_of_getElem? (i := 10) rfl)) (hw _ (List.mem_of_getElem? (i := 8) rfl)) (hw _ (List.mem_of_getElem? (i := 11) rfl)) mi2 (as := [.ref 0]) rfl rfl (st := [.ref 1]) rfl (ls1 := [.val (.ref 1), .val (.ref 0), .unset]) rfl (W := 1) rfl (by decide) (by decide) (go_ctor0 K hw ) 13 127 (by decide) (by decide) ?_
  show Go _ _ _ _ 141 [.val (.int x0), .val (.int x1), .val (.int x2), .val (.int x3), .val (.int x4), .val (.int x5), .val (.int d0), .val (.int d1), .val (.int d2), .val (.int 0), .val (.ref 0), .val (.int iw), .val (.int 2), .val (.int (x5 &&& 2147483647)), .unset, .unset, .unset] [.ref 1] [.inr (.int, []), .inl ("com/example/subsume/subsume/Nesting", [("restrictions", "[I", .ref 2)]), .inr (.int, [])] _
  refine Go.astore d0_141 (ls' := [.val (.int x0), .val (.int x1), .val (.int x2), .val (.int x3), .val (.int x4), .val (.int x5), .val (.int d0), .val (.int d1), .val (.int d2), .val (.int 0), .val (.ref 0), .val (.int iw), .val (.int 2), .val (.int (x5 &&& 2147483647)), .val (.ref 1), .unset, .unset]) rfl rfl ?_
  refine Go.aload d0_143 rfl rfl ?_
  refine Go.iload d0_145 rfl ?_
  refine Go.iload d0_147 rfl ?_
  refine Go.callV (M' := m4) (i := 1) d0_149 rfl (hw _ (List.mem_of_getElem? (i := 26) rfl)) (hw _ (List.mem_of_getElem? (i := 28) rfl)) (hw _ (List.mem_of_getElem? (i := 8) rfl)) (hw _ (List.mem_of_getElem? (i := 27) rfl)) (hw _ (List.mem_of_getElem? (i := 29) rfl)) (hw _ (List.mem_of_getElem? (i := 30) rfl)) mi4 (as := [.int 2, .int (x5 &&& 2147483647)]) rfl rfl (st := []) rfl (ls1 := [.val (.ref 1), .val (.int 2), .val (.int (x5 &&& 2147483647))]) rfl (W := 0) rfl (by decide) (by decide) (go_cvN K hw _ 1 2 _ _ _ 0 rfl rfl rfl (by decide)) 13 127 (by decide) (by decide) ?_
  show Go _ _ _ _ 152 [.val (.int x0), .val (.int x1), .val (.int x2), .val (.int x3), .val (.int x4), .val (.int x5), .val (.int d0), .val (.int d1), .val (.int d2), .val (.int 0), .val (.ref 0), .val (.int iw), .val (.int 2), .val (.int (x5 &&& 2147483647)), .val (.ref 1), .unset, .unset] [.int 0] [.inr (.int, []), .inl ("com/example/subsume/subsume/Nesting", [("restrictions", "[I", .ref 2)]), .inr (.int, [])] _
  refine Go.istore d0_152 (ls' := [.val (.int x0), .val (.int x1), .val (.int x2), .val (.int x3), .val (.int x4), .val (.int x5), .val (.int d0), .val (.int d1), .val (.int d2), .val (.int 0), .val (.ref 0), .val (.int iw), .val (.int 2), .val (.int (x5 &&& 2147483647)), .val (.ref 1), .val (.int 0), .unset]) rfl ?_
  refine Go.iconst d0_154 (v := 0) rfl ?_
  refine Go.iload d0_155 rfl ?_
  refine Go.iload d0_157 rfl ?_
  refine Go.iload d0_159 rfl ?_
  refine Go.iload d0_161 rfl ?_
  refine Go.callS (M' := m5) d0_163 (hw _ (List.mem_of_getElem? (i := 31) rfl)) (hw _ (List.mem_of_getElem? (i := 32) rfl)) (hw _ (List.mem_of_getElem? (i := 2) rfl)) (hw _ (List.mem_of_getElem? (i := 33) rfl)) mi5 (as := [.int 0, .int 0, .int d0, .int 2, .int (x5 &&& 2147483647)]) rfl rfl (st := []) rfl (ls1 := [.val (.int 0), .val (.int 0), .val (.int d0), .val (.int 2), .val (.int (x5 &&& 2147483647))]) rfl (W := 0) rfl (by decide) (by decide) (go_own_cov K hw 0 0 d0 2 (x5 &&& 2147483647) _) 13 127 (by decide) (by decide) ?_
  show Go _ _ _ _ 166 [.val (.int x0), .val (.int x1), .val (.int x2), .val (.int x3), .val (.int x4), .val (.int x5), .val (.int d0), .val (.int d1), .val (.int d2), .val (.int 0), .val (.ref 0), .val (.int iw), .val (.int 2), .val (.int (x5 &&& 2147483647)), .val (.ref 1), .val (.int 0), .unset] [.int (own_cov 0 0 d0 2 (x5 &&& 2147483647))] [.inr (.int, []), .inl ("com/example/subsume/subsume/Nesting", [("restrictions", "[I", .ref 2)]), .inr (.int, [])] _
  refine Go.ifF d0_166 (XT.i0_ne_f (own_cz1 (by decide))) ?_
  refine Go.iconst d0_169 (v := 1) rfl ?_
  refine Go.iload d0_170 rfl ?_
  refine Go.iload d0_172 rfl ?_
  refine Go.iload d0_174 rfl ?_
  refine Go.iload d0_176 rfl ?_
  refine Go.callS (M' := m5) d0_178 (hw _ (List.mem_of_getElem? (i := 31) rfl)) (hw _ (List.mem_of_getElem? (i := 32) rfl)) (hw _ (List.mem_of_getElem? (i := 2) rfl)) (hw _ (List.mem_of_getElem? (i := 33) rfl)) mi5 (as := [.int 1, .int 0, .int d1, .int 2, .int (x5 &&& 2147483647)]) rfl rfl (st := []) rfl (ls1 := [.val (.int 1), .val (.int 0), .val (.int d1), .val (.int 2), .val (.int (x5 &&& 2147483647))]) rfl (W := 0) rfl (by decide) (by decide) (go_own_cov K hw 1 0 d1 2 (x5 &&& 2147483647) _) 13 127 (by decide) (by decide) ?_
  show Go _ _ _ _ 181 [.val (.int x0), .val (.int x1), .val (.int x2), .val (.int x3), .val (.int x4), .val (.int x5), .val (.int d0), .val (.int d1), .val (.int d2), .val (.int 0), .val (.ref 0), .val (.int iw), .val (.int 2), .val (.int (x5 &&& 2147483647)), .val (.ref 1), .val (.int 0), .unset] [.int (own_cov 1 0 d1 2 (x5 &&& 2147483647))] [.inr (.int, []), .inl ("com/example/subsume/subsume/Nesting", [("restrictions", "[I", .ref 2)]), .inr (.int, [])] _
  refine Go.ifF d0_181 (XT.i0_ne_f (own_cz1 (by decide))) ?_
  refine Go.iconst d0_184 (v := 2) rfl ?_
  refine Go.iload d0_185 rfl ?_
  refine Go.iload d0_187 rfl ?_
  refine Go.iload d0_189 rfl ?_
  refine Go.iload d0_191 rfl ?_
  refine Go.callS (M' := m5) d0_193 (hw _ (List.mem_of_getElem? (i := 31) rfl)) (hw _ (List.mem_of_getElem? (i := 32) rfl)) (hw _ (List.mem_of_getElem? (i := 2) rfl)) (hw _ (List.mem_of_getElem? (i := 33) rfl)) mi5 (as := [.int 2, .int 0, .int d2, .int 2, .int (x5 &&& 2147483647)]) rfl rfl (st := []) rfl (ls1 := [.val (.int 2), .val (.int 0), .val (.int d2), .val (.int 2), .val (.int (x5 &&& 2147483647))]) rfl (W := 0) rfl (by decide) (by decide) (go_own_cov K hw 2 0 d2 2 (x5 &&& 2147483647) _) 13 127 (by decide) (by decide) ?_
  show Go _ _ _ _ 196 [.val (.int x0), .val (.int x1), .val (.int x2), .val (.int x3), .val (.int x4), .val (.int x5), .val (.int d0), .val (.int d1), .val (.int d2), .val (.int 0), .val (.ref 0), .val (.int iw), .val (.int 2), .val (.int (x5 &&& 2147483647)), .val (.ref 1), .val (.int 0), .unset] [.int (own_cov 2 0 d2 2 (x5 &&& 2147483647))] [.inr (.int, []), .inl ("com/example/subsume/subsume/Nesting", [("restrictions", "[I", .ref 2)]), .inr (.int, [])] _
  refine Go.ifT d0_196 j0_196 (XT.i0_eq_t (own_cz2 (by decide) (by decide))) ?_
  refine Go.iconst d0_203 (v := 0) rfl ?_
  refine Go.istore d0_204 (ls' := [.val (.int x0), .val (.int x1), .val (.int x2), .val (.int x3), .val (.int x4), .val (.int x5), .val (.int d0), .val (.int d1), .val (.int d2), .val (.int 0), .val (.ref 0), .val (.int iw), .val (.int 2), .val (.int (x5 &&& 2147483647)), .val (.ref 1), .val (.int 0), .val (.int 0)]) rfl ?_
  refine Go.iload d0_206 rfl ?_
  refine Go.iload d0_208 rfl ?_
  refine Go.icmpF d0_210 (XT.ii_ne_f (by decide)) ?_
  refine Go.iconst d0_213 (v := 1) rfl ?_
  refine Go.goto d0_214 j0_214 ?_
  exact Go.ireturnZ d0_218 rfl (by decide) rfl HOk.any
theorem go_t125_0_ii (K : Ctx) (hw : ∀ d ∈ tables_1, d.before K.2.2.1 K.2.1 = true) (x0 x1 x2 x3 x4 x5 d0 d1 d2 iw ii : Int32) (hr : 0 ≤ (x5 &&& 2147483647).toInt) (h3 : ¬ ii < 3) : Go K m0 5 128 125 [.val (.int x0), .val (.int x1), .val (.int x2), .val (.int x3), .val (.int x4), .val (.int x5), .val (.int d0), .val (.int d1), .val (.int d2), .val (.int 0), .val (.ref 0), .val (.int iw), .val (.int ii), .unset, .unset, .unset, .unset] [] [.inr (.int, [])] (some (.int 1), none, 15, 128) := by
  refine Go.iload d0_125 rfl ?_
  refine Go.ldc d0_127 (hw _ (List.mem_of_getElem? (i := 5) rfl)) ?_
  refine Go.iand d0_129 ?_
  refine Go.istore d0_130 (ls' := [.val (.int x0), .val (.int x1), .val (.int x2), .val (.int x3), .val (.int x4), .val (.int x5), .val (.int d0), .val (.int d1), .val (.int d2), .val (.int 0), .val (.ref 0), .val (.int iw), .val (.int ii), .val (.int (x5 &&& 2147483647)), .unset, .unset, .unset]) rfl ?_
  refine Go.new [("restrictions", "[I", .null)] d0_132 (hw _ (List.mem_of_getElem? (i := 6) rfl)) (hw _ (List.mem_of_getElem? (i := 7) rfl)) (hw _ (List.mem_of_getElem? (i := 8) rfl)) (by decide) (fun f hf => ?_) (i := 1) rfl 14 127 (by decide) (by decide) ?_
  · simp only [List.mem_cons, List.not_mem_nil, or_false] at hf
    rcases hf with rfl
    · exact ⟨Or.inr (hw _ (List.mem_of_getElem? (i := 25) rfl)), _, (by decide : parseFieldDescriptor "[I" = some (.array .int)), rfl⟩
  show Go _ _ _ _ 135 [.val (.int x0), .val (.int x1), .val (.int x2), .val (.int x3), .val (.int x4), .val (.int x5), .val (.int d0), .val (.int d1), .val (.int d2), .val (.int 0), .val (.ref 0), .val (.int iw), .val (.int ii), .val (.int (x5 &&& 2147483647)), .unset, .unset, .unset] [.ref 1] [.inr (.int, []), .inl ("com/example/subsume/subsume/Nesting", [("restrictions", "[I", .null)])] _
  refine Go.dup d0_135 rfl ?_
  refine Go.aload d0_136 rfl rfl ?_
  refine Go.callI (M' := m2) (i := 1) d0_138 rfl rfl (hw _ (List.mem_of_getElem? (i := 9) rfl)) (hw _ (List.mem_of_getElem? (i := 10) rfl)) (hw _ (List.mem_of_getElem? (i := 8) rfl)) (hw _ (List.mem_of_getElem? (i := 11) rfl)) mi2 (as := [.ref 0]) rfl rfl (st := [.ref 1]) rfl (ls1 := [.val (.ref 1), .val (.ref 0), .unset]) rfl (W := 1) rfl (by decide) (by decide) (go_ctor0 K hw ) 13 127 (by decide) (by decide) ?_
  show Go _ _ _ _ 141 [.val (.int x0), .val (.int x1), .val (.int x2), .val (.int x3), .val (.int x4), .val (.int x5), .val (.int d0), .val (.int d1), .val (.int d2), .val (.int 0), .val (.ref 0), .val (.int iw), .val (.int ii), .val (.int (x5 &&& 2147483647)), .unset, .unset, .unset] [.ref 1] [.inr (.int, []), .inl ("com/example/subsume/subsume/Nesting", [("restrictions", "[I", .ref 2)]), .inr (.int, [])] _
  refine Go.astore d0_141 (ls' := [.val (.int x0), .val (.int x1), .val (.int x2), .val (.int x3), .val (.int x4), .val (.int x5), .val (.int d0), .val (.int d1), .val (.int d2), .val (.int 0), .val (.ref 0), .val (.int iw), .val (.int ii), .val (.int (x5 &&& 2147483647)), .val (.ref 1), .unset, .unset]) rfl rfl ?_
  refine Go.aload d0_143 rfl rfl ?_
  refine Go.iload d0_145 rfl ?_
  refine Go.iload d0_147 rfl ?_
  refine Go.callV (M' := m4) (i := 1) d0_149 rfl (hw _ (List.mem_of_getElem? (i := 26) rfl)) (hw _ (List.mem_of_getElem? (i := 28) rfl)) (hw _ (List.mem_of_getElem? (i := 8) rfl)) (hw _ (List.mem_of_getElem? (i := 27) rfl)) (hw _ (List.mem_of_getElem? (i := 29) rfl)) (hw _ (List.mem_of_getElem? (i := 30) rfl)) mi4 (as := [.int ii, .int (x5 &&& 2147483647)]) rfl rfl (st := []) rfl (ls1 := [.val (.ref 1), .val (.int ii), .val (.int (x5 &&& 2147483647))]) rfl (W := 0) rfl (by decide) (by decide) (go_cvN K hw _ 1 2 _ _ _ 0 rfl rfl rfl (own_ge h3 (by decide))) 13 127 (by decide) (by decide) ?_
  show Go _ _ _ _ 152 [.val (.int x0), .val (.int x1), .val (.int x2), .val (.int x3), .val (.int x4), .val (.int x5), .val (.int d0), .val (.int d1), .val (.int d2), .val (.int 0), .val (.ref 0), .val (.int iw), .val (.int ii), .val (.int (x5 &&& 2147483647)), .val (.ref 1), .unset, .unset] [.int 0] [.inr (.int, []), .inl ("com/example/subsume/subsume/Nesting", [("restrictions", "[I", .ref 2)]), .inr (.int, [])] _
  refine Go.istore d0_152 (ls' := [.val (.int x0), .val (.int x1), .val (.int x2), .val (.int x3), .val (.int x4), .val (.int x5), .val (.int d0), .val (.int d1), .val (.int d2), .val (.int 0), .val (.ref 0), .val (.int iw), .val (.int ii), .val (.int (x5 &&& 2147483647)), .val (.ref 1), .val (.int 0), .unset]) rfl ?_
  refine Go.iconst d0_154 (v := 0) rfl ?_
  refine Go.iload d0_155 rfl ?_
  refine Go.iload d0_157 rfl ?_
  refine Go.iload d0_159 rfl ?_
  refine Go.iload d0_161 rfl ?_
  refine Go.callS (M' := m5) d0_163 (hw _ (List.mem_of_getElem? (i := 31) rfl)) (hw _ (List.mem_of_getElem? (i := 32) rfl)) (hw _ (List.mem_of_getElem? (i := 2) rfl)) (hw _ (List.mem_of_getElem? (i := 33) rfl)) mi5 (as := [.int 0, .int 0, .int d0, .int ii, .int (x5 &&& 2147483647)]) rfl rfl (st := []) rfl (ls1 := [.val (.int 0), .val (.int 0), .val (.int d0), .val (.int ii), .val (.int (x5 &&& 2147483647))]) rfl (W := 0) rfl (by decide) (by decide) (go_own_cov K hw 0 0 d0 ii (x5 &&& 2147483647) _) 13 127 (by decide) (by decide) ?_
  show Go _ _ _ _ 166 [.val (.int x0), .val (.int x1), .val (.int x2), .val (.int x3), .val (.int x4), .val (.int x5), .val (.int d0), .val (.int d1), .val (.int d2), .val (.int 0), .val (.ref 0), .val (.int iw), .val (.int ii), .val (.int (x5 &&& 2147483647)), .val (.ref 1), .val (.int 0), .unset] [.int (own_cov 0 0 d0 ii (x5 &&& 2147483647))] [.inr (.int, []), .inl ("com/example/subsume/subsume/Nesting", [("restrictions", "[I", .ref 2)]), .inr (.int, [])] _
  refine Go.ifF d0_166 (XT.i0_ne_f (own_c3 (by decide) h3)) ?_
  refine Go.iconst d0_169 (v := 1) rfl ?_
  refine Go.iload d0_170 rfl ?_
  refine Go.iload d0_172 rfl ?_
  refine Go.iload d0_174 rfl ?_
  refine Go.iload d0_176 rfl ?_
  refine Go.callS (M' := m5) d0_178 (hw _ (List.mem_of_getElem? (i := 31) rfl)) (hw _ (List.mem_of_getElem? (i := 32) rfl)) (hw _ (List.mem_of_getElem? (i := 2) rfl)) (hw _ (List.mem_of_getElem? (i := 33) rfl)) mi5 (as := [.int 1, .int 0, .int d1, .int ii, .int (x5 &&& 2147483647)]) rfl rfl (st := []) rfl (ls1 := [.val (.int 1), .val (.int 0), .val (.int d1), .val (.int ii), .val (.int (x5 &&& 2147483647))]) rfl (W := 0) rfl (by decide) (by decide) (go_own_cov K hw 1 0 d1 ii (x5 &&& 2147483647) _) 13 127 (by decide) (by decide) ?_
  show Go _ _ _ _ 181 [.val (.int x0), .val (.int x1), .val (.int x2), .val (.int x3), .val (.int x4), .val (.int x5), .val (.int d0), .val (.int d1), .val (.int d2), .val (.int 0), .val (.ref 0), .val (.int iw), .val (.int ii), .val (.int (x5 &&& 2147483647)), .val (.ref 1), .val (.int 0), .unset] [.int (own_cov 1 0 d1 ii (x5 &&& 2147483647))] [.inr (.int, []), .inl ("com/example/subsume/subsume/Nesting", [("restrictions", "[I", .ref 2)]), .inr (.int, [])] _
  refine Go.ifF d0_181 (XT.i0_ne_f (own_c3 (by decide) h3)) ?_
  refine Go.iconst d0_184 (v := 2) rfl ?_
  refine Go.iload d0_185 rfl ?_
  refine Go.iload d0_187 rfl ?_
  refine Go.iload d0_189 rfl ?_
  refine Go.iload d0_191 rfl ?_
  refine Go.callS (M' := m5) d0_193 (hw _ (List.mem_of_getElem? (i := 31) rfl)) (hw _ (List.mem_of_getElem? (i := 32) rfl)) (hw _ (List.mem_of_getElem? (i := 2) rfl)) (hw _ (List.mem_of_getElem? (i := 33) rfl)) mi5 (as := [.int 2, .int 0, .int d2, .int ii, .int (x5 &&& 2147483647)]) rfl rfl (st := []) rfl (ls1 := [.val (.int 2), .val (.int 0), .val (.int d2), .val (.int ii), .val (.int (x5 &&& 2147483647))]) rfl (W := 0) rfl (by decide) (by decide) (go_own_cov K hw 2 0 d2 ii (x5 &&& 2147483647) _) 13 127 (by decide) (by decide) ?_
  show Go _ _ _ _ 196 [.val (.int x0), .val (.int x1), .val (.int x2), .val (.int x3), .val (.int x4), .val (.int x5), .val (.int d0), .val (.int d1), .val (.int d2), .val (.int 0), .val (.ref 0), .val (.int iw), .val (.int ii), .val (.int (x5 &&& 2147483647)), .val (.ref 1), .val (.int 0), .unset] [.int (own_cov 2 0 d2 ii (x5 &&& 2147483647))] [.inr (.int, []), .inl ("com/example/subsume/subsume/Nesting", [("restrictions", "[I", .ref 2)]), .inr (.int, [])] _
  refine Go.ifT d0_196 j0_196 (XT.i0_eq_t (own_c3 (by decide) h3)) ?_
  refine Go.iconst d0_203 (v := 0) rfl ?_
  refine Go.istore d0_204 (ls' := [.val (.int x0), .val (.int x1), .val (.int x2), .val (.int x3), .val (.int x4), .val (.int x5), .val (.int d0), .val (.int d1), .val (.int d2), .val (.int 0), .val (.ref 0), .val (.int iw), .val (.int ii), .val (.int (x5 &&& 2147483647)), .val (.ref 1), .val (.int 0), .val (.int 0)]) rfl ?_
  refine Go.iload d0_206 rfl ?_
  refine Go.iload d0_208 rfl ?_
  refine Go.icmpF d0_210 (XT.ii_ne_f (by decide)) ?_
  refine Go.iconst d0_213 (v := 1) rfl ?_
  refine Go.goto d0_214 j0_214 ?_
  exact Go.ireturnZ d0_218 rfl (by decide) rfl HOk.any
theorem go_t125_0 (K : Ctx) (hw : ∀ d ∈ tables_1, d.before K.2.2.1 K.2.1 = true) (x0 x1 x2 x3 x4 x5 d0 d1 d2 iw ii : Int32) (hr : 0 ≤ (x5 &&& 2147483647).toInt) (hi : ¬ ii < 0) : Go K m0 5 128 125 [.val (.int x0), .val (.int x1), .val (.int x2), .val (.int x3), .val (.int x4), .val (.int x5), .val (.int d0), .val (.int d1), .val (.int d2), .val (.int 0), .val (.ref 0), .val (.int iw), .val (.int ii), .unset, .unset, .unset, .unset] [] [.inr (.int, [])] (some (.int 1), none, 15, 128) := by
  rcases own_ii hi with rfl | rfl | rfl | h3
  · exact go_t125_0_0 K hw _ _ _ _ _ _ _ _ _ _  hr
  · exact go_t125_0_1 K hw _ _ _ _ _ _ _ _ _ _  hr
  · exact go_t125_0_2 K hw _ _ _ _ _ _ _ _ _ _  hr
  · exact go_t125_0_ii K hw _ _ _ _ _ _ _ _ _ _ _  hr h3
theorem go_t125_1_0 (K : Ctx) (hw : ∀ d ∈ tables_1, d.before K.2.2.1 K.2.1 = true) (x0 x1 x2 x3 x4 x5 d0 d1 d2 iw : Int32) (hr : 0 ≤ (x5 &&& 2147483647).toInt) : Go K m0 5 128 125 [.val (.int x0), .val (.int x1), .val (.int x2), .val (.int x3), .val (.int x4), .val (.int x5), .val (.int d0), .val (.int d1), .val (.int d2), .val (.int 1), .val (.ref 0), .val (.int iw), .val (.int 0), .unset, .unset, .unset, .unset] [] [.inr (.int, [.int d0])] (some (.int 1), none, 15, 127) := by
  refine Go.iload d0_125 rfl ?_
  refine Go.ldc d0_127 (hw _ (List.mem_of_getElem? (i := 5) rfl)) ?_
  refine Go.iand d0_129 ?_
  refine Go.istore d0_130 (ls' := [.val (.int x0), .val (.int x1), .val (.int x2), .val (.int x3), .val (.int x4), .val (.int x5), .val (.int d0), .val (.int d1), .val (.int d2), .val (.int 1), .val (.ref 0), .val (.int iw), .val (.int 0), .val (.int (x5 &&& 2147483647)), .unset, .unset, .unset]) rfl ?_
  refine Go.new [("restrictions", "[I", .null)] d0_132 (hw _ (List.mem_of_getElem? (i := 6) rfl)) (hw _ (List.mem_of_getElem? (i := 7) rfl)) (hw _ (List.mem_of_getElem? (i := 8) rfl)) (by decide) (fun f hf => ?_) (i := 1) rfl 14 126 (by decide) (by decide) ?_
  · simp only [List.mem_cons, List.not_mem_nil, or_false] at hf
    rcases hf with rfl
    · exact ⟨Or.inr (hw _ (List.mem_of_getElem? (i := 25) rfl)), _, (by decide : parseFieldDescriptor "[I" = some (.array .int)), rfl⟩
  show Go _ _ _ _ 135 [.val (.int x0), .val (.int x1), .val (.int x2), .val (.int x3), .val (.int x4), .val (.int x5), .val (.int d0), .val (.int d1), .val (.int d2), .val (.int 1), .val (.ref 0), .val (.int iw), .val (.int 0), .val (.int (x5 &&& 2147483647)), .unset, .unset, .unset] [.ref 1] [.inr (.int, [.int d0]), .inl ("com/example/subsume/subsume/Nesting", [("restrictions", "[I", .null)])] _
  refine Go.dup d0_135 rfl ?_
  refine Go.aload d0_136 rfl rfl ?_
  refine Go.callI (M' := m2) (i := 1) d0_138 rfl rfl (hw _ (List.mem_of_getElem? (i := 9) rfl)) (hw _ (List.mem_of_getElem? (i := 10) rfl)) (hw _ (List.mem_of_getElem? (i := 8) rfl)) (hw _ (List.mem_of_getElem? (i := 11) rfl)) mi2 (as := [.ref 0]) rfl rfl (st := [.ref 1]) rfl (ls1 := [.val (.ref 1), .val (.ref 0), .unset]) rfl (W := 1) rfl (by decide) (by decide) (go_ctor1 K hw d0) 13 125 (by decide) (by decide) ?_
  show Go _ _ _ _ 141 [.val (.int x0), .val (.int x1), .val (.int x2), .val (.int x3), .val (.int x4), .val (.int x5), .val (.int d0), .val (.int d1), .val (.int d2), .val (.int 1), .val (.ref 0), .val (.int iw), .val (.int 0), .val (.int (x5 &&& 2147483647)), .unset, .unset, .unset] [.ref 1] [.inr (.int, [.int d0]), .inl ("com/example/subsume/subsume/Nesting", [("restrictions", "[I", .ref 2)]), .inr (.int, [.int d0])] _
  refine Go.astore d0_141 (ls' := [.val (.int x0), .val (.int x1), .val (.int x2), .val (.int x3), .val (.int x4), .val (.int x5), .val (.int d0), .val (.int d1), .val (.int d2), .val (.int 1), .val (.ref 0), .val (.int iw), .val (.int 0), .val (.int (x5 &&& 2147483647)), .val (.ref 1), .unset, .unset]) rfl rfl ?_
  refine Go.aload d0_143 rfl rfl ?_
  refine Go.iload d0_145 rfl ?_
  refine Go.iload d0_147 rfl ?_
  refine Go.callV (M' := m4) (i := 1) d0_149 rfl (hw _ (List.mem_of_getElem? (i := 26) rfl)) (hw _ (List.mem_of_getElem? (i := 28) rfl)) (hw _ (List.mem_of_getElem? (i := 8) rfl)) (hw _ (List.mem_of_getElem? (i := 27) rfl)) (hw _ (List.mem_of_getElem? (i := 29) rfl)) (hw _ (List.mem_of_getElem? (i := 30) rfl)) mi4 (as := [.int 0, .int (x5 &&& 2147483647)]) rfl rfl (st := []) rfl (ls1 := [.val (.ref 1), .val (.int 0), .val (.int (x5 &&& 2147483647))]) rfl (W := 0) rfl (by decide) (by decide) (go_own_cv K hw _ 1 2 _ 0 _ 1 _ rfl rfl rfl (by decide) (by decide) rfl) 13 125 (by decide) (by decide) ?_
  show Go _ _ _ _ 152 [.val (.int x0), .val (.int x1), .val (.int x2), .val (.int x3), .val (.int x4), .val (.int x5), .val (.int d0), .val (.int d1), .val (.int d2), .val (.int 1), .val (.ref 0), .val (.int iw), .val (.int 0), .val (.int (x5 &&& 2147483647)), .val (.ref 1), .unset, .unset] [.int (own_cv d0 (x5 &&& 2147483647))] [.inr (.int, [.int d0]), .inl ("com/example/subsume/subsume/Nesting", [("restrictions", "[I", .ref 2)]), .inr (.int, [.int d0])] _
  refine Go.istore d0_152 (ls' := [.val (.int x0), .val (.int x1), .val (.int x2), .val (.int x3), .val (.int x4), .val (.int x5), .val (.int d0), .val (.int d1), .val (.int d2), .val (.int 1), .val (.ref 0), .val (.int iw), .val (.int 0), .val (.int (x5 &&& 2147483647)), .val (.ref 1), .val (.int (own_cv d0 (x5 &&& 2147483647))), .unset]) rfl ?_
  refine Go.iconst d0_154 (v := 0) rfl ?_
  refine Go.iload d0_155 rfl ?_
  refine Go.iload d0_157 rfl ?_
  refine Go.iload d0_159 rfl ?_
  refine Go.iload d0_161 rfl ?_
  refine Go.callS (M' := m5) d0_163 (hw _ (List.mem_of_getElem? (i := 31) rfl)) (hw _ (List.mem_of_getElem? (i := 32) rfl)) (hw _ (List.mem_of_getElem? (i := 2) rfl)) (hw _ (List.mem_of_getElem? (i := 33) rfl)) mi5 (as := [.int 0, .int 1, .int d0, .int 0, .int (x5 &&& 2147483647)]) rfl rfl (st := []) rfl (ls1 := [.val (.int 0), .val (.int 1), .val (.int d0), .val (.int 0), .val (.int (x5 &&& 2147483647))]) rfl (W := 0) rfl (by decide) (by decide) (go_own_cov K hw 0 1 d0 0 (x5 &&& 2147483647) _) 13 125 (by decide) (by decide) ?_
  show Go _ _ _ _ 166 [.val (.int x0), .val (.int x1), .val (.int x2), .val (.int x3), .val (.int x4), .val (.int x5), .val (.int d0), .val (.int d1), .val (.int d2), .val (.int 1), .val (.ref 0), .val (.int iw), .val (.int 0), .val (.int (x5 &&& 2147483647)), .val (.ref 1), .val (.int (own_cv d0 (x5 &&& 2147483647))), .unset] [.int (own_cov 0 1 d0 0 (x5 &&& 2147483647))] [.inr (.int, [.int d0]), .inl ("com/example/subsume/subsume/Nesting", [("restrictions", "[I", .ref 2)]), .inr (.int, [.int d0])] _
  refine Go.if_ne d0_166 j0_166 (fun h166 => ?_) (fun h166 => ?_)
  · -- pc 166 taken
    refine Go.iconst d0_199 (v := 1) rfl ?_
    refine Go.goto d0_200 j0_200 ?_
    refine Go.istore d0_204 (ls' := [.val (.int x0), .val (.int x1), .val (.int x2), .val (.int x3), .val (.int x4), .val (.int x5), .val (.int d0), .val (.int d1), .val (.int d2), .val (.int 1), .val (.ref 0), .val (.int iw), .val (.int 0), .val (.int (x5 &&& 2147483647)), .val (.ref 1), .val (.int (own_cv d0 (x5 &&& 2147483647))), .val (.int 1)]) rfl ?_
    refine Go.iload d0_206 rfl ?_
    refine Go.iload d0_208 rfl ?_
    refine Go.icmpF d0_210 (XT.ii_ne_f (by
                        simp only [own_covz, own_lits] at h166
                        exact own_fp (by (try simp only [own_maxv]); omega))) ?_
    refine Go.iconst d0_213 (v := 1) rfl ?_
    refine Go.goto d0_214 j0_214 ?_
    exact Go.ireturnZ d0_218 rfl (by decide) rfl HOk.any
  · -- pc 166 not taken
    refine Go.iconst d0_169 (v := 1) rfl ?_
    refine Go.iload d0_170 rfl ?_
    refine Go.iload d0_172 rfl ?_
    refine Go.iload d0_174 rfl ?_
    refine Go.iload d0_176 rfl ?_
    refine Go.callS (M' := m5) d0_178 (hw _ (List.mem_of_getElem? (i := 31) rfl)) (hw _ (List.mem_of_getElem? (i := 32) rfl)) (hw _ (List.mem_of_getElem? (i := 2) rfl)) (hw _ (List.mem_of_getElem? (i := 33) rfl)) mi5 (as := [.int 1, .int 1, .int d1, .int 0, .int (x5 &&& 2147483647)]) rfl rfl (st := []) rfl (ls1 := [.val (.int 1), .val (.int 1), .val (.int d1), .val (.int 0), .val (.int (x5 &&& 2147483647))]) rfl (W := 0) rfl (by decide) (by decide) (go_own_cov K hw 1 1 d1 0 (x5 &&& 2147483647) _) 13 125 (by decide) (by decide) ?_
    show Go _ _ _ _ 181 [.val (.int x0), .val (.int x1), .val (.int x2), .val (.int x3), .val (.int x4), .val (.int x5), .val (.int d0), .val (.int d1), .val (.int d2), .val (.int 1), .val (.ref 0), .val (.int iw), .val (.int 0), .val (.int (x5 &&& 2147483647)), .val (.ref 1), .val (.int (own_cv d0 (x5 &&& 2147483647))), .unset] [.int (own_cov 1 1 d1 0 (x5 &&& 2147483647))] [.inr (.int, [.int d0]), .inl ("com/example/subsume/subsume/Nesting", [("restrictions", "[I", .ref 2)]), .inr (.int, [.int d0])] _
    refine Go.ifF d0_181 (XT.i0_ne_f (own_cz2 (by decide) (by decide))) ?_
    refine Go.iconst d0_184 (v := 2) rfl ?_
    refine Go.iload d0_185 rfl ?_
    refine Go.iload d0_187 rfl ?_
    refine Go.iload d0_189 rfl ?_
    refine Go.iload d0_191 rfl ?_
    refine Go.callS (M' := m5) d0_193 (hw _ (List.mem_of_getElem? (i := 31) rfl)) (hw _ (List.mem_of_getElem? (i := 32) rfl)) (hw _ (List.mem_of_getElem? (i := 2) rfl)) (hw _ (List.mem_of_getElem? (i := 33) rfl)) mi5 (as := [.int 2, .int 1, .int d2, .int 0, .int (x5 &&& 2147483647)]) rfl rfl (st := []) rfl (ls1 := [.val (.int 2), .val (.int 1), .val (.int d2), .val (.int 0), .val (.int (x5 &&& 2147483647))]) rfl (W := 0) rfl (by decide) (by decide) (go_own_cov K hw 2 1 d2 0 (x5 &&& 2147483647) _) 13 125 (by decide) (by decide) ?_
    show Go _ _ _ _ 196 [.val (.int x0), .val (.int x1), .val (.int x2), .val (.int x3), .val (.int x4), .val (.int x5), .val (.int d0), .val (.int d1), .val (.int d2), .val (.int 1), .val (.ref 0), .val (.int iw), .val (.int 0), .val (.int (x5 &&& 2147483647)), .val (.ref 1), .val (.int (own_cv d0 (x5 &&& 2147483647))), .unset] [.int (own_cov 2 1 d2 0 (x5 &&& 2147483647))] [.inr (.int, [.int d0]), .inl ("com/example/subsume/subsume/Nesting", [("restrictions", "[I", .ref 2)]), .inr (.int, [.int d0])] _
    refine Go.ifT d0_196 j0_196 (XT.i0_eq_t (own_cz2 (by decide) (by decide))) ?_
    refine Go.iconst d0_203 (v := 0) rfl ?_
    refine Go.istore d0_204 (ls' := [.val (.int x0), .val (.int x1), .val (.int x2), .val (.int x3), .val (.int x4), .val (.int x5), .val (.int d0), .val (.int d1), .val (.int d2), .val (.int 1), .val (.ref 0), .val (.int iw), .val (.int 0), .val (.int (x5 &&& 2147483647)), .val (.ref 1), .val (.int (own_cv d0 (x5 &&& 2147483647))), .val (.int 0)]) rfl ?_
    refine Go.iload d0_206 rfl ?_
    refine Go.iload d0_208 rfl ?_
    refine Go.icmpF d0_210 (XT.ii_ne_f (by
                        simp only [own_covz, own_lits] at h166
                        exact own_fn (by (try simp only [own_maxv]); omega))) ?_
    refine Go.iconst d0_213 (v := 1) rfl ?_
    refine Go.goto d0_214 j0_214 ?_
    exact Go.ireturnZ d0_218 rfl (by decide) rfl HOk.any
theorem go_t125_1_1 (K : Ctx) (hw : ∀ d ∈ tables_1, d.before K.2.2.1 K.2.1 = true) (x0 x1 x2 x3 x4 x5 d0 d1 d2 iw : Int32) (hr : 0 ≤ (x5 &&& 2147483647).toInt) : Go K m0 5 128 125 [.val (.int x0), .val (.int x1), .val (.int x2), .val (.int x3), .val (.int x4), .val (.int x5), .val (.int d0), .val (.int d1), .val (.int d2), .val (.int 1), .val (.ref 0), .val (.int iw), .val (.int 1), .unset, .unset, .unset, .unset] [] [.inr (.int, [.int d0])] (some (.int 1), none, 15, 127) := by
  refine Go.iload d0_125 rfl ?_
  refine Go.ldc d0_127 (hw _ (List.mem_of_getElem? (i := 5) rfl)) ?_
  refine Go.iand d0_129 ?_
  refine Go.istore d0_130 (ls' := [.val (.int x0), .val (.int x1), .val (.int x2), .val (.int x3), .val (.int x4), .val (.int x5), .val (.int d0), .val (.int d1), .val (.int d2), .val (.int 1), .val (.ref 0), .val (.int iw), .val (.int 1), .val (.int (x5 &&& 2147483647)), .unset, .unset, .unset]) rfl ?_
  refine Go.new [("restrictions", "[I", .null)] d0_132 (hw _ (List.mem_of_getElem? (i := 6) rfl)) (hw _ (List.mem_of_getElem? (i := 7) rfl)) (hw _ (List.mem_of_getElem? (i := 8) rfl)) (by decide) (fun f hf => ?_) (i := 1) rfl 14 126 (by decide) (by decide) ?_
  · simp only [List.mem_cons, List.not_mem_nil, or_false] at hf
    rcases hf with rfl
    · exact ⟨Or.inr (hw _ (List.mem_of_getElem? (i := 25) rfl)), _, (by decide : parseFieldDescriptor "[I" = some (.array .int)), rfl⟩
  show Go _ _ _ _ 135 [.val (.int x0), .val (.int x1), .val (.int x2), .val (.int x3), .val (.int x4), .val (.int x5), .val (.int d0), .val (.int d1), .val (.int d2), .val (.int 1), .val (.ref 0), .val (.int iw), .val (.int 1), .val (.int (x5 &&& 2147483647)), .unset, .unset, .unset] [.ref 1] [.inr (.int, [.int d0]), .inl ("com/example/subsume/subsume/Nesting", [("restrictions", "[I", .null)])] _
  refine Go.dup d0_135 rfl ?_
  refine Go.aload d0_136 rfl rfl ?_
  refine Go.callI (M' := m2) (i := 1) d0_138 rfl rfl (hw _ (List.mem_of_getElem? (i := 9) rfl)) (hw _ (List.mem_of_getElem? (i := 10) rfl)) (hw _ (List.mem_of_getElem? (i := 8) rfl)) (hw _ (List.mem_of_getElem? (i := 11) rfl)) mi2 (as := [.ref 0]) rfl rfl (st := [.ref 1]) rfl (ls1 := [.val (.ref 1), .val (.ref 0), .unset]) rfl (W := 1) rfl (by decide) (by decide) (go_ctor1 K hw d0) 13 125 (by decide) (by decide) ?_
  show Go _ _ _ _ 141 [.val (.int x0), .val (.int x1), .val (.int x2), .val (.int x3), .val (.int x4), .val (.int x5), .val (.int d0), .val (.int d1), .val (.int d2), .val (.int 1), .val (.ref 0), .val (.int iw), .val (.int 1), .val (.int (x5 &&& 2147483647)), .unset, .unset, .unset] [.ref 1] [.inr (.int, [.int d0]), .inl ("com/example/subsume/subsume/Nesting", [("restrictions", "[I", .ref 2)]), .inr (.int, [.int d0])] _
  refine Go.astore d0_141 (ls' := [.val (.int x0), .val (.int x1), .val (.int x2), .val (.int x3), .val (.int x4), .val (.int x5), .val (.int d0), .val (.int d1), .val (.int d2), .val (.int 1), .val (.ref 0), .val (.int iw), .val (.int 1), .val (.int (x5 &&& 2147483647)), .val (.ref 1), .unset, .unset]) rfl rfl ?_
  refine Go.aload d0_143 rfl rfl ?_
  refine Go.iload d0_145 rfl ?_
  refine Go.iload d0_147 rfl ?_
  refine Go.callV (M' := m4) (i := 1) d0_149 rfl (hw _ (List.mem_of_getElem? (i := 26) rfl)) (hw _ (List.mem_of_getElem? (i := 28) rfl)) (hw _ (List.mem_of_getElem? (i := 8) rfl)) (hw _ (List.mem_of_getElem? (i := 27) rfl)) (hw _ (List.mem_of_getElem? (i := 29) rfl)) (hw _ (List.mem_of_getElem? (i := 30) rfl)) mi4 (as := [.int 1, .int (x5 &&& 2147483647)]) rfl rfl (st := []) rfl (ls1 := [.val (.ref 1), .val (.int 1), .val (.int (x5 &&& 2147483647))]) rfl (W := 0) rfl (by decide) (by decide) (go_cvN K hw _ 1 2 _ _ _ 1 rfl rfl rfl (by decide)) 13 125 (by decide) (by decide) ?_
  show Go _ _ _ _ 152 [.val (.int x0), .val (.int x1), .val (.int x2), .val (.int x3), .val (.int x4), .val (.int x5), .val (.int d0), .val (.int d1), .val (.int d2), .val (.int 1), .val (.ref 0), .val (.int iw), .val (.int 1), .val (.int (x5 &&& 2147483647)), .val (.ref 1), .unset, .unset] [.int 0] [.inr (.int, [.int d0]), .inl ("com/example/subsume/subsume/Nesting", [("restrictions", "[I", .ref 2)]), .inr (.int, [.int d0])] _
  refine Go.istore d0_152 (ls' := [.val (.int x0), .val (.int x1), .val (.int x2), .val (.int x3), .val (.int x4), .val (.int x5), .val (.int d0), .val (.int d1), .val (.int d2), .val (.int 1), .val (.ref 0), .val (.int iw), .val (.int 1), .val (.int (x5 &&& 2147483647)), .val (.ref 1), .val (.int 0), .unset]) rfl ?_
  refine Go.iconst d0_154 (v := 0) rfl ?_
  refine Go.iload d0_155 rfl ?_
  refine Go.iload d0_157 rfl ?_
  refine Go.iload d0_159 rfl ?_
  refine Go.iload d0_161 rfl ?_
  refine Go.callS (M' := m5) d0_163 (hw _ (List.mem_of_getElem? (i := 31) rfl)) (hw _ (List.mem_of_getElem? (i := 32) rfl)) (hw _ (List.mem_of_getElem? (i := 2) rfl)) (hw _ (List.mem_of_getElem? (i := 33) rfl)) mi5 (as := [.int 0, .int 1, .int d0, .int 1, .int (x5 &&& 2147483647)]) rfl rfl (st := []) rfl (ls1 := [.val (.int 0), .val (.int 1), .val (.int d0), .val (.int 1), .val (.int (x5 &&& 2147483647))]) rfl (W := 0) rfl (by decide) (by decide) (go_own_cov K hw 0 1 d0 1 (x5 &&& 2147483647) _) 13 125 (by decide) (by decide) ?_
  show Go _ _ _ _ 166 [.val (.int x0), .val (.int x1), .val (.int x2), .val (.int x3), .val (.int x4), .val (.int x5), .val (.int d0), .val (.int d1), .val (.int d2), .val (.int 1), .val (.ref 0), .val (.int iw), .val (.int 1), .val (.int (x5 &&& 2147483647)), .val (.ref 1), .val (.int 0), .unset] [.int (own_cov 0 1 d0 1 (x5 &&& 2147483647))] [.inr (.int, [.int d0]), .inl ("com/example/subsume/subsume/Nesting", [("restrictions", "[I", .ref 2)]), .inr (.int, [.int d0])] _
  refine Go.ifF d0_166 (XT.i0_ne_f (own_cz1 (by decide))) ?_
  refine Go.iconst d0_169 (v := 1) rfl ?_
  refine Go.iload d0_170 rfl ?_
  refine Go.iload d0_172 rfl ?_
  refine Go.iload d0_174 rfl ?_
  refine Go.iload d0_176 rfl ?_
  refine Go.callS (M' := m5) d0_178 (hw _ (List.mem_of_getElem? (i := 31) rfl)) (hw _ (List.mem_of_getElem? (i := 32) rfl)) (hw _ (List.mem_of_getElem? (i := 2) rfl)) (hw _ (List.mem_of_getElem? (i := 33) rfl)) mi5 (as := [.int 1, .int 1, .int d1, .int 1, .int (x5 &&& 2147483647)]) rfl rfl (st := []) rfl (ls1 := [.val (.int 1), .val (.int 1), .val (.int d1), .val (.int 1), .val (.int (x5 &&& 2147483647))]) rfl (W := 0) rfl (by decide) (by decide) (go_own_cov K hw 1 1 d1 1 (x5 &&& 2147483647) _) 13 125 (by decide) (by decide) ?_
  show Go _ _ _ _ 181 [.val (.int x0), .val (.int x1), .val (.int x2), .val (.int x3), .val (.int x4), .val (.int x5), .val (.int d0), .val (.int d1), .val (.int d2), .val (.int 1), .val (.ref 0), .val (.int iw), .val (.int 1), .val (.int (x5 &&& 2147483647)), .val (.ref 1), .val (.int 0), .unset] [.int (own_cov 1 1 d1 1 (x5 &&& 2147483647))] [.inr (.int, [.int d0]), .inl ("com/example/subsume/subsume/Nesting", [("restrictions", "[I", .ref 2)]), .inr (.int, [.int d0])] _
  refine Go.ifF d0_181 (XT.i0_ne_f (own_cz2 (by decide) (by decide))) ?_
  refine Go.iconst d0_184 (v := 2) rfl ?_
  refine Go.iload d0_185 rfl ?_
  refine Go.iload d0_187 rfl ?_
  refine Go.iload d0_189 rfl ?_
  refine Go.iload d0_191 rfl ?_
  refine Go.callS (M' := m5) d0_193 (hw _ (List.mem_of_getElem? (i := 31) rfl)) (hw _ (List.mem_of_getElem? (i := 32) rfl)) (hw _ (List.mem_of_getElem? (i := 2) rfl)) (hw _ (List.mem_of_getElem? (i := 33) rfl)) mi5 (as := [.int 2, .int 1, .int d2, .int 1, .int (x5 &&& 2147483647)]) rfl rfl (st := []) rfl (ls1 := [.val (.int 2), .val (.int 1), .val (.int d2), .val (.int 1), .val (.int (x5 &&& 2147483647))]) rfl (W := 0) rfl (by decide) (by decide) (go_own_cov K hw 2 1 d2 1 (x5 &&& 2147483647) _) 13 125 (by decide) (by decide) ?_
  show Go _ _ _ _ 196 [.val (.int x0), .val (.int x1), .val (.int x2), .val (.int x3), .val (.int x4), .val (.int x5), .val (.int d0), .val (.int d1), .val (.int d2), .val (.int 1), .val (.ref 0), .val (.int iw), .val (.int 1), .val (.int (x5 &&& 2147483647)), .val (.ref 1), .val (.int 0), .unset] [.int (own_cov 2 1 d2 1 (x5 &&& 2147483647))] [.inr (.int, [.int d0]), .inl ("com/example/subsume/subsume/Nesting", [("restrictions", "[I", .ref 2)]), .inr (.int, [.int d0])] _
  refine Go.ifT d0_196 j0_196 (XT.i0_eq_t (own_cz2 (by decide) (by decide))) ?_
  refine Go.iconst d0_203 (v := 0) rfl ?_
  refine Go.istore d0_204 (ls' := [.val (.int x0), .val (.int x1), .val (.int x2), .val (.int x3), .val (.int x4), .val (.int x5), .val (.int d0), .val (.int d1), .val (.int d2), .val (.int 1), .val (.ref 0), .val (.int iw), .val (.int 1), .val (.int (x5 &&& 2147483647)), .val (.ref 1), .val (.int 0), .val (.int 0)]) rfl ?_
  refine Go.iload d0_206 rfl ?_
  refine Go.iload d0_208 rfl ?_
  refine Go.icmpF d0_210 (XT.ii_ne_f (by decide)) ?_
  refine Go.iconst d0_213 (v := 1) rfl ?_
  refine Go.goto d0_214 j0_214 ?_
  exact Go.ireturnZ d0_218 rfl (by decide) rfl HOk.any
theorem go_t125_1_2 (K : Ctx) (hw : ∀ d ∈ tables_1, d.before K.2.2.1 K.2.1 = true) (x0 x1 x2 x3 x4 x5 d0 d1 d2 iw : Int32) (hr : 0 ≤ (x5 &&& 2147483647).toInt) : Go K m0 5 128 125 [.val (.int x0), .val (.int x1), .val (.int x2), .val (.int x3), .val (.int x4), .val (.int x5), .val (.int d0), .val (.int d1), .val (.int d2), .val (.int 1), .val (.ref 0), .val (.int iw), .val (.int 2), .unset, .unset, .unset, .unset] [] [.inr (.int, [.int d0])] (some (.int 1), none, 15, 127) := by
  refine Go.iload d0_125 rfl ?_
  refine Go.ldc d0_127 (hw _ (List.mem_of_getElem? (i := 5) rfl)) ?_
  refine Go.iand d0_129 ?_
  refine Go.istore d0_130 (ls' := [.val (.int x0), .val (.int x1), .val (.int x2), .val (.int x3), .val (.int x4), .val (.int x5), .val (.int d0), .val (.int d1), .val (.int d2), .val (.int 1), .val (.ref 0), .val (.int iw), .val (.int 2), .val (.int (x5 &&& 2147483647)), .unset, .unset, .unset]) rfl ?_
  refine Go.new [("restrictions", "[I", .null)] d0_132 (hw _ (List.mem_of_getElem? (i := 6) rfl)) (hw _ (List.mem_of_getElem? (i := 7) rfl)) (hw _ (List.mem_of_getElem? (i := 8) rfl)) (by decide) (fun f hf => ?_) (i := 1) rfl 14 126 (by decide) (by decide) ?_
  · simp only [List.mem_cons, List.not_mem_nil, or_false] at hf
    rcases hf with rfl
    · exact ⟨Or.inr (hw _ (List.mem_of_getElem? (i := 25) rfl)), _, (by decide : parseFieldDescriptor "[I" = some (.array .int)), rfl⟩
  show Go _ _ _ _ 135 [.val (.int x0), .val (.int x1), .val (.int x2), .val (.int x3), .val (.int x4), .val (.int x5), .val (.int d0), .val (.int d1), .val (.int d2), .val (.int 1), .val (.ref 0), .val (.int iw), .val (.int 2), .val (.int (x5 &&& 2147483647)), .unset, .unset, .unset] [.ref 1] [.inr (.int, [.int d0]), .inl ("com/example/subsume/subsume/Nesting", [("restrictions", "[I", .null)])] _
  refine Go.dup d0_135 rfl ?_
  refine Go.aload d0_136 rfl rfl ?_
  refine Go.callI (M' := m2) (i := 1) d0_138 rfl rfl (hw _ (List.mem_of_getElem? (i := 9) rfl)) (hw _ (List.mem_of_getElem? (i := 10) rfl)) (hw _ (List.mem_of_getElem? (i := 8) rfl)) (hw _ (List.mem_of_getElem? (i := 11) rfl)) mi2 (as := [.ref 0]) rfl rfl (st := [.ref 1]) rfl (ls1 := [.val (.ref 1), .val (.ref 0), .unset]) rfl (W := 1) rfl (by decide) (by decide) (go_ctor1 K hw d0) 13 125 (by decide) (by decide) ?_
  show Go _ _ _ _ 141 [.val (.int x0), .val (.int x1), .val (.int x2), .val (.int x3), .val (.int x4), .val (.int x5), .val (.int d0), .val (.int d1), .val (.int d2), .val (.int 1), .val (.ref 0), .val (.int iw), .val (.int 2), .val (.int (x5 &&& 2147483647)), .unset, .unset, .unset] [.ref 1] [.inr (.int, [.int d0]), .inl ("com/example/subsume/subsume/Nesting", [("restrictions", "[I", .ref 2)]), .inr (.int, [.int d0])] _
  refine Go.astore d0_141 (ls' := [.val (.int x0), .val (.int x1), .val (.int x2), .val (.int x3), .val (.int x4), .val (.int x5), .val (.int d0), .val (.int d1), .val (.int d2), .val (.int 1), .val (.ref 0), .val (.int iw), .val (.int 2), .val (.int (x5 &&& 2147483647)), .val (.ref 1), .unset, .unset]) rfl rfl ?_
  refine Go.aload d0_143 rfl rfl ?_
  refine Go.iload d0_145 rfl ?_
  refine Go.iload d0_147 rfl ?_
  refine Go.callV (M' := m4) (i := 1) d0_149 rfl (hw _ (List.mem_of_getElem? (i := 26) rfl)) (hw _ (List.mem_of_getElem? (i := 28) rfl)) (hw _ (List.mem_of_getElem? (i := 8) rfl)) (hw _ (List.mem_of_getElem? (i := 27) rfl)) (hw _ (List.mem_of_getElem? (i := 29) rfl)) (hw _ (List.mem_of_getElem? (i := 30) rfl)) mi4 (as := [.int 2, .int (x5 &&& 2147483647)]) rfl rfl (st := []) rfl (ls1 := [.val (.ref 1), .val (.int 2), .val (.int (x5 &&& 2147483647))]) rfl (W := 0) rfl (by decide) (by decide) (go_cvN K hw _ 1 2 _ _ _ 1 rfl rfl rfl (by decide)) 13 125 (by decide) (by decide) ?_
  show Go _ _ _ _ 152 [.val (.int x0), .val (.int x1), .val (.int x2), .val (.int x3), .val (.int x4), .val (.int x5), .val (.int d0), .val (.int d1), .val (.int d2), .val (.int 1), .val (.ref 0), .val (.int iw), .val (.int 2), .val (.int (x5 &&& 2147483647)), .val (.ref 1), .unset, .unset] [.int 0] [.inr (.int, [.int d0]), .inl ("com/example/subsume/subsume/Nesting", [("restrictions", "[I", .ref 2)]), .inr (.int, [.int d0])] _
  refine Go.istore d0_152 (ls' := [.val (.int x0), .val (.int x1), .val (.int x2), .val (.int x3), .val (.int x4), .val (.int x5), .val (.int d0), .val (.int d1), .val (.int d2), .val (.int 1), .val (.ref 0), .val (.int iw), .val (.int 2), .val (.int (x5 &&& 2147483647)), .val (.ref 1), .val (.int 0), .unset]) rfl ?_
  refine Go.iconst d0_154 (v := 0) rfl ?_
  refine Go.iload d0_155 rfl ?_
  refine Go.iload d0_157 rfl ?_
  refine Go.iload d0_159 rfl ?_
  refine Go.iload d0_161 rfl ?_
  refine Go.callS (M' := m5) d0_163 (hw _ (List.mem_of_getElem? (i := 31) rfl)) (hw _ (List.mem_of_getElem? (i := 32) rfl)) (hw _ (List.mem_of_getElem? (i := 2) rfl)) (hw _ (List.mem_of_getElem? (i := 33) rfl)) mi5 (as := [.int 0, .int 1, .int d0, .int 2, .int (x5 &&& 2147483647)]) rfl rfl (st := []) rfl (ls1 := [.val (.int 0), .val (.int 1), .val (.int d0), .val (.int 2), .val (.int (x5 &&& 2147483647))]) rfl (W := 0) rfl (by decide) (by decide) (go_own_cov K hw 0 1 d0 2 (x5 &&& 2147483647) _) 13 125 (by decide) (by decide) ?_
  show Go _ _ _ _ 166 [.val (.int x0), .val (.int x1), .val (.int x2), .val (.int x3), .val (.int x4), .val (.int x5), .val (.int d0), .val (.int d1), .val (.int d2), .val (.int 1), .val (.ref 0), .val (.int iw), .val (.int 2), .val (.int (x5 &&& 2147483647)), .val (.ref 1), .val (.int 0), .unset] [.int (own_cov 0 1 d0 2 (x5 &&& 2147483647))] [.inr (.int, [.int d0]), .inl ("com/example/subsume/subsume/Nesting", [("restrictions", "[I", .ref 2)]), .inr (.int, [.int d0])] _
  refine Go.ifF d0_166 (XT.i0_ne_f (own_cz1 (by decide))) ?_
  refine Go.iconst d0_169 (v := 1) rfl ?_
  refine Go.iload d0_170 rfl ?_
  refine Go.iload d0_172 rfl ?_
  refine Go.iload d0_174 rfl ?_
  refine Go.iload d0_176 rfl ?_
  refine Go.callS (M' := m5) d0_178 (hw _ (List.mem_of_getElem? (i := 31) rfl)) (hw _ (List.mem_of_getElem? (i := 32) rfl)) (hw _ (List.mem_of_getElem? (i := 2) rfl)) (hw _ (List.mem_of_getElem? (i := 33) rfl)) mi5 (as := [.int 1, .int 1, .int d1, .int 2, .int (x5 &&& 2147483647)]) rfl rfl (st := []) rfl (ls1 := [.val (.int 1), .val (.int 1), .val (.int d1), .val (.int 2), .val (.int (x5 &&& 2147483647))]) rfl (W := 0) rfl (by decide) (by decide) (go_own_cov K hw 1 1 d1 2 (x5 &&& 2147483647) _) 13 125 (by decide) (by decide) ?_
  show Go _ _ _ _ 181 [.val (.int x0), .val (.int x1), .val (.int x2), .val (.int x3), .val (.int x4), .val (.int x5), .val (.int d0), .val (.int d1), .val (.int d2), .val (.int 1), .val (.ref 0), .val (.int iw), .val (.int 2), .val (.int (x5 &&& 2147483647)), .val (.ref 1), .val (.int 0), .unset] [.int (own_cov 1 1 d1 2 (x5 &&& 2147483647))] [.inr (.int, [.int d0]), .inl ("com/example/subsume/subsume/Nesting", [("restrictions", "[I", .ref 2)]), .inr (.int, [.int d0])] _
  refine Go.ifF d0_181 (XT.i0_ne_f (own_cz1 (by decide))) ?_
  refine Go.iconst d0_184 (v := 2) rfl ?_
  refine Go.iload d0_185 rfl ?_
  refine Go.iload d0_187 rfl ?_
  refine Go.iload d0_189 rfl ?_
  refine Go.iload d0_191 rfl ?_
  refine Go.callS (M' := m5) d0_193 (hw _ (List.mem_of_getElem? (i := 31) rfl)) (hw _ (List.mem_of_getElem? (i := 32) rfl)) (hw _ (List.mem_of_getElem? (i := 2) rfl)) (hw _ (List.mem_of_getElem? (i := 33) rfl)) mi5 (as := [.int 2, .int 1, .int d2, .int 2, .int (x5 &&& 2147483647)]) rfl rfl (st := []) rfl (ls1 := [.val (.int 2), .val (.int 1), .val (.int d2), .val (.int 2), .val (.int (x5 &&& 2147483647))]) rfl (W := 0) rfl (by decide) (by decide) (go_own_cov K hw 2 1 d2 2 (x5 &&& 2147483647) _) 13 125 (by decide) (by decide) ?_
  show Go _ _ _ _ 196 [.val (.int x0), .val (.int x1), .val (.int x2), .val (.int x3), .val (.int x4), .val (.int x5), .val (.int d0), .val (.int d1), .val (.int d2), .val (.int 1), .val (.ref 0), .val (.int iw), .val (.int 2), .val (.int (x5 &&& 2147483647)), .val (.ref 1), .val (.int 0), .unset] [.int (own_cov 2 1 d2 2 (x5 &&& 2147483647))] [.inr (.int, [.int d0]), .inl ("com/example/subsume/subsume/Nesting", [("restrictions", "[I", .ref 2)]), .inr (.int, [.int d0])] _
  refine Go.ifT d0_196 j0_196 (XT.i0_eq_t (own_cz2 (by decide) (by decide))) ?_
  refine Go.iconst d0_203 (v := 0) rfl ?_
  refine Go.istore d0_204 (ls' := [.val (.int x0), .val (.int x1), .val (.int x2), .val (.int x3), .val (.int x4), .val (.int x5), .val (.int d0), .val (.int d1), .val (.int d2), .val (.int 1), .val (.ref 0), .val (.int iw), .val (.int 2), .val (.int (x5 &&& 2147483647)), .val (.ref 1), .val (.int 0), .val (.int 0)]) rfl ?_
  refine Go.iload d0_206 rfl ?_
  refine Go.iload d0_208 rfl ?_
  refine Go.icmpF d0_210 (XT.ii_ne_f (by decide)) ?_
  refine Go.iconst d0_213 (v := 1) rfl ?_
  refine Go.goto d0_214 j0_214 ?_
  exact Go.ireturnZ d0_218 rfl (by decide) rfl HOk.any
theorem go_t125_1_ii (K : Ctx) (hw : ∀ d ∈ tables_1, d.before K.2.2.1 K.2.1 = true) (x0 x1 x2 x3 x4 x5 d0 d1 d2 iw ii : Int32) (hr : 0 ≤ (x5 &&& 2147483647).toInt) (h3 : ¬ ii < 3) : Go K m0 5 128 125 [.val (.int x0), .val (.int x1), .val (.int x2), .val (.int x3), .val (.int x4), .val (.int x5), .val (.int d0), .val (.int d1), .val (.int d2), .val (.int 1), .val (.ref 0), .val (.int iw), .val (.int ii), .unset, .unset, .unset, .unset] [] [.inr (.int, [.int d0])] (some (.int 1), none, 15, 127) := by
  refine Go.iload d0_125 rfl ?_
  refine Go.ldc d0_127 (hw _ (List.mem_of_getElem? (i := 5) rfl)) ?_
  refine Go.iand d0_129 ?_
  refine Go.istore d0_130 (ls' := [.val (.int x0), .val (.int x1), .val (.int x2), .val (.int x3), .val (.int x4), .val (.int x5), .val (.int d0), .val (.int d1), .val (.int d2), .val (.int 1), .val (.ref 0), .val (.int iw), .val (.int ii), .val (.int (x5 &&& 2147483647)), .unset, .unset, .unset]) rfl ?_
  refine Go.new [("restrictions", "[I", .null)] d0_132 (hw _ (List.mem_of_getElem? (i := 6) rfl)) (hw _ (List.mem_of_getElem? (i := 7) rfl)) (hw _ (List.mem_of_getElem? (i := 8) rfl)) (by decide) (fun f hf => ?_) (i := 1) rfl 14 126 (by decide) (by decide) ?_
  · simp only [List.mem_cons, List.not_mem_nil, or_false] at hf
    rcases hf with rfl
    · exact ⟨Or.inr (hw _ (List.mem_of_getElem? (i := 25) rfl)), _, (by decide : parseFieldDescriptor "[I" = some (.array .int)), rfl⟩
  show Go _ _ _ _ 135 [.val (.int x0), .val (.int x1), .val (.int x2), .val (.int x3), .val (.int x4), .val (.int x5), .val (.int d0), .val (.int d1), .val (.int d2), .val (.int 1), .val (.ref 0), .val (.int iw), .val (.int ii), .val (.int (x5 &&& 2147483647)), .unset, .unset, .unset] [.ref 1] [.inr (.int, [.int d0]), .inl ("com/example/subsume/subsume/Nesting", [("restrictions", "[I", .null)])] _
  refine Go.dup d0_135 rfl ?_
  refine Go.aload d0_136 rfl rfl ?_
  refine Go.callI (M' := m2) (i := 1) d0_138 rfl rfl (hw _ (List.mem_of_getElem? (i := 9) rfl)) (hw _ (List.mem_of_getElem? (i := 10) rfl)) (hw _ (List.mem_of_getElem? (i := 8) rfl)) (hw _ (List.mem_of_getElem? (i := 11) rfl)) mi2 (as := [.ref 0]) rfl rfl (st := [.ref 1]) rfl (ls1 := [.val (.ref 1), .val (.ref 0), .unset]) rfl (W := 1) rfl (by decide) (by decide) (go_ctor1 K hw d0) 13 125 (by decide) (by decide) ?_
  show Go _ _ _ _ 141 [.val (.int x0), .val (.int x1), .val (.int x2), .val (.int x3), .val (.int x4), .val (.int x5), .val (.int d0), .val (.int d1), .val (.int d2), .val (.int 1), .val (.ref 0), .val (.int iw), .val (.int ii), .val (.int (x5 &&& 2147483647)), .unset, .unset, .unset] [.ref 1] [.inr (.int, [.int d0]), .inl ("com/example/subsume/subsume/Nesting", [("restrictions", "[I", .ref 2)]), .inr (.int, [.int d0])] _
  refine Go.astore d0_141 (ls' := [.val (.int x0), .val (.int x1), .val (.int x2), .val (.int x3), .val (.int x4), .val (.int x5), .val (.int d0), .val (.int d1), .val (.int d2), .val (.int 1), .val (.ref 0), .val (.int iw), .val (.int ii), .val (.int (x5 &&& 2147483647)), .val (.ref 1), .unset, .unset]) rfl rfl ?_
  refine Go.aload d0_143 rfl rfl ?_
  refine Go.iload d0_145 rfl ?_
  refine Go.iload d0_147 rfl ?_
  refine Go.callV (M' := m4) (i := 1) d0_149 rfl (hw _ (List.mem_of_getElem? (i := 26) rfl)) (hw _ (List.mem_of_getElem? (i := 28) rfl)) (hw _ (List.mem_of_getElem? (i := 8) rfl)) (hw _ (List.mem_of_getElem? (i := 27) rfl)) (hw _ (List.mem_of_getElem? (i := 29) rfl)) (hw _ (List.mem_of_getElem? (i := 30) rfl)) mi4 (as := [.int ii, .int (x5 &&& 2147483647)]) rfl rfl (st := []) rfl (ls1 := [.val (.ref 1), .val (.int ii), .val (.int (x5 &&& 2147483647))]) rfl (W := 0) rfl (by decide) (by decide) (go_cvN K hw _ 1 2 _ _ _ 1 rfl rfl rfl (own_ge h3 (by decide))) 13 125 (by decide) (by decide) ?_
  show Go _ _ _ _ 152 [.val (.int x0), .val (.int x1), .val (.int x2), .val (.int x3), .val (.int x4), .val (.int x5), .val (.int d0), .val (.int d1), .val (.int d2), .val (.int 1), .val (.ref 0), .val (.int iw), .val (.int ii), .val (.int (x5 &&& 2147483647)), .val (.ref 1), .unset, .unset] [.int 0] [.inr (.int, [.int d0]), .inl ("com/example/subsume/subsume/Nesting", [("restrictions", "[I", .ref 2)]), .inr (.int, [.int d0])] _
  refine Go.istore d0_152 (ls' := [.val (.int x0), .val (.int x1), .val (.int x2), .val (.int x3), .val (.int x4), .val (.int x5), .val (.int d0), .val (.int d1), .val (.int d2), .val (.int 1), .val (.ref 0), .val (.int iw), .val (.int ii), .val (.int (x5 &&& 2147483647)), .val (.ref 1), .val (.int 0), .unset]) rfl ?_
  refine Go.iconst d0_154 (v := 0) rfl ?_
  refine Go.iload d0_155 rfl ?_
  refine Go.iload d0_157 rfl ?_
  refine Go.iload d0_159 rfl ?_
  refine Go.iload d0_161 rfl ?_
  refine Go.callS (M' := m5) d0_163 (hw _ (List.mem_of_getElem? (i := 31) rfl)) (hw _ (List.mem_of_getElem? (i := 32) rfl)) (hw _ (List.mem_of_getElem? (i := 2) rfl)) (hw _ (List.mem_of_getElem? (i := 33) rfl)) mi5 (as := [.int 0, .int 1, .int d0, .int ii, .int (x5 &&& 2147483647)]) rfl rfl (st := []) rfl (ls1 := [.val (.int 0), .val (.int 1), .val (.int d0), .val (.int ii), .val (.int (x5 &&& 2147483647))]) rfl (W := 0) rfl (by decide) (by decide) (go_own_cov K hw 0 1 d0 ii (x5 &&& 2147483647) _) 13 125 (by decide) (by decide) ?_
  show Go _ _ _ _ 166 [.val (.int x0), .val (.int x1), .val (.int x2), .val (.int x3), .val (.int x4), .val (.int x5), .val (.int d0), .val (.int d1), .val (.int d2), .val (.int 1), .val (.ref 0), .val (.int iw), .val (.int ii), .val (.int (x5 &&& 2147483647)), .val (.ref 1), .val (.int 0), .unset] [.int (own_cov 0 1 d0 ii (x5 &&& 2147483647))] [.inr (.int, [.int d0]), .inl ("com/example/subsume/subsume/Nesting", [("restrictions", "[I", .ref 2)]), .inr (.int, [.int d0])] _
  refine Go.ifF d0_166 (XT.i0_ne_f (own_c3 (by decide) h3)) ?_
  refine Go.iconst d0_169 (v := 1) rfl ?_
  refine Go.iload d0_170 rfl ?_
  refine Go.iload d0_172 rfl ?_
  refine Go.iload d0_174 rfl ?_
  refine Go.iload d0_176 rfl ?_
  refine Go.callS (M' := m5) d0_178 (hw _ (List.mem_of_getElem? (i := 31) rfl)) (hw _ (List.mem_of_getElem? (i := 32) rfl)) (hw _ (List.mem_of_getElem? (i := 2) rfl)) (hw _ (List.mem_of_getElem? (i := 33) rfl)) mi5 (as := [.int 1, .int 1, .int d1, .int ii, .int (x5 &&& 2147483647)]) rfl rfl (st := []) rfl (ls1 := [.val (.int 1), .val (.int 1), .val (.int d1), .val (.int ii), .val (.int (x5 &&& 2147483647))]) rfl (W := 0) rfl (by decide) (by decide) (go_own_cov K hw 1 1 d1 ii (x5 &&& 2147483647) _) 13 125 (by decide) (by decide) ?_
  show Go _ _ _ _ 181 [.val (.int x0), .val (.int x1), .val (.int x2), .val (.int x3), .val (.int x4), .val (.int x5), .val (.int d0), .val (.int d1), .val (.int d2), .val (.int 1), .val (.ref 0), .val (.int iw), .val (.int ii), .val (.int (x5 &&& 2147483647)), .val (.ref 1), .val (.int 0), .unset] [.int (own_cov 1 1 d1 ii (x5 &&& 2147483647))] [.inr (.int, [.int d0]), .inl ("com/example/subsume/subsume/Nesting", [("restrictions", "[I", .ref 2)]), .inr (.int, [.int d0])] _
  refine Go.ifF d0_181 (XT.i0_ne_f (own_c3 (by decide) h3)) ?_
  refine Go.iconst d0_184 (v := 2) rfl ?_
  refine Go.iload d0_185 rfl ?_
  refine Go.iload d0_187 rfl ?_
  refine Go.iload d0_189 rfl ?_
  refine Go.iload d0_191 rfl ?_
  refine Go.callS (M' := m5) d0_193 (hw _ (List.mem_of_getElem? (i := 31) rfl)) (hw _ (List.mem_of_getElem? (i := 32) rfl)) (hw _ (List.mem_of_getElem? (i := 2) rfl)) (hw _ (List.mem_of_getElem? (i := 33) rfl)) mi5 (as := [.int 2, .int 1, .int d2, .int ii, .int (x5 &&& 2147483647)]) rfl rfl (st := []) rfl (ls1 := [.val (.int 2), .val (.int 1), .val (.int d2), .val (.int ii), .val (.int (x5 &&& 2147483647))]) rfl (W := 0) rfl (by decide) (by decide) (go_own_cov K hw 2 1 d2 ii (x5 &&& 2147483647) _) 13 125 (by decide) (by decide) ?_
  show Go _ _ _ _ 196 [.val (.int x0), .val (.int x1), .val (.int x2), .val (.int x3), .val (.int x4), .val (.int x5), .val (.int d0), .val (.int d1), .val (.int d2), .val (.int 1), .val (.ref 0), .val (.int iw), .val (.int ii), .val (.int (x5 &&& 2147483647)), .val (.ref 1), .val (.int 0), .unset] [.int (own_cov 2 1 d2 ii (x5 &&& 2147483647))] [.inr (.int, [.int d0]), .inl ("com/example/subsume/subsume/Nesting", [("restrictions", "[I", .ref 2)]), .inr (.int, [.int d0])] _
  refine Go.ifT d0_196 j0_196 (XT.i0_eq_t (own_c3 (by decide) h3)) ?_
  refine Go.iconst d0_203 (v := 0) rfl ?_
  refine Go.istore d0_204 (ls' := [.val (.int x0), .val (.int x1), .val (.int x2), .val (.int x3), .val (.int x4), .val (.int x5), .val (.int d0), .val (.int d1), .val (.int d2), .val (.int 1), .val (.ref 0), .val (.int iw), .val (.int ii), .val (.int (x5 &&& 2147483647)), .val (.ref 1), .val (.int 0), .val (.int 0)]) rfl ?_
  refine Go.iload d0_206 rfl ?_
  refine Go.iload d0_208 rfl ?_
  refine Go.icmpF d0_210 (XT.ii_ne_f (by decide)) ?_
  refine Go.iconst d0_213 (v := 1) rfl ?_
  refine Go.goto d0_214 j0_214 ?_
  exact Go.ireturnZ d0_218 rfl (by decide) rfl HOk.any
theorem go_t125_1 (K : Ctx) (hw : ∀ d ∈ tables_1, d.before K.2.2.1 K.2.1 = true) (x0 x1 x2 x3 x4 x5 d0 d1 d2 iw ii : Int32) (hr : 0 ≤ (x5 &&& 2147483647).toInt) (hi : ¬ ii < 0) : Go K m0 5 128 125 [.val (.int x0), .val (.int x1), .val (.int x2), .val (.int x3), .val (.int x4), .val (.int x5), .val (.int d0), .val (.int d1), .val (.int d2), .val (.int 1), .val (.ref 0), .val (.int iw), .val (.int ii), .unset, .unset, .unset, .unset] [] [.inr (.int, [.int d0])] (some (.int 1), none, 15, 127) := by
  rcases own_ii hi with rfl | rfl | rfl | h3
  · exact go_t125_1_0 K hw _ _ _ _ _ _ _ _ _ _  hr
  · exact go_t125_1_1 K hw _ _ _ _ _ _ _ _ _ _  hr
  · exact go_t125_1_2 K hw _ _ _ _ _ _ _ _ _ _  hr
  · exact go_t125_1_ii K hw _ _ _ _ _ _ _ _ _ _ _  hr h3
theorem go_t125_2_0 (K : Ctx) (hw : ∀ d ∈ tables_1, d.before K.2.2.1 K.2.1 = true) (x0 x1 x2 x3 x4 x5 d0 d1 d2 iw : Int32) (hr : 0 ≤ (x5 &&& 2147483647).toInt) : Go K m0 5 128 125 [.val (.int x0), .val (.int x1), .val (.int x2), .val (.int x3), .val (.int x4), .val (.int x5), .val (.int d0), .val (.int d1), .val (.int d2), .val (.int 2), .val (.ref 0), .val (.int iw), .val (.int 0), .unset, .unset, .unset, .unset] [] [.inr (.int, [.int d0, .int d1])] (some (.int 1), none, 15, 126) := by
  refine Go.iload d0_125 rfl ?_
  refine Go.ldc d0_127 (hw _ (List.mem_of_getElem? (i := 5) rfl)) ?_
  refine Go.iand d0_129 ?_
  refine Go.istore d0_130 (ls' := [.val (.int x0), .val (.int x1), .val (.int x2), .val (.int x3), .val (.int x4), .val (.int x5), .val (.int d0), .val (.int d1), .val (.int d2), .val (.int 2), .val (.ref 0), .val (.int iw), .val (.int 0), .val (.int (x5 &&& 2147483647)), .unset, .unset, .unset]) rfl ?_
  refine Go.new [("restrictions", "[I", .null)] d0_132 (hw _ (List.mem_of_getElem? (i := 6) rfl)) (hw _ (List.mem_of_getElem? (i := 7) rfl)) (hw _ (List.mem_of_getElem? (i := 8) rfl)) (by decide) (fun f hf => ?_) (i := 1) rfl 14 125 (by decide) (by decide) ?_
  · simp only [List.mem_cons, List.not_mem_nil, or_false] at hf
    rcases hf with rfl
    · exact ⟨Or.inr (hw _ (List.mem_of_getElem? (i := 25) rfl)), _, (by decide : parseFieldDescriptor "[I" = some (.array .int)), rfl⟩
  show Go _ _ _ _ 135 [.val (.int x0), .val (.int x1), .val (.int x2), .val (.int x3), .val (.int x4), .val (.int x5), .val (.int d0), .val (.int d1), .val (.int d2), .val (.int 2), .val (.ref 0), .val (.int iw), .val (.int 0), .val (.int (x5 &&& 2147483647)), .unset, .unset, .unset] [.ref 1] [.inr (.int, [.int d0, .int d1]), .inl ("com/example/subsume/subsume/Nesting", [("restrictions", "[I", .null)])] _
  refine Go.dup d0_135 rfl ?_
  refine Go.aload d0_136 rfl rfl ?_
  refine Go.callI (M' := m2) (i := 1) d0_138 rfl rfl (hw _ (List.mem_of_getElem? (i := 9) rfl)) (hw _ (List.mem_of_getElem? (i := 10) rfl)) (hw _ (List.mem_of_getElem? (i := 8) rfl)) (hw _ (List.mem_of_getElem? (i := 11) rfl)) mi2 (as := [.ref 0]) rfl rfl (st := [.ref 1]) rfl (ls1 := [.val (.ref 1), .val (.ref 0), .unset]) rfl (W := 1) rfl (by decide) (by decide) (go_ctor2 K hw d0 d1) 13 123 (by decide) (by decide) ?_
  show Go _ _ _ _ 141 [.val (.int x0), .val (.int x1), .val (.int x2), .val (.int x3), .val (.int x4), .val (.int x5), .val (.int d0), .val (.int d1), .val (.int d2), .val (.int 2), .val (.ref 0), .val (.int iw), .val (.int 0), .val (.int (x5 &&& 2147483647)), .unset, .unset, .unset] [.ref 1] [.inr (.int, [.int d0, .int d1]), .inl ("com/example/subsume/subsume/Nesting", [("restrictions", "[I", .ref 2)]), .inr (.int, [.int (own_max d0 d1), .int d1])] _
  refine Go.astore d0_141 (ls' := [.val (.int x0), .val (.int x1), .val (.int x2), .val (.int x3), .val (.int x4), .val (.int x5), .val (.int d0), .val (.int d1), .val (.int d2), .val (.int 2), .val (.ref 0), .val (.int iw), .val (.int 0), .val (.int (x5 &&& 2147483647)), .val (.ref 1), .unset, .unset]) rfl rfl ?_
  refine Go.aload d0_143 rfl rfl ?_
  refine Go.iload d0_145 rfl ?_
  refine Go.iload d0_147 rfl ?_
  refine Go.callV (M' := m4) (i := 1) d0_149 rfl (hw _ (List.mem_of_getElem? (i := 26) rfl)) (hw _ (List.mem_of_getElem? (i := 28) rfl)) (hw _ (List.mem_of_getElem? (i := 8) rfl)) (hw _ (List.mem_of_getElem? (i := 27) rfl)) (hw _ (List.mem_of_getElem? (i := 29) rfl)) (hw _ (List.mem_of_getElem? (i := 30) rfl)) mi4 (as := [.int 0, .int (x5 &&& 2147483647)]) rfl rfl (st := []) rfl (ls1 := [.val (.ref 1), .val (.int 0), .val (.int (x5 &&& 2147483647))]) rfl (W := 0) rfl (by decide) (by decide) (go_own_cv K hw _ 1 2 _ 0 _ 2 _ rfl rfl rfl (by decide) (by decide) rfl) 13 123 (by decide) (by decide) ?_
  show Go _ _ _ _ 152 [.val (.int x0), .val (.int x1), .val (.int x2), .val (.int x3), .val (.int x4), .val (.int x5), .val (.int d0), .val (.int d1), .val (.int d2), .val (.int 2), .val (.ref 0), .val (.int iw), .val (.int 0), .val (.int (x5 &&& 2147483647)), .val (.ref 1), .unset, .unset] [.int (own_cv (own_max d0 d1) (x5 &&& 2147483647))] [.inr (.int, [.int d0, .int d1]), .inl ("com/example/subsume/subsume/Nesting", [("restrictions", "[I", .ref 2)]), .inr (.int, [.int (own_max d0 d1), .int d1])] _
  refine Go.istore d0_152 (ls' := [.val (.int x0), .val (.int x1), .val (.int x2), .val (.int x3), .val (.int x4), .val (.int x5), .val (.int d0), .val (.int d1), .val (.int d2), .val (.int 2), .val (.ref 0), .val (.int iw), .val (.int 0), .val (.int (x5 &&& 2147483647)), .val (.ref 1), .val (.int (own_cv (own_max d0 d1) (x5 &&& 2147483647))), .unset]) rfl ?_
  refine Go.iconst d0_154 (v := 0) rfl ?_
  refine Go.iload d0_155 rfl ?_
  refine Go.iload d0_157 rfl ?_
  refine Go.iload d0_159 rfl ?_
  refine Go.iload d0_161 rfl ?_
  refine Go.callS (M' := m5) d0_163 (hw _ (List.mem_of_getElem? (i := 31) rfl)) (hw _ (List.mem_of_getElem? (i := 32) rfl)) (hw _ (List.mem_of_getElem? (i := 2) rfl)) (hw _ (List.mem_of_getElem? (i := 33) rfl)) mi5 (as := [.int 0, .int 2, .int d0, .int 0, .int (x5 &&& 2147483647)]) rfl rfl (st := []) rfl (ls1 := [.val (.int 0), .val (.int 2), .val (.int d0), .val (.int 0), .val (.int (x5 &&& 2147483647))]) rfl (W := 0) rfl (by decide) (by decide) (go_own_cov K hw 0 2 d0 0 (x5 &&& 2147483647) _) 13 123 (by decide) (by decide) ?_
  show Go _ _ _ _ 166 [.val (.int x0), .val (.int x1), .val (.int x2), .val (.int x3), .val (.int x4), .val (.int x5), .val (.int d0), .val (.int d1), .val (.int d2), .val (.int 2), .val (.ref 0), .val (.int iw), .val (.int 0), .val (.int (x5 &&& 2147483647)), .val (.ref 1), .val (.int (own_cv (own_max d0 d1) (x5 &&& 2147483647))), .unset] [.int (own_cov 0 2 d0 0 (x5 &&& 2147483647))] [.inr (.int, [.int d0, .int d1]), .inl ("com/example/subsume/subsume/Nesting", [("restrictions", "[I", .ref 2)]), .inr (.int, [.int (own_max d0 d1), .int d1])] _
  refine Go.if_ne d0_166 j0_166 (fun h166 => ?_) (fun h166 => ?_)
  · -- pc 166 taken
    refine Go.iconst d0_199 (v := 1) rfl ?_
    refine Go.goto d0_200 j0_200 ?_
    refine Go.istore d0_204 (ls' := [.val (.int x0), .val (.int x1), .val (.int x2), .val (.int x3), .val (.int x4), .val (.int x5), .val (.int d0), .val (.int d1), .val (.int d2), .val (.int 2), .val (.ref 0), .val (.int iw), .val (.int 0), .val (.int (x5 &&& 2147483647)), .val (.ref 1), .val (.int (own_cv (own_max d0 d1) (x5 &&& 2147483647))), .val (.int 1)]) rfl ?_
    refine Go.iload d0_206 rfl ?_
    refine Go.iload d0_208 rfl ?_
    refine Go.icmpF d0_210 (XT.ii_ne_f (by
                        simp only [own_covz, own_lits] at h166
                        exact own_fp (by (try simp only [own_maxv]); omega))) ?_
    refine Go.iconst d0_213 (v := 1) rfl ?_
    refine Go.goto d0_214 j0_214 ?_
    exact Go.ireturnZ d0_218 rfl (by decide) rfl HOk.any
  · -- pc 166 not taken
    refine Go.iconst d0_169 (v := 1) rfl ?_
    refine Go.iload d0_170 rfl ?_
    refine Go.iload d0_172 rfl ?_
    refine Go.iload d0_174 rfl ?_
    refine Go.iload d0_176 rfl ?_
    refine Go.callS (M' := m5) d0_178 (hw _ (List.mem_of_getElem? (i := 31) rfl)) (hw _ (List.mem_of_getElem? (i := 32) rfl)) (hw _ (List.mem_of_getElem? (i := 2) rfl)) (hw _ (List.mem_of_getElem? (i := 33) rfl)) mi5 (as := [.int 1, .int 2, .int d1, .int 0, .int (x5 &&& 2147483647)]) rfl rfl (st := []) rfl (ls1 := [.val (.int 1), .val (.int 2), .val (.int d1), .val (.int 0), .val (.int (x5 &&& 2147483647))]) rfl (W := 0) rfl (by decide) (by decide) (go_own_cov K hw 1 2 d1 0 (x5 &&& 2147483647) _) 13 123 (by decide) (by decide) ?_
    show Go _ _ _ _ 181 [.val (.int x0), .val (.int x1), .val (.int x2), .val (.int x3), .val (.int x4), .val (.int x5), .val (.int d0), .val (.int d1), .val (.int d2), .val (.int 2), .val (.ref 0), .val (.int iw), .val (.int 0), .val (.int (x5 &&& 2147483647)), .val (.ref 1), .val (.int (own_cv (own_max d0 d1) (x5 &&& 2147483647))), .unset] [.int (own_cov 1 2 d1 0 (x5 &&& 2147483647))] [.inr (.int, [.int d0, .int d1]), .inl ("com/example/subsume/subsume/Nesting", [("restrictions", "[I", .ref 2)]), .inr (.int, [.int (own_max d0 d1), .int d1])] _
    refine Go.if_ne d0_181 j0_181 (fun h181 => ?_) (fun h181 => ?_)
    · -- pc 181 taken
      refine Go.iconst d0_199 (v := 1) rfl ?_
      refine Go.goto d0_200 j0_200 ?_
      refine Go.istore d0_204 (ls' := [.val (.int x0), .val (.int x1), .val (.int x2), .val (.int x3), .val (.int x4), .val (.int x5), .val (.int d0), .val (.int d1), .val (.int d2), .val (.int 2), .val (.ref 0), .val (.int iw), .val (.int 0), .val (.int (x5 &&& 2147483647)), .val (.ref 1), .val (.int (own_cv (own_max d0 d1) (x5 &&& 2147483647))), .val (.int 1)]) rfl ?_
      refine Go.iload d0_206 rfl ?_
      refine Go.iload d0_208 rfl ?_
      refine Go.icmpF d0_210 (XT.ii_ne_f (by
                        simp only [own_covz, own_lits] at h166 h181
                        exact own_fp (by (try simp only [own_maxv]); omega))) ?_
      refine Go.iconst d0_213 (v := 1) rfl ?_
      refine Go.goto d0_214 j0_214 ?_
      exact Go.ireturnZ d0_218 rfl (by decide) rfl HOk.any
    · -- pc 181 not taken
      refine Go.iconst d0_184 (v := 2) rfl ?_
      refine Go.iload d0_185 rfl ?_
      refine Go.iload d0_187 rfl ?_
      refine Go.iload d0_189 rfl ?_
      refine Go.iload d0_191 rfl ?_
      refine Go.callS (M' := m5) d0_193 (hw _ (List.mem_of_getElem? (i := 31) rfl)) (hw _ (List.mem_of_getElem? (i := 32) rfl)) (hw _ (List.mem_of_getElem? (i := 2) rfl)) (hw _ (List.mem_of_getElem? (i := 33) rfl)) mi5 (as := [.int 2, .int 2, .int d2, .int 0, .int (x5 &&& 2147483647)]) rfl rfl (st := []) rfl (ls1 := [.val (.int 2), .val (.int 2), .val (.int d2), .val (.int 0), .val (.int (x5 &&& 2147483647))]) rfl (W := 0) rfl (by decide) (by decide) (go_own_cov K hw 2 2 d2 0 (x5 &&& 2147483647) _) 13 123 (by decide) (by decide) ?_
      show Go _ _ _ _ 196 [.val (.int x0), .val (.int x1), .val (.int x2), .val (.int x3), .val (.int x4), .val (.int x5), .val (.int d0), .val (.int d1), .val (.int d2), .val (.int 2), .val (.ref 0), .val (.int iw), .val (.int 0), .val (.int (x5 &&& 2147483647)), .val (.ref 1), .val (.int (own_cv (own_max d0 d1) (x5 &&& 2147483647))), .unset] [.int (own_cov 2 2 d2 0 (x5 &&& 2147483647))] [.inr (.int, [.int d0, .int d1]), .inl ("com/example/subsume/subsume/Nesting", [("restrictions", "[I", .ref 2)]), .inr (.int, [.int (own_max d0 d1), .int d1])] _
      refine Go.ifT d0_196 j0_196 (XT.i0_eq_t (own_cz2 (by decide) (by decide))) ?_
      refine Go.iconst d0_203 (v := 0) rfl ?_
      refine Go.istore d0_204 (ls' := [.val (.int x0), .val (.int x1), .val (.int x2), .val (.int x3), .val (.int x4), .val (.int x5), .val (.int d0), .val (.int d1), .val (.int d2), .val (.int 2), .val (.ref 0), .val (.int iw), .val (.int 0), .val (.int (x5 &&& 2147483647)), .val (.ref 1), .val (.int (own_cv (own_max d0 d1) (x5 &&& 2147483647))), .val (.int 0)]) rfl ?_
      refine Go.iload d0_206 rfl ?_
      refine Go.iload d0_208 rfl ?_
      refine Go.icmpF d0_210 (XT.ii_ne_f (by
                        simp only [own_covz, own_lits] at h166 h181
                        exact own_fn (by (try simp only [own_maxv]); omega))) ?_
      refine Go.iconst d0_213 (v := 1) rfl ?_
      refine Go.goto d0_214 j0_214 ?_
      exact Go.ireturnZ d0_218 rfl (by decide) rfl HOk.any
theorem go_t125_2_1 (K : Ctx) (hw : ∀ d ∈ tables_1, d.before K.2.2.1 K.2.1 = true) (x0 x1 x2 x3 x4 x5 d0 d1 d2 iw : Int32) (hr : 0 ≤ (x5 &&& 2147483647).toInt) : Go K m0 5 128 125 [.val (.int x0), .val (.int x1), .val (.int x2), .val (.int x3), .val (.int x4), .val (.int x5), .val (.int d0), .val (.int d1), .val (.int d2), .val (.int 2), .val (.ref 0), .val (.int iw), .val (.int 1), .unset, .unset, .unset, .unset] [] [.inr (.int, [.int d0, .int d1])] (some (.int 1), none, 15, 126) := by
  refine Go.iload d0_125 rfl ?_
  refine Go.ldc d0_127 (hw _ (List.mem_of_getElem? (i := 5) rfl)) ?_
  refine Go.iand d0_129 ?_
  refine Go.istore d0_130 (ls' := [.val (.int x0), .val (.int x1), .val (.int x2), .val (.int x3), .val (.int x4), .val (.int x5), .val (.int d0), .val (.int d1), .val (.int d2), .val (.int 2), .val (.ref 0), .val (.int iw), .val (.int 1), .val (.int (x5 &&& 2147483647)), .unset, .unset, .unset]) rfl ?_
  refine Go.new [("restrictions", "[I", .null)] d0_132 (hw _ (List.mem_of_getElem? (i := 6) rfl)) (hw _ (List.mem_of_getElem? (i := 7) rfl)) (hw _ (List.mem_of_getElem? (i := 8) rfl)) (by decide) (fun f hf => ?_) (i := 1) rfl 14 125 (by decide) (by decide) ?_
  · simp only [List.mem_cons, List.not_mem_nil, or_false] at hf
    rcases hf with rfl
    · exact ⟨Or.inr (hw _ (List.mem_of_getElem? (i := 25) rfl)), _, (by decide : parseFieldDescriptor "[I" = some (.array .int)), rfl⟩
  show Go _ _ _ _ 135 [.val (.int x0), .val (.int x1), .val (.int x2), .val (.int x3), .val (.int x4), .val (.int x5), .val (.int d0), .val (.int d1), .val (.int d2), .val (.int 2), .val (.ref 0), .val (.int iw), .val (.int 1), .val (.int (x5 &&& 2147483647)), .unset, .unset, .unset] [.ref 1] [.inr (.int, [.int d0, .int d1]), .inl ("com/example/subsume/subsume/Nesting", [("restrictions", "[I", .null)])] _
  refine Go.dup d0_135 rfl ?_
  refine Go.aload d0_136 rfl rfl ?_
  refine Go.callI (M' := m2) (i := 1) d0_138 rfl rfl (hw _ (List.mem_of_getElem? (i := 9) rfl)) (hw _ (List.mem_of_getElem? (i := 10) rfl)) (hw _ (List.mem_of_getElem? (i := 8) rfl)) (hw _ (List.mem_of_getElem? (i := 11) rfl)) mi2 (as := [.ref 0]) rfl rfl (st := [.ref 1]) rfl (ls1 := [.val (.ref 1), .val (.ref 0), .unset]) rfl (W := 1) rfl (by decide) (by decide) (go_ctor2 K hw d0 d1) 13 123 (by decide) (by decide) ?_
  show Go _ _ _ _ 141 [.val (.int x0), .val (.int x1), .val (.int x2), .val (.int x3), .val (.int x4), .val (.int x5), .val (.int d0), .val (.int d1), .val (.int d2), .val (.int 2), .val (.ref 0), .val (.int iw), .val (.int 1), .val (.int (x5 &&& 2147483647)), .unset, .unset, .unset] [.ref 1] [.inr (.int, [.int d0, .int d1]), .inl ("com/example/subsume/subsume/Nesting", [("restrictions", "[I", .ref 2)]), .inr (.int, [.int (own_max d0 d1), .int d1])] _
  refine Go.astore d0_141 (ls' := [.val (.int x0), .val (.int x1), .val (.int x2), .val (.int x3), .val (.int x4), .val (.int x5), .val (.int d0), .val (.int d1), .val (.int d2), .val (.int 2), .val (.ref 0), .val (.int iw), .val (.int 1), .val (.int (x5 &&& 2147483647)), .val (.ref 1), .unset, .unset]) rfl rfl ?_
  refine Go.aload d0_143 rfl rfl ?_
  refine Go.iload d0_145 rfl ?_
  refine Go.iload d0_147 rfl ?_
  refine Go.callV (M' := m4) (i := 1) d0_149 rfl (hw _ (List.mem_of_getElem? (i := 26) rfl)) (hw _ (List.mem_of_getElem? (i := 28) rfl)) (hw _ (List.mem_of_getElem? (i := 8) rfl)) (hw _ (List.mem_of_getElem? (i := 27) rfl)) (hw _ (List.mem_of_getElem? (i := 29) rfl)) (hw _ (List.mem_of_getElem? (i := 30) rfl)) mi4 (as := [.int 1, .int (x5 &&& 2147483647)]) rfl rfl (st := []) rfl (ls1 := [.val (.ref 1), .val (.int 1), .val (.int (x5 &&& 2147483647))]) rfl (W := 0) rfl (by decide) (by decide) (go_own_cv K hw _ 1 2 _ 1 _ 2 _ rfl rfl rfl (by decide) (by decide) rfl) 13 123 (by decide) (by decide) ?_
  show Go _ _ _ _ 152 [.val (.int x0), .val (.int x1), .val (.int x2), .val (.int x3), .val (.int x4), .val (.int x5), .val (.int d0), .val (.int d1), .val (.int d2), .val (.int 2), .val (.ref 0), .val (.int iw), .val (.int 1), .val (.int (x5 &&& 2147483647)), .val (.ref 1), .unset, .unset] [.int (own_cv d1 (x5 &&& 2147483647))] [.inr (.int, [.int d0, .int d1]), .inl ("com/example/subsume/subsume/Nesting", [("restrictions", "[I", .ref 2)]), .inr (.int, [.int (own_max d0 d1), .int d1])] _
  refine Go.istore d0_152 (ls' := [.val (.int x0), .val (.int x1), .val (.int x2), .val (.int x3), .val (.int x4), .val (.int x5), .val (.int d0), .val (.int d1), .val (.int d2), .val (.int 2), .val (.ref 0), .val (.int iw), .val (.int 1), .val (.int (x5 &&& 2147483647)), .val (.ref 1), .val (.int (own_cv d1 (x5 &&& 2147483647))), .unset]) rfl ?_
  refine Go.iconst d0_154 (v := 0) rfl ?_
  refine Go.iload d0_155 rfl ?_
  refine Go.iload d0_157 rfl ?_
  refine Go.iload d0_159 rfl ?_
  refine Go.iload d0_161 rfl ?_
  refine Go.callS (M' := m5) d0_163 (hw _ (List.mem_of_getElem? (i := 31) rfl)) (hw _ (List.mem_of_getElem? (i := 32) rfl)) (hw _ (List.mem_of_getElem? (i := 2) rfl)) (hw _ (List.mem_of_getElem? (i := 33) rfl)) mi5 (as := [.int 0, .int 2, .int d0, .int 1, .int (x5 &&& 2147483647)]) rfl rfl (st := []) rfl (ls1 := [.val (.int 0), .val (.int 2), .val (.int d0), .val (.int 1), .val (.int (x5 &&& 2147483647))]) rfl (W := 0) rfl (by decide) (by decide) (go_own_cov K hw 0 2 d0 1 (x5 &&& 2147483647) _) 13 123 (by decide) (by decide) ?_
  show Go _ _ _ _ 166 [.val (.int x0), .val (.int x1), .val (.int x2), .val (.int x3), .val (.int x4), .val (.int x5), .val (.int d0), .val (.int d1), .val (.int d2), .val (.int 2), .val (.ref 0), .val (.int iw), .val (.int 1), .val (.int (x5 &&& 2147483647)), .val (.ref 1), .val (.int (own_cv d1 (x5 &&& 2147483647))), .unset] [.int (own_cov 0 2 d0 1 (x5 &&& 2147483647))] [.inr (.int, [.int d0, .int d1]), .inl ("com/example/subsume/subsume/Nesting", [("restrictions", "[I", .ref 2)]), .inr (.int, [.int (own_max d0 d1), .int d1])] _
  refine Go.ifF d0_166 (XT.i0_ne_f (own_cz1 (by decide))) ?_
  refine Go.iconst d0_169 (v := 1) rfl ?_
  refine Go.iload d0_170 rfl ?_
  refine Go.iload d0_172 rfl ?_
  refine Go.iload d0_174 rfl ?_
  refine Go.iload d0_176 rfl ?_
  refine Go.callS (M' := m5) d0_178 (hw _ (List.mem_of_getElem? (i := 31) rfl)) (hw _ (List.mem_of_getElem? (i := 32) rfl)) (hw _ (List.mem_of_getElem? (i := 2) rfl)) (hw _ (List.mem_of_getElem? (i := 33) rfl)) mi5 (as := [.int 1, .int 2, .int d1, .int 1, .int (x5 &&& 2147483647)]) rfl rfl (st := []) rfl (ls1 := [.val (.int 1), .val (.int 2), .val (.int d1), .val (.int 1), .val (.int (x5 &&& 2147483647))]) rfl (W := 0) rfl (by decide) (by decide) (go_own_cov K hw 1 2 d1 1 (x5 &&& 2147483647) _) 13 123 (by decide) (by decide) ?_
  show Go _ _ _ _ 181 [.val (.int x0), .val (.int x1), .val (.int x2), .val (.int x3), .val (.int x4), .val (.int x5), .val (.int d0), .val (.int d1), .val (.int d2), .val (.int 2), .val (.ref 0), .val (.int iw), .val (.int 1), .val (.int (x5 &&& 2147483647)), .val (.ref 1), .val (.int (own_cv d1 (x5 &&& 2147483647))), .unset] [.int (own_cov 1 2 d1 1 (x5 &&& 2147483647))] [.inr (.int, [.int d0, .int d1]), .inl ("com/example/subsume/subsume/Nesting", [("restrictions", "[I", .ref 2)]), .inr (.int, [.int (own_max d0 d1), .int d1])] _
  refine Go.if_ne d0_181 j0_181 (fun h181 => ?_) (fun h181 => ?_)
  · -- pc 181 taken
    refine Go.iconst d0_199 (v := 1) rfl ?_
    refine Go.goto d0_200 j0_200 ?_
    refine Go.istore d0_204 (ls' := [.val (.int x0), .val (.int x1), .val (.int x2), .val (.int x3), .val (.int x4), .val (.int x5), .val (.int d0), .val (.int d1), .val (.int d2), .val (.int 2), .val (.ref 0), .val (.int iw), .val (.int 1), .val (.int (x5 &&& 2147483647)), .val (.ref 1), .val (.int (own_cv d1 (x5 &&& 2147483647))), .val (.int 1)]) rfl ?_
    refine Go.iload d0_206 rfl ?_
    refine Go.iload d0_208 rfl ?_
    refine Go.icmpF d0_210 (XT.ii_ne_f (by
                        simp only [own_covz, own_lits] at h181
                        exact own_fp (by (try simp only [own_maxv]); omega))) ?_
    refine Go.iconst d0_213 (v := 1) rfl ?_
    refine Go.goto d0_214 j0_214 ?_
    exact Go.ireturnZ d0_218 rfl (by decide) rfl HOk.any
  · -- pc 181 not taken
    refine Go.iconst d0_184 (v := 2) rfl ?_
    refine Go.iload d0_185 rfl ?_
    refine Go.iload d0_187 rfl ?_
    refine Go.iload d0_189 rfl ?_
    refine Go.iload d0_191 rfl ?_
    refine Go.callS (M' := m5) d0_193 (hw _ (List.mem_of_getElem? (i := 31) rfl)) (hw _ (List.mem_of_getElem? (i := 32) rfl)) (hw _ (List.mem_of_getElem? (i := 2) rfl)) (hw _ (List.mem_of_getElem? (i := 33) rfl)) mi5 (as := [.int 2, .int 2, .int d2, .int 1, .int (x5 &&& 2147483647)]) rfl rfl (st := []) rfl (ls1 := [.val (.int 2), .val (.int 2), .val (.int d2), .val (.int 1), .val (.int (x5 &&& 2147483647))]) rfl (W := 0) rfl (by decide) (by decide) (go_own_cov K hw 2 2 d2 1 (x5 &&& 2147483647) _) 13 123 (by decide) (by decide) ?_
    show Go _ _ _ _ 196 [.val (.int x0), .val (.int x1), .val (.int x2), .val (.int x3), .val (.int x4), .val (.int x5), .val (.int d0), .val (.int d1), .val (.int d2), .val (.int 2), .val (.ref 0), .val (.int iw), .val (.int 1), .val (.int (x5 &&& 2147483647)), .val (.ref 1), .val (.int (own_cv d1 (x5 &&& 2147483647))), .unset] [.int (own_cov 2 2 d2 1 (x5 &&& 2147483647))] [.inr (.int, [.int d0, .int d1]), .inl ("com/example/subsume/subsume/Nesting", [("restrictions", "[I", .ref 2)]), .inr (.int, [.int (own_max d0 d1), .int d1])] _
    refine Go.ifT d0_196 j0_196 (XT.i0_eq_t (own_cz2 (by decide) (by decide))) ?_
    refine Go.iconst d0_203 (v := 0) rfl ?_
    refine Go.istore d0_204 (ls' := [.val (.int x0), .val (.int x1), .val (.int x2), .val (.int x3), .val (.int x4), .val (.int x5), .val (.int d0), .val (.int d1), .val (.int d2), .val (.int 2), .val (.ref 0), .val (.int iw), .val (.int 1), .val (.int (x5 &&& 2147483647)), .val (.ref 1), .val (.int (own_cv d1 (x5 &&& 2147483647))), .val (.int 0)]) rfl ?_
    refine Go.iload d0_206 rfl ?_
    refine Go.iload d0_208 rfl ?_
    refine Go.icmpF d0_210 (XT.ii_ne_f (by
                        simp only [own_covz, own_lits] at h181
                        exact own_fn (by (try simp only [own_maxv]); omega))) ?_
    refine Go.iconst d0_213 (v := 1) rfl ?_
    refine Go.goto d0_214 j0_214 ?_
    exact Go.ireturnZ d0_218 rfl (by decide) rfl HOk.any
theorem go_t125_2_2 (K : Ctx) (hw : ∀ d ∈ tables_1, d.before K.2.2.1 K.2.1 = true) (x0 x1 x2 x3 x4 x5 d0 d1 d2 iw : Int32) (hr : 0 ≤ (x5 &&& 2147483647).toInt) : Go K m0 5 128 125 [.val (.int x0), .val (.int x1), .val (.int x2), .val (.int x3), .val (.int x4), .val (.int x5), .val (.int d0), .val (.int d1), .val (.int d2), .val (.int 2), .val (.ref 0), .val (.int iw), .val (.int 2), .unset, .unset, .unset, .unset] [] [.inr (.int, [.int d0, .int d1])] (some (.int 1), none, 15, 126) := by
  refine Go.iload d0_125 rfl ?_
  refine Go.ldc d0_127 (hw _ (List.mem_of_getElem? (i := 5) rfl)) ?_
  refine Go.iand d0_129 ?_
  refine Go.istore d0_130 (ls' := [.val (.int x0), .val (.int x1), .val (.int x2), .val (.int x3), .val (.int x4), .val (.int x5), .val (.int d0), .val (.int d1), .val (.int d2), .val (.int 2), .val (.ref 0), .val (.int iw), .val (.int 2), .val (.int (x5 &&& 2147483647)), .unset, .unset, .unset]) rfl ?_
  refine Go.new [("restrictions", "[I", .null)] d0_132 (hw _ (List.mem_of_getElem? (i := 6) rfl)) (hw _ (List.mem_of_getElem? (i := 7) rfl)) (hw _ (List.mem_of_getElem? (i := 8) rfl)) (by decide) (fun f hf => ?_) (i := 1) rfl 14 125 (by decide) (by decide) ?_
  · simp only [List.mem_cons, List.not_mem_nil, or_false] at hf
    rcases hf with rfl
    · exact ⟨Or.inr (hw _ (List.mem_of_getElem? (i := 25) rfl)), _, (by decide : parseFieldDescriptor "[I" = some (.array .int)), rfl⟩
  show Go _ _ _ _ 135 [.val (.int x0), .val (.int x1), .val (.int x2), .val (.int x3), .val (.int x4), .val (.int x5), .val (.int d0), .val (.int d1), .val (.int d2), .val (.int 2), .val (.ref 0), .val (.int iw), .val (.int 2), .val (.int (x5 &&& 2147483647)), .unset, .unset, .unset] [.ref 1] [.inr (.int, [.int d0, .int d1]), .inl ("com/example/subsume/subsume/Nesting", [("restrictions", "[I", .null)])] _
  refine Go.dup d0_135 rfl ?_
  refine Go.aload d0_136 rfl rfl ?_
  refine Go.callI (M' := m2) (i := 1) d0_138 rfl rfl (hw _ (List.mem_of_getElem? (i := 9) rfl)) (hw _ (List.mem_of_getElem? (i := 10) rfl)) (hw _ (List.mem_of_getElem? (i := 8) rfl)) (hw _ (List.mem_of_getElem? (i := 11) rfl)) mi2 (as := [.ref 0]) rfl rfl (st := [.ref 1]) rfl (ls1 := [.val (.ref 1), .val (.ref 0), .unset]) rfl (W := 1) rfl (by decide) (by decide) (go_ctor2 K hw d0 d1) 13 123 (by decide) (by decide) ?_
  show Go _ _ _ _ 141 [.val (.int x0), .val (.int x1), .val (.int x2), .val (.int x3), .val (.int x4), .val (.int x5), .val (.int d0), .val (.int d1), .val (.int d2), .val (.int 2), .val (.ref 0), .val (.int iw), .val (.int 2), .val (.int (x5 &&& 2147483647)), .unset, .unset, .unset] [.ref 1] [.inr (.int, [.int d0, .int d1]), .inl ("com/example/subsume/subsume/Nesting", [("restrictions", "[I", .ref 2)]), .inr (.int, [.int (own_max d0 d1), .int d1])] _
  refine Go.astore d0_141 (ls' := [.val (.int x0), .val (.int x1), .val (.int x2), .val (.int x3), .val (.int x4), .val (.int x5), .val (.int d0), .val (.int d1), .val (.int d2), .val (.int 2), .val (.ref 0), .val (.int iw), .val (.int 2), .val (.int (x5 &&& 2147483647)), .val (.ref 1), .unset, .unset]) rfl rfl ?_
  refine Go.aload d0_143 rfl rfl ?_
  refine Go.iload d0_145 rfl ?_
  refine Go.iload d0_147 rfl ?_
  refine Go.callV (M' := m4) (i := 1) d0_149 rfl (hw _ (List.mem_of_getElem? (i := 26) rfl)) (hw _ (List.mem_of_getElem? (i := 28) rfl)) (hw _ (List.mem_of_getElem? (i := 8) rfl)) (hw _ (List.mem_of_getElem? (i := 27) rfl)) (hw _ (List.mem_of_getElem? (i := 29) rfl)) (hw _ (List.mem_of_getElem? (i := 30) rfl)) mi4 (as := [.int 2, .int (x5 &&& 2147483647)]) rfl rfl (st := []) rfl (ls1 := [.val (.ref 1), .val (.int 2), .val (.int (x5 &&& 2147483647))]) rfl (W := 0) rfl (by decide) (by decide) (go_cvN K hw _ 1 2 _ _ _ 2 rfl rfl rfl (by decide)) 13 123 (by decide) (by decide) ?_
  show Go _ _ _ _ 152 [.val (.int x0), .val (.int x1), .val (.int x2), .val (.int x3), .val (.int x4), .val (.int x5), .val (.int d0), .val (.int d1), .val (.int d2), .val (.int 2), .val (.ref 0), .val (.int iw), .val (.int 2), .val (.int (x5 &&& 2147483647)), .val (.ref 1), .unset, .unset] [.int 0] [.inr (.int, [.int d0, .int d1]), .inl ("com/example/subsume/subsume/Nesting", [("restrictions", "[I", .ref 2)]), .inr (.int, [.int (own_max d0 d1), .int d1])] _
  refine Go.istore d0_152 (ls' := [.val (.int x0), .val (.int x1), .val (.int x2), .val (.int x3), .val (.int x4), .val (.int x5), .val (.int d0), .val (.int d1), .val (.int d2), .val (.int 2), .val (.ref 0), .val (.int iw), .val (.int 2), .val (.int (x5 &&& 2147483647)), .val (.ref 1), .val (.int 0), .unset]) rfl ?_
  refine Go.iconst d0_154 (v := 0) rfl ?_
  refine Go.iload d0_155 rfl ?_
  refine Go.iload d0_157 rfl ?_
  refine Go.iload d0_159 rfl ?_
  refine Go.iload d0_161 rfl ?_
  refine Go.callS (M' := m5) d0_163 (hw _ (List.mem_of_getElem? (i := 31) rfl)) (hw _ (List.mem_of_getElem? (i := 32) rfl)) (hw _ (List.mem_of_getElem? (i := 2) rfl)) (hw _ (List.mem_of_getElem? (i := 33) rfl)) mi5 (as := [.int 0, .int 2, .int d0, .int 2, .int (x5 &&& 2147483647)]) rfl rfl (st := []) rfl (ls1 := [.val (.int 0), .val (.int 2), .val (.int d0), .val (.int 2), .val (.int (x5 &&& 2147483647))]) rfl (W := 0) rfl (by decide) (by decide) (go_own_cov K hw 0 2 d0 2 (x5 &&& 2147483647) _) 13 123 (by decide) (by decide) ?_
  show Go _ _ _ _ 166 [.val (.int x0), .val (.int x1), .val (.int x2), .val (.int x3), .val (.int x4), .val (.int x5), .val (.int d0), .val (.int d1), .val (.int d2), .val (.int 2), .val (.ref 0), .val (.int iw), .val (.int 2), .val (.int (x5 &&& 2147483647)), .val (.ref 1), .val (.int 0), .unset] [.int (own_cov 0 2 d0 2 (x5 &&& 2147483647))] [.inr (.int, [.int d0, .int d1]), .inl ("com/example/subsume/subsume/Nesting", [("restrictions", "[I", .ref 2)]), .inr (.int, [.int (own_max d0 d1), .int d1])] _
  refine Go.ifF d0_166 (XT.i0_ne_f (own_cz1 (by decide))) ?_
  refine Go.iconst d0_169 (v := 1) rfl ?_
  refine Go.iload d0_170 rfl ?_
  refine Go.iload d0_172 rfl ?_
  refine Go.iload d0_174 rfl ?_
  refine Go.iload d0_176 rfl ?_
  refine Go.callS (M' := m5) d0_178 (hw _ (List.mem_of_getElem? (i := 31) rfl)) (hw _ (List.mem_of_getElem? (i := 32) rfl)) (hw _ (List.mem_of_getElem? (i := 2) rfl)) (hw _ (List.mem_of_getElem? (i := 33) rfl)) mi5 (as := [.int 1, .int 2, .int d1, .int 2, .int (x5 &&& 2147483647)]) rfl rfl (st := []) rfl (ls1 := [.val (.int 1), .val (.int 2), .val (.int d1), .val (.int 2), .val (.int (x5 &&& 2147483647))]) rfl (W := 0) rfl (by decide) (by decide) (go_own_cov K hw 1 2 d1 2 (x5 &&& 2147483647) _) 13 123 (by decide) (by decide) ?_
  show Go _ _ _ _ 181 [.val (.int x0), .val (.int x1), .val (.int x2), .val (.int x3), .val (.int x4), .val (.int x5), .val (.int d0), .val (.int d1), .val (.int d2), .val (.int 2), .val (.ref 0), .val (.int iw), .val (.int 2), .val (.int (x5 &&& 2147483647)), .val (.ref 1), .val (.int 0), .unset] [.int (own_cov 1 2 d1 2 (x5 &&& 2147483647))] [.inr (.int, [.int d0, .int d1]), .inl ("com/example/subsume/subsume/Nesting", [("restrictions", "[I", .ref 2)]), .inr (.int, [.int (own_max d0 d1), .int d1])] _
  refine Go.ifF d0_181 (XT.i0_ne_f (own_cz1 (by decide))) ?_
  refine Go.iconst d0_184 (v := 2) rfl ?_
  refine Go.iload d0_185 rfl ?_
  refine Go.iload d0_187 rfl ?_
  refine Go.iload d0_189 rfl ?_
  refine Go.iload d0_191 rfl ?_
  refine Go.callS (M' := m5) d0_193 (hw _ (List.mem_of_getElem? (i := 31) rfl)) (hw _ (List.mem_of_getElem? (i := 32) rfl)) (hw _ (List.mem_of_getElem? (i := 2) rfl)) (hw _ (List.mem_of_getElem? (i := 33) rfl)) mi5 (as := [.int 2, .int 2, .int d2, .int 2, .int (x5 &&& 2147483647)]) rfl rfl (st := []) rfl (ls1 := [.val (.int 2), .val (.int 2), .val (.int d2), .val (.int 2), .val (.int (x5 &&& 2147483647))]) rfl (W := 0) rfl (by decide) (by decide) (go_own_cov K hw 2 2 d2 2 (x5 &&& 2147483647) _) 13 123 (by decide) (by decide) ?_
  show Go _ _ _ _ 196 [.val (.int x0), .val (.int x1), .val (.int x2), .val (.int x3), .val (.int x4), .val (.int x5), .val (.int d0), .val (.int d1), .val (.int d2), .val (.int 2), .val (.ref 0), .val (.int iw), .val (.int 2), .val (.int (x5 &&& 2147483647)), .val (.ref 1), .val (.int 0), .unset] [.int (own_cov 2 2 d2 2 (x5 &&& 2147483647))] [.inr (.int, [.int d0, .int d1]), .inl ("com/example/subsume/subsume/Nesting", [("restrictions", "[I", .ref 2)]), .inr (.int, [.int (own_max d0 d1), .int d1])] _
  refine Go.ifT d0_196 j0_196 (XT.i0_eq_t (own_cz2 (by decide) (by decide))) ?_
  refine Go.iconst d0_203 (v := 0) rfl ?_
  refine Go.istore d0_204 (ls' := [.val (.int x0), .val (.int x1), .val (.int x2), .val (.int x3), .val (.int x4), .val (.int x5), .val (.int d0), .val (.int d1), .val (.int d2), .val (.int 2), .val (.ref 0), .val (.int iw), .val (.int 2), .val (.int (x5 &&& 2147483647)), .val (.ref 1), .val (.int 0), .val (.int 0)]) rfl ?_
  refine Go.iload d0_206 rfl ?_
  refine Go.iload d0_208 rfl ?_
  refine Go.icmpF d0_210 (XT.ii_ne_f (by decide)) ?_
  refine Go.iconst d0_213 (v := 1) rfl ?_
  refine Go.goto d0_214 j0_214 ?_
  exact Go.ireturnZ d0_218 rfl (by decide) rfl HOk.any
theorem go_t125_2_ii (K : Ctx) (hw : ∀ d ∈ tables_1, d.before K.2.2.1 K.2.1 = true) (x0 x1 x2 x3 x4 x5 d0 d1 d2 iw ii : Int32) (hr : 0 ≤ (x5 &&& 2147483647).toInt) (h3 : ¬ ii < 3) : Go K m0 5 128 125 [.val (.int x0), .val (.int x1), .val (.int x2), .val (.int x3), .val (.int x4), .val (.int x5), .val (.int d0), .val (.int d1), .val (.int d2), .val (.int 2), .val (.ref 0), .val (.int iw), .val (.int ii), .unset, .unset, .unset, .unset] [] [.inr (.int, [.int d0, .int d1])] (some (.int 1), none, 15, 126) := by
  refine Go.iload d0_125 rfl ?_
  refine Go.ldc d0_127 (hw _ (List.mem_of_getElem? (i := 5) rfl)) ?_
  refine Go.iand d0_129 ?_
  refine Go.istore d0_130 (ls' := [.val (.int x0), .val (.int x1), .val (.int x2), .val (.int x3), .val (.int x4), .val (.int x5), .val (.int d0), .val (.int d1), .val (.int d2), .val (.int 2), .val (.ref 0), .val (.int iw), .val (.int ii), .val (.int (x5 &&& 2147483647)), .unset, .unset, .unset]) rfl ?_
  refine Go.new [("restrictions", "[I", .null)] d0_132 (hw _ (List.mem_of_getElem? (i := 6) rfl)) (hw _ (List.mem_of_getElem? (i := 7) rfl)) (hw _ (List.mem_of_getElem? (i := 8) rfl)) (by decide) (fun f hf => ?_) (i := 1) rfl 14 125 (by decide) (by decide) ?_
  · simp only [List.mem_cons, List.not_mem_nil, or_false] at hf
    rcases hf with rfl
    · exact ⟨Or.inr (hw _ (List.mem_of_getElem? (i := 25) rfl)), _, (by decide : parseFieldDescriptor "[I" = some (.array .int)), rfl⟩
  show Go _ _ _ _ 135 [.val (.int x0), .val (.int x1), .val (.int x2), .val (.int x3), .val (.int x4), .val (.int x5), .val (.int d0), .val (.int d1), .val (.int d2), .val (.int 2), .val (.ref 0), .val (.int iw), .val (.int ii), .val (.int (x5 &&& 2147483647)), .unset, .unset, .unset] [.ref 1] [.inr (.int, [.int d0, .int d1]), .inl ("com/example/subsume/subsume/Nesting", [("restrictions", "[I", .null)])] _
  refine Go.dup d0_135 rfl ?_
  refine Go.aload d0_136 rfl rfl ?_
  refine Go.callI (M' := m2) (i := 1) d0_138 rfl rfl (hw _ (List.mem_of_getElem? (i := 9) rfl)) (hw _ (List.mem_of_getElem? (i := 10) rfl)) (hw _ (List.mem_of_getElem? (i := 8) rfl)) (hw _ (List.mem_of_getElem? (i := 11) rfl)) mi2 (as := [.ref 0]) rfl rfl (st := [.ref 1]) rfl (ls1 := [.val (.ref 1), .val (.ref 0), .unset]) rfl (W := 1) rfl (by decide) (by decide) (go_ctor2 K hw d0 d1) 13 123 (by decide) (by decide) ?_
  show Go _ _ _ _ 141 [.val (.int x0), .val (.int x1), .val (.int x2), .val (.int x3), .val (.int x4), .val (.int x5), .val (.int d0), .val (.int d1), .val (.int d2), .val (.int 2), .val (.ref 0), .val (.int iw), .val (.int ii), .val (.int (x5 &&& 2147483647)), .unset, .unset, .unset] [.ref 1] [.inr (.int, [.int d0, .int d1]), .inl ("com/example/subsume/subsume/Nesting", [("restrictions", "[I", .ref 2)]), .inr (.int, [.int (own_max d0 d1), .int d1])] _
  refine Go.astore d0_141 (ls' := [.val (.int x0), .val (.int x1), .val (.int x2), .val (.int x3), .val (.int x4), .val (.int x5), .val (.int d0), .val (.int d1), .val (.int d2), .val (.int 2), .val (.ref 0), .val (.int iw), .val (.int ii), .val (.int (x5 &&& 2147483647)), .val (.ref 1), .unset, .unset]) rfl rfl ?_
  refine Go.aload d0_143 rfl rfl ?_
  refine Go.iload d0_145 rfl ?_
  refine Go.iload d0_147 rfl ?_
  refine Go.callV (M' := m4) (i := 1) d0_149 rfl (hw _ (List.mem_of_getElem? (i := 26) rfl)) (hw _ (List.mem_of_getElem? (i := 28) rfl)) (hw _ (List.mem_of_getElem? (i := 8) rfl)) (hw _ (List.mem_of_getElem? (i := 27) rfl)) (hw _ (List.mem_of_getElem? (i := 29) rfl)) (hw _ (List.mem_of_getElem? (i := 30) rfl)) mi4 (as := [.int ii, .int (x5 &&& 2147483647)]) rfl rfl (st := []) rfl (ls1 := [.val (.ref 1), .val (.int ii), .val (.int (x5 &&& 2147483647))]) rfl (W := 0) rfl (by decide) (by decide) (go_cvN K hw _ 1 2 _ _ _ 2 rfl rfl rfl (own_ge h3 (by decide))) 13 123 (by decide) (by decide) ?_
  show Go _ _ _ _ 152 [.val (.int x0), .val (.int x1), .val (.int x2), .val (.int x3), .val (.int x4), .val (.int x5), .val (.int d0), .val (.int d1), .val (.int d2), .val (.int 2), .val (.ref 0), .val (.int iw), .val (.int ii), .val (.int (x5 &&& 2147483647)), .val (.ref 1), .unset, .unset] [.int 0] [.inr (.int, [.int d0, .int d1]), .inl ("com/example/subsume/subsume/Nesting", [("restrictions", "[I", .ref 2)]), .inr (.int, [.int (own_max d0 d1), .int d1])] _
  refine Go.istore d0_152 (ls' := [.val (.int x0), .val (.int x1), .val (.int x2), .val (.int x3), .val (.int x4), .val (.int x5), .val (.int d0), .val (.int d1), .val (.int d2), .val (.int 2), .val (.ref 0), .val (.int iw), .val (.int ii), .val (.int (x5 &&& 2147483647)), .val (.ref 1), .val (.int 0), .unset]) rfl ?_
  refine Go.iconst d0_154 (v := 0) rfl ?_
  refine Go.iload d0_155 rfl ?_
  refine Go.iload d0_157 rfl ?_
  refine Go.iload d0_159 rfl ?_
  refine Go.iload d0_161 rfl ?_
  refine Go.callS (M' := m5) d0_163 (hw _ (List.mem_of_getElem? (i := 31) rfl)) (hw _ (List.mem_of_getElem? (i := 32) rfl)) (hw _ (List.mem_of_getElem? (i := 2) rfl)) (hw _ (List.mem_of_getElem? (i := 33) rfl)) mi5 (as := [.int 0, .int 2, .int d0, .int ii, .int (x5 &&& 2147483647)]) rfl rfl (st := []) rfl (ls1 := [.val (.int 0), .val (.int 2), .val (.int d0), .val (.int ii), .val (.int (x5 &&& 2147483647))]) rfl (W := 0) rfl (by decide) (by decide) (go_own_cov K hw 0 2 d0 ii (x5 &&& 2147483647) _) 13 123 (by decide) (by decide) ?_
  show Go _ _ _ _ 166 [.val (.int x0), .val (.int x1), .val (.int x2), .val (.int x3), .val (.int x4), .val (.int x5), .val (.int d0), .val (.int d1), .val (.int d2), .val (.int 2), .val (.ref 0), .val (.int iw), .val (.int ii), .val (.int (x5 &&& 2147483647)), .val (.ref 1), .val (.int 0), .unset] [.int (own_cov 0 2 d0 ii (x5 &&& 2147483647))] [.inr (.int, [.int d0, .int d1]), .inl ("com/example/subsume/subsume/Nesting", [("restrictions", "[I", .ref 2)]), .inr (.int, [.int (own_max d0 d1), .int d1])] _
  refine Go.ifF d0_166 (XT.i0_ne_f (own_c3 (by decide) h3)) ?_
  refine Go.iconst d0_169 (v := 1) rfl ?_
  refine Go.iload d0_170 rfl ?_
  refine Go.iload d0_172 rfl ?_
  refine Go.iload d0_174 rfl ?_
  refine Go.iload d0_176 rfl ?_
  refine Go.callS (M' := m5) d0_178 (hw _ (List.mem_of_getElem? (i := 31) rfl)) (hw _ (List.mem_of_getElem? (i := 32) rfl)) (hw _ (List.mem_of_getElem? (i := 2) rfl)) (hw _ (List.mem_of_getElem? (i := 33) rfl)) mi5 (as := [.int 1, .int 2, .int d1, .int ii, .int (x5 &&& 2147483647)]) rfl rfl (st := []) rfl (ls1 := [.val (.int 1), .val (.int 2), .val (.int d1), .val (.int ii), .val (.int (x5 &&& 2147483647))]) rfl (W := 0) rfl (by decide) (by decide) (go_own_cov K hw 1 2 d1 ii (x5 &&& 2147483647) _) 13 123 (by decide) (by decide) ?_
  show Go _ _ _ _ 181 [.val (.int x0), .val (.int x1), .val (.int x2), .val (.int x3), .val (.int x4), .val (.int x5), .val (.int d0), .val (.int d1), .val (.int d2), .val (.int 2), .val (.ref 0), .val (.int iw), .val (.int ii), .val (.int (x5 &&& 2147483647)), .val (.ref 1), .val (.int 0), .unset] [.int (own_cov 1 2 d1 ii (x5 &&& 2147483647))] [.inr (.int, [.int d0, .int d1]), .inl ("com/example/subsume/subsume/Nesting", [("restrictions", "[I", .ref 2)]), .inr (.int, [.int (own_max d0 d1), .int d1])] _
  refine Go.ifF d0_181 (XT.i0_ne_f (own_c3 (by decide) h3)) ?_
  refine Go.iconst d0_184 (v := 2) rfl ?_
  refine Go.iload d0_185 rfl ?_
  refine Go.iload d0_187 rfl ?_
  refine Go.iload d0_189 rfl ?_
  refine Go.iload d0_191 rfl ?_
  refine Go.callS (M' := m5) d0_193 (hw _ (List.mem_of_getElem? (i := 31) rfl)) (hw _ (List.mem_of_getElem? (i := 32) rfl)) (hw _ (List.mem_of_getElem? (i := 2) rfl)) (hw _ (List.mem_of_getElem? (i := 33) rfl)) mi5 (as := [.int 2, .int 2, .int d2, .int ii, .int (x5 &&& 2147483647)]) rfl rfl (st := []) rfl (ls1 := [.val (.int 2), .val (.int 2), .val (.int d2), .val (.int ii), .val (.int (x5 &&& 2147483647))]) rfl (W := 0) rfl (by decide) (by decide) (go_own_cov K hw 2 2 d2 ii (x5 &&& 2147483647) _) 13 123 (by decide) (by decide) ?_
  show Go _ _ _ _ 196 [.val (.int x0), .val (.int x1), .val (.int x2), .val (.int x3), .val (.int x4), .val (.int x5), .val (.int d0), .val (.int d1), .val (.int d2), .val (.int 2), .val (.ref 0), .val (.int iw), .val (.int ii), .val (.int (x5 &&& 2147483647)), .val (.ref 1), .val (.int 0), .unset] [.int (own_cov 2 2 d2 ii (x5 &&& 2147483647))] [.inr (.int, [.int d0, .int d1]), .inl ("com/example/subsume/subsume/Nesting", [("restrictions", "[I", .ref 2)]), .inr (.int, [.int (own_max d0 d1), .int d1])] _
  refine Go.ifT d0_196 j0_196 (XT.i0_eq_t (own_c3 (by decide) h3)) ?_
  refine Go.iconst d0_203 (v := 0) rfl ?_
  refine Go.istore d0_204 (ls' := [.val (.int x0), .val (.int x1), .val (.int x2), .val (.int x3), .val (.int x4), .val (.int x5), .val (.int d0), .val (.int d1), .val (.int d2), .val (.int 2), .val (.ref 0), .val (.int iw), .val (.int ii), .val (.int (x5 &&& 2147483647)), .val (.ref 1), .val (.int 0), .val (.int 0)]) rfl ?_
  refine Go.iload d0_206 rfl ?_
  refine Go.iload d0_208 rfl ?_
  refine Go.icmpF d0_210 (XT.ii_ne_f (by decide)) ?_
  refine Go.iconst d0_213 (v := 1) rfl ?_
  refine Go.goto d0_214 j0_214 ?_
  exact Go.ireturnZ d0_218 rfl (by decide) rfl HOk.any
theorem go_t125_2 (K : Ctx) (hw : ∀ d ∈ tables_1, d.before K.2.2.1 K.2.1 = true) (x0 x1 x2 x3 x4 x5 d0 d1 d2 iw ii : Int32) (hr : 0 ≤ (x5 &&& 2147483647).toInt) (hi : ¬ ii < 0) : Go K m0 5 128 125 [.val (.int x0), .val (.int x1), .val (.int x2), .val (.int x3), .val (.int x4), .val (.int x5), .val (.int d0), .val (.int d1), .val (.int d2), .val (.int 2), .val (.ref 0), .val (.int iw), .val (.int ii), .unset, .unset, .unset, .unset] [] [.inr (.int, [.int d0, .int d1])] (some (.int 1), none, 15, 126) := by
  rcases own_ii hi with rfl | rfl | rfl | h3
  · exact go_t125_2_0 K hw _ _ _ _ _ _ _ _ _ _  hr
  · exact go_t125_2_1 K hw _ _ _ _ _ _ _ _ _ _  hr
  · exact go_t125_2_2 K hw _ _ _ _ _ _ _ _ _ _  hr
  · exact go_t125_2_ii K hw _ _ _ _ _ _ _ _ _ _ _  hr h3
theorem go_t125_3_0 (K : Ctx) (hw : ∀ d ∈ tables_1, d.before K.2.2.1 K.2.1 = true) (x0 x1 x2 x3 x4 x5 d0 d1 d2 iw : Int32) (hr : 0 ≤ (x5 &&& 2147483647).toInt) : Go K m0 5 128 125 [.val (.int x0), .val (.int x1), .val (.int x2), .val (.int x3), .val (.int x4), .val (.int x5), .val (.int d0), .val (.int d1), .val (.int d2), .val (.int 3), .val (.ref 0), .val (.int iw), .val (.int 0), .unset, .unset, .unset, .unset] [] [.inr (.int, [.int d0, .int d1, .int d2])] (some (.int 1), none, 15, 125) := by
  refine Go.iload d0_125 rfl ?_
  refine Go.ldc d0_127 (hw _ (List.mem_of_getElem? (i := 5) rfl)) ?_
  refine Go.iand d0_129 ?_
  refine Go.istore d0_130 (ls' := [.val (.int x0), .val (.int x1), .val (.int x2), .val (.int x3), .val (.int x4), .val (.int x5), .val (.int d0), .val (.int d1), .val (.int d2), .val (.int 3), .val (.ref 0), .val (.int iw), .val (.int 0), .val (.int (x5 &&& 2147483647)), .unset, .unset, .unset]) rfl ?_
  refine Go.new [("restrictions", "[I", .null)] d0_132 (hw _ (List.mem_of_getElem? (i := 6) rfl)) (hw _ (List.mem_of_getElem? (i := 7) rfl)) (hw _ (List.mem_of_getElem? (i := 8) rfl)) (by decide) (fun f hf => ?_) (i := 1) rfl 14 124 (by decide) (by decide) ?_
  · simp only [List.mem_cons, List.not_mem_nil, or_false] at hf
    rcases hf with rfl
    · exact ⟨Or.inr (hw _ (List.mem_of_getElem? (i := 25) rfl)), _, (by decide : parseFieldDescriptor "[I" = some (.array .int)), rfl⟩
  show Go _ _ _ _ 135 [.val (.int x0), .val (.int x1), .val (.int x2), .val (.int x3), .val (.int x4), .val (.int x5), .val (.int d0), .val (.int d1), .val (.int d2), .val (.int 3), .val (.ref 0), .val (.int iw), .val (.int 0), .val (.int (x5 &&& 2147483647)), .unset, .unset, .unset] [.ref 1] [.inr (.int, [.int d0, .int d1, .int d2]), .inl ("com/example/subsume/subsume/Nesting", [("restrictions", "[I", .null)])] _
  refine Go.dup d0_135 rfl ?_
  refine Go.aload d0_136 rfl rfl ?_
  refine Go.callI (M' := m2) (i := 1) d0_138 rfl rfl (hw _ (List.mem_of_getElem? (i := 9) rfl)) (hw _ (List.mem_of_getElem? (i := 10) rfl)) (hw _ (List.mem_of_getElem? (i := 8) rfl)) (hw _ (List.mem_of_getElem? (i := 11) rfl)) mi2 (as := [.ref 0]) rfl rfl (st := [.ref 1]) rfl (ls1 := [.val (.ref 1), .val (.ref 0), .unset]) rfl (W := 1) rfl (by decide) (by decide) (go_ctor3 K hw d0 d1 d2) 13 121 (by decide) (by decide) ?_
  show Go _ _ _ _ 141 [.val (.int x0), .val (.int x1), .val (.int x2), .val (.int x3), .val (.int x4), .val (.int x5), .val (.int d0), .val (.int d1), .val (.int d2), .val (.int 3), .val (.ref 0), .val (.int iw), .val (.int 0), .val (.int (x5 &&& 2147483647)), .unset, .unset, .unset] [.ref 1] [.inr (.int, [.int d0, .int d1, .int d2]), .inl ("com/example/subsume/subsume/Nesting", [("restrictions", "[I", .ref 2)]), .inr (.int, [.int (own_max d0 (own_max d1 d2)), .int (own_max d1 d2), .int d2])] _
  refine Go.astore d0_141 (ls' := [.val (.int x0), .val (.int x1), .val (.int x2), .val (.int x3), .val (.int x4), .val (.int x5), .val (.int d0), .val (.int d1), .val (.int d2), .val (.int 3), .val (.ref 0), .val (.int iw), .val (.int 0), .val (.int (x5 &&& 2147483647)), .val (.ref 1), .unset, .unset]) rfl rfl ?_
  refine Go.aload d0_143 rfl rfl ?_
  refine Go.iload d0_145 rfl ?_
  refine Go.iload d0_147 rfl ?_
  refine Go.callV (M' := m4) (i := 1) d0_149 rfl (hw _ (List.mem_of_getElem? (i := 26) rfl)) (hw _ (List.mem_of_getElem? (i := 28) rfl)) (hw _ (List.mem_of_getElem? (i := 8) rfl)) (hw _ (List.mem_of_getElem? (i := 27) rfl)) (hw _ (List.mem_of_getElem? (i := 29) rfl)) (hw _ (List.mem_of_getElem? (i := 30) rfl)) mi4 (as := [.int 0, .int (x5 &&& 2147483647)]) rfl rfl (st := []) rfl (ls1 := [.val (.ref 1), .val (.int 0), .val (.int (x5 &&& 2147483647))]) rfl (W := 0) rfl (by decide) (by decide) (go_own_cv K hw _ 1 2 _ 0 _ 3 _ rfl rfl rfl (by decide) (by decide) rfl) 13 121 (by decide) (by decide) ?_
  show Go _ _ _ _ 152 [.val (.int x0), .val (.int x1), .val (.int x2), .val (.int x3), .val (.int x4), .val (.int x5), .val (.int d0), .val (.int d1), .val (.int d2), .val (.int 3), .val (.ref 0), .val (.int iw), .val (.int 0), .val (.int (x5 &&& 2147483647)), .val (.ref 1), .unset, .unset] [.int (own_cv (own_max d0 (own_max d1 d2)) (x5 &&& 2147483647))] [.inr (.int, [.int d0, .int d1, .int d2]), .inl ("com/example/subsume/subsume/Nesting", [("restrictions", "[I", .ref 2)]), .inr (.int, [.int (own_max d0 (own_max d1 d2)), .int (own_max d1 d2), .int d2])] _
  refine Go.istore d0_152 (ls' := [.val (.int x0), .val (.int x1), .val (.int x2), .val (.int x3), .val (.int x4), .val (.int x5), .val (.int d0), .val (.int d1), .val (.int d2), .val (.int 3), .val (.ref 0), .val (.int iw), .val (.int 0), .val (.int (x5 &&& 2147483647)), .val (.ref 1), .val (.int (own_cv (own_max d0 (own_max d1 d2)) (x5 &&& 2147483647))), .unset]) rfl ?_
  refine Go.iconst d0_154 (v := 0) rfl ?_
  refine Go.iload d0_155 rfl ?_
  refine Go.iload d0_157 rfl ?_
  refine Go.iload d0_159 rfl ?_
  refine Go.iload d0_161 rfl ?_
  refine Go.callS (M' := m5) d0_163 (hw _ (List.mem_of_getElem? (i := 31) rfl)) (hw _ (List.mem_of_getElem? (i := 32) rfl)) (hw _ (List.mem_of_getElem? (i := 2) rfl)) (hw _ (List.mem_of_getElem? (i := 33) rfl)) mi5 (as := [.int 0, .int 3, .int d0, .int 0, .int (x5 &&& 2147483647)]) rfl rfl (st := []) rfl (ls1 := [.val (.int 0), .val (.int 3), .val (.int d0), .val (.int 0), .val (.int (x5 &&& 2147483647))]) rfl (W := 0) rfl (by decide) (by decide) (go_own_cov K hw 0 3 d0 0 (x5 &&& 2147483647) _) 13 121 (by decide) (by decide) ?_
  show Go _ _ _ _ 166 [.val (.int x0), .val (.int x1), .val (.int x2), .val (.int x3), .val (.int x4), .val (.int x5), .val (.int d0), .val (.int d1), .val (.int d2), .val (.int 3), .val (.ref 0), .val (.int iw), .val (.int 0), .val (.int (x5 &&& 2147483647)), .val (.ref 1), .val (.int (own_cv (own_max d0 (own_max d1 d2)) (x5 &&& 2147483647))), .unset] [.int (own_cov 0 3 d0 0 (x5 &&& 2147483647))] [.inr (.int, [.int d0, .int d1, .int d2]), .inl ("com/example/subsume/subsume/Nesting", [("restrictions", "[I", .ref 2)]), .inr (.int, [.int (own_max d0 (own_max d1 d2)), .int (own_max d1 d2), .int d2])] _
  refine Go.if_ne d0_166 j0_166 (fun h166 => ?_) (fun h166 => ?_)
  · -- pc 166 taken
    refine Go.iconst d0_199 (v := 1) rfl ?_
    refine Go.goto d0_200 j0_200 ?_
    refine Go.istore d0_204 (ls' := [.val (.int x0), .val (.int x1), .val (.int x2), .val (.int x3), .val (.int x4), .val (.int x5), .val (.int d0), .val (.int d1), .val (.int d2), .val (.int 3), .val (.ref 0), .val (.int iw), .val (.int 0), .val (.int (x5 &&& 2147483647)), .val (.ref 1), .val (.int (own_cv (own_max d0 (own_max d1 d2)) (x5 &&& 2147483647))), .val (.int 1)]) rfl ?_
    refine Go.iload d0_206 rfl ?_
    refine Go.iload d0_208 rfl ?_
    refine Go.icmpF d0_210 (XT.ii_ne_f (by
                        simp only [own_covz, own_lits] at h166
                        exact own_fp (by (try simp only [own_maxv]); omega))) ?_
    refine Go.iconst d0_213 (v := 1) rfl ?_
    refine Go.goto d0_214 j0_214 ?_
    exact Go.ireturnZ d0_218 rfl (by decide) rfl HOk.any
  · -- pc 166 not taken
    refine Go.iconst d0_169 (v := 1) rfl ?_
    refine Go.iload d0_170 rfl ?_
    refine Go.iload d0_172 rfl ?_
    refine Go.iload d0_174 rfl ?_
    refine Go.iload d0_176 rfl ?_
    refine Go.callS (M' := m5) d0_178 (hw _ (List.mem_of_getElem? (i := 31) rfl)) (hw _ (List.mem_of_getElem? (i := 32) rfl)) (hw _ (List.mem_of_getElem? (i := 2) rfl)) (hw _ (List.mem_of_getElem? (i := 33) rfl)) mi5 (as := [.int 1, .int 3, .int d1, .int 0, .int (x5 &&& 2147483647)]) rfl rfl (st := []) rfl (ls1 := [.val (.int 1), .val (.int 3), .val (.int d1), .val (.int 0), .val (.int (x5 &&& 2147483647))]) rfl (W := 0) rfl (by decide) (by decide) (go_own_cov K hw 1 3 d1 0 (x5 &&& 2147483647) _) 13 121 (by decide) (by decide) ?_
    show Go _ _ _ _ 181 [.val (.int x0), .val (.int x1), .val (.int x2), .val (.int x3), .val (.int x4), .val (.int x5), .val (.int d0), .val (.int d1), .val (.int d2), .val (.int 3), .val (.ref 0), .val (.int iw), .val (.int 0), .val (.int (x5 &&& 2147483647)), .val (.ref 1), .val (.int (own_cv (own_max d0 (own_max d1 d2)) (x5 &&& 2147483647))), .unset] [.int (own_cov 1 3 d1 0 (x5 &&& 2147483647))] [.inr (.int, [.int d0, .int d1, .int d2]), .inl ("com/example/subsume/subsume/Nesting", [("restrictions", "[I", .ref 2)]), .inr (.int, [.int (own_max d0 (own_max d1 d2)), .int (own_max d1 d2), .int d2])] _
    refine Go.if_ne d0_181 j0_181 (fun h181 => ?_) (fun h181 => ?_)
    · -- pc 181 taken
      refine Go.iconst d0_199 (v := 1) rfl ?_
      refine Go.goto d0_200 j0_200 ?_
      refine Go.istore d0_204 (ls' := [.val (.int x0), .val (.int x1), .val (.int x2), .val (.int x3), .val (.int x4), .val (.int x5), .val (.int d0), .val (.int d1), .val (.int d2), .val (.int 3), .val (.ref 0), .val (.int iw), .val (.int 0), .val (.int (x5 &&& 2147483647)), .val (.ref 1), .val (.int (own_cv (own_max d0 (own_max d1 d2)) (x5 &&& 2147483647))), .val (.int 1)]) rfl ?_
      refine Go.iload d0_206 rfl ?_
      refine Go.iload d0_208 rfl ?_
      refine Go.icmpF d0_210 (XT.ii_ne_f (by
                        simp only [own_covz, own_lits] at h166 h181
                        exact own_fp (by (try simp only [own_maxv]); omega))) ?_
      refine Go.iconst d0_213 (v := 1) rfl ?_
      refine Go.goto d0_214 j0_214 ?_
      exact Go.ireturnZ d0_218 rfl (by decide) rfl HOk.any
    · -- pc 181 not taken
      refine Go.iconst d0_184 (v := 2) rfl ?_
      refine Go.iload d0_185 rfl ?_
      refine Go.iload d0_187 rfl ?_
      refine Go.iload d0_189 rfl ?_
      refine Go.iload d0_191 rfl ?_
      refine Go.callS (M' := m5) d0_193 (hw _ (List.mem_of_getElem? (i := 31) rfl)) (hw _ (List.mem_of_getElem? (i := 32) rfl)) (hw _ (List.mem_of_getElem? (i := 2) rfl)) (hw _ (List.mem_of_getElem? (i := 33) rfl)) mi5 (as := [.int 2, .int 3, .int d2, .int 0, .int (x5 &&& 2147483647)]) rfl rfl (st := []) rfl (ls1 := [.val (.int 2), .val (.int 3), .val (.int d2), .val (.int 0), .val (.int (x5 &&& 2147483647))]) rfl (W := 0) rfl (by decide) (by decide) (go_own_cov K hw 2 3 d2 0 (x5 &&& 2147483647) _) 13 121 (by decide) (by decide) ?_
      show Go _ _ _ _ 196 [.val (.int x0), .val (.int x1), .val (.int x2), .val (.int x3), .val (.int x4), .val (.int x5), .val (.int d0), .val (.int d1), .val (.int d2), .val (.int 3), .val (.ref 0), .val (.int iw), .val (.int 0), .val (.int (x5 &&& 2147483647)), .val (.ref 1), .val (.int (own_cv (own_max d0 (own_max d1 d2)) (x5 &&& 2147483647))), .unset] [.int (own_cov 2 3 d2 0 (x5 &&& 2147483647))] [.inr (.int, [.int d0, .int d1, .int d2]), .inl ("com/example/subsume/subsume/Nesting", [("restrictions", "[I", .ref 2)]), .inr (.int, [.int (own_max d0 (own_max d1 d2)), .int (own_max d1 d2), .int d2])] _
      refine Go.if_eq d0_196 j0_196 (fun h196 => ?_) (fun h196 => ?_)
      · -- pc 196 taken
        refine Go.iconst d0_203 (v := 0) rfl ?_
        refine Go.istore d0_204 (ls' := [.val (.int x0), .val (.int x1), .val (.int x2), .val (.int x3), .val (.int x4), .val (.int x5), .val (.int d0), .val (.int d1), .val (.int d2), .val (.int 3), .val (.ref 0), .val (.int iw), .val (.int 0), .val (.int (x5 &&& 2147483647)), .val (.ref 1), .val (.int (own_cv (own_max d0 (own_max d1 d2)) (x5 &&& 2147483647))), .val (.int 0)]) rfl ?_
        refine Go.iload d0_206 rfl ?_
        refine Go.iload d0_208 rfl ?_
        refine Go.icmpF d0_210 (XT.ii_ne_f (by
                        simp only [own_covz, own_lits] at h166 h181 h196
                        exact own_fn (by (try simp only [own_maxv]); omega))) ?_
        refine Go.iconst d0_213 (v := 1) rfl ?_
        refine Go.goto d0_214 j0_214 ?_
        exact Go.ireturnZ d0_218 rfl (by decide) rfl HOk.any
      · -- pc 196 not taken
        refine Go.iconst d0_199 (v := 1) rfl ?_
        refine Go.goto d0_200 j0_200 ?_
        refine Go.istore d0_204 (ls' := [.val (.int x0), .val (.int x1), .val (.int x2), .val (.int x3), .val (.int x4), .val (.int x5), .val (.int d0), .val (.int d1), .val (.int d2), .val (.int 3), .val (.ref 0), .val (.int iw), .val (.int 0), .val (.int (x5 &&& 2147483647)), .val (.ref 1), .val (.int (own_cv (own_max d0 (own_max d1 d2)) (x5 &&& 2147483647))), .val (.int 1)]) rfl ?_
        refine Go.iload d0_206 rfl ?_
        refine Go.iload d0_208 rfl ?_
        refine Go.icmpF d0_210 (XT.ii_ne_f (by
                        simp only [own_covz, own_lits] at h166 h181 h196
                        exact own_fp (by (try simp only [own_maxv]); omega))) ?_
        refine Go.iconst d0_213 (v := 1) rfl ?_
        refine Go.goto d0_214 j0_214 ?_
        exact Go.ireturnZ d0_218 rfl (by decide) rfl HOk.any
theorem go_t125_3_1 (K : Ctx) (hw : ∀ d ∈ tables_1, d.before K.2.2.1 K.2.1 = true) (x0 x1 x2 x3 x4 x5 d0 d1 d2 iw : Int32) (hr : 0 ≤ (x5 &&& 2147483647).toInt) : Go K m0 5 128 125 [.val (.int x0), .val (.int x1), .val (.int x2), .val (.int x3), .val (.int x4), .val (.int x5), .val (.int d0), .val (.int d1), .val (.int d2), .val (.int 3), .val (.ref 0), .val (.int iw), .val (.int 1), .unset, .unset, .unset, .unset] [] [.inr (.int, [.int d0, .int d1, .int d2])] (some (.int 1), none, 15, 125) := by
  refine Go.iload d0_125 rfl ?_
  refine Go.ldc d0_127 (hw _ (List.mem_of_getElem? (i := 5) rfl)) ?_
  refine Go.iand d0_129 ?_
  refine Go.istore d0_130 (ls' := [.val (.int x0), .val (.int x1), .val (.int x2), .val (.int x3), .val (.int x4), .val (.int x5), .val (.int d0), .val (.int d1), .val (.int d2), .val (.int 3), .val (.ref 0), .val (.int iw), .val (.int 1), .val (.int (x5 &&& 2147483647)), .unset, .unset, .unset]) rfl ?_
  refine Go.new [("restrictions", "[I", .null)] d0_132 (hw _ (List.mem_of_getElem? (i := 6) rfl)) (hw _ (List.mem_of_getElem? (i := 7) rfl)) (hw _ (List.mem_of_getElem? (i := 8) rfl)) (by decide) (fun f hf => ?_) (i := 1) rfl 14 124 (by decide) (by decide) ?_
  · simp only [List.mem_cons, List.not_mem_nil, or_false] at hf
    rcases hf with rfl
    · exact ⟨Or.inr (hw _ (List.mem_of_getElem? (i := 25) rfl)), _, (by decide : parseFieldDescriptor "[I" = some (.array .int)), rfl⟩
  show Go _ _ _ _ 135 [.val (.int x0), .val (.int x1), .val (.int x2), .val (.int x3), .val (.int x4), .val (.int x5), .val (.int d0), .val (.int d1), .val (.int d2), .val (.int 3), .val (.ref 0), .val (.int iw), .val (.int 1), .val (.int (x5 &&& 2147483647)), .unset, .unset, .unset] [.ref 1] [.inr (.int, [.int d0, .int d1, .int d2]), .inl ("com/example/subsume/subsume/Nesting", [("restrictions", "[I", .null)])] _
  refine Go.dup d0_135 rfl ?_
  refine Go.aload d0_136 rfl rfl ?_
  refine Go.callI (M' := m2) (i := 1) d0_138 rfl rfl (hw _ (List.mem_of_getElem? (i := 9) rfl)) (hw _ (List.mem_of_getElem? (i := 10) rfl)) (hw _ (List.mem_of_getElem? (i := 8) rfl)) (hw _ (List.mem_of_getElem? (i := 11) rfl)) mi2 (as := [.ref 0]) rfl rfl (st := [.ref 1]) rfl (ls1 := [.val (.ref 1), .val (.ref 0), .unset]) rfl (W := 1) rfl (by decide) (by decide) (go_ctor3 K hw d0 d1 d2) 13 121 (by decide) (by decide) ?_
  show Go _ _ _ _ 141 [.val (.int x0), .val (.int x1), .val (.int x2), .val (.int x3), .val (.int x4), .val (.int x5), .val (.int d0), .val (.int d1), .val (.int d2), .val (.int 3), .val (.ref 0), .val (.int iw), .val (.int 1), .val (.int (x5 &&& 2147483647)), .unset, .unset, .unset] [.ref 1] [.inr (.int, [.int d0, .int d1, .int d2]), .inl ("com/example/subsume/subsume/Nesting", [("restrictions", "[I", .ref 2)]), .inr (.int, [.int (own_max d0 (own_max d1 d2)), .int (own_max d1 d2), .int d2])] _
  refine Go.astore d0_141 (ls' := [.val (.int x0), .val (.int x1), .val (.int x2), .val (.int x3), .val (.int x4), .val (.int x5), .val (.int d0), .val (.int d1), .val (.int d2), .val (.int 3), .val (.ref 0), .val (.int iw), .val (.int 1), .val (.int (x5 &&& 2147483647)), .val (.ref 1), .unset, .unset]) rfl rfl ?_
  refine Go.aload d0_143 rfl rfl ?_
  refine Go.iload d0_145 rfl ?_
  refine Go.iload d0_147 rfl ?_
  refine Go.callV (M' := m4) (i := 1) d0_149 rfl (hw _ (List.mem_of_getElem? (i := 26) rfl)) (hw _ (List.mem_of_getElem? (i := 28) rfl)) (hw _ (List.mem_of_getElem? (i := 8) rfl)) (hw _ (List.mem_of_getElem? (i := 27) rfl)) (hw _ (List.mem_of_getElem? (i := 29) rfl)) (hw _ (List.mem_of_getElem? (i := 30) rfl)) mi4 (as := [.int 1, .int (x5 &&& 2147483647)]) rfl rfl (st := []) rfl (ls1 := [.val (.ref 1), .val (.int 1), .val (.int (x5 &&& 2147483647))]) rfl (W := 0) rfl (by decide) (by decide) (go_own_cv K hw _ 1 2 _ 1 _ 3 _ rfl rfl rfl (by decide) (by decide) rfl) 13 121 (by decide) (by decide) ?_
  show Go _ _ _ _ 152 [.val (.int x0), .val (.int x1), .val (.int x2), .val (.int x3), .val (.int x4), .val (.int x5), .val (.int d0), .val (.int d1), .val (.int d2), .val (.int 3), .val (.ref 0), .val (.int iw), .val (.int 1), .val (.int (x5 &&& 2147483647)), .val (.ref 1), .unset, .unset] [.int (own_cv (own_max d1 d2) (x5 &&& 2147483647))] [.inr (.int, [.int d0, .int d1, .int d2]), .inl ("com/example/subsume/subsume/Nesting", [("restrictions", "[I", .ref 2)]), .inr (.int, [.int (own_max d0 (own_max d1 d2)), .int (own_max d1 d2), .int d2])] _
  refine Go.istore d0_152 (ls' := [.val (.int x0), .val (.int x1), .val (.int x2), .val (.int x3), .val (.int x4), .val (.int x5), .val (.int d0), .val (.int d1), .val (.int d2), .val (.int 3), .val (.ref 0), .val (.int iw), .val (.int 1), .val (.int (x5 &&& 2147483647)), .val (.ref 1), .val (.int (own_cv (own_max d1 d2) (x5 &&& 2147483647))), .unset]) rfl ?_
  refine Go.iconst d0_154 (v := 0) rfl ?_
  refine Go.iload d0_155 rfl ?_
  refine Go.iload d0_157 rfl ?_
  refine Go.iload d0_159 rfl ?_
  refine Go.iload d0_161 rfl ?_
  refine Go.callS (M' := m5) d0_163 (hw _ (List.mem_of_getElem? (i := 31) rfl)) (hw _ (List.mem_of_getElem? (i := 32) rfl)) (hw _ (List.mem_of_getElem? (i := 2) rfl)) (hw _ (List.mem_of_getElem? (i := 33) rfl)) mi5 (as := [.int 0, .int 3, .int d0, .int 1, .int (x5 &&& 2147483647)]) rfl rfl (st := []) rfl (ls1 := [.val (.int 0), .val (.int 3), .val (.int d0), .val (.int 1), .val (.int (x5 &&& 2147483647))]) rfl (W := 0) rfl (by decide) (by decide) (go_own_cov K hw 0 3 d0 1 (x5 &&& 2147483647) _) 13 121 (by decide) (by decide) ?_
  show Go _ _ _ _ 166 [.val (.int x0), .val (.int x1), .val (.int x2), .val (.int x3), .val (.int x4), .val (.int x5), .val (.int d0), .val (.int d1), .val (.int d2), .val (.int 3), .val (.ref 0), .val (.int iw), .val (.int 1), .val (.int (x5 &&& 2147483647)), .val (.ref 1), .val (.int (own_cv (own_max d1 d2) (x5 &&& 2147483647))), .unset] [.int (own_cov 0 3 d0 1 (x5 &&& 2147483647))] [.inr (.int, [.int d0, .int d1, .int d2]), .inl ("com/example/subsume/subsume/Nesting", [("restrictions", "[I", .ref 2)]), .inr (.int, [.int (own_max d0 (own_max d1 d2)), .int (own_max d1 d2), .int d2])] _
  refine Go.ifF d0_166 (XT.i0_ne_f (own_cz1 (by decide))) ?_
  refine Go.iconst d0_169 (v := 1) rfl ?_
  refine Go.iload d0_170 rfl ?_
  refine Go.iload d0_172 rfl ?_
  refine Go.iload d0_174 rfl ?_
  refine Go.iload d0_176 rfl ?_
  refine Go.callS (M' := m5) d0_178 (hw _ (List.mem_of_getElem? (i := 31) rfl)) (hw _ (List.mem_of_getElem? (i := 32) rfl)) (hw _ (List.mem_of_getElem? (i := 2) rfl)) (hw _ (List.mem_of_getElem? (i := 33) rfl)) mi5 (as := [.int 1, .int 3, .int d1, .int 1, .int (x5 &&& 2147483647)]) rfl rfl (st := []) rfl (ls1 := [.val (.int 1), .val (.int 3), .val (.int d1), .val (.int 1), .val (.int (x5 &&& 2147483647))]) rfl (W := 0) rfl (by decide) (by decide) (go_own_cov K hw 1 3 d1 1 (x5 &&& 2147483647) _) 13 121 (by decide) (by decide) ?_
  show Go _ _ _ _ 181 [.val (.int x0), .val (.int x1), .val (.int x2), .val (.int x3), .val (.int x4), .val (.int x5), .val (.int d0), .val (.int d1), .val (.int d2), .val (.int 3), .val (.ref 0), .val (.int iw), .val (.int 1), .val (.int (x5 &&& 2147483647)), .val (.ref 1), .val (.int (own_cv (own_max d1 d2) (x5 &&& 2147483647))), .unset] [.int (own_cov 1 3 d1 1 (x5 &&& 2147483647))] [.inr (.int, [.int d0, .int d1, .int d2]), .inl ("com/example/subsume/subsume/Nesting", [("restrictions", "[I", .ref 2)]), .inr (.int, [.int (own_max d0 (own_max d1 d2)), .int (own_max d1 d2), .int d2])] _
  refine Go.if_ne d0_181 j0_181 (fun h181 => ?_) (fun h181 => ?_)
  · -- pc 181 taken
    refine Go.iconst d0_199 (v := 1) rfl ?_
    refine Go.goto d0_200 j0_200 ?_
    refine Go.istore d0_204 (ls' := [.val (.int x0), .val (.int x1), .val (.int x2), .val (.int x3), .val (.int x4), .val (.int x5), .val (.int d0), .val (.int d1), .val (.int d2), .val (.int 3), .val (.ref 0), .val (.int iw), .val (.int 1), .val (.int (x5 &&& 2147483647)), .val (.ref 1), .val (.int (own_cv (own_max d1 d2) (x5 &&& 2147483647))), .val (.int 1)]) rfl ?_
    refine Go.iload d0_206 rfl ?_
    refine Go.iload d0_208 rfl ?_
    refine Go.icmpF d0_210 (XT.ii_ne_f (by
                        simp only [own_covz, own_lits] at h181
                        exact own_fp (by (try simp only [own_maxv]); omega))) ?_
    refine Go.iconst d0_213 (v := 1) rfl ?_
    refine Go.goto d0_214 j0_214 ?_
    exact Go.ireturnZ d0_218 rfl (by decide) rfl HOk.any
  · -- pc 181 not taken
    refine Go.iconst d0_184 (v := 2) rfl ?_
    refine Go.iload d0_185 rfl ?_
    refine Go.iload d0_187 rfl ?_
    refine Go.iload d0_189 rfl ?_
    refine Go.iload d0_191 rfl ?_
    refine Go.callS (M' := m5) d0_193 (hw _ (List.mem_of_getElem? (i := 31) rfl)) (hw _ (List.mem_of_getElem? (i := 32) rfl)) (hw _ (List.mem_of_getElem? (i := 2) rfl)) (hw _ (List.mem_of_getElem? (i := 33) rfl)) mi5 (as := [.int 2, .int 3, .int d2, .int 1, .int (x5 &&& 2147483647)]) rfl rfl (st := []) rfl (ls1 := [.val (.int 2), .val (.int 3), .val (.int d2), .val (.int 1), .val (.int (x5 &&& 2147483647))]) rfl (W := 0) rfl (by decide) (by decide) (go_own_cov K hw 2 3 d2 1 (x5 &&& 2147483647) _) 13 121 (by decide) (by decide) ?_
    show Go _ _ _ _ 196 [.val (.int x0), .val (.int x1), .val (.int x2), .val (.int x3), .val (.int x4), .val (.int x5), .val (.int d0), .val (.int d1), .val (.int d2), .val (.int 3), .val (.ref 0), .val (.int iw), .val (.int 1), .val (.int (x5 &&& 2147483647)), .val (.ref 1), .val (.int (own_cv (own_max d1 d2) (x5 &&& 2147483647))), .unset] [.int (own_cov 2 3 d2 1 (x5 &&& 2147483647))] [.inr (.int, [.int d0, .int d1, .int d2]), .inl ("com/example/subsume/subsume/Nesting", [("restrictions", "[I", .ref 2)]), .inr (.int, [.int (own_max d0 (own_max d1 d2)), .int (own_max d1 d2), .int d2])] _
    refine Go.if_eq d0_196 j0_196 (fun h196 => ?_) (fun h196 => ?_)
    · -- pc 196 taken
      refine Go.iconst d0_203 (v := 0) rfl ?_
      refine Go.istore d0_204 (ls' := [.val (.int x0), .val (.int x1), .val (.int x2), .val (.int x3), .val (.int x4), .val (.int x5), .val (.int d0), .val (.int d1), .val (.int d2), .val (.int 3), .val (.ref 0), .val (.int iw), .val (.int 1), .val (.int (x5 &&& 2147483647)), .val (.ref 1), .val (.int (own_cv (own_max d1 d2) (x5 &&& 2147483647))), .val (.int 0)]) rfl ?_
      refine Go.iload d0_206 rfl ?_
      refine Go.iload d0_208 rfl ?_
      refine Go.icmpF d0_210 (XT.ii_ne_f (by
                        simp only [own_covz, own_lits] at h181 h196
                        exact own_fn (by (try simp only [own_maxv]); omega))) ?_
      refine Go.iconst d0_213 (v := 1) rfl ?_
      refine Go.goto d0_214 j0_214 ?_
      exact Go.ireturnZ d0_218 rfl (by decide) rfl HOk.any
    · -- pc 196 not taken
      refine Go.iconst d0_199 (v := 1) rfl ?_
      refine Go.goto d0_200 j0_200 ?_
      refine Go.istore d0_204 (ls' := [.val (.int x0), .val (.int x1), .val (.int x2), .val (.int x3), .val (.int x4), .val (.int x5), .val (.int d0), .val (.int d1), .val (.int d2), .val (.int 3), .val (.ref 0), .val (.int iw), .val (.int 1), .val (.int (x5 &&& 2147483647)), .val (.ref 1), .val (.int (own_cv (own_max d1 d2) (x5 &&& 2147483647))), .val (.int 1)]) rfl ?_
      refine Go.iload d0_206 rfl ?_
      refine Go.iload d0_208 rfl ?_
      refine Go.icmpF d0_210 (XT.ii_ne_f (by
                        simp only [own_covz, own_lits] at h181 h196
                        exact own_fp (by (try simp only [own_maxv]); omega))) ?_
      refine Go.iconst d0_213 (v := 1) rfl ?_
      refine Go.goto d0_214 j0_214 ?_
      exact Go.ireturnZ d0_218 rfl (by decide) rfl HOk.any
theorem go_t125_3_2 (K : Ctx) (hw : ∀ d ∈ tables_1, d.before K.2.2.1 K.2.1 = true) (x0 x1 x2 x3 x4 x5 d0 d1 d2 iw : Int32) (hr : 0 ≤ (x5 &&& 2147483647).toInt) : Go K m0 5 128 125 [.val (.int x0), .val (.int x1), .val (.int x2), .val (.int x3), .val (.int x4), .val (.int x5), .val (.int d0), .val (.int d1), .val (.int d2), .val (.int 3), .val (.ref 0), .val (.int iw), .val (.int 2), .unset, .unset, .unset, .unset] [] [.inr (.int, [.int d0, .int d1, .int d2])] (some (.int 1), none, 15, 125) := by
  refine Go.iload d0_125 rfl ?_
  refine Go.ldc d0_127 (hw _ (List.mem_of_getElem? (i := 5) rfl)) ?_
  refine Go.iand d0_129 ?_
  refine Go.istore d0_130 (ls' := [.val (.int x0), .val (.int x1), .val (.int x2), .val (.int x3), .val (.int x4), .val (.int x5), .val (.int d0), .val (.int d1), .val (.int d2), .val (.int 3), .val (.ref 0), .val (.int iw), .val (.int 2), .val (.int (x5 &&& 2147483647)), .unset, .unset, .unset]) rfl ?_
  refine Go.new [("restrictions", "[I", .null)] d0_132 (hw _ (List.mem_of_getElem? (i := 6) rfl)) (hw _ (List.mem_of_getElem? (i := 7) rfl)) (hw _ (List.mem_of_getElem? (i := 8) rfl)) (by decide) (fun f hf => ?_) (i := 1) rfl 14 124 (by decide) (by decide) ?_
  · simp only [List.mem_cons, List.not_mem_nil, or_false] at hf
    rcases hf with rfl
    · exact ⟨Or.inr (hw _ (List.mem_of_getElem? (i := 25) rfl)), _, (by decide : parseFieldDescriptor "[I" = some (.array .int)), rfl⟩
  show Go _ _ _ _ 135 [.val (.int x0), .val (.int x1), .val (.int x2), .val (.int x3), .val (.int x4), .val (.int x5), .val (.int d0), .val (.int d1), .val (.int d2), .val (.int 3), .val (.ref 0), .val (.int iw), .val (.int 2), .val (.int (x5 &&& 2147483647)), .unset, .unset, .unset] [.ref 1] [.inr (.int, [.int d0, .int d1, .int d2]), .inl ("com/example/subsume/subsume/Nesting", [("restrictions", "[I", .null)])] _
  refine Go.dup d0_135 rfl ?_
  refine Go.aload d0_136 rfl rfl ?_
  refine Go.callI (M' := m2) (i := 1) d0_138 rfl rfl (hw _ (List.mem_of_getElem? (i := 9) rfl)) (hw _ (List.mem_of_getElem? (i := 10) rfl)) (hw _ (List.mem_of_getElem? (i := 8) rfl)) (hw _ (List.mem_of_getElem? (i := 11) rfl)) mi2 (as := [.ref 0]) rfl rfl (st := [.ref 1]) rfl (ls1 := [.val (.ref 1), .val (.ref 0), .unset]) rfl (W := 1) rfl (by decide) (by decide) (go_ctor3 K hw d0 d1 d2) 13 121 (by decide) (by decide) ?_
  show Go _ _ _ _ 141 [.val (.int x0), .val (.int x1), .val (.int x2), .val (.int x3), .val (.int x4), .val (.int x5), .val (.int d0), .val (.int d1), .val (.int d2), .val (.int 3), .val (.ref 0), .val (.int iw), .val (.int 2), .val (.int (x5 &&& 2147483647)), .unset, .unset, .unset] [.ref 1] [.inr (.int, [.int d0, .int d1, .int d2]), .inl ("com/example/subsume/subsume/Nesting", [("restrictions", "[I", .ref 2)]), .inr (.int, [.int (own_max d0 (own_max d1 d2)), .int (own_max d1 d2), .int d2])] _
  refine Go.astore d0_141 (ls' := [.val (.int x0), .val (.int x1), .val (.int x2), .val (.int x3), .val (.int x4), .val (.int x5), .val (.int d0), .val (.int d1), .val (.int d2), .val (.int 3), .val (.ref 0), .val (.int iw), .val (.int 2), .val (.int (x5 &&& 2147483647)), .val (.ref 1), .unset, .unset]) rfl rfl ?_
  refine Go.aload d0_143 rfl rfl ?_
  refine Go.iload d0_145 rfl ?_
  refine Go.iload d0_147 rfl ?_
  refine Go.callV (M' := m4) (i := 1) d0_149 rfl (hw _ (List.mem_of_getElem? (i := 26) rfl)) (hw _ (List.mem_of_getElem? (i := 28) rfl)) (hw _ (List.mem_of_getElem? (i := 8) rfl)) (hw _ (List.mem_of_getElem? (i := 27) rfl)) (hw _ (List.mem_of_getElem? (i := 29) rfl)) (hw _ (List.mem_of_getElem? (i := 30) rfl)) mi4 (as := [.int 2, .int (x5 &&& 2147483647)]) rfl rfl (st := []) rfl (ls1 := [.val (.ref 1), .val (.int 2), .val (.int (x5 &&& 2147483647))]) rfl (W := 0) rfl (by decide) (by decide) (go_own_cv K hw _ 1 2 _ 2 _ 3 _ rfl rfl rfl (by decide) (by decide) rfl) 13 121 (by decide) (by decide) ?_
  show Go _ _ _ _ 152 [.val (.int x0), .val (.int x1), .val (.int x2), .val (.int x3), .val (.int x4), .val (.int x5), .val (.int d0), .val (.int d1), .val (.int d2), .val (.int 3), .val (.ref 0), .val (.int iw), .val (.int 2), .val (.int (x5 &&& 2147483647)), .val (.ref 1), .unset, .unset] [.int (own_cv d2 (x5 &&& 2147483647))] [.inr (.int, [.int d0, .int d1, .int d2]), .inl ("com/example/subsume/subsume/Nesting", [("restrictions", "[I", .ref 2)]), .inr (.int, [.int (own_max d0 (own_max d1 d2)), .int (own_max d1 d2), .int d2])] _
  refine Go.istore d0_152 (ls' := [.val (.int x0), .val (.int x1), .val (.int x2), .val (.int x3), .val (.int x4), .val (.int x5), .val (.int d0), .val (.int d1), .val (.int d2), .val (.int 3), .val (.ref 0), .val (.int iw), .val (.int 2), .val (.int (x5 &&& 2147483647)), .val (.ref 1), .val (.int (own_cv d2 (x5 &&& 2147483647))), .unset]) rfl ?_
  refine Go.iconst d0_154 (v := 0) rfl ?_
  refine Go.iload d0_155 rfl ?_
  refine Go.iload d0_157 rfl ?_
  refine Go.iload d0_159 rfl ?_
  refine Go.iload d0_161 rfl ?_
  refine Go.callS (M' := m5) d0_163 (hw _ (List.mem_of_getElem? (i := 31) rfl)) (hw _ (List.mem_of_getElem? (i := 32) rfl)) (hw _ (List.mem_of_getElem? (i := 2) rfl)) (hw _ (List.mem_of_getElem? (i := 33) rfl)) mi5 (as := [.int 0, .int 3, .int d0, .int 2, .int (x5 &&& 2147483647)]) rfl rfl (st := []) rfl (ls1 := [.val (.int 0), .val (.int 3), .val (.int d0), .val (.int 2), .val (.int (x5 &&& 2147483647))]) rfl (W := 0) rfl (by decide) (by decide) (go_own_cov K hw 0 3 d0 2 (x5 &&& 2147483647) _) 13 121 (by decide) (by decide) ?_
  show Go _ _ _ _ 166 [.val (.int x0), .val (.int x1), .val (.int x2), .val (.int x3), .val (.int x4), .val (.int x5), .val (.int d0), .val (.int d1), .val (.int d2), .val (.int 3), .val (.ref 0), .val (.int iw), .val (.int 2), .val (.int (x5 &&& 2147483647)), .val (.ref 1), .val (.int (own_cv d2 (x5 &&& 2147483647))), .unset] [.int (own_cov 0 3 d0 2 (x5 &&& 2147483647))] [.inr (.int, [.int d0, .int d1, .int d2]), .inl ("com/example/subsume/subsume/Nesting", [("restrictions", "[I", .ref 2)]), .inr (.int, [.int (own_max d0 (own_max d1 d2)), .int (own_max d1 d2), .int d2])] _
  refine Go.ifF d0_166 (XT.i0_ne_f (own_cz1 (by decide))) ?_
  refine Go.iconst d0_169 (v := 1) rfl ?_
  refine Go.iload d0_170 rfl ?_
  refine Go.iload d0_172 rfl ?_
  refine Go.iload d0_174 rfl ?_
  refine Go.iload d0_176 rfl ?_
  refine Go.callS (M' := m5) d0_178 (hw _ (List.mem_of_getElem? (i := 31) rfl)) (hw _ (List.mem_of_getElem? (i := 32) rfl)) (hw _ (List.mem_of_getElem? (i := 2) rfl)) (hw _ (List.mem_of_getElem? (i := 33) rfl)) mi5 (as := [.int 1, .int 3, .int d1, .int 2, .int (x5 &&& 2147483647)]) rfl rfl (st := []) rfl (ls1 := [.val (.int 1), .val (.int 3), .val (.int d1), .val (.int 2), .val (.int (x5 &&& 2147483647))]) rfl (W := 0) rfl (by decide) (by decide) (go_own_cov K hw 1 3 d1 2 (x5 &&& 2147483647) _) 13 121 (by decide) (by decide) ?_
  show Go _ _ _ _ 181 [.val (.int x0), .val (.int x1), .val (.int x2), .val (.int x3), .val (.int x4), .val (.int x5), .val (.int d0), .val (.int d1), .val (.int d2), .val (.int 3), .val (.ref 0), .val (.int iw), .val (.int 2), .val (.int (x5 &&& 2147483647)), .val (.ref 1), .val (.int (own_cv d2 (x5 &&& 2147483647))), .unset] [.int (own_cov 1 3 d1 2 (x5 &&& 2147483647))] [.inr (.int, [.int d0, .int d1, .int d2]), .inl ("com/example/subsume/subsume/Nesting", [("restrictions", "[I", .ref 2)]), .inr (.int, [.int (own_max d0 (own_max d1 d2)), .int (own_max d1 d2), .int d2])] _
  refine Go.ifF d0_181 (XT.i0_ne_f (own_cz1 (by decide))) ?_
  refine Go.iconst d0_184 (v := 2) rfl ?_
  refine Go.iload d0_185 rfl ?_
  refine Go.iload d0_187 rfl ?_
  refine Go.iload d0_189 rfl ?_
  refine Go.iload d0_191 rfl ?_
  refine Go.callS (M' := m5) d0_193 (hw _ (List.mem_of_getElem? (i := 31) rfl)) (hw _ (List.mem_of_getElem? (i := 32) rfl)) (hw _ (List.mem_of_getElem? (i := 2) rfl)) (hw _ (List.mem_of_getElem? (i := 33) rfl)) mi5 (as := [.int 2, .int 3, .int d2, .int 2, .int (x5 &&& 2147483647)]) rfl rfl (st := []) rfl (ls1 := [.val (.int 2), .val (.int 3), .val (.int d2), .val (.int 2), .val (.int (x5 &&& 2147483647))]) rfl (W := 0) rfl (by decide) (by decide) (go_own_cov K hw 2 3 d2 2 (x5 &&& 2147483647) _) 13 121 (by decide) (by decide) ?_
  show Go _ _ _ _ 196 [.val (.int x0), .val (.int x1), .val (.int x2), .val (.int x3), .val (.int x4), .val (.int x5), .val (.int d0), .val (.int d1), .val (.int d2), .val (.int 3), .val (.ref 0), .val (.int iw), .val (.int 2), .val (.int (x5 &&& 2147483647)), .val (.ref 1), .val (.int (own_cv d2 (x5 &&& 2147483647))), .unset] [.int (own_cov 2 3 d2 2 (x5 &&& 2147483647))] [.inr (.int, [.int d0, .int d1, .int d2]), .inl ("com/example/subsume/subsume/Nesting", [("restrictions", "[I", .ref 2)]), .inr (.int, [.int (own_max d0 (own_max d1 d2)), .int (own_max d1 d2), .int d2])] _
  refine Go.if_eq d0_196 j0_196 (fun h196 => ?_) (fun h196 => ?_)
  · -- pc 196 taken
    refine Go.iconst d0_203 (v := 0) rfl ?_
    refine Go.istore d0_204 (ls' := [.val (.int x0), .val (.int x1), .val (.int x2), .val (.int x3), .val (.int x4), .val (.int x5), .val (.int d0), .val (.int d1), .val (.int d2), .val (.int 3), .val (.ref 0), .val (.int iw), .val (.int 2), .val (.int (x5 &&& 2147483647)), .val (.ref 1), .val (.int (own_cv d2 (x5 &&& 2147483647))), .val (.int 0)]) rfl ?_
    refine Go.iload d0_206 rfl ?_
    refine Go.iload d0_208 rfl ?_
    refine Go.icmpF d0_210 (XT.ii_ne_f (by
                        simp only [own_covz, own_lits] at h196
                        exact own_fn (by (try simp only [own_maxv]); omega))) ?_
    refine Go.iconst d0_213 (v := 1) rfl ?_
    refine Go.goto d0_214 j0_214 ?_
    exact Go.ireturnZ d0_218 rfl (by decide) rfl HOk.any
  · -- pc 196 not taken
    refine Go.iconst d0_199 (v := 1) rfl ?_
    refine Go.goto d0_200 j0_200 ?_
    refine Go.istore d0_204 (ls' := [.val (.int x0), .val (.int x1), .val (.int x2), .val (.int x3), .val (.int x4), .val (.int x5), .val (.int d0), .val (.int d1), .val (.int d2), .val (.int 3), .val (.ref 0), .val (.int iw), .val (.int 2), .val (.int (x5 &&& 2147483647)), .val (.ref 1), .val (.int (own_cv d2 (x5 &&& 2147483647))), .val (.int 1)]) rfl ?_
    refine Go.iload d0_206 rfl ?_
    refine Go.iload d0_208 rfl ?_
    refine Go.icmpF d0_210 (XT.ii_ne_f (by
                        simp only [own_covz, own_lits] at h196
                        exact own_fp (by (try simp only [own_maxv]); omega))) ?_
    refine Go.iconst d0_213 (v := 1) rfl ?_
    refine Go.goto d0_214 j0_214 ?_
    exact Go.ireturnZ d0_218 rfl (by decide) rfl HOk.any
theorem go_t125_3_ii (K : Ctx) (hw : ∀ d ∈ tables_1, d.before K.2.2.1 K.2.1 = true) (x0 x1 x2 x3 x4 x5 d0 d1 d2 iw ii : Int32) (hr : 0 ≤ (x5 &&& 2147483647).toInt) (h3 : ¬ ii < 3) : Go K m0 5 128 125 [.val (.int x0), .val (.int x1), .val (.int x2), .val (.int x3), .val (.int x4), .val (.int x5), .val (.int d0), .val (.int d1), .val (.int d2), .val (.int 3), .val (.ref 0), .val (.int iw), .val (.int ii), .unset, .unset, .unset, .unset] [] [.inr (.int, [.int d0, .int d1, .int d2])] (some (.int 1), none, 15, 125) := by
  refine Go.iload d0_125 rfl ?_
  refine Go.ldc d0_127 (hw _ (List.mem_of_getElem? (i := 5) rfl)) ?_
  refine Go.iand d0_129 ?_
  refine Go.istore d0_130 (ls' := [.val (.int x0), .val (.int x1), .val (.int x2), .val (.int x3), .val (.int x4), .val (.int x5), .val (.int d0), .val (.int d1), .val (.int d2), .val (.int 3), .val (.ref 0), .val (.int iw), .val (.int ii), .val (.int (x5 &&& 2147483647)), .unset, .unset, .unset]) rfl ?_
  refine Go.new [("restrictions", "[I", .null)] d0_132 (hw _ (List.mem_of_getElem? (i := 6) rfl)) (hw _ (List.mem_of_getElem? (i := 7) rfl)) (hw _ (List.mem_of_getElem? (i := 8) rfl)) (by decide) (fun f hf => ?_) (i := 1) rfl 14 124 (by decide) (by decide) ?_
  · simp only [List.mem_cons, List.not_mem_nil, or_false] at hf
    rcases hf with rfl
    · exact ⟨Or.inr (hw _ (List.mem_of_getElem? (i := 25) rfl)), _, (by decide : parseFieldDescriptor "[I" = some (.array .int)), rfl⟩
  show Go _ _ _ _ 135 [.val (.int x0), .val (.int x1), .val (.int x2), .val (.int x3), .val (.int x4), .val (.int x5), .val (.int d0), .val (.int d1), .val (.int d2), .val (.int 3), .val (.ref 0), .val (.int iw), .val (.int ii), .val (.int (x5 &&& 2147483647)), .unset, .unset, .unset] [.ref 1] [.inr (.int, [.int d0, .int d1, .int d2]), .inl ("com/example/subsume/subsume/Nesting", [("restrictions", "[I", .null)])] _
  refine Go.dup d0_135 rfl ?_
  refine Go.aload d0_136 rfl rfl ?_
  refine Go.callI (M' := m2) (i := 1) d0_138 rfl rfl (hw _ (List.mem_of_getElem? (i := 9) rfl)) (hw _ (List.mem_of_getElem? (i := 10) rfl)) (hw _ (List.mem_of_getElem? (i := 8) rfl)) (hw _ (List.mem_of_getElem? (i := 11) rfl)) mi2 (as := [.ref 0]) rfl rfl (st := [.ref 1]) rfl (ls1 := [.val (.ref 1), .val (.ref 0), .unset]) rfl (W := 1) rfl (by decide) (by decide) (go_ctor3 K hw d0 d1 d2) 13 121 (by decide) (by decide) ?_
  show Go _ _ _ _ 141 [.val (.int x0), .val (.int x1), .val (.int x2), .val (.int x3), .val (.int x4), .val (.int x5), .val (.int d0), .val (.int d1), .val (.int d2), .val (.int 3), .val (.ref 0), .val (.int iw), .val (.int ii), .val (.int (x5 &&& 2147483647)), .unset, .unset, .unset] [.ref 1] [.inr (.int, [.int d0, .int d1, .int d2]), .inl ("com/example/subsume/subsume/Nesting", [("restrictions", "[I", .ref 2)]), .inr (.int, [.int (own_max d0 (own_max d1 d2)), .int (own_max d1 d2), .int d2])] _
  refine Go.astore d0_141 (ls' := [.val (.int x0), .val (.int x1), .val (.int x2), .val (.int x3), .val (.int x4), .val (.int x5), .val (.int d0), .val (.int d1), .val (.int d2), .val (.int 3), .val (.ref 0), .val (.int iw), .val (.int ii), .val (.int (x5 &&& 2147483647)), .val (.ref 1), .unset, .unset]) rfl rfl ?_
  refine Go.aload d0_143 rfl rfl ?_
  refine Go.iload d0_145 rfl ?_
  refine Go.iload d0_147 rfl ?_
  refine Go.callV (M' := m4) (i := 1) d0_149 rfl (hw _ (List.mem_of_getElem? (i := 26) rfl)) (hw _ (List.mem_of_getElem? (i := 28) rfl)) (hw _ (List.mem_of_getElem? (i := 8) rfl)) (hw _ (List.mem_of_getElem? (i := 27) rfl)) (hw _ (List.mem_of_getElem? (i := 29) rfl)) (hw _ (List.mem_of_getElem? (i := 30) rfl)) mi4 (as := [.int ii, .int (x5 &&& 2147483647)]) rfl rfl (st := []) rfl (ls1 := [.val (.ref 1), .val (.int ii), .val (.int (x5 &&& 2147483647))]) rfl (W := 0) rfl (by decide) (by decide) (go_cvN K hw _ 1 2 _ _ _ 3 rfl rfl rfl (own_ge h3 (by decide))) 13 121 (by decide) (by decide) ?_
  show Go _ _ _ _ 152 [.val (.int x0), .val (.int x1), .val (.int x2), .val (.int x3), .val (.int x4), .val (.int x5), .val (.int d0), .val (.int d1), .val (.int d2), .val (.int 3), .val (.ref 0), .val (.int iw), .val (.int ii), .val (.int (x5 &&& 2147483647)), .val (.ref 1), .unset, .unset] [.int 0] [.inr (.int, [.int d0, .int d1, .int d2]), .inl ("com/example/subsume/subsume/Nesting", [("restrictions", "[I", .ref 2)]), .inr (.int, [.int (own_max d0 (own_max d1 d2)), .int (own_max d1 d2), .int d2])] _
  refine Go.istore d0_152 (ls' := [.val (.int x0), .val (.int x1), .val (.int x2), .val (.int x3), .val (.int x4), .val (.int x5), .val (.int d0), .val (.int d1), .val (.int d2), .val (.int 3), .val (.ref 0), .val (.int iw), .val (.int ii), .val (.int (x5 &&& 2147483647)), .val (.ref 1), .val (.int 0), .unset]) rfl ?_
  refine Go.iconst d0_154 (v := 0) rfl ?_
  refine Go.iload d0_155 rfl ?_
  refine Go.iload d0_157 rfl ?_
  refine Go.iload d0_159 rfl ?_
  refine Go.iload d0_161 rfl ?_
  refine Go.callS (M' := m5) d0_163 (hw _ (List.mem_of_getElem? (i := 31) rfl)) (hw _ (List.mem_of_getElem? (i := 32) rfl)) (hw _ (List.mem_of_getElem? (i := 2) rfl)) (hw _ (List.mem_of_getElem? (i := 33) rfl)) mi5 (as := [.int 0, .int 3, .int d0, .int ii, .int (x5 &&& 2147483647)]) rfl rfl (st := []) rfl (ls1 := [.val (.int 0), .val (.int 3), .val (.int d0), .val (.int ii), .val (.int (x5 &&& 2147483647))]) rfl (W := 0) rfl (by decide) (by decide) (go_own_cov K hw 0 3 d0 ii (x5 &&& 2147483647) _) 13 121 (by decide) (by decide) ?_
  show Go _ _ _ _ 166 [.val (.int x0), .val (.int x1), .val (.int x2), .val (.int x3), .val (.int x4), .val (.int x5), .val (.int d0), .val (.int d1), .val (.int d2), .val (.int 3), .val (.ref 0), .val (.int iw), .val (.int ii), .val (.int (x5 &&& 2147483647)), .val (.ref 1), .val (.int 0), .unset] [.int (own_cov 0 3 d0 ii (x5 &&& 2147483647))] [.inr (.int, [.int d0, .int d1, .int d2]), .inl ("com/example/subsume/subsume/Nesting", [("restrictions", "[I", .ref 2)]), .inr (.int, [.int (own_max d0 (own_max d1 d2)), .int (own_max d1 d2), .int d2])] _
  refine Go.ifF d0_166 (XT.i0_ne_f (own_c3 (by decide) h3)) ?_
  refine Go.iconst d0_169 (v := 1) rfl ?_
  refine Go.iload d0_170 rfl ?_
  refine Go.iload d0_172 rfl ?_
  refine Go.iload d0_174 rfl ?_
  refine Go.iload d0_176 rfl ?_
  refine Go.callS (M' := m5) d0_178 (hw _ (List.mem_of_getElem? (i := 31) rfl)) (hw _ (List.mem_of_getElem? (i := 32) rfl)) (hw _ (List.mem_of_getElem? (i := 2) rfl)) (hw _ (List.mem_of_getElem? (i := 33) rfl)) mi5 (as := [.int 1, .int 3, .int d1, .int ii, .int (x5 &&& 2147483647)]) rfl rfl (st := []) rfl (ls1 := [.val (.int 1), .val (.int 3), .val (.int d1), .val (.int ii), .val (.int (x5 &&& 2147483647))]) rfl (W := 0) rfl (by decide) (by decide) (go_own_cov K hw 1 3 d1 ii (x5 &&& 2147483647) _) 13 121 (by decide) (by decide) ?_
  show Go _ _ _ _ 181 [.val (.int x0), .val (.int x1), .val (.int x2), .val (.int x3), .val (.int x4), .val (.int x5), .val (.int d0), .val (.int d1), .val (.int d2), .val (.int 3), .val (.ref 0), .val (.int iw), .val (.int ii), .val (.int (x5 &&& 2147483647)), .val (.ref 1), .val (.int 0), .unset] [.int (own_cov 1 3 d1 ii (x5 &&& 2147483647))] [.inr (.int, [.int d0, .int d1, .int d2]), .inl ("com/example/subsume/subsume/Nesting", [("restrictions", "[I", .ref 2)]), .inr (.int, [.int (own_max d0 (own_max d1 d2)), .int (own_max d1 d2), .int d2])] _
  refine Go.ifF d0_181 (XT.i0_ne_f (own_c3 (by decide) h3)) ?_
  refine Go.iconst d0_184 (v := 2) rfl ?_
  refine Go.iload d0_185 rfl ?_
  refine Go.iload d0_187 rfl ?_
  refine Go.iload d0_189 rfl ?_
  refine Go.iload d0_191 rfl ?_
  refine Go.callS (M' := m5) d0_193 (hw _ (List.mem_of_getElem? (i := 31) rfl)) (hw _ (List.mem_of_getElem? (i := 32) rfl)) (hw _ (List.mem_of_getElem? (i := 2) rfl)) (hw _ (List.mem_of_getElem? (i := 33) rfl)) mi5 (as := [.int 2, .int 3, .int d2, .int ii, .int (x5 &&& 2147483647)]) rfl rfl (st := []) rfl (ls1 := [.val (.int 2), .val (.int 3), .val (.int d2), .val (.int ii), .val (.int (x5 &&& 2147483647))]) rfl (W := 0) rfl (by decide) (by decide) (go_own_cov K hw 2 3 d2 ii (x5 &&& 2147483647) _) 13 121 (by decide) (by decide) ?_
  show Go _ _ _ _ 196 [.val (.int x0), .val (.int x1), .val (.int x2), .val (.int x3), .val (.int x4), .val (.int x5), .val (.int d0), .val (.int d1), .val (.int d2), .val (.int 3), .val (.ref 0), .val (.int iw), .val (.int ii), .val (.int (x5 &&& 2147483647)), .val (.ref 1), .val (.int 0), .unset] [.int (own_cov 2 3 d2 ii (x5 &&& 2147483647))] [.inr (.int, [.int d0, .int d1, .int d2]), .inl ("com/example/subsume/subsume/Nesting", [("restrictions", "[I", .ref 2)]), .inr (.int, [.int (own_max d0 (own_max d1 d2)), .int (own_max d1 d2), .int d2])] _
  refine Go.ifT d0_196 j0_196 (XT.i0_eq_t (own_c3 (by decide) h3)) ?_
  refine Go.iconst d0_203 (v := 0) rfl ?_
  refine Go.istore d0_204 (ls' := [.val (.int x0), .val (.int x1), .val (.int x2), .val (.int x3), .val (.int x4), .val (.int x5), .val (.int d0), .val (.int d1), .val (.int d2), .val (.int 3), .val (.ref 0), .val (.int iw), .val (.int ii), .val (.int (x5 &&& 2147483647)), .val (.ref 1), .val (.int 0), .val (.int 0)]) rfl ?_
  refine Go.iload d0_206 rfl ?_
  refine Go.iload d0_208 rfl ?_
  refine Go.icmpF d0_210 (XT.ii_ne_f (by decide)) ?_
  refine Go.iconst d0_213 (v := 1) rfl ?_
  refine Go.goto d0_214 j0_214 ?_
  exact Go.ireturnZ d0_218 rfl (by decide) rfl HOk.any
theorem go_t125_3 (K : Ctx) (hw : ∀ d ∈ tables_1, d.before K.2.2.1 K.2.1 = true) (x0 x1 x2 x3 x4 x5 d0 d1 d2 iw ii : Int32) (hr : 0 ≤ (x5 &&& 2147483647).toInt) (hi : ¬ ii < 0) : Go K m0 5 128 125 [.val (.int x0), .val (.int x1), .val (.int x2), .val (.int x3), .val (.int x4), .val (.int x5), .val (.int d0), .val (.int d1), .val (.int d2), .val (.int 3), .val (.ref 0), .val (.int iw), .val (.int ii), .unset, .unset, .unset, .unset] [] [.inr (.int, [.int d0, .int d1, .int d2])] (some (.int 1), none, 15, 125) := by
  rcases own_ii hi with rfl | rfl | rfl | h3
  · exact go_t125_3_0 K hw _ _ _ _ _ _ _ _ _ _  hr
  · exact go_t125_3_1 K hw _ _ _ _ _ _ _ _ _ _  hr
  · exact go_t125_3_2 K hw _ _ _ _ _ _ _ _ _ _  hr
  · exact go_t125_3_ii K hw _ _ _ _ _ _ _ _ _ _ _  hr h3
theorem go_law (K : Ctx) (hw : ∀ d ∈ tables_1, d.before K.2.2.1 K.2.1 = true) (x0 : Int32) (x1 : Int32) (x2 : Int32) (x3 : Int32) (x4 : Int32) (x5 : Int32) : Go K m0 5 128 0 [.val (.int x0), .val (.int x1), .val (.int x2), .val (.int x3), .val (.int x4), .val (.int x5), .unset, .unset, .unset, .unset, .unset, .unset, .unset, .unset, .unset, .unset, .unset] [] [] (some (.int 1), none, 16, 128) := by
  refine Go.iloadN d0_0 rfl ?_
  refine Go.callS (M' := m1) d0_1 (hw _ (List.mem_of_getElem? (i := 0) rfl)) (hw _ (List.mem_of_getElem? (i := 1) rfl)) (hw _ (List.mem_of_getElem? (i := 2) rfl)) (hw _ (List.mem_of_getElem? (i := 3) rfl)) mi1 (as := [.int x0]) rfl rfl (st := []) rfl (ls1 := [.val (.int x0)]) rfl (W := 0) rfl (by decide) (by decide) (go_own_en K hw x0 _) 16 128 (by decide) (by decide) ?_
  show Go _ _ _ _ 4 [.val (.int x0), .val (.int x1), .val (.int x2), .val (.int x3), .val (.int x4), .val (.int x5), .unset, .unset, .unset, .unset, .unset, .unset, .unset, .unset, .unset, .unset, .unset] [.int (own_en x0)] [] _
  refine Go.istore d0_4 (ls' := [.val (.int x0), .val (.int x1), .val (.int x2), .val (.int x3), .val (.int x4), .val (.int x5), .val (.int (own_en x0)), .unset, .unset, .unset, .unset, .unset, .unset, .unset, .unset, .unset, .unset]) rfl ?_
  refine Go.iloadN d0_6 rfl ?_
  refine Go.callS (M' := m1) d0_7 (hw _ (List.mem_of_getElem? (i := 0) rfl)) (hw _ (List.mem_of_getElem? (i := 1) rfl)) (hw _ (List.mem_of_getElem? (i := 2) rfl)) (hw _ (List.mem_of_getElem? (i := 3) rfl)) mi1 (as := [.int x1]) rfl rfl (st := []) rfl (ls1 := [.val (.int x1)]) rfl (W := 0) rfl (by decide) (by decide) (go_own_en K hw x1 _) 16 128 (by decide) (by decide) ?_
  show Go _ _ _ _ 10 [.val (.int x0), .val (.int x1), .val (.int x2), .val (.int x3), .val (.int x4), .val (.int x5), .val (.int (own_en x0)), .unset, .unset, .unset, .unset, .unset, .unset, .unset, .unset, .unset, .unset] [.int (own_en x1)] [] _
  refine Go.istore d0_10 (ls' := [.val (.int x0), .val (.int x1), .val (.int x2), .val (.int x3), .val (.int x4), .val (.int x5), .val (.int (own_en x0)), .val (.int (own_en x1)), .unset, .unset, .unset, .unset, .unset, .unset, .unset, .unset, .unset]) rfl ?_
  refine Go.iloadN d0_12 rfl ?_
  refine Go.callS (M' := m1) d0_13 (hw _ (List.mem_of_getElem? (i := 0) rfl)) (hw _ (List.mem_of_getElem? (i := 1) rfl)) (hw _ (List.mem_of_getElem? (i := 2) rfl)) (hw _ (List.mem_of_getElem? (i := 3) rfl)) mi1 (as := [.int x2]) rfl rfl (st := []) rfl (ls1 := [.val (.int x2)]) rfl (W := 0) rfl (by decide) (by decide) (go_own_en K hw x2 _) 16 128 (by decide) (by decide) ?_
  show Go _ _ _ _ 16 [.val (.int x0), .val (.int x1), .val (.int x2), .val (.int x3), .val (.int x4), .val (.int x5), .val (.int (own_en x0)), .val (.int (own_en x1)), .unset, .unset, .unset, .unset, .unset, .unset, .unset, .unset, .unset] [.int (own_en x2)] [] _
  refine Go.istore d0_16 (ls' := [.val (.int x0), .val (.int x1), .val (.int x2), .val (.int x3), .val (.int x4), .val (.int x5), .val (.int (own_en x0)), .val (.int (own_en x1)), .val (.int (own_en x2)), .unset, .unset, .unset, .unset, .unset, .unset, .unset, .unset]) rfl ?_
  refine Go.iloadN d0_18 rfl ?_
  refine Go.iconst d0_19 (v := 3) rfl ?_
  refine Go.iand d0_20 ?_
  refine Go.istore d0_21 (ls' := [.val (.int x0), .val (.int x1), .val (.int x2), .val (.int x3), .val (.int x4), .val (.int x5), .val (.int (own_en x0)), .val (.int (own_en x1)), .val (.int (own_en x2)), .val (.int (x3 &&& 3)), .unset, .unset, .unset, .unset, .unset, .unset, .unset]) rfl ?_
  rcases own_m3 x3 with h | h | h | h <;> rw [h]
  · -- len = 0
    refine Go.iload d0_23 rfl ?_
    refine Go.ifF d0_25 (XT.i0_ne_f (by decide)) ?_
    refine Go.iconst d0_28 (v := 0) rfl ?_
    refine Go.newarray 0 d0_29 (hw _ (List.mem_of_getElem? (i := 4) rfl)) (t := .int) rfl (by decide) (by decide) (by decide) (vs := []) rfl (i := 0) rfl 15 128 (by decide) (by decide) ?_
    show Go _ _ _ _ 31 [.val (.int x0), .val (.int x1), .val (.int x2), .val (.int x3), .val (.int x4), .val (.int x5), .val (.int (own_en x0)), .val (.int (own_en x1)), .val (.int (own_en x2)), .val (.int 0), .unset, .unset, .unset, .unset, .unset, .unset, .unset] [.ref 0] [.inr (.int, [])] _
    refine Go.astore d0_31 (ls' := [.val (.int x0), .val (.int x1), .val (.int x2), .val (.int x3), .val (.int x4), .val (.int x5), .val (.int (own_en x0)), .val (.int (own_en x1)), .val (.int (own_en x2)), .val (.int 0), .val (.ref 0), .unset, .unset, .unset, .unset, .unset, .unset]) rfl rfl ?_
    refine Go.goto d0_33 j0_33 ?_
    refine Go.iload d0_99 rfl ?_
    refine Go.ldc d0_101 (hw _ (List.mem_of_getElem? (i := 5) rfl)) ?_
    refine Go.iand d0_103 ?_
    refine Go.istore d0_104 (ls' := [.val (.int x0), .val (.int x1), .val (.int x2), .val (.int x3), .val (.int x4), .val (.int x5), .val (.int (own_en x0)), .val (.int (own_en x1)), .val (.int (own_en x2)), .val (.int 0), .val (.ref 0), .val (.int (x4 &&& 2147483647)), .unset, .unset, .unset, .unset, .unset]) rfl ?_
    refine Go.iloadN d0_106 rfl ?_
    refine Go.iconst d0_107 (v := 2) rfl ?_
    refine Go.iushr d0_108 ?_
    refine Go.iconst d0_109 (v := 1) rfl ?_
    refine Go.iand d0_110 ?_
    refine Go.if_eq d0_111 j0_111 (fun h111 => ?_) (fun h111 => ?_)
    · -- pc 111 taken
      refine Go.iload d0_119 rfl ?_
      refine Go.iconst d0_121 (v := 3) rfl ?_
      refine Go.iand d0_122 ?_
      refine Go.istore d0_123 (ls' := [.val (.int x0), .val (.int x1), .val (.int x2), .val (.int x3), .val (.int x4), .val (.int x5), .val (.int (own_en x0)), .val (.int (own_en x1)), .val (.int (own_en x2)), .val (.int 0), .val (.ref 0), .val (.int (x4 &&& 2147483647)), .val (.int ((x4 &&& 2147483647) &&& 3)), .unset, .unset, .unset, .unset]) rfl ?_
      exact go_t125_0 K hw _ _ _ _ _ _ _ _ _ _ _  (own_nn _) (own_n3 _)
    · -- pc 111 not taken
      refine Go.iload d0_114 rfl ?_
      refine Go.goto d0_116 j0_116 ?_
      refine Go.istore d0_123 (ls' := [.val (.int x0), .val (.int x1), .val (.int x2), .val (.int x3), .val (.int x4), .val (.int x5), .val (.int (own_en x0)), .val (.int (own_en x1)), .val (.int (own_en x2)), .val (.int 0), .val (.ref 0), .val (.int (x4 &&& 2147483647)), .val (.int (x4 &&& 2147483647)), .unset, .unset, .unset, .unset]) rfl ?_
      exact go_t125_0 K hw _ _ _ _ _ _ _ _ _ _ _  (own_nn _) (own_n31 _)
  · -- len = 1
    refine Go.iload d0_23 rfl ?_
    refine Go.ifT d0_25 j0_25 (XT.i0_ne_t (by decide)) ?_
    refine Go.iload d0_36 rfl ?_
    refine Go.iconst d0_38 (v := 1) rfl ?_
    refine Go.icmpF d0_39 (XT.ii_ne_f (by decide)) ?_
    refine Go.iconst d0_42 (v := 1) rfl ?_
    refine Go.newarray 1 d0_43 (hw _ (List.mem_of_getElem? (i := 4) rfl)) (t := .int) rfl (by decide) (by decide) (by decide) (vs := [.int 0]) rfl (i := 0) rfl 15 127 (by decide) (by decide) ?_
    show Go _ _ _ _ 45 [.val (.int x0), .val (.int x1), .val (.int x2), .val (.int x3), .val (.int x4), .val (.int x5), .val (.int (own_en x0)), .val (.int (own_en x1)), .val (.int (own_en x2)), .val (.int 1), .unset, .unset, .unset, .unset, .unset, .unset, .unset] [.ref 0] [.inr (.int, [.int 0])] _
    refine Go.dup d0_45 rfl ?_
    refine Go.iconst d0_46 (v := 0) rfl ?_
    refine Go.iload d0_47 rfl ?_
    refine Go.iastore d0_49 rfl (by decide) (Nat.le_of_ble_eq_true rfl) (H1 := [.inr (.int, [.int (own_en x0)])]) rfl ?_
    refine Go.astore d0_50 (ls' := [.val (.int x0), .val (.int x1), .val (.int x2), .val (.int x3), .val (.int x4), .val (.int x5), .val (.int (own_en x0)), .val (.int (own_en x1)), .val (.int (own_en x2)), .val (.int 1), .val (.ref 0), .unset, .unset, .unset, .unset, .unset, .unset]) rfl rfl ?_
    refine Go.goto d0_52 j0_52 ?_
    refine Go.iload d0_99 rfl ?_
    refine Go.ldc d0_101 (hw _ (List.mem_of_getElem? (i := 5) rfl)) ?_
    refine Go.iand d0_103 ?_
    refine Go.istore d0_104 (ls' := [.val (.int x0), .val (.int x1), .val (.int x2), .val (.int x3), .val (.int x4), .val (.int x5), .val (.int (own_en x0)), .val (.int (own_en x1)), .val (.int (own_en x2)), .val (.int 1), .val (.ref 0), .val (.int (x4 &&& 2147483647)), .unset, .unset, .unset, .unset, .unset]) rfl ?_
    refine Go.iloadN d0_106 rfl ?_
    refine Go.iconst d0_107 (v := 2) rfl ?_
    refine Go.iushr d0_108 ?_
    refine Go.iconst d0_109 (v := 1) rfl ?_
    refine Go.iand d0_110 ?_
    refine Go.if_eq d0_111 j0_111 (fun h111 => ?_) (fun h111 => ?_)
    · -- pc 111 taken
      refine Go.iload d0_119 rfl ?_
      refine Go.iconst d0_121 (v := 3) rfl ?_
      refine Go.iand d0_122 ?_
      refine Go.istore d0_123 (ls' := [.val (.int x0), .val (.int x1), .val (.int x2), .val (.int x3), .val (.int x4), .val (.int x5), .val (.int (own_en x0)), .val (.int (own_en x1)), .val (.int (own_en x2)), .val (.int 1), .val (.ref 0), .val (.int (x4 &&& 2147483647)), .val (.int ((x4 &&& 2147483647) &&& 3)), .unset, .unset, .unset, .unset]) rfl ?_
      exact go_t125_1 K hw _ _ _ _ _ _ _ _ _ _ _  (own_nn _) (own_n3 _)
    · -- pc 111 not taken
      refine Go.iload d0_114 rfl ?_
      refine Go.goto d0_116 j0_116 ?_
      refine Go.istore d0_123 (ls' := [.val (.int x0), .val (.int x1), .val (.int x2), .val (.int x3), .val (.int x4), .val (.int x5), .val (.int (own_en x0)), .val (.int (own_en x1)), .val (.int (own_en x2)), .val (.int 1), .val (.ref 0), .val (.int (x4 &&& 2147483647)), .val (.int (x4 &&& 2147483647)), .unset, .unset, .unset, .unset]) rfl ?_
      exact go_t125_1 K hw _ _ _ _ _ _ _ _ _ _ _  (own_nn _) (own_n31 _)
  · -- len = 2
    refine Go.iload d0_23 rfl ?_
    refine Go.ifT d0_25 j0_25 (XT.i0_ne_t (by decide)) ?_
    refine Go.iload d0_36 rfl ?_
    refine Go.iconst d0_38 (v := 1) rfl ?_
    refine Go.icmpT d0_39 j0_39 (XT.ii_ne_t (by decide)) ?_
    refine Go.iload d0_55 rfl ?_
    refine Go.iconst d0_57 (v := 2) rfl ?_
    refine Go.icmpF d0_58 (XT.ii_ne_f (by decide)) ?_
    refine Go.iconst d0_61 (v := 2) rfl ?_
    refine Go.newarray 2 d0_62 (hw _ (List.mem_of_getElem? (i := 4) rfl)) (t := .int) rfl (by decide) (by decide) (by decide) (vs := [.int 0, .int 0]) rfl (i := 0) rfl 15 126 (by decide) (by decide) ?_
    show Go _ _ _ _ 64 [.val (.int x0), .val (.int x1), .val (.int x2), .val (.int x3), .val (.int x4), .val (.int x5), .val (.int (own_en x0)), .val (.int (own_en x1)), .val (.int (own_en x2)), .val (.int 2), .unset, .unset, .unset, .unset, .unset, .unset, .unset] [.ref 0] [.inr (.int, [.int 0, .int 0])] _
    refine Go.dup d0_64 rfl ?_
    refine Go.iconst d0_65 (v := 0) rfl ?_
    refine Go.iload d0_66 rfl ?_
    refine Go.iastore d0_68 rfl (by decide) (Nat.le_of_ble_eq_true rfl) (H1 := [.inr (.int, [.int (own_en x0), .int 0])]) rfl ?_
    refine Go.dup d0_69 rfl ?_
    refine Go.iconst d0_70 (v := 1) rfl ?_
    refine Go.iload d0_71 rfl ?_
    refine Go.iastore d0_73 rfl (by decide) (Nat.le_of_ble_eq_true rfl) (H1 := [.inr (.int, [.int (own_en x0), .int (own_en x1)])]) rfl ?_
    refine Go.astore d0_74 (ls' := [.val (.int x0), .val (.int x1), .val (.int x2), .val (.int x3), .val (.int x4), .val (.int x5), .val (.int (own_en x0)), .val (.int (own_en x1)), .val (.int (own_en x2)), .val (.int 2), .val (.ref 0), .unset, .unset, .unset, .unset, .unset, .unset]) rfl rfl ?_
    refine Go.goto d0_76 j0_76 ?_
    refine Go.iload d0_99 rfl ?_
    refine Go.ldc d0_101 (hw _ (List.mem_of_getElem? (i := 5) rfl)) ?_
    refine Go.iand d0_103 ?_
    refine Go.istore d0_104 (ls' := [.val (.int x0), .val (.int x1), .val (.int x2), .val (.int x3), .val (.int x4), .val (.int x5), .val (.int (own_en x0)), .val (.int (own_en x1)), .val (.int (own_en x2)), .val (.int 2), .val (.ref 0), .val (.int (x4 &&& 2147483647)), .unset, .unset, .unset, .unset, .unset]) rfl ?_
    refine Go.iloadN d0_106 rfl ?_
    refine Go.iconst d0_107 (v := 2) rfl ?_
    refine Go.iushr d0_108 ?_
    refine Go.iconst d0_109 (v := 1) rfl ?_
    refine Go.iand d0_110 ?_
    refine Go.if_eq d0_111 j0_111 (fun h111 => ?_) (fun h111 => ?_)
    · -- pc 111 taken
      refine Go.iload d0_119 rfl ?_
      refine Go.iconst d0_121 (v := 3) rfl ?_
      refine Go.iand d0_122 ?_
      refine Go.istore d0_123 (ls' := [.val (.int x0), .val (.int x1), .val (.int x2), .val (.int x3), .val (.int x4), .val (.int x5), .val (.int (own_en x0)), .val (.int (own_en x1)), .val (.int (own_en x2)), .val (.int 2), .val (.ref 0), .val (.int (x4 &&& 2147483647)), .val (.int ((x4 &&& 2147483647) &&& 3)), .unset, .unset, .unset, .unset]) rfl ?_
      exact go_t125_2 K hw _ _ _ _ _ _ _ _ _ _ _  (own_nn _) (own_n3 _)
    · -- pc 111 not taken
      refine Go.iload d0_114 rfl ?_
      refine Go.goto d0_116 j0_116 ?_
      refine Go.istore d0_123 (ls' := [.val (.int x0), .val (.int x1), .val (.int x2), .val (.int x3), .val (.int x4), .val (.int x5), .val (.int (own_en x0)), .val (.int (own_en x1)), .val (.int (own_en x2)), .val (.int 2), .val (.ref 0), .val (.int (x4 &&& 2147483647)), .val (.int (x4 &&& 2147483647)), .unset, .unset, .unset, .unset]) rfl ?_
      exact go_t125_2 K hw _ _ _ _ _ _ _ _ _ _ _  (own_nn _) (own_n31 _)
  · -- len = 3
    refine Go.iload d0_23 rfl ?_
    refine Go.ifT d0_25 j0_25 (XT.i0_ne_t (by decide)) ?_
    refine Go.iload d0_36 rfl ?_
    refine Go.iconst d0_38 (v := 1) rfl ?_
    refine Go.icmpT d0_39 j0_39 (XT.ii_ne_t (by decide)) ?_
    refine Go.iload d0_55 rfl ?_
    refine Go.iconst d0_57 (v := 2) rfl ?_
    refine Go.icmpT d0_58 j0_58 (XT.ii_ne_t (by decide)) ?_
    refine Go.iconst d0_79 (v := 3) rfl ?_
    refine Go.newarray 3 d0_80 (hw _ (List.mem_of_getElem? (i := 4) rfl)) (t := .int) rfl (by decide) (by decide) (by decide) (vs := [.int 0, .int 0, .int 0]) rfl (i := 0) rfl 15 125 (by decide) (by decide) ?_
    show Go _ _ _ _ 82 [.val (.int x0), .val (.int x1), .val (.int x2), .val (.int x3), .val (.int x4), .val (.int x5), .val (.int (own_en x0)), .val (.int (own_en x1)), .val (.int (own_en x2)), .val (.int 3), .unset, .unset, .unset, .unset, .unset, .unset, .unset] [.ref 0] [.inr (.int, [.int 0, .int 0, .int 0])] _
    refine Go.dup d0_82 rfl ?_
    refine Go.iconst d0_83 (v := 0) rfl ?_
    refine Go.iload d0_84 rfl ?_
    refine Go.iastore d0_86 rfl (by decide) (Nat.le_of_ble_eq_true rfl) (H1 := [.inr (.int, [.int (own_en x0), .int 0, .int 0])]) rfl ?_
    refine Go.dup d0_87 rfl ?_
    refine Go.iconst d0_88 (v := 1) rfl ?_
    refine Go.iload d0_89 rfl ?_
    refine Go.iastore d0_91 rfl (by decide) (Nat.le_of_ble_eq_true rfl) (H1 := [.inr (.int, [.int (own_en x0), .int (own_en x1), .int 0])]) rfl ?_
    refine Go.dup d0_92 rfl ?_
    refine Go.iconst d0_93 (v := 2) rfl ?_
    refine Go.iload d0_94 rfl ?_
    refine Go.iastore d0_96 rfl (by decide) (Nat.le_of_ble_eq_true rfl) (H1 := [.inr (.int, [.int (own_en x0), .int (own_en x1), .int (own_en x2)])]) rfl ?_
    refine Go.astore d0_97 (ls' := [.val (.int x0), .val (.int x1), .val (.int x2), .val (.int x3), .val (.int x4), .val (.int x5), .val (.int (own_en x0)), .val (.int (own_en x1)), .val (.int (own_en x2)), .val (.int 3), .val (.ref 0), .unset, .unset, .unset, .unset, .unset, .unset]) rfl rfl ?_
    refine Go.iload d0_99 rfl ?_
    refine Go.ldc d0_101 (hw _ (List.mem_of_getElem? (i := 5) rfl)) ?_
    refine Go.iand d0_103 ?_
    refine Go.istore d0_104 (ls' := [.val (.int x0), .val (.int x1), .val (.int x2), .val (.int x3), .val (.int x4), .val (.int x5), .val (.int (own_en x0)), .val (.int (own_en x1)), .val (.int (own_en x2)), .val (.int 3), .val (.ref 0), .val (.int (x4 &&& 2147483647)), .unset, .unset, .unset, .unset, .unset]) rfl ?_
    refine Go.iloadN d0_106 rfl ?_
    refine Go.iconst d0_107 (v := 2) rfl ?_
    refine Go.iushr d0_108 ?_
    refine Go.iconst d0_109 (v := 1) rfl ?_
    refine Go.iand d0_110 ?_
    refine Go.if_eq d0_111 j0_111 (fun h111 => ?_) (fun h111 => ?_)
    · -- pc 111 taken
      refine Go.iload d0_119 rfl ?_
      refine Go.iconst d0_121 (v := 3) rfl ?_
      refine Go.iand d0_122 ?_
      refine Go.istore d0_123 (ls' := [.val (.int x0), .val (.int x1), .val (.int x2), .val (.int x3), .val (.int x4), .val (.int x5), .val (.int (own_en x0)), .val (.int (own_en x1)), .val (.int (own_en x2)), .val (.int 3), .val (.ref 0), .val (.int (x4 &&& 2147483647)), .val (.int ((x4 &&& 2147483647) &&& 3)), .unset, .unset, .unset, .unset]) rfl ?_
      exact go_t125_3 K hw _ _ _ _ _ _ _ _ _ _ _  (own_nn _) (own_n3 _)
    · -- pc 111 not taken
      refine Go.iload d0_114 rfl ?_
      refine Go.goto d0_116 j0_116 ?_
      refine Go.istore d0_123 (ls' := [.val (.int x0), .val (.int x1), .val (.int x2), .val (.int x3), .val (.int x4), .val (.int x5), .val (.int (own_en x0)), .val (.int (own_en x1)), .val (.int (own_en x2)), .val (.int 3), .val (.ref 0), .val (.int (x4 &&& 2147483647)), .val (.int (x4 &&& 2147483647)), .unset, .unset, .unset, .unset]) rfl ?_
      exact go_t125_3 K hw _ _ _ _ _ _ _ _ _ _ _  (own_nn _) (own_n31 _)
set_option maxRecDepth 65536 in
set_option maxHeartbeats 40000000 in
theorem comes_1 {Post : Tables → Env → Array Value → State → Outcome → State → Prop} (hpost : ∀ tb e args s v u, (limb_1_1.after args s (.returned v) u = true ∧ limb_1_2.after args s (.returned v) u = true ∧ True) → FrameEnd s (.returned v) u (Jvm.fieldLocs frame_1_writes args s ++ Jvm.arrayLocs frame_1_arrays args s ++ Jvm.staticLocs frame_1_statics s) 16 128 → Post tb e args s (.returned v) u) :
    ArmFor flags0 classFile x code maxLocals ret World_1 tables_1 room_1 Calls_1 rest_1 Pre_1 Post := by
  intro l hfl _ _ p e ha hc hk s m args below hf hA hF happ hP
  obtain ⟨hcalls, hrest, hpre⟩ := hP
  obtain ⟨-, -, -, hnamed, -, -, -, hat⟩ := (Spec.applies_iff hf).mp happ
  obtain ⟨hg, hn⟩ := and_e (Cond.before_iff.mp (show (Jvm.Cond.and given_1 narrow_1).before args s = true from hpre))
  obtain ⟨h1, g0⟩ := and_e hg
  obtain ⟨w0, w1, w2, w3, w4, w5, rfl⟩ : ∃ w0 w1 w2 w3 w4 w5 : Value, args = #[w0, w1, w2, w3, w4, w5] := by
    have hs : args.size = 6 := by simpa [Cond.value, given_1] using h1
    obtain ⟨L⟩ := args
    match L, hs with
    | [w0, w1, w2, w3, w4, w5], _ => exact ⟨w0, w1, w2, w3, w4, w5, rfl⟩
  have hw := fun d (hd : d ∈ tables_1) => atoms_spec (ws := Jvm.Cond.code x code maxLocals ret :: tables_1) hat d (List.mem_cons_of_mem _ hd)
  obtain ⟨q0, g1⟩ := and_e g0
  obtain ⟨i0, e0⟩ := is_v q0
  obtain rfl : w0 = (.int i0) := Option.some.inj e0
  obtain ⟨q1, g2⟩ := and_e g1
  obtain ⟨i1, e1⟩ := is_v q1
  obtain rfl : w1 = (.int i1) := Option.some.inj e1
  obtain ⟨q2, g3⟩ := and_e g2
  obtain ⟨i2, e2⟩ := is_v q2
  obtain rfl : w2 = (.int i2) := Option.some.inj e2
  obtain ⟨q3, g4⟩ := and_e g3
  obtain ⟨i3, e3⟩ := is_v q3
  obtain rfl : w3 = (.int i3) := Option.some.inj e3
  obtain ⟨q4, g5⟩ := and_e g4
  obtain ⟨i4, e4⟩ := is_v q4
  obtain rfl : w4 = (.int i4) := Option.some.inj e4
  obtain ⟨i5, e5⟩ := is_v g5
  obtain rfl : w5 = (.int i5) := Option.some.inj e5
  have gl := go_law (l, s, _, s.heap.size) hw i0 i1 i2 i3 i4 i5
  obtain ⟨n, o, h1, h2, h3, _, L, rfl, ⟨rfl, -, N⟩, hq⟩ := Go.met (K := (l, s, _, s.heap.size)) (M := m0) (as := [.int i0, .int i1, .int i2, .int i3, .int i4, .int i5]) (ws := tables_1) (rm := room_1) (rv := some (.int 1)) (h := s.heap) (H := []) (by decide +kernel) ⟨rfl, fun i o h => by simp at h⟩ rfl gl p e ha hc hk s m _ below hf ((Spec.applies_iff_loose hf).mp happ).1 ⟨rfl, State.Warmed39.refl s, rfl⟩ trivial
  refine ⟨n, _, h1, h2, h3, hpost _ _ _ _ _ _ ⟨Cond.after_iff.mpr rfl, Cond.after_iff.mpr (eq_i res_at (Term.int_eval (1)) rfl), trivial⟩ ⟨hq.1, hq.2.1, (hq.2.2.sift fun y hy => Or.inr (N y hy)).mono (by decide) (by decide)⟩⟩
theorem main_1_1 : Claimed_1_1 := comes_1 fun _ _ _ _ _ _ h hF => ⟨h.1, hF⟩
theorem main_1_2 : Claimed_1_2 := comes_1 fun _ _ _ _ _ _ h hF => ⟨h.2.1, hF⟩
end Jvm.Pilot.@@N@@
namespace Jvm.Pilot.@@N@@
open Jvm Jvm.ClassFile Sem Op Lib Jvm.Free Jvm.Stand Jvm.Pilot.@@N@@.Jvm.D
/-! MADE BY PROGRAM (witnessworld.py) out of the Statement's table words and the real class files: 10 classes; the members and pool entries that the words name. The judged class is class 1, her method 3. -/
namespace start1
open Jvm.ClassFile
def u (s : String) : CpInfo := .utf8 (stringToUtf16 s)
/-- a pool by its gaps: so many unusable entries, then the entry; so many at the end -/
def gap : Nat → List CpInfo → List CpInfo
  | 0, r => r
  | n + 1, r => .unusable :: gap n r
def poolList (es : List (Nat × CpInfo)) (last : Nat) : List CpInfo := es.foldr (fun e r => gap e.1 (e.2 :: r)) (gap last [])
def pool (es : List (Nat × CpInfo)) (last : Nat) : Array CpInfo := ⟨poolList es last⟩
def fileOf (pool : Array CpInfo) (this : Nat) (attrs : Array Attribute := #[]) (ms : Array MethodInfo := #[]) (fl : Nat := 33) (sup : Nat := 0) (ifs : Array Nat := #[]) (fds : Array FieldInfo := #[]) : ClassFile where
  minorVersion := 0
  majorVersion := 65
  constantPool := pool
  accessFlags := fl
  thisClass := this
  superClass := sup
  interfaces := ifs
  fields := fds
  methods := ms
  attributes := attrs
def plain (name : String) (sup : Option ClassId) : Class where
  name := name
  kind := .ordinary
  loader := none
  accessFlags := 33
  super := sup
  interfaces := #[]
  cf := none
  fields := #[]
  methods := #[]
  instanceTypes := #[]
  staticTypes := #[]
  resolved := #[]
  callSites := []
  init := .initialized
  statics := none
  mirror := none

def pool0 : Array CpInfo := pool [(5, u "<init>"), (0, u "()V"), (1, .class_ 10), (1, u "java/lang/Object"), (85, u "clone"), (0, u "()Ljava/lang/Object;")] 26

def k0c0 : Code := { maxStack := 0, maxLocals := 1, code := object_method_1_code, exceptionTable := #[], attributes := #[] }
def k0m0 : Method := { name := "<init>", desc := "()V", sig := { parameters := [], returnType := none }, accessFlags := 1, code := some k0c0 }
def k0m1 : Method := { name := "clone", desc := "()Ljava/lang/Object;", sig := { parameters := [], returnType := some (.object "java/lang/Object") }, accessFlags := 260, code := none }
/-- java/lang/Object -/
def k0 : Class := { plain "java/lang/Object" none with
  accessFlags := 33
  interfaces := #[]
  cf := some (fileOf pool0 8 #[] #[{ accessFlags := 1, nameIndex := 5, descriptorIndex := 6, attributes := #[] }, { accessFlags := 260, nameIndex := 96, descriptorIndex := 97, attributes := #[] }] 33 0 #[] #[])
  fields := #[]
  methods := #[k0m0, k0m1]
  instanceTypes := #[]
  staticTypes := #[]
  resolved := Array.replicate 124 none
  statics := none }

def pool1 : Array CpInfo := pool [(2, .class_ 4), (1, u "java/lang/Object"), (0, u "<init>"), (0, u "()V"), (0, .methodref 8 9), (0, .class_ 10), (0, .nameAndType 11 12), (0, u "com/example/subsume/subsume/NestingCoversPinLaw"), (0, u "entry"), (0, u "(I)I"), (0, .integer 2147483647), (0, .class_ 15), (0, u "com/example/subsume/subsume/Nesting"), (0, .methodref 14 17), (0, .nameAndType 5 18), (0, u "([I)V"), (0, .methodref 14 20), (0, .nameAndType 21 22), (0, u "covers"), (0, u "(II)Z"), (0, .methodref 8 24), (0, .nameAndType 25 26), (0, u "cov"), (0, u "(IIIII)Z"), (3, u "law"), (0, u "(IIIIII)Z")] 4

def k1m0 : Method := { name := "<init>", desc := "()V", sig := { parameters := [], returnType := none }, accessFlags := 1, code := none }
def k1c1 : Code := { maxStack := 1, maxLocals := 1, code := method_2_code, exceptionTable := #[], attributes := #[] }
def k1m1 : Method := { name := "entry", desc := "(I)I", sig := { parameters := [.int], returnType := some .int }, accessFlags := 10, code := some k1c1 }
def k1c2 : Code := { maxStack := 2, maxLocals := 5, code := method_3_code, exceptionTable := #[], attributes := #[] }
def k1m2 : Method := { name := "cov", desc := "(IIIII)Z", sig := { parameters := [.int, .int, .int, .int, .int], returnType := some .boolean }, accessFlags := 10, code := some k1c2 }
def k1c3 : Code := { maxStack := 5, maxLocals := 17, code := code, exceptionTable := #[], attributes := #[] }
def k1m3 : Method := { name := "law", desc := "(IIIIII)Z", sig := { parameters := [.int, .int, .int, .int, .int, .int], returnType := some .boolean }, accessFlags := 9, code := some k1c3 }
/-- com/example/subsume/subsume/NestingCoversPinLaw -/
def k1 : Class := { plain "com/example/subsume/subsume/NestingCoversPinLaw" (some 0) with
  accessFlags := 49
  interfaces := #[]
  cf := some (fileOf pool1 8 #[] #[{ accessFlags := 1, nameIndex := 5, descriptorIndex := 6, attributes := #[] }, { accessFlags := 10, nameIndex := 11, descriptorIndex := 12, attributes := #[] }, { accessFlags := 10, nameIndex := 25, descriptorIndex := 26, attributes := #[] }, { accessFlags := 9, nameIndex := 30, descriptorIndex := 31, attributes := #[] }] 49 2 #[] #[])
  fields := #[]
  methods := #[k1m0, k1m1, k1m2, k1m3]
  instanceTypes := #[]
  staticTypes := #[]
  resolved := Array.replicate 36 none
  statics := none }

def pool2 : Array CpInfo := pool [(1, .methodref 2 3), (0, .class_ 4), (0, .nameAndType 5 6), (0, u "java/lang/Object"), (0, u "<init>"), (0, u "()V"), (0, .methodref 8 9), (0, .class_ 10), (0, .nameAndType 11 12), (0, u "[I"), (0, u "clone"), (0, u "()Ljava/lang/Object;"), (0, .fieldref 14 15), (0, .class_ 16), (0, .nameAndType 17 10), (0, u "com/example/subsume/subsume/Nesting"), (0, u "restrictions"), (0, .methodref 19 20), (0, .class_ 21), (0, .nameAndType 22 23), (0, u "java/lang/Math"), (0, u "max"), (0, u "(II)I"), (0, u "([I)V"), (3, u "covers"), (0, u "(II)Z")] 2

def k2c0 : Code := { maxStack := 6, maxLocals := 3, code := prog_38_method_1_code, exceptionTable := #[], attributes := #[] }
def k2m0 : Method := { name := "<init>", desc := "([I)V", sig := { parameters := [(.array .int)], returnType := none }, accessFlags := 0, code := some k2c0 }
def k2c1 : Code := { maxStack := 2, maxLocals := 3, code := prog_38_method_2_code, exceptionTable := #[], attributes := #[] }
def k2m1 : Method := { name := "covers", desc := "(II)Z", sig := { parameters := [.int, .int], returnType := some .boolean }, accessFlags := 0, code := some k2c1 }
/-- com/example/subsume/subsume/Nesting -/
def k2 : Class := { plain "com/example/subsume/subsume/Nesting" (some 0) with
  accessFlags := 32
  interfaces := #[]
  cf := some (fileOf pool2 14 #[] #[{ accessFlags := 0, nameIndex := 5, descriptorIndex := 24, attributes := #[] }, { accessFlags := 0, nameIndex := 28, descriptorIndex := 29, attributes := #[] }] 32 2 #[] #[{ accessFlags := 18, nameIndex := 17, descriptorIndex := 10, attributes := #[] }])
  fields := #[{ name := "restrictions", type := (.array .int), accessFlags := 18, slot := 0, constantValue := 0 }]
  methods := #[k2m0, k2m1]
  instanceTypes := #[(.array .int)]
  staticTypes := #[]
  resolved := Array.replicate 32 none
  statics := none }

def pool3 : Array CpInfo := pool [(1, .class_ 2), (0, u "java/lang/Cloneable"), (0, .class_ 4), (0, u "java/lang/Object")] 2

/-- java/lang/Cloneable -/
def k3 : Class := { plain "java/lang/Cloneable" (some 0) with
  accessFlags := 1537
  interfaces := #[]
  cf := some (fileOf pool3 1 #[] #[] 1537 3 #[] #[])
  fields := #[]
  methods := #[]
  instanceTypes := #[]
  staticTypes := #[]
  resolved := Array.replicate 7 none
  statics := none }

def pool4 : Array CpInfo := pool [(1, .class_ 2), (0, u "java/lang/Math"), (1, .class_ 6), (1, u "java/lang/Object"), (0, u "<init>"), (0, u "()V"), (89, .class_ 100), (1, u "java/lang/Math$RandomNumberGeneratorHolder"), (71, u "negativeZeroFloatBits"), (0, u "J"), (2, u "negativeZeroDoubleBits"), (21, u "max"), (46, u "$assertionsDisabled"), (0, u "Z"), (88, u "(II)I"), (2, u "twoToTheDoubleScaleDown"), (0, u "D"), (4, u "twoToTheDoubleScaleUp"), (9, u "E"), (3, u "PI"), (2, u "TAU"), (2, u "DEGREES_TO_RADIANS"), (0, u "RADIANS_TO_DEGREES")] 94

def k4m0 : Method := { name := "<init>", desc := "()V", sig := { parameters := [], returnType := none }, accessFlags := 2, code := none }
def k4c1 : Code := { maxStack := 2, maxLocals := 2, code := jdk_29_method_65_code, exceptionTable := #[], attributes := #[] }
def k4m1 : Method := { name := "max", desc := "(II)I", sig := { parameters := [.int, .int], returnType := some .int }, accessFlags := 9, code := some k4c1 }
/-- java/lang/Math -/
def k4 : Class := { plain "java/lang/Math" (some 0) with
  accessFlags := 49
  interfaces := #[]
  cf := some (fileOf pool4 1 #[.nestMembers #[98]] #[{ accessFlags := 2, nameIndex := 7, descriptorIndex := 8, attributes := #[] }, { accessFlags := 9, nameIndex := 198, descriptorIndex := 335, attributes := #[] }] 49 4 #[] #[{ accessFlags := 25, nameIndex := 354, descriptorIndex := 339, attributes := #[] }, { accessFlags := 25, nameIndex := 358, descriptorIndex := 339, attributes := #[] }, { accessFlags := 25, nameIndex := 361, descriptorIndex := 339, attributes := #[] }, { accessFlags := 26, nameIndex := 364, descriptorIndex := 339, attributes := #[] }, { accessFlags := 26, nameIndex := 365, descriptorIndex := 339, attributes := #[] }, { accessFlags := 26, nameIndex := 172, descriptorIndex := 173, attributes := #[] }, { accessFlags := 26, nameIndex := 176, descriptorIndex := 173, attributes := #[] }, { accessFlags := 8, nameIndex := 344, descriptorIndex := 339, attributes := #[] }, { accessFlags := 8, nameIndex := 338, descriptorIndex := 339, attributes := #[] }, { accessFlags := 4120, nameIndex := 245, descriptorIndex := 246, attributes := #[] }])
  fields := #[{ name := "E", type := .double, accessFlags := 25, slot := 0, constantValue := 0 }, { name := "PI", type := .double, accessFlags := 25, slot := 1, constantValue := 0 }, { name := "TAU", type := .double, accessFlags := 25, slot := 2, constantValue := 0 }, { name := "DEGREES_TO_RADIANS", type := .double, accessFlags := 26, slot := 3, constantValue := 0 }, { name := "RADIANS_TO_DEGREES", type := .double, accessFlags := 26, slot := 4, constantValue := 0 }, { name := "negativeZeroFloatBits", type := .long, accessFlags := 26, slot := 5, constantValue := 0 }, { name := "negativeZeroDoubleBits", type := .long, accessFlags := 26, slot := 6, constantValue := 0 }, { name := "twoToTheDoubleScaleUp", type := .double, accessFlags := 8, slot := 7, constantValue := 0 }, { name := "twoToTheDoubleScaleDown", type := .double, accessFlags := 8, slot := 8, constantValue := 0 }, { name := "$assertionsDisabled", type := .boolean, accessFlags := 4120, slot := 9, constantValue := 0 }]
  methods := #[k4m0, k4m1]
  instanceTypes := #[]
  staticTypes := #[.double, .double, .double, .double, .double, .long, .long, .double, .double, .boolean]
  resolved := Array.replicate 460 none
  statics := none }

def pool5 : Array CpInfo := pool [(1, u "java/io/Serializable"), (0, .class_ 1), (0, u "java/lang/Object"), (0, .class_ 3)] 3

/-- java/io/Serializable -/
def k5 : Class := { plain "java/io/Serializable" (some 0) with
  accessFlags := 1537
  interfaces := #[]
  cf := some (fileOf pool5 2 #[] #[] 1537 4 #[] #[])
  fields := #[]
  methods := #[]
  instanceTypes := #[]
  staticTypes := #[]
  resolved := Array.replicate 8 none
  statics := none }

/-- the primitive byte -/
def k6 : Class := { plain "byte" none with kind := .primitive 'B', accessFlags := 0x411 }
/-- [B -/
def k7 : Class := { plain "[B" (some 0) with kind := .array 6 .byte, interfaces := #[3, 5], accessFlags := 1041 }

/-- the primitive int -/
def k8 : Class := { plain "int" none with kind := .primitive 'I', accessFlags := 0x411 }
/-- [I -/
def k9 : Class := { plain "[I" (some 0) with kind := .array 8 .int, interfaces := #[3, 5], accessFlags := 1041 }

def heap : Heap := #[]
def classes : Array Class := #[k0, k1, k2, k3, k4, k5, k6, k7, k8, k9]
def interned : List (Array UInt16 × Addr) := []
def slotsUsed : Nat := 0
def theMethod : MethodId := ⟨1, 3⟩
def args0 : Array Value := #[.int 5, .int 7, .int 6, .int 2, .int 3, .int 4]
def aboutOver (below : List Frame) : State where
  vm := { classes := classes, interned := interned.toArray }
  heap := heap
  slotsUsed := slotsUsed
  threads := #[{ frames := .invoking theMethod args0 :: below }]
def below0 : List Frame := [.native { method := ⟨0, 0⟩, args := #[] }]
def about1 : State := aboutOver below0
def p0 : Program := .bare "" "" ""
def e0 : Env := launch0.env 0 0 0
theorem w_frames : about1.frames = Frame.invoking theMethod args0 :: below0 := rfl
set_option maxRecDepth 65536 in
theorem w_args : argsFit about1.vm theMethod args0 = true := by decide +kernel
set_option maxRecDepth 65536 in
theorem w_heap : heapFits about1 = true := by decide +kernel
set_option maxRecDepth 65536 in
theorem w_runnable : about1.curStatus? = some .runnable := by decide +kernel
set_option maxRecDepth 65536 in
theorem w_alone : about1.alone = true := by decide +kernel
set_option maxRecDepth 65536 in
theorem w_named : about1.methodNamed? x = some theMethod := by decide +kernel
set_option maxRecDepth 65536 in
theorem w_hears : about1.hears theMethod below0 = true := by decide +kernel
set_option maxRecDepth 65536 in
theorem w_ripe : about1.ripe theMethod args0 below0 = true := by decide +kernel
theorem w_running : about1.status = .running := rfl
set_option maxRecDepth 65536 in
theorem w_room : about1.hasRoom e0.platform room_1 = true :=
  launch0.hasRoom_least _ room_1 (by decide +kernel) (by decide +kernel) (by decide +kernel) (by decide +kernel) (by decide +kernel) (by decide +kernel)
theorem allAtoms_all (ts : List Jvm.Cond) (a : Array Jvm.Value) (st : Jvm.State) : (allAtoms ts).before a st = ts.all (fun c => c.before a st) := by
  induction ts with
  | nil => rfl
  | cons c t ih =>
    show (Jvm.Cond.and c (allAtoms t)).before a st = _
    rw [Jvm.Cond.before_and, ih, List.all_cons]
def words1 : List Jvm.Cond := Jvm.Cond.code x code maxLocals ret :: tables_1
/-- a 'code' word, met by the world's own term for the bytes: nothing is compared byte by byte -/
theorem code_word {y : MethodName} {bytes : ByteArray} {mx : Nat} {rt : Option FieldType} {a : Array Value} {s : State} {m : MethodId} {meth : Method} {c : Code} (h1 : s.methodNamed? y = some m) (h2 : s.vm.method? m = some meth) (h3 : meth.code = some c) (h4 : c.code = bytes)
    (h5 : (c.maxLocals == mx && c.exceptionTable.isEmpty && decide (c.maxStack ≤ mostOperands) && decide (meth.sig.returnType = rt) && !meth.locks && decide (parseMethodDescriptor y.desc = some meth.sig)) = true) : (Jvm.Cond.code y bytes mx rt).before a s = true := by
  simp only [Bool.and_eq_true, beq_iff_eq, Bool.not_eq_true', decide_eq_true_eq] at h5
  obtain ⟨⟨⟨⟨⟨g1, g2⟩, g3⟩, g4⟩, g5⟩, g6⟩ := h5
  simp [Cond.before, Cond.holds, Cond.value, h1, h2, h3, h4, g1, g2, g3, g4, g5, g6]
def isCode : Jvm.Cond → Bool
  | .code _ _ _ _ => true
  | _ => false
theorem all_split {L : List Jvm.Cond} {P : Jvm.Cond → Bool} (h1 : L.all (fun c => isCode c || P c) = true) (h2 : ∀ c ∈ L.filter isCode, P c = true) : L.all P = true := by
  refine List.all_eq_true.mpr fun c hc => ?_
  have h := List.all_eq_true.mp h1 c hc
  rcases Bool.eq_false_or_eq_true (isCode c) with hi | hi
  · exact h2 c (List.mem_filter.mpr ⟨hc, hi⟩)
  · simpa [hi] using h
set_option maxRecDepth 65536 in
theorem w_c0 : (Jvm.Cond.code x code maxLocals ret).before args0 about1 = true := code_word (m := ⟨1, 3⟩) (meth := k1m3) (c := k1c3) (by decide +kernel) rfl rfl rfl (by decide +kernel)
set_option maxRecDepth 65536 in
theorem w_c1 : (Jvm.Cond.code ({ cls := "com/example/subsume/subsume/NestingCoversPinLaw", name := "entry", desc := "(I)I" } : Jvm.MethodName) method_2_code (1 : Nat) (Option.some Jvm.ClassFile.FieldType.int)).before args0 about1 = true := code_word (m := ⟨1, 1⟩) (meth := k1m1) (c := k1c1) (by decide +kernel) rfl rfl rfl (by decide +kernel)
set_option maxRecDepth 65536 in
theorem w_c2 : (Jvm.Cond.code ({ cls := "com/example/subsume/subsume/Nesting", name := "<init>", desc := "([I)V" } : Jvm.MethodName) prog_38_method_1_code (3 : Nat) (Option.none : Option Jvm.ClassFile.FieldType)).before args0 about1 = true := code_word (m := ⟨2, 0⟩) (meth := k2m0) (c := k2c0) (by decide +kernel) rfl rfl rfl (by decide +kernel)
set_option maxRecDepth 65536 in
theorem w_c3 : (Jvm.Cond.code ({ cls := "java/lang/Object", name := "<init>", desc := "()V" } : Jvm.MethodName) object_method_1_code (1 : Nat) (Option.none : Option Jvm.ClassFile.FieldType)).before args0 about1 = true := code_word (m := ⟨0, 0⟩) (meth := k0m0) (c := k0c0) (by decide +kernel) rfl rfl rfl (by decide +kernel)
set_option maxRecDepth 65536 in
theorem w_c4 : (Jvm.Cond.code ({ cls := "com/example/subsume/subsume/Nesting", name := "covers", desc := "(II)Z" } : Jvm.MethodName) prog_38_method_2_code (3 : Nat) (Option.some Jvm.ClassFile.FieldType.boolean)).before args0 about1 = true := code_word (m := ⟨2, 1⟩) (meth := k2m1) (c := k2c1) (by decide +kernel) rfl rfl rfl (by decide +kernel)
set_option maxRecDepth 65536 in
theorem w_c5 : (Jvm.Cond.code ({ cls := "com/example/subsume/subsume/NestingCoversPinLaw", name := "cov", desc := "(IIIII)Z" } : Jvm.MethodName) method_3_code (5 : Nat) (Option.some Jvm.ClassFile.FieldType.boolean)).before args0 about1 = true := code_word (m := ⟨1, 2⟩) (meth := k1m2) (c := k1c2) (by decide +kernel) rfl rfl rfl (by decide +kernel)
set_option maxRecDepth 65536 in
theorem w_c6 : (Jvm.Cond.code ({ cls := "java/lang/Math", name := "max", desc := "(II)I" } : Jvm.MethodName) jdk_29_method_65_code (2 : Nat) (Option.some Jvm.ClassFile.FieldType.int)).before args0 about1 = true := code_word (m := ⟨4, 1⟩) (meth := k4m1) (c := k4c1) (by decide +kernel) rfl rfl rfl (by decide +kernel)
def codes1 : List Jvm.Cond := [Jvm.Cond.code x code maxLocals ret, Jvm.Cond.code ({ cls := "com/example/subsume/subsume/NestingCoversPinLaw", name := "entry", desc := "(I)I" } : Jvm.MethodName) method_2_code (1 : Nat) (Option.some Jvm.ClassFile.FieldType.int), Jvm.Cond.code ({ cls := "com/example/subsume/subsume/Nesting", name := "<init>", desc := "([I)V" } : Jvm.MethodName) prog_38_method_1_code (3 : Nat) (Option.none : Option Jvm.ClassFile.FieldType), Jvm.Cond.code ({ cls := "java/lang/Object", name := "<init>", desc := "()V" } : Jvm.MethodName) object_method_1_code (1 : Nat) (Option.none : Option Jvm.ClassFile.FieldType), Jvm.Cond.code ({ cls := "com/example/subsume/subsume/Nesting", name := "covers", desc := "(II)Z" } : Jvm.MethodName) prog_38_method_2_code (3 : Nat) (Option.some Jvm.ClassFile.FieldType.boolean), Jvm.Cond.code ({ cls := "com/example/subsume/subsume/NestingCoversPinLaw", name := "cov", desc := "(IIIII)Z" } : Jvm.MethodName) method_3_code (5 : Nat) (Option.some Jvm.ClassFile.FieldType.boolean), Jvm.Cond.code ({ cls := "java/lang/Math", name := "max", desc := "(II)I" } : Jvm.MethodName) jdk_29_method_65_code (2 : Nat) (Option.some Jvm.ClassFile.FieldType.int)]
set_option maxRecDepth 65536 in
theorem codes_eq : words1.filter isCode = codes1 := rfl
theorem w_codes : ∀ c ∈ words1.filter isCode, c.before args0 about1 = true := by
  rw [codes_eq]
  intro c hc
  simp only [codes1, List.mem_cons, List.not_mem_nil, or_false] at hc
  rcases hc with rfl | rfl | rfl | rfl | rfl | rfl | rfl
  · exact w_c0
  · exact w_c1
  · exact w_c2
  · exact w_c3
  · exact w_c4
  · exact w_c5
  · exact w_c6
set_option maxRecDepth 65536 in
theorem w_t1 : (words1.take 24).all (fun c => isCode c || c.before args0 about1) = true := by decide +kernel
set_option maxRecDepth 65536 in
theorem w_t2 : (words1.drop 24).all (fun c => isCode c || c.before args0 about1) = true := by decide +kernel
theorem w_tables : (allAtoms (Jvm.Cond.code x code maxLocals ret :: tables_1)).before args0 about1 = true := by
  rw [allAtoms_all]
  show words1.all (fun c => c.before args0 about1) = true
  refine all_split ?_ w_codes
  rw [← List.take_append_drop 24 words1, List.all_append, w_t1, w_t2]
  rfl
set_option maxRecDepth 65536 in
theorem w_case : (Jvm.Cond.and given_1 narrow_1).before args0 about1 = true := by decide +kernel
theorem w_applies : (headSpec (Jvm.Cond.code x code maxLocals ret :: tables_1) room_1).applies x e0.platform about1 = true :=
  (Spec.applies_iff w_frames).mpr ⟨w_running, w_runnable, w_alone, w_named, w_hears, w_ripe, w_room, w_tables⟩
theorem atStart : AtStart classFile x code maxLocals ret World_1 tables_1 room_1 Calls_1 rest_1 Pre_1 launch0 p0 e0 about1 theMethod args0 below0 :=
  ⟨lists_1, trivial, launch0.admits_env _ _ _, launch0.least_env, fairChoices_fair.cas, fairChoices_fair.clock, w_frames, w_args, w_heap, w_applies, trivial, trivial, w_case⟩
end start1
theorem witness_1 : WitnessClaimed_1 := ⟨start1.p0, start1.e0, start1.about1, start1.theMethod, start1.args0, start1.below0, start1.atStart⟩
end Jvm.Pilot.@@N@@
