import JvmDerived
import JvmDerived.Pilot.@@N@@Statement
import JvmDerived.Pilot.@@N@@Code
set_option linter.unusedVariables false
set_option linter.unusedSimpArgs false
@@BLOCK:NumsL.lean.txt@@
namespace Jvm.OwnGo
open Jvm Sem ClassFile Op Lib Jvm.Stand Jvm.Free Jvm.LawKit Jvm.RoadKit
/-! ## 1. plain values: a reference is a place in the list of the objects that the law has made -/
def sv (n0 : Nat) : Value → Value
  | .ref a => .ref (n0 + a)
  | .int x => .int x
  | .long x => .long x
  | .null => .null
  | .float x => .float x
  | .double x => .double x
  | .retAddr x => .retAddr x
def ss (n0 : Nat) : Slot → Slot
  | .val v => .val (sv n0 v)
  | .unset => .unset
  | .second => .second
abbrev Obj := (String × List (String × String × Value)) ⊕ (FieldType × List Value)
abbrev Hp := List Obj
abbrev Ctx := Launch × State × Array Value × Nat
abbrev Mt := MethodName × ByteArray × Nat × Option FieldType
abbrev Res := Option Value × Option Hp × Nat × Nat
abbrev LL (n0 : Nat) (ls : List Slot) : Array Slot := (ls.map (ss n0)).toArray
abbrev SS (n0 : Nat) (st : List Value) : List Value := st.map (sv n0)
theorem sv_cat (n0 : Nat) (v : Value) : (sv n0 v).category = v.category := by cases v <;> rfl
theorem sv_ref (n0 : Nat) (v : Value) : (sv n0 v).isRef = v.isRef := by cases v <;> rfl
theorem LL_get {n0 : Nat} {ls : List Slot} {k : Nat} {x : Slot} (h : ls[k]? = some x) : (LL n0 ls)[k]? = some (ss n0 x) := by simp [LL, h]
theorem LL_size (n0 : Nat) (ls : List Slot) : (LL n0 ls).size = ls.length := by simp [LL]
theorem cats (n0 : Nat) (st : List Value) : ((SS n0 st).map fun v => v.category).sum = (st.map fun v => v.category).sum := by
  induction st with
  | nil => rfl
  | cons v r ih => simp only [SS, List.map_cons, List.sum_cons, sv_cat] at ih ⊢; rw [ih]
/-! ## 2. what an object of the list is in the heap -/
def COk (Z : State) (a0 : Array Value) (n0 : Nat) (h : Heap) (a : Addr) : Obj → Prop
  | .inl o => Exa Z h a o.1 ∧ (o.2.map (fun f => f.1)).Nodup ∧ ∀ f ∈ o.2, Laid Z a0 o.1 o.1 f.1 f.2.1 ∧ (∃ ty, parseFieldDescriptor f.2.1 = some ty) ∧ Fld Z h a o.1 f.1 f.2.1 (sv n0 f.2.2)
  | .inr o => Exa Z h a ("[" ++ o.1.toString) ∧ ∃ c : Cell, Arr Z h a c o.1 ∧ c.slots = (o.2.map (sv n0)).toArray
def Sim (K : Ctx) (h : Heap) (H : Hp) : Prop := h.size = K.2.2.2 + H.length ∧ ∀ (i : Nat) (o : Obj), H[i]? = some o → COk K.2.1 K.2.2.1 K.2.2.2 h (K.2.2.2 + i) o
theorem COk.ext {Z : State} {a0 : Array Value} {n0 : Nat} {h h' : Heap} {a : Addr} {o : Obj} (E : Ext h h') (C : COk Z a0 n0 h a o) : COk Z a0 n0 h' a o := by
  cases o with
  | inl o => exact ⟨C.1.ext E, C.2.1, fun f hf => ⟨(C.2.2 f hf).1, (C.2.2 f hf).2.1, (C.2.2 f hf).2.2.ext E⟩⟩
  | inr o => obtain ⟨e0, c, A, q⟩ := C; exact ⟨e0.ext E, c, A.ext E, q⟩
theorem COk.other {Z : State} {a0 : Array Value} {n0 : Nat} {h h' : Heap} {a b : Addr} {o : Obj} {sl : Nat} {v : Value} (W : Wr h h' b sl v) (ne : a ≠ b) (C : COk Z a0 n0 h a o) : COk Z a0 n0 h' a o := by
  cases o with
  | inl o => exact ⟨C.1.wr W, C.2.1, fun f hf => ⟨(C.2.2 f hf).1, (C.2.2 f hf).2.1, (C.2.2 f hf).2.2.other W (Or.inl ne)⟩⟩
  | inr o => obtain ⟨e0, c, A, q⟩ := C; exact ⟨e0.wr W, c, A.other W ne, q⟩
theorem Sim.push {K : Ctx} {h h' : Heap} {H : Hp} {o : Obj} (S : Sim K h H) (E : Ext h h') (hs : h'.size = h.size + 1) (C : COk K.2.1 K.2.2.1 K.2.2.2 h' (K.2.2.2 + H.length) o) : Sim K h' (H ++ [o]) := by
  refine ⟨by rw [hs, S.1, List.length_append]; rfl, fun i o' hi => ?_⟩
  by_cases q : i < H.length
  · rw [List.getElem?_append_left q] at hi
    exact (S.2 i o' hi).ext E
  · have hl := (List.getElem?_eq_some_iff.mp hi).1
    rw [List.length_append, List.length_singleton] at hl
    obtain rfl : i = H.length := by omega
    rw [List.getElem?_append_right (Nat.le_refl _), Nat.sub_self] at hi
    cases hi
    exact C
theorem Sim.set {K : Ctx} {h h' : Heap} {H : Hp} {o o' : Obj} {i sl : Nat} {v : Value} (S : Sim K h H) (W : Wr h h' (K.2.2.2 + i) sl v) (hi : H[i]? = some o) (C : COk K.2.1 K.2.2.1 K.2.2.2 h' (K.2.2.2 + i) o') : Sim K h' (H.set i o') := by
  refine ⟨by rw [W.size, S.1, List.length_set], fun j u hj => ?_⟩
  by_cases q : j = i
  · subst q
    rw [List.getElem?_set_self (List.getElem?_eq_some_iff.mp hi).1] at hj
    cases hj
    exact C
  · rw [List.getElem?_set_ne (Ne.symm q)] at hj
    exact (S.2 j u hj).other W (fun z => q (Nat.add_left_cancel z))
/-! ## 3. 'Go': from here the invocation comes to its end with r: the value, the objects, at the most so many cells and slots made -/
def FinH (K : Ctx) (h : Heap) (o : Option Hp) : Prop := ∀ H', o = some H' → Sim K h H'
def HOk (H : Hp) (o : Option Hp) : Prop := ∀ H', o = some H' → H = H'
theorem HOk.any {H : Hp} : HOk H none := fun _ h => nomatch h
theorem HOk.eq {H H' : Hp} (h : H = H') : HOk H (some H') := fun _ e => h.trans (Option.some.inj e)
theorem HOk.fin {K : Ctx} {h : Heap} {H : Hp} {o : Option Hp} (q : HOk H o) (S : Sim K h H) : FinH K h o := fun H' e => q H' e ▸ S
def Go (K : Ctx) (M : Mt) (F Lo : Nat) (pc : Nat) (ls : List Slot) (st : List Value) (H : Hp) (r : Res) : Prop :=
  ∀ (R : Room) (cells slots : Nat) (p : Program) (e : Env) (s : State) (m : MethodId) (args : Array Value) (below : List Frame) (meth : Method) (c : Code) (T : State) (locs : List Loc),
    F ≤ R.frames → Lo ≤ R.locals → cells + r.2.2.1 ≤ R.cells → slots + r.2.2.2 ≤ R.slots → p.tables.exec = Jvm.exec → K.2.1.Warmed39 s.vm → c.code = M.2.1 → c.maxLocals = M.2.2.1 → meth.sig.returnType = M.2.2.2 → meth.locks = false → s.vm.findClass M.1.cls = some m.cls → meth.name = M.1.name →
    Stand p K.1 e R s m args below meth c T locs cells slots → Sim K T.heap H → Fr K.2.2.2 locs →
    ∃ (s₂ : State) (L : List Loc), Steps p.tables e below (T.setTop (mkF m pc (LL K.2.2.2 ls) (SS K.2.2.2 st))) s₂ ∧ s₂.status = .running ∧ Ended s₂ below (.returned (r.1.map (sv K.2.2.2))) ∧ FinH K s₂.heap r.2.1 ∧ Fr K.2.2.2 L ∧ FrameEnd s (.returned (r.1.map (sv K.2.2.2))) s₂ L (cells + r.2.2.1) (slots + r.2.2.2)
def Dec (M : Mt) (pc : Nat) (i : Instr) (n pc' : Nat) : Prop := decode M.2.1 pc = .ok (i, n) ∧ pc + n = pc'
def Jmp (pc : Nat) (o : Int) (pc' : Nat) : Prop := 0 ≤ (pc : Int) + o ∧ ((pc : Int) + o).toNat = pc'
instance (M : Mt) (pc : Nat) (i : Instr) (n pc' : Nat) : Decidable (Dec M pc i n pc') := inferInstanceAs (Decidable (_ ∧ _))
instance (pc : Nat) (o : Int) (pc' : Nat) : Decidable (Jmp pc o pc') := inferInstanceAs (Decidable (_ ∧ _))
section G
variable {K : Ctx} {M : Mt} {F Lo pc pc' pt : Nat} {ls ls' : List Slot} {st st' : List Value} {H : Hp} {r : Res}
theorem Go.mono {F' Lo' : Nat} {rv : Option Value} {H' : Option Hp} {dc ds dc' ds' : Nat} (h : Go K M F Lo pc ls st H (rv, H', dc, ds)) (h1 : F ≤ F') (h2 : Lo ≤ Lo') (h3 : dc ≤ dc') (h4 : ds ≤ ds') : Go K M F' Lo' pc ls st H (rv, H', dc', ds') := by
  intro R cells slots p e s m args below meth c T locs a1 a2 a3 a4 b1 b2 b3 b4 b5 b6 b7 b8 X S N
  obtain ⟨s₂, L, q1, q2, q3, q4, q5, q6⟩ := h R cells slots p e s m args below meth c T locs (Nat.le_trans h1 a1) (Nat.le_trans h2 a2) (Nat.le_trans (Nat.add_le_add_left h3 _) a3) (Nat.le_trans (Nat.add_le_add_left h4 _) a4) b1 b2 b3 b4 b5 b6 b7 b8 X S N
  exact ⟨s₂, L, q1, q2, q3, q4, q5, q6.1, q6.2.1, q6.2.2.mono (Nat.add_le_add_left h3 _) (Nat.add_le_add_left h4 _)⟩
theorem Go.cast {r' : Res} (h : Go K M F Lo pc ls st H r) (e : r = r') : Go K M F Lo pc ls st H r' := e ▸ h
theorem Go.pureS (hs : ∀ {p : Program} {e : Env} {below : List Frame} {T target : State} {m : MethodId} {c : Code}, At T m c below → p.tables.exec = Jvm.exec → c.code = M.2.1 → Steps p.tables e below (T.setTop (mkF m pc' (LL K.2.2.2 ls') (SS K.2.2.2 st'))) target → Steps p.tables e below (T.setTop (mkF m pc (LL K.2.2.2 ls) (SS K.2.2.2 st))) target)
    (h : Go K M F Lo pc' ls' st' H r) : Go K M F Lo pc ls st H r := by
  intro R cells slots p e s m args below meth c T locs a1 a2 a3 a4 b1 b2 b3 b4 b5 b6 b7 b8 X S N
  obtain ⟨s₂, L, q1, q⟩ := h R cells slots p e s m args below meth c T locs a1 a2 a3 a4 b1 b2 b3 b4 b5 b6 b7 b8 X S N
  exact ⟨s₂, L, hs X.here b1 b3 q1, q⟩
theorem Dec.at {M : Mt} {pc n pc' : Nat} {i : Instr} (d : Dec M pc i n pc') {c : Code} (hc : c.code = M.2.1) : decode c.code pc = .ok (i, n) := hc ▸ d.1
/-! ## 4. one law a plain instruction -/
theorem rem_mod (x y : Int32) : x - (x / y) * y = x % y := irem_eq_mod x y
def setM (n0 : Nat) (A : Array Slot) : Array Slot := A.map (ss n0)
theorem setAt_map (n0 : Nat) (A : Array Slot) (i : Nat) (x : Slot) : setAt (setM n0 A) i (ss n0 x) = (setAt A i x).map (setM n0) := by
  simp only [setAt, setM, Array.size_map]
  split
  · show some ((A.map (ss n0)).setIfInBounds i (ss n0 x)) = some ((A.setIfInBounds i x).map (ss n0))
    rw [Array.map_setIfInBounds]
  · rfl
theorem setM_get (n0 : Nat) (A : Array Slot) (i : Nat) : (setM n0 A)[i]? = (A[i]?).map (ss n0) := by simp [setM]
theorem storeSelf_map (n0 : Nat) (A : Array Slot) (i : Nat) (v : Value) : storeSelf (setM n0 A) i (sv n0 v) = (storeSelf A i v).map (setM n0) := by
  have e0 : setAt (setM n0 A) i (.val (sv n0 v)) = (setAt A i (.val v)).map (setM n0) := setAt_map n0 A i (.val v)
  have eu : ∀ B j, setAt (setM n0 B) j .unset = (setAt B j .unset).map (setM n0) := fun B j => setAt_map n0 B j .unset
  have es : ∀ B j, setAt (setM n0 B) j .second = (setAt B j .second).map (setM n0) := fun B j => setAt_map n0 B j .second
  simp only [storeSelf, e0, sv_cat]
  cases setAt A i (.val v) with
  | none => rfl
  | some B =>
    simp only [Option.map_some, Option.bind_eq_bind, Option.bind_some, setM_get]
    split
    · cases B[i + 1]? with
      | none => rfl
      | some x =>
        cases x with
        | unset => simp only [Option.map_some, Option.bind_some, ss, es]
        | second => simp only [Option.map_some, Option.bind_some, ss, es]
        | val w =>
          simp only [Option.map_some, Option.bind_some, ss, sv_cat]
          split
          · rw [eu]
            cases setAt B (i + 2) .unset with
            | none => rfl
            | some D => simp only [Option.map_some, Option.bind_some, es]
          · rw [es]
    · rfl
theorem storeLocals_map (n0 : Nat) (A : Array Slot) (i : Nat) (v : Value) : storeLocals (setM n0 A) i (sv n0 v) = (storeLocals A i v).map (setM n0) := by
  have eu : ∀ B j, setAt (setM n0 B) j .unset = (setAt B j .unset).map (setM n0) := fun B j => setAt_map n0 B j .unset
  simp only [storeLocals, setM_get, Option.bind_eq_bind]
  cases A[i]? with
  | none => rfl
  | some x =>
    cases x with
    | unset => simp only [Option.map_some, Option.bind_some, ss, storeSelf_map]
    | second =>
      simp only [Option.map_some, Option.bind_some, ss, eu]
      cases setAt A (i - 1) .unset with
      | none => rfl
      | some D => simp only [Option.map_some, Option.bind_some, storeSelf_map]
    | val w =>
      simp only [Option.map_some, Option.bind_some, ss, sv_cat]
      split
      · rw [eu]
        cases setAt A (i + 1) .unset with
        | none => rfl
        | some D => simp only [Option.map_some, Option.bind_some, storeSelf_map]
      · rw [storeSelf_map]
def stl (ls : List Slot) (k : Nat) (v : Value) : Option (List Slot) := (storeLocals ls.toArray k v).map Array.toList
theorem stl_ok {n0 : Nat} {ls ls' : List Slot} {k : Nat} {v : Value} (h : stl ls k v = some ls') : storeLocals (LL n0 ls) k (sv n0 v) = some (LL n0 ls') := by
  have e : LL n0 ls = setM n0 ls.toArray := by simp [LL, setM]
  rw [e, storeLocals_map]
  simp only [stl] at h
  cases hq : storeLocals ls.toArray k v with
  | none => rw [hq] at h; cases h
  | some B =>
    rw [hq] at h
    cases h
    show some (setM n0 B) = some (LL n0 B.toList)
    congr 1
    apply Array.toList_inj.mp
    simp [LL, setM]
theorem Go.iloadN {k : Fin 4} {v : Int32} (hd : Dec M pc (.iload_n k) 1 pc') (hl : ls[k.val]? = some (.val (.int v))) (h : Go K M F Lo pc' ls (.int v :: st) H r) : Go K M F Lo pc ls st H r := by
  obtain ⟨hd, rfl⟩ := hd
  exact h.pureS fun A hx hc k => XS.iloadN A hx rfl (hc ▸ hd) (LL_get hl) k
theorem Go.iload {k : Nat} {v : Int32} (hd : Dec M pc (.iload k) 2 pc') (hl : ls[k]? = some (.val (.int v))) (h : Go K M F Lo pc' ls (.int v :: st) H r) : Go K M F Lo pc ls st H r := by
  obtain ⟨hd, rfl⟩ := hd
  exact h.pureS fun A hx hc k => XS.iload A hx rfl (hc ▸ hd) (LL_get hl) k
theorem Go.istoreN {k : Fin 4} {v : Int32} (hd : Dec M pc (.istore_n k) 1 pc') (hl : stl ls k.val (.int v) = some ls') (h : Go K M F Lo pc' ls' st H r) : Go K M F Lo pc ls (.int v :: st) H r := by
  obtain ⟨hd, rfl⟩ := hd
  exact h.pureS fun A hx hc k => XS.istoreN A hx rfl (hc ▸ hd) rfl (stl_ok (n0 := K.2.2.2) hl) k
theorem Go.istore {k : Nat} {v : Int32} (hd : Dec M pc (.istore k) 2 pc') (hl : stl ls k (.int v) = some ls') (h : Go K M F Lo pc' ls' st H r) : Go K M F Lo pc ls (.int v :: st) H r := by
  obtain ⟨hd, rfl⟩ := hd
  exact h.pureS fun A hx hc k => XS.istore A hx rfl (hc ▸ hd) rfl (stl_ok (n0 := K.2.2.2) hl) k
theorem Go.lloadN {k : Fin 4} {v : Int64} (hd : Dec M pc (.lload_n k) 1 pc') (hl : ls[k.val]? = some (.val (.long v))) (h : Go K M F Lo pc' ls (.long v :: st) H r) : Go K M F Lo pc ls st H r := by
  obtain ⟨hd, rfl⟩ := hd
  exact h.pureS fun A hx hc k => XT.lloadN A hx rfl (hc ▸ hd) (LL_get hl) k
theorem Go.lload {k : Nat} {v : Int64} (hd : Dec M pc (.lload k) 2 pc') (hl : ls[k]? = some (.val (.long v))) (h : Go K M F Lo pc' ls (.long v :: st) H r) : Go K M F Lo pc ls st H r := by
  obtain ⟨hd, rfl⟩ := hd
  exact h.pureS fun A hx hc k => XT.lload A hx rfl (hc ▸ hd) (LL_get hl) k
theorem Go.lstoreN {k : Fin 4} {v : Int64} (hd : Dec M pc (.lstore_n k) 1 pc') (hl : stl ls k.val (.long v) = some ls') (h : Go K M F Lo pc' ls' st H r) : Go K M F Lo pc ls (.long v :: st) H r := by
  obtain ⟨hd, rfl⟩ := hd
  exact h.pureS fun A hx hc k => XT.lstoreN A hx rfl (hc ▸ hd) rfl (stl_ok (n0 := K.2.2.2) hl) k
theorem Go.lstore {k : Nat} {v : Int64} (hd : Dec M pc (.lstore k) 2 pc') (hl : stl ls k (.long v) = some ls') (h : Go K M F Lo pc' ls' st H r) : Go K M F Lo pc ls (.long v :: st) H r := by
  obtain ⟨hd, rfl⟩ := hd
  exact h.pureS fun A hx hc k => XT.lstore A hx rfl (hc ▸ hd) rfl (stl_ok (n0 := K.2.2.2) hl) k
theorem Go.aloadN {k : Fin 4} {v : Value} (hd : Dec M pc (.aload_n k) 1 pc') (hl : ls[k.val]? = some (.val v)) (hv : v.isRef = true) (h : Go K M F Lo pc' ls (v :: st) H r) : Go K M F Lo pc ls st H r := by
  obtain ⟨hd, rfl⟩ := hd
  exact h.pureS fun A hx hc k => XS.aloadN A hx rfl (hc ▸ hd) (LL_get hl) (by rw [sv_ref]; exact hv) k
theorem Go.aload {k : Nat} {v : Value} (hd : Dec M pc (.aload k) 2 pc') (hl : ls[k]? = some (.val v)) (hv : v.isRef = true) (h : Go K M F Lo pc' ls (v :: st) H r) : Go K M F Lo pc ls st H r := by
  obtain ⟨hd, rfl⟩ := hd
  exact h.pureS fun A hx hc k => XS.aload A hx rfl (hc ▸ hd) (LL_get hl) (by rw [sv_ref]; exact hv) k
theorem Go.astoreN {k : Fin 4} {v : Value} (hd : Dec M pc (.astore_n k) 1 pc') (hl : stl ls k.val v = some ls') (hv : v.isRef = true) (h : Go K M F Lo pc' ls' st H r) : Go K M F Lo pc ls (v :: st) H r := by
  obtain ⟨hd, rfl⟩ := hd
  exact h.pureS fun A hx hc k => XS.astoreN A hx rfl (hc ▸ hd) rfl (by rw [sv_ref]; exact hv) (stl_ok (n0 := K.2.2.2) hl) k
theorem Go.astore {k : Nat} {v : Value} (hd : Dec M pc (.astore k) 2 pc') (hl : stl ls k v = some ls') (hv : v.isRef = true) (h : Go K M F Lo pc' ls' st H r) : Go K M F Lo pc ls (v :: st) H r := by
  obtain ⟨hd, rfl⟩ := hd
  exact h.pureS fun A hx hc k => XS.astore A hx rfl (hc ▸ hd) rfl (by rw [sv_ref]; exact hv) (stl_ok (n0 := K.2.2.2) hl) k
theorem Go.iconst {i : Int} {v : Int32} (hd : Dec M pc (.iconst i) 1 pc') (hv : Int32.ofInt i = v) (h : Go K M F Lo pc' ls (.int v :: st) H r) : Go K M F Lo pc ls st H r := by
  obtain ⟨hd, rfl⟩ := hd
  exact h.pureS fun A hx hc k => XT.iconstV A hx rfl v (hc ▸ hd) hv k
theorem Go.bipush {i : Int} {v : Int32} (hd : Dec M pc (.bipush i) 2 pc') (hv : (Int8.ofInt i).toInt32 = v) (h : Go K M F Lo pc' ls (.int v :: st) H r) : Go K M F Lo pc ls st H r := by
  obtain ⟨hd, rfl⟩ := hd
  exact h.pureS fun A hx hc k => XT.bipushV A hx rfl v (hc ▸ hd) hv k
theorem Go.sipush {i : Int} {v : Int32} (hd : Dec M pc (.sipush i) 3 pc') (hv : (Int16.ofInt i).toInt32 = v) (h : Go K M F Lo pc' ls (.int v :: st) H r) : Go K M F Lo pc ls st H r := by
  obtain ⟨hd, rfl⟩ := hd
  exact h.pureS fun A hx hc k => XT.sipushV A hx rfl v (hc ▸ hd) hv k
theorem Go.lconst {i : Fin 2} {v : Int64} (hd : Dec M pc (.lconst i) 1 pc') (hv : Int64.ofNat i = v) (h : Go K M F Lo pc' ls (.long v :: st) H r) : Go K M F Lo pc ls st H r := by
  obtain ⟨hd, rfl⟩ := hd
  exact h.pureS fun A hx hc k => XT.lconstV A hx rfl v (hc ▸ hd) hv k
theorem Go.aconstNull  (hd : Dec M pc .aconst_null 1 pc') (h : Go K M F Lo pc' ls (.null :: st) H r) : Go K M F Lo pc ls st H r := by
  obtain ⟨hd, rfl⟩ := hd
  exact h.pureS fun A hx hc k => XS.aconstNull A hx rfl (hc ▸ hd) k
theorem Go.iadd {x y : Int32} (hd : Dec M pc .iadd 1 pc') (h : Go K M F Lo pc' ls (.int (x + y) :: st) H r) : Go K M F Lo pc ls (.int y :: .int x :: st) H r := by
  obtain ⟨hd, rfl⟩ := hd
  exact h.pureS fun A hx hc k => XS.iadd A hx rfl (hc ▸ hd) rfl k
theorem Go.isub {x y : Int32} (hd : Dec M pc .isub 1 pc') (h : Go K M F Lo pc' ls (.int (x - y) :: st) H r) : Go K M F Lo pc ls (.int y :: .int x :: st) H r := by
  obtain ⟨hd, rfl⟩ := hd
  exact h.pureS fun A hx hc k => XS.isub A hx rfl (hc ▸ hd) rfl k
theorem Go.imul {x y : Int32} (hd : Dec M pc .imul 1 pc') (h : Go K M F Lo pc' ls (.int (x * y) :: st) H r) : Go K M F Lo pc ls (.int y :: .int x :: st) H r := by
  obtain ⟨hd, rfl⟩ := hd
  exact h.pureS fun A hx hc k => XS.imul A hx rfl (hc ▸ hd) rfl k
theorem Go.iand {x y : Int32} (hd : Dec M pc .iand 1 pc') (h : Go K M F Lo pc' ls (.int (x &&& y) :: st) H r) : Go K M F Lo pc ls (.int y :: .int x :: st) H r := by
  obtain ⟨hd, rfl⟩ := hd
  exact h.pureS fun A hx hc k => XS.iand A hx rfl (hc ▸ hd) rfl k
theorem Go.ior {x y : Int32} (hd : Dec M pc .ior 1 pc') (h : Go K M F Lo pc' ls (.int (x ||| y) :: st) H r) : Go K M F Lo pc ls (.int y :: .int x :: st) H r := by
  obtain ⟨hd, rfl⟩ := hd
  exact h.pureS fun A hx hc k => XT.ior A hx rfl (hc ▸ hd) rfl k
theorem Go.ixor {x y : Int32} (hd : Dec M pc .ixor 1 pc') (h : Go K M F Lo pc' ls (.int (x ^^^ y) :: st) H r) : Go K M F Lo pc ls (.int y :: .int x :: st) H r := by
  obtain ⟨hd, rfl⟩ := hd
  exact h.pureS fun A hx hc k => XT.ixor A hx rfl (hc ▸ hd) rfl k
theorem Go.ishl {x y : Int32} (hd : Dec M pc .ishl 1 pc') (h : Go K M F Lo pc' ls (.int (x <<< (y &&& 31)) :: st) H r) : Go K M F Lo pc ls (.int y :: .int x :: st) H r := by
  obtain ⟨hd, rfl⟩ := hd
  exact h.pureS fun A hx hc k => XT.ishl A hx rfl (hc ▸ hd) rfl k
theorem Go.ishr {x y : Int32} (hd : Dec M pc .ishr 1 pc') (h : Go K M F Lo pc' ls (.int (x >>> (y &&& 31)) :: st) H r) : Go K M F Lo pc ls (.int y :: .int x :: st) H r := by
  obtain ⟨hd, rfl⟩ := hd
  exact h.pureS fun A hx hc k => XT.ishr A hx rfl (hc ▸ hd) rfl k
theorem Go.iushr {x y : Int32} (hd : Dec M pc .iushr 1 pc') (h : Go K M F Lo pc' ls (.int (XT.ushr x y) :: st) H r) : Go K M F Lo pc ls (.int y :: .int x :: st) H r := by
  obtain ⟨hd, rfl⟩ := hd
  exact h.pureS fun A hx hc k => XT.iushr A hx rfl (hc ▸ hd) rfl k
theorem Go.irem {x y : Int32} (hd : Dec M pc .irem 1 pc') (hy : y ≠ 0) (h : Go K M F Lo pc' ls (.int (x % y) :: st) H r) : Go K M F Lo pc ls (.int y :: .int x :: st) H r := by
  obtain ⟨hd, rfl⟩ := hd
  exact h.pureS fun A hx hc k => XS.irem A hx rfl (hc ▸ hd) rfl hy (by rw [rem_mod]; exact k)
theorem Go.idiv {x y : Int32} (hd : Dec M pc .idiv 1 pc') (hy : y ≠ 0) (h : Go K M F Lo pc' ls (.int (x / y) :: st) H r) : Go K M F Lo pc ls (.int y :: .int x :: st) H r := by
  obtain ⟨hd, rfl⟩ := hd
  exact h.pureS fun A hx hc k => XS.idiv A hx rfl (hc ▸ hd) rfl hy k
theorem Go.ineg {x : Int32} (hd : Dec M pc .ineg 1 pc') (h : Go K M F Lo pc' ls (.int (-x) :: st) H r) : Go K M F Lo pc ls (.int x :: st) H r := by
  obtain ⟨hd, rfl⟩ := hd
  exact h.pureS fun A hx hc k => XS.ineg A hx rfl (hc ▸ hd) rfl k
theorem Go.iinc {i : Nat} {cst : Int} {v x : Int32} (hd : Dec M pc (.iinc i cst) 3 pc') (hv : Int32.ofInt cst = v) (hl : ls[i]? = some (.val (.int x))) (hl' : stl ls i (.int (x + v)) = some ls') (h : Go K M F Lo pc' ls' st H r) : Go K M F Lo pc ls st H r := by
  obtain ⟨hd, rfl⟩ := hd
  exact h.pureS fun A hx hc k => XT.iincV A hx rfl v (hc ▸ hd) hv (LL_get hl) (stl_ok (n0 := K.2.2.2) hl') k
theorem Go.ladd {x y : Int64} (hd : Dec M pc .ladd 1 pc') (h : Go K M F Lo pc' ls (.long (x + y) :: st) H r) : Go K M F Lo pc ls (.long y :: .long x :: st) H r := by
  obtain ⟨hd, rfl⟩ := hd
  exact h.pureS fun A hx hc k => XT.ladd A hx rfl (hc ▸ hd) rfl k
theorem Go.lsub {x y : Int64} (hd : Dec M pc .lsub 1 pc') (h : Go K M F Lo pc' ls (.long (x - y) :: st) H r) : Go K M F Lo pc ls (.long y :: .long x :: st) H r := by
  obtain ⟨hd, rfl⟩ := hd
  exact h.pureS fun A hx hc k => XT.lsub A hx rfl (hc ▸ hd) rfl k
theorem Go.lmul {x y : Int64} (hd : Dec M pc .lmul 1 pc') (h : Go K M F Lo pc' ls (.long (x * y) :: st) H r) : Go K M F Lo pc ls (.long y :: .long x :: st) H r := by
  obtain ⟨hd, rfl⟩ := hd
  exact h.pureS fun A hx hc k => XT.lmul A hx rfl (hc ▸ hd) rfl k
theorem Go.land {x y : Int64} (hd : Dec M pc .land 1 pc') (h : Go K M F Lo pc' ls (.long (x &&& y) :: st) H r) : Go K M F Lo pc ls (.long y :: .long x :: st) H r := by
  obtain ⟨hd, rfl⟩ := hd
  exact h.pureS fun A hx hc k => XT.land A hx rfl (hc ▸ hd) rfl k
theorem Go.lor {x y : Int64} (hd : Dec M pc .lor 1 pc') (h : Go K M F Lo pc' ls (.long (x ||| y) :: st) H r) : Go K M F Lo pc ls (.long y :: .long x :: st) H r := by
  obtain ⟨hd, rfl⟩ := hd
  exact h.pureS fun A hx hc k => XT.lor A hx rfl (hc ▸ hd) rfl k
theorem Go.lxor {x y : Int64} (hd : Dec M pc .lxor 1 pc') (h : Go K M F Lo pc' ls (.long (x ^^^ y) :: st) H r) : Go K M F Lo pc ls (.long y :: .long x :: st) H r := by
  obtain ⟨hd, rfl⟩ := hd
  exact h.pureS fun A hx hc k => XT.lxor A hx rfl (hc ▸ hd) rfl k
theorem Go.lshl {x : Int64} {y : Int32} (hd : Dec M pc .lshl 1 pc') (h : Go K M F Lo pc' ls (.long (x <<< (y.toInt64 &&& 63)) :: st) H r) : Go K M F Lo pc ls (.int y :: .long x :: st) H r := by
  obtain ⟨hd, rfl⟩ := hd
  exact h.pureS fun A hx hc k => XT.lshl A hx rfl (hc ▸ hd) rfl k
theorem Go.lshr {x : Int64} {y : Int32} (hd : Dec M pc .lshr 1 pc') (h : Go K M F Lo pc' ls (.long (x >>> (y.toInt64 &&& 63)) :: st) H r) : Go K M F Lo pc ls (.int y :: .long x :: st) H r := by
  obtain ⟨hd, rfl⟩ := hd
  exact h.pureS fun A hx hc k => XT.lshr A hx rfl (hc ▸ hd) rfl k
theorem Go.lushr {x : Int64} {y : Int32} (hd : Dec M pc .lushr 1 pc') (h : Go K M F Lo pc' ls (.long (XT.ushrL x y) :: st) H r) : Go K M F Lo pc ls (.int y :: .long x :: st) H r := by
  obtain ⟨hd, rfl⟩ := hd
  exact h.pureS fun A hx hc k => XT.lushr A hx rfl (hc ▸ hd) rfl k
theorem Go.lrem {x y : Int64} (hd : Dec M pc .lrem 1 pc') (hy : y ≠ 0) (h : Go K M F Lo pc' ls (.long (x % y) :: st) H r) : Go K M F Lo pc ls (.long y :: .long x :: st) H r := by
  obtain ⟨hd, rfl⟩ := hd
  exact h.pureS fun A hx hc k => XT.lrem A hx rfl (hc ▸ hd) rfl hy (by rw [lrem_mod]; exact k)
theorem Go.ldiv {x y : Int64} (hd : Dec M pc .ldiv 1 pc') (hy : y ≠ 0) (h : Go K M F Lo pc' ls (.long (x / y) :: st) H r) : Go K M F Lo pc ls (.long y :: .long x :: st) H r := by
  obtain ⟨hd, rfl⟩ := hd
  exact h.pureS fun A hx hc k => XT.ldiv A hx rfl (hc ▸ hd) rfl hy k
theorem Go.lneg {x : Int64} (hd : Dec M pc .lneg 1 pc') (h : Go K M F Lo pc' ls (.long (-x) :: st) H r) : Go K M F Lo pc ls (.long x :: st) H r := by
  obtain ⟨hd, rfl⟩ := hd
  exact h.pureS fun A hx hc k => XT.lneg A hx rfl (hc ▸ hd) rfl k
theorem Go.lcmp {x y : Int64} (hd : Dec M pc .lcmp 1 pc') (h : Go K M F Lo pc' ls (.int (XT.cmpL x y) :: st) H r) : Go K M F Lo pc ls (.long y :: .long x :: st) H r := by
  obtain ⟨hd, rfl⟩ := hd
  exact h.pureS fun A hx hc k => XT.lcmp A hx rfl (hc ▸ hd) rfl k
theorem Go.i2l {x : Int32} (hd : Dec M pc .i2l 1 pc') (h : Go K M F Lo pc' ls (.long x.toInt64 :: st) H r) : Go K M F Lo pc ls (.int x :: st) H r := by
  obtain ⟨hd, rfl⟩ := hd
  exact h.pureS fun A hx hc k => XT.i2l A hx rfl (hc ▸ hd) rfl k
theorem Go.l2i {x : Int64} (hd : Dec M pc .l2i 1 pc') (h : Go K M F Lo pc' ls (.int x.toInt32 :: st) H r) : Go K M F Lo pc ls (.long x :: st) H r := by
  obtain ⟨hd, rfl⟩ := hd
  exact h.pureS fun A hx hc k => XT.l2i A hx rfl (hc ▸ hd) rfl k
theorem Go.i2b {x : Int32} (hd : Dec M pc .i2b 1 pc') (h : Go K M F Lo pc' ls (.int x.toInt8.toInt32 :: st) H r) : Go K M F Lo pc ls (.int x :: st) H r := by
  obtain ⟨hd, rfl⟩ := hd
  exact h.pureS fun A hx hc k => XT.i2b A hx rfl (hc ▸ hd) rfl k
theorem Go.i2c {x : Int32} (hd : Dec M pc .i2c 1 pc') (h : Go K M F Lo pc' ls (.int x.toUInt32.toUInt16.toUInt32.toInt32 :: st) H r) : Go K M F Lo pc ls (.int x :: st) H r := by
  obtain ⟨hd, rfl⟩ := hd
  exact h.pureS fun A hx hc k => XT.i2c A hx rfl (hc ▸ hd) rfl k
theorem Go.i2s {x : Int32} (hd : Dec M pc .i2s 1 pc') (h : Go K M F Lo pc' ls (.int x.toInt16.toInt32 :: st) H r) : Go K M F Lo pc ls (.int x :: st) H r := by
  obtain ⟨hd, rfl⟩ := hd
  exact h.pureS fun A hx hc k => XT.i2s A hx rfl (hc ▸ hd) rfl k
theorem Go.pop {x : Value} (hd : Dec M pc .pop 1 pc') (hx1 : x.category = 1) (h : Go K M F Lo pc' ls st H r) : Go K M F Lo pc ls (x :: st) H r := by
  obtain ⟨hd, rfl⟩ := hd
  exact h.pureS fun A hx hc k => XT.pop A hx rfl (hc ▸ hd) rfl (by rw [sv_cat]; exact hx1) k
theorem Go.dup {x : Value} (hd : Dec M pc .dup 1 pc') (hx1 : x.category = 1) (h : Go K M F Lo pc' ls (x :: x :: st) H r) : Go K M F Lo pc ls (x :: st) H r := by
  obtain ⟨hd, rfl⟩ := hd
  exact h.pureS fun A hx hc k => XS.dup A hx rfl (hc ▸ hd) rfl (by rw [sv_cat]; exact hx1) k
theorem Go.dupX1 {x y : Value} (hd : Dec M pc .dup_x1 1 pc') (hx1 : x.category = 1) (hy1 : y.category = 1) (h : Go K M F Lo pc' ls (x :: y :: x :: st) H r) : Go K M F Lo pc ls (x :: y :: st) H r := by
  obtain ⟨hd, rfl⟩ := hd
  exact h.pureS fun A hx hc k => XT.dupX1 A hx rfl (hc ▸ hd) rfl (by rw [sv_cat]; exact hx1) (by rw [sv_cat]; exact hy1) k
theorem Go.dup2 {x y : Value} (hd : Dec M pc .dup2 1 pc') (hx1 : x.category = 1) (hy1 : y.category = 1) (h : Go K M F Lo pc' ls (x :: y :: x :: y :: st) H r) : Go K M F Lo pc ls (x :: y :: st) H r := by
  obtain ⟨hd, rfl⟩ := hd
  exact h.pureS fun A hx hc k => XT.dup2 A hx rfl (hc ▸ hd) rfl (by rw [sv_cat]; exact hx1) (by rw [sv_cat]; exact hy1) k
theorem Go.dup2L {x : Int64} (hd : Dec M pc .dup2 1 pc') (h : Go K M F Lo pc' ls (.long x :: .long x :: st) H r) : Go K M F Lo pc ls (.long x :: st) H r := by
  obtain ⟨hd, rfl⟩ := hd
  exact h.pureS fun A hx hc k => XT.dup2L A hx rfl (hc ▸ hd) rfl k
theorem hset_self {H : Hp} {i : Nat} {o o' : Obj} (h : H[i]? = some o) : (H.set i o')[i]? = some o' := List.getElem?_set_self (List.getElem?_eq_some_iff.mp h).1
theorem hset_ne {H : Hp} {i j : Nat} {o o' : Obj} (h : H[j]? = some o) (ne : i ≠ j) : (H.set i o')[j]? = some o := (List.getElem?_set_ne ne).trans h
theorem happ {H : Hp} {i : Nat} {o : Obj} (h : H[i]? = some o) (L : Hp) : (H ++ L)[i]? = some o := (List.getElem?_append_left (List.getElem?_eq_some_iff.mp h).1).trans h
theorem happ_last {H : Hp} {i : Nat} {o : Obj} (h : H.length = i) : (H ++ [o])[i]? = some o := by subst h; simp
theorem Go.goto {o : Int} (hd : Dec M pc (.goto o) 3 pc') (hj : Jmp pc o pt) (h : Go K M F Lo pt ls st H r) : Go K M F Lo pc ls st H r :=
  h.pureS fun A hx hc k => XS.goto A hx rfl rfl (hd.at hc) hj.1 hj.2 k
theorem Go.icmpT {cd : ClassFile.Cond} {x y : Int32} {o : Int} (hd : Dec M pc (.if_icmp cd o) 3 pc') (hj : Jmp pc o pt) (hv : if_icmp.holds cd x y = true) (h : Go K M F Lo pt ls st H r) : Go K M F Lo pc ls (.int y :: .int x :: st) H r :=
  h.pureS fun A hx hc k => XS.icmpYes A hx rfl rfl (hd.at hc) rfl hv hj.1 hj.2 k
theorem Go.icmpF {cd : ClassFile.Cond} {x y : Int32} {o : Int} (hd : Dec M pc (.if_icmp cd o) 3 pc') (hv : if_icmp.holds cd x y = false) (h : Go K M F Lo pc' ls st H r) : Go K M F Lo pc ls (.int y :: .int x :: st) H r := by
  obtain ⟨hd, rfl⟩ := hd
  exact h.pureS fun A hx hc k => XS.icmpNo A hx rfl (hc ▸ hd) rfl hv k
theorem Go.ifT {cd : ClassFile.Cond} {x : Int32} {o : Int} (hd : Dec M pc (.ifCond cd o) 3 pc') (hj : Jmp pc o pt) (hv : ifCond.holds cd x = true) (h : Go K M F Lo pt ls st H r) : Go K M F Lo pc ls (.int x :: st) H r :=
  h.pureS fun A hx hc k => XS.ifYes A hx rfl rfl (hd.at hc) rfl hv hj.1 hj.2 k
theorem Go.ifF {cd : ClassFile.Cond} {x : Int32} {o : Int} (hd : Dec M pc (.ifCond cd o) 3 pc') (hv : ifCond.holds cd x = false) (h : Go K M F Lo pc' ls st H r) : Go K M F Lo pc ls (.int x :: st) H r := by
  obtain ⟨hd, rfl⟩ := hd
  exact h.pureS fun A hx hc k => XS.ifNo A hx rfl (hc ▸ hd) rfl hv k
theorem Go.icmp_lt {x y : Int32} {o : Int} (hd : Dec M pc (.if_icmp .lt o) 3 pc') (hj : Jmp pc o pt) (hT : x < y → Go K M F Lo pt ls st H r) (hF : ¬ x < y → Go K M F Lo pc' ls st H r) : Go K M F Lo pc ls (.int y :: .int x :: st) H r := by
  by_cases q : x < y
  · exact Go.icmpT hd hj (XT.ii_lt_t q) (hT q)
  · exact Go.icmpF hd (XT.ii_lt_f q) (hF q)
theorem Go.if_lt {x : Int32} {o : Int} (hd : Dec M pc (.ifCond .lt o) 3 pc') (hj : Jmp pc o pt) (hT : x < 0 → Go K M F Lo pt ls st H r) (hF : ¬ x < 0 → Go K M F Lo pc' ls st H r) : Go K M F Lo pc ls (.int x :: st) H r := by
  by_cases q : x < 0
  · exact Go.ifT hd hj (XT.i0_lt_t q) (hT q)
  · exact Go.ifF hd (XT.i0_lt_f q) (hF q)
theorem Go.lif_lt {x y : Int64} {o : Int} (hd : Dec M pc (.ifCond .lt o) 3 pc') (hj : Jmp pc o pt) (hT : x < y → Go K M F Lo pt ls st H r) (hF : ¬ x < y → Go K M F Lo pc' ls st H r) : Go K M F Lo pc ls (.int (XT.cmpL x y) :: st) H r := by
  by_cases q : x < y
  · exact Go.ifT hd hj (XT.ll_lt_t q) (hT q)
  · exact Go.ifF hd (XT.ll_lt_f q) (hF q)
theorem Go.icmp_ge {x y : Int32} {o : Int} (hd : Dec M pc (.if_icmp .ge o) 3 pc') (hj : Jmp pc o pt) (hT : ¬ x < y → Go K M F Lo pt ls st H r) (hF : x < y → Go K M F Lo pc' ls st H r) : Go K M F Lo pc ls (.int y :: .int x :: st) H r := by
  by_cases q : x < y
  · exact Go.icmpF hd (XT.ii_ge_f q) (hF q)
  · exact Go.icmpT hd hj (XT.ii_ge_t q) (hT q)
theorem Go.if_ge {x : Int32} {o : Int} (hd : Dec M pc (.ifCond .ge o) 3 pc') (hj : Jmp pc o pt) (hT : ¬ x < 0 → Go K M F Lo pt ls st H r) (hF : x < 0 → Go K M F Lo pc' ls st H r) : Go K M F Lo pc ls (.int x :: st) H r := by
  by_cases q : x < 0
  · exact Go.ifF hd (XT.i0_ge_f q) (hF q)
  · exact Go.ifT hd hj (XT.i0_ge_t q) (hT q)
theorem Go.lif_ge {x y : Int64} {o : Int} (hd : Dec M pc (.ifCond .ge o) 3 pc') (hj : Jmp pc o pt) (hT : ¬ x < y → Go K M F Lo pt ls st H r) (hF : x < y → Go K M F Lo pc' ls st H r) : Go K M F Lo pc ls (.int (XT.cmpL x y) :: st) H r := by
  by_cases q : x < y
  · exact Go.ifF hd (XT.ll_ge_f q) (hF q)
  · exact Go.ifT hd hj (XT.ll_ge_t q) (hT q)
theorem Go.icmp_gt {x y : Int32} {o : Int} (hd : Dec M pc (.if_icmp .gt o) 3 pc') (hj : Jmp pc o pt) (hT : y < x → Go K M F Lo pt ls st H r) (hF : ¬ y < x → Go K M F Lo pc' ls st H r) : Go K M F Lo pc ls (.int y :: .int x :: st) H r := by
  by_cases q : y < x
  · exact Go.icmpT hd hj (XT.ii_gt_t q) (hT q)
  · exact Go.icmpF hd (XT.ii_gt_f q) (hF q)
theorem Go.if_gt {x : Int32} {o : Int} (hd : Dec M pc (.ifCond .gt o) 3 pc') (hj : Jmp pc o pt) (hT : 0 < x → Go K M F Lo pt ls st H r) (hF : ¬ 0 < x → Go K M F Lo pc' ls st H r) : Go K M F Lo pc ls (.int x :: st) H r := by
  by_cases q : 0 < x
  · exact Go.ifT hd hj (XT.i0_gt_t q) (hT q)
  · exact Go.ifF hd (XT.i0_gt_f q) (hF q)
theorem Go.lif_gt {x y : Int64} {o : Int} (hd : Dec M pc (.ifCond .gt o) 3 pc') (hj : Jmp pc o pt) (hT : y < x → Go K M F Lo pt ls st H r) (hF : ¬ y < x → Go K M F Lo pc' ls st H r) : Go K M F Lo pc ls (.int (XT.cmpL x y) :: st) H r := by
  by_cases q : y < x
  · exact Go.ifT hd hj (XT.ll_gt_t q) (hT q)
  · exact Go.ifF hd (XT.ll_gt_f q) (hF q)
theorem Go.icmp_le {x y : Int32} {o : Int} (hd : Dec M pc (.if_icmp .le o) 3 pc') (hj : Jmp pc o pt) (hT : ¬ y < x → Go K M F Lo pt ls st H r) (hF : y < x → Go K M F Lo pc' ls st H r) : Go K M F Lo pc ls (.int y :: .int x :: st) H r := by
  by_cases q : y < x
  · exact Go.icmpF hd (XT.ii_le_f q) (hF q)
  · exact Go.icmpT hd hj (XT.ii_le_t q) (hT q)
theorem Go.if_le {x : Int32} {o : Int} (hd : Dec M pc (.ifCond .le o) 3 pc') (hj : Jmp pc o pt) (hT : ¬ 0 < x → Go K M F Lo pt ls st H r) (hF : 0 < x → Go K M F Lo pc' ls st H r) : Go K M F Lo pc ls (.int x :: st) H r := by
  by_cases q : 0 < x
  · exact Go.ifF hd (XT.i0_le_f q) (hF q)
  · exact Go.ifT hd hj (XT.i0_le_t q) (hT q)
theorem Go.lif_le {x y : Int64} {o : Int} (hd : Dec M pc (.ifCond .le o) 3 pc') (hj : Jmp pc o pt) (hT : ¬ y < x → Go K M F Lo pt ls st H r) (hF : y < x → Go K M F Lo pc' ls st H r) : Go K M F Lo pc ls (.int (XT.cmpL x y) :: st) H r := by
  by_cases q : y < x
  · exact Go.ifF hd (XT.ll_le_f q) (hF q)
  · exact Go.ifT hd hj (XT.ll_le_t q) (hT q)
theorem Go.icmp_eq {x y : Int32} {o : Int} (hd : Dec M pc (.if_icmp .eq o) 3 pc') (hj : Jmp pc o pt) (hT : x = y → Go K M F Lo pt ls st H r) (hF : ¬ x = y → Go K M F Lo pc' ls st H r) : Go K M F Lo pc ls (.int y :: .int x :: st) H r := by
  by_cases q : x = y
  · exact Go.icmpT hd hj (XT.ii_eq_t q) (hT q)
  · exact Go.icmpF hd (XT.ii_eq_f q) (hF q)
theorem Go.if_eq {x : Int32} {o : Int} (hd : Dec M pc (.ifCond .eq o) 3 pc') (hj : Jmp pc o pt) (hT : x = 0 → Go K M F Lo pt ls st H r) (hF : ¬ x = 0 → Go K M F Lo pc' ls st H r) : Go K M F Lo pc ls (.int x :: st) H r := by
  by_cases q : x = 0
  · exact Go.ifT hd hj (XT.i0_eq_t q) (hT q)
  · exact Go.ifF hd (XT.i0_eq_f q) (hF q)
theorem Go.lif_eq {x y : Int64} {o : Int} (hd : Dec M pc (.ifCond .eq o) 3 pc') (hj : Jmp pc o pt) (hT : x = y → Go K M F Lo pt ls st H r) (hF : ¬ x = y → Go K M F Lo pc' ls st H r) : Go K M F Lo pc ls (.int (XT.cmpL x y) :: st) H r := by
  by_cases q : x = y
  · exact Go.ifT hd hj (XT.ll_eq_t q) (hT q)
  · exact Go.ifF hd (XT.ll_eq_f q) (hF q)
theorem Go.icmp_ne {x y : Int32} {o : Int} (hd : Dec M pc (.if_icmp .ne o) 3 pc') (hj : Jmp pc o pt) (hT : ¬ x = y → Go K M F Lo pt ls st H r) (hF : x = y → Go K M F Lo pc' ls st H r) : Go K M F Lo pc ls (.int y :: .int x :: st) H r := by
  by_cases q : x = y
  · exact Go.icmpF hd (XT.ii_ne_f q) (hF q)
  · exact Go.icmpT hd hj (XT.ii_ne_t q) (hT q)
theorem Go.if_ne {x : Int32} {o : Int} (hd : Dec M pc (.ifCond .ne o) 3 pc') (hj : Jmp pc o pt) (hT : ¬ x = 0 → Go K M F Lo pt ls st H r) (hF : x = 0 → Go K M F Lo pc' ls st H r) : Go K M F Lo pc ls (.int x :: st) H r := by
  by_cases q : x = 0
  · exact Go.ifF hd (XT.i0_ne_f q) (hF q)
  · exact Go.ifT hd hj (XT.i0_ne_t q) (hT q)
theorem Go.lif_ne {x y : Int64} {o : Int} (hd : Dec M pc (.ifCond .ne o) 3 pc') (hj : Jmp pc o pt) (hT : ¬ x = y → Go K M F Lo pt ls st H r) (hF : x = y → Go K M F Lo pc' ls st H r) : Go K M F Lo pc ls (.int (XT.cmpL x y) :: st) H r := by
  by_cases q : x = y
  · exact Go.ifF hd (XT.ll_ne_f q) (hF q)
  · exact Go.ifT hd hj (XT.ll_ne_t q) (hT q)
theorem Go.ifnullT {o : Int} (hd : Dec M pc (.ifnull o) 3 pc') (hj : Jmp pc o pt) (h : Go K M F Lo pt ls st H r) : Go K M F Lo pc ls (.null :: st) H r :=
  h.pureS fun A hx hc k => XS.ifnullYes A hx rfl rfl (hd.at hc) rfl hj.1 hj.2 k
theorem Go.ifnullF {i : Nat} {o : Int} (hd : Dec M pc (.ifnull o) 3 pc') (h : Go K M F Lo pc' ls st H r) : Go K M F Lo pc ls (.ref i :: st) H r := by
  obtain ⟨hd, rfl⟩ := hd
  exact h.pureS fun A hx hc k => XS.ifnullNo A hx rfl (hc ▸ hd) rfl k
theorem Go.ifnonnullT {i : Nat} {o : Int} (hd : Dec M pc (.ifnonnull o) 3 pc') (hj : Jmp pc o pt) (h : Go K M F Lo pt ls st H r) : Go K M F Lo pc ls (.ref i :: st) H r :=
  h.pureS fun A hx hc k => XT.ifnonnullYes A hx rfl rfl (hd.at hc) rfl hj.1 hj.2 k
theorem Go.ifnonnullF {o : Int} (hd : Dec M pc (.ifnonnull o) 3 pc') (h : Go K M F Lo pc' ls st H r) : Go K M F Lo pc ls (.null :: st) H r := by
  obtain ⟨hd, rfl⟩ := hd
  exact h.pureS fun A hx hc k => XT.ifnonnullNo A hx rfl (hc ▸ hd) rfl k
theorem sv_inj (n0 : Nat) {x y : Value} : sv n0 x = sv n0 y ↔ x = y := by
  cases x <;> cases y <;> simp [sv]
theorem acmp_sv (n0 : Nat) (cd : ClassFile.ACond) (x y : Value) : XT.acmp cd (sv n0 x) (sv n0 y) = XT.acmp cd x y := by
  cases cd <;> simp [XT.acmp, sv_inj]
theorem Go.acmpT {cd : ClassFile.ACond} {x y : Value} {o : Int} (hd : Dec M pc (.if_acmp cd o) 3 pc') (hj : Jmp pc o pt) (h1 : x.isRef = true) (h2 : y.isRef = true) (hv : XT.acmp cd x y = true) (h : Go K M F Lo pt ls st H r) : Go K M F Lo pc ls (y :: x :: st) H r :=
  h.pureS fun A hx hc k => XT.acmpYes A hx rfl rfl (hd.at hc) rfl (by rw [sv_ref]; exact h1) (by rw [sv_ref]; exact h2) (by rw [acmp_sv]; exact hv) hj.1 hj.2 k
theorem Go.acmpF {cd : ClassFile.ACond} {x y : Value} {o : Int} (hd : Dec M pc (.if_acmp cd o) 3 pc') (h1 : x.isRef = true) (h2 : y.isRef = true) (hv : XT.acmp cd x y = false) (h : Go K M F Lo pc' ls st H r) : Go K M F Lo pc ls (y :: x :: st) H r := by
  obtain ⟨hd, rfl⟩ := hd
  exact h.pureS fun A hx hc k => XT.acmpNo A hx rfl (hc ▸ hd) rfl (by rw [sv_ref]; exact h1) (by rw [sv_ref]; exact h2) (by rw [acmp_sv]; exact hv) k
/-! ## 5. constants of the pool -/
theorem Go.ldc {idx : Nat} {v : Int32} (hd : Dec M pc (.ldc idx) 2 pc') (w : (Cond.constant M.1.cls idx v).before K.2.2.1 K.2.1 = true) (h : Go K M F Lo pc' ls (.int v :: st) H r) : Go K M F Lo pc ls st H r := by
  obtain ⟨hd, rfl⟩ := hd
  intro R cells slots p e s m args below meth c T locs a1 a2 a3 a4 b1 b2 b3 b4 b5 b6 b7 b8 X S N
  obtain ⟨s₂, L, q1, q⟩ := h R cells slots p e s m args below meth c T locs a1 a2 a3 a4 b1 b2 b3 b4 b5 b6 b7 b8 X S N
  exact ⟨s₂, L, X.ldcI b1 b7 (mvT b2 w) rfl (b3 ▸ hd) q1, q⟩
theorem Go.ldc2 {idx : Nat} {v : Int64} (hd : Dec M pc (.ldc2_w idx) 3 pc') (w : (Cond.constantLong M.1.cls idx v).before K.2.2.1 K.2.1 = true) (h : Go K M F Lo pc' ls (.long v :: st) H r) : Go K M F Lo pc ls st H r := by
  obtain ⟨hd, rfl⟩ := hd
  intro R cells slots p e s m args below meth c T locs a1 a2 a3 a4 b1 b2 b3 b4 b5 b6 b7 b8 X S N
  obtain ⟨s₂, L, q1, q⟩ := h R cells slots p e s m args below meth c T locs a1 a2 a3 a4 b1 b2 b3 b4 b5 b6 b7 b8 X S N
  exact ⟨s₂, L, X.ldc2J b1 b7 (mvT b2 w) rfl (b3 ▸ hd) q1, q⟩
/-! ## 6. fields -/
theorem Go.getfield {idx i : Nat} (j : Nat) {C n d : String} {fs : List (String × String × Value)} {v : Value} (hd : Dec M pc (.getfield idx) 3 pc') (w : (Cond.fieldLink M.1.cls idx C n d).before K.2.2.1 K.2.1 = true) (hH : H[i]? = some (.inl (C, fs))) (hf : fs[j]? = some (n, d, v))
    (h : Go K M F Lo pc' ls (v :: st) H r) : Go K M F Lo pc ls (.ref i :: st) H r := by
  obtain ⟨hd, rfl⟩ := hd
  intro R cells slots p e s m args below meth c T locs a1 a2 a3 a4 b1 b2 b3 b4 b5 b6 b7 b8 X S N
  have C0 := S.2 i _ hH
  have Fl := (C0.2.2 _ (List.mem_of_getElem? hf)).2.2
  obtain ⟨T', X', e', stp⟩ := getF X b1 b2 b7 (host := "") (Or.inl w) Via.refl rfl Fl (g := mkF m pc (LL K.2.2.2 ls) (SS K.2.2.2 (.ref i :: st))) rfl rfl (b3 ▸ hd)
  obtain ⟨s₂, L, q1, q⟩ := h R cells slots p e s m args below meth c T' locs a1 a2 a3 a4 b1 b2 b3 b4 b5 b6 b7 b8 X' (e' ▸ S) N
  exact ⟨s₂, L, stp _ q1, q⟩
def PutOk (ty : FieldType) (v : Value) : Prop := ∀ n0, narrow ty (sv n0 v) = sv n0 v ∧ fits ty (sv n0 v) = true
theorem names_set {fs : List (String × String × Value)} {j : Nat} {n d : String} {v w : Value} (hf : fs[j]? = some (n, d, w)) : (fs.set j (n, d, v)).map (fun f => f.1) = fs.map (fun f => f.1) := by
  apply List.ext_getElem?
  intro k
  rw [List.getElem?_map, List.getElem?_map]
  by_cases q : j = k
  · subst q
    rw [List.getElem?_set_self (List.getElem?_eq_some_iff.mp hf).1, hf]; rfl
  · rw [List.getElem?_set_ne q]
theorem fields_set {K : Ctx} {h h' : Heap} {a : Addr} {C n d : String} {fs : List (String × String × Value)} {j : Nat} {v old : Value} {ty : FieldType} (Ck : COk K.2.1 K.2.2.1 K.2.2.2 h a (.inl (C, fs))) (hf : fs[j]? = some (n, d, old)) (hty : parseFieldDescriptor d = some ty)
    (L : Laid K.2.1 K.2.2.1 C C n d) (W : Wr h h' a (Jvm.RoadKit.slotOf K.2.1 C n d) (sv K.2.2.2 v)) : COk K.2.1 K.2.2.1 K.2.2.2 h' a (.inl (C, fs.set j (n, d, v))) := by
  obtain ⟨E, nd, al⟩ := Ck
  refine ⟨E.wr W, by rw [names_set hf]; exact nd, fun f hm => ?_⟩
  obtain ⟨k, hk⟩ := List.mem_iff_getElem?.mp hm
  by_cases q : j = k
  · subst q
    rw [List.getElem?_set_self (List.getElem?_eq_some_iff.mp hf).1] at hk
    cases hk
    exact ⟨L, ⟨ty, hty⟩, (al _ (List.mem_of_getElem? hf)).2.2.same W⟩
  · rw [List.getElem?_set_ne q] at hk
    obtain ⟨l1, ⟨t1, p1⟩, f1⟩ := al f (List.mem_of_getElem? hk)
    refine ⟨l1, ⟨t1, p1⟩, f1.other W (Or.inr (slot_ne l1 L ?_ p1 hty))⟩
    intro e
    have h1 : (fs.map (fun f => f.1))[k]? = some f.1 := by rw [List.getElem?_map, hk]; rfl
    have h2 : (fs.map (fun f => f.1))[j]? = some f.1 := by rw [List.getElem?_map, hf, e]; rfl
    exact q ((List.getElem?_inj (List.getElem?_eq_some_iff.mp h2).1 nd).mp (h2.trans h1.symm))
theorem Go.putfield {idx i kk : Nat} (j : Nat) {C n d : String} {ty : FieldType} {fs : List (String × String × Value)} {v old : Value} {H1 : Hp} (hd : Dec M pc (.putfield idx) 3 pc') (w : (Cond.fieldLink M.1.cls idx C n d).before K.2.2.1 K.2.1 = true)
    (wl : (Cond.lays C C n d).before K.2.2.1 K.2.1 = true ∨ ((Cond.laysFinal C C n d).before K.2.2.1 K.2.1 = true ∧ M.1.cls = C ∧ M.1.name = "<init>")) (wi : (Cond.instantiable C kk).before K.2.2.1 K.2.1 = true) (hty : parseFieldDescriptor d = some ty) (hv : PutOk ty v)
    (hH : H[i]? = some (.inl (C, fs))) (hf : fs[j]? = some (n, d, old)) (hH1 : H.set i (.inl (C, fs.set j (n, d, v))) = H1) (h : Go K M F Lo pc' ls st H1 r) : Go K M F Lo pc ls (v :: .ref i :: st) H r := by
  obtain ⟨hd, rfl⟩ := hd
  intro R cells slots p e s m args below meth c T locs a1 a2 a3 a4 b1 b2 b3 b4 b5 b6 b7 b8 X S N
  subst hH1
  have C0 := S.2 i _ hH
  have Fl := (C0.2.2 _ (List.mem_of_getElem? hf)).2.2
  have L0 : Laid K.2.1 K.2.2.1 C C n d := wl.imp id (fun q => q.1)
  obtain ⟨T', h', X', e', W, stp⟩ := putF X b1 b2 b7 (host := "") (Or.inl w) Via.refl rfl Fl C0.1 (wl.imp id (fun q => ⟨q.1, q.2.1, b8.trans q.2.2⟩)) wi hty (hv K.2.2.2).1 (hv K.2.2.2).2 (g := mkF m pc (LL K.2.2.2 ls) (SS K.2.2.2 (v :: .ref i :: st))) rfl rfl (b3 ▸ hd)
  subst e'
  obtain ⟨s₂, L, q1, q⟩ := h R cells slots p e s m args below meth c T' _ a1 a2 a3 a4 b1 b2 b3 b4 b5 b6 b7 b8 X' (S.set W hH (fields_set C0 hf hty L0 W)) (Fr.snoc X' N (Nat.le_add_right _ _))
  exact ⟨s₂, L, stp _ q1, q⟩
/-! ## 7. new -/
theorem sv_dflt (n0 : Nat) (ty : FieldType) : sv n0 (defaultValue ty) = defaultValue ty := by cases ty <;> rfl
theorem Go.new {idx k i : Nat} {C : String} (fs : List (String × String × Value)) {rv : Option Value} {H' : Option Hp} {dct dst : Nat} (hd : Dec M pc (.new idx) 3 pc') (w1 : (Cond.classLink M.1.cls idx C).before K.2.2.1 K.2.1 = true) (w2 : (Cond.instantiable C k).before K.2.2.1 K.2.1 = true) (w3 : (Cond.initialized C).before K.2.2.1 K.2.1 = true)
    (hnd : (fs.map (fun f => f.1)).Nodup) (hfs : ∀ f ∈ fs, Laid K.2.1 K.2.2.1 C C f.1 f.2.1 ∧ ∃ ty, parseFieldDescriptor f.2.1 = some ty ∧ f.2.2 = defaultValue ty) (hi : H.length = i)
    (dc ds : Nat) (hdc : dc + 1 ≤ dct) (hds : ds + k ≤ dst) (h : Go K M F Lo pc' ls (.ref i :: st) (H ++ [.inl (C, fs)]) (rv, H', dc, ds)) : Go K M F Lo pc ls st H (rv, H', dct, dst) := by
  obtain ⟨hd, rfl⟩ := hd
  intro R cells slots p e s m args below meth c T locs a1 a2 a3 a4 b1 b2 b3 b4 b5 b6 b7 b8 X S N
  subst hi
  have a3' : cells + dct ≤ R.cells := a3
  have a4' : slots + dst ≤ R.slots := a4
  obtain ⟨vm', cC, kC, h1, h2, h3, h4, X', stp⟩ := X.newCold b1 b7 (mv b2 w1) (mv b2 w2) (mv b2 w3) (g := mkF m pc (LL K.2.2.2 ls) (SS K.2.2.2 st)) rfl (b3 ▸ hd) (by omega) (by omega)
  rw [b2.alike.findClass] at h1
  obtain ⟨kZ, z1, -⟩ := Vm.findClass_spec h1
  obtain ⟨k', z2, z3⟩ := b2.alike.2.2 _ _ z1
  cases h2.symm.trans z2
  have ei : kC.instanceTypes = kZ.instanceTypes := by rw [z3]
  have hN : (T.heap.push { cls := cC, slots := kC.instanceTypes.map defaultValue, vm := .none })[T.heap.size]? = some { cls := cC, slots := kC.instanceTypes.map defaultValue, vm := .none } := by simp
  have E : Ext T.heap (T.heap.push { cls := cC, slots := kC.instanceTypes.map defaultValue, vm := .none }) := ⟨by simp, fun a c h => by
    rw [Array.getElem?_push_lt (Array.getElem?_eq_some_iff.mp h).1]; exact (Array.getElem?_eq_getElem _).symm.trans h⟩
  have S' : Sim K (T.heap.push { cls := cC, slots := kC.instanceTypes.map defaultValue, vm := .none }) (H ++ [.inl (C, fs)]) := by
    refine S.push E (by simp) ?_
    rw [← S.1]
    refine ⟨⟨_, kZ, hN, h1, z1, rfl, fun _ => by simp [ei]⟩, hnd, fun f hf => ?_⟩
    obtain ⟨Lf, ty, ht, hv⟩ := hfs f hf
    refine ⟨Lf, ⟨ty, ht⟩, ?_⟩
    rw [hv, sv_dflt]
    obtain ⟨c1, k1, cf, kf, i, f', y1, y2, y3, y4, y5, y6, -⟩ := Lf.spec
    cases h1.symm.trans y1
    cases z1.symm.trans y2
    exact ⟨_, cf, kf, i, f', hN, y3, y4, by simp, rfl, y5, by simp [ei, y6, (State.fieldFound?_type y3 ht).2]⟩
  obtain ⟨s₂, L, q1, q2, q3, q4, q5, q6⟩ := h R (cells + 1) (slots + k) p e s m args below meth c _ locs a1 a2 (by show cells + 1 + dc ≤ _; omega) (by show slots + k + ds ≤ _; omega) b1 b2 b3 b4 b5 b6 b7 b8 X' S' N
  refine ⟨s₂, L, stp _ ?_, q2, q3, q4, q5, q6.1, q6.2.1, q6.2.2.mono (by show cells + 1 + dc ≤ cells + dct; omega) (by show slots + k + ds ≤ slots + dst; omega)⟩
  have e : SS K.2.2.2 (.ref H.length :: st) = .ref T.heap.size :: SS K.2.2.2 st := by rw [S.1]; rfl
  rw [e] at q1
  exact q1
theorem Go.newarray {aty : ArrayType} {t : FieldType} {n : Int32} {i : Nat} (cap : Nat) {vs : List Value} {rv : Option Value} {H' : Option Hp} {dct dst : Nat} (hd : Dec M pc (.newarray aty) 2 pc') (w : (Cond.arrayClass (newarray.typeOf aty)).before K.2.2.1 K.2.1 = true) (ht : newarray.typeOf aty = t)
    (hn : ¬ n < 0) (hcap : n.toNatClampNeg ≤ cap) (hb : cap * 8 ≤ 536870912) (hvs : List.replicate n.toNatClampNeg (defaultValue t) = vs) (hi : H.length = i)
    (dc ds : Nat) (hdc : dc + 1 ≤ dct) (hds : ds + cap ≤ dst) (h : Go K M F Lo pc' ls (.ref i :: st) (H ++ [.inr (t, vs)]) (rv, H', dc, ds)) : Go K M F Lo pc ls (.int n :: st) H (rv, H', dct, dst) := by
  obtain ⟨hd, rfl⟩ := hd
  intro R cells slots p e s m args below meth c T locs a1 a2 a3 a4 b1 b2 b3 b4 b5 b6 b7 b8 X S N
  subst hi ht hvs
  have a3' : cells + dct ≤ R.cells := a3
  have a4' : slots + dst ≤ R.slots := a4
  have hcb : componentBytes (newarray.typeOf aty) ≤ 8 := by cases aty <;> decide
  obtain ⟨cA, kA, comp, h1, h2, h3, X', stp⟩ := X.newarrayPrim b1 (mvA b2 w) (g := mkF m pc (LL K.2.2.2 ls) (SS K.2.2.2 (.int n :: st))) rfl (b3 ▸ hd) (n := n) (rest := SS K.2.2.2 st) rfl hn (Nat.le_trans (Nat.mul_le_mul hcap hcb) hb) (by omega) (by omega)
  rw [b2.alike.findClass] at h1
  obtain ⟨kZ, z1, -⟩ := Vm.findClass_spec h1
  obtain ⟨k', z2, z3⟩ := b2.alike.2.2 _ _ z1
  cases h2.symm.trans z2
  have hN : (T.heap.push { cls := cA, slots := Array.replicate n.toNatClampNeg (defaultValue (newarray.typeOf aty)), vm := .none })[T.heap.size]? = some { cls := cA, slots := Array.replicate n.toNatClampNeg (defaultValue (newarray.typeOf aty)), vm := .none } := by simp
  have E : Ext T.heap (T.heap.push { cls := cA, slots := Array.replicate n.toNatClampNeg (defaultValue (newarray.typeOf aty)), vm := .none }) := ⟨by simp, fun a c h => by
    rw [Array.getElem?_push_lt (Array.getElem?_eq_some_iff.mp h).1]; exact (Array.getElem?_eq_getElem _).symm.trans h⟩
  have S' : Sim K (T.heap.push { cls := cA, slots := Array.replicate n.toNatClampNeg (defaultValue (newarray.typeOf aty)), vm := .none }) (H ++ [.inr (newarray.typeOf aty, List.replicate n.toNatClampNeg (defaultValue (newarray.typeOf aty)))]) := by
    refine S.push E (by simp) ?_
    rw [← S.1]
    refine ⟨⟨_, kZ, hN, h1, z1, rfl, fun q => ?_⟩, _, ⟨hN, ⟨by simp, kZ, z1, comp, by rw [← h3, z3]⟩, by simp⟩, ?_⟩
    · have q2 : kZ.kind = .array comp (newarray.typeOf aty) := by rw [← h3, z3]
      rw [q2] at q; cases q
    · simp [sv_dflt]
  obtain ⟨s₂, L, q1, q2, q3, q4, q5, q6⟩ := h R (cells + 1) (slots + cap) p e s m args below meth c _ locs a1 a2 (by show cells + 1 + dc ≤ _; omega) (by show slots + cap + ds ≤ _; omega) b1 b2 b3 b4 b5 b6 b7 b8 (X'.more (Nat.le_refl _) (by omega)) S' N
  refine ⟨s₂, L, stp _ ?_, q2, q3, q4, q5, q6.1, q6.2.1, q6.2.2.mono (by show cells + 1 + dc ≤ cells + dct; omega) (by show slots + cap + ds ≤ slots + dst; omega)⟩
  have e : SS K.2.2.2 (.ref H.length :: st) = .ref T.heap.size :: SS K.2.2.2 st := by rw [S.1]; rfl
  rw [e] at q1
  exact q1
/-! ## 8. arrays -/
theorem Go.arraylength {i : Nat} {t : FieldType} {vs : List Value} {z : Int32} (hd : Dec M pc .arraylength 1 pc') (hH : H[i]? = some (.inr (t, vs))) (hz : vs.length.toInt32 = z) (h : Go K M F Lo pc' ls (.int z :: st) H r) : Go K M F Lo pc ls (.ref i :: st) H r := by
  obtain ⟨hd, rfl⟩ := hd
  intro R cells slots p e s m args below meth c T locs a1 a2 a3 a4 b1 b2 b3 b4 b5 b6 b7 b8 X S N
  obtain ⟨Ex, cl, Ar, hc⟩ := S.2 i _ hH
  obtain ⟨s₂, L, q1, q⟩ := h R cells slots p e s m args below meth c T locs a1 a2 a3 a4 b1 b2 b3 b4 b5 b6 b7 b8 X S N
  refine ⟨s₂, L, X.arraylength b1 Ar.1 (State.isArrayOf_alike b2.alike Ar.2.1) (g := mkF m pc (LL K.2.2.2 ls) (SS K.2.2.2 (.ref i :: st))) rfl (rest := SS K.2.2.2 st) rfl (b3 ▸ hd) _ ?_, q⟩
  have e : cl.slots.size.toInt32 = z := by rw [hc, ← hz]; simp
  rw [e]; exact q1
theorem in_of {cl : Cell} {n0 : Nat} {vs : List Value} {j : Int32} {v : Value} (hc : cl.slots = (vs.map (sv n0)).toArray) (hj : ¬ j < 0) (hv : vs[j.toNatClampNeg]? = some v) : ¬ (j < 0 ∨ cl.slots.size ≤ j.toNatClampNeg) ∧ cl.slots[j.toNatClampNeg]? = some (sv n0 v) := by
  have hl := (List.getElem?_eq_some_iff.mp hv).1
  refine ⟨?_, by rw [hc]; simp [hv]⟩
  rintro (q | q)
  · exact hj q
  · rw [hc] at q; simp at q; omega
theorem Go.iaload {i : Nat} {vs : List Value} {j : Int32} {v : Value} (hd : Dec M pc .iaload 1 pc') (hH : H[i]? = some (.inr (.int, vs))) (hj : ¬ j < 0) (hv : vs[j.toNatClampNeg]? = some v) (h : Go K M F Lo pc' ls (v :: st) H r) : Go K M F Lo pc ls (.int j :: .ref i :: st) H r := by
  obtain ⟨hd, rfl⟩ := hd
  intro R cells slots p e s m args below meth c T locs a1 a2 a3 a4 b1 b2 b3 b4 b5 b6 b7 b8 X S N
  obtain ⟨Ex, cl, Ar, hc⟩ := S.2 i _ hH
  obtain ⟨hin, hat⟩ := in_of hc hj hv
  obtain ⟨s₂, L, q1, q⟩ := h R cells slots p e s m args below meth c T locs a1 a2 a3 a4 b1 b2 b3 b4 b5 b6 b7 b8 X S N
  exact ⟨s₂, L, X.iaload b1 Ar.1 (State.isArrayOf_alike b2.alike Ar.2.1) Ar.2.2 hin hat (g := mkF m pc (LL K.2.2.2 ls) (SS K.2.2.2 (.int j :: .ref i :: st))) rfl (rest := SS K.2.2.2 st) rfl (b3 ▸ hd) _ q1, q⟩
theorem Go.laload {i : Nat} {vs : List Value} {j : Int32} {v : Value} (hd : Dec M pc .laload 1 pc') (hH : H[i]? = some (.inr (.long, vs))) (hj : ¬ j < 0) (hv : vs[j.toNatClampNeg]? = some v) (h : Go K M F Lo pc' ls (v :: st) H r) : Go K M F Lo pc ls (.int j :: .ref i :: st) H r := by
  obtain ⟨hd, rfl⟩ := hd
  intro R cells slots p e s m args below meth c T locs a1 a2 a3 a4 b1 b2 b3 b4 b5 b6 b7 b8 X S N
  obtain ⟨Ex, cl, Ar, hc⟩ := S.2 i _ hH
  obtain ⟨hin, hat⟩ := in_of hc hj hv
  obtain ⟨s₂, L, q1, q⟩ := h R cells slots p e s m args below meth c T locs a1 a2 a3 a4 b1 b2 b3 b4 b5 b6 b7 b8 X S N
  exact ⟨s₂, L, X.laload b1 Ar.1 (State.isArrayOf_alike b2.alike Ar.2.1) Ar.2.2 hin hat (g := mkF m pc (LL K.2.2.2 ls) (SS K.2.2.2 (.int j :: .ref i :: st))) rfl (rest := SS K.2.2.2 st) rfl (b3 ▸ hd) _ q1, q⟩
theorem Go.caload {i : Nat} {vs : List Value} {j : Int32} {v : Value} (hd : Dec M pc .caload 1 pc') (hH : H[i]? = some (.inr (.char, vs))) (hj : ¬ j < 0) (hv : vs[j.toNatClampNeg]? = some v) (h : Go K M F Lo pc' ls (v :: st) H r) : Go K M F Lo pc ls (.int j :: .ref i :: st) H r := by
  obtain ⟨hd, rfl⟩ := hd
  intro R cells slots p e s m args below meth c T locs a1 a2 a3 a4 b1 b2 b3 b4 b5 b6 b7 b8 X S N
  obtain ⟨Ex, cl, Ar, hc⟩ := S.2 i _ hH
  obtain ⟨hin, hat⟩ := in_of hc hj hv
  obtain ⟨s₂, L, q1, q⟩ := h R cells slots p e s m args below meth c T locs a1 a2 a3 a4 b1 b2 b3 b4 b5 b6 b7 b8 X S N
  exact ⟨s₂, L, X.caload b1 Ar.1 (State.isArrayOf_alike b2.alike Ar.2.1) Ar.2.2 hin hat (g := mkF m pc (LL K.2.2.2 ls) (SS K.2.2.2 (.int j :: .ref i :: st))) rfl (rest := SS K.2.2.2 st) rfl (b3 ▸ hd) _ q1, q⟩
theorem Go.baload {i : Nat} {vs : List Value} {j : Int32} {v : Value} (hd : Dec M pc .baload 1 pc') (hH : H[i]? = some (.inr (.byte, vs))) (hj : ¬ j < 0) (hv : vs[j.toNatClampNeg]? = some v) (h : Go K M F Lo pc' ls (v :: st) H r) : Go K M F Lo pc ls (.int j :: .ref i :: st) H r := by
  obtain ⟨hd, rfl⟩ := hd
  intro R cells slots p e s m args below meth c T locs a1 a2 a3 a4 b1 b2 b3 b4 b5 b6 b7 b8 X S N
  obtain ⟨Ex, cl, Ar, hc⟩ := S.2 i _ hH
  obtain ⟨hin, hat⟩ := in_of hc hj hv
  obtain ⟨s₂, L, q1, q⟩ := h R cells slots p e s m args below meth c T locs a1 a2 a3 a4 b1 b2 b3 b4 b5 b6 b7 b8 X S N
  exact ⟨s₂, L, X.baloadBytes b1 Ar.1 (State.isArrayOf_alike b2.alike Ar.2.1) Ar.2.2 hin hat (g := mkF m pc (LL K.2.2.2 ls) (SS K.2.2.2 (.int j :: .ref i :: st))) rfl (rest := SS K.2.2.2 st) rfl (b3 ▸ hd) _ q1, q⟩
theorem arr_set {K : Ctx} {h h' : Heap} {a : Addr} {cl : Cell} {t : FieldType} {vs : List Value} {k : Nat} {v : Value} (Ex : Exa K.2.1 h a ("[" ++ t.toString)) (Ar : Arr K.2.1 h a cl t) (hc : cl.slots = (vs.map (sv K.2.2.2)).toArray) (W : Wr h h' a k (sv K.2.2.2 v)) : COk K.2.1 K.2.2.1 K.2.2.2 h' a (.inr (t, vs.set k v)) :=
  ⟨Ex.wr W, _, Ar.same W, by simp [Cell.setSlot, hc, List.map_set]⟩
theorem Go.iastore {i : Nat} {vs : List Value} {j : Int32} {x : Int32} {H1 : Hp} (hd : Dec M pc .iastore 1 pc') (hH : H[i]? = some (.inr (.int, vs))) (hj : ¬ j < 0) (hl : j.toNatClampNeg < vs.length) (hH1 : H.set i (.inr (.int, vs.set j.toNatClampNeg (.int x))) = H1) (h : Go K M F Lo pc' ls st H1 r) : Go K M F Lo pc ls (.int x :: .int j :: .ref i :: st) H r := by
  obtain ⟨hd, rfl⟩ := hd
  intro R cells slots p e s m args below meth c T locs a1 a2 a3 a4 b1 b2 b3 b4 b5 b6 b7 b8 X S N
  subst hH1
  obtain ⟨Ex, cl, Ar, hc⟩ := S.2 i _ hH
  have hin : ¬ (j < 0 ∨ cl.slots.size ≤ j.toNatClampNeg) := by
    rintro (q | q)
    · exact hj q
    · rw [hc] at q; simp at q; omega
  obtain ⟨T', h', X', e', W, stp⟩ := stI X b1 b2 rfl Ar hin (g := mkF m pc (LL K.2.2.2 ls) (SS K.2.2.2 (.int x :: .int j :: .ref i :: st))) rfl (rest := SS K.2.2.2 st) rfl (b3 ▸ hd)
  subst e'
  obtain ⟨s₂, L, q1, q⟩ := h R cells slots p e s m args below meth c T' _ a1 a2 a3 a4 b1 b2 b3 b4 b5 b6 b7 b8 X' (S.set W hH (arr_set (v := .int x) Ex Ar hc W)) (Fr.snoc X' N (Nat.le_add_right _ _))
  exact ⟨s₂, L, stp _ q1, q⟩
theorem Go.lastore {i : Nat} {vs : List Value} {j : Int32} {x : Int64} {H1 : Hp} (hd : Dec M pc .lastore 1 pc') (hH : H[i]? = some (.inr (.long, vs))) (hj : ¬ j < 0) (hl : j.toNatClampNeg < vs.length) (hH1 : H.set i (.inr (.long, vs.set j.toNatClampNeg (.long x))) = H1) (h : Go K M F Lo pc' ls st H1 r) : Go K M F Lo pc ls (.long x :: .int j :: .ref i :: st) H r := by
  obtain ⟨hd, rfl⟩ := hd
  intro R cells slots p e s m args below meth c T locs a1 a2 a3 a4 b1 b2 b3 b4 b5 b6 b7 b8 X S N
  subst hH1
  obtain ⟨Ex, cl, Ar, hc⟩ := S.2 i _ hH
  have hin : ¬ (j < 0 ∨ cl.slots.size ≤ j.toNatClampNeg) := by
    rintro (q | q)
    · exact hj q
    · rw [hc] at q; simp at q; omega
  obtain ⟨T', h', X', e', W, stp⟩ := stJ X b1 b2 rfl Ar hin (g := mkF m pc (LL K.2.2.2 ls) (SS K.2.2.2 (.long x :: .int j :: .ref i :: st))) rfl (rest := SS K.2.2.2 st) rfl (b3 ▸ hd)
  subst e'
  obtain ⟨s₂, L, q1, q⟩ := h R cells slots p e s m args below meth c T' _ a1 a2 a3 a4 b1 b2 b3 b4 b5 b6 b7 b8 X' (S.set W hH (arr_set (v := .long x) Ex Ar hc W)) (Fr.snoc X' N (Nat.le_add_right _ _))
  exact ⟨s₂, L, stp _ q1, q⟩
theorem Go.castore {i : Nat} {vs : List Value} {j : Int32} {x : Int32} {H1 : Hp} (hd : Dec M pc .castore 1 pc') (hH : H[i]? = some (.inr (.char, vs))) (hj : ¬ j < 0) (hl : j.toNatClampNeg < vs.length) (hH1 : H.set i (.inr (.char, vs.set j.toNatClampNeg (.int (nar .char x)))) = H1) (h : Go K M F Lo pc' ls st H1 r) : Go K M F Lo pc ls (.int x :: .int j :: .ref i :: st) H r := by
  obtain ⟨hd, rfl⟩ := hd
  intro R cells slots p e s m args below meth c T locs a1 a2 a3 a4 b1 b2 b3 b4 b5 b6 b7 b8 X S N
  subst hH1
  obtain ⟨Ex, cl, Ar, hc⟩ := S.2 i _ hH
  have hin : ¬ (j < 0 ∨ cl.slots.size ≤ j.toNatClampNeg) := by
    rintro (q | q)
    · exact hj q
    · rw [hc] at q; simp at q; omega
  obtain ⟨T', h', X', e', W, stp⟩ := stC X b1 b2 rfl Ar hin (g := mkF m pc (LL K.2.2.2 ls) (SS K.2.2.2 (.int x :: .int j :: .ref i :: st))) rfl (rest := SS K.2.2.2 st) rfl (b3 ▸ hd)
  subst e'
  obtain ⟨s₂, L, q1, q⟩ := h R cells slots p e s m args below meth c T' _ a1 a2 a3 a4 b1 b2 b3 b4 b5 b6 b7 b8 X' (S.set W hH (arr_set (v := .int (nar .char x)) Ex Ar hc W)) (Fr.snoc X' N (Nat.le_add_right _ _))
  exact ⟨s₂, L, stp _ q1, q⟩
theorem Go.bastore {i : Nat} {vs : List Value} {j : Int32} {x : Int32} {H1 : Hp} (hd : Dec M pc .bastore 1 pc') (hH : H[i]? = some (.inr (.byte, vs))) (hj : ¬ j < 0) (hl : j.toNatClampNeg < vs.length) (hH1 : H.set i (.inr (.byte, vs.set j.toNatClampNeg (.int (nar .byte x)))) = H1) (h : Go K M F Lo pc' ls st H1 r) : Go K M F Lo pc ls (.int x :: .int j :: .ref i :: st) H r := by
  obtain ⟨hd, rfl⟩ := hd
  intro R cells slots p e s m args below meth c T locs a1 a2 a3 a4 b1 b2 b3 b4 b5 b6 b7 b8 X S N
  subst hH1
  obtain ⟨Ex, cl, Ar, hc⟩ := S.2 i _ hH
  have hin : ¬ (j < 0 ∨ cl.slots.size ≤ j.toNatClampNeg) := by
    rintro (q | q)
    · exact hj q
    · rw [hc] at q; simp at q; omega
  obtain ⟨T', h', X', e', W, stp⟩ := stB X b1 b2 rfl Ar hin (g := mkF m pc (LL K.2.2.2 ls) (SS K.2.2.2 (.int x :: .int j :: .ref i :: st))) rfl (rest := SS K.2.2.2 st) rfl (b3 ▸ hd)
  subst e'
  obtain ⟨s₂, L, q1, q⟩ := h R cells slots p e s m args below meth c T' _ a1 a2 a3 a4 b1 b2 b3 b4 b5 b6 b7 b8 X' (S.set W hH (arr_set (v := .int (nar .byte x)) Ex Ar hc W)) (Fr.snoc X' N (Nat.le_add_right _ _))
  exact ⟨s₂, L, stp _ q1, q⟩
/-! ## 9. returns -/
theorem Go.retW {i : Instr} {v : Value} {t : FieldType} {dc ds : Nat} {H' : Option Hp} (hH : HOk H H') (hd : Dec M pc i 1 pc') (ht : M.2.2.2 = some t) (hn : ∀ n0, narrow t (sv n0 v) = sv n0 v)
    (hi : ∀ n0, (i = .ireturn ∧ (t = .int ∨ t = .boolean ∨ t = .byte ∨ t = .char ∨ t = .short) ∧ ∃ z, sv n0 v = .int z) ∨ (i = .lreturn ∧ t = .long ∧ ∃ z, sv n0 v = .long z) ∨ (i = .dreturn ∧ t = .double ∧ ∃ z, sv n0 v = .double z) ∨ (i = .freturn ∧ t = .float ∧ ∃ z, sv n0 v = .float z) ∨ (i = .areturn ∧ t.isReference = true ∧ (sv n0 v).isRef = true)) : Go K M F Lo pc ls (v :: st) H (some v, H', dc, ds) := by
  intro R cells slots p e s m args below meth c T locs a1 a2 a3 a4 b1 b2 b3 b4 b5 b6 b7 b8 X S N
  obtain ⟨fs, hr, hrun, hended, hW, hsame⟩ := X.leave (v := some (sv K.2.2.2 v)) (fun q => by rw [b5, ht] at q; cases q) b6
  exact ⟨_, locs, retOut X b1 (b5.trans ht) (hn _) (hi _) (b3 ▸ hd.1) hr, hrun, hended, hH.fin S, N, ⟨_, rfl⟩, hW, hsame.mono (Nat.le_add_right _ _) (Nat.le_add_right _ _)⟩
theorem Go.ireturn {v : Int32} {dc ds : Nat} {rv : Option Value} {H' : Option Hp} (hd : Dec M pc .ireturn 1 pc') (ht : M.2.2.2 = some .int) (hv : rv = some (.int v)) (hH : HOk H H') : Go K M F Lo pc ls (.int v :: st) H (rv, H', dc, ds) := by
  subst hv
  exact Go.retW hH hd ht (fun _ => rfl) (fun _ => Or.inl ⟨rfl, Or.inl rfl, _, rfl⟩)
theorem Go.ireturnZ {v : Int32} {dc ds : Nat} {rv : Option Value} {H' : Option Hp} (hd : Dec M pc .ireturn 1 pc') (ht : M.2.2.2 = some .boolean) (h01 : v = 0 ∨ v = 1) (hv : rv = some (.int v)) (hH : HOk H H') : Go K M F Lo pc ls (.int v :: st) H (rv, H', dc, ds) := by
  subst hv
  exact Go.retW hH hd ht (fun _ => by rcases h01 with rfl | rfl <;> rfl) (fun _ => Or.inl ⟨rfl, Or.inr (Or.inl rfl), _, rfl⟩)
theorem Go.lreturn {v : Int64} {dc ds : Nat} {rv : Option Value} {H' : Option Hp} (hd : Dec M pc .lreturn 1 pc') (ht : M.2.2.2 = some .long) (hv : rv = some (.long v)) (hH : HOk H H') : Go K M F Lo pc ls (.long v :: st) H (rv, H', dc, ds) := by
  subst hv
  exact Go.retW hH hd ht (fun _ => rfl) (fun _ => Or.inr (Or.inl ⟨rfl, rfl, _, rfl⟩))
theorem Go.areturn {v : Value} {t : FieldType} {dc ds : Nat} {rv : Option Value} {H' : Option Hp} (hd : Dec M pc .areturn 1 pc') (ht : M.2.2.2 = some t) (htr : t.isReference = true) (hr : v.isRef = true) (hv : rv = some v) (hH : HOk H H') : Go K M F Lo pc ls (v :: st) H (rv, H', dc, ds) := by
  subst hv
  refine Go.retW hH hd ht (fun _ => ?_) (fun _ => Or.inr (Or.inr (Or.inr (Or.inr ⟨rfl, htr, by rw [sv_ref]; exact hr⟩))))
  rcases ref_cases hr with rfl | ⟨a, rfl⟩ <;> cases t <;> first | rfl | (simp [FieldType.isReference] at htr)
theorem Go.ret {dc ds : Nat} {rv : Option Value} {H' : Option Hp} (hd : Dec M pc .return_ 1 pc') (ht : M.2.2.2 = none) (hv : rv = none) (hH : HOk H H') : Go K M F Lo pc ls [] H (rv, H', dc, ds) := by
  subst hv
  intro R cells slots p e s m args below meth c T locs a1 a2 a3 a4 b1 b2 b3 b4 b5 b6 b7 b8 X S N
  obtain ⟨fs, hr, hrun, hended, hW, hsame⟩ := X.leave (v := none) (fun _ => rfl) b6
  exact ⟨_, locs, X.returnOut b1 (b5.trans ht) (b3 ▸ hd.1) hr, hrun, hended, hH.fin S, N, ⟨_, rfl⟩, hW, hsame.mono (Nat.le_add_right _ _) (Nat.le_add_right _ _)⟩
/-! ## 10. a whole invocation; calls -/
def ent (as : List Value) (mx : Nat) : List Slot := Jvm.Sym.laidSlots as ++ List.replicate (mx - (Jvm.Sym.laidSlots as).length) .unset
theorem laid_map (n0 : Nat) (as : List Value) : Jvm.Sym.laidSlots (as.map (sv n0)) = (Jvm.Sym.laidSlots as).map (ss n0) := by
  induction as with
  | nil => rfl
  | cons v r ih =>
    simp only [List.map_cons, Jvm.Sym.laidSlots, sv_cat, ih]
    split <;> rfl
theorem ent_map (n0 : Nat) (as : List Value) (mx : Nat) : Jvm.Sym.laidSlots (as.map (sv n0)) ++ List.replicate (mx - (Jvm.Sym.laidSlots (as.map (sv n0))).length) .unset = (LL n0 (ent as mx)).toList := by
  rw [laid_map, List.length_map, LL, ent, List.map_append, List.map_replicate]
  rfl
theorem Go.met {as : List Value} {ws : List Jvm.Cond} {rm : Room} {h : Heap} {rv : Option Value} {H' : Option Hp} (hpn : plainFor M.1 = true) (S : Sim K h H) (hls : ent as M.2.2.1 = ls) (g : Go K M rm.frames rm.locals 0 ls [] H (rv, H', rm.cells, rm.slots)) :
    MetFree K.1 M.1 (head1 (Jvm.Cond.code M.1 M.2.1 M.2.2.1 M.2.2.2 :: ws) rm) (fun a U => a = (SS K.2.2.2 as).toArray ∧ K.2.1.Warmed39 U.vm ∧ U.heap = h) (fun _ _ _ _ _ => True)
      (fun _ U o U' => ∃ v L, o = .returned v ∧ (v = rv.map (sv K.2.2.2) ∧ FinH K U'.heap H' ∧ Fr K.2.2.2 L) ∧ FrameEnd U o U' L rm.cells rm.slots) := by
  refine MetFree.of_bodySF hpn hisR ?_
  intro p e s m args below meth c s₁ Bd hml0 hP hK
  obtain ⟨rfl, hZ, hh⟩ := hP
  subst hls
  have X0 : Stand p K.1 e rm s m (SS K.2.2.2 as).toArray below meth c s₁ [] 0 0 := Stand.of_body Bd
  have e0 : s₁.heap = h := by rw [← hh, Bd.state]; rfl
  obtain ⟨s₂, L, q1, q2, q3, q4, q5, q6⟩ := g rm 0 0 p e s m _ below meth c s₁ [] (Nat.le_refl _) (Nat.le_refl _) (Nat.le_of_eq (Nat.zero_add _)) (Nat.le_of_eq (Nat.zero_add _)) Bd.exec hZ Bd.bytes hml0 Bd.returns Bd.notSynchronized (findClass_of_methodNamed Bd.named) (name_of_methodNamed Bd.named Bd.method).1 X0 (by rw [e0]; exact S) (Fr.nil _)
  refine ⟨s₂, _, (XT.entry (Ls := LL K.2.2.2 (ent as M.2.2.1)) (by simpa using ent_map K.2.2.2 as M.2.2.1)).trans q1, q2, q3, _, L, rfl, ⟨rfl, q4, q5⟩, ?_⟩
  have e1 : (0 : Nat) + rm.cells = rm.cells := Nat.zero_add _
  have e2 : (0 : Nat) + rm.slots = rm.slots := Nat.zero_add _
  simp only [e1, e2] at q6
  exact q6
def MInfo (M : Mt) (na : Nat) : Prop := plainFor M.1 = true ∧ (M.1.cls ≠ "java/lang/invoke/MethodHandle" ∧ M.1.cls ≠ "java/lang/invoke/VarHandle") ∧ (parseMethodDescriptor M.1.desc).map (fun q => q.parameters.length) = some na
instance (M : Mt) (na : Nat) : Decidable (MInfo M na) := inferInstanceAs (Decidable (_ ∧ _ ∧ _))
theorem MInfo.len {M : Mt} {na : Nat} (mi : MInfo M na) {n0 : Nat} {as : List Value} (h : as.length = na) : ∀ sig, parseMethodDescriptor M.1.desc = some sig → (SS n0 as).length = sig.parameters.length := fun sig hs => by
  have q := mi.2.2
  rw [hs] at q
  rw [List.length_map, h]
  exact (Option.some.inj q).symm
theorem Go.back {M' : Mt} {F' Lo' W dc1 ds1 : Nat} {as : List Value} {ls1 : List Slot} {h : Heap} {rv1 : Option Value} {H1 : Hp} {R : Room} {p : Program} {e : Env} {below : List Frame} {s : State} {sargs : Array Value} (g : Go K M' F' Lo' 0 ls1 [] H (rv1, some H1, dc1, ds1)) (hls : ent as M'.2.2.1 = ls1) (hpn : plainFor M'.1 = true) (S : Sim K h H)
    (hZ : K.2.1.Warmed39 s.vm) (wc : (Jvm.Cond.code M'.1 M'.2.1 M'.2.2.1 M'.2.2.2).before K.2.2.1 K.2.1 = true) (wz : (Jvm.Cond.initialized M'.1.cls).before K.2.2.1 K.2.1 = true) (hf : F' + 1 ≤ R.frames) (hl : W + (M'.2.2.1 + 11) + Lo' ≤ R.locals) :
    Back K.1 R p e below s sargs M'.1 3 W (fun A a => a = (SS K.2.2.2 as).toArray ∧ A.U.heap = h ∧ A.cells + dc1 ≤ R.cells ∧ A.slots + ds1 ≤ R.slots)
      (fun A _ v B => ∃ L, (v = rv1.map (sv K.2.2.2) ∧ FinH K B.U.heap (some H1) ∧ Fr K.2.2.2 L) ∧ B.locs = A.locs ++ L ∧ B.cells = A.cells + dc1 ∧ B.slots = A.slots + ds1) :=
  backOf (rm := ({ frames := F', cells := dc1, slots := ds1, locals := Lo' } : Room)) (Q := fun v hp L => v = rv1.map (sv K.2.2.2) ∧ FinH K hp (some H1) ∧ Fr K.2.2.2 L) (Go.met (ws := []) hpn S hls g) hZ wc wz hf hl
theorem SS_app (n0 : Nat) (as st : List Value) : SS n0 (as.reverse ++ st) = (SS n0 as).reverse ++ SS n0 st := by simp [SS]
theorem SS_ret (n0 : Nat) (rv : Option Value) (st : List Value) : (rv.map (sv n0)).toList ++ SS n0 st = SS n0 (rv.toList ++ st) := by cases rv <;> rfl
theorem Go.callS {idx na W F' Lo' dc1 ds1 dct dst : Nat} {M' : Mt} {as : List Value} {ls1 : List Slot} {st0 : List Value} {rv1 rv : Option Value} {H1 : Hp} {H' : Option Hp} (hd : Dec M pc (.invokestatic idx) 3 pc') (w1 : (Jvm.Cond.methodLink M.1.cls idx M'.1).before K.2.2.1 K.2.1 = true) (w2 : (Jvm.Cond.static M'.1).before K.2.2.1 K.2.1 = true) (w3 : (Jvm.Cond.initialized M'.1.cls).before K.2.2.1 K.2.1 = true) (w4 : (Jvm.Cond.code M'.1 M'.2.1 M'.2.2.1 M'.2.2.2).before K.2.2.1 K.2.1 = true)
    (mi : MInfo M' na) (has : as.length = na) (hsz : ls.length = M.2.2.1) (hst : as.reverse ++ st = st0) (hls : ent as M'.2.2.1 = ls1) (hW : (st.map fun v => v.category).sum = W) (hF : F' + 1 ≤ F) (hLo : W + (M'.2.2.1 + 11) + Lo' ≤ Lo) (g : Go K M' F' Lo' 0 ls1 [] H (rv1, some H1, dc1, ds1))
    (dc ds : Nat) (hdc : dc + dc1 ≤ dct) (hds : ds + ds1 ≤ dst) (h : Go K M F Lo pc' ls (rv1.toList ++ st) H1 (rv, H', dc, ds)) : Go K M F Lo pc ls st0 H (rv, H', dct, dst) := by
  obtain ⟨hd, rfl⟩ := hd
  intro R cells slots p e s m args below meth c T locs a1 a2 a3 a4 b1 b2 b3 b4 b5 b6 b7 b8 X S N
  subst hst
  have a3' : cells + dct ≤ R.cells := a3
  have a4' : slots + dst ≤ R.slots := a4
  obtain ⟨v, vm₁, ⟨T', L1, k1, n1⟩, -, X', ⟨Lc, ⟨hv, S', N'⟩, l1, l2, l3⟩, stp⟩ := Jvm.LawKit.callS X b1 (y := M'.1) b7 (mvT b2 w1) (mvT b2 w2) (mvT b2 w3) (mvT b2 w4) mi.2.1 (g.back (W := W) hls mi.1 S b2 w4 w3 (Nat.le_trans hF a1) (Nat.le_trans hLo a2)) (g := mkF m pc (LL K.2.2.2 ls) (SS K.2.2.2 (as.reverse ++ st))) rfl (by rw [b4, ← hsz]; exact LL_size _ _) (argsL := SS K.2.2.2 as) (rest := SS K.2.2.2 st) (mi.len has) (SS_app _ _ _) (by show 2 * 0 + _ ≤ W; rw [cats, hW]; omega) (b3 ▸ hd) (fun _ _ => ⟨rfl, rfl, by show cells + dc1 ≤ _; omega, by show slots + ds1 ≤ _; omega⟩)
  dsimp only [Pt.U, Pt.locs, Pt.cells, Pt.slots] at X' l1 l2 l3 stp S' hv
  subst l1 l2 l3 hv
  obtain ⟨s₂, L, q1, q2, q3, q4, q5, q6⟩ := h R (cells + dc1) (slots + ds1) p e s m args below meth c T' _ a1 a2 (by show cells + dc1 + dc ≤ _; omega) (by show slots + ds1 + ds ≤ _; omega) b1 b2 b3 b4 b5 b6 b7 b8 X' (S' _ rfl) (N.app N')
  refine ⟨s₂, L, stp _ ?_, q2, q3, q4, q5, q6.1, q6.2.1, q6.2.2.mono (by show cells + dc1 + dc ≤ cells + dct; omega) (by show slots + ds1 + ds ≤ slots + dst; omega)⟩
  rw [← SS_ret] at q1
  exact q1
theorem Go.callI {idx na W F' Lo' dc1 ds1 dct dst i : Nat} {M' : Mt} {as : List Value} {ls1 : List Slot} {st0 : List Value} {rv1 rv : Option Value} {H1 : Hp} {H' : Option Hp} (hd : Dec M pc (.invokespecial idx) 3 pc') (hnm : M'.1.name = "<init>") (hrn : M'.2.2.2 = none) (w1 : (Jvm.Cond.methodLink M.1.cls idx M'.1).before K.2.2.1 K.2.1 = true) (w2 : (Jvm.Cond.instanceMethod M'.1).before K.2.2.1 K.2.1 = true) (w3 : (Jvm.Cond.initialized M'.1.cls).before K.2.2.1 K.2.1 = true) (w4 : (Jvm.Cond.code M'.1 M'.2.1 M'.2.2.1 M'.2.2.2).before K.2.2.1 K.2.1 = true)
    (mi : MInfo M' na) (has : as.length = na) (hsz : ls.length = M.2.2.1) (hst : as.reverse ++ .ref i :: st = st0) (hls : ent (.ref i :: as) M'.2.2.1 = ls1) (hW : (st.map fun v => v.category).sum = W) (hF : F' + 1 ≤ F) (hLo : W + (M'.2.2.1 + 11) + Lo' ≤ Lo) (g : Go K M' F' Lo' 0 ls1 [] H (rv1, some H1, dc1, ds1))
    (dc ds : Nat) (hdc : dc + dc1 ≤ dct) (hds : ds + ds1 ≤ dst) (h : Go K M F Lo pc' ls (rv1.toList ++ st) H1 (rv, H', dc, ds)) : Go K M F Lo pc ls st0 H (rv, H', dct, dst) := by
  obtain ⟨hd, rfl⟩ := hd
  intro R cells slots p e s m args below meth c T locs a1 a2 a3 a4 b1 b2 b3 b4 b5 b6 b7 b8 X S N
  subst hst
  have a3' : cells + dct ≤ R.cells := a3
  have a4' : slots + dst ≤ R.slots := a4
  have hstk : SS K.2.2.2 (as.reverse ++ .ref i :: st) = (SS K.2.2.2 as).reverse ++ .ref (K.2.2.2 + i) :: SS K.2.2.2 st := SS_app _ _ _
  obtain ⟨v, vm₁, ⟨T', L1, k1, n1⟩, -, X', ⟨Lc, ⟨hv, S', N'⟩, l1, l2, l3⟩, stp⟩ := X.specialBack b1 (y := M'.1) hnm b7 (mvT b2 w1) (mvT b2 w2) (mvT b2 (hrn ▸ w4)) mi.2.1 (g.back (as := .ref i :: as) (W := W) hls mi.1 S b2 w4 w3 (Nat.le_trans hF a1) (Nat.le_trans hLo a2)) (g := mkF m pc (LL K.2.2.2 ls) (SS K.2.2.2 (as.reverse ++ .ref i :: st))) rfl (by rw [b4, ← hsz]; exact LL_size _ _) (Steps.refl _) (a := K.2.2.2 + i) (argsL := SS K.2.2.2 as) (rest := SS K.2.2.2 st) (mi.len has) hstk (by show 2 * 0 + _ ≤ W; rw [cats, hW]; omega) (b3 ▸ hd) (fun _ _ => ⟨rfl, rfl, by show cells + dc1 ≤ _; omega, by show slots + ds1 ≤ _; omega⟩)
  dsimp only [Pt.U, Pt.locs, Pt.cells, Pt.slots] at X' l1 l2 l3 stp S' hv
  subst l1 l2 l3 hv
  obtain ⟨s₂, L, q1, q2, q3, q4, q5, q6⟩ := h R (cells + dc1) (slots + ds1) p e s m args below meth c T' _ a1 a2 (by show cells + dc1 + dc ≤ _; omega) (by show slots + ds1 + ds ≤ _; omega) b1 b2 b3 b4 b5 b6 b7 b8 X' (S' _ rfl) (N.app N')
  refine ⟨s₂, L, stp.trans ?_, q2, q3, q4, q5, q6.1, q6.2.1, q6.2.2.mono (by show cells + dc1 + dc ≤ cells + dct; omega) (by show slots + ds1 + ds ≤ slots + dst; omega)⟩
  rw [← SS_ret] at q1
  exact q1
theorem Go.callV {idx na W F' Lo' dc1 ds1 dct dst i : Nat} {M' : Mt} {as : List Value} {ls1 : List Slot} {st0 : List Value} {rv1 rv : Option Value} {H1 : Hp} {H' : Option Hp} {fs : List (String × String × Value)} (hd : Dec M pc (.invokevirtual idx) 3 pc') (hH : H[i]? = some (.inl (M'.1.cls, fs))) (w1 : (Jvm.Cond.methodLink M.1.cls idx M'.1).before K.2.2.1 K.2.1 = true) (w2 : (Jvm.Cond.instanceMethod M'.1).before K.2.2.1 K.2.1 = true) (w3 : (Jvm.Cond.initialized M'.1.cls).before K.2.2.1 K.2.1 = true) (w5 : (Jvm.Cond.declares M'.1).before K.2.2.1 K.2.1 = true) (w6 : (Jvm.Cond.selects M'.1.cls M'.1 M'.1).before K.2.2.1 K.2.1 = true) (w4 : (Jvm.Cond.code M'.1 M'.2.1 M'.2.2.1 M'.2.2.2).before K.2.2.1 K.2.1 = true)
    (mi : MInfo M' na) (has : as.length = na) (hsz : ls.length = M.2.2.1) (hst : as.reverse ++ .ref i :: st = st0) (hls : ent (.ref i :: as) M'.2.2.1 = ls1) (hW : (st.map fun v => v.category).sum = W) (hF : F' + 1 ≤ F) (hLo : W + (M'.2.2.1 + 11) + Lo' ≤ Lo) (g : Go K M' F' Lo' 0 ls1 [] H (rv1, some H1, dc1, ds1))
    (dc ds : Nat) (hdc : dc + dc1 ≤ dct) (hds : ds + ds1 ≤ dst) (h : Go K M F Lo pc' ls (rv1.toList ++ st) H1 (rv, H', dc, ds)) : Go K M F Lo pc ls st0 H (rv, H', dct, dst) := by
  obtain ⟨hd, rfl⟩ := hd
  intro R cells slots p e s m args below meth c T locs a1 a2 a3 a4 b1 b2 b3 b4 b5 b6 b7 b8 X S N
  subst hst
  have a3' : cells + dct ≤ R.cells := a3
  have a4' : slots + dst ≤ R.slots := a4
  have hstk : SS K.2.2.2 (as.reverse ++ .ref i :: st) = (SS K.2.2.2 as).reverse ++ .ref (K.2.2.2 + i) :: SS K.2.2.2 st := SS_app _ _ _
  obtain ⟨cq, kq, qa, qb, qc⟩ := isOf b2 rfl (S.2 i _ hH).1
  obtain ⟨v, vm₁, ⟨T', L1, k1, n1⟩, -, X', ⟨Lc, ⟨hv, S', N'⟩, l1, l2, l3⟩, stp⟩ := X.virtualBack b1 (y := M'.1) (z := M'.1) b7 (mvT b2 w1) (mvT b2 w5) (notFace_of_selects (args := #[]) (mvT b2 w6)) (mvT b2 w6) (mvT b2 w2) mi.2.1 (g.back (as := .ref i :: as) (W := W) hls mi.1 S b2 w4 w3 (Nat.le_trans hF a1) (Nat.le_trans hLo a2)) qa qc (g := mkF m pc (LL K.2.2.2 ls) (SS K.2.2.2 (as.reverse ++ .ref i :: st))) rfl (by rw [b4, ← hsz]; exact LL_size _ _) (Steps.refl _) (argsL := SS K.2.2.2 as) (rest := SS K.2.2.2 st) (mi.len has) hstk (by show 2 * 0 + _ ≤ W; rw [cats, hW]; omega) (b3 ▸ hd) (fun _ _ => ⟨rfl, rfl, by show cells + dc1 ≤ _; omega, by show slots + ds1 ≤ _; omega⟩)
  dsimp only [Pt.U, Pt.locs, Pt.cells, Pt.slots] at X' l1 l2 l3 stp S' hv
  subst l1 l2 l3 hv
  obtain ⟨s₂, L, q1, q2, q3, q4, q5, q6⟩ := h R (cells + dc1) (slots + ds1) p e s m args below meth c T' _ a1 a2 (by show cells + dc1 + dc ≤ _; omega) (by show slots + ds1 + ds ≤ _; omega) b1 b2 b3 b4 b5 b6 b7 b8 X' (S' _ rfl) (N.app N')
  refine ⟨s₂, L, stp.trans ?_, q2, q3, q4, q5, q6.1, q6.2.1, q6.2.2.mono (by show cells + dc1 + dc ≤ cells + dct; omega) (by show slots + ds1 + ds ≤ slots + dst; omega)⟩
  rw [← SS_ret] at q1
  exact q1
theorem Go.callP {idx na W F' Lo' dc1 ds1 dct dst i : Nat} {M' : Mt} {as : List Value} {ls1 : List Slot} {st0 : List Value} {rv1 rv : Option Value} {H1 : Hp} {H' : Option Hp} {kk : Nat} {fs : List (String × String × Value)} (hd : Dec M pc (.invokevirtual idx) 3 pc') (hH : H[i]? = some (.inl (M'.1.cls, fs))) (w1 : (Jvm.Cond.methodLink M.1.cls idx M'.1).before K.2.2.1 K.2.1 = true) (w2 : (Jvm.Cond.instanceMethod M'.1).before K.2.2.1 K.2.1 = true) (w3 : (Jvm.Cond.initialized M'.1.cls).before K.2.2.1 K.2.1 = true) (w5 : (Jvm.Cond.privateMethod M'.1).before K.2.2.1 K.2.1 = true) (w6 : (Jvm.Cond.instantiable M'.1.cls kk).before K.2.2.1 K.2.1 = true) (w4 : (Jvm.Cond.code M'.1 M'.2.1 M'.2.2.1 M'.2.2.2).before K.2.2.1 K.2.1 = true)
    (mi : MInfo M' na) (has : as.length = na) (hsz : ls.length = M.2.2.1) (hst : as.reverse ++ .ref i :: st = st0) (hls : ent (.ref i :: as) M'.2.2.1 = ls1) (hW : (st.map fun v => v.category).sum = W) (hF : F' + 1 ≤ F) (hLo : W + (M'.2.2.1 + 11) + Lo' ≤ Lo) (g : Go K M' F' Lo' 0 ls1 [] H (rv1, some H1, dc1, ds1))
    (dc ds : Nat) (hdc : dc + dc1 ≤ dct) (hds : ds + ds1 ≤ dst) (h : Go K M F Lo pc' ls (rv1.toList ++ st) H1 (rv, H', dc, ds)) : Go K M F Lo pc ls st0 H (rv, H', dct, dst) := by
  obtain ⟨hd, rfl⟩ := hd
  intro R cells slots p e s m args below meth c T locs a1 a2 a3 a4 b1 b2 b3 b4 b5 b6 b7 b8 X S N
  subst hst
  have a3' : cells + dct ≤ R.cells := a3
  have a4' : slots + dst ≤ R.slots := a4
  have hstk : SS K.2.2.2 (as.reverse ++ .ref i :: st) = (SS K.2.2.2 as).reverse ++ .ref (K.2.2.2 + i) :: SS K.2.2.2 st := SS_app _ _ _
  obtain ⟨cq, qa, qb⟩ := (S.2 i _ hH).1.cell
  have hpr : s.PrivateAt M'.1 := Cond.privateMethod_at (mvP b2 w5 (args := #[]))
  have hsel : (Jvm.Cond.selects M'.1.cls M'.1 M'.1).before args s = true := by
    obtain ⟨c9, k9, z1, z2, z3, z4, -⟩ := Cond.instantiable_spec (mvT (args := args) b2 w6)
    refine selects_self_of_private z1 z2 ?_ hpr (mvT b2 w2) mi.2.1
    simp only [Bool.or_eq_false_iff] at z4
    exact z4.1
  obtain ⟨v, vm₁, ⟨T', L1, k1, n1⟩, -, X', ⟨Lc, ⟨hv, S', N'⟩, l1, l2, l3⟩, stp⟩ := X.privateBack b1 (y := M'.1) b7 (mvT b2 w1) (mvT b2 w2) hsel hpr (mvT b2 w4) mi.2.1 (g.back (as := .ref i :: as) (W := W) hls mi.1 S b2 w4 w3 (Nat.le_trans hF a1) (Nat.le_trans hLo a2)) (g := mkF m pc (LL K.2.2.2 ls) (SS K.2.2.2 (as.reverse ++ .ref i :: st))) rfl (by rw [b4, ← hsz]; exact LL_size _ _) (Steps.refl _) (a := K.2.2.2 + i) qa qb (argsL := SS K.2.2.2 as) (rest := SS K.2.2.2 st) (mi.len has) hstk (by show 2 * 0 + _ ≤ W; rw [cats, hW]; omega) (b3 ▸ hd) (fun _ _ => ⟨rfl, rfl, by show cells + dc1 ≤ _; omega, by show slots + ds1 ≤ _; omega⟩)
  dsimp only [Pt.U, Pt.locs, Pt.cells, Pt.slots] at X' l1 l2 l3 stp S' hv
  subst l1 l2 l3 hv
  obtain ⟨s₂, L, q1, q2, q3, q4, q5, q6⟩ := h R (cells + dc1) (slots + ds1) p e s m args below meth c T' _ a1 a2 (by show cells + dc1 + dc ≤ _; omega) (by show slots + ds1 + ds ≤ _; omega) b1 b2 b3 b4 b5 b6 b7 b8 X' (S' _ rfl) (N.app N')
  refine ⟨s₂, L, stp.trans ?_, q2, q3, q4, q5, q6.1, q6.2.1, q6.2.2.mono (by show cells + dc1 + dc ≤ cells + dct; omega) (by show slots + ds1 + ds ≤ slots + dst; omega)⟩
  rw [← SS_ret] at q1
  exact q1
theorem Go.initObj {idx i W : Nat} (hd : Dec M pc (.invokespecial idx) 3 pc') (w1 : (Jvm.Cond.methodLink M.1.cls idx Lib.objectInit).before K.2.2.1 K.2.1 = true) (w2 : (Jvm.Cond.instanceMethod Lib.objectInit).before K.2.2.1 K.2.1 = true) (w3 : (Jvm.Cond.code Lib.objectInit ⟨#[0xb1]⟩ 1 none).before K.2.2.1 K.2.1 = true)
    (hsz : ls.length = M.2.2.1) (hW : (st.map fun v => v.category).sum = W) (hF : 1 ≤ F) (hLo : W + 12 ≤ Lo) (h : Go K M F Lo pc' ls st H r) : Go K M F Lo pc ls (.ref i :: st) H r := by
  obtain ⟨hd, rfl⟩ := hd
  intro R cells slots p e s m args below meth c T locs a1 a2 a3 a4 b1 b2 b3 b4 b5 b6 b7 b8 X S N
  obtain ⟨T', X', e', stp⟩ := initO X b1 b2 b7 w1 w2 w3 rfl (g := mkF m pc (LL K.2.2.2 ls) (SS K.2.2.2 (.ref i :: st))) rfl (by rw [b4, ← hsz]; exact LL_size _ _) (rest := SS K.2.2.2 st) rfl (b3 ▸ hd) (Nat.le_trans hF a1) (W := W) (by show 2 * 0 + _ ≤ W; rw [cats, hW]; omega) (Nat.le_trans hLo a2)
  obtain ⟨s₂, L, q1, q⟩ := h R cells slots p e s m args below meth c T' locs a1 a2 a3 a4 b1 b2 b3 b4 b5 b6 b7 b8 X' (e' ▸ S) N
  exact ⟨s₂, L, stp _ q1, q⟩
theorem Go.cloneArr {idx i j W : Nat} {t : FieldType} {vs : List Value} {ad : String} (cap : Nat) {rv : Option Value} {H' : Option Hp} {dct dst : Nat} (hd : Dec M pc (.invokevirtual idx) 3 pc') (w1 : (Jvm.Cond.methodLink M.1.cls idx ⟨ad, "clone", "()Ljava/lang/Object;"⟩).before K.2.2.1 K.2.1 = true) (w2 : (Jvm.Cond.sameMethod ad "java/lang/Object" "clone" "()Ljava/lang/Object;").before K.2.2.1 K.2.1 = true) (w3 : (Jvm.Cond.native ⟨"java/lang/Object", "clone", "()Ljava/lang/Object;"⟩).before K.2.2.1 K.2.1 = true)
    (w4 : (Jvm.Cond.instanceMethod ⟨"java/lang/Object", "clone", "()Ljava/lang/Object;"⟩).before K.2.2.1 K.2.1 = true) (w5 : (Jvm.Cond.selects ad ⟨ad, "clone", "()Ljava/lang/Object;"⟩ ⟨"java/lang/Object", "clone", "()Ljava/lang/Object;"⟩).before K.2.2.1 K.2.1 = true) (w6 : (Jvm.Cond.castable ad "java/lang/Cloneable").before K.2.2.1 K.2.1 = true)
    (had : "[" ++ t.toString = ad) (hH : H[i]? = some (.inr (t, vs))) (hfit : ∀ v ∈ vs, ∀ n0, fits t (sv n0 v) = true) (hcap : vs.length ≤ cap) (hj : H.length = j) (hsz : ls.length = M.2.2.1) (hW : (st.map fun v => v.category).sum = W) (hF : 1 ≤ F) (hLo : W + 14 ≤ Lo)
    (dc ds : Nat) (hdc : dc + 1 ≤ dct) (hds : ds + cap ≤ dst) (h : Go K M F Lo pc' ls (.ref j :: st) (H ++ [.inr (t, vs)]) (rv, H', dc, ds)) : Go K M F Lo pc ls (.ref i :: st) H (rv, H', dct, dst) := by
  obtain ⟨hd, rfl⟩ := hd
  intro R cells slots p e s m args below meth c T locs a1 a2 a3 a4 b1 b2 b3 b4 b5 b6 b7 b8 X S N
  subst hj had
  have a3' : cells + dct ≤ R.cells := a3
  have a4' : slots + dst ≤ R.slots := a4
  obtain ⟨Ex, cl, Ar, hcl⟩ := S.2 i _ hH
  have hlen : cl.slots.size = vs.length := by rw [hcl]; simp
  have Fc : FitC K.2.1 cl := fitC_of Ar fun k hk v hv => by
    rw [hcl] at hv
    simp only [List.getElem?_toArray, List.getElem?_map] at hv
    cases hq : vs[k]? with
    | none => rw [hq] at hv; cases hv
    | some w => rw [hq] at hv; cases hv; exact hfit w (List.mem_of_getElem? hq) _
  obtain ⟨c2, k, e1, e2, e3, e4, e5⟩ := Ex
  cases Ar.1.symm.trans e1
  obtain ⟨c1, cC, g1, g2, g3⟩ := Cond.castable_spec w6
  cases e2.symm.trans g1
  have hal : K.2.1.vm.Alike T.vm := b2.alike.trans X.warmed.alike
  obtain ⟨vm', X', stp⟩ := X.cloneArray b1 b7 (mv b2 w1) (mv b2 w2) (mv b2 w3) (mv b2 w4) (mv b2 w5) (a := K.2.2.2 + i) Ar.1 Ar.2.1.1 Ar.2.2 (by rw [b2.alike.findClass]; exact e2) (by rw [b2.alike.findClass]; exact g2) (by rw [b2.alike.assignable]; exact g3)
    (fun i v hv => by have q := Fc i v hv; rw [← State.fitsSlot_setVm hal] at q; exact q) (g := mkF m pc (LL K.2.2.2 ls) (SS K.2.2.2 (.ref i :: st))) rfl (by rw [b4, ← hsz]; exact LL_size _ _) (rest := SS K.2.2.2 st) rfl (b3 ▸ hd) (Nat.le_trans hF a1) (by show 2 * 0 + _ + 14 ≤ _; rw [cats, hW]; omega) (by omega) (by omega)
    (by obtain ⟨-, k2, hk2, comp, hkind⟩ := Ar.2.1; rw [b2.alike.clonesLoader]; exact Vm.clonesLoader_of_array hk2 hkind)
  have hN : (T.heap.push (cloneOf cl))[T.heap.size]? = some (cloneOf cl) := by simp
  have S' : Sim K (T.heap.push (cloneOf cl)) (H ++ [.inr (t, vs)]) := by
    refine S.push (ext_of fun a q => Array.getElem?_push_lt q |>.trans (Array.getElem?_eq_getElem q).symm) (by simp) ?_
    rw [← S.1]
    exact ⟨⟨_, k, hN, e2, e3, rfl, e5⟩, _, ⟨hN, ⟨fun _ z => (by cases z), Ar.2.1.2⟩, fun z => (by cases z)⟩, hcl⟩
  obtain ⟨s₂, L, q1, q2, q3, q4, q5, q6⟩ := h R (cells + 1) (slots + cap) p e s m args below meth c _ locs a1 a2 (by show cells + 1 + dc ≤ _; omega) (by show slots + cap + ds ≤ _; omega) b1 b2 b3 b4 b5 b6 b7 b8 (X'.more (Nat.le_refl _) (by omega)) S' N
  refine ⟨s₂, L, stp _ ?_, q2, q3, q4, q5, q6.1, q6.2.1, q6.2.2.mono (by show cells + 1 + dc ≤ cells + dct; omega) (by show slots + cap + ds ≤ slots + dst; omega)⟩
  have e : SS K.2.2.2 (.ref H.length :: st) = .ref T.heap.size :: SS K.2.2.2 st := by rw [S.1]; rfl
  rw [e] at q1
  exact q1
theorem Go.checkcastArr {idx i : Nat} {t : FieldType} {vs : List Value} {C : String} (hd : Dec M pc (.checkcast idx) 3 pc') (w : (Jvm.Cond.classLink M.1.cls idx C).before K.2.2.1 K.2.1 = true) (hC : "[" ++ t.toString = C) (hH : H[i]? = some (.inr (t, vs))) (h : Go K M F Lo pc' ls (.ref i :: st) H r) : Go K M F Lo pc ls (.ref i :: st) H r := by
  obtain ⟨hd, rfl⟩ := hd
  intro R cells slots p e s m args below meth c T locs a1 a2 a3 a4 b1 b2 b3 b4 b5 b6 b7 b8 X S N
  subst hC
  obtain ⟨T', X', e', stp⟩ := castY X b1 b2 b7 w rfl (Ins.self (S.2 i _ hH).1) (g := mkF m pc (LL K.2.2.2 ls) (SS K.2.2.2 (.ref i :: st))) rfl (rest := SS K.2.2.2 st) rfl (b3 ▸ hd)
  obtain ⟨s₂, L, q1, q⟩ := h R cells slots p e s m args below meth c T' locs a1 a2 a3 a4 b1 b2 b3 b4 b5 b6 b7 b8 X' (e' ▸ S) N
  exact ⟨s₂, L, stp _ q1, q⟩
end G
end Jvm.OwnGo
namespace Jvm.Pilot.@@N@@
open Jvm Jvm.ClassFile Sem Op Lib Jvm.Free Jvm.Stand Jvm.LawKit Jvm.RoadKit Bundle Jvm.Pilot.@@N@@.Jvm.D Jvm.OwnGo
abbrev m0 : Mt := (x, code, maxLocals, ret)
theorem mi0 : MInfo m0 6 := by decide +kernel
theorem d0_0 : Dec m0 0 (.lload_n 0) 1 1 := by decide +kernel
theorem d0_1 : Dec m0 1 (.lstore 10) 2 3 := by decide +kernel
theorem d0_3 : Dec m0 3 (.iload 8) 2 5 := by decide +kernel
theorem d0_5 : Dec m0 5 (.iconst 1) 1 6 := by decide +kernel
theorem d0_6 : Dec m0 6 (.iand) 1 7 := by decide +kernel
theorem d0_7 : Dec m0 7 (.ifCond .eq 7) 3 10 := by decide +kernel
theorem j0_7 : Jmp 7 (7) 14 := by decide
theorem d0_10 : Dec m0 10 (.lload_n 0) 1 11 := by decide +kernel
theorem d0_11 : Dec m0 11 (.goto 4) 3 14 := by decide +kernel
theorem j0_11 : Jmp 11 (4) 15 := by decide
theorem d0_14 : Dec m0 14 (.lload_n 2) 1 15 := by decide +kernel
theorem d0_15 : Dec m0 15 (.lstore 12) 2 17 := by decide +kernel
theorem d0_17 : Dec m0 17 (.iload 8) 2 19 := by decide +kernel
theorem d0_19 : Dec m0 19 (.iconst 2) 1 20 := by decide +kernel
theorem d0_20 : Dec m0 20 (.iand) 1 21 := by decide +kernel
theorem d0_21 : Dec m0 21 (.ifCond .eq 7) 3 24 := by decide +kernel
theorem j0_21 : Jmp 21 (7) 28 := by decide
theorem d0_24 : Dec m0 24 (.lload_n 2) 1 25 := by decide +kernel
theorem d0_25 : Dec m0 25 (.goto 5) 3 28 := by decide +kernel
theorem j0_25 : Jmp 25 (5) 30 := by decide
theorem d0_28 : Dec m0 28 (.lload 4) 2 30 := by decide +kernel
theorem d0_30 : Dec m0 30 (.lstore 14) 2 32 := by decide +kernel
theorem d0_32 : Dec m0 32 (.iload 8) 2 34 := by decide +kernel
theorem d0_34 : Dec m0 34 (.iconst 4) 1 35 := by decide +kernel
theorem d0_35 : Dec m0 35 (.iand) 1 36 := by decide +kernel
theorem d0_36 : Dec m0 36 (.ifCond .eq 8) 3 39 := by decide +kernel
theorem j0_36 : Jmp 36 (8) 44 := by decide
theorem d0_39 : Dec m0 39 (.lload 4) 2 41 := by decide +kernel
theorem d0_41 : Dec m0 41 (.goto 5) 3 44 := by decide +kernel
theorem j0_41 : Jmp 41 (5) 46 := by decide
theorem d0_44 : Dec m0 44 (.lload 6) 2 46 := by decide +kernel
theorem d0_46 : Dec m0 46 (.lstore 16) 2 48 := by decide +kernel
theorem d0_48 : Dec m0 48 (.iload 8) 2 50 := by decide +kernel
theorem d0_50 : Dec m0 50 (.iconst 3) 1 51 := by decide +kernel
theorem d0_51 : Dec m0 51 (.iushr) 1 52 := by decide +kernel
theorem d0_52 : Dec m0 52 (.bipush 7) 2 54 := by decide +kernel
theorem d0_54 : Dec m0 54 (.iand) 1 55 := by decide +kernel
theorem d0_55 : Dec m0 55 (.istore 18) 2 57 := by decide +kernel
theorem d0_57 : Dec m0 57 (.iload 18) 2 59 := by decide +kernel
theorem d0_59 : Dec m0 59 (.iconst 4) 1 60 := by decide +kernel
theorem d0_60 : Dec m0 60 (.if_icmp .le 6) 3 63 := by decide +kernel
theorem j0_60 : Jmp 60 (6) 66 := by decide
theorem d0_63 : Dec m0 63 (.iconst 4) 1 64 := by decide +kernel
theorem d0_64 : Dec m0 64 (.istore 18) 2 66 := by decide +kernel
theorem d0_66 : Dec m0 66 (.iload 9) 2 68 := by decide +kernel
theorem d0_68 : Dec m0 68 (.ldc 7) 2 70 := by decide +kernel
theorem d0_70 : Dec m0 70 (.iand) 1 71 := by decide +kernel
theorem d0_71 : Dec m0 71 (.istore 19) 2 73 := by decide +kernel
theorem d0_73 : Dec m0 73 (.new 8) 3 76 := by decide +kernel
theorem d0_76 : Dec m0 76 (.dup) 1 77 := by decide +kernel
theorem d0_77 : Dec m0 77 (.invokespecial 10) 3 80 := by decide +kernel
theorem d0_80 : Dec m0 80 (.astore 20) 2 82 := by decide +kernel
theorem d0_82 : Dec m0 82 (.iload 18) 2 84 := by decide +kernel
theorem d0_84 : Dec m0 84 (.ifCond .le 12) 3 87 := by decide +kernel
theorem j0_84 : Jmp 84 (12) 96 := by decide
theorem d0_87 : Dec m0 87 (.aload 20) 2 89 := by decide +kernel
theorem d0_89 : Dec m0 89 (.lload 10) 2 91 := by decide +kernel
theorem d0_91 : Dec m0 91 (.iload 19) 2 93 := by decide +kernel
theorem d0_93 : Dec m0 93 (.invokevirtual 11) 3 96 := by decide +kernel
theorem d0_96 : Dec m0 96 (.iload 18) 2 98 := by decide +kernel
theorem d0_98 : Dec m0 98 (.iconst 1) 1 99 := by decide +kernel
theorem d0_99 : Dec m0 99 (.if_icmp .le 14) 3 102 := by decide +kernel
theorem j0_99 : Jmp 99 (14) 113 := by decide
theorem d0_102 : Dec m0 102 (.aload 20) 2 104 := by decide +kernel
theorem d0_104 : Dec m0 104 (.lload 12) 2 106 := by decide +kernel
theorem d0_106 : Dec m0 106 (.iload 19) 2 108 := by decide +kernel
theorem d0_108 : Dec m0 108 (.iconst 1) 1 109 := by decide +kernel
theorem d0_109 : Dec m0 109 (.ixor) 1 110 := by decide +kernel
theorem d0_110 : Dec m0 110 (.invokevirtual 11) 3 113 := by decide +kernel
theorem d0_113 : Dec m0 113 (.iload 18) 2 115 := by decide +kernel
theorem d0_115 : Dec m0 115 (.iconst 2) 1 116 := by decide +kernel
theorem d0_116 : Dec m0 116 (.if_icmp .le 14) 3 119 := by decide +kernel
theorem j0_116 : Jmp 116 (14) 130 := by decide
theorem d0_119 : Dec m0 119 (.aload 20) 2 121 := by decide +kernel
theorem d0_121 : Dec m0 121 (.lload 14) 2 123 := by decide +kernel
theorem d0_123 : Dec m0 123 (.iload 19) 2 125 := by decide +kernel
theorem d0_125 : Dec m0 125 (.iconst 1) 1 126 := by decide +kernel
theorem d0_126 : Dec m0 126 (.iushr) 1 127 := by decide +kernel
theorem d0_127 : Dec m0 127 (.invokevirtual 11) 3 130 := by decide +kernel
theorem d0_130 : Dec m0 130 (.iload 18) 2 132 := by decide +kernel
theorem d0_132 : Dec m0 132 (.iconst 3) 1 133 := by decide +kernel
theorem d0_133 : Dec m0 133 (.if_icmp .le 11) 3 136 := by decide +kernel
theorem j0_133 : Jmp 133 (11) 144 := by decide
theorem d0_136 : Dec m0 136 (.aload 20) 2 138 := by decide +kernel
theorem d0_138 : Dec m0 138 (.lload 16) 2 140 := by decide +kernel
theorem d0_140 : Dec m0 140 (.iconst 0) 1 141 := by decide +kernel
theorem d0_141 : Dec m0 141 (.invokevirtual 11) 3 144 := by decide +kernel
theorem d0_144 : Dec m0 144 (.aload 20) 2 146 := by decide +kernel
theorem d0_146 : Dec m0 146 (.invokevirtual 15) 3 149 := by decide +kernel
theorem d0_149 : Dec m0 149 (.astore 21) 2 151 := by decide +kernel
theorem d0_151 : Dec m0 151 (.iconst 0) 1 152 := by decide +kernel
theorem d0_152 : Dec m0 152 (.istore 22) 2 154 := by decide +kernel
theorem d0_154 : Dec m0 154 (.iload 18) 2 156 := by decide +kernel
theorem d0_156 : Dec m0 156 (.ifCond .le 6) 3 159 := by decide +kernel
theorem j0_156 : Jmp 156 (6) 162 := by decide
theorem d0_159 : Dec m0 159 (.iinc 22 1) 3 162 := by decide +kernel
theorem d0_162 : Dec m0 162 (.iload 18) 2 164 := by decide +kernel
theorem d0_164 : Dec m0 164 (.iconst 1) 1 165 := by decide +kernel
theorem d0_165 : Dec m0 165 (.if_icmp .le 14) 3 168 := by decide +kernel
theorem j0_165 : Jmp 165 (14) 179 := by decide
theorem d0_168 : Dec m0 168 (.lload 12) 2 170 := by decide +kernel
theorem d0_170 : Dec m0 170 (.lload 10) 2 172 := by decide +kernel
theorem d0_172 : Dec m0 172 (.lcmp) 1 173 := by decide +kernel
theorem d0_173 : Dec m0 173 (.ifCond .eq 6) 3 176 := by decide +kernel
theorem j0_173 : Jmp 173 (6) 179 := by decide
theorem d0_176 : Dec m0 176 (.iinc 22 1) 3 179 := by decide +kernel
theorem d0_179 : Dec m0 179 (.iload 18) 2 181 := by decide +kernel
theorem d0_181 : Dec m0 181 (.iconst 2) 1 182 := by decide +kernel
theorem d0_182 : Dec m0 182 (.if_icmp .le 22) 3 185 := by decide +kernel
theorem j0_182 : Jmp 182 (22) 204 := by decide
theorem d0_185 : Dec m0 185 (.lload 14) 2 187 := by decide +kernel
theorem d0_187 : Dec m0 187 (.lload 10) 2 189 := by decide +kernel
theorem d0_189 : Dec m0 189 (.lcmp) 1 190 := by decide +kernel
theorem d0_190 : Dec m0 190 (.ifCond .eq 14) 3 193 := by decide +kernel
theorem j0_190 : Jmp 190 (14) 204 := by decide
theorem d0_193 : Dec m0 193 (.lload 14) 2 195 := by decide +kernel
theorem d0_195 : Dec m0 195 (.lload 12) 2 197 := by decide +kernel
theorem d0_197 : Dec m0 197 (.lcmp) 1 198 := by decide +kernel
theorem d0_198 : Dec m0 198 (.ifCond .eq 6) 3 201 := by decide +kernel
theorem j0_198 : Jmp 198 (6) 204 := by decide
theorem d0_201 : Dec m0 201 (.iinc 22 1) 3 204 := by decide +kernel
theorem d0_204 : Dec m0 204 (.iload 18) 2 206 := by decide +kernel
theorem d0_206 : Dec m0 206 (.iconst 3) 1 207 := by decide +kernel
theorem d0_207 : Dec m0 207 (.if_icmp .le 30) 3 210 := by decide +kernel
theorem j0_207 : Jmp 207 (30) 237 := by decide
theorem d0_210 : Dec m0 210 (.lload 16) 2 212 := by decide +kernel
theorem d0_212 : Dec m0 212 (.lload 10) 2 214 := by decide +kernel
theorem d0_214 : Dec m0 214 (.lcmp) 1 215 := by decide +kernel
theorem d0_215 : Dec m0 215 (.ifCond .eq 22) 3 218 := by decide +kernel
theorem j0_215 : Jmp 215 (22) 237 := by decide
theorem d0_218 : Dec m0 218 (.lload 16) 2 220 := by decide +kernel
theorem d0_220 : Dec m0 220 (.lload 12) 2 222 := by decide +kernel
theorem d0_222 : Dec m0 222 (.lcmp) 1 223 := by decide +kernel
theorem d0_223 : Dec m0 223 (.ifCond .eq 14) 3 226 := by decide +kernel
theorem j0_223 : Jmp 223 (14) 237 := by decide
theorem d0_226 : Dec m0 226 (.lload 16) 2 228 := by decide +kernel
theorem d0_228 : Dec m0 228 (.lload 14) 2 230 := by decide +kernel
theorem d0_230 : Dec m0 230 (.lcmp) 1 231 := by decide +kernel
theorem d0_231 : Dec m0 231 (.ifCond .eq 6) 3 234 := by decide +kernel
theorem j0_231 : Jmp 231 (6) 237 := by decide
theorem d0_234 : Dec m0 234 (.iinc 22 1) 3 237 := by decide +kernel
theorem d0_237 : Dec m0 237 (.aload 21) 2 239 := by decide +kernel
theorem d0_239 : Dec m0 239 (.arraylength) 1 240 := by decide +kernel
theorem d0_240 : Dec m0 240 (.iload 22) 2 242 := by decide +kernel
theorem d0_242 : Dec m0 242 (.if_icmp .eq 5) 3 245 := by decide +kernel
theorem j0_242 : Jmp 242 (5) 247 := by decide
theorem d0_245 : Dec m0 245 (.iconst 0) 1 246 := by decide +kernel
theorem d0_246 : Dec m0 246 (.ireturn) 1 247 := by decide +kernel
theorem d0_247 : Dec m0 247 (.iload 18) 2 249 := by decide +kernel
theorem d0_249 : Dec m0 249 (.ifCond .le 15) 3 252 := by decide +kernel
theorem j0_249 : Jmp 249 (15) 264 := by decide
theorem d0_252 : Dec m0 252 (.aload 21) 2 254 := by decide +kernel
theorem d0_254 : Dec m0 254 (.lload 10) 2 256 := by decide +kernel
theorem d0_256 : Dec m0 256 (.invokestatic 19) 3 259 := by decide +kernel
theorem d0_259 : Dec m0 259 (.ifCond .ne 5) 3 262 := by decide +kernel
theorem j0_259 : Jmp 259 (5) 264 := by decide
theorem d0_262 : Dec m0 262 (.iconst 0) 1 263 := by decide +kernel
theorem d0_263 : Dec m0 263 (.ireturn) 1 264 := by decide +kernel
theorem d0_264 : Dec m0 264 (.iload 18) 2 266 := by decide +kernel
theorem d0_266 : Dec m0 266 (.iconst 1) 1 267 := by decide +kernel
theorem d0_267 : Dec m0 267 (.if_icmp .le 15) 3 270 := by decide +kernel
theorem j0_267 : Jmp 267 (15) 282 := by decide
theorem d0_270 : Dec m0 270 (.aload 21) 2 272 := by decide +kernel
theorem d0_272 : Dec m0 272 (.lload 12) 2 274 := by decide +kernel
theorem d0_274 : Dec m0 274 (.invokestatic 19) 3 277 := by decide +kernel
theorem d0_277 : Dec m0 277 (.ifCond .ne 5) 3 280 := by decide +kernel
theorem j0_277 : Jmp 277 (5) 282 := by decide
theorem d0_280 : Dec m0 280 (.iconst 0) 1 281 := by decide +kernel
theorem d0_281 : Dec m0 281 (.ireturn) 1 282 := by decide +kernel
theorem d0_282 : Dec m0 282 (.iload 18) 2 284 := by decide +kernel
theorem d0_284 : Dec m0 284 (.iconst 2) 1 285 := by decide +kernel
theorem d0_285 : Dec m0 285 (.if_icmp .le 15) 3 288 := by decide +kernel
theorem j0_285 : Jmp 285 (15) 300 := by decide
theorem d0_288 : Dec m0 288 (.aload 21) 2 290 := by decide +kernel
theorem d0_290 : Dec m0 290 (.lload 14) 2 292 := by decide +kernel
theorem d0_292 : Dec m0 292 (.invokestatic 19) 3 295 := by decide +kernel
theorem d0_295 : Dec m0 295 (.ifCond .ne 5) 3 298 := by decide +kernel
theorem j0_295 : Jmp 295 (5) 300 := by decide
theorem d0_298 : Dec m0 298 (.iconst 0) 1 299 := by decide +kernel
theorem d0_299 : Dec m0 299 (.ireturn) 1 300 := by decide +kernel
theorem d0_300 : Dec m0 300 (.iload 18) 2 302 := by decide +kernel
theorem d0_302 : Dec m0 302 (.iconst 3) 1 303 := by decide +kernel
theorem d0_303 : Dec m0 303 (.if_icmp .le 15) 3 306 := by decide +kernel
theorem j0_303 : Jmp 303 (15) 318 := by decide
theorem d0_306 : Dec m0 306 (.aload 21) 2 308 := by decide +kernel
theorem d0_308 : Dec m0 308 (.lload 16) 2 310 := by decide +kernel
theorem d0_310 : Dec m0 310 (.invokestatic 19) 3 313 := by decide +kernel
theorem d0_313 : Dec m0 313 (.ifCond .ne 5) 3 316 := by decide +kernel
theorem j0_313 : Jmp 313 (5) 318 := by decide
theorem d0_316 : Dec m0 316 (.iconst 0) 1 317 := by decide +kernel
theorem d0_317 : Dec m0 317 (.ireturn) 1 318 := by decide +kernel
theorem d0_318 : Dec m0 318 (.iconst 1) 1 319 := by decide +kernel
theorem d0_319 : Dec m0 319 (.ireturn) 1 320 := by decide +kernel
abbrev m1 : Mt := (⟨"com/example/subsume/subsume/LongIntMap", "<init>", "()V"⟩, prog_37_method_1_code, 1, none)
theorem mi1 : MInfo m1 0 := by decide +kernel
theorem d1_0 : Dec m1 0 (.aload_n 0) 1 1 := by decide +kernel
theorem d1_1 : Dec m1 1 (.invokespecial 1) 3 4 := by decide +kernel
theorem d1_4 : Dec m1 4 (.aload_n 0) 1 5 := by decide +kernel
theorem d1_5 : Dec m1 5 (.bipush 16) 2 7 := by decide +kernel
theorem d1_7 : Dec m1 7 (.newarray .long) 2 9 := by decide +kernel
theorem d1_9 : Dec m1 9 (.putfield 7) 3 12 := by decide +kernel
theorem d1_12 : Dec m1 12 (.aload_n 0) 1 13 := by decide +kernel
theorem d1_13 : Dec m1 13 (.bipush 16) 2 15 := by decide +kernel
theorem d1_15 : Dec m1 15 (.invokestatic 13) 3 18 := by decide +kernel
theorem d1_18 : Dec m1 18 (.putfield 17) 3 21 := by decide +kernel
theorem d1_21 : Dec m1 21 (.return_) 1 22 := by decide +kernel
abbrev m3 : Mt := (⟨"com/example/subsume/subsume/LongIntMap", "filled", "(I)[I"⟩, prog_37_method_9_code, 2, some (.array .int))
theorem mi3 : MInfo m3 1 := by decide +kernel
theorem d3_0 : Dec m3 0 (.iload_n 0) 1 1 := by decide +kernel
theorem d3_1 : Dec m3 1 (.newarray .int) 2 3 := by decide +kernel
theorem d3_3 : Dec m3 3 (.astore_n 1) 1 4 := by decide +kernel
theorem d3_4 : Dec m3 4 (.aload_n 1) 1 5 := by decide +kernel
theorem d3_5 : Dec m3 5 (.iconst (-1)) 1 6 := by decide +kernel
theorem d3_6 : Dec m3 6 (.invokestatic 48) 3 9 := by decide +kernel
theorem d3_9 : Dec m3 9 (.aload_n 1) 1 10 := by decide +kernel
theorem d3_10 : Dec m3 10 (.areturn) 1 11 := by decide +kernel
abbrev m4 : Mt := (⟨"java/util/Arrays", "fill", "([II)V"⟩, jdk_65_method_103_code, 4, none)
theorem mi4 : MInfo m4 2 := by decide +kernel
theorem d4_0 : Dec m4 0 (.iconst 0) 1 1 := by decide +kernel
theorem d4_1 : Dec m4 1 (.istore_n 2) 1 2 := by decide +kernel
theorem d4_2 : Dec m4 2 (.aload_n 0) 1 3 := by decide +kernel
theorem d4_3 : Dec m4 3 (.arraylength) 1 4 := by decide +kernel
theorem d4_4 : Dec m4 4 (.istore_n 3) 1 5 := by decide +kernel
theorem d4_5 : Dec m4 5 (.iload_n 2) 1 6 := by decide +kernel
theorem d4_6 : Dec m4 6 (.iload_n 3) 1 7 := by decide +kernel
theorem d4_7 : Dec m4 7 (.if_icmp .ge 13) 3 10 := by decide +kernel
theorem j4_7 : Jmp 7 (13) 20 := by decide
theorem d4_10 : Dec m4 10 (.aload_n 0) 1 11 := by decide +kernel
theorem d4_11 : Dec m4 11 (.iload_n 2) 1 12 := by decide +kernel
theorem d4_12 : Dec m4 12 (.iload_n 1) 1 13 := by decide +kernel
theorem d4_13 : Dec m4 13 (.iastore) 1 14 := by decide +kernel
theorem d4_14 : Dec m4 14 (.iinc 2 1) 3 17 := by decide +kernel
theorem d4_17 : Dec m4 17 (.goto (-12)) 3 20 := by decide +kernel
theorem j4_17 : Jmp 17 (-12) 5 := by decide
theorem d4_20 : Dec m4 20 (.return_) 1 21 := by decide +kernel
abbrev m5 : Mt := (⟨"com/example/subsume/subsume/LongIntMap", "keys", "()[J"⟩, prog_37_method_6_code, 4, some (.array .long))
theorem mi5 : MInfo m5 0 := by decide +kernel
theorem d5_0 : Dec m5 0 (.aload_n 0) 1 1 := by decide +kernel
theorem d5_1 : Dec m5 1 (.getfield 25) 3 4 := by decide +kernel
theorem d5_4 : Dec m5 4 (.newarray .long) 2 6 := by decide +kernel
theorem d5_6 : Dec m5 6 (.astore_n 1) 1 7 := by decide +kernel
theorem d5_7 : Dec m5 7 (.iconst 0) 1 8 := by decide +kernel
theorem d5_8 : Dec m5 8 (.istore_n 2) 1 9 := by decide +kernel
theorem d5_9 : Dec m5 9 (.iconst 0) 1 10 := by decide +kernel
theorem d5_10 : Dec m5 10 (.istore_n 3) 1 11 := by decide +kernel
theorem d5_11 : Dec m5 11 (.iload_n 3) 1 12 := by decide +kernel
theorem d5_12 : Dec m5 12 (.aload_n 0) 1 13 := by decide +kernel
theorem d5_13 : Dec m5 13 (.getfield 7) 3 16 := by decide +kernel
theorem d5_16 : Dec m5 16 (.arraylength) 1 17 := by decide +kernel
theorem d5_17 : Dec m5 17 (.if_icmp .ge 31) 3 20 := by decide +kernel
theorem j5_17 : Jmp 17 (31) 48 := by decide
theorem d5_20 : Dec m5 20 (.aload_n 0) 1 21 := by decide +kernel
theorem d5_21 : Dec m5 21 (.getfield 17) 3 24 := by decide +kernel
theorem d5_24 : Dec m5 24 (.iload_n 3) 1 25 := by decide +kernel
theorem d5_25 : Dec m5 25 (.iaload) 1 26 := by decide +kernel
theorem d5_26 : Dec m5 26 (.iconst (-1)) 1 27 := by decide +kernel
theorem d5_27 : Dec m5 27 (.if_icmp .eq 15) 3 30 := by decide +kernel
theorem j5_27 : Jmp 27 (15) 42 := by decide
theorem d5_30 : Dec m5 30 (.aload_n 1) 1 31 := by decide +kernel
theorem d5_31 : Dec m5 31 (.iload_n 2) 1 32 := by decide +kernel
theorem d5_32 : Dec m5 32 (.iinc 2 1) 3 35 := by decide +kernel
theorem d5_35 : Dec m5 35 (.aload_n 0) 1 36 := by decide +kernel
theorem d5_36 : Dec m5 36 (.getfield 7) 3 39 := by decide +kernel
theorem d5_39 : Dec m5 39 (.iload_n 3) 1 40 := by decide +kernel
theorem d5_40 : Dec m5 40 (.laload) 1 41 := by decide +kernel
theorem d5_41 : Dec m5 41 (.lastore) 1 42 := by decide +kernel
theorem d5_42 : Dec m5 42 (.iinc 3 1) 3 45 := by decide +kernel
theorem d5_45 : Dec m5 45 (.goto (-34)) 3 48 := by decide +kernel
theorem j5_45 : Jmp 45 (-34) 11 := by decide
theorem d5_48 : Dec m5 48 (.aload_n 1) 1 49 := by decide +kernel
theorem d5_49 : Dec m5 49 (.areturn) 1 50 := by decide +kernel
abbrev m6 : Mt := (⟨"com/example/subsume/subsume/LongIntMap", "put", "(JI)V"⟩, prog_37_method_3_code, 5, none)
theorem mi6 : MInfo m6 2 := by decide +kernel
theorem d6_0 : Dec m6 0 (.iconst 2) 1 1 := by decide +kernel
theorem d6_1 : Dec m6 1 (.aload_n 0) 1 2 := by decide +kernel
theorem d6_2 : Dec m6 2 (.getfield 25) 3 5 := by decide +kernel
theorem d6_5 : Dec m6 5 (.iconst 1) 1 6 := by decide +kernel
theorem d6_6 : Dec m6 6 (.iadd) 1 7 := by decide +kernel
theorem d6_7 : Dec m6 7 (.imul) 1 8 := by decide +kernel
theorem d6_8 : Dec m6 8 (.aload_n 0) 1 9 := by decide +kernel
theorem d6_9 : Dec m6 9 (.getfield 7) 3 12 := by decide +kernel
theorem d6_12 : Dec m6 12 (.arraylength) 1 13 := by decide +kernel
theorem d6_13 : Dec m6 13 (.if_icmp .le 7) 3 16 := by decide +kernel
theorem j6_13 : Jmp 13 (7) 20 := by decide
theorem d6_16 : Dec m6 16 (.aload_n 0) 1 17 := by decide +kernel
theorem d6_17 : Dec m6 17 (.invokevirtual 29) 3 20 := by decide +kernel
theorem d6_20 : Dec m6 20 (.aload_n 0) 1 21 := by decide +kernel
theorem d6_21 : Dec m6 21 (.lload_n 1) 1 22 := by decide +kernel
theorem d6_22 : Dec m6 22 (.invokevirtual 21) 3 25 := by decide +kernel
theorem d6_25 : Dec m6 25 (.istore 4) 2 27 := by decide +kernel
theorem d6_27 : Dec m6 27 (.aload_n 0) 1 28 := by decide +kernel
theorem d6_28 : Dec m6 28 (.getfield 17) 3 31 := by decide +kernel
theorem d6_31 : Dec m6 31 (.iload 4) 2 33 := by decide +kernel
theorem d6_33 : Dec m6 33 (.iaload) 1 34 := by decide +kernel
theorem d6_34 : Dec m6 34 (.iconst (-1)) 1 35 := by decide +kernel
theorem d6_35 : Dec m6 35 (.if_icmp .ne 13) 3 38 := by decide +kernel
theorem j6_35 : Jmp 35 (13) 48 := by decide
theorem d6_38 : Dec m6 38 (.aload_n 0) 1 39 := by decide +kernel
theorem d6_39 : Dec m6 39 (.dup) 1 40 := by decide +kernel
theorem d6_40 : Dec m6 40 (.getfield 25) 3 43 := by decide +kernel
theorem d6_43 : Dec m6 43 (.iconst 1) 1 44 := by decide +kernel
theorem d6_44 : Dec m6 44 (.iadd) 1 45 := by decide +kernel
theorem d6_45 : Dec m6 45 (.putfield 25) 3 48 := by decide +kernel
theorem d6_48 : Dec m6 48 (.aload_n 0) 1 49 := by decide +kernel
theorem d6_49 : Dec m6 49 (.getfield 7) 3 52 := by decide +kernel
theorem d6_52 : Dec m6 52 (.iload 4) 2 54 := by decide +kernel
theorem d6_54 : Dec m6 54 (.lload_n 1) 1 55 := by decide +kernel
theorem d6_55 : Dec m6 55 (.lastore) 1 56 := by decide +kernel
theorem d6_56 : Dec m6 56 (.aload_n 0) 1 57 := by decide +kernel
theorem d6_57 : Dec m6 57 (.getfield 17) 3 60 := by decide +kernel
theorem d6_60 : Dec m6 60 (.iload 4) 2 62 := by decide +kernel
theorem d6_62 : Dec m6 62 (.iload_n 3) 1 63 := by decide +kernel
theorem d6_63 : Dec m6 63 (.iastore) 1 64 := by decide +kernel
theorem d6_64 : Dec m6 64 (.return_) 1 65 := by decide +kernel
abbrev m7 : Mt := (⟨"com/example/subsume/subsume/LongIntMap", "slotOf", "(J)I"⟩, prog_37_method_8_code, 7, some .int)
theorem mi7 : MInfo m7 1 := by decide +kernel
theorem d7_0 : Dec m7 0 (.aload_n 0) 1 1 := by decide +kernel
theorem d7_1 : Dec m7 1 (.getfield 7) 3 4 := by decide +kernel
theorem d7_4 : Dec m7 4 (.arraylength) 1 5 := by decide +kernel
theorem d7_5 : Dec m7 5 (.iconst 1) 1 6 := by decide +kernel
theorem d7_6 : Dec m7 6 (.isub) 1 7 := by decide +kernel
theorem d7_7 : Dec m7 7 (.istore_n 3) 1 8 := by decide +kernel
theorem d7_8 : Dec m7 8 (.lload_n 1) 1 9 := by decide +kernel
theorem d7_9 : Dec m7 9 (.ldc2_w 46) 3 12 := by decide +kernel
theorem d7_12 : Dec m7 12 (.lmul) 1 13 := by decide +kernel
theorem d7_13 : Dec m7 13 (.lstore 4) 2 15 := by decide +kernel
theorem d7_15 : Dec m7 15 (.lload 4) 2 17 := by decide +kernel
theorem d7_17 : Dec m7 17 (.lload 4) 2 19 := by decide +kernel
theorem d7_19 : Dec m7 19 (.bipush 32) 2 21 := by decide +kernel
theorem d7_21 : Dec m7 21 (.lushr) 1 22 := by decide +kernel
theorem d7_22 : Dec m7 22 (.lxor) 1 23 := by decide +kernel
theorem d7_23 : Dec m7 23 (.l2i) 1 24 := by decide +kernel
theorem d7_24 : Dec m7 24 (.iload_n 3) 1 25 := by decide +kernel
theorem d7_25 : Dec m7 25 (.iand) 1 26 := by decide +kernel
theorem d7_26 : Dec m7 26 (.istore 6) 2 28 := by decide +kernel
theorem d7_28 : Dec m7 28 (.aload_n 0) 1 29 := by decide +kernel
theorem d7_29 : Dec m7 29 (.getfield 17) 3 32 := by decide +kernel
theorem d7_32 : Dec m7 32 (.iload 6) 2 34 := by decide +kernel
theorem d7_34 : Dec m7 34 (.iaload) 1 35 := by decide +kernel
theorem d7_35 : Dec m7 35 (.iconst (-1)) 1 36 := by decide +kernel
theorem d7_36 : Dec m7 36 (.if_icmp .eq 26) 3 39 := by decide +kernel
theorem j7_36 : Jmp 36 (26) 62 := by decide
theorem d7_39 : Dec m7 39 (.aload_n 0) 1 40 := by decide +kernel
theorem d7_40 : Dec m7 40 (.getfield 7) 3 43 := by decide +kernel
theorem d7_43 : Dec m7 43 (.iload 6) 2 45 := by decide +kernel
theorem d7_45 : Dec m7 45 (.laload) 1 46 := by decide +kernel
theorem d7_46 : Dec m7 46 (.lload_n 1) 1 47 := by decide +kernel
theorem d7_47 : Dec m7 47 (.lcmp) 1 48 := by decide +kernel
theorem d7_48 : Dec m7 48 (.ifCond .eq 14) 3 51 := by decide +kernel
theorem j7_48 : Jmp 48 (14) 62 := by decide
theorem d7_51 : Dec m7 51 (.iload 6) 2 53 := by decide +kernel
theorem d7_53 : Dec m7 53 (.iconst 1) 1 54 := by decide +kernel
theorem d7_54 : Dec m7 54 (.iadd) 1 55 := by decide +kernel
theorem d7_55 : Dec m7 55 (.iload_n 3) 1 56 := by decide +kernel
theorem d7_56 : Dec m7 56 (.iand) 1 57 := by decide +kernel
theorem d7_57 : Dec m7 57 (.istore 6) 2 59 := by decide +kernel
theorem d7_59 : Dec m7 59 (.goto (-31)) 3 62 := by decide +kernel
theorem j7_59 : Jmp 59 (-31) 28 := by decide
theorem d7_62 : Dec m7 62 (.iload 6) 2 64 := by decide +kernel
theorem d7_64 : Dec m7 64 (.ireturn) 1 65 := by decide +kernel
abbrev m8 : Mt := (⟨"com/example/subsume/subsume/LongIntMapKeysPinLaw", "has", "([JJ)Z"⟩, method_3_code, 3, some .boolean)
theorem mi8 : MInfo m8 2 := by decide +kernel
theorem d8_0 : Dec m8 0 (.aload_n 0) 1 1 := by decide +kernel
theorem d8_1 : Dec m8 1 (.arraylength) 1 2 := by decide +kernel
theorem d8_2 : Dec m8 2 (.ifCond .le 13) 3 5 := by decide +kernel
theorem j8_2 : Jmp 2 (13) 15 := by decide
theorem d8_5 : Dec m8 5 (.aload_n 0) 1 6 := by decide +kernel
theorem d8_6 : Dec m8 6 (.iconst 0) 1 7 := by decide +kernel
theorem d8_7 : Dec m8 7 (.laload) 1 8 := by decide +kernel
theorem d8_8 : Dec m8 8 (.lload_n 1) 1 9 := by decide +kernel
theorem d8_9 : Dec m8 9 (.lcmp) 1 10 := by decide +kernel
theorem d8_10 : Dec m8 10 (.ifCond .ne 5) 3 13 := by decide +kernel
theorem j8_10 : Jmp 10 (5) 15 := by decide
theorem d8_13 : Dec m8 13 (.iconst 1) 1 14 := by decide +kernel
theorem d8_14 : Dec m8 14 (.ireturn) 1 15 := by decide +kernel
theorem d8_15 : Dec m8 15 (.aload_n 0) 1 16 := by decide +kernel
theorem d8_16 : Dec m8 16 (.arraylength) 1 17 := by decide +kernel
theorem d8_17 : Dec m8 17 (.iconst 1) 1 18 := by decide +kernel
theorem d8_18 : Dec m8 18 (.if_icmp .le 13) 3 21 := by decide +kernel
theorem j8_18 : Jmp 18 (13) 31 := by decide
theorem d8_21 : Dec m8 21 (.aload_n 0) 1 22 := by decide +kernel
theorem d8_22 : Dec m8 22 (.iconst 1) 1 23 := by decide +kernel
theorem d8_23 : Dec m8 23 (.laload) 1 24 := by decide +kernel
theorem d8_24 : Dec m8 24 (.lload_n 1) 1 25 := by decide +kernel
theorem d8_25 : Dec m8 25 (.lcmp) 1 26 := by decide +kernel
theorem d8_26 : Dec m8 26 (.ifCond .ne 5) 3 29 := by decide +kernel
theorem j8_26 : Jmp 26 (5) 31 := by decide
theorem d8_29 : Dec m8 29 (.iconst 1) 1 30 := by decide +kernel
theorem d8_30 : Dec m8 30 (.ireturn) 1 31 := by decide +kernel
theorem d8_31 : Dec m8 31 (.aload_n 0) 1 32 := by decide +kernel
theorem d8_32 : Dec m8 32 (.arraylength) 1 33 := by decide +kernel
theorem d8_33 : Dec m8 33 (.iconst 2) 1 34 := by decide +kernel
theorem d8_34 : Dec m8 34 (.if_icmp .le 13) 3 37 := by decide +kernel
theorem j8_34 : Jmp 34 (13) 47 := by decide
theorem d8_37 : Dec m8 37 (.aload_n 0) 1 38 := by decide +kernel
theorem d8_38 : Dec m8 38 (.iconst 2) 1 39 := by decide +kernel
theorem d8_39 : Dec m8 39 (.laload) 1 40 := by decide +kernel
theorem d8_40 : Dec m8 40 (.lload_n 1) 1 41 := by decide +kernel
theorem d8_41 : Dec m8 41 (.lcmp) 1 42 := by decide +kernel
theorem d8_42 : Dec m8 42 (.ifCond .ne 5) 3 45 := by decide +kernel
theorem j8_42 : Jmp 42 (5) 47 := by decide
theorem d8_45 : Dec m8 45 (.iconst 1) 1 46 := by decide +kernel
theorem d8_46 : Dec m8 46 (.ireturn) 1 47 := by decide +kernel
theorem d8_47 : Dec m8 47 (.aload_n 0) 1 48 := by decide +kernel
theorem d8_48 : Dec m8 48 (.arraylength) 1 49 := by decide +kernel
theorem d8_49 : Dec m8 49 (.iconst 3) 1 50 := by decide +kernel
theorem d8_50 : Dec m8 50 (.if_icmp .le 13) 3 53 := by decide +kernel
theorem j8_50 : Jmp 50 (13) 63 := by decide
theorem d8_53 : Dec m8 53 (.aload_n 0) 1 54 := by decide +kernel
theorem d8_54 : Dec m8 54 (.iconst 3) 1 55 := by decide +kernel
theorem d8_55 : Dec m8 55 (.laload) 1 56 := by decide +kernel
theorem d8_56 : Dec m8 56 (.lload_n 1) 1 57 := by decide +kernel
theorem d8_57 : Dec m8 57 (.lcmp) 1 58 := by decide +kernel
theorem d8_58 : Dec m8 58 (.ifCond .ne 5) 3 61 := by decide +kernel
theorem j8_58 : Jmp 58 (5) 63 := by decide
theorem d8_61 : Dec m8 61 (.iconst 1) 1 62 := by decide +kernel
theorem d8_62 : Dec m8 62 (.ireturn) 1 63 := by decide +kernel
theorem d8_63 : Dec m8 63 (.iconst 0) 1 64 := by decide +kernel
theorem d8_64 : Dec m8 64 (.ireturn) 1 65 := by decide +kernel
theorem go_fill_a (K : Ctx) (hw : ∀ d ∈ tables_1, d.before K.2.2.1 K.2.1 = true) (H : Hp) (i : Nat) (vs : List Value) (v j z : Int32) (hH : H[i]? = some (.inr (.int, vs))) (hj : ¬ j < 0) (hl : j.toNatClampNeg < vs.length) (hlt : j < z) (rv : Option Value) (Hr : Option Hp) (h : Go K m4 0 0 5 [.val (.ref i), .val (.int v), .val (.int (j + 1)), .val (.int z)] [] (H.set i (.inr (.int, vs.set j.toNatClampNeg (.int v)))) (rv, Hr, 0, 0)) : Go K m4 0 0 5 [.val (.ref i), .val (.int v), .val (.int j), .val (.int z)] [] H (rv, Hr, 0, 0) := by
  refine Go.iloadN d4_5 rfl ?_
  refine Go.iloadN d4_6 rfl ?_
  refine Go.icmpF d4_7 (XT.ii_ge_f hlt) ?_
  refine Go.aloadN d4_10 rfl rfl ?_
  refine Go.iloadN d4_11 rfl ?_
  refine Go.iloadN d4_12 rfl ?_
  refine Go.iastore d4_13 hH hj hl (H1 := (H.set i (.inr (.int, vs.set j.toNatClampNeg (.int v))))) rfl ?_
  refine Go.iinc d4_14 (v := 1) rfl rfl (ls' := [.val (.ref i), .val (.int v), .val (.int (j + 1)), .val (.int z)]) rfl ?_
  refine Go.goto d4_17 j4_17 ?_
  exact h
theorem go_fill_b (K : Ctx) (hw : ∀ d ∈ tables_1, d.before K.2.2.1 K.2.1 = true) (H : Hp) (i : Nat) (v j z : Int32) (hge : ¬ j < z) : Go K m4 0 0 5 [.val (.ref i), .val (.int v), .val (.int j), .val (.int z)] [] H (none, some H, 0, 0) := by
  refine Go.iloadN d4_5 rfl ?_
  refine Go.iloadN d4_6 rfl ?_
  refine Go.icmpT d4_7 j4_7 (XT.ii_ge_t hge) ?_
  exact Go.ret d4_20 rfl rfl (HOk.eq rfl)
theorem go_fill_0 (K : Ctx) (hw : ∀ d ∈ tables_1, d.before K.2.2.1 K.2.1 = true) (H : Hp) (i : Nat) (vs : List Value) (v z : Int32) (hH : H[i]? = some (.inr (.int, vs))) (hz : vs.length.toInt32 = z) (rv : Option Value) (Hr : Option Hp) (h : Go K m4 0 0 5 [.val (.ref i), .val (.int v), .val (.int 0), .val (.int z)] [] H (rv, Hr, 0, 0)) : Go K m4 0 0 0 [.val (.ref i), .val (.int v), .unset, .unset] [] H (rv, Hr, 0, 0) := by
  refine Go.iconst d4_0 (v := 0) rfl ?_
  refine Go.istoreN d4_1 (ls' := [.val (.ref i), .val (.int v), .val (.int 0), .unset]) rfl ?_
  refine Go.aloadN d4_2 rfl rfl ?_
  refine Go.arraylength d4_3 hH (z := z) hz ?_
  refine Go.istoreN d4_4 (ls' := [.val (.ref i), .val (.int v), .val (.int 0), .val (.int z)]) rfl ?_
  exact h
theorem own_clamp {n : Nat} (h : n ≤ 100000) : (Int32.ofNat n).toNatClampNeg = n := Int32.toNatClampNeg_ofNat_of_lt (by omega)
theorem own_i32 {n : Nat} (h : n ≤ 100000) : (Int32.ofNat n).toInt = n := Int32.toInt_ofNat_of_lt (by omega)
theorem own_nneg {n : Nat} (h : n ≤ 100000) : ¬ Int32.ofNat n < 0 := by
  rw [Int32.lt_iff_toInt_lt, own_i32 h]; show ¬ (n : Int) < 0; omega
theorem own_lt {a c : Nat} (ha : a ≤ 100000) (hc : c ≤ 100000) : Int32.ofNat a < Int32.ofNat c ↔ a < c := by
  rw [Int32.lt_iff_toInt_lt, own_i32 ha, own_i32 hc]; omega
theorem own_inj {a c : Nat} (ha : a ≤ 100000) (hc : c ≤ 100000) : Int32.ofNat a = Int32.ofNat c ↔ a = c := by
  rw [← Int32.toInt_inj, own_i32 ha, own_i32 hc]; omega
theorem own_add1 (n : Nat) : Int32.ofNat n + 1 = Int32.ofNat (n + 1) := (Int32.ofNat_add n 1).symm
theorem go_fill_l (K : Ctx) (hw : ∀ d ∈ tables_1, d.before K.2.2.1 K.2.1 = true) (i : Nat) (v : Int32) : ∀ n j (vs : List Value) (H : Hp), H[i]? = some (.inr (.int, vs)) → j + n = vs.length → vs.length ≤ 10000 →
    Go K m4 0 0 5 [.val (.ref i), .val (.int v), .val (.int (Int32.ofNat j)), .val (.int (Int32.ofNat vs.length))] [] H (none, some (H.set i (.inr (.int, vs.take j ++ List.replicate n (.int v)))), 0, 0) := by
  intro n
  induction n with
  | zero =>
    intro j vs H hH hj hl
    have e : H.set i (.inr (.int, vs.take j ++ List.replicate 0 (.int v))) = H := by
      rw [List.replicate_zero, List.append_nil, List.take_of_length_le (by omega)]
      exact List.ext_getElem? fun k => by
        by_cases q : i = k
        · subst q; rw [List.getElem?_set_self (List.getElem?_eq_some_iff.mp hH).1, hH]
        · rw [List.getElem?_set_ne q]
    rw [e]
    exact go_fill_b K hw H i v _ _ (by rw [own_lt (by omega) (by omega)]; omega)
  | succ n ih =>
    intro j vs H hH hj hl
    refine go_fill_a K hw H i vs v (Int32.ofNat j) (Int32.ofNat vs.length) hH (own_nneg (by omega)) (by rw [own_clamp (by omega)]; omega) (by rw [own_lt (by omega) (by omega)]; omega) _ _ ?_
    rw [own_clamp (by omega), own_add1]
    have g := ih (j + 1) (vs.set j (.int v)) (H.set i (.inr (.int, vs.set j (.int v)))) (hset_self hH) (by rw [List.length_set]; omega) (by rw [List.length_set]; omega)
    rw [List.length_set, List.set_set] at g
    have e : List.take (j + 1) (vs.set j (.int v)) ++ List.replicate n (.int v) = vs.take j ++ List.replicate (n + 1) (.int v) := by
      rw [List.take_succ_eq_append_getElem (by rw [List.length_set]; omega), List.getElem_set_self, List.take_set_of_le (Nat.le_refl _), List.append_assoc, List.replicate_succ]
      rfl
    rw [e] at g
    exact g
theorem go_fill (K : Ctx) (hw : ∀ d ∈ tables_1, d.before K.2.2.1 K.2.1 = true) (H : Hp) (i : Nat) (v : Int32) (vs : List Value) (hH : H[i]? = some (.inr (.int, vs))) (hl : vs.length ≤ 10000) :
    Go K m4 0 0 0 [.val (.ref i), .val (.int v), .unset, .unset] [] H (none, some (H.set i (.inr (.int, List.replicate vs.length (.int v)))), 0, 0) := by
  have g := go_fill_l K hw i v vs.length 0 vs H hH (by omega) hl
  rw [List.take_zero, List.nil_append] at g
  exact go_fill_0 K hw H i vs v (Int32.ofNat vs.length) hH rfl _ _ g
theorem go_filled (K : Ctx) (hw : ∀ d ∈ tables_1, d.before K.2.2.1 K.2.1 = true)  : Go K m3 1 15 0 [.val (.int 16), .unset] [] [.inl ("com/example/subsume/subsume/LongIntMap", [("keys", "[J", .ref 1), ("values", "[I", .null), ("size", "I", .int 0)]), .inr (.long, [.long 0, .long 0, .long 0, .long 0, .long 0, .long 0, .long 0, .long 0, .long 0, .long 0, .long 0, .long 0, .long 0, .long 0, .long 0, .long 0])] (some (.ref 2), some [.inl ("com/example/subsume/subsume/LongIntMap", [("keys", "[J", .ref 1), ("values", "[I", .null), ("size", "I", .int 0)]), .inr (.long, [.long 0, .long 0, .long 0, .long 0, .long 0, .long 0, .long 0, .long 0, .long 0, .long 0, .long 0, .long 0, .long 0, .long 0, .long 0, .long 0]), .inr (.int, [.int (-1), .int (-1), .int (-1), .int (-1), .int (-1), .int (-1), .int (-1), .int (-1), .int (-1), .int (-1), .int (-1), .int (-1), .int (-1), .int (-1), .int (-1), .int (-1)])], 1, 16) := by
  refine Go.iloadN d3_0 rfl ?_
  refine Go.newarray 16 d3_1 (hw _ (List.mem_of_getElem? (i := 16) rfl)) (t := .int) rfl (by decide) (by decide) (by decide) (vs := [.int 0, .int 0, .int 0, .int 0, .int 0, .int 0, .int 0, .int 0, .int 0, .int 0, .int 0, .int 0, .int 0, .int 0, .int 0, .int 0]) rfl (i := 2) rfl 0 0 (by decide) (by decide) ?_
  show Go _ _ _ _ 3 [.val (.int 16), .unset] [.ref 2] [.inl ("com/example/subsume/subsume/LongIntMap", [("keys", "[J", .ref 1), ("values", "[I", .null), ("size", "I", .int 0)]), .inr (.long, [.long 0, .long 0, .long 0, .long 0, .long 0, .long 0, .long 0, .long 0, .long 0, .long 0, .long 0, .long 0, .long 0, .long 0, .long 0, .long 0]), .inr (.int, [.int 0, .int 0, .int 0, .int 0, .int 0, .int 0, .int 0, .int 0, .int 0, .int 0, .int 0, .int 0, .int 0, .int 0, .int 0, .int 0])] _
  refine Go.astoreN d3_3 (ls' := [.val (.int 16), .val (.ref 2)]) rfl rfl ?_
  refine Go.aloadN d3_4 rfl rfl ?_
  refine Go.iconst d3_5 (v := (-1)) rfl ?_
  refine Go.callS (M' := m4) d3_6 (hw _ (List.mem_of_getElem? (i := 17) rfl)) (hw _ (List.mem_of_getElem? (i := 18) rfl)) (hw _ (List.mem_of_getElem? (i := 19) rfl)) (hw _ (List.mem_of_getElem? (i := 20) rfl)) mi4 (as := [.ref 2, .int (-1)]) rfl rfl (st := []) rfl (ls1 := [.val (.ref 2), .val (.int (-1)), .unset, .unset]) rfl (W := 0) rfl (by decide) (by decide) (go_fill K hw _ 2 (-1) _ rfl (by simp)) 0 0 (by decide) (by decide) ?_
  show Go _ _ _ _ 9 [.val (.int 16), .val (.ref 2)] [] [.inl ("com/example/subsume/subsume/LongIntMap", [("keys", "[J", .ref 1), ("values", "[I", .null), ("size", "I", .int 0)]), .inr (.long, [.long 0, .long 0, .long 0, .long 0, .long 0, .long 0, .long 0, .long 0, .long 0, .long 0, .long 0, .long 0, .long 0, .long 0, .long 0, .long 0]), .inr (.int, [.int (-1), .int (-1), .int (-1), .int (-1), .int (-1), .int (-1), .int (-1), .int (-1), .int (-1), .int (-1), .int (-1), .int (-1), .int (-1), .int (-1), .int (-1), .int (-1)])] _
  refine Go.aloadN d3_9 rfl rfl ?_
  exact Go.areturn d3_10 rfl rfl rfl rfl (HOk.eq rfl)
theorem go_ctor (K : Ctx) (hw : ∀ d ∈ tables_1, d.before K.2.2.1 K.2.1 = true)  : Go K m1 2 29 0 [.val (.ref 0)] [] [.inl ("com/example/subsume/subsume/LongIntMap", [("keys", "[J", .null), ("values", "[I", .null), ("size", "I", .int 0)])] (none, some [.inl ("com/example/subsume/subsume/LongIntMap", [("keys", "[J", .ref 1), ("values", "[I", .ref 2), ("size", "I", .int 0)]), .inr (.long, [.long 0, .long 0, .long 0, .long 0, .long 0, .long 0, .long 0, .long 0, .long 0, .long 0, .long 0, .long 0, .long 0, .long 0, .long 0, .long 0]), .inr (.int, [.int (-1), .int (-1), .int (-1), .int (-1), .int (-1), .int (-1), .int (-1), .int (-1), .int (-1), .int (-1), .int (-1), .int (-1), .int (-1), .int (-1), .int (-1), .int (-1)])], 2, 32) := by
  refine Go.aloadN d1_0 rfl rfl ?_
  refine Go.initObj d1_1 (hw _ (List.mem_of_getElem? (i := 7) rfl)) (hw _ (List.mem_of_getElem? (i := 8) rfl)) (hw _ (List.mem_of_getElem? (i := 9) rfl)) rfl (W := 0) rfl (by decide) (by decide) ?_
  refine Go.aloadN d1_4 rfl rfl ?_
  refine Go.bipush d1_5 (v := 16) rfl ?_
  refine Go.newarray 16 d1_7 (hw _ (List.mem_of_getElem? (i := 10) rfl)) (t := .long) rfl (by decide) (by decide) (by decide) (vs := [.long 0, .long 0, .long 0, .long 0, .long 0, .long 0, .long 0, .long 0, .long 0, .long 0, .long 0, .long 0, .long 0, .long 0, .long 0, .long 0]) rfl (i := 1) rfl 1 16 (by decide) (by decide) ?_
  show Go _ _ _ _ 9 [.val (.ref 0)] [.ref 1, .ref 0] [.inl ("com/example/subsume/subsume/LongIntMap", [("keys", "[J", .null), ("values", "[I", .null), ("size", "I", .int 0)]), .inr (.long, [.long 0, .long 0, .long 0, .long 0, .long 0, .long 0, .long 0, .long 0, .long 0, .long 0, .long 0, .long 0, .long 0, .long 0, .long 0, .long 0])] _
  refine Go.putfield 0 d1_9 (hw _ (List.mem_of_getElem? (i := 11) rfl)) (Or.inl (hw _ (List.mem_of_getElem? (i := 12) rfl))) (hw _ (List.mem_of_getElem? (i := 2) rfl)) (ty := (.array .long)) (by decide) (fun _ => ⟨rfl, rfl⟩) rfl rfl (H1 := [.inl ("com/example/subsume/subsume/LongIntMap", [("keys", "[J", .ref 1), ("values", "[I", .null), ("size", "I", .int 0)]), .inr (.long, [.long 0, .long 0, .long 0, .long 0, .long 0, .long 0, .long 0, .long 0, .long 0, .long 0, .long 0, .long 0, .long 0, .long 0, .long 0, .long 0])]) rfl ?_
  refine Go.aloadN d1_12 rfl rfl ?_
  refine Go.bipush d1_13 (v := 16) rfl ?_
  refine Go.callS (M' := m3) d1_15 (hw _ (List.mem_of_getElem? (i := 13) rfl)) (hw _ (List.mem_of_getElem? (i := 14) rfl)) (hw _ (List.mem_of_getElem? (i := 3) rfl)) (hw _ (List.mem_of_getElem? (i := 15) rfl)) mi3 (as := [.int 16]) rfl rfl (st := [.ref 0]) rfl (ls1 := [.val (.int 16), .unset]) rfl (W := 1) rfl (by decide) (by decide) (go_filled K hw) 0 0 (by decide) (by decide) ?_
  show Go _ _ _ _ 18 [.val (.ref 0)] [.ref 2, .ref 0] [.inl ("com/example/subsume/subsume/LongIntMap", [("keys", "[J", .ref 1), ("values", "[I", .null), ("size", "I", .int 0)]), .inr (.long, [.long 0, .long 0, .long 0, .long 0, .long 0, .long 0, .long 0, .long 0, .long 0, .long 0, .long 0, .long 0, .long 0, .long 0, .long 0, .long 0]), .inr (.int, [.int (-1), .int (-1), .int (-1), .int (-1), .int (-1), .int (-1), .int (-1), .int (-1), .int (-1), .int (-1), .int (-1), .int (-1), .int (-1), .int (-1), .int (-1), .int (-1)])] _
  refine Go.putfield 1 d1_18 (hw _ (List.mem_of_getElem? (i := 21) rfl)) (Or.inl (hw _ (List.mem_of_getElem? (i := 22) rfl))) (hw _ (List.mem_of_getElem? (i := 2) rfl)) (ty := (.array .int)) (by decide) (fun _ => ⟨rfl, rfl⟩) rfl rfl (H1 := [.inl ("com/example/subsume/subsume/LongIntMap", [("keys", "[J", .ref 1), ("values", "[I", .ref 2), ("size", "I", .int 0)]), .inr (.long, [.long 0, .long 0, .long 0, .long 0, .long 0, .long 0, .long 0, .long 0, .long 0, .long 0, .long 0, .long 0, .long 0, .long 0, .long 0, .long 0]), .inr (.int, [.int (-1), .int (-1), .int (-1), .int (-1), .int (-1), .int (-1), .int (-1), .int (-1), .int (-1), .int (-1), .int (-1), .int (-1), .int (-1), .int (-1), .int (-1), .int (-1)])]) rfl ?_
  exact Go.ret d1_21 rfl rfl (HOk.eq rfl)
theorem go_so_a (K : Ctx) (hw : ∀ d ∈ tables_1, d.before K.2.2.1 K.2.1 = true) (ks vs : List Value) (sz sl v : Int32) (k mx : Int64) (hs : ¬ sl < 0) (hv : vs[sl.toNatClampNeg]? = some (.int v)) (k' : Int64) (hk : ks[sl.toNatClampNeg]? = some (.long k')) (hn : ¬ v = (-1)) (hne : ¬ k' = k) (rv : Option Value) (Hr : Option Hp) (h : Go K m7 0 0 28 [.val (.ref 0), .val (.long k), .second, .val (.int 15), .val (.long mx), .second, .val (.int ((sl + 1) &&& 15))] [] [.inl ("com/example/subsume/subsume/LongIntMap", [("keys", "[J", .ref 1), ("values", "[I", .ref 2), ("size", "I", .int sz)]), .inr (.long, ks), .inr (.int, vs)] (rv, Hr, 0, 0)) : Go K m7 0 0 28 [.val (.ref 0), .val (.long k), .second, .val (.int 15), .val (.long mx), .second, .val (.int sl)] [] [.inl ("com/example/subsume/subsume/LongIntMap", [("keys", "[J", .ref 1), ("values", "[I", .ref 2), ("size", "I", .int sz)]), .inr (.long, ks), .inr (.int, vs)] (rv, Hr, 0, 0) := by
  refine Go.aloadN d7_28 rfl rfl ?_
  refine Go.getfield 1 d7_29 (hw _ (List.mem_of_getElem? (i := 21) rfl)) rfl rfl ?_
  refine Go.iload d7_32 rfl ?_
  refine Go.iaload d7_34 rfl hs hv ?_
  refine Go.iconst d7_35 (v := (-1)) rfl ?_
  refine Go.icmpF d7_36 (XT.ii_eq_f hn) ?_
  refine Go.aloadN d7_39 rfl rfl ?_
  refine Go.getfield 0 d7_40 (hw _ (List.mem_of_getElem? (i := 11) rfl)) rfl rfl ?_
  refine Go.iload d7_43 rfl ?_
  refine Go.laload d7_45 rfl hs hk ?_
  refine Go.lloadN d7_46 rfl ?_
  refine Go.lcmp d7_47 ?_
  refine Go.ifF d7_48 (XT.ll_eq_f hne) ?_
  refine Go.iload d7_51 rfl ?_
  refine Go.iconst d7_53 (v := 1) rfl ?_
  refine Go.iadd d7_54 ?_
  refine Go.iloadN d7_55 rfl ?_
  refine Go.iand d7_56 ?_
  refine Go.istore d7_57 (ls' := [.val (.ref 0), .val (.long k), .second, .val (.int 15), .val (.long mx), .second, .val (.int ((sl + 1) &&& 15))]) rfl ?_
  refine Go.goto d7_59 j7_59 ?_
  exact h
theorem go_so_b (K : Ctx) (hw : ∀ d ∈ tables_1, d.before K.2.2.1 K.2.1 = true) (ks vs : List Value) (sz sl v : Int32) (k mx : Int64) (hs : ¬ sl < 0) (hv : vs[sl.toNatClampNeg]? = some (.int v)) (hn : v = (-1)) : Go K m7 0 0 28 [.val (.ref 0), .val (.long k), .second, .val (.int 15), .val (.long mx), .second, .val (.int sl)] [] [.inl ("com/example/subsume/subsume/LongIntMap", [("keys", "[J", .ref 1), ("values", "[I", .ref 2), ("size", "I", .int sz)]), .inr (.long, ks), .inr (.int, vs)] (some (.int sl), some [.inl ("com/example/subsume/subsume/LongIntMap", [("keys", "[J", .ref 1), ("values", "[I", .ref 2), ("size", "I", .int sz)]), .inr (.long, ks), .inr (.int, vs)], 0, 0) := by
  refine Go.aloadN d7_28 rfl rfl ?_
  refine Go.getfield 1 d7_29 (hw _ (List.mem_of_getElem? (i := 21) rfl)) rfl rfl ?_
  refine Go.iload d7_32 rfl ?_
  refine Go.iaload d7_34 rfl hs hv ?_
  refine Go.iconst d7_35 (v := (-1)) rfl ?_
  refine Go.icmpT d7_36 j7_36 (XT.ii_eq_t hn) ?_
  refine Go.iload d7_62 rfl ?_
  exact Go.ireturn d7_64 rfl rfl (HOk.eq rfl)
theorem go_so_c (K : Ctx) (hw : ∀ d ∈ tables_1, d.before K.2.2.1 K.2.1 = true) (ks vs : List Value) (sz sl v : Int32) (k mx : Int64) (hs : ¬ sl < 0) (hv : vs[sl.toNatClampNeg]? = some (.int v)) (k' : Int64) (hk : ks[sl.toNatClampNeg]? = some (.long k')) (hn : ¬ v = (-1)) (heq : k' = k) : Go K m7 0 0 28 [.val (.ref 0), .val (.long k), .second, .val (.int 15), .val (.long mx), .second, .val (.int sl)] [] [.inl ("com/example/subsume/subsume/LongIntMap", [("keys", "[J", .ref 1), ("values", "[I", .ref 2), ("size", "I", .int sz)]), .inr (.long, ks), .inr (.int, vs)] (some (.int sl), some [.inl ("com/example/subsume/subsume/LongIntMap", [("keys", "[J", .ref 1), ("values", "[I", .ref 2), ("size", "I", .int sz)]), .inr (.long, ks), .inr (.int, vs)], 0, 0) := by
  refine Go.aloadN d7_28 rfl rfl ?_
  refine Go.getfield 1 d7_29 (hw _ (List.mem_of_getElem? (i := 21) rfl)) rfl rfl ?_
  refine Go.iload d7_32 rfl ?_
  refine Go.iaload d7_34 rfl hs hv ?_
  refine Go.iconst d7_35 (v := (-1)) rfl ?_
  refine Go.icmpF d7_36 (XT.ii_eq_f hn) ?_
  refine Go.aloadN d7_39 rfl rfl ?_
  refine Go.getfield 0 d7_40 (hw _ (List.mem_of_getElem? (i := 11) rfl)) rfl rfl ?_
  refine Go.iload d7_43 rfl ?_
  refine Go.laload d7_45 rfl hs hk ?_
  refine Go.lloadN d7_46 rfl ?_
  refine Go.lcmp d7_47 ?_
  refine Go.ifT d7_48 j7_48 (XT.ll_eq_t heq) ?_
  refine Go.iload d7_62 rfl ?_
  exact Go.ireturn d7_64 rfl rfl (HOk.eq rfl)
theorem go_so_0 (K : Ctx) (hw : ∀ d ∈ tables_1, d.before K.2.2.1 K.2.1 = true) (ks vs : List Value) (sz : Int32) (k : Int64) (hz : ks.length.toInt32 = 16) (rv : Option Value) (Hr : Option Hp) (h : Go K m7 0 0 28 [.val (.ref 0), .val (.long k), .second, .val (.int 15), .val (.long (k * (-7046029254386353131))), .second, .val (.int ((Int64.toInt32 ((k * (-7046029254386353131)) ^^^ (XT.ushrL (k * (-7046029254386353131)) 32))) &&& 15))] [] [.inl ("com/example/subsume/subsume/LongIntMap", [("keys", "[J", .ref 1), ("values", "[I", .ref 2), ("size", "I", .int sz)]), .inr (.long, ks), .inr (.int, vs)] (rv, Hr, 0, 0)) : Go K m7 0 0 0 [.val (.ref 0), .val (.long k), .second, .unset, .unset, .unset, .unset] [] [.inl ("com/example/subsume/subsume/LongIntMap", [("keys", "[J", .ref 1), ("values", "[I", .ref 2), ("size", "I", .int sz)]), .inr (.long, ks), .inr (.int, vs)] (rv, Hr, 0, 0) := by
  refine Go.aloadN d7_0 rfl rfl ?_
  refine Go.getfield 0 d7_1 (hw _ (List.mem_of_getElem? (i := 11) rfl)) rfl rfl ?_
  refine Go.arraylength d7_4 rfl (z := 16) hz ?_
  refine Go.iconst d7_5 (v := 1) rfl ?_
  refine Go.isub d7_6 ?_
  show Go _ _ _ _ 7 [.val (.ref 0), .val (.long k), .second, .unset, .unset, .unset, .unset] [.int 15] [.inl ("com/example/subsume/subsume/LongIntMap", [("keys", "[J", .ref 1), ("values", "[I", .ref 2), ("size", "I", .int sz)]), .inr (.long, ks), .inr (.int, vs)] _
  refine Go.istoreN d7_7 (ls' := [.val (.ref 0), .val (.long k), .second, .val (.int 15), .unset, .unset, .unset]) rfl ?_
  refine Go.lloadN d7_8 rfl ?_
  refine Go.ldc2 d7_9 (hw _ (List.mem_of_getElem? (i := 39) rfl)) ?_
  refine Go.lmul d7_12 ?_
  refine Go.lstore d7_13 (ls' := [.val (.ref 0), .val (.long k), .second, .val (.int 15), .val (.long (k * (-7046029254386353131))), .second, .unset]) rfl ?_
  refine Go.lload d7_15 rfl ?_
  refine Go.lload d7_17 rfl ?_
  refine Go.bipush d7_19 (v := 32) rfl ?_
  refine Go.lushr d7_21 ?_
  refine Go.lxor d7_22 ?_
  refine Go.l2i d7_23 ?_
  refine Go.iloadN d7_24 rfl ?_
  refine Go.iand d7_25 ?_
  refine Go.istore d7_26 (ls' := [.val (.ref 0), .val (.long k), .second, .val (.int 15), .val (.long (k * (-7046029254386353131))), .second, .val (.int ((Int64.toInt32 ((k * (-7046029254386353131)) ^^^ (XT.ushrL (k * (-7046029254386353131)) 32))) &&& 15))]) rfl ?_
  exact h
/-! open addressing, in plain lists: a slot is free (none) or holds a key and its value -/
section OA
variable {α β : Type}
def own_path (h : α → Nat) (tb : List (Option (α × β))) (k : α) (d : Nat) : Prop := ∀ e, e < d → ∃ k' v', tb[(h k + e) % tb.length]? = some (some (k', v')) ∧ k' ≠ k
def own_inv (h : α → Nat) (tb : List (Option (α × β))) : Prop := ∀ (j : Nat) (k : α) (v : β), tb[j]? = some (some (k, v)) → ∃ d, (h k + d) % tb.length = j ∧ d < tb.length ∧ own_path h tb k d
def own_fd (h : α → Nat) (tb : List (Option (α × β))) (k : α) (d : Nat) : Prop := own_path h tb k d ∧ d < tb.length ∧ (tb[(h k + d) % tb.length]? = some none ∨ ∃ v, tb[(h k + d) % tb.length]? = some (some (k, v)))
theorem own_hit (a c i : Nat) (hi : i < c) : ∃ e, e < c ∧ (a + e) % c = i := by
  have hm := Nat.mod_lt a (by omega : 0 < c)
  refine ⟨(i + c - a % c) % c, Nat.mod_lt _ (by omega), ?_⟩
  rw [Nat.add_mod_mod, Nat.add_mod, ← Nat.add_mod_mod, Nat.mod_mod]
  rw [← Nat.add_mod]
  have e : a + (i + c - a % c) = i + c * (a / c + 1) := by
    have := Nat.mod_add_div a c
    rw [Nat.mul_add, Nat.mul_one]
    omega
  rw [e, Nat.add_mul_mod_self_left, Nat.mod_eq_of_lt hi]
theorem own_fd_ex (h : α → Nat) (tb : List (Option (α × β))) (k : α) (hf : ∃ i : Nat, tb[i]? = some none) : ∃ d, own_fd h tb k d := by
  obtain ⟨i, hi⟩ := hf
  have hil := (List.getElem?_eq_some_iff.mp hi).1
  have step : ∀ n, n ≤ tb.length → (∃ d, own_fd h tb k d) ∨ own_path h tb k n := by
    intro n
    induction n with
    | zero => intro _; exact Or.inr (fun e he => absurd he (Nat.not_lt_zero _))
    | succ n ih =>
      intro hn
      rcases ih (by omega) with q | q
      · exact Or.inl q
      · have hs : (h k + n) % tb.length < tb.length := Nat.mod_lt _ (by omega)
        have hg := List.getElem?_eq_getElem hs
        cases ho : tb[(h k + n) % tb.length] with
        | none => rw [ho] at hg; exact Or.inl ⟨n, q, by omega, Or.inl hg⟩
        | some x =>
          obtain ⟨k', v'⟩ := x
          rw [ho] at hg
          by_cases e : k' = k
          · subst e; exact Or.inl ⟨n, q, by omega, Or.inr ⟨v', hg⟩⟩
          · refine Or.inr (fun e' he' => ?_)
            by_cases z : e' = n
            · subst z; exact ⟨k', v', hg, e⟩
            · exact q e' (by omega)
  rcases step tb.length (Nat.le_refl _) with q | q
  · exact q
  · obtain ⟨e, he, hm⟩ := own_hit (h k) tb.length i hil
    obtain ⟨k', v', h1, -⟩ := q e he
    rw [hm, hi] at h1
    cases h1
theorem own_absent {h : α → Nat} {tb : List (Option (α × β))} {k : α} {d : Nat} (hI : own_inv h tb) (hd : own_fd h tb k d) (hn : tb[(h k + d) % tb.length]? = some none) (j : Nat) (v : β) : tb[j]? ≠ some (some (k, v)) := by
  intro hj
  obtain ⟨d', e1, e2, e3⟩ := hI j k v hj
  rcases Nat.lt_trichotomy d d' with q | q | q
  · obtain ⟨k', v', h1, -⟩ := e3 d q
    rw [hn] at h1; cases h1
  · subst q; rw [e1, hj] at hn; cases hn
  · obtain ⟨k', v', h1, h2⟩ := hd.1 d' q
    rw [e1, hj] at h1; cases h1; exact h2 rfl
theorem own_unique {h : α → Nat} {tb : List (Option (α × β))} {k : α} {d : Nat} {v : β} (hI : own_inv h tb) (hd : own_fd h tb k d) (hv : tb[(h k + d) % tb.length]? = some (some (k, v))) {j : Nat} {v' : β} (hj : tb[j]? = some (some (k, v'))) : j = (h k + d) % tb.length := by
  obtain ⟨d', e1, e2, e3⟩ := hI j k v' hj
  rcases Nat.lt_trichotomy d d' with q | q | q
  · obtain ⟨k', w, h1, h2⟩ := e3 d q
    rw [hv] at h1; cases h1; exact absurd rfl h2
  · subst q; exact e1.symm
  · obtain ⟨k', w, h1, h2⟩ := hd.1 d' q
    rw [e1, hj] at h1; cases h1; exact absurd rfl h2
/-- where a key is found is the one place of it -/
theorem own_fd_eq {h : α → Nat} {tb : List (Option (α × β))} {k : α} {d d' : Nat} (hd : own_fd h tb k d) (hd' : own_fd h tb k d') : d = d' := by
  have key : ∀ {a b : Nat}, own_fd h tb k a → own_fd h tb k b → ¬ a < b := fun {a b} ha hb q => by
    obtain ⟨k', w, h1, h2⟩ := hb.1 a q
    rcases ha.2.2 with z | ⟨u, z⟩
    · rw [z] at h1; cases h1
    · rw [z] at h1; cases h1; exact h2 rfl
  have := key hd hd'
  have := key hd' hd
  omega
theorem own_fd_at {h : α → Nat} {tb : List (Option (α × β))} {k : α} {v : β} {j : Nat} (hI : own_inv h tb) (hj : tb[j]? = some (some (k, v))) : ∃ d, own_fd h tb k d ∧ (h k + d) % tb.length = j := by
  obtain ⟨d, e1, e2, e3⟩ := hI j k v hj
  exact ⟨d, ⟨e3, e2, Or.inr ⟨v, by rw [e1]; exact hj⟩⟩, e1⟩
theorem own_put {h : α → Nat} {tb : List (Option (α × β))} {k : α} {d : Nat} (hI : own_inv h tb) (hd : own_fd h tb k d) (v : β) : own_inv h (tb.set ((h k + d) % tb.length) (some (k, v))) := by
  have hsl : (h k + d) % tb.length < tb.length := Nat.mod_lt _ (by have := hd.2.1; omega)
  intro j k0 v0 hj
  rw [List.length_set]
  by_cases q : (h k + d) % tb.length = j
  · subst q
    rw [List.getElem?_set_self hsl] at hj
    cases hj
    refine ⟨d, rfl, hd.2.1, fun e he => ?_⟩
    rw [List.length_set]
    obtain ⟨k', v', h1, h2⟩ := hd.1 e he
    refine ⟨k', v', ?_, h2⟩
    rw [List.getElem?_set_ne ?_]
    · exact h1
    · intro z
      rw [← z] at h1
      rcases hd.2.2 with y | ⟨u, y⟩
      · rw [y] at h1; cases h1
      · rw [y] at h1; cases h1; exact h2 rfl
  · rw [List.getElem?_set_ne q] at hj
    obtain ⟨d0, e1, e2, e3⟩ := hI j k0 v0 hj
    refine ⟨d0, e1, e2, fun e he => ?_⟩
    rw [List.length_set]
    obtain ⟨k', v', h1, h2⟩ := e3 e he
    by_cases z : (h k + d) % tb.length = (h k0 + e) % tb.length
    · rw [← z] at h1 ⊢
      rw [List.getElem?_set_self hsl]
      refine ⟨k, v, rfl, ?_⟩
      rcases hd.2.2 with y | ⟨u, y⟩
      · rw [y] at h1; cases h1
      · rw [y] at h1; cases h1; exact h2
    · rw [List.getElem?_set_ne z]
      exact ⟨k', v', h1, h2⟩
def own_occ (tb : List (Option (α × β))) : List (α × β) := tb.filterMap id
theorem own_occ_mem {tb : List (Option (α × β))} {x : α × β} : x ∈ own_occ tb ↔ ∃ j : Nat, tb[j]? = some (some x) := by
  simp only [own_occ, List.mem_filterMap, id]
  constructor
  · rintro ⟨a, ha, rfl⟩
    exact List.mem_iff_getElem?.mp ha
  · rintro ⟨j, hj⟩
    exact ⟨some x, List.mem_of_getElem? hj, rfl⟩
theorem own_occ_len_new {tb : List (Option (α × β))} {j : Nat} {x : α × β} (hj : tb[j]? = some none) : (own_occ (tb.set j (some x))).length = (own_occ tb).length + 1 := by
  induction tb generalizing j with
  | nil => simp at hj
  | cons a r ih =>
    cases j with
    | zero =>
      simp only [List.getElem?_cons_zero, Option.some.injEq] at hj
      subst hj
      simp [own_occ]
    | succ j =>
      rw [List.getElem?_cons_succ] at hj
      have := ih hj
      cases a <;> simp [own_occ] at this ⊢ <;> omega
theorem own_occ_len_old {tb : List (Option (α × β))} {j : Nat} {x y : α × β} (hj : tb[j]? = some (some y)) : (own_occ (tb.set j (some x))).length = (own_occ tb).length := by
  induction tb generalizing j with
  | nil => simp at hj
  | cons a r ih =>
    cases j with
    | zero =>
      simp only [List.getElem?_cons_zero, Option.some.injEq] at hj
      subst hj
      simp [own_occ]
    | succ j =>
      rw [List.getElem?_cons_succ] at hj
      have := ih hj
      cases a <;> simp [own_occ] at this ⊢ <;> omega
theorem own_free {tb : List (Option (α × β))} (hl : (own_occ tb).length < tb.length) : ∃ i : Nat, tb[i]? = some none := by
  induction tb with
  | nil => simp at hl
  | cons a r ih =>
    cases a with
    | none => exact ⟨0, rfl⟩
    | some x =>
      have : (own_occ r).length < r.length := by simp [own_occ] at hl ⊢; omega
      obtain ⟨i, hi⟩ := ih this
      exact ⟨i + 1, by rw [List.getElem?_cons_succ]; exact hi⟩
theorem own_inv_new (h : α → Nat) (n : Nat) : own_inv h (List.replicate n (none : Option (α × β))) := fun j k v hj => by
  have := List.eq_of_mem_replicate (List.mem_of_getElem? hj)
  cases this
theorem own_occ_new (n : Nat) : own_occ (List.replicate n (none : Option (α × β))) = [] := by
  induction n with
  | zero => rfl
  | succ n ih => rw [List.replicate_succ]; exact ih
/-- what a map holds behind a put -/
def own_has (tb : List (Option (α × β))) (k : α) (v : β) : Prop := ∃ j : Nat, tb[j]? = some (some (k, v))
theorem own_put_has {h : α → Nat} {tb : List (Option (α × β))} {k : α} {d : Nat} (hI : own_inv h tb) (hd : own_fd h tb k d) (v : β) (k0 : α) (v0 : β) : own_has (tb.set ((h k + d) % tb.length) (some (k, v))) k0 v0 ↔ (k0 = k ∧ v0 = v) ∨ (k0 ≠ k ∧ own_has tb k0 v0) := by
  have hsl : (h k + d) % tb.length < tb.length := Nat.mod_lt _ (by have := hd.2.1; omega)
  constructor
  · rintro ⟨j, hj⟩
    by_cases q : (h k + d) % tb.length = j
    · subst q
      rw [List.getElem?_set_self hsl] at hj
      cases hj; exact Or.inl ⟨rfl, rfl⟩
    · rw [List.getElem?_set_ne q] at hj
      refine Or.inr ⟨fun e => ?_, j, hj⟩
      subst e
      rcases hd.2.2 with y | ⟨u, y⟩
      · exact own_absent hI hd y j v0 hj
      · exact q (own_unique hI hd y hj).symm
  · rintro (⟨rfl, rfl⟩ | ⟨ne, j, hj⟩)
    · exact ⟨_, List.getElem?_set_self hsl⟩
    · refine ⟨j, ?_⟩
      rw [List.getElem?_set_ne ?_]
      · exact hj
      · intro z
        rw [← z] at hj
        rcases hd.2.2 with y | ⟨u, y⟩
        · rw [y] at hj; cases hj
        · rw [y] at hj; cases hj; exact ne rfl
theorem own_has_fun {h : α → Nat} {tb : List (Option (α × β))} (hI : own_inv h tb) {k : α} {v v' : β} (h1 : own_has tb k v) (h2 : own_has tb k v') : v = v' := by
  obtain ⟨j, hj⟩ := h1
  obtain ⟨j', hj'⟩ := h2
  obtain ⟨d, hd, e⟩ := own_fd_at hI hj
  have := own_unique hI hd (by rw [e]; exact hj) hj'
  rw [this, e, hj] at hj'
  cases hj'; rfl
/-- how many keys behind a put -/
theorem own_put_len {h : α → Nat} {tb : List (Option (α × β))} {k : α} {d : Nat} (hd : own_fd h tb k d) (v : β) : (tb[(h k + d) % tb.length]? = some none → (own_occ (tb.set ((h k + d) % tb.length) (some (k, v)))).length = (own_occ tb).length + 1) ∧ (¬ tb[(h k + d) % tb.length]? = some none → (own_occ (tb.set ((h k + d) % tb.length) (some (k, v)))).length = (own_occ tb).length) := by
  refine ⟨fun y => own_occ_len_new y, fun y => ?_⟩
  rcases hd.2.2 with z | ⟨u, z⟩
  · exact absurd z y
  · exact own_occ_len_old z
theorem own_fd_none_iff {h : α → Nat} {tb : List (Option (α × β))} {k : α} {d : Nat} (hI : own_inv h tb) (hd : own_fd h tb k d) : tb[(h k + d) % tb.length]? = some none ↔ ∀ v, ¬ own_has tb k v := by
  constructor
  · intro y v ⟨j, hj⟩; exact own_absent hI hd y j v hj
  · intro q
    rcases hd.2.2 with y | ⟨u, y⟩
    · exact y
    · exact absurd ⟨_, y⟩ (q u)
end OA
abbrev own_T := List (Option (Int64 × Int32))
def own_k1 : Option (Int64 × Int32) → Value | none => .long 0 | some x => .long x.1
def own_v1 : Option (Int64 × Int32) → Value | none => .int (-1) | some x => .int x.2
def own_ks (tb : own_T) : List Value := tb.map own_k1
def own_vs (tb : own_T) : List Value := tb.map own_v1
def own_vok (tb : own_T) : Prop := ∀ (j : Nat) (k : Int64) (v : Int32), tb[j]? = some (some (k, v)) → ¬ v = (-1)
theorem own_ks_get {tb : own_T} {j : Nat} {x : Option (Int64 × Int32)} (h : tb[j]? = some x) : (own_ks tb)[j]? = some (own_k1 x) := by simp [own_ks, h]
theorem own_vs_get {tb : own_T} {j : Nat} {x : Option (Int64 × Int32)} (h : tb[j]? = some x) : (own_vs tb)[j]? = some (own_v1 x) := by simp [own_vs, h]
theorem own_ks_set (tb : own_T) (j : Nat) (k : Int64) (v : Int32) : (own_ks tb).set j (.long k) = own_ks (tb.set j (some (k, v))) := by simp [own_ks, List.map_set, own_k1]
theorem own_vs_set (tb : own_T) (j : Nat) (k : Int64) (v : Int32) : (own_vs tb).set j (.int v) = own_vs (tb.set j (some (k, v))) := by simp [own_vs, List.map_set, own_v1]
def own_hs (k : Int64) : Int32 := (Int64.toInt32 ((k * (-7046029254386353131)) ^^^ (XT.ushrL (k * (-7046029254386353131)) 32))) &&& 15
def own_h (k : Int64) : Nat := (own_hs k).toNatClampNeg
theorem own_m15 (x : Int32) : 0 ≤ (x &&& 15).toInt ∧ (x &&& 15).toInt < 16 := by
  have := Jvm.Kit.i32_mask x 15 (k := 4) (by decide) (by decide)
  omega
theorem own_h16 (k : Int64) : own_h k < 16 ∧ own_hs k = Int32.ofNat (own_h k) := by
  have h : 0 ≤ (own_hs k).toInt ∧ (own_hs k).toInt < 16 := own_m15 _
  have e : own_h k = (own_hs k).toInt.toNat := rfl
  refine ⟨by omega, Int32.toInt_inj.mp ?_⟩
  rw [own_i32 (by omega), e]; omega
theorem own_next (s : Nat) (h : s < 16) : (Int32.ofNat s + 1) &&& 15 = Int32.ofNat ((s + 1) % 16) := by
  apply Int32.toInt_inj.mp
  rw [own_add1, Jvm.Kit.i32_mask _ 15 (k := 4) (by decide) (by decide), own_i32 (by omega), own_i32 (by omega)]
  omega
theorem go_so_l (K : Ctx) (hw : ∀ d ∈ tables_1, d.before K.2.2.1 K.2.1 = true) (tb : own_T) (hl : tb.length = 16) (hv : own_vok tb) (sz : Int32) (k mx : Int64) (d : Nat) (hd : own_fd own_h tb k d) : ∀ n e, e + n = d →
    Go K m7 0 0 28 [.val (.ref 0), .val (.long k), .second, .val (.int 15), .val (.long mx), .second, .val (.int (Int32.ofNat ((own_h k + e) % 16)))] [] [.inl ("com/example/subsume/subsume/LongIntMap", [("keys", "[J", .ref 1), ("values", "[I", .ref 2), ("size", "I", .int sz)]), .inr (.long, (own_ks tb)), .inr (.int, (own_vs tb))] (some (.int (Int32.ofNat ((own_h k + d) % 16))), some [.inl ("com/example/subsume/subsume/LongIntMap", [("keys", "[J", .ref 1), ("values", "[I", .ref 2), ("size", "I", .int sz)]), .inr (.long, (own_ks tb)), .inr (.int, (own_vs tb))], 0, 0) := by
  intro n
  induction n with
  | zero =>
    intro e he
    obtain rfl : e = d := by omega
    have hm := Nat.mod_lt (own_h k + e) (by decide : 0 < 16)
    have hq := hd.2.2
    rw [hl] at hq
    rcases hq with q | ⟨v, q⟩
    · exact go_so_b K hw (own_ks tb) (own_vs tb) sz _ (-1) k mx (own_nneg (by omega)) (by rw [own_clamp (by omega)]; exact own_vs_get q) rfl
    · exact go_so_c K hw (own_ks tb) (own_vs tb) sz _ v k mx (own_nneg (by omega)) (by rw [own_clamp (by omega)]; exact own_vs_get q) k (by rw [own_clamp (by omega)]; exact own_ks_get q) (hv _ _ _ q) rfl
  | succ n ih =>
    intro e he
    have hm := Nat.mod_lt (own_h k + e) (by decide : 0 < 16)
    obtain ⟨k', v', q, ne⟩ := hd.1 e (by omega)
    rw [hl] at q
    refine go_so_a K hw (own_ks tb) (own_vs tb) sz _ v' k mx (own_nneg (by omega)) (by rw [own_clamp (by omega)]; exact own_vs_get q) k' (by rw [own_clamp (by omega)]; exact own_ks_get q) (hv _ _ _ q) ne _ _ ?_
    have g := ih (e + 1) (by omega)
    rw [own_next _ hm, show ((own_h k + e) % 16 + 1) % 16 = (own_h k + (e + 1)) % 16 by omega]
    exact g
theorem go_slotOf (K : Ctx) (hw : ∀ d ∈ tables_1, d.before K.2.2.1 K.2.1 = true) (tb : own_T) (hl : tb.length = 16) (hv : own_vok tb) (sz : Int32) (k : Int64) (d : Nat) (hd : own_fd own_h tb k d) :
    Go K m7 0 0 0 [.val (.ref 0), .val (.long k), .second, .unset, .unset, .unset, .unset] [] [.inl ("com/example/subsume/subsume/LongIntMap", [("keys", "[J", .ref 1), ("values", "[I", .ref 2), ("size", "I", .int sz)]), .inr (.long, (own_ks tb)), .inr (.int, (own_vs tb))] (some (.int (Int32.ofNat ((own_h k + d) % 16))), some [.inl ("com/example/subsume/subsume/LongIntMap", [("keys", "[J", .ref 1), ("values", "[I", .ref 2), ("size", "I", .int sz)]), .inr (.long, (own_ks tb)), .inr (.int, (own_vs tb))], 0, 0) := by
  have g := go_so_l K hw tb hl hv sz k (k * (-7046029254386353131)) d hd d 0 (by omega)
  rw [Nat.add_zero, Nat.mod_eq_of_lt (own_h16 k).1, ← (own_h16 k).2] at g
  exact go_so_0 K hw (own_ks tb) (own_vs tb) sz k (congrArg Nat.toInt32 (by simp [own_ks, hl])) _ _ g
theorem go_put_n (K : Ctx) (hw : ∀ d ∈ tables_1, d.before K.2.2.1 K.2.1 = true) (ks vs : List Value) (sz sl v va : Int32) (k : Int64) (hz : ks.length.toInt32 = 16) (hsz : ¬ 16 < (2 * (sz + 1))) (hg : Go K m7 0 0 0 [.val (.ref 0), .val (.long k), .second, .unset, .unset, .unset, .unset] [] [.inl ("com/example/subsume/subsume/LongIntMap", [("keys", "[J", .ref 1), ("values", "[I", .ref 2), ("size", "I", .int sz)]), .inr (.long, ks), .inr (.int, vs)] (some (.int sl), some [.inl ("com/example/subsume/subsume/LongIntMap", [("keys", "[J", .ref 1), ("values", "[I", .ref 2), ("size", "I", .int sz)]), .inr (.long, ks), .inr (.int, vs)], 0, 0)) (hs : ¬ sl < 0) (hv : vs[sl.toNatClampNeg]? = some (.int v)) (hkl : sl.toNatClampNeg < ks.length) (hn : v = (-1)) : Go K m6 1 18 0 [.val (.ref 0), .val (.long k), .second, .val (.int va), .unset] [] [.inl ("com/example/subsume/subsume/LongIntMap", [("keys", "[J", .ref 1), ("values", "[I", .ref 2), ("size", "I", .int sz)]), .inr (.long, ks), .inr (.int, vs)] (none, some [.inl ("com/example/subsume/subsume/LongIntMap", [("keys", "[J", .ref 1), ("values", "[I", .ref 2), ("size", "I", .int (sz + 1))]), .inr (.long, (ks.set sl.toNatClampNeg (.long k))), .inr (.int, (vs.set sl.toNatClampNeg (.int va)))], 0, 0) := by
  refine Go.iconst d6_0 (v := 2) rfl ?_
  refine Go.aloadN d6_1 rfl rfl ?_
  refine Go.getfield 2 d6_2 (hw _ (List.mem_of_getElem? (i := 28) rfl)) rfl rfl ?_
  refine Go.iconst d6_5 (v := 1) rfl ?_
  refine Go.iadd d6_6 ?_
  refine Go.imul d6_7 ?_
  refine Go.aloadN d6_8 rfl rfl ?_
  refine Go.getfield 0 d6_9 (hw _ (List.mem_of_getElem? (i := 11) rfl)) rfl rfl ?_
  refine Go.arraylength d6_12 rfl (z := 16) hz ?_
  refine Go.icmpT d6_13 j6_13 (XT.ii_le_t hsz) ?_
  refine Go.aloadN d6_20 rfl rfl ?_
  refine Go.lloadN d6_21 rfl ?_
  refine Go.callP (M' := m7) (i := 0) d6_22 rfl (hw _ (List.mem_of_getElem? (i := 35) rfl)) (hw _ (List.mem_of_getElem? (i := 36) rfl)) (hw _ (List.mem_of_getElem? (i := 3) rfl)) (hw _ (List.mem_of_getElem? (i := 37) rfl)) (hw _ (List.mem_of_getElem? (i := 2) rfl)) (hw _ (List.mem_of_getElem? (i := 38) rfl)) mi7 (as := [.long k]) rfl rfl (st := []) rfl (ls1 := [.val (.ref 0), .val (.long k), .second, .unset, .unset, .unset, .unset]) rfl (W := 0) rfl (by decide) (by decide) hg 0 0 (by decide) (by decide) ?_
  show Go _ _ _ _ 25 [.val (.ref 0), .val (.long k), .second, .val (.int va), .unset] [.int sl] [.inl ("com/example/subsume/subsume/LongIntMap", [("keys", "[J", .ref 1), ("values", "[I", .ref 2), ("size", "I", .int sz)]), .inr (.long, ks), .inr (.int, vs)] _
  refine Go.istore d6_25 (ls' := [.val (.ref 0), .val (.long k), .second, .val (.int va), .val (.int sl)]) rfl ?_
  refine Go.aloadN d6_27 rfl rfl ?_
  refine Go.getfield 1 d6_28 (hw _ (List.mem_of_getElem? (i := 21) rfl)) rfl rfl ?_
  refine Go.iload d6_31 rfl ?_
  refine Go.iaload d6_33 rfl hs hv ?_
  refine Go.iconst d6_34 (v := (-1)) rfl ?_
  refine Go.icmpF d6_35 (XT.ii_ne_f hn) ?_
  refine Go.aloadN d6_38 rfl rfl ?_
  refine Go.dup d6_39 rfl ?_
  refine Go.getfield 2 d6_40 (hw _ (List.mem_of_getElem? (i := 28) rfl)) rfl rfl ?_
  refine Go.iconst d6_43 (v := 1) rfl ?_
  refine Go.iadd d6_44 ?_
  refine Go.putfield 2 d6_45 (hw _ (List.mem_of_getElem? (i := 28) rfl)) (Or.inl (hw _ (List.mem_of_getElem? (i := 29) rfl))) (hw _ (List.mem_of_getElem? (i := 2) rfl)) (ty := .int) (by decide) (fun _ => ⟨rfl, rfl⟩) rfl rfl (H1 := [.inl ("com/example/subsume/subsume/LongIntMap", [("keys", "[J", .ref 1), ("values", "[I", .ref 2), ("size", "I", .int (sz + 1))]), .inr (.long, ks), .inr (.int, vs)]) rfl ?_
  refine Go.aloadN d6_48 rfl rfl ?_
  refine Go.getfield 0 d6_49 (hw _ (List.mem_of_getElem? (i := 11) rfl)) rfl rfl ?_
  refine Go.iload d6_52 rfl ?_
  refine Go.lloadN d6_54 rfl ?_
  refine Go.lastore d6_55 rfl hs hkl (H1 := [.inl ("com/example/subsume/subsume/LongIntMap", [("keys", "[J", .ref 1), ("values", "[I", .ref 2), ("size", "I", .int (sz + 1))]), .inr (.long, (ks.set sl.toNatClampNeg (.long k))), .inr (.int, vs)]) rfl ?_
  refine Go.aloadN d6_56 rfl rfl ?_
  refine Go.getfield 1 d6_57 (hw _ (List.mem_of_getElem? (i := 21) rfl)) rfl rfl ?_
  refine Go.iload d6_60 rfl ?_
  refine Go.iloadN d6_62 rfl ?_
  refine Go.iastore d6_63 rfl hs (List.getElem?_eq_some_iff.mp hv).1 (H1 := [.inl ("com/example/subsume/subsume/LongIntMap", [("keys", "[J", .ref 1), ("values", "[I", .ref 2), ("size", "I", .int (sz + 1))]), .inr (.long, (ks.set sl.toNatClampNeg (.long k))), .inr (.int, (vs.set sl.toNatClampNeg (.int va)))]) rfl ?_
  exact Go.ret d6_64 rfl rfl (HOk.eq rfl)
theorem go_put_o (K : Ctx) (hw : ∀ d ∈ tables_1, d.before K.2.2.1 K.2.1 = true) (ks vs : List Value) (sz sl v va : Int32) (k : Int64) (hz : ks.length.toInt32 = 16) (hsz : ¬ 16 < (2 * (sz + 1))) (hg : Go K m7 0 0 0 [.val (.ref 0), .val (.long k), .second, .unset, .unset, .unset, .unset] [] [.inl ("com/example/subsume/subsume/LongIntMap", [("keys", "[J", .ref 1), ("values", "[I", .ref 2), ("size", "I", .int sz)]), .inr (.long, ks), .inr (.int, vs)] (some (.int sl), some [.inl ("com/example/subsume/subsume/LongIntMap", [("keys", "[J", .ref 1), ("values", "[I", .ref 2), ("size", "I", .int sz)]), .inr (.long, ks), .inr (.int, vs)], 0, 0)) (hs : ¬ sl < 0) (hv : vs[sl.toNatClampNeg]? = some (.int v)) (hkl : sl.toNatClampNeg < ks.length) (hn : ¬ v = (-1)) : Go K m6 1 18 0 [.val (.ref 0), .val (.long k), .second, .val (.int va), .unset] [] [.inl ("com/example/subsume/subsume/LongIntMap", [("keys", "[J", .ref 1), ("values", "[I", .ref 2), ("size", "I", .int sz)]), .inr (.long, ks), .inr (.int, vs)] (none, some [.inl ("com/example/subsume/subsume/LongIntMap", [("keys", "[J", .ref 1), ("values", "[I", .ref 2), ("size", "I", .int sz)]), .inr (.long, (ks.set sl.toNatClampNeg (.long k))), .inr (.int, (vs.set sl.toNatClampNeg (.int va)))], 0, 0) := by
  refine Go.iconst d6_0 (v := 2) rfl ?_
  refine Go.aloadN d6_1 rfl rfl ?_
  refine Go.getfield 2 d6_2 (hw _ (List.mem_of_getElem? (i := 28) rfl)) rfl rfl ?_
  refine Go.iconst d6_5 (v := 1) rfl ?_
  refine Go.iadd d6_6 ?_
  refine Go.imul d6_7 ?_
  refine Go.aloadN d6_8 rfl rfl ?_
  refine Go.getfield 0 d6_9 (hw _ (List.mem_of_getElem? (i := 11) rfl)) rfl rfl ?_
  refine Go.arraylength d6_12 rfl (z := 16) hz ?_
  refine Go.icmpT d6_13 j6_13 (XT.ii_le_t hsz) ?_
  refine Go.aloadN d6_20 rfl rfl ?_
  refine Go.lloadN d6_21 rfl ?_
  refine Go.callP (M' := m7) (i := 0) d6_22 rfl (hw _ (List.mem_of_getElem? (i := 35) rfl)) (hw _ (List.mem_of_getElem? (i := 36) rfl)) (hw _ (List.mem_of_getElem? (i := 3) rfl)) (hw _ (List.mem_of_getElem? (i := 37) rfl)) (hw _ (List.mem_of_getElem? (i := 2) rfl)) (hw _ (List.mem_of_getElem? (i := 38) rfl)) mi7 (as := [.long k]) rfl rfl (st := []) rfl (ls1 := [.val (.ref 0), .val (.long k), .second, .unset, .unset, .unset, .unset]) rfl (W := 0) rfl (by decide) (by decide) hg 0 0 (by decide) (by decide) ?_
  show Go _ _ _ _ 25 [.val (.ref 0), .val (.long k), .second, .val (.int va), .unset] [.int sl] [.inl ("com/example/subsume/subsume/LongIntMap", [("keys", "[J", .ref 1), ("values", "[I", .ref 2), ("size", "I", .int sz)]), .inr (.long, ks), .inr (.int, vs)] _
  refine Go.istore d6_25 (ls' := [.val (.ref 0), .val (.long k), .second, .val (.int va), .val (.int sl)]) rfl ?_
  refine Go.aloadN d6_27 rfl rfl ?_
  refine Go.getfield 1 d6_28 (hw _ (List.mem_of_getElem? (i := 21) rfl)) rfl rfl ?_
  refine Go.iload d6_31 rfl ?_
  refine Go.iaload d6_33 rfl hs hv ?_
  refine Go.iconst d6_34 (v := (-1)) rfl ?_
  refine Go.icmpT d6_35 j6_35 (XT.ii_ne_t hn) ?_
  refine Go.aloadN d6_48 rfl rfl ?_
  refine Go.getfield 0 d6_49 (hw _ (List.mem_of_getElem? (i := 11) rfl)) rfl rfl ?_
  refine Go.iload d6_52 rfl ?_
  refine Go.lloadN d6_54 rfl ?_
  refine Go.lastore d6_55 rfl hs hkl (H1 := [.inl ("com/example/subsume/subsume/LongIntMap", [("keys", "[J", .ref 1), ("values", "[I", .ref 2), ("size", "I", .int sz)]), .inr (.long, (ks.set sl.toNatClampNeg (.long k))), .inr (.int, vs)]) rfl ?_
  refine Go.aloadN d6_56 rfl rfl ?_
  refine Go.getfield 1 d6_57 (hw _ (List.mem_of_getElem? (i := 21) rfl)) rfl rfl ?_
  refine Go.iload d6_60 rfl ?_
  refine Go.iloadN d6_62 rfl ?_
  refine Go.iastore d6_63 rfl hs (List.getElem?_eq_some_iff.mp hv).1 (H1 := [.inl ("com/example/subsume/subsume/LongIntMap", [("keys", "[J", .ref 1), ("values", "[I", .ref 2), ("size", "I", .int sz)]), .inr (.long, (ks.set sl.toNatClampNeg (.long k))), .inr (.int, (vs.set sl.toNatClampNeg (.int va)))]) rfl ?_
  exact Go.ret d6_64 rfl rfl (HOk.eq rfl)
def own_mem (tb : own_T) (k : Int64) : Prop := ∃ v, own_has tb k v
def own_okT (tb : own_T) (n : Nat) : Prop := tb.length = 16 ∧ own_vok tb ∧ own_inv own_h tb ∧ (own_occ tb).length ≤ n
theorem own_sz {n : Nat} (h : n ≤ 5) : ¬ (16 : Int32) < 2 * (Int32.ofNat n + 1) := by
  rcases (by omega : n = 0 ∨ n = 1 ∨ n = 2 ∨ n = 3 ∨ n = 4 ∨ n = 5) with rfl | rfl | rfl | rfl | rfl | rfl <;> decide
theorem go_put (K : Ctx) (hw : ∀ d ∈ tables_1, d.before K.2.2.1 K.2.1 = true) (tb : own_T) (n : Nat) (hT : own_okT tb n) (hn : n ≤ 5) (k : Int64) (va : Int32) (hva : ¬ va = (-1)) :
    ∃ tb' : own_T, own_okT tb' (n + 1) ∧ (∀ x, own_mem tb' x ↔ x = k ∨ own_mem tb x) ∧ (own_mem tb k → (own_occ tb').length = (own_occ tb).length) ∧ (¬ own_mem tb k → (own_occ tb').length = (own_occ tb).length + 1) ∧
      Go K m6 1 18 0 [.val (.ref 0), .val (.long k), .second, .val (.int va), .unset] [] [.inl ("com/example/subsume/subsume/LongIntMap", [("keys", "[J", .ref 1), ("values", "[I", .ref 2), ("size", "I", .int (Int32.ofNat (own_occ tb).length))]), .inr (.long, (own_ks tb)), .inr (.int, (own_vs tb))] (none, some [.inl ("com/example/subsume/subsume/LongIntMap", [("keys", "[J", .ref 1), ("values", "[I", .ref 2), ("size", "I", .int (Int32.ofNat (own_occ tb').length))]), .inr (.long, (own_ks tb')), .inr (.int, (own_vs tb'))], 0, 0) := by
  obtain ⟨hl, hv, hI, ho⟩ := hT
  obtain ⟨d, hd⟩ := own_fd_ex own_h tb k (own_free (by omega))
  have g0 := go_slotOf K hw tb hl hv (Int32.ofNat (own_occ tb).length) k d hd
  have hm := Nat.mod_lt (own_h k + d) (by decide : 0 < 16)
  have hset := own_put_has hI hd va
  have hinv := own_put hI hd va
  have hlen := own_put_len hd va
  have hnone := own_fd_none_iff hI hd
  have hq := hd.2.2
  rw [hl] at hset hinv hlen hnone hq
  obtain ⟨s, es⟩ : ∃ s, s = (own_h k + d) % 16 := ⟨_, rfl⟩
  rw [← es] at g0 hm hset hinv hlen hnone hq
  have hz : (own_ks tb).length.toInt32 = 16 := congrArg Nat.toInt32 (by simp [own_ks, hl])
  have hsz := own_sz (n := (own_occ tb).length) (by omega)
  have hkl : (Int32.ofNat s).toNatClampNeg < (own_ks tb).length := by rw [own_clamp (by omega)]; simp only [own_ks, List.length_map]; omega
  have hvok : own_vok (tb.set s (some (k, va))) := fun j k0 v0 hj => by
    by_cases q : s = j
    · subst q; rw [List.getElem?_set_self (by omega)] at hj; cases hj; exact hva
    · rw [List.getElem?_set_ne q] at hj; exact hv j k0 v0 hj
  have hmem : ∀ x, own_mem (tb.set s (some (k, va))) x ↔ x = k ∨ own_mem tb x := fun x => by
    constructor
    · rintro ⟨v, z⟩
      rcases (hset x v).mp z with ⟨e, -⟩ | ⟨-, z⟩
      · exact Or.inl e
      · exact Or.inr ⟨v, z⟩
    · intro z
      by_cases e : x = k
      · exact ⟨va, (hset x va).mpr (Or.inl ⟨e, rfl⟩)⟩
      · rcases z with z | ⟨v, z⟩
        · exact absurd z e
        · exact ⟨v, (hset x v).mpr (Or.inr ⟨e, z⟩)⟩
  have hnm : tb[s]? = some none ↔ ¬ own_mem tb k := hnone.trans ⟨fun q z => by obtain ⟨v, z⟩ := z; exact q v z, fun q v z => q ⟨v, z⟩⟩
  have cl := own_clamp (n := s) (by omega)
  by_cases q : tb[s]? = some none
  · refine ⟨tb.set s (some (k, va)), ⟨by rw [List.length_set]; exact hl, hvok, hinv, by rw [hlen.1 q]; omega⟩, hmem, fun z => absurd z (hnm.mp q), fun _ => hlen.1 q, ?_⟩
    have g := go_put_n K hw (own_ks tb) (own_vs tb) (Int32.ofNat (own_occ tb).length) (Int32.ofNat s) (-1) va k hz hsz g0 (own_nneg (by omega)) (by rw [cl]; exact own_vs_get q) hkl rfl
    rw [cl, own_ks_set tb s k va, own_vs_set tb s k va, own_add1, ← hlen.1 q] at g
    exact g
  · have hq' : ∃ v, tb[s]? = some (some (k, v)) := by
      rcases hq with z | z
      · exact absurd z q
      · exact z
    obtain ⟨v, hv'⟩ := hq'
    refine ⟨tb.set s (some (k, va)), ⟨by rw [List.length_set]; exact hl, hvok, hinv, by rw [hlen.2 q]; omega⟩, hmem, fun _ => hlen.2 q, fun z => absurd (hnm.mpr z) q, ?_⟩
    have g := go_put_o K hw (own_ks tb) (own_vs tb) (Int32.ofNat (own_occ tb).length) (Int32.ofNat s) v va k hz hsz g0 (own_nneg (by omega)) (by rw [cl]; exact own_vs_get hv') hkl (hv _ _ _ hv')
    rw [cl, own_ks_set tb s k va, own_vs_set tb s k va] at g
    rw [hlen.2 q]
    exact g
theorem go_ky_a (K : Ctx) (hw : ∀ d ∈ tables_1, d.before K.2.2.1 K.2.1 = true) (ks vs rs : List Value) (sz c i : Int32) (hz : ks.length.toInt32 = 16) (v : Int32) (k : Int64) (hlt : i < 16) (hi : ¬ i < 0) (hv : vs[i.toNatClampNeg]? = some (.int v)) (hn : ¬ v = (-1)) (hk : ks[i.toNatClampNeg]? = some (.long k)) (hc : ¬ c < 0) (hcl : c.toNatClampNeg < rs.length) (rv : Option Value) (Hr : Option Hp) (h : Go K m5 0 0 11 [.val (.ref 0), .val (.ref 3), .val (.int (c + 1)), .val (.int (i + 1))] [] [.inl ("com/example/subsume/subsume/LongIntMap", [("keys", "[J", .ref 1), ("values", "[I", .ref 2), ("size", "I", .int sz)]), .inr (.long, ks), .inr (.int, vs), .inr (.long, (rs.set c.toNatClampNeg (.long k)))] (rv, Hr, 0, 0)) : Go K m5 0 0 11 [.val (.ref 0), .val (.ref 3), .val (.int c), .val (.int i)] [] [.inl ("com/example/subsume/subsume/LongIntMap", [("keys", "[J", .ref 1), ("values", "[I", .ref 2), ("size", "I", .int sz)]), .inr (.long, ks), .inr (.int, vs), .inr (.long, rs)] (rv, Hr, 0, 0) := by
  refine Go.iloadN d5_11 rfl ?_
  refine Go.aloadN d5_12 rfl rfl ?_
  refine Go.getfield 0 d5_13 (hw _ (List.mem_of_getElem? (i := 11) rfl)) rfl rfl ?_
  refine Go.arraylength d5_16 rfl (z := 16) hz ?_
  refine Go.icmpF d5_17 (XT.ii_ge_f hlt) ?_
  refine Go.aloadN d5_20 rfl rfl ?_
  refine Go.getfield 1 d5_21 (hw _ (List.mem_of_getElem? (i := 21) rfl)) rfl rfl ?_
  refine Go.iloadN d5_24 rfl ?_
  refine Go.iaload d5_25 rfl hi hv ?_
  refine Go.iconst d5_26 (v := (-1)) rfl ?_
  refine Go.icmpF d5_27 (XT.ii_eq_f hn) ?_
  refine Go.aloadN d5_30 rfl rfl ?_
  refine Go.iloadN d5_31 rfl ?_
  refine Go.iinc d5_32 (v := 1) rfl rfl (ls' := [.val (.ref 0), .val (.ref 3), .val (.int (c + 1)), .val (.int i)]) rfl ?_
  refine Go.aloadN d5_35 rfl rfl ?_
  refine Go.getfield 0 d5_36 (hw _ (List.mem_of_getElem? (i := 11) rfl)) rfl rfl ?_
  refine Go.iloadN d5_39 rfl ?_
  refine Go.laload d5_40 rfl hi hk ?_
  refine Go.lastore d5_41 rfl hc hcl (H1 := [.inl ("com/example/subsume/subsume/LongIntMap", [("keys", "[J", .ref 1), ("values", "[I", .ref 2), ("size", "I", .int sz)]), .inr (.long, ks), .inr (.int, vs), .inr (.long, (rs.set c.toNatClampNeg (.long k)))]) rfl ?_
  refine Go.iinc d5_42 (v := 1) rfl rfl (ls' := [.val (.ref 0), .val (.ref 3), .val (.int (c + 1)), .val (.int (i + 1))]) rfl ?_
  refine Go.goto d5_45 j5_45 ?_
  exact h
theorem go_ky_b (K : Ctx) (hw : ∀ d ∈ tables_1, d.before K.2.2.1 K.2.1 = true) (ks vs rs : List Value) (sz c i : Int32) (hz : ks.length.toInt32 = 16) (v : Int32) (hlt : i < 16) (hi : ¬ i < 0) (hv : vs[i.toNatClampNeg]? = some (.int v)) (hn : v = (-1)) (rv : Option Value) (Hr : Option Hp) (h : Go K m5 0 0 11 [.val (.ref 0), .val (.ref 3), .val (.int c), .val (.int (i + 1))] [] [.inl ("com/example/subsume/subsume/LongIntMap", [("keys", "[J", .ref 1), ("values", "[I", .ref 2), ("size", "I", .int sz)]), .inr (.long, ks), .inr (.int, vs), .inr (.long, rs)] (rv, Hr, 0, 0)) : Go K m5 0 0 11 [.val (.ref 0), .val (.ref 3), .val (.int c), .val (.int i)] [] [.inl ("com/example/subsume/subsume/LongIntMap", [("keys", "[J", .ref 1), ("values", "[I", .ref 2), ("size", "I", .int sz)]), .inr (.long, ks), .inr (.int, vs), .inr (.long, rs)] (rv, Hr, 0, 0) := by
  refine Go.iloadN d5_11 rfl ?_
  refine Go.aloadN d5_12 rfl rfl ?_
  refine Go.getfield 0 d5_13 (hw _ (List.mem_of_getElem? (i := 11) rfl)) rfl rfl ?_
  refine Go.arraylength d5_16 rfl (z := 16) hz ?_
  refine Go.icmpF d5_17 (XT.ii_ge_f hlt) ?_
  refine Go.aloadN d5_20 rfl rfl ?_
  refine Go.getfield 1 d5_21 (hw _ (List.mem_of_getElem? (i := 21) rfl)) rfl rfl ?_
  refine Go.iloadN d5_24 rfl ?_
  refine Go.iaload d5_25 rfl hi hv ?_
  refine Go.iconst d5_26 (v := (-1)) rfl ?_
  refine Go.icmpT d5_27 j5_27 (XT.ii_eq_t hn) ?_
  refine Go.iinc d5_42 (v := 1) rfl rfl (ls' := [.val (.ref 0), .val (.ref 3), .val (.int c), .val (.int (i + 1))]) rfl ?_
  refine Go.goto d5_45 j5_45 ?_
  exact h
theorem go_ky_c (K : Ctx) (hw : ∀ d ∈ tables_1, d.before K.2.2.1 K.2.1 = true) (ks vs rs : List Value) (sz c i : Int32) (hz : ks.length.toInt32 = 16) (hge : ¬ i < 16) : Go K m5 0 0 11 [.val (.ref 0), .val (.ref 3), .val (.int c), .val (.int i)] [] [.inl ("com/example/subsume/subsume/LongIntMap", [("keys", "[J", .ref 1), ("values", "[I", .ref 2), ("size", "I", .int sz)]), .inr (.long, ks), .inr (.int, vs), .inr (.long, rs)] (some (.ref 3), some [.inl ("com/example/subsume/subsume/LongIntMap", [("keys", "[J", .ref 1), ("values", "[I", .ref 2), ("size", "I", .int sz)]), .inr (.long, ks), .inr (.int, vs), .inr (.long, rs)], 0, 0) := by
  refine Go.iloadN d5_11 rfl ?_
  refine Go.aloadN d5_12 rfl rfl ?_
  refine Go.getfield 0 d5_13 (hw _ (List.mem_of_getElem? (i := 11) rfl)) rfl rfl ?_
  refine Go.arraylength d5_16 rfl (z := 16) hz ?_
  refine Go.icmpT d5_17 j5_17 (XT.ii_ge_t hge) ?_
  refine Go.aloadN d5_48 rfl rfl ?_
  exact Go.areturn d5_49 rfl rfl rfl rfl (HOk.eq rfl)
theorem go_ky_0 (K : Ctx) (hw : ∀ d ∈ tables_1, d.before K.2.2.1 K.2.1 = true) (ks vs : List Value) (n : Nat) (hn : n ≤ 5) (rv : Option Value) (Hr : Option Hp) (h : Go K m5 0 0 11 [.val (.ref 0), .val (.ref 3), .val (.int 0), .val (.int 0)] [] [.inl ("com/example/subsume/subsume/LongIntMap", [("keys", "[J", .ref 1), ("values", "[I", .ref 2), ("size", "I", .int (Int32.ofNat n))]), .inr (.long, ks), .inr (.int, vs), .inr (.long, (List.replicate n (.long 0)))] (rv, Hr, 0, 0)) : Go K m5 0 0 0 [.val (.ref 0), .unset, .unset, .unset] [] [.inl ("com/example/subsume/subsume/LongIntMap", [("keys", "[J", .ref 1), ("values", "[I", .ref 2), ("size", "I", .int (Int32.ofNat n))]), .inr (.long, ks), .inr (.int, vs)] (rv, Hr, 1, 5) := by
  refine Go.aloadN d5_0 rfl rfl ?_
  refine Go.getfield 2 d5_1 (hw _ (List.mem_of_getElem? (i := 28) rfl)) rfl rfl ?_
  refine Go.newarray 5 d5_4 (hw _ (List.mem_of_getElem? (i := 10) rfl)) (t := .long) rfl (own_nneg (by omega)) (by rw [own_clamp (by omega)]; omega) (by decide) (vs := (List.replicate n (.long 0))) (by rw [own_clamp (by omega)]; rfl) (i := 3) rfl 0 0 (by decide) (by decide) ?_
  show Go _ _ _ _ 6 [.val (.ref 0), .unset, .unset, .unset] [.ref 3] [.inl ("com/example/subsume/subsume/LongIntMap", [("keys", "[J", .ref 1), ("values", "[I", .ref 2), ("size", "I", .int (Int32.ofNat n))]), .inr (.long, ks), .inr (.int, vs), .inr (.long, (List.replicate n (.long 0)))] _
  refine Go.astoreN d5_6 (ls' := [.val (.ref 0), .val (.ref 3), .unset, .unset]) rfl rfl ?_
  refine Go.iconst d5_7 (v := 0) rfl ?_
  refine Go.istoreN d5_8 (ls' := [.val (.ref 0), .val (.ref 3), .val (.int 0), .unset]) rfl ?_
  refine Go.iconst d5_9 (v := 0) rfl ?_
  refine Go.istoreN d5_10 (ls' := [.val (.ref 0), .val (.ref 3), .val (.int 0), .val (.int 0)]) rfl ?_
  exact h
def own_rs (xs : List (Int64 × Int32)) (n : Nat) : List Value := xs.map (fun x => Value.long x.1) ++ List.replicate n (.long 0)
theorem own_take_some {tb : own_T} {i : Nat} {x : Int64 × Int32} (h : tb[i]? = some (some x)) : own_occ (tb.take (i + 1)) = own_occ (tb.take i) ++ [x] := by
  have hl := (List.getElem?_eq_some_iff.mp h).1
  have hg : tb[i] = some x := Option.some.inj ((List.getElem?_eq_getElem hl).symm.trans h)
  rw [List.take_succ_eq_append_getElem hl, hg]
  simp [own_occ]
theorem own_take_none {tb : own_T} {i : Nat} (h : tb[i]? = some none) : own_occ (tb.take (i + 1)) = own_occ (tb.take i) := by
  have hl := (List.getElem?_eq_some_iff.mp h).1
  have hg : tb[i] = none := Option.some.inj ((List.getElem?_eq_getElem hl).symm.trans h)
  rw [List.take_succ_eq_append_getElem hl, hg]
  simp [own_occ]
theorem own_take_le (tb : own_T) (i : Nat) : (own_occ (tb.take i)).length ≤ (own_occ tb).length := by
  have e : own_occ tb = own_occ (tb.take i) ++ own_occ (tb.drop i) := by
    simp only [own_occ]
    rw [← List.filterMap_append, List.take_append_drop]
  rw [e, List.length_append]; omega
theorem own_rs_set (xs : List (Int64 × Int32)) (x : Int64 × Int32) (n : Nat) : (own_rs xs (n + 1)).set xs.length (.long x.1) = own_rs (xs ++ [x]) n := by
  simp [own_rs, List.set_append, List.replicate_succ]
theorem go_ky_l (K : Ctx) (hw : ∀ d ∈ tables_1, d.before K.2.2.1 K.2.1 = true) (tb : own_T) (hl : tb.length = 16) (hv : own_vok tb) (hn : (own_occ tb).length ≤ 5) : ∀ n i, i + n = 16 →
    Go K m5 0 0 11 [.val (.ref 0), .val (.ref 3), .val (.int (Int32.ofNat (own_occ (tb.take i)).length)), .val (.int (Int32.ofNat i))] [] [.inl ("com/example/subsume/subsume/LongIntMap", [("keys", "[J", .ref 1), ("values", "[I", .ref 2), ("size", "I", .int (Int32.ofNat (own_occ tb).length))]), .inr (.long, (own_ks tb)), .inr (.int, (own_vs tb)), .inr (.long, (own_rs (own_occ (tb.take i)) ((own_occ tb).length - (own_occ (tb.take i)).length)))] (some (.ref 3), some [.inl ("com/example/subsume/subsume/LongIntMap", [("keys", "[J", .ref 1), ("values", "[I", .ref 2), ("size", "I", .int (Int32.ofNat (own_occ tb).length))]), .inr (.long, (own_ks tb)), .inr (.int, (own_vs tb)), .inr (.long, (own_rs (own_occ tb) 0))], 0, 0) := by
  have hz : (own_ks tb).length.toInt32 = 16 := congrArg Nat.toInt32 (by simp [own_ks, hl])
  intro n
  induction n with
  | zero =>
    intro i hi
    obtain rfl : i = 16 := by omega
    rw [List.take_of_length_le (by omega), Nat.sub_self]
    exact go_ky_c K hw _ _ _ _ _ _ hz (by decide)
  | succ n ih =>
    intro i hi
    have hlt : Int32.ofNat i < 16 := (own_lt (c := 16) (by omega) (by omega)).mpr (by omega)
    have hg : tb[i]? = some tb[i] := List.getElem?_eq_getElem (by omega)
    have g := ih (i + 1) (by omega)
    cases ho : tb[i] with
    | none =>
      rw [ho] at hg
      refine go_ky_b K hw _ _ _ _ _ _ hz (-1) hlt (own_nneg (by omega)) (by rw [own_clamp (by omega)]; exact own_vs_get hg) rfl _ _ ?_
      rw [own_take_none hg] at g
      rw [own_add1]
      exact g
    | some x =>
      rw [ho] at hg
      have hle := own_take_le tb (i + 1)
      rw [own_take_some hg, List.length_append, List.length_singleton] at hle
      refine go_ky_a K hw _ _ _ _ _ _ hz x.2 x.1 hlt (own_nneg (by omega)) (by rw [own_clamp (by omega)]; exact own_vs_get hg) (hv _ _ _ hg) (by rw [own_clamp (by omega)]; exact own_ks_get hg) (own_nneg (by omega)) (by rw [own_clamp (by omega)]; simp only [own_rs, List.length_append, List.length_map, List.length_replicate]; omega) _ _ ?_
      rw [own_take_some hg, List.length_append, List.length_singleton] at g
      rw [own_add1, own_add1, own_clamp (by omega), show (own_occ tb).length - (own_occ (tb.take i)).length = ((own_occ tb).length - ((own_occ (tb.take i)).length + 1)) + 1 by omega, own_rs_set]
      exact g
theorem go_keys (K : Ctx) (hw : ∀ d ∈ tables_1, d.before K.2.2.1 K.2.1 = true) (tb : own_T) (hl : tb.length = 16) (hv : own_vok tb) (hn : (own_occ tb).length ≤ 5) :
    Go K m5 0 0 0 [.val (.ref 0), .unset, .unset, .unset] [] [.inl ("com/example/subsume/subsume/LongIntMap", [("keys", "[J", .ref 1), ("values", "[I", .ref 2), ("size", "I", .int (Int32.ofNat (own_occ tb).length))]), .inr (.long, (own_ks tb)), .inr (.int, (own_vs tb))] (some (.ref 3), some [.inl ("com/example/subsume/subsume/LongIntMap", [("keys", "[J", .ref 1), ("values", "[I", .ref 2), ("size", "I", .int (Int32.ofNat (own_occ tb).length))]), .inr (.long, (own_ks tb)), .inr (.int, (own_vs tb)), .inr (.long, (own_rs (own_occ tb) 0))], 1, 5) := by
  refine go_ky_0 K hw _ _ (own_occ tb).length hn _ _ ?_
  exact go_ky_l K hw tb hl hv hn 16 0 (by omega)
def own_hs0 ( k : Int64) : Int32 := 0
theorem go_own_hs0 (K : Ctx) (hw : ∀ d ∈ tables_1, d.before K.2.2.1 K.2.1 = true) (H : Hp) ( k : Int64) (hH : H[3]? = some (.inr (.long, []))) : Go K m8 0 0 0 [.val (.ref 3), .val (.long k), .second] [] H (some (.int (own_hs0  k)), some H, 0, 0) := by
  refine Go.aloadN d8_0 rfl rfl ?_
  refine Go.arraylength d8_1 hH (z := 0) rfl ?_
  refine Go.ifT d8_2 j8_2 (XT.i0_le_t (by decide)) ?_
  refine Go.aloadN d8_15 rfl rfl ?_
  refine Go.arraylength d8_16 hH (z := 0) rfl ?_
  refine Go.iconst d8_17 (v := 1) rfl ?_
  refine Go.icmpT d8_18 j8_18 (XT.ii_le_t (by decide)) ?_
  refine Go.aloadN d8_31 rfl rfl ?_
  refine Go.arraylength d8_32 hH (z := 0) rfl ?_
  refine Go.iconst d8_33 (v := 2) rfl ?_
  refine Go.icmpT d8_34 j8_34 (XT.ii_le_t (by decide)) ?_
  refine Go.aloadN d8_47 rfl rfl ?_
  refine Go.arraylength d8_48 hH (z := 0) rfl ?_
  refine Go.iconst d8_49 (v := 3) rfl ?_
  refine Go.icmpT d8_50 j8_50 (XT.ii_le_t (by decide)) ?_
  refine Go.iconst d8_63 (v := 0) rfl ?_
  exact Go.ireturnZ d8_64 rfl (by decide) (by rw [own_hs0]) (HOk.eq rfl)
theorem own_hsv0 (k : Int64) (h : k ∈ ([] : List Int64)) : ¬ own_hs0 k = 0 := by simp at h
def own_hs1 (a0 k : Int64) : Int32 := (if a0 = k then 1 else 0)
theorem go_own_hs1 (K : Ctx) (hw : ∀ d ∈ tables_1, d.before K.2.2.1 K.2.1 = true) (H : Hp) (a0 k : Int64) (hH : H[3]? = some (.inr (.long, [.long a0]))) : Go K m8 0 0 0 [.val (.ref 3), .val (.long k), .second] [] H (some (.int (own_hs1 a0 k)), some H, 0, 0) := by
  refine Go.aloadN d8_0 rfl rfl ?_
  refine Go.arraylength d8_1 hH (z := 1) rfl ?_
  refine Go.ifF d8_2 (XT.i0_le_f (by decide)) ?_
  refine Go.aloadN d8_5 rfl rfl ?_
  refine Go.iconst d8_6 (v := 0) rfl ?_
  refine Go.laload d8_7 hH (by decide) rfl ?_
  refine Go.lloadN d8_8 rfl ?_
  refine Go.lcmp d8_9 ?_
  refine Go.lif_ne d8_10 j8_10 (fun h10 => ?_) (fun h10 => ?_)
  · -- pc 10 taken
    refine Go.aloadN d8_15 rfl rfl ?_
    refine Go.arraylength d8_16 hH (z := 1) rfl ?_
    refine Go.iconst d8_17 (v := 1) rfl ?_
    refine Go.icmpT d8_18 j8_18 (XT.ii_le_t (by decide)) ?_
    refine Go.aloadN d8_31 rfl rfl ?_
    refine Go.arraylength d8_32 hH (z := 1) rfl ?_
    refine Go.iconst d8_33 (v := 2) rfl ?_
    refine Go.icmpT d8_34 j8_34 (XT.ii_le_t (by decide)) ?_
    refine Go.aloadN d8_47 rfl rfl ?_
    refine Go.arraylength d8_48 hH (z := 1) rfl ?_
    refine Go.iconst d8_49 (v := 3) rfl ?_
    refine Go.icmpT d8_50 j8_50 (XT.ii_le_t (by decide)) ?_
    refine Go.iconst d8_63 (v := 0) rfl ?_
    exact Go.ireturnZ d8_64 rfl (by decide) (by rw [own_hs1, if_neg h10]) (HOk.eq rfl)
  · -- pc 10 not taken
    refine Go.iconst d8_13 (v := 1) rfl ?_
    exact Go.ireturnZ d8_14 rfl (by decide) (by rw [own_hs1, if_pos h10]) (HOk.eq rfl)
theorem own_hsv1 (a0 k : Int64) (h : k ∈ [a0]) : ¬ own_hs1 a0 k = 0 := by
  simp only [List.mem_cons, List.not_mem_nil, or_false] at h
  simp only [own_hs1]
  rcases h with rfl <;> (repeat' split) <;> simp_all
def own_hs2 (a0 a1 k : Int64) : Int32 := (if a0 = k then 1 else (if a1 = k then 1 else 0))
theorem go_own_hs2 (K : Ctx) (hw : ∀ d ∈ tables_1, d.before K.2.2.1 K.2.1 = true) (H : Hp) (a0 a1 k : Int64) (hH : H[3]? = some (.inr (.long, [.long a0, .long a1]))) : Go K m8 0 0 0 [.val (.ref 3), .val (.long k), .second] [] H (some (.int (own_hs2 a0 a1 k)), some H, 0, 0) := by
  refine Go.aloadN d8_0 rfl rfl ?_
  refine Go.arraylength d8_1 hH (z := 2) rfl ?_
  refine Go.ifF d8_2 (XT.i0_le_f (by decide)) ?_
  refine Go.aloadN d8_5 rfl rfl ?_
  refine Go.iconst d8_6 (v := 0) rfl ?_
  refine Go.laload d8_7 hH (by decide) rfl ?_
  refine Go.lloadN d8_8 rfl ?_
  refine Go.lcmp d8_9 ?_
  refine Go.lif_ne d8_10 j8_10 (fun h10 => ?_) (fun h10 => ?_)
  · -- pc 10 taken
    refine Go.aloadN d8_15 rfl rfl ?_
    refine Go.arraylength d8_16 hH (z := 2) rfl ?_
    refine Go.iconst d8_17 (v := 1) rfl ?_
    refine Go.icmpF d8_18 (XT.ii_le_f (by decide)) ?_
    refine Go.aloadN d8_21 rfl rfl ?_
    refine Go.iconst d8_22 (v := 1) rfl ?_
    refine Go.laload d8_23 hH (by decide) rfl ?_
    refine Go.lloadN d8_24 rfl ?_
    refine Go.lcmp d8_25 ?_
    refine Go.lif_ne d8_26 j8_26 (fun h26 => ?_) (fun h26 => ?_)
    · -- pc 26 taken
      refine Go.aloadN d8_31 rfl rfl ?_
      refine Go.arraylength d8_32 hH (z := 2) rfl ?_
      refine Go.iconst d8_33 (v := 2) rfl ?_
      refine Go.icmpT d8_34 j8_34 (XT.ii_le_t (by decide)) ?_
      refine Go.aloadN d8_47 rfl rfl ?_
      refine Go.arraylength d8_48 hH (z := 2) rfl ?_
      refine Go.iconst d8_49 (v := 3) rfl ?_
      refine Go.icmpT d8_50 j8_50 (XT.ii_le_t (by decide)) ?_
      refine Go.iconst d8_63 (v := 0) rfl ?_
      exact Go.ireturnZ d8_64 rfl (by decide) (by rw [own_hs2, if_neg h10, if_neg h26]) (HOk.eq rfl)
    · -- pc 26 not taken
      refine Go.iconst d8_29 (v := 1) rfl ?_
      exact Go.ireturnZ d8_30 rfl (by decide) (by rw [own_hs2, if_neg h10, if_pos h26]) (HOk.eq rfl)
  · -- pc 10 not taken
    refine Go.iconst d8_13 (v := 1) rfl ?_
    exact Go.ireturnZ d8_14 rfl (by decide) (by rw [own_hs2, if_pos h10]) (HOk.eq rfl)
theorem own_hsv2 (a0 a1 k : Int64) (h : k ∈ [a0, a1]) : ¬ own_hs2 a0 a1 k = 0 := by
  simp only [List.mem_cons, List.not_mem_nil, or_false] at h
  simp only [own_hs2]
  rcases h with rfl | rfl <;> (repeat' split) <;> simp_all
def own_hs3 (a0 a1 a2 k : Int64) : Int32 := (if a0 = k then 1 else (if a1 = k then 1 else (if a2 = k then 1 else 0)))
theorem go_own_hs3 (K : Ctx) (hw : ∀ d ∈ tables_1, d.before K.2.2.1 K.2.1 = true) (H : Hp) (a0 a1 a2 k : Int64) (hH : H[3]? = some (.inr (.long, [.long a0, .long a1, .long a2]))) : Go K m8 0 0 0 [.val (.ref 3), .val (.long k), .second] [] H (some (.int (own_hs3 a0 a1 a2 k)), some H, 0, 0) := by
  refine Go.aloadN d8_0 rfl rfl ?_
  refine Go.arraylength d8_1 hH (z := 3) rfl ?_
  refine Go.ifF d8_2 (XT.i0_le_f (by decide)) ?_
  refine Go.aloadN d8_5 rfl rfl ?_
  refine Go.iconst d8_6 (v := 0) rfl ?_
  refine Go.laload d8_7 hH (by decide) rfl ?_
  refine Go.lloadN d8_8 rfl ?_
  refine Go.lcmp d8_9 ?_
  refine Go.lif_ne d8_10 j8_10 (fun h10 => ?_) (fun h10 => ?_)
  · -- pc 10 taken
    refine Go.aloadN d8_15 rfl rfl ?_
    refine Go.arraylength d8_16 hH (z := 3) rfl ?_
    refine Go.iconst d8_17 (v := 1) rfl ?_
    refine Go.icmpF d8_18 (XT.ii_le_f (by decide)) ?_
    refine Go.aloadN d8_21 rfl rfl ?_
    refine Go.iconst d8_22 (v := 1) rfl ?_
    refine Go.laload d8_23 hH (by decide) rfl ?_
    refine Go.lloadN d8_24 rfl ?_
    refine Go.lcmp d8_25 ?_
    refine Go.lif_ne d8_26 j8_26 (fun h26 => ?_) (fun h26 => ?_)
    · -- pc 26 taken
      refine Go.aloadN d8_31 rfl rfl ?_
      refine Go.arraylength d8_32 hH (z := 3) rfl ?_
      refine Go.iconst d8_33 (v := 2) rfl ?_
      refine Go.icmpF d8_34 (XT.ii_le_f (by decide)) ?_
      refine Go.aloadN d8_37 rfl rfl ?_
      refine Go.iconst d8_38 (v := 2) rfl ?_
      refine Go.laload d8_39 hH (by decide) rfl ?_
      refine Go.lloadN d8_40 rfl ?_
      refine Go.lcmp d8_41 ?_
      refine Go.lif_ne d8_42 j8_42 (fun h42 => ?_) (fun h42 => ?_)
      · -- pc 42 taken
        refine Go.aloadN d8_47 rfl rfl ?_
        refine Go.arraylength d8_48 hH (z := 3) rfl ?_
        refine Go.iconst d8_49 (v := 3) rfl ?_
        refine Go.icmpT d8_50 j8_50 (XT.ii_le_t (by decide)) ?_
        refine Go.iconst d8_63 (v := 0) rfl ?_
        exact Go.ireturnZ d8_64 rfl (by decide) (by rw [own_hs3, if_neg h10, if_neg h26, if_neg h42]) (HOk.eq rfl)
      · -- pc 42 not taken
        refine Go.iconst d8_45 (v := 1) rfl ?_
        exact Go.ireturnZ d8_46 rfl (by decide) (by rw [own_hs3, if_neg h10, if_neg h26, if_pos h42]) (HOk.eq rfl)
    · -- pc 26 not taken
      refine Go.iconst d8_29 (v := 1) rfl ?_
      exact Go.ireturnZ d8_30 rfl (by decide) (by rw [own_hs3, if_neg h10, if_pos h26]) (HOk.eq rfl)
  · -- pc 10 not taken
    refine Go.iconst d8_13 (v := 1) rfl ?_
    exact Go.ireturnZ d8_14 rfl (by decide) (by rw [own_hs3, if_pos h10]) (HOk.eq rfl)
theorem own_hsv3 (a0 a1 a2 k : Int64) (h : k ∈ [a0, a1, a2]) : ¬ own_hs3 a0 a1 a2 k = 0 := by
  simp only [List.mem_cons, List.not_mem_nil, or_false] at h
  simp only [own_hs3]
  rcases h with rfl | rfl | rfl <;> (repeat' split) <;> simp_all
def own_hs4 (a0 a1 a2 a3 k : Int64) : Int32 := (if a0 = k then 1 else (if a1 = k then 1 else (if a2 = k then 1 else (if a3 = k then 1 else 0))))
theorem go_own_hs4 (K : Ctx) (hw : ∀ d ∈ tables_1, d.before K.2.2.1 K.2.1 = true) (H : Hp) (a0 a1 a2 a3 k : Int64) (hH : H[3]? = some (.inr (.long, [.long a0, .long a1, .long a2, .long a3]))) : Go K m8 0 0 0 [.val (.ref 3), .val (.long k), .second] [] H (some (.int (own_hs4 a0 a1 a2 a3 k)), some H, 0, 0) := by
  refine Go.aloadN d8_0 rfl rfl ?_
  refine Go.arraylength d8_1 hH (z := 4) rfl ?_
  refine Go.ifF d8_2 (XT.i0_le_f (by decide)) ?_
  refine Go.aloadN d8_5 rfl rfl ?_
  refine Go.iconst d8_6 (v := 0) rfl ?_
  refine Go.laload d8_7 hH (by decide) rfl ?_
  refine Go.lloadN d8_8 rfl ?_
  refine Go.lcmp d8_9 ?_
  refine Go.lif_ne d8_10 j8_10 (fun h10 => ?_) (fun h10 => ?_)
  · -- pc 10 taken
    refine Go.aloadN d8_15 rfl rfl ?_
    refine Go.arraylength d8_16 hH (z := 4) rfl ?_
    refine Go.iconst d8_17 (v := 1) rfl ?_
    refine Go.icmpF d8_18 (XT.ii_le_f (by decide)) ?_
    refine Go.aloadN d8_21 rfl rfl ?_
    refine Go.iconst d8_22 (v := 1) rfl ?_
    refine Go.laload d8_23 hH (by decide) rfl ?_
    refine Go.lloadN d8_24 rfl ?_
    refine Go.lcmp d8_25 ?_
    refine Go.lif_ne d8_26 j8_26 (fun h26 => ?_) (fun h26 => ?_)
    · -- pc 26 taken
      refine Go.aloadN d8_31 rfl rfl ?_
      refine Go.arraylength d8_32 hH (z := 4) rfl ?_
      refine Go.iconst d8_33 (v := 2) rfl ?_
      refine Go.icmpF d8_34 (XT.ii_le_f (by decide)) ?_
      refine Go.aloadN d8_37 rfl rfl ?_
      refine Go.iconst d8_38 (v := 2) rfl ?_
      refine Go.laload d8_39 hH (by decide) rfl ?_
      refine Go.lloadN d8_40 rfl ?_
      refine Go.lcmp d8_41 ?_
      refine Go.lif_ne d8_42 j8_42 (fun h42 => ?_) (fun h42 => ?_)
      · -- pc 42 taken
        refine Go.aloadN d8_47 rfl rfl ?_
        refine Go.arraylength d8_48 hH (z := 4) rfl ?_
        refine Go.iconst d8_49 (v := 3) rfl ?_
        refine Go.icmpF d8_50 (XT.ii_le_f (by decide)) ?_
        refine Go.aloadN d8_53 rfl rfl ?_
        refine Go.iconst d8_54 (v := 3) rfl ?_
        refine Go.laload d8_55 hH (by decide) rfl ?_
        refine Go.lloadN d8_56 rfl ?_
        refine Go.lcmp d8_57 ?_
        refine Go.lif_ne d8_58 j8_58 (fun h58 => ?_) (fun h58 => ?_)
        · -- pc 58 taken
          refine Go.iconst d8_63 (v := 0) rfl ?_
          exact Go.ireturnZ d8_64 rfl (by decide) (by rw [own_hs4, if_neg h10, if_neg h26, if_neg h42, if_neg h58]) (HOk.eq rfl)
        · -- pc 58 not taken
          refine Go.iconst d8_61 (v := 1) rfl ?_
          exact Go.ireturnZ d8_62 rfl (by decide) (by rw [own_hs4, if_neg h10, if_neg h26, if_neg h42, if_pos h58]) (HOk.eq rfl)
      · -- pc 42 not taken
        refine Go.iconst d8_45 (v := 1) rfl ?_
        exact Go.ireturnZ d8_46 rfl (by decide) (by rw [own_hs4, if_neg h10, if_neg h26, if_pos h42]) (HOk.eq rfl)
    · -- pc 26 not taken
      refine Go.iconst d8_29 (v := 1) rfl ?_
      exact Go.ireturnZ d8_30 rfl (by decide) (by rw [own_hs4, if_neg h10, if_pos h26]) (HOk.eq rfl)
  · -- pc 10 not taken
    refine Go.iconst d8_13 (v := 1) rfl ?_
    exact Go.ireturnZ d8_14 rfl (by decide) (by rw [own_hs4, if_pos h10]) (HOk.eq rfl)
theorem own_hsv4 (a0 a1 a2 a3 k : Int64) (h : k ∈ [a0, a1, a2, a3]) : ¬ own_hs4 a0 a1 a2 a3 k = 0 := by
  simp only [List.mem_cons, List.not_mem_nil, or_false] at h
  simp only [own_hs4]
  rcases h with rfl | rfl | rfl | rfl <;> (repeat' split) <;> simp_all
theorem go_has (K : Ctx) (hw : ∀ d ∈ tables_1, d.before K.2.2.1 K.2.1 = true) (xs : List Int64) (hl : xs.length ≤ 4) (k : Int64) (hk : k ∈ xs) (H : Hp) (hH : H[3]? = some (.inr (.long, xs.map Value.long))) :
    ∃ z : Int32, ¬ z = 0 ∧ Go K m8 0 0 0 [.val (.ref 3), .val (.long k), .second] [] H (some (.int z), some H, 0, 0) := by
  match xs, hl with
  | [], _ => exact ⟨_, own_hsv0 k hk, go_own_hs0 K hw H k hH⟩
  | [a], _ => exact ⟨_, own_hsv1 a k hk, go_own_hs1 K hw H a k hH⟩
  | [a, b], _ => exact ⟨_, own_hsv2 a b k hk, go_own_hs2 K hw H a b k hH⟩
  | [a, b, c], _ => exact ⟨_, own_hsv3 a b c k hk, go_own_hs3 K hw H a b c k hH⟩
  | [a, b, c, d], _ => exact ⟨_, own_hsv4 a b c d k hk, go_own_hs4 K hw H a b c d k hH⟩
theorem own_rs0 (xs : List (Int64 × Int32)) : own_rs xs 0 = (xs.map (fun x => x.1)).map Value.long := by simp [own_rs]
theorem own_mem_occ {tb : own_T} {k : Int64} (h : own_mem tb k) : k ∈ (own_occ tb).map (fun x => x.1) := by
  obtain ⟨v, z⟩ := h
  exact List.mem_map.mpr ⟨(k, v), own_occ_mem.mpr z, rfl⟩
theorem own_rlen {tb : own_T} {n : Nat} {z : Int32} (h : (own_occ tb).length = n) (e : Int32.ofNat n = z) : (own_rs (own_occ tb) 0).length.toInt32 = z := by
  rw [← e, ← h]; exact congrArg Nat.toInt32 (by simp [own_rs])
theorem own_ok0 : own_okT (List.replicate 16 none) 0 := by
  refine ⟨by decide, fun j k v hj => ?_, own_inv_new _ _, by rw [own_occ_new]; exact Nat.le_refl _⟩
  have := List.eq_of_mem_replicate (List.mem_of_getElem? hj)
  cases this
theorem own_mem0 (k : Int64) : ¬ own_mem (List.replicate 16 none) k := by
  rintro ⟨v, j, hj⟩
  have := List.eq_of_mem_replicate (List.mem_of_getElem? hj)
  cases this
theorem own_val (x : Int32) : ¬ (x &&& 2147483647) = (-1) := fun e => by
  have h := Jvm.Kit.i32_mask x 2147483647 (k := 31) (by decide) (by decide)
  rw [e] at h
  have : (-1 : Int32).toInt = -1 := by decide
  omega
theorem own_valx (x : Int32) : ¬ ((x &&& 2147483647) ^^^ 1) = (-1) := fun e => by
  have h := Jvm.Kit.i32_mask x 2147483647 (k := 31) (by decide) (by decide)
  have q := (c_xorS (x &&& 2147483647) 1).2.2.2 (by omega) (by decide)
  rw [e] at q
  exact absurd q (by decide)
theorem own_valu (x : Int32) : ¬ (XT.ushr (x &&& 2147483647) 1) = (-1) := fun e => by
  have h := Jvm.Kit.i32_mask x 2147483647 (k := 31) (by decide) (by decide)
  have h0 : (0 : Int32) ≤ x &&& 2147483647 := by rw [Int32.le_iff_toInt_le]; show (0 : Int) ≤ _; omega
  have q := Jvm.Kit.i32_iushr (x := x &&& 2147483647) h0 (n := ((1 : Int32) &&& 31).toUInt32) (k := 1) (by decide) (by decide)
  have q' : (XT.ushr (x &&& 2147483647) 1).toInt = (x &&& 2147483647).toInt / 2 ^ 1 := q
  rw [e] at q'
  have : (-1 : Int32).toInt = -1 := by decide
  omega
theorem own_n7 (x : Int32) (h : ¬ 4 < ((XT.ushr x 3) &&& 7)) : ((XT.ushr x 3) &&& 7) = 0 ∨ ((XT.ushr x 3) &&& 7) = 1 ∨ ((XT.ushr x 3) &&& 7) = 2 ∨ ((XT.ushr x 3) &&& 7) = 3 ∨ ((XT.ushr x 3) &&& 7) = 4 := by
  have h0 := Jvm.Kit.i32_mask (XT.ushr x 3) 7 (k := 3) (by decide) (by decide)
  generalize (XT.ushr x 3) &&& 7 = y at *
  rw [Int32.lt_iff_toInt_lt] at h
  have e4 : (4 : Int32).toInt = 4 := by decide
  rcases (by omega : y.toInt = 0 ∨ y.toInt = 1 ∨ y.toInt = 2 ∨ y.toInt = 3 ∨ y.toInt = 4) with q | q | q | q | q
  · exact Or.inl (Int32.toInt_inj.mp q)
  · exact Or.inr (Or.inl (Int32.toInt_inj.mp q))
  · exact Or.inr (Or.inr (Or.inl (Int32.toInt_inj.mp q)))
  · exact Or.inr (Or.inr (Or.inr (Or.inl (Int32.toInt_inj.mp q))))
  · exact Or.inr (Or.inr (Or.inr (Or.inr (Int32.toInt_inj.mp q))))
theorem go_t66_0 (K : Ctx) (hw : ∀ d ∈ tables_1, d.before K.2.2.1 K.2.1 = true) (x0 x1 x2 x3 k0 k1 k2 k3 : Int64) (x4 x5 : Int32) : Go K m0 6 144 66 [.val (.long x0), .second, .val (.long x1), .second, .val (.long x2), .second, .val (.long x3), .second, .val (.int x4), .val (.int x5), .val (.long k0), .second, .val (.long k1), .second, .val (.long k2), .second, .val (.long k3), .second, .val (.int 0), .unset, .unset, .unset, .unset] [] [] (some (.int 1), none, 16, 192) := by
  refine Go.iload d0_66 rfl ?_
  refine Go.ldc d0_68 (hw _ (List.mem_of_getElem? (i := 0) rfl)) ?_
  refine Go.iand d0_70 ?_
  refine Go.istore d0_71 (ls' := [.val (.long x0), .second, .val (.long x1), .second, .val (.long x2), .second, .val (.long x3), .second, .val (.int x4), .val (.int x5), .val (.long k0), .second, .val (.long k1), .second, .val (.long k2), .second, .val (.long k3), .second, .val (.int 0), .val (.int (x5 &&& 2147483647)), .unset, .unset, .unset]) rfl ?_
  refine Go.new [("keys", "[J", .null), ("values", "[I", .null), ("size", "I", .int 0)] d0_73 (hw _ (List.mem_of_getElem? (i := 1) rfl)) (hw _ (List.mem_of_getElem? (i := 2) rfl)) (hw _ (List.mem_of_getElem? (i := 3) rfl)) (by decide) (fun f hf => ?_) (i := 0) rfl 15 189 (by decide) (by decide) ?_
  · simp only [List.mem_cons, List.not_mem_nil, or_false] at hf
    rcases hf with rfl | rfl | rfl
    · exact ⟨Or.inl (hw _ (List.mem_of_getElem? (i := 12) rfl)), _, (by decide : parseFieldDescriptor "[J" = some (.array .long)), rfl⟩
    · exact ⟨Or.inl (hw _ (List.mem_of_getElem? (i := 22) rfl)), _, (by decide : parseFieldDescriptor "[I" = some (.array .int)), rfl⟩
    · exact ⟨Or.inl (hw _ (List.mem_of_getElem? (i := 29) rfl)), _, (by decide : parseFieldDescriptor "I" = some .int), rfl⟩
  show Go _ _ _ _ 76 [.val (.long x0), .second, .val (.long x1), .second, .val (.long x2), .second, .val (.long x3), .second, .val (.int x4), .val (.int x5), .val (.long k0), .second, .val (.long k1), .second, .val (.long k2), .second, .val (.long k3), .second, .val (.int 0), .val (.int (x5 &&& 2147483647)), .unset, .unset, .unset] [.ref 0] [.inl ("com/example/subsume/subsume/LongIntMap", [("keys", "[J", .null), ("values", "[I", .null), ("size", "I", .int 0)])] _
  refine Go.dup d0_76 rfl ?_
  refine Go.callI (M' := m1) (i := 0) d0_77 rfl rfl (hw _ (List.mem_of_getElem? (i := 4) rfl)) (hw _ (List.mem_of_getElem? (i := 5) rfl)) (hw _ (List.mem_of_getElem? (i := 3) rfl)) (hw _ (List.mem_of_getElem? (i := 6) rfl)) mi1 (as := []) rfl rfl (st := [.ref 0]) rfl (ls1 := [.val (.ref 0)]) rfl (W := 1) rfl (by decide) (by decide) (go_ctor K hw) 13 157 (by decide) (by decide) ?_
  show Go _ _ _ _ 80 [.val (.long x0), .second, .val (.long x1), .second, .val (.long x2), .second, .val (.long x3), .second, .val (.int x4), .val (.int x5), .val (.long k0), .second, .val (.long k1), .second, .val (.long k2), .second, .val (.long k3), .second, .val (.int 0), .val (.int (x5 &&& 2147483647)), .unset, .unset, .unset] [.ref 0] [.inl ("com/example/subsume/subsume/LongIntMap", [("keys", "[J", .ref 1), ("values", "[I", .ref 2), ("size", "I", .int 0)]), .inr (.long, [.long 0, .long 0, .long 0, .long 0, .long 0, .long 0, .long 0, .long 0, .long 0, .long 0, .long 0, .long 0, .long 0, .long 0, .long 0, .long 0]), .inr (.int, [.int (-1), .int (-1), .int (-1), .int (-1), .int (-1), .int (-1), .int (-1), .int (-1), .int (-1), .int (-1), .int (-1), .int (-1), .int (-1), .int (-1), .int (-1), .int (-1)])] _
  refine Go.astore d0_80 (ls' := [.val (.long x0), .second, .val (.long x1), .second, .val (.long x2), .second, .val (.long x3), .second, .val (.int x4), .val (.int x5), .val (.long k0), .second, .val (.long k1), .second, .val (.long k2), .second, .val (.long k3), .second, .val (.int 0), .val (.int (x5 &&& 2147483647)), .val (.ref 0), .unset, .unset]) rfl rfl ?_
  obtain ⟨t0, et0⟩ : ∃ t : own_T, t = List.replicate 16 none := ⟨_, rfl⟩
  have ok0 : own_okT t0 0 := by rw [et0]; exact own_ok0
  have mm0 : ∀ k, ¬ own_mem t0 k := by rw [et0]; exact own_mem0
  have le0 : (own_occ t0).length = 0 := by rw [et0, own_occ_new]; rfl
  have hH0 : ([.inl ("com/example/subsume/subsume/LongIntMap", [("keys", "[J", .ref 1), ("values", "[I", .ref 2), ("size", "I", .int 0)]), .inr (.long, [.long 0, .long 0, .long 0, .long 0, .long 0, .long 0, .long 0, .long 0, .long 0, .long 0, .long 0, .long 0, .long 0, .long 0, .long 0, .long 0]), .inr (.int, [.int (-1), .int (-1), .int (-1), .int (-1), .int (-1), .int (-1), .int (-1), .int (-1), .int (-1), .int (-1), .int (-1), .int (-1), .int (-1), .int (-1), .int (-1), .int (-1)])] : Hp) = [.inl ("com/example/subsume/subsume/LongIntMap", [("keys", "[J", .ref 1), ("values", "[I", .ref 2), ("size", "I", .int (Int32.ofNat (own_occ t0).length))]), .inr (.long, (own_ks t0)), .inr (.int, (own_vs t0))] := by rw [et0]; rfl
  rw [hH0]
  refine Go.iload d0_82 rfl ?_
  refine Go.ifT d0_84 j0_84 (XT.i0_le_t (by decide)) ?_
  refine Go.iload d0_96 rfl ?_
  refine Go.iconst d0_98 (v := 1) rfl ?_
  refine Go.icmpT d0_99 j0_99 (XT.ii_le_t (by decide)) ?_
  refine Go.iload d0_113 rfl ?_
  refine Go.iconst d0_115 (v := 2) rfl ?_
  refine Go.icmpT d0_116 j0_116 (XT.ii_le_t (by decide)) ?_
  refine Go.iload d0_130 rfl ?_
  refine Go.iconst d0_132 (v := 3) rfl ?_
  refine Go.icmpT d0_133 j0_133 (XT.ii_le_t (by decide)) ?_
  refine Go.aload d0_144 rfl rfl ?_
  refine Go.callV (M' := m5) (i := 0) d0_146 rfl (hw _ (List.mem_of_getElem? (i := 23) rfl)) (hw _ (List.mem_of_getElem? (i := 25) rfl)) (hw _ (List.mem_of_getElem? (i := 3) rfl)) (hw _ (List.mem_of_getElem? (i := 24) rfl)) (hw _ (List.mem_of_getElem? (i := 26) rfl)) (hw _ (List.mem_of_getElem? (i := 27) rfl)) mi5 (as := []) rfl rfl (st := []) rfl (ls1 := [.val (.ref 0), .unset, .unset, .unset]) rfl (W := 0) rfl (by decide) (by decide) (go_keys K hw t0 ok0.1 ok0.2.1 (by have := ok0.2.2.2; omega)) 12 152 (by decide) (by decide) ?_
  show Go _ _ _ _ 149 [.val (.long x0), .second, .val (.long x1), .second, .val (.long x2), .second, .val (.long x3), .second, .val (.int x4), .val (.int x5), .val (.long k0), .second, .val (.long k1), .second, .val (.long k2), .second, .val (.long k3), .second, .val (.int 0), .val (.int (x5 &&& 2147483647)), .val (.ref 0), .unset, .unset] [.ref 3] [.inl ("com/example/subsume/subsume/LongIntMap", [("keys", "[J", .ref 1), ("values", "[I", .ref 2), ("size", "I", .int (Int32.ofNat (own_occ t0).length))]), .inr (.long, (own_ks t0)), .inr (.int, (own_vs t0)), .inr (.long, (own_rs (own_occ t0) 0))] _
  refine Go.astore d0_149 (ls' := [.val (.long x0), .second, .val (.long x1), .second, .val (.long x2), .second, .val (.long x3), .second, .val (.int x4), .val (.int x5), .val (.long k0), .second, .val (.long k1), .second, .val (.long k2), .second, .val (.long k3), .second, .val (.int 0), .val (.int (x5 &&& 2147483647)), .val (.ref 0), .val (.ref 3), .unset]) rfl rfl ?_
  refine Go.iconst d0_151 (v := 0) rfl ?_
  refine Go.istore d0_152 (ls' := [.val (.long x0), .second, .val (.long x1), .second, .val (.long x2), .second, .val (.long x3), .second, .val (.int x4), .val (.int x5), .val (.long k0), .second, .val (.long k1), .second, .val (.long k2), .second, .val (.long k3), .second, .val (.int 0), .val (.int (x5 &&& 2147483647)), .val (.ref 0), .val (.ref 3), .val (.int 0)]) rfl ?_
  refine Go.iload d0_154 rfl ?_
  refine Go.ifT d0_156 j0_156 (XT.i0_le_t (by decide)) ?_
  refine Go.iload d0_162 rfl ?_
  refine Go.iconst d0_164 (v := 1) rfl ?_
  refine Go.icmpT d0_165 j0_165 (XT.ii_le_t (by decide)) ?_
  refine Go.iload d0_179 rfl ?_
  refine Go.iconst d0_181 (v := 2) rfl ?_
  refine Go.icmpT d0_182 j0_182 (XT.ii_le_t (by decide)) ?_
  refine Go.iload d0_204 rfl ?_
  refine Go.iconst d0_206 (v := 3) rfl ?_
  refine Go.icmpT d0_207 j0_207 (XT.ii_le_t (by decide)) ?_
  refine Go.aload d0_237 rfl rfl ?_
  refine Go.arraylength d0_239 rfl (z := 0) (own_rlen le0 rfl) ?_
  refine Go.iload d0_240 rfl ?_
  refine Go.icmpT d0_242 j0_242 (XT.ii_eq_t (by decide)) ?_
  refine Go.iload d0_247 rfl ?_
  refine Go.ifT d0_249 j0_249 (XT.i0_le_t (by decide)) ?_
  refine Go.iload d0_264 rfl ?_
  refine Go.iconst d0_266 (v := 1) rfl ?_
  refine Go.icmpT d0_267 j0_267 (XT.ii_le_t (by decide)) ?_
  refine Go.iload d0_282 rfl ?_
  refine Go.iconst d0_284 (v := 2) rfl ?_
  refine Go.icmpT d0_285 j0_285 (XT.ii_le_t (by decide)) ?_
  refine Go.iload d0_300 rfl ?_
  refine Go.iconst d0_302 (v := 3) rfl ?_
  refine Go.icmpT d0_303 j0_303 (XT.ii_le_t (by decide)) ?_
  refine Go.iconst d0_318 (v := 1) rfl ?_
  exact Go.ireturnZ d0_319 rfl (by decide) rfl HOk.any
theorem go_t66_1 (K : Ctx) (hw : ∀ d ∈ tables_1, d.before K.2.2.1 K.2.1 = true) (x0 x1 x2 x3 k0 k1 k2 k3 : Int64) (x4 x5 : Int32) : Go K m0 6 144 66 [.val (.long x0), .second, .val (.long x1), .second, .val (.long x2), .second, .val (.long x3), .second, .val (.int x4), .val (.int x5), .val (.long k0), .second, .val (.long k1), .second, .val (.long k2), .second, .val (.long k3), .second, .val (.int 1), .unset, .unset, .unset, .unset] [] [] (some (.int 1), none, 16, 192) := by
  refine Go.iload d0_66 rfl ?_
  refine Go.ldc d0_68 (hw _ (List.mem_of_getElem? (i := 0) rfl)) ?_
  refine Go.iand d0_70 ?_
  refine Go.istore d0_71 (ls' := [.val (.long x0), .second, .val (.long x1), .second, .val (.long x2), .second, .val (.long x3), .second, .val (.int x4), .val (.int x5), .val (.long k0), .second, .val (.long k1), .second, .val (.long k2), .second, .val (.long k3), .second, .val (.int 1), .val (.int (x5 &&& 2147483647)), .unset, .unset, .unset]) rfl ?_
  refine Go.new [("keys", "[J", .null), ("values", "[I", .null), ("size", "I", .int 0)] d0_73 (hw _ (List.mem_of_getElem? (i := 1) rfl)) (hw _ (List.mem_of_getElem? (i := 2) rfl)) (hw _ (List.mem_of_getElem? (i := 3) rfl)) (by decide) (fun f hf => ?_) (i := 0) rfl 15 189 (by decide) (by decide) ?_
  · simp only [List.mem_cons, List.not_mem_nil, or_false] at hf
    rcases hf with rfl | rfl | rfl
    · exact ⟨Or.inl (hw _ (List.mem_of_getElem? (i := 12) rfl)), _, (by decide : parseFieldDescriptor "[J" = some (.array .long)), rfl⟩
    · exact ⟨Or.inl (hw _ (List.mem_of_getElem? (i := 22) rfl)), _, (by decide : parseFieldDescriptor "[I" = some (.array .int)), rfl⟩
    · exact ⟨Or.inl (hw _ (List.mem_of_getElem? (i := 29) rfl)), _, (by decide : parseFieldDescriptor "I" = some .int), rfl⟩
  show Go _ _ _ _ 76 [.val (.long x0), .second, .val (.long x1), .second, .val (.long x2), .second, .val (.long x3), .second, .val (.int x4), .val (.int x5), .val (.long k0), .second, .val (.long k1), .second, .val (.long k2), .second, .val (.long k3), .second, .val (.int 1), .val (.int (x5 &&& 2147483647)), .unset, .unset, .unset] [.ref 0] [.inl ("com/example/subsume/subsume/LongIntMap", [("keys", "[J", .null), ("values", "[I", .null), ("size", "I", .int 0)])] _
  refine Go.dup d0_76 rfl ?_
  refine Go.callI (M' := m1) (i := 0) d0_77 rfl rfl (hw _ (List.mem_of_getElem? (i := 4) rfl)) (hw _ (List.mem_of_getElem? (i := 5) rfl)) (hw _ (List.mem_of_getElem? (i := 3) rfl)) (hw _ (List.mem_of_getElem? (i := 6) rfl)) mi1 (as := []) rfl rfl (st := [.ref 0]) rfl (ls1 := [.val (.ref 0)]) rfl (W := 1) rfl (by decide) (by decide) (go_ctor K hw) 13 157 (by decide) (by decide) ?_
  show Go _ _ _ _ 80 [.val (.long x0), .second, .val (.long x1), .second, .val (.long x2), .second, .val (.long x3), .second, .val (.int x4), .val (.int x5), .val (.long k0), .second, .val (.long k1), .second, .val (.long k2), .second, .val (.long k3), .second, .val (.int 1), .val (.int (x5 &&& 2147483647)), .unset, .unset, .unset] [.ref 0] [.inl ("com/example/subsume/subsume/LongIntMap", [("keys", "[J", .ref 1), ("values", "[I", .ref 2), ("size", "I", .int 0)]), .inr (.long, [.long 0, .long 0, .long 0, .long 0, .long 0, .long 0, .long 0, .long 0, .long 0, .long 0, .long 0, .long 0, .long 0, .long 0, .long 0, .long 0]), .inr (.int, [.int (-1), .int (-1), .int (-1), .int (-1), .int (-1), .int (-1), .int (-1), .int (-1), .int (-1), .int (-1), .int (-1), .int (-1), .int (-1), .int (-1), .int (-1), .int (-1)])] _
  refine Go.astore d0_80 (ls' := [.val (.long x0), .second, .val (.long x1), .second, .val (.long x2), .second, .val (.long x3), .second, .val (.int x4), .val (.int x5), .val (.long k0), .second, .val (.long k1), .second, .val (.long k2), .second, .val (.long k3), .second, .val (.int 1), .val (.int (x5 &&& 2147483647)), .val (.ref 0), .unset, .unset]) rfl rfl ?_
  obtain ⟨t0, et0⟩ : ∃ t : own_T, t = List.replicate 16 none := ⟨_, rfl⟩
  have ok0 : own_okT t0 0 := by rw [et0]; exact own_ok0
  have mm0 : ∀ k, ¬ own_mem t0 k := by rw [et0]; exact own_mem0
  have le0 : (own_occ t0).length = 0 := by rw [et0, own_occ_new]; rfl
  have hH0 : ([.inl ("com/example/subsume/subsume/LongIntMap", [("keys", "[J", .ref 1), ("values", "[I", .ref 2), ("size", "I", .int 0)]), .inr (.long, [.long 0, .long 0, .long 0, .long 0, .long 0, .long 0, .long 0, .long 0, .long 0, .long 0, .long 0, .long 0, .long 0, .long 0, .long 0, .long 0]), .inr (.int, [.int (-1), .int (-1), .int (-1), .int (-1), .int (-1), .int (-1), .int (-1), .int (-1), .int (-1), .int (-1), .int (-1), .int (-1), .int (-1), .int (-1), .int (-1), .int (-1)])] : Hp) = [.inl ("com/example/subsume/subsume/LongIntMap", [("keys", "[J", .ref 1), ("values", "[I", .ref 2), ("size", "I", .int (Int32.ofNat (own_occ t0).length))]), .inr (.long, (own_ks t0)), .inr (.int, (own_vs t0))] := by rw [et0]; rfl
  rw [hH0]
  refine Go.iload d0_82 rfl ?_
  refine Go.ifF d0_84 (XT.i0_le_f (by decide)) ?_
  refine Go.aload d0_87 rfl rfl ?_
  refine Go.lload d0_89 rfl ?_
  refine Go.iload d0_91 rfl ?_
  obtain ⟨t1, ok1, mm1, le1, ln1, gp1⟩ := go_put K hw t0 0 ok0 (by decide) k0 (x5 &&& 2147483647) (own_val _)
  refine Go.callV (M' := m6) (i := 0) d0_93 rfl (hw _ (List.mem_of_getElem? (i := 30) rfl)) (hw _ (List.mem_of_getElem? (i := 32) rfl)) (hw _ (List.mem_of_getElem? (i := 3) rfl)) (hw _ (List.mem_of_getElem? (i := 31) rfl)) (hw _ (List.mem_of_getElem? (i := 33) rfl)) (hw _ (List.mem_of_getElem? (i := 34) rfl)) mi6 (as := [.long k0, .int (x5 &&& 2147483647)]) rfl rfl (st := []) rfl (ls1 := [.val (.ref 0), .val (.long k0), .second, .val (.int (x5 &&& 2147483647)), .unset]) rfl (W := 0) rfl (by decide) (by decide) gp1 13 157 (by decide) (by decide) ?_
  show Go _ _ _ _ 96 [.val (.long x0), .second, .val (.long x1), .second, .val (.long x2), .second, .val (.long x3), .second, .val (.int x4), .val (.int x5), .val (.long k0), .second, .val (.long k1), .second, .val (.long k2), .second, .val (.long k3), .second, .val (.int 1), .val (.int (x5 &&& 2147483647)), .val (.ref 0), .unset, .unset] [] [.inl ("com/example/subsume/subsume/LongIntMap", [("keys", "[J", .ref 1), ("values", "[I", .ref 2), ("size", "I", .int (Int32.ofNat (own_occ t1).length))]), .inr (.long, (own_ks t1)), .inr (.int, (own_vs t1))] _
  refine Go.iload d0_96 rfl ?_
  refine Go.iconst d0_98 (v := 1) rfl ?_
  refine Go.icmpT d0_99 j0_99 (XT.ii_le_t (by decide)) ?_
  refine Go.iload d0_113 rfl ?_
  refine Go.iconst d0_115 (v := 2) rfl ?_
  refine Go.icmpT d0_116 j0_116 (XT.ii_le_t (by decide)) ?_
  refine Go.iload d0_130 rfl ?_
  refine Go.iconst d0_132 (v := 3) rfl ?_
  refine Go.icmpT d0_133 j0_133 (XT.ii_le_t (by decide)) ?_
  refine Go.aload d0_144 rfl rfl ?_
  refine Go.callV (M' := m5) (i := 0) d0_146 rfl (hw _ (List.mem_of_getElem? (i := 23) rfl)) (hw _ (List.mem_of_getElem? (i := 25) rfl)) (hw _ (List.mem_of_getElem? (i := 3) rfl)) (hw _ (List.mem_of_getElem? (i := 24) rfl)) (hw _ (List.mem_of_getElem? (i := 26) rfl)) (hw _ (List.mem_of_getElem? (i := 27) rfl)) mi5 (as := []) rfl rfl (st := []) rfl (ls1 := [.val (.ref 0), .unset, .unset, .unset]) rfl (W := 0) rfl (by decide) (by decide) (go_keys K hw t1 ok1.1 ok1.2.1 (by have := ok1.2.2.2; omega)) 12 152 (by decide) (by decide) ?_
  show Go _ _ _ _ 149 [.val (.long x0), .second, .val (.long x1), .second, .val (.long x2), .second, .val (.long x3), .second, .val (.int x4), .val (.int x5), .val (.long k0), .second, .val (.long k1), .second, .val (.long k2), .second, .val (.long k3), .second, .val (.int 1), .val (.int (x5 &&& 2147483647)), .val (.ref 0), .unset, .unset] [.ref 3] [.inl ("com/example/subsume/subsume/LongIntMap", [("keys", "[J", .ref 1), ("values", "[I", .ref 2), ("size", "I", .int (Int32.ofNat (own_occ t1).length))]), .inr (.long, (own_ks t1)), .inr (.int, (own_vs t1)), .inr (.long, (own_rs (own_occ t1) 0))] _
  refine Go.astore d0_149 (ls' := [.val (.long x0), .second, .val (.long x1), .second, .val (.long x2), .second, .val (.long x3), .second, .val (.int x4), .val (.int x5), .val (.long k0), .second, .val (.long k1), .second, .val (.long k2), .second, .val (.long k3), .second, .val (.int 1), .val (.int (x5 &&& 2147483647)), .val (.ref 0), .val (.ref 3), .unset]) rfl rfl ?_
  refine Go.iconst d0_151 (v := 0) rfl ?_
  refine Go.istore d0_152 (ls' := [.val (.long x0), .second, .val (.long x1), .second, .val (.long x2), .second, .val (.long x3), .second, .val (.int x4), .val (.int x5), .val (.long k0), .second, .val (.long k1), .second, .val (.long k2), .second, .val (.long k3), .second, .val (.int 1), .val (.int (x5 &&& 2147483647)), .val (.ref 0), .val (.ref 3), .val (.int 0)]) rfl ?_
  refine Go.iload d0_154 rfl ?_
  refine Go.ifF d0_156 (XT.i0_le_f (by decide)) ?_
  refine Go.iinc d0_159 (v := 1) rfl rfl (ls' := [.val (.long x0), .second, .val (.long x1), .second, .val (.long x2), .second, .val (.long x3), .second, .val (.int x4), .val (.int x5), .val (.long k0), .second, .val (.long k1), .second, .val (.long k2), .second, .val (.long k3), .second, .val (.int 1), .val (.int (x5 &&& 2147483647)), .val (.ref 0), .val (.ref 3), .val (.int 1)]) rfl ?_
  refine Go.iload d0_162 rfl ?_
  refine Go.iconst d0_164 (v := 1) rfl ?_
  refine Go.icmpT d0_165 j0_165 (XT.ii_le_t (by decide)) ?_
  refine Go.iload d0_179 rfl ?_
  refine Go.iconst d0_181 (v := 2) rfl ?_
  refine Go.icmpT d0_182 j0_182 (XT.ii_le_t (by decide)) ?_
  refine Go.iload d0_204 rfl ?_
  refine Go.iconst d0_206 (v := 3) rfl ?_
  refine Go.icmpT d0_207 j0_207 (XT.ii_le_t (by decide)) ?_
  have L1 : (own_occ t1).length = 1 := (ln1 (fun z => by
      exact mm0 _ z)).trans (congrArg (· + 1) le0)
  refine Go.aload d0_237 rfl rfl ?_
  refine Go.arraylength d0_239 rfl (z := 1) (own_rlen L1 rfl) ?_
  refine Go.iload d0_240 rfl ?_
  refine Go.icmpT d0_242 j0_242 (XT.ii_eq_t (by decide)) ?_
  refine Go.iload d0_247 rfl ?_
  refine Go.ifF d0_249 (XT.i0_le_f (by decide)) ?_
  refine Go.aload d0_252 rfl rfl ?_
  refine Go.lload d0_254 rfl ?_
  obtain ⟨z1, hzz1, ghz1⟩ := go_has K hw ((own_occ t1).map (fun x => x.1)) (by rw [List.length_map]; omega) k0 (own_mem_occ ((mm1 _).mpr (Or.inl rfl))) [.inl ("com/example/subsume/subsume/LongIntMap", [("keys", "[J", .ref 1), ("values", "[I", .ref 2), ("size", "I", .int (Int32.ofNat (own_occ t1).length))]), .inr (.long, (own_ks t1)), .inr (.int, (own_vs t1)), .inr (.long, (own_rs (own_occ t1) 0))] (by rw [← own_rs0]; rfl)
  refine Go.callS (M' := m8) d0_256 (hw _ (List.mem_of_getElem? (i := 40) rfl)) (hw _ (List.mem_of_getElem? (i := 41) rfl)) (hw _ (List.mem_of_getElem? (i := 42) rfl)) (hw _ (List.mem_of_getElem? (i := 43) rfl)) mi8 (as := [.ref 3, .long k0]) rfl rfl (st := []) rfl (ls1 := [.val (.ref 3), .val (.long k0), .second]) rfl (W := 0) rfl (by decide) (by decide) ghz1 12 152 (by decide) (by decide) ?_
  show Go _ _ _ _ 259 [.val (.long x0), .second, .val (.long x1), .second, .val (.long x2), .second, .val (.long x3), .second, .val (.int x4), .val (.int x5), .val (.long k0), .second, .val (.long k1), .second, .val (.long k2), .second, .val (.long k3), .second, .val (.int 1), .val (.int (x5 &&& 2147483647)), .val (.ref 0), .val (.ref 3), .val (.int 1)] [.int z1] [.inl ("com/example/subsume/subsume/LongIntMap", [("keys", "[J", .ref 1), ("values", "[I", .ref 2), ("size", "I", .int (Int32.ofNat (own_occ t1).length))]), .inr (.long, (own_ks t1)), .inr (.int, (own_vs t1)), .inr (.long, (own_rs (own_occ t1) 0))] _
  refine Go.ifT d0_259 j0_259 (XT.i0_ne_t hzz1) ?_
  refine Go.iload d0_264 rfl ?_
  refine Go.iconst d0_266 (v := 1) rfl ?_
  refine Go.icmpT d0_267 j0_267 (XT.ii_le_t (by decide)) ?_
  refine Go.iload d0_282 rfl ?_
  refine Go.iconst d0_284 (v := 2) rfl ?_
  refine Go.icmpT d0_285 j0_285 (XT.ii_le_t (by decide)) ?_
  refine Go.iload d0_300 rfl ?_
  refine Go.iconst d0_302 (v := 3) rfl ?_
  refine Go.icmpT d0_303 j0_303 (XT.ii_le_t (by decide)) ?_
  refine Go.iconst d0_318 (v := 1) rfl ?_
  exact Go.ireturnZ d0_319 rfl (by decide) rfl HOk.any
theorem go_t66_2 (K : Ctx) (hw : ∀ d ∈ tables_1, d.before K.2.2.1 K.2.1 = true) (x0 x1 x2 x3 k0 k1 k2 k3 : Int64) (x4 x5 : Int32) : Go K m0 6 144 66 [.val (.long x0), .second, .val (.long x1), .second, .val (.long x2), .second, .val (.long x3), .second, .val (.int x4), .val (.int x5), .val (.long k0), .second, .val (.long k1), .second, .val (.long k2), .second, .val (.long k3), .second, .val (.int 2), .unset, .unset, .unset, .unset] [] [] (some (.int 1), none, 16, 192) := by
  refine Go.iload d0_66 rfl ?_
  refine Go.ldc d0_68 (hw _ (List.mem_of_getElem? (i := 0) rfl)) ?_
  refine Go.iand d0_70 ?_
  refine Go.istore d0_71 (ls' := [.val (.long x0), .second, .val (.long x1), .second, .val (.long x2), .second, .val (.long x3), .second, .val (.int x4), .val (.int x5), .val (.long k0), .second, .val (.long k1), .second, .val (.long k2), .second, .val (.long k3), .second, .val (.int 2), .val (.int (x5 &&& 2147483647)), .unset, .unset, .unset]) rfl ?_
  refine Go.new [("keys", "[J", .null), ("values", "[I", .null), ("size", "I", .int 0)] d0_73 (hw _ (List.mem_of_getElem? (i := 1) rfl)) (hw _ (List.mem_of_getElem? (i := 2) rfl)) (hw _ (List.mem_of_getElem? (i := 3) rfl)) (by decide) (fun f hf => ?_) (i := 0) rfl 15 189 (by decide) (by decide) ?_
  · simp only [List.mem_cons, List.not_mem_nil, or_false] at hf
    rcases hf with rfl | rfl | rfl
    · exact ⟨Or.inl (hw _ (List.mem_of_getElem? (i := 12) rfl)), _, (by decide : parseFieldDescriptor "[J" = some (.array .long)), rfl⟩
    · exact ⟨Or.inl (hw _ (List.mem_of_getElem? (i := 22) rfl)), _, (by decide : parseFieldDescriptor "[I" = some (.array .int)), rfl⟩
    · exact ⟨Or.inl (hw _ (List.mem_of_getElem? (i := 29) rfl)), _, (by decide : parseFieldDescriptor "I" = some .int), rfl⟩
  show Go _ _ _ _ 76 [.val (.long x0), .second, .val (.long x1), .second, .val (.long x2), .second, .val (.long x3), .second, .val (.int x4), .val (.int x5), .val (.long k0), .second, .val (.long k1), .second, .val (.long k2), .second, .val (.long k3), .second, .val (.int 2), .val (.int (x5 &&& 2147483647)), .unset, .unset, .unset] [.ref 0] [.inl ("com/example/subsume/subsume/LongIntMap", [("keys", "[J", .null), ("values", "[I", .null), ("size", "I", .int 0)])] _
  refine Go.dup d0_76 rfl ?_
  refine Go.callI (M' := m1) (i := 0) d0_77 rfl rfl (hw _ (List.mem_of_getElem? (i := 4) rfl)) (hw _ (List.mem_of_getElem? (i := 5) rfl)) (hw _ (List.mem_of_getElem? (i := 3) rfl)) (hw _ (List.mem_of_getElem? (i := 6) rfl)) mi1 (as := []) rfl rfl (st := [.ref 0]) rfl (ls1 := [.val (.ref 0)]) rfl (W := 1) rfl (by decide) (by decide) (go_ctor K hw) 13 157 (by decide) (by decide) ?_
  show Go _ _ _ _ 80 [.val (.long x0), .second, .val (.long x1), .second, .val (.long x2), .second, .val (.long x3), .second, .val (.int x4), .val (.int x5), .val (.long k0), .second, .val (.long k1), .second, .val (.long k2), .second, .val (.long k3), .second, .val (.int 2), .val (.int (x5 &&& 2147483647)), .unset, .unset, .unset] [.ref 0] [.inl ("com/example/subsume/subsume/LongIntMap", [("keys", "[J", .ref 1), ("values", "[I", .ref 2), ("size", "I", .int 0)]), .inr (.long, [.long 0, .long 0, .long 0, .long 0, .long 0, .long 0, .long 0, .long 0, .long 0, .long 0, .long 0, .long 0, .long 0, .long 0, .long 0, .long 0]), .inr (.int, [.int (-1), .int (-1), .int (-1), .int (-1), .int (-1), .int (-1), .int (-1), .int (-1), .int (-1), .int (-1), .int (-1), .int (-1), .int (-1), .int (-1), .int (-1), .int (-1)])] _
  refine Go.astore d0_80 (ls' := [.val (.long x0), .second, .val (.long x1), .second, .val (.long x2), .second, .val (.long x3), .second, .val (.int x4), .val (.int x5), .val (.long k0), .second, .val (.long k1), .second, .val (.long k2), .second, .val (.long k3), .second, .val (.int 2), .val (.int (x5 &&& 2147483647)), .val (.ref 0), .unset, .unset]) rfl rfl ?_
  obtain ⟨t0, et0⟩ : ∃ t : own_T, t = List.replicate 16 none := ⟨_, rfl⟩
  have ok0 : own_okT t0 0 := by rw [et0]; exact own_ok0
  have mm0 : ∀ k, ¬ own_mem t0 k := by rw [et0]; exact own_mem0
  have le0 : (own_occ t0).length = 0 := by rw [et0, own_occ_new]; rfl
  have hH0 : ([.inl ("com/example/subsume/subsume/LongIntMap", [("keys", "[J", .ref 1), ("values", "[I", .ref 2), ("size", "I", .int 0)]), .inr (.long, [.long 0, .long 0, .long 0, .long 0, .long 0, .long 0, .long 0, .long 0, .long 0, .long 0, .long 0, .long 0, .long 0, .long 0, .long 0, .long 0]), .inr (.int, [.int (-1), .int (-1), .int (-1), .int (-1), .int (-1), .int (-1), .int (-1), .int (-1), .int (-1), .int (-1), .int (-1), .int (-1), .int (-1), .int (-1), .int (-1), .int (-1)])] : Hp) = [.inl ("com/example/subsume/subsume/LongIntMap", [("keys", "[J", .ref 1), ("values", "[I", .ref 2), ("size", "I", .int (Int32.ofNat (own_occ t0).length))]), .inr (.long, (own_ks t0)), .inr (.int, (own_vs t0))] := by rw [et0]; rfl
  rw [hH0]
  refine Go.iload d0_82 rfl ?_
  refine Go.ifF d0_84 (XT.i0_le_f (by decide)) ?_
  refine Go.aload d0_87 rfl rfl ?_
  refine Go.lload d0_89 rfl ?_
  refine Go.iload d0_91 rfl ?_
  obtain ⟨t1, ok1, mm1, le1, ln1, gp1⟩ := go_put K hw t0 0 ok0 (by decide) k0 (x5 &&& 2147483647) (own_val _)
  refine Go.callV (M' := m6) (i := 0) d0_93 rfl (hw _ (List.mem_of_getElem? (i := 30) rfl)) (hw _ (List.mem_of_getElem? (i := 32) rfl)) (hw _ (List.mem_of_getElem? (i := 3) rfl)) (hw _ (List.mem_of_getElem? (i := 31) rfl)) (hw _ (List.mem_of_getElem? (i := 33) rfl)) (hw _ (List.mem_of_getElem? (i := 34) rfl)) mi6 (as := [.long k0, .int (x5 &&& 2147483647)]) rfl rfl (st := []) rfl (ls1 := [.val (.ref 0), .val (.long k0), .second, .val (.int (x5 &&& 2147483647)), .unset]) rfl (W := 0) rfl (by decide) (by decide) gp1 13 157 (by decide) (by decide) ?_
  show Go _ _ _ _ 96 [.val (.long x0), .second, .val (.long x1), .second, .val (.long x2), .second, .val (.long x3), .second, .val (.int x4), .val (.int x5), .val (.long k0), .second, .val (.long k1), .second, .val (.long k2), .second, .val (.long k3), .second, .val (.int 2), .val (.int (x5 &&& 2147483647)), .val (.ref 0), .unset, .unset] [] [.inl ("com/example/subsume/subsume/LongIntMap", [("keys", "[J", .ref 1), ("values", "[I", .ref 2), ("size", "I", .int (Int32.ofNat (own_occ t1).length))]), .inr (.long, (own_ks t1)), .inr (.int, (own_vs t1))] _
  refine Go.iload d0_96 rfl ?_
  refine Go.iconst d0_98 (v := 1) rfl ?_
  refine Go.icmpF d0_99 (XT.ii_le_f (by decide)) ?_
  refine Go.aload d0_102 rfl rfl ?_
  refine Go.lload d0_104 rfl ?_
  refine Go.iload d0_106 rfl ?_
  refine Go.iconst d0_108 (v := 1) rfl ?_
  refine Go.ixor d0_109 ?_
  obtain ⟨t2, ok2, mm2, le2, ln2, gp2⟩ := go_put K hw t1 1 ok1 (by decide) k1 ((x5 &&& 2147483647) ^^^ 1) (own_valx _)
  refine Go.callV (M' := m6) (i := 0) d0_110 rfl (hw _ (List.mem_of_getElem? (i := 30) rfl)) (hw _ (List.mem_of_getElem? (i := 32) rfl)) (hw _ (List.mem_of_getElem? (i := 3) rfl)) (hw _ (List.mem_of_getElem? (i := 31) rfl)) (hw _ (List.mem_of_getElem? (i := 33) rfl)) (hw _ (List.mem_of_getElem? (i := 34) rfl)) mi6 (as := [.long k1, .int ((x5 &&& 2147483647) ^^^ 1)]) rfl rfl (st := []) rfl (ls1 := [.val (.ref 0), .val (.long k1), .second, .val (.int ((x5 &&& 2147483647) ^^^ 1)), .unset]) rfl (W := 0) rfl (by decide) (by decide) gp2 13 157 (by decide) (by decide) ?_
  show Go _ _ _ _ 113 [.val (.long x0), .second, .val (.long x1), .second, .val (.long x2), .second, .val (.long x3), .second, .val (.int x4), .val (.int x5), .val (.long k0), .second, .val (.long k1), .second, .val (.long k2), .second, .val (.long k3), .second, .val (.int 2), .val (.int (x5 &&& 2147483647)), .val (.ref 0), .unset, .unset] [] [.inl ("com/example/subsume/subsume/LongIntMap", [("keys", "[J", .ref 1), ("values", "[I", .ref 2), ("size", "I", .int (Int32.ofNat (own_occ t2).length))]), .inr (.long, (own_ks t2)), .inr (.int, (own_vs t2))] _
  refine Go.iload d0_113 rfl ?_
  refine Go.iconst d0_115 (v := 2) rfl ?_
  refine Go.icmpT d0_116 j0_116 (XT.ii_le_t (by decide)) ?_
  refine Go.iload d0_130 rfl ?_
  refine Go.iconst d0_132 (v := 3) rfl ?_
  refine Go.icmpT d0_133 j0_133 (XT.ii_le_t (by decide)) ?_
  refine Go.aload d0_144 rfl rfl ?_
  refine Go.callV (M' := m5) (i := 0) d0_146 rfl (hw _ (List.mem_of_getElem? (i := 23) rfl)) (hw _ (List.mem_of_getElem? (i := 25) rfl)) (hw _ (List.mem_of_getElem? (i := 3) rfl)) (hw _ (List.mem_of_getElem? (i := 24) rfl)) (hw _ (List.mem_of_getElem? (i := 26) rfl)) (hw _ (List.mem_of_getElem? (i := 27) rfl)) mi5 (as := []) rfl rfl (st := []) rfl (ls1 := [.val (.ref 0), .unset, .unset, .unset]) rfl (W := 0) rfl (by decide) (by decide) (go_keys K hw t2 ok2.1 ok2.2.1 (by have := ok2.2.2.2; omega)) 12 152 (by decide) (by decide) ?_
  show Go _ _ _ _ 149 [.val (.long x0), .second, .val (.long x1), .second, .val (.long x2), .second, .val (.long x3), .second, .val (.int x4), .val (.int x5), .val (.long k0), .second, .val (.long k1), .second, .val (.long k2), .second, .val (.long k3), .second, .val (.int 2), .val (.int (x5 &&& 2147483647)), .val (.ref 0), .unset, .unset] [.ref 3] [.inl ("com/example/subsume/subsume/LongIntMap", [("keys", "[J", .ref 1), ("values", "[I", .ref 2), ("size", "I", .int (Int32.ofNat (own_occ t2).length))]), .inr (.long, (own_ks t2)), .inr (.int, (own_vs t2)), .inr (.long, (own_rs (own_occ t2) 0))] _
  refine Go.astore d0_149 (ls' := [.val (.long x0), .second, .val (.long x1), .second, .val (.long x2), .second, .val (.long x3), .second, .val (.int x4), .val (.int x5), .val (.long k0), .second, .val (.long k1), .second, .val (.long k2), .second, .val (.long k3), .second, .val (.int 2), .val (.int (x5 &&& 2147483647)), .val (.ref 0), .val (.ref 3), .unset]) rfl rfl ?_
  refine Go.iconst d0_151 (v := 0) rfl ?_
  refine Go.istore d0_152 (ls' := [.val (.long x0), .second, .val (.long x1), .second, .val (.long x2), .second, .val (.long x3), .second, .val (.int x4), .val (.int x5), .val (.long k0), .second, .val (.long k1), .second, .val (.long k2), .second, .val (.long k3), .second, .val (.int 2), .val (.int (x5 &&& 2147483647)), .val (.ref 0), .val (.ref 3), .val (.int 0)]) rfl ?_
  refine Go.iload d0_154 rfl ?_
  refine Go.ifF d0_156 (XT.i0_le_f (by decide)) ?_
  refine Go.iinc d0_159 (v := 1) rfl rfl (ls' := [.val (.long x0), .second, .val (.long x1), .second, .val (.long x2), .second, .val (.long x3), .second, .val (.int x4), .val (.int x5), .val (.long k0), .second, .val (.long k1), .second, .val (.long k2), .second, .val (.long k3), .second, .val (.int 2), .val (.int (x5 &&& 2147483647)), .val (.ref 0), .val (.ref 3), .val (.int 1)]) rfl ?_
  refine Go.iload d0_162 rfl ?_
  refine Go.iconst d0_164 (v := 1) rfl ?_
  refine Go.icmpF d0_165 (XT.ii_le_f (by decide)) ?_
  refine Go.lload d0_168 rfl ?_
  refine Go.lload d0_170 rfl ?_
  refine Go.lcmp d0_172 ?_
  refine Go.lif_eq d0_173 j0_173 (fun h173 => ?_) (fun h173 => ?_)
  · -- pc 173 taken
    refine Go.iload d0_179 rfl ?_
    refine Go.iconst d0_181 (v := 2) rfl ?_
    refine Go.icmpT d0_182 j0_182 (XT.ii_le_t (by decide)) ?_
    refine Go.iload d0_204 rfl ?_
    refine Go.iconst d0_206 (v := 3) rfl ?_
    refine Go.icmpT d0_207 j0_207 (XT.ii_le_t (by decide)) ?_
    have L1 : (own_occ t1).length = 1 := (ln1 (fun z => by
        exact mm0 _ z)).trans (congrArg (· + 1) le0)
    have L2 : (own_occ t2).length = 1 := (le2 (by rw [h173]; exact ((mm1 _).mpr (Or.inl rfl)))).trans L1
    refine Go.aload d0_237 rfl rfl ?_
    refine Go.arraylength d0_239 rfl (z := 1) (own_rlen L2 rfl) ?_
    refine Go.iload d0_240 rfl ?_
    refine Go.icmpT d0_242 j0_242 (XT.ii_eq_t (by decide)) ?_
    refine Go.iload d0_247 rfl ?_
    refine Go.ifF d0_249 (XT.i0_le_f (by decide)) ?_
    refine Go.aload d0_252 rfl rfl ?_
    refine Go.lload d0_254 rfl ?_
    obtain ⟨z1, hzz1, ghz1⟩ := go_has K hw ((own_occ t2).map (fun x => x.1)) (by rw [List.length_map]; omega) k0 (own_mem_occ ((mm2 _).mpr (Or.inr ((mm1 _).mpr (Or.inl rfl))))) [.inl ("com/example/subsume/subsume/LongIntMap", [("keys", "[J", .ref 1), ("values", "[I", .ref 2), ("size", "I", .int (Int32.ofNat (own_occ t2).length))]), .inr (.long, (own_ks t2)), .inr (.int, (own_vs t2)), .inr (.long, (own_rs (own_occ t2) 0))] (by rw [← own_rs0]; rfl)
    refine Go.callS (M' := m8) d0_256 (hw _ (List.mem_of_getElem? (i := 40) rfl)) (hw _ (List.mem_of_getElem? (i := 41) rfl)) (hw _ (List.mem_of_getElem? (i := 42) rfl)) (hw _ (List.mem_of_getElem? (i := 43) rfl)) mi8 (as := [.ref 3, .long k0]) rfl rfl (st := []) rfl (ls1 := [.val (.ref 3), .val (.long k0), .second]) rfl (W := 0) rfl (by decide) (by decide) ghz1 12 152 (by decide) (by decide) ?_
    show Go _ _ _ _ 259 [.val (.long x0), .second, .val (.long x1), .second, .val (.long x2), .second, .val (.long x3), .second, .val (.int x4), .val (.int x5), .val (.long k0), .second, .val (.long k1), .second, .val (.long k2), .second, .val (.long k3), .second, .val (.int 2), .val (.int (x5 &&& 2147483647)), .val (.ref 0), .val (.ref 3), .val (.int 1)] [.int z1] [.inl ("com/example/subsume/subsume/LongIntMap", [("keys", "[J", .ref 1), ("values", "[I", .ref 2), ("size", "I", .int (Int32.ofNat (own_occ t2).length))]), .inr (.long, (own_ks t2)), .inr (.int, (own_vs t2)), .inr (.long, (own_rs (own_occ t2) 0))] _
    refine Go.ifT d0_259 j0_259 (XT.i0_ne_t hzz1) ?_
    refine Go.iload d0_264 rfl ?_
    refine Go.iconst d0_266 (v := 1) rfl ?_
    refine Go.icmpF d0_267 (XT.ii_le_f (by decide)) ?_
    refine Go.aload d0_270 rfl rfl ?_
    refine Go.lload d0_272 rfl ?_
    obtain ⟨z2, hzz2, ghz2⟩ := go_has K hw ((own_occ t2).map (fun x => x.1)) (by rw [List.length_map]; omega) k1 (own_mem_occ ((mm2 _).mpr (Or.inl rfl))) [.inl ("com/example/subsume/subsume/LongIntMap", [("keys", "[J", .ref 1), ("values", "[I", .ref 2), ("size", "I", .int (Int32.ofNat (own_occ t2).length))]), .inr (.long, (own_ks t2)), .inr (.int, (own_vs t2)), .inr (.long, (own_rs (own_occ t2) 0))] (by rw [← own_rs0]; rfl)
    refine Go.callS (M' := m8) d0_274 (hw _ (List.mem_of_getElem? (i := 40) rfl)) (hw _ (List.mem_of_getElem? (i := 41) rfl)) (hw _ (List.mem_of_getElem? (i := 42) rfl)) (hw _ (List.mem_of_getElem? (i := 43) rfl)) mi8 (as := [.ref 3, .long k1]) rfl rfl (st := []) rfl (ls1 := [.val (.ref 3), .val (.long k1), .second]) rfl (W := 0) rfl (by decide) (by decide) ghz2 12 152 (by decide) (by decide) ?_
    show Go _ _ _ _ 277 [.val (.long x0), .second, .val (.long x1), .second, .val (.long x2), .second, .val (.long x3), .second, .val (.int x4), .val (.int x5), .val (.long k0), .second, .val (.long k1), .second, .val (.long k2), .second, .val (.long k3), .second, .val (.int 2), .val (.int (x5 &&& 2147483647)), .val (.ref 0), .val (.ref 3), .val (.int 1)] [.int z2] [.inl ("com/example/subsume/subsume/LongIntMap", [("keys", "[J", .ref 1), ("values", "[I", .ref 2), ("size", "I", .int (Int32.ofNat (own_occ t2).length))]), .inr (.long, (own_ks t2)), .inr (.int, (own_vs t2)), .inr (.long, (own_rs (own_occ t2) 0))] _
    refine Go.ifT d0_277 j0_277 (XT.i0_ne_t hzz2) ?_
    refine Go.iload d0_282 rfl ?_
    refine Go.iconst d0_284 (v := 2) rfl ?_
    refine Go.icmpT d0_285 j0_285 (XT.ii_le_t (by decide)) ?_
    refine Go.iload d0_300 rfl ?_
    refine Go.iconst d0_302 (v := 3) rfl ?_
    refine Go.icmpT d0_303 j0_303 (XT.ii_le_t (by decide)) ?_
    refine Go.iconst d0_318 (v := 1) rfl ?_
    exact Go.ireturnZ d0_319 rfl (by decide) rfl HOk.any
  · -- pc 173 not taken
    refine Go.iinc d0_176 (v := 1) rfl rfl (ls' := [.val (.long x0), .second, .val (.long x1), .second, .val (.long x2), .second, .val (.long x3), .second, .val (.int x4), .val (.int x5), .val (.long k0), .second, .val (.long k1), .second, .val (.long k2), .second, .val (.long k3), .second, .val (.int 2), .val (.int (x5 &&& 2147483647)), .val (.ref 0), .val (.ref 3), .val (.int 2)]) rfl ?_
    refine Go.iload d0_179 rfl ?_
    refine Go.iconst d0_181 (v := 2) rfl ?_
    refine Go.icmpT d0_182 j0_182 (XT.ii_le_t (by decide)) ?_
    refine Go.iload d0_204 rfl ?_
    refine Go.iconst d0_206 (v := 3) rfl ?_
    refine Go.icmpT d0_207 j0_207 (XT.ii_le_t (by decide)) ?_
    have L1 : (own_occ t1).length = 1 := (ln1 (fun z => by
        exact mm0 _ z)).trans (congrArg (· + 1) le0)
    have L2 : (own_occ t2).length = 2 := (ln2 (fun z => by
        rcases (mm1 _).mp z with e | z
        · exact h173 e
        exact mm0 _ z)).trans (congrArg (· + 1) L1)
    refine Go.aload d0_237 rfl rfl ?_
    refine Go.arraylength d0_239 rfl (z := 2) (own_rlen L2 rfl) ?_
    refine Go.iload d0_240 rfl ?_
    refine Go.icmpT d0_242 j0_242 (XT.ii_eq_t (by decide)) ?_
    refine Go.iload d0_247 rfl ?_
    refine Go.ifF d0_249 (XT.i0_le_f (by decide)) ?_
    refine Go.aload d0_252 rfl rfl ?_
    refine Go.lload d0_254 rfl ?_
    obtain ⟨z3, hzz3, ghz3⟩ := go_has K hw ((own_occ t2).map (fun x => x.1)) (by rw [List.length_map]; omega) k0 (own_mem_occ ((mm2 _).mpr (Or.inr ((mm1 _).mpr (Or.inl rfl))))) [.inl ("com/example/subsume/subsume/LongIntMap", [("keys", "[J", .ref 1), ("values", "[I", .ref 2), ("size", "I", .int (Int32.ofNat (own_occ t2).length))]), .inr (.long, (own_ks t2)), .inr (.int, (own_vs t2)), .inr (.long, (own_rs (own_occ t2) 0))] (by rw [← own_rs0]; rfl)
    refine Go.callS (M' := m8) d0_256 (hw _ (List.mem_of_getElem? (i := 40) rfl)) (hw _ (List.mem_of_getElem? (i := 41) rfl)) (hw _ (List.mem_of_getElem? (i := 42) rfl)) (hw _ (List.mem_of_getElem? (i := 43) rfl)) mi8 (as := [.ref 3, .long k0]) rfl rfl (st := []) rfl (ls1 := [.val (.ref 3), .val (.long k0), .second]) rfl (W := 0) rfl (by decide) (by decide) ghz3 12 152 (by decide) (by decide) ?_
    show Go _ _ _ _ 259 [.val (.long x0), .second, .val (.long x1), .second, .val (.long x2), .second, .val (.long x3), .second, .val (.int x4), .val (.int x5), .val (.long k0), .second, .val (.long k1), .second, .val (.long k2), .second, .val (.long k3), .second, .val (.int 2), .val (.int (x5 &&& 2147483647)), .val (.ref 0), .val (.ref 3), .val (.int 2)] [.int z3] [.inl ("com/example/subsume/subsume/LongIntMap", [("keys", "[J", .ref 1), ("values", "[I", .ref 2), ("size", "I", .int (Int32.ofNat (own_occ t2).length))]), .inr (.long, (own_ks t2)), .inr (.int, (own_vs t2)), .inr (.long, (own_rs (own_occ t2) 0))] _
    refine Go.ifT d0_259 j0_259 (XT.i0_ne_t hzz3) ?_
    refine Go.iload d0_264 rfl ?_
    refine Go.iconst d0_266 (v := 1) rfl ?_
    refine Go.icmpF d0_267 (XT.ii_le_f (by decide)) ?_
    refine Go.aload d0_270 rfl rfl ?_
    refine Go.lload d0_272 rfl ?_
    obtain ⟨z4, hzz4, ghz4⟩ := go_has K hw ((own_occ t2).map (fun x => x.1)) (by rw [List.length_map]; omega) k1 (own_mem_occ ((mm2 _).mpr (Or.inl rfl))) [.inl ("com/example/subsume/subsume/LongIntMap", [("keys", "[J", .ref 1), ("values", "[I", .ref 2), ("size", "I", .int (Int32.ofNat (own_occ t2).length))]), .inr (.long, (own_ks t2)), .inr (.int, (own_vs t2)), .inr (.long, (own_rs (own_occ t2) 0))] (by rw [← own_rs0]; rfl)
    refine Go.callS (M' := m8) d0_274 (hw _ (List.mem_of_getElem? (i := 40) rfl)) (hw _ (List.mem_of_getElem? (i := 41) rfl)) (hw _ (List.mem_of_getElem? (i := 42) rfl)) (hw _ (List.mem_of_getElem? (i := 43) rfl)) mi8 (as := [.ref 3, .long k1]) rfl rfl (st := []) rfl (ls1 := [.val (.ref 3), .val (.long k1), .second]) rfl (W := 0) rfl (by decide) (by decide) ghz4 12 152 (by decide) (by decide) ?_
    show Go _ _ _ _ 277 [.val (.long x0), .second, .val (.long x1), .second, .val (.long x2), .second, .val (.long x3), .second, .val (.int x4), .val (.int x5), .val (.long k0), .second, .val (.long k1), .second, .val (.long k2), .second, .val (.long k3), .second, .val (.int 2), .val (.int (x5 &&& 2147483647)), .val (.ref 0), .val (.ref 3), .val (.int 2)] [.int z4] [.inl ("com/example/subsume/subsume/LongIntMap", [("keys", "[J", .ref 1), ("values", "[I", .ref 2), ("size", "I", .int (Int32.ofNat (own_occ t2).length))]), .inr (.long, (own_ks t2)), .inr (.int, (own_vs t2)), .inr (.long, (own_rs (own_occ t2) 0))] _
    refine Go.ifT d0_277 j0_277 (XT.i0_ne_t hzz4) ?_
    refine Go.iload d0_282 rfl ?_
    refine Go.iconst d0_284 (v := 2) rfl ?_
    refine Go.icmpT d0_285 j0_285 (XT.ii_le_t (by decide)) ?_
    refine Go.iload d0_300 rfl ?_
    refine Go.iconst d0_302 (v := 3) rfl ?_
    refine Go.icmpT d0_303 j0_303 (XT.ii_le_t (by decide)) ?_
    refine Go.iconst d0_318 (v := 1) rfl ?_
    exact Go.ireturnZ d0_319 rfl (by decide) rfl HOk.any
theorem go_t66_3 (K : Ctx) (hw : ∀ d ∈ tables_1, d.before K.2.2.1 K.2.1 = true) (x0 x1 x2 x3 k0 k1 k2 k3 : Int64) (x4 x5 : Int32) : Go K m0 6 144 66 [.val (.long x0), .second, .val (.long x1), .second, .val (.long x2), .second, .val (.long x3), .second, .val (.int x4), .val (.int x5), .val (.long k0), .second, .val (.long k1), .second, .val (.long k2), .second, .val (.long k3), .second, .val (.int 3), .unset, .unset, .unset, .unset] [] [] (some (.int 1), none, 16, 192) := by
  refine Go.iload d0_66 rfl ?_
  refine Go.ldc d0_68 (hw _ (List.mem_of_getElem? (i := 0) rfl)) ?_
  refine Go.iand d0_70 ?_
  refine Go.istore d0_71 (ls' := [.val (.long x0), .second, .val (.long x1), .second, .val (.long x2), .second, .val (.long x3), .second, .val (.int x4), .val (.int x5), .val (.long k0), .second, .val (.long k1), .second, .val (.long k2), .second, .val (.long k3), .second, .val (.int 3), .val (.int (x5 &&& 2147483647)), .unset, .unset, .unset]) rfl ?_
  refine Go.new [("keys", "[J", .null), ("values", "[I", .null), ("size", "I", .int 0)] d0_73 (hw _ (List.mem_of_getElem? (i := 1) rfl)) (hw _ (List.mem_of_getElem? (i := 2) rfl)) (hw _ (List.mem_of_getElem? (i := 3) rfl)) (by decide) (fun f hf => ?_) (i := 0) rfl 15 189 (by decide) (by decide) ?_
  · simp only [List.mem_cons, List.not_mem_nil, or_false] at hf
    rcases hf with rfl | rfl | rfl
    · exact ⟨Or.inl (hw _ (List.mem_of_getElem? (i := 12) rfl)), _, (by decide : parseFieldDescriptor "[J" = some (.array .long)), rfl⟩
    · exact ⟨Or.inl (hw _ (List.mem_of_getElem? (i := 22) rfl)), _, (by decide : parseFieldDescriptor "[I" = some (.array .int)), rfl⟩
    · exact ⟨Or.inl (hw _ (List.mem_of_getElem? (i := 29) rfl)), _, (by decide : parseFieldDescriptor "I" = some .int), rfl⟩
  show Go _ _ _ _ 76 [.val (.long x0), .second, .val (.long x1), .second, .val (.long x2), .second, .val (.long x3), .second, .val (.int x4), .val (.int x5), .val (.long k0), .second, .val (.long k1), .second, .val (.long k2), .second, .val (.long k3), .second, .val (.int 3), .val (.int (x5 &&& 2147483647)), .unset, .unset, .unset] [.ref 0] [.inl ("com/example/subsume/subsume/LongIntMap", [("keys", "[J", .null), ("values", "[I", .null), ("size", "I", .int 0)])] _
  refine Go.dup d0_76 rfl ?_
  refine Go.callI (M' := m1) (i := 0) d0_77 rfl rfl (hw _ (List.mem_of_getElem? (i := 4) rfl)) (hw _ (List.mem_of_getElem? (i := 5) rfl)) (hw _ (List.mem_of_getElem? (i := 3) rfl)) (hw _ (List.mem_of_getElem? (i := 6) rfl)) mi1 (as := []) rfl rfl (st := [.ref 0]) rfl (ls1 := [.val (.ref 0)]) rfl (W := 1) rfl (by decide) (by decide) (go_ctor K hw) 13 157 (by decide) (by decide) ?_
  show Go _ _ _ _ 80 [.val (.long x0), .second, .val (.long x1), .second, .val (.long x2), .second, .val (.long x3), .second, .val (.int x4), .val (.int x5), .val (.long k0), .second, .val (.long k1), .second, .val (.long k2), .second, .val (.long k3), .second, .val (.int 3), .val (.int (x5 &&& 2147483647)), .unset, .unset, .unset] [.ref 0] [.inl ("com/example/subsume/subsume/LongIntMap", [("keys", "[J", .ref 1), ("values", "[I", .ref 2), ("size", "I", .int 0)]), .inr (.long, [.long 0, .long 0, .long 0, .long 0, .long 0, .long 0, .long 0, .long 0, .long 0, .long 0, .long 0, .long 0, .long 0, .long 0, .long 0, .long 0]), .inr (.int, [.int (-1), .int (-1), .int (-1), .int (-1), .int (-1), .int (-1), .int (-1), .int (-1), .int (-1), .int (-1), .int (-1), .int (-1), .int (-1), .int (-1), .int (-1), .int (-1)])] _
  refine Go.astore d0_80 (ls' := [.val (.long x0), .second, .val (.long x1), .second, .val (.long x2), .second, .val (.long x3), .second, .val (.int x4), .val (.int x5), .val (.long k0), .second, .val (.long k1), .second, .val (.long k2), .second, .val (.long k3), .second, .val (.int 3), .val (.int (x5 &&& 2147483647)), .val (.ref 0), .unset, .unset]) rfl rfl ?_
  obtain ⟨t0, et0⟩ : ∃ t : own_T, t = List.replicate 16 none := ⟨_, rfl⟩
  have ok0 : own_okT t0 0 := by rw [et0]; exact own_ok0
  have mm0 : ∀ k, ¬ own_mem t0 k := by rw [et0]; exact own_mem0
  have le0 : (own_occ t0).length = 0 := by rw [et0, own_occ_new]; rfl
  have hH0 : ([.inl ("com/example/subsume/subsume/LongIntMap", [("keys", "[J", .ref 1), ("values", "[I", .ref 2), ("size", "I", .int 0)]), .inr (.long, [.long 0, .long 0, .long 0, .long 0, .long 0, .long 0, .long 0, .long 0, .long 0, .long 0, .long 0, .long 0, .long 0, .long 0, .long 0, .long 0]), .inr (.int, [.int (-1), .int (-1), .int (-1), .int (-1), .int (-1), .int (-1), .int (-1), .int (-1), .int (-1), .int (-1), .int (-1), .int (-1), .int (-1), .int (-1), .int (-1), .int (-1)])] : Hp) = [.inl ("com/example/subsume/subsume/LongIntMap", [("keys", "[J", .ref 1), ("values", "[I", .ref 2), ("size", "I", .int (Int32.ofNat (own_occ t0).length))]), .inr (.long, (own_ks t0)), .inr (.int, (own_vs t0))] := by rw [et0]; rfl
  rw [hH0]
  refine Go.iload d0_82 rfl ?_
  refine Go.ifF d0_84 (XT.i0_le_f (by decide)) ?_
  refine Go.aload d0_87 rfl rfl ?_
  refine Go.lload d0_89 rfl ?_
  refine Go.iload d0_91 rfl ?_
  obtain ⟨t1, ok1, mm1, le1, ln1, gp1⟩ := go_put K hw t0 0 ok0 (by decide) k0 (x5 &&& 2147483647) (own_val _)
  refine Go.callV (M' := m6) (i := 0) d0_93 rfl (hw _ (List.mem_of_getElem? (i := 30) rfl)) (hw _ (List.mem_of_getElem? (i := 32) rfl)) (hw _ (List.mem_of_getElem? (i := 3) rfl)) (hw _ (List.mem_of_getElem? (i := 31) rfl)) (hw _ (List.mem_of_getElem? (i := 33) rfl)) (hw _ (List.mem_of_getElem? (i := 34) rfl)) mi6 (as := [.long k0, .int (x5 &&& 2147483647)]) rfl rfl (st := []) rfl (ls1 := [.val (.ref 0), .val (.long k0), .second, .val (.int (x5 &&& 2147483647)), .unset]) rfl (W := 0) rfl (by decide) (by decide) gp1 13 157 (by decide) (by decide) ?_
  show Go _ _ _ _ 96 [.val (.long x0), .second, .val (.long x1), .second, .val (.long x2), .second, .val (.long x3), .second, .val (.int x4), .val (.int x5), .val (.long k0), .second, .val (.long k1), .second, .val (.long k2), .second, .val (.long k3), .second, .val (.int 3), .val (.int (x5 &&& 2147483647)), .val (.ref 0), .unset, .unset] [] [.inl ("com/example/subsume/subsume/LongIntMap", [("keys", "[J", .ref 1), ("values", "[I", .ref 2), ("size", "I", .int (Int32.ofNat (own_occ t1).length))]), .inr (.long, (own_ks t1)), .inr (.int, (own_vs t1))] _
  refine Go.iload d0_96 rfl ?_
  refine Go.iconst d0_98 (v := 1) rfl ?_
  refine Go.icmpF d0_99 (XT.ii_le_f (by decide)) ?_
  refine Go.aload d0_102 rfl rfl ?_
  refine Go.lload d0_104 rfl ?_
  refine Go.iload d0_106 rfl ?_
  refine Go.iconst d0_108 (v := 1) rfl ?_
  refine Go.ixor d0_109 ?_
  obtain ⟨t2, ok2, mm2, le2, ln2, gp2⟩ := go_put K hw t1 1 ok1 (by decide) k1 ((x5 &&& 2147483647) ^^^ 1) (own_valx _)
  refine Go.callV (M' := m6) (i := 0) d0_110 rfl (hw _ (List.mem_of_getElem? (i := 30) rfl)) (hw _ (List.mem_of_getElem? (i := 32) rfl)) (hw _ (List.mem_of_getElem? (i := 3) rfl)) (hw _ (List.mem_of_getElem? (i := 31) rfl)) (hw _ (List.mem_of_getElem? (i := 33) rfl)) (hw _ (List.mem_of_getElem? (i := 34) rfl)) mi6 (as := [.long k1, .int ((x5 &&& 2147483647) ^^^ 1)]) rfl rfl (st := []) rfl (ls1 := [.val (.ref 0), .val (.long k1), .second, .val (.int ((x5 &&& 2147483647) ^^^ 1)), .unset]) rfl (W := 0) rfl (by decide) (by decide) gp2 13 157 (by decide) (by decide) ?_
  show Go _ _ _ _ 113 [.val (.long x0), .second, .val (.long x1), .second, .val (.long x2), .second, .val (.long x3), .second, .val (.int x4), .val (.int x5), .val (.long k0), .second, .val (.long k1), .second, .val (.long k2), .second, .val (.long k3), .second, .val (.int 3), .val (.int (x5 &&& 2147483647)), .val (.ref 0), .unset, .unset] [] [.inl ("com/example/subsume/subsume/LongIntMap", [("keys", "[J", .ref 1), ("values", "[I", .ref 2), ("size", "I", .int (Int32.ofNat (own_occ t2).length))]), .inr (.long, (own_ks t2)), .inr (.int, (own_vs t2))] _
  refine Go.iload d0_113 rfl ?_
  refine Go.iconst d0_115 (v := 2) rfl ?_
  refine Go.icmpF d0_116 (XT.ii_le_f (by decide)) ?_
  refine Go.aload d0_119 rfl rfl ?_
  refine Go.lload d0_121 rfl ?_
  refine Go.iload d0_123 rfl ?_
  refine Go.iconst d0_125 (v := 1) rfl ?_
  refine Go.iushr d0_126 ?_
  obtain ⟨t3, ok3, mm3, le3, ln3, gp3⟩ := go_put K hw t2 2 ok2 (by decide) k2 (XT.ushr (x5 &&& 2147483647) 1) (own_valu _)
  refine Go.callV (M' := m6) (i := 0) d0_127 rfl (hw _ (List.mem_of_getElem? (i := 30) rfl)) (hw _ (List.mem_of_getElem? (i := 32) rfl)) (hw _ (List.mem_of_getElem? (i := 3) rfl)) (hw _ (List.mem_of_getElem? (i := 31) rfl)) (hw _ (List.mem_of_getElem? (i := 33) rfl)) (hw _ (List.mem_of_getElem? (i := 34) rfl)) mi6 (as := [.long k2, .int (XT.ushr (x5 &&& 2147483647) 1)]) rfl rfl (st := []) rfl (ls1 := [.val (.ref 0), .val (.long k2), .second, .val (.int (XT.ushr (x5 &&& 2147483647) 1)), .unset]) rfl (W := 0) rfl (by decide) (by decide) gp3 13 157 (by decide) (by decide) ?_
  show Go _ _ _ _ 130 [.val (.long x0), .second, .val (.long x1), .second, .val (.long x2), .second, .val (.long x3), .second, .val (.int x4), .val (.int x5), .val (.long k0), .second, .val (.long k1), .second, .val (.long k2), .second, .val (.long k3), .second, .val (.int 3), .val (.int (x5 &&& 2147483647)), .val (.ref 0), .unset, .unset] [] [.inl ("com/example/subsume/subsume/LongIntMap", [("keys", "[J", .ref 1), ("values", "[I", .ref 2), ("size", "I", .int (Int32.ofNat (own_occ t3).length))]), .inr (.long, (own_ks t3)), .inr (.int, (own_vs t3))] _
  refine Go.iload d0_130 rfl ?_
  refine Go.iconst d0_132 (v := 3) rfl ?_
  refine Go.icmpT d0_133 j0_133 (XT.ii_le_t (by decide)) ?_
  refine Go.aload d0_144 rfl rfl ?_
  refine Go.callV (M' := m5) (i := 0) d0_146 rfl (hw _ (List.mem_of_getElem? (i := 23) rfl)) (hw _ (List.mem_of_getElem? (i := 25) rfl)) (hw _ (List.mem_of_getElem? (i := 3) rfl)) (hw _ (List.mem_of_getElem? (i := 24) rfl)) (hw _ (List.mem_of_getElem? (i := 26) rfl)) (hw _ (List.mem_of_getElem? (i := 27) rfl)) mi5 (as := []) rfl rfl (st := []) rfl (ls1 := [.val (.ref 0), .unset, .unset, .unset]) rfl (W := 0) rfl (by decide) (by decide) (go_keys K hw t3 ok3.1 ok3.2.1 (by have := ok3.2.2.2; omega)) 12 152 (by decide) (by decide) ?_
  show Go _ _ _ _ 149 [.val (.long x0), .second, .val (.long x1), .second, .val (.long x2), .second, .val (.long x3), .second, .val (.int x4), .val (.int x5), .val (.long k0), .second, .val (.long k1), .second, .val (.long k2), .second, .val (.long k3), .second, .val (.int 3), .val (.int (x5 &&& 2147483647)), .val (.ref 0), .unset, .unset] [.ref 3] [.inl ("com/example/subsume/subsume/LongIntMap", [("keys", "[J", .ref 1), ("values", "[I", .ref 2), ("size", "I", .int (Int32.ofNat (own_occ t3).length))]), .inr (.long, (own_ks t3)), .inr (.int, (own_vs t3)), .inr (.long, (own_rs (own_occ t3) 0))] _
  refine Go.astore d0_149 (ls' := [.val (.long x0), .second, .val (.long x1), .second, .val (.long x2), .second, .val (.long x3), .second, .val (.int x4), .val (.int x5), .val (.long k0), .second, .val (.long k1), .second, .val (.long k2), .second, .val (.long k3), .second, .val (.int 3), .val (.int (x5 &&& 2147483647)), .val (.ref 0), .val (.ref 3), .unset]) rfl rfl ?_
  refine Go.iconst d0_151 (v := 0) rfl ?_
  refine Go.istore d0_152 (ls' := [.val (.long x0), .second, .val (.long x1), .second, .val (.long x2), .second, .val (.long x3), .second, .val (.int x4), .val (.int x5), .val (.long k0), .second, .val (.long k1), .second, .val (.long k2), .second, .val (.long k3), .second, .val (.int 3), .val (.int (x5 &&& 2147483647)), .val (.ref 0), .val (.ref 3), .val (.int 0)]) rfl ?_
  refine Go.iload d0_154 rfl ?_
  refine Go.ifF d0_156 (XT.i0_le_f (by decide)) ?_
  refine Go.iinc d0_159 (v := 1) rfl rfl (ls' := [.val (.long x0), .second, .val (.long x1), .second, .val (.long x2), .second, .val (.long x3), .second, .val (.int x4), .val (.int x5), .val (.long k0), .second, .val (.long k1), .second, .val (.long k2), .second, .val (.long k3), .second, .val (.int 3), .val (.int (x5 &&& 2147483647)), .val (.ref 0), .val (.ref 3), .val (.int 1)]) rfl ?_
  refine Go.iload d0_162 rfl ?_
  refine Go.iconst d0_164 (v := 1) rfl ?_
  refine Go.icmpF d0_165 (XT.ii_le_f (by decide)) ?_
  refine Go.lload d0_168 rfl ?_
  refine Go.lload d0_170 rfl ?_
  refine Go.lcmp d0_172 ?_
  refine Go.lif_eq d0_173 j0_173 (fun h173 => ?_) (fun h173 => ?_)
  · -- pc 173 taken
    refine Go.iload d0_179 rfl ?_
    refine Go.iconst d0_181 (v := 2) rfl ?_
    refine Go.icmpF d0_182 (XT.ii_le_f (by decide)) ?_
    refine Go.lload d0_185 rfl ?_
    refine Go.lload d0_187 rfl ?_
    refine Go.lcmp d0_189 ?_
    refine Go.lif_eq d0_190 j0_190 (fun h190 => ?_) (fun h190 => ?_)
    · -- pc 190 taken
      refine Go.iload d0_204 rfl ?_
      refine Go.iconst d0_206 (v := 3) rfl ?_
      refine Go.icmpT d0_207 j0_207 (XT.ii_le_t (by decide)) ?_
      have L1 : (own_occ t1).length = 1 := (ln1 (fun z => by
          exact mm0 _ z)).trans (congrArg (· + 1) le0)
      have L2 : (own_occ t2).length = 1 := (le2 (by rw [h173]; exact ((mm1 _).mpr (Or.inl rfl)))).trans L1
      have L3 : (own_occ t3).length = 1 := (le3 (by rw [h190]; exact ((mm2 _).mpr (Or.inr ((mm1 _).mpr (Or.inl rfl)))))).trans L2
      refine Go.aload d0_237 rfl rfl ?_
      refine Go.arraylength d0_239 rfl (z := 1) (own_rlen L3 rfl) ?_
      refine Go.iload d0_240 rfl ?_
      refine Go.icmpT d0_242 j0_242 (XT.ii_eq_t (by decide)) ?_
      refine Go.iload d0_247 rfl ?_
      refine Go.ifF d0_249 (XT.i0_le_f (by decide)) ?_
      refine Go.aload d0_252 rfl rfl ?_
      refine Go.lload d0_254 rfl ?_
      obtain ⟨z1, hzz1, ghz1⟩ := go_has K hw ((own_occ t3).map (fun x => x.1)) (by rw [List.length_map]; omega) k0 (own_mem_occ ((mm3 _).mpr (Or.inr ((mm2 _).mpr (Or.inr ((mm1 _).mpr (Or.inl rfl))))))) [.inl ("com/example/subsume/subsume/LongIntMap", [("keys", "[J", .ref 1), ("values", "[I", .ref 2), ("size", "I", .int (Int32.ofNat (own_occ t3).length))]), .inr (.long, (own_ks t3)), .inr (.int, (own_vs t3)), .inr (.long, (own_rs (own_occ t3) 0))] (by rw [← own_rs0]; rfl)
      refine Go.callS (M' := m8) d0_256 (hw _ (List.mem_of_getElem? (i := 40) rfl)) (hw _ (List.mem_of_getElem? (i := 41) rfl)) (hw _ (List.mem_of_getElem? (i := 42) rfl)) (hw _ (List.mem_of_getElem? (i := 43) rfl)) mi8 (as := [.ref 3, .long k0]) rfl rfl (st := []) rfl (ls1 := [.val (.ref 3), .val (.long k0), .second]) rfl (W := 0) rfl (by decide) (by decide) ghz1 12 152 (by decide) (by decide) ?_
      show Go _ _ _ _ 259 [.val (.long x0), .second, .val (.long x1), .second, .val (.long x2), .second, .val (.long x3), .second, .val (.int x4), .val (.int x5), .val (.long k0), .second, .val (.long k1), .second, .val (.long k2), .second, .val (.long k3), .second, .val (.int 3), .val (.int (x5 &&& 2147483647)), .val (.ref 0), .val (.ref 3), .val (.int 1)] [.int z1] [.inl ("com/example/subsume/subsume/LongIntMap", [("keys", "[J", .ref 1), ("values", "[I", .ref 2), ("size", "I", .int (Int32.ofNat (own_occ t3).length))]), .inr (.long, (own_ks t3)), .inr (.int, (own_vs t3)), .inr (.long, (own_rs (own_occ t3) 0))] _
      refine Go.ifT d0_259 j0_259 (XT.i0_ne_t hzz1) ?_
      refine Go.iload d0_264 rfl ?_
      refine Go.iconst d0_266 (v := 1) rfl ?_
      refine Go.icmpF d0_267 (XT.ii_le_f (by decide)) ?_
      refine Go.aload d0_270 rfl rfl ?_
      refine Go.lload d0_272 rfl ?_
      obtain ⟨z2, hzz2, ghz2⟩ := go_has K hw ((own_occ t3).map (fun x => x.1)) (by rw [List.length_map]; omega) k1 (own_mem_occ ((mm3 _).mpr (Or.inr ((mm2 _).mpr (Or.inl rfl))))) [.inl ("com/example/subsume/subsume/LongIntMap", [("keys", "[J", .ref 1), ("values", "[I", .ref 2), ("size", "I", .int (Int32.ofNat (own_occ t3).length))]), .inr (.long, (own_ks t3)), .inr (.int, (own_vs t3)), .inr (.long, (own_rs (own_occ t3) 0))] (by rw [← own_rs0]; rfl)
      refine Go.callS (M' := m8) d0_274 (hw _ (List.mem_of_getElem? (i := 40) rfl)) (hw _ (List.mem_of_getElem? (i := 41) rfl)) (hw _ (List.mem_of_getElem? (i := 42) rfl)) (hw _ (List.mem_of_getElem? (i := 43) rfl)) mi8 (as := [.ref 3, .long k1]) rfl rfl (st := []) rfl (ls1 := [.val (.ref 3), .val (.long k1), .second]) rfl (W := 0) rfl (by decide) (by decide) ghz2 12 152 (by decide) (by decide) ?_
      show Go _ _ _ _ 277 [.val (.long x0), .second, .val (.long x1), .second, .val (.long x2), .second, .val (.long x3), .second, .val (.int x4), .val (.int x5), .val (.long k0), .second, .val (.long k1), .second, .val (.long k2), .second, .val (.long k3), .second, .val (.int 3), .val (.int (x5 &&& 2147483647)), .val (.ref 0), .val (.ref 3), .val (.int 1)] [.int z2] [.inl ("com/example/subsume/subsume/LongIntMap", [("keys", "[J", .ref 1), ("values", "[I", .ref 2), ("size", "I", .int (Int32.ofNat (own_occ t3).length))]), .inr (.long, (own_ks t3)), .inr (.int, (own_vs t3)), .inr (.long, (own_rs (own_occ t3) 0))] _
      refine Go.ifT d0_277 j0_277 (XT.i0_ne_t hzz2) ?_
      refine Go.iload d0_282 rfl ?_
      refine Go.iconst d0_284 (v := 2) rfl ?_
      refine Go.icmpF d0_285 (XT.ii_le_f (by decide)) ?_
      refine Go.aload d0_288 rfl rfl ?_
      refine Go.lload d0_290 rfl ?_
      obtain ⟨z3, hzz3, ghz3⟩ := go_has K hw ((own_occ t3).map (fun x => x.1)) (by rw [List.length_map]; omega) k2 (own_mem_occ ((mm3 _).mpr (Or.inl rfl))) [.inl ("com/example/subsume/subsume/LongIntMap", [("keys", "[J", .ref 1), ("values", "[I", .ref 2), ("size", "I", .int (Int32.ofNat (own_occ t3).length))]), .inr (.long, (own_ks t3)), .inr (.int, (own_vs t3)), .inr (.long, (own_rs (own_occ t3) 0))] (by rw [← own_rs0]; rfl)
      refine Go.callS (M' := m8) d0_292 (hw _ (List.mem_of_getElem? (i := 40) rfl)) (hw _ (List.mem_of_getElem? (i := 41) rfl)) (hw _ (List.mem_of_getElem? (i := 42) rfl)) (hw _ (List.mem_of_getElem? (i := 43) rfl)) mi8 (as := [.ref 3, .long k2]) rfl rfl (st := []) rfl (ls1 := [.val (.ref 3), .val (.long k2), .second]) rfl (W := 0) rfl (by decide) (by decide) ghz3 12 152 (by decide) (by decide) ?_
      show Go _ _ _ _ 295 [.val (.long x0), .second, .val (.long x1), .second, .val (.long x2), .second, .val (.long x3), .second, .val (.int x4), .val (.int x5), .val (.long k0), .second, .val (.long k1), .second, .val (.long k2), .second, .val (.long k3), .second, .val (.int 3), .val (.int (x5 &&& 2147483647)), .val (.ref 0), .val (.ref 3), .val (.int 1)] [.int z3] [.inl ("com/example/subsume/subsume/LongIntMap", [("keys", "[J", .ref 1), ("values", "[I", .ref 2), ("size", "I", .int (Int32.ofNat (own_occ t3).length))]), .inr (.long, (own_ks t3)), .inr (.int, (own_vs t3)), .inr (.long, (own_rs (own_occ t3) 0))] _
      refine Go.ifT d0_295 j0_295 (XT.i0_ne_t hzz3) ?_
      refine Go.iload d0_300 rfl ?_
      refine Go.iconst d0_302 (v := 3) rfl ?_
      refine Go.icmpT d0_303 j0_303 (XT.ii_le_t (by decide)) ?_
      refine Go.iconst d0_318 (v := 1) rfl ?_
      exact Go.ireturnZ d0_319 rfl (by decide) rfl HOk.any
    · -- pc 190 not taken
      refine Go.lload d0_193 rfl ?_
      refine Go.lload d0_195 rfl ?_
      refine Go.lcmp d0_197 ?_
      refine Go.lif_eq d0_198 j0_198 (fun h198 => ?_) (fun h198 => ?_)
      · -- pc 198 taken
        refine Go.iload d0_204 rfl ?_
        refine Go.iconst d0_206 (v := 3) rfl ?_
        refine Go.icmpT d0_207 j0_207 (XT.ii_le_t (by decide)) ?_
        have L1 : (own_occ t1).length = 1 := (ln1 (fun z => by
            exact mm0 _ z)).trans (congrArg (· + 1) le0)
        have L2 : (own_occ t2).length = 1 := (le2 (by rw [h173]; exact ((mm1 _).mpr (Or.inl rfl)))).trans L1
        have L3 : (own_occ t3).length = 1 := (le3 (by rw [h198]; exact ((mm2 _).mpr (Or.inl rfl)))).trans L2
        refine Go.aload d0_237 rfl rfl ?_
        refine Go.arraylength d0_239 rfl (z := 1) (own_rlen L3 rfl) ?_
        refine Go.iload d0_240 rfl ?_
        refine Go.icmpT d0_242 j0_242 (XT.ii_eq_t (by decide)) ?_
        refine Go.iload d0_247 rfl ?_
        refine Go.ifF d0_249 (XT.i0_le_f (by decide)) ?_
        refine Go.aload d0_252 rfl rfl ?_
        refine Go.lload d0_254 rfl ?_
        obtain ⟨z4, hzz4, ghz4⟩ := go_has K hw ((own_occ t3).map (fun x => x.1)) (by rw [List.length_map]; omega) k0 (own_mem_occ ((mm3 _).mpr (Or.inr ((mm2 _).mpr (Or.inr ((mm1 _).mpr (Or.inl rfl))))))) [.inl ("com/example/subsume/subsume/LongIntMap", [("keys", "[J", .ref 1), ("values", "[I", .ref 2), ("size", "I", .int (Int32.ofNat (own_occ t3).length))]), .inr (.long, (own_ks t3)), .inr (.int, (own_vs t3)), .inr (.long, (own_rs (own_occ t3) 0))] (by rw [← own_rs0]; rfl)
        refine Go.callS (M' := m8) d0_256 (hw _ (List.mem_of_getElem? (i := 40) rfl)) (hw _ (List.mem_of_getElem? (i := 41) rfl)) (hw _ (List.mem_of_getElem? (i := 42) rfl)) (hw _ (List.mem_of_getElem? (i := 43) rfl)) mi8 (as := [.ref 3, .long k0]) rfl rfl (st := []) rfl (ls1 := [.val (.ref 3), .val (.long k0), .second]) rfl (W := 0) rfl (by decide) (by decide) ghz4 12 152 (by decide) (by decide) ?_
        show Go _ _ _ _ 259 [.val (.long x0), .second, .val (.long x1), .second, .val (.long x2), .second, .val (.long x3), .second, .val (.int x4), .val (.int x5), .val (.long k0), .second, .val (.long k1), .second, .val (.long k2), .second, .val (.long k3), .second, .val (.int 3), .val (.int (x5 &&& 2147483647)), .val (.ref 0), .val (.ref 3), .val (.int 1)] [.int z4] [.inl ("com/example/subsume/subsume/LongIntMap", [("keys", "[J", .ref 1), ("values", "[I", .ref 2), ("size", "I", .int (Int32.ofNat (own_occ t3).length))]), .inr (.long, (own_ks t3)), .inr (.int, (own_vs t3)), .inr (.long, (own_rs (own_occ t3) 0))] _
        refine Go.ifT d0_259 j0_259 (XT.i0_ne_t hzz4) ?_
        refine Go.iload d0_264 rfl ?_
        refine Go.iconst d0_266 (v := 1) rfl ?_
        refine Go.icmpF d0_267 (XT.ii_le_f (by decide)) ?_
        refine Go.aload d0_270 rfl rfl ?_
        refine Go.lload d0_272 rfl ?_
        obtain ⟨z5, hzz5, ghz5⟩ := go_has K hw ((own_occ t3).map (fun x => x.1)) (by rw [List.length_map]; omega) k1 (own_mem_occ ((mm3 _).mpr (Or.inr ((mm2 _).mpr (Or.inl rfl))))) [.inl ("com/example/subsume/subsume/LongIntMap", [("keys", "[J", .ref 1), ("values", "[I", .ref 2), ("size", "I", .int (Int32.ofNat (own_occ t3).length))]), .inr (.long, (own_ks t3)), .inr (.int, (own_vs t3)), .inr (.long, (own_rs (own_occ t3) 0))] (by rw [← own_rs0]; rfl)
        refine Go.callS (M' := m8) d0_274 (hw _ (List.mem_of_getElem? (i := 40) rfl)) (hw _ (List.mem_of_getElem? (i := 41) rfl)) (hw _ (List.mem_of_getElem? (i := 42) rfl)) (hw _ (List.mem_of_getElem? (i := 43) rfl)) mi8 (as := [.ref 3, .long k1]) rfl rfl (st := []) rfl (ls1 := [.val (.ref 3), .val (.long k1), .second]) rfl (W := 0) rfl (by decide) (by decide) ghz5 12 152 (by decide) (by decide) ?_
        show Go _ _ _ _ 277 [.val (.long x0), .second, .val (.long x1), .second, .val (.long x2), .second, .val (.long x3), .second, .val (.int x4), .val (.int x5), .val (.long k0), .second, .val (.long k1), .second, .val (.long k2), .second, .val (.long k3), .second, .val (.int 3), .val (.int (x5 &&& 2147483647)), .val (.ref 0), .val (.ref 3), .val (.int 1)] [.int z5] [.inl ("com/example/subsume/subsume/LongIntMap", [("keys", "[J", .ref 1), ("values", "[I", .ref 2), ("size", "I", .int (Int32.ofNat (own_occ t3).length))]), .inr (.long, (own_ks t3)), .inr (.int, (own_vs t3)), .inr (.long, (own_rs (own_occ t3) 0))] _
        refine Go.ifT d0_277 j0_277 (XT.i0_ne_t hzz5) ?_
        refine Go.iload d0_282 rfl ?_
        refine Go.iconst d0_284 (v := 2) rfl ?_
        refine Go.icmpF d0_285 (XT.ii_le_f (by decide)) ?_
        refine Go.aload d0_288 rfl rfl ?_
        refine Go.lload d0_290 rfl ?_
        obtain ⟨z6, hzz6, ghz6⟩ := go_has K hw ((own_occ t3).map (fun x => x.1)) (by rw [List.length_map]; omega) k2 (own_mem_occ ((mm3 _).mpr (Or.inl rfl))) [.inl ("com/example/subsume/subsume/LongIntMap", [("keys", "[J", .ref 1), ("values", "[I", .ref 2), ("size", "I", .int (Int32.ofNat (own_occ t3).length))]), .inr (.long, (own_ks t3)), .inr (.int, (own_vs t3)), .inr (.long, (own_rs (own_occ t3) 0))] (by rw [← own_rs0]; rfl)
        refine Go.callS (M' := m8) d0_292 (hw _ (List.mem_of_getElem? (i := 40) rfl)) (hw _ (List.mem_of_getElem? (i := 41) rfl)) (hw _ (List.mem_of_getElem? (i := 42) rfl)) (hw _ (List.mem_of_getElem? (i := 43) rfl)) mi8 (as := [.ref 3, .long k2]) rfl rfl (st := []) rfl (ls1 := [.val (.ref 3), .val (.long k2), .second]) rfl (W := 0) rfl (by decide) (by decide) ghz6 12 152 (by decide) (by decide) ?_
        show Go _ _ _ _ 295 [.val (.long x0), .second, .val (.long x1), .second, .val (.long x2), .second, .val (.long x3), .second, .val (.int x4), .val (.int x5), .val (.long k0), .second, .val (.long k1), .second, .val (.long k2), .second, .val (.long k3), .second, .val (.int 3), .val (.int (x5 &&& 2147483647)), .val (.ref 0), .val (.ref 3), .val (.int 1)] [.int z6] [.inl ("com/example/subsume/subsume/LongIntMap", [("keys", "[J", .ref 1), ("values", "[I", .ref 2), ("size", "I", .int (Int32.ofNat (own_occ t3).length))]), .inr (.long, (own_ks t3)), .inr (.int, (own_vs t3)), .inr (.long, (own_rs (own_occ t3) 0))] _
        refine Go.ifT d0_295 j0_295 (XT.i0_ne_t hzz6) ?_
        refine Go.iload d0_300 rfl ?_
        refine Go.iconst d0_302 (v := 3) rfl ?_
        refine Go.icmpT d0_303 j0_303 (XT.ii_le_t (by decide)) ?_
        refine Go.iconst d0_318 (v := 1) rfl ?_
        exact Go.ireturnZ d0_319 rfl (by decide) rfl HOk.any
      · -- pc 198 not taken
        refine Go.iinc d0_201 (v := 1) rfl rfl (ls' := [.val (.long x0), .second, .val (.long x1), .second, .val (.long x2), .second, .val (.long x3), .second, .val (.int x4), .val (.int x5), .val (.long k0), .second, .val (.long k1), .second, .val (.long k2), .second, .val (.long k3), .second, .val (.int 3), .val (.int (x5 &&& 2147483647)), .val (.ref 0), .val (.ref 3), .val (.int 2)]) rfl ?_
        refine Go.iload d0_204 rfl ?_
        refine Go.iconst d0_206 (v := 3) rfl ?_
        refine Go.icmpT d0_207 j0_207 (XT.ii_le_t (by decide)) ?_
        have L1 : (own_occ t1).length = 1 := (ln1 (fun z => by
            exact mm0 _ z)).trans (congrArg (· + 1) le0)
        have L2 : (own_occ t2).length = 1 := (le2 (by rw [h173]; exact ((mm1 _).mpr (Or.inl rfl)))).trans L1
        have L3 : (own_occ t3).length = 2 := (ln3 (fun z => by
            rcases (mm2 _).mp z with e | z
            · exact h198 e
            rcases (mm1 _).mp z with e | z
            · exact h190 e
            exact mm0 _ z)).trans (congrArg (· + 1) L2)
        refine Go.aload d0_237 rfl rfl ?_
        refine Go.arraylength d0_239 rfl (z := 2) (own_rlen L3 rfl) ?_
        refine Go.iload d0_240 rfl ?_
        refine Go.icmpT d0_242 j0_242 (XT.ii_eq_t (by decide)) ?_
        refine Go.iload d0_247 rfl ?_
        refine Go.ifF d0_249 (XT.i0_le_f (by decide)) ?_
        refine Go.aload d0_252 rfl rfl ?_
        refine Go.lload d0_254 rfl ?_
        obtain ⟨z7, hzz7, ghz7⟩ := go_has K hw ((own_occ t3).map (fun x => x.1)) (by rw [List.length_map]; omega) k0 (own_mem_occ ((mm3 _).mpr (Or.inr ((mm2 _).mpr (Or.inr ((mm1 _).mpr (Or.inl rfl))))))) [.inl ("com/example/subsume/subsume/LongIntMap", [("keys", "[J", .ref 1), ("values", "[I", .ref 2), ("size", "I", .int (Int32.ofNat (own_occ t3).length))]), .inr (.long, (own_ks t3)), .inr (.int, (own_vs t3)), .inr (.long, (own_rs (own_occ t3) 0))] (by rw [← own_rs0]; rfl)
        refine Go.callS (M' := m8) d0_256 (hw _ (List.mem_of_getElem? (i := 40) rfl)) (hw _ (List.mem_of_getElem? (i := 41) rfl)) (hw _ (List.mem_of_getElem? (i := 42) rfl)) (hw _ (List.mem_of_getElem? (i := 43) rfl)) mi8 (as := [.ref 3, .long k0]) rfl rfl (st := []) rfl (ls1 := [.val (.ref 3), .val (.long k0), .second]) rfl (W := 0) rfl (by decide) (by decide) ghz7 12 152 (by decide) (by decide) ?_
        show Go _ _ _ _ 259 [.val (.long x0), .second, .val (.long x1), .second, .val (.long x2), .second, .val (.long x3), .second, .val (.int x4), .val (.int x5), .val (.long k0), .second, .val (.long k1), .second, .val (.long k2), .second, .val (.long k3), .second, .val (.int 3), .val (.int (x5 &&& 2147483647)), .val (.ref 0), .val (.ref 3), .val (.int 2)] [.int z7] [.inl ("com/example/subsume/subsume/LongIntMap", [("keys", "[J", .ref 1), ("values", "[I", .ref 2), ("size", "I", .int (Int32.ofNat (own_occ t3).length))]), .inr (.long, (own_ks t3)), .inr (.int, (own_vs t3)), .inr (.long, (own_rs (own_occ t3) 0))] _
        refine Go.ifT d0_259 j0_259 (XT.i0_ne_t hzz7) ?_
        refine Go.iload d0_264 rfl ?_
        refine Go.iconst d0_266 (v := 1) rfl ?_
        refine Go.icmpF d0_267 (XT.ii_le_f (by decide)) ?_
        refine Go.aload d0_270 rfl rfl ?_
        refine Go.lload d0_272 rfl ?_
        obtain ⟨z8, hzz8, ghz8⟩ := go_has K hw ((own_occ t3).map (fun x => x.1)) (by rw [List.length_map]; omega) k1 (own_mem_occ ((mm3 _).mpr (Or.inr ((mm2 _).mpr (Or.inl rfl))))) [.inl ("com/example/subsume/subsume/LongIntMap", [("keys", "[J", .ref 1), ("values", "[I", .ref 2), ("size", "I", .int (Int32.ofNat (own_occ t3).length))]), .inr (.long, (own_ks t3)), .inr (.int, (own_vs t3)), .inr (.long, (own_rs (own_occ t3) 0))] (by rw [← own_rs0]; rfl)
        refine Go.callS (M' := m8) d0_274 (hw _ (List.mem_of_getElem? (i := 40) rfl)) (hw _ (List.mem_of_getElem? (i := 41) rfl)) (hw _ (List.mem_of_getElem? (i := 42) rfl)) (hw _ (List.mem_of_getElem? (i := 43) rfl)) mi8 (as := [.ref 3, .long k1]) rfl rfl (st := []) rfl (ls1 := [.val (.ref 3), .val (.long k1), .second]) rfl (W := 0) rfl (by decide) (by decide) ghz8 12 152 (by decide) (by decide) ?_
        show Go _ _ _ _ 277 [.val (.long x0), .second, .val (.long x1), .second, .val (.long x2), .second, .val (.long x3), .second, .val (.int x4), .val (.int x5), .val (.long k0), .second, .val (.long k1), .second, .val (.long k2), .second, .val (.long k3), .second, .val (.int 3), .val (.int (x5 &&& 2147483647)), .val (.ref 0), .val (.ref 3), .val (.int 2)] [.int z8] [.inl ("com/example/subsume/subsume/LongIntMap", [("keys", "[J", .ref 1), ("values", "[I", .ref 2), ("size", "I", .int (Int32.ofNat (own_occ t3).length))]), .inr (.long, (own_ks t3)), .inr (.int, (own_vs t3)), .inr (.long, (own_rs (own_occ t3) 0))] _
        refine Go.ifT d0_277 j0_277 (XT.i0_ne_t hzz8) ?_
        refine Go.iload d0_282 rfl ?_
        refine Go.iconst d0_284 (v := 2) rfl ?_
        refine Go.icmpF d0_285 (XT.ii_le_f (by decide)) ?_
        refine Go.aload d0_288 rfl rfl ?_
        refine Go.lload d0_290 rfl ?_
        obtain ⟨z9, hzz9, ghz9⟩ := go_has K hw ((own_occ t3).map (fun x => x.1)) (by rw [List.length_map]; omega) k2 (own_mem_occ ((mm3 _).mpr (Or.inl rfl))) [.inl ("com/example/subsume/subsume/LongIntMap", [("keys", "[J", .ref 1), ("values", "[I", .ref 2), ("size", "I", .int (Int32.ofNat (own_occ t3).length))]), .inr (.long, (own_ks t3)), .inr (.int, (own_vs t3)), .inr (.long, (own_rs (own_occ t3) 0))] (by rw [← own_rs0]; rfl)
        refine Go.callS (M' := m8) d0_292 (hw _ (List.mem_of_getElem? (i := 40) rfl)) (hw _ (List.mem_of_getElem? (i := 41) rfl)) (hw _ (List.mem_of_getElem? (i := 42) rfl)) (hw _ (List.mem_of_getElem? (i := 43) rfl)) mi8 (as := [.ref 3, .long k2]) rfl rfl (st := []) rfl (ls1 := [.val (.ref 3), .val (.long k2), .second]) rfl (W := 0) rfl (by decide) (by decide) ghz9 12 152 (by decide) (by decide) ?_
        show Go _ _ _ _ 295 [.val (.long x0), .second, .val (.long x1), .second, .val (.long x2), .second, .val (.long x3), .second, .val (.int x4), .val (.int x5), .val (.long k0), .second, .val (.long k1), .second, .val (.long k2), .second, .val (.long k3), .second, .val (.int 3), .val (.int (x5 &&& 2147483647)), .val (.ref 0), .val (.ref 3), .val (.int 2)] [.int z9] [.inl ("com/example/subsume/subsume/LongIntMap", [("keys", "[J", .ref 1), ("values", "[I", .ref 2), ("size", "I", .int (Int32.ofNat (own_occ t3).length))]), .inr (.long, (own_ks t3)), .inr (.int, (own_vs t3)), .inr (.long, (own_rs (own_occ t3) 0))] _
        refine Go.ifT d0_295 j0_295 (XT.i0_ne_t hzz9) ?_
        refine Go.iload d0_300 rfl ?_
        refine Go.iconst d0_302 (v := 3) rfl ?_
        refine Go.icmpT d0_303 j0_303 (XT.ii_le_t (by decide)) ?_
        refine Go.iconst d0_318 (v := 1) rfl ?_
        exact Go.ireturnZ d0_319 rfl (by decide) rfl HOk.any
  · -- pc 173 not taken
    refine Go.iinc d0_176 (v := 1) rfl rfl (ls' := [.val (.long x0), .second, .val (.long x1), .second, .val (.long x2), .second, .val (.long x3), .second, .val (.int x4), .val (.int x5), .val (.long k0), .second, .val (.long k1), .second, .val (.long k2), .second, .val (.long k3), .second, .val (.int 3), .val (.int (x5 &&& 2147483647)), .val (.ref 0), .val (.ref 3), .val (.int 2)]) rfl ?_
    refine Go.iload d0_179 rfl ?_
    refine Go.iconst d0_181 (v := 2) rfl ?_
    refine Go.icmpF d0_182 (XT.ii_le_f (by decide)) ?_
    refine Go.lload d0_185 rfl ?_
    refine Go.lload d0_187 rfl ?_
    refine Go.lcmp d0_189 ?_
    refine Go.lif_eq d0_190 j0_190 (fun h190 => ?_) (fun h190 => ?_)
    · -- pc 190 taken
      refine Go.iload d0_204 rfl ?_
      refine Go.iconst d0_206 (v := 3) rfl ?_
      refine Go.icmpT d0_207 j0_207 (XT.ii_le_t (by decide)) ?_
      have L1 : (own_occ t1).length = 1 := (ln1 (fun z => by
          exact mm0 _ z)).trans (congrArg (· + 1) le0)
      have L2 : (own_occ t2).length = 2 := (ln2 (fun z => by
          rcases (mm1 _).mp z with e | z
          · exact h173 e
          exact mm0 _ z)).trans (congrArg (· + 1) L1)
      have L3 : (own_occ t3).length = 2 := (le3 (by rw [h190]; exact ((mm2 _).mpr (Or.inr ((mm1 _).mpr (Or.inl rfl)))))).trans L2
      refine Go.aload d0_237 rfl rfl ?_
      refine Go.arraylength d0_239 rfl (z := 2) (own_rlen L3 rfl) ?_
      refine Go.iload d0_240 rfl ?_
      refine Go.icmpT d0_242 j0_242 (XT.ii_eq_t (by decide)) ?_
      refine Go.iload d0_247 rfl ?_
      refine Go.ifF d0_249 (XT.i0_le_f (by decide)) ?_
      refine Go.aload d0_252 rfl rfl ?_
      refine Go.lload d0_254 rfl ?_
      obtain ⟨z10, hzz10, ghz10⟩ := go_has K hw ((own_occ t3).map (fun x => x.1)) (by rw [List.length_map]; omega) k0 (own_mem_occ ((mm3 _).mpr (Or.inr ((mm2 _).mpr (Or.inr ((mm1 _).mpr (Or.inl rfl))))))) [.inl ("com/example/subsume/subsume/LongIntMap", [("keys", "[J", .ref 1), ("values", "[I", .ref 2), ("size", "I", .int (Int32.ofNat (own_occ t3).length))]), .inr (.long, (own_ks t3)), .inr (.int, (own_vs t3)), .inr (.long, (own_rs (own_occ t3) 0))] (by rw [← own_rs0]; rfl)
      refine Go.callS (M' := m8) d0_256 (hw _ (List.mem_of_getElem? (i := 40) rfl)) (hw _ (List.mem_of_getElem? (i := 41) rfl)) (hw _ (List.mem_of_getElem? (i := 42) rfl)) (hw _ (List.mem_of_getElem? (i := 43) rfl)) mi8 (as := [.ref 3, .long k0]) rfl rfl (st := []) rfl (ls1 := [.val (.ref 3), .val (.long k0), .second]) rfl (W := 0) rfl (by decide) (by decide) ghz10 12 152 (by decide) (by decide) ?_
      show Go _ _ _ _ 259 [.val (.long x0), .second, .val (.long x1), .second, .val (.long x2), .second, .val (.long x3), .second, .val (.int x4), .val (.int x5), .val (.long k0), .second, .val (.long k1), .second, .val (.long k2), .second, .val (.long k3), .second, .val (.int 3), .val (.int (x5 &&& 2147483647)), .val (.ref 0), .val (.ref 3), .val (.int 2)] [.int z10] [.inl ("com/example/subsume/subsume/LongIntMap", [("keys", "[J", .ref 1), ("values", "[I", .ref 2), ("size", "I", .int (Int32.ofNat (own_occ t3).length))]), .inr (.long, (own_ks t3)), .inr (.int, (own_vs t3)), .inr (.long, (own_rs (own_occ t3) 0))] _
      refine Go.ifT d0_259 j0_259 (XT.i0_ne_t hzz10) ?_
      refine Go.iload d0_264 rfl ?_
      refine Go.iconst d0_266 (v := 1) rfl ?_
      refine Go.icmpF d0_267 (XT.ii_le_f (by decide)) ?_
      refine Go.aload d0_270 rfl rfl ?_
      refine Go.lload d0_272 rfl ?_
      obtain ⟨z11, hzz11, ghz11⟩ := go_has K hw ((own_occ t3).map (fun x => x.1)) (by rw [List.length_map]; omega) k1 (own_mem_occ ((mm3 _).mpr (Or.inr ((mm2 _).mpr (Or.inl rfl))))) [.inl ("com/example/subsume/subsume/LongIntMap", [("keys", "[J", .ref 1), ("values", "[I", .ref 2), ("size", "I", .int (Int32.ofNat (own_occ t3).length))]), .inr (.long, (own_ks t3)), .inr (.int, (own_vs t3)), .inr (.long, (own_rs (own_occ t3) 0))] (by rw [← own_rs0]; rfl)
      refine Go.callS (M' := m8) d0_274 (hw _ (List.mem_of_getElem? (i := 40) rfl)) (hw _ (List.mem_of_getElem? (i := 41) rfl)) (hw _ (List.mem_of_getElem? (i := 42) rfl)) (hw _ (List.mem_of_getElem? (i := 43) rfl)) mi8 (as := [.ref 3, .long k1]) rfl rfl (st := []) rfl (ls1 := [.val (.ref 3), .val (.long k1), .second]) rfl (W := 0) rfl (by decide) (by decide) ghz11 12 152 (by decide) (by decide) ?_
      show Go _ _ _ _ 277 [.val (.long x0), .second, .val (.long x1), .second, .val (.long x2), .second, .val (.long x3), .second, .val (.int x4), .val (.int x5), .val (.long k0), .second, .val (.long k1), .second, .val (.long k2), .second, .val (.long k3), .second, .val (.int 3), .val (.int (x5 &&& 2147483647)), .val (.ref 0), .val (.ref 3), .val (.int 2)] [.int z11] [.inl ("com/example/subsume/subsume/LongIntMap", [("keys", "[J", .ref 1), ("values", "[I", .ref 2), ("size", "I", .int (Int32.ofNat (own_occ t3).length))]), .inr (.long, (own_ks t3)), .inr (.int, (own_vs t3)), .inr (.long, (own_rs (own_occ t3) 0))] _
      refine Go.ifT d0_277 j0_277 (XT.i0_ne_t hzz11) ?_
      refine Go.iload d0_282 rfl ?_
      refine Go.iconst d0_284 (v := 2) rfl ?_
      refine Go.icmpF d0_285 (XT.ii_le_f (by decide)) ?_
      refine Go.aload d0_288 rfl rfl ?_
      refine Go.lload d0_290 rfl ?_
      obtain ⟨z12, hzz12, ghz12⟩ := go_has K hw ((own_occ t3).map (fun x => x.1)) (by rw [List.length_map]; omega) k2 (own_mem_occ ((mm3 _).mpr (Or.inl rfl))) [.inl ("com/example/subsume/subsume/LongIntMap", [("keys", "[J", .ref 1), ("values", "[I", .ref 2), ("size", "I", .int (Int32.ofNat (own_occ t3).length))]), .inr (.long, (own_ks t3)), .inr (.int, (own_vs t3)), .inr (.long, (own_rs (own_occ t3) 0))] (by rw [← own_rs0]; rfl)
      refine Go.callS (M' := m8) d0_292 (hw _ (List.mem_of_getElem? (i := 40) rfl)) (hw _ (List.mem_of_getElem? (i := 41) rfl)) (hw _ (List.mem_of_getElem? (i := 42) rfl)) (hw _ (List.mem_of_getElem? (i := 43) rfl)) mi8 (as := [.ref 3, .long k2]) rfl rfl (st := []) rfl (ls1 := [.val (.ref 3), .val (.long k2), .second]) rfl (W := 0) rfl (by decide) (by decide) ghz12 12 152 (by decide) (by decide) ?_
      show Go _ _ _ _ 295 [.val (.long x0), .second, .val (.long x1), .second, .val (.long x2), .second, .val (.long x3), .second, .val (.int x4), .val (.int x5), .val (.long k0), .second, .val (.long k1), .second, .val (.long k2), .second, .val (.long k3), .second, .val (.int 3), .val (.int (x5 &&& 2147483647)), .val (.ref 0), .val (.ref 3), .val (.int 2)] [.int z12] [.inl ("com/example/subsume/subsume/LongIntMap", [("keys", "[J", .ref 1), ("values", "[I", .ref 2), ("size", "I", .int (Int32.ofNat (own_occ t3).length))]), .inr (.long, (own_ks t3)), .inr (.int, (own_vs t3)), .inr (.long, (own_rs (own_occ t3) 0))] _
      refine Go.ifT d0_295 j0_295 (XT.i0_ne_t hzz12) ?_
      refine Go.iload d0_300 rfl ?_
      refine Go.iconst d0_302 (v := 3) rfl ?_
      refine Go.icmpT d0_303 j0_303 (XT.ii_le_t (by decide)) ?_
      refine Go.iconst d0_318 (v := 1) rfl ?_
      exact Go.ireturnZ d0_319 rfl (by decide) rfl HOk.any
    · -- pc 190 not taken
      refine Go.lload d0_193 rfl ?_
      refine Go.lload d0_195 rfl ?_
      refine Go.lcmp d0_197 ?_
      refine Go.lif_eq d0_198 j0_198 (fun h198 => ?_) (fun h198 => ?_)
      · -- pc 198 taken
        refine Go.iload d0_204 rfl ?_
        refine Go.iconst d0_206 (v := 3) rfl ?_
        refine Go.icmpT d0_207 j0_207 (XT.ii_le_t (by decide)) ?_
        have L1 : (own_occ t1).length = 1 := (ln1 (fun z => by
            exact mm0 _ z)).trans (congrArg (· + 1) le0)
        have L2 : (own_occ t2).length = 2 := (ln2 (fun z => by
            rcases (mm1 _).mp z with e | z
            · exact h173 e
            exact mm0 _ z)).trans (congrArg (· + 1) L1)
        have L3 : (own_occ t3).length = 2 := (le3 (by rw [h198]; exact ((mm2 _).mpr (Or.inl rfl)))).trans L2
        refine Go.aload d0_237 rfl rfl ?_
        refine Go.arraylength d0_239 rfl (z := 2) (own_rlen L3 rfl) ?_
        refine Go.iload d0_240 rfl ?_
        refine Go.icmpT d0_242 j0_242 (XT.ii_eq_t (by decide)) ?_
        refine Go.iload d0_247 rfl ?_
        refine Go.ifF d0_249 (XT.i0_le_f (by decide)) ?_
        refine Go.aload d0_252 rfl rfl ?_
        refine Go.lload d0_254 rfl ?_
        obtain ⟨z13, hzz13, ghz13⟩ := go_has K hw ((own_occ t3).map (fun x => x.1)) (by rw [List.length_map]; omega) k0 (own_mem_occ ((mm3 _).mpr (Or.inr ((mm2 _).mpr (Or.inr ((mm1 _).mpr (Or.inl rfl))))))) [.inl ("com/example/subsume/subsume/LongIntMap", [("keys", "[J", .ref 1), ("values", "[I", .ref 2), ("size", "I", .int (Int32.ofNat (own_occ t3).length))]), .inr (.long, (own_ks t3)), .inr (.int, (own_vs t3)), .inr (.long, (own_rs (own_occ t3) 0))] (by rw [← own_rs0]; rfl)
        refine Go.callS (M' := m8) d0_256 (hw _ (List.mem_of_getElem? (i := 40) rfl)) (hw _ (List.mem_of_getElem? (i := 41) rfl)) (hw _ (List.mem_of_getElem? (i := 42) rfl)) (hw _ (List.mem_of_getElem? (i := 43) rfl)) mi8 (as := [.ref 3, .long k0]) rfl rfl (st := []) rfl (ls1 := [.val (.ref 3), .val (.long k0), .second]) rfl (W := 0) rfl (by decide) (by decide) ghz13 12 152 (by decide) (by decide) ?_
        show Go _ _ _ _ 259 [.val (.long x0), .second, .val (.long x1), .second, .val (.long x2), .second, .val (.long x3), .second, .val (.int x4), .val (.int x5), .val (.long k0), .second, .val (.long k1), .second, .val (.long k2), .second, .val (.long k3), .second, .val (.int 3), .val (.int (x5 &&& 2147483647)), .val (.ref 0), .val (.ref 3), .val (.int 2)] [.int z13] [.inl ("com/example/subsume/subsume/LongIntMap", [("keys", "[J", .ref 1), ("values", "[I", .ref 2), ("size", "I", .int (Int32.ofNat (own_occ t3).length))]), .inr (.long, (own_ks t3)), .inr (.int, (own_vs t3)), .inr (.long, (own_rs (own_occ t3) 0))] _
        refine Go.ifT d0_259 j0_259 (XT.i0_ne_t hzz13) ?_
        refine Go.iload d0_264 rfl ?_
        refine Go.iconst d0_266 (v := 1) rfl ?_
        refine Go.icmpF d0_267 (XT.ii_le_f (by decide)) ?_
        refine Go.aload d0_270 rfl rfl ?_
        refine Go.lload d0_272 rfl ?_
        obtain ⟨z14, hzz14, ghz14⟩ := go_has K hw ((own_occ t3).map (fun x => x.1)) (by rw [List.length_map]; omega) k1 (own_mem_occ ((mm3 _).mpr (Or.inr ((mm2 _).mpr (Or.inl rfl))))) [.inl ("com/example/subsume/subsume/LongIntMap", [("keys", "[J", .ref 1), ("values", "[I", .ref 2), ("size", "I", .int (Int32.ofNat (own_occ t3).length))]), .inr (.long, (own_ks t3)), .inr (.int, (own_vs t3)), .inr (.long, (own_rs (own_occ t3) 0))] (by rw [← own_rs0]; rfl)
        refine Go.callS (M' := m8) d0_274 (hw _ (List.mem_of_getElem? (i := 40) rfl)) (hw _ (List.mem_of_getElem? (i := 41) rfl)) (hw _ (List.mem_of_getElem? (i := 42) rfl)) (hw _ (List.mem_of_getElem? (i := 43) rfl)) mi8 (as := [.ref 3, .long k1]) rfl rfl (st := []) rfl (ls1 := [.val (.ref 3), .val (.long k1), .second]) rfl (W := 0) rfl (by decide) (by decide) ghz14 12 152 (by decide) (by decide) ?_
        show Go _ _ _ _ 277 [.val (.long x0), .second, .val (.long x1), .second, .val (.long x2), .second, .val (.long x3), .second, .val (.int x4), .val (.int x5), .val (.long k0), .second, .val (.long k1), .second, .val (.long k2), .second, .val (.long k3), .second, .val (.int 3), .val (.int (x5 &&& 2147483647)), .val (.ref 0), .val (.ref 3), .val (.int 2)] [.int z14] [.inl ("com/example/subsume/subsume/LongIntMap", [("keys", "[J", .ref 1), ("values", "[I", .ref 2), ("size", "I", .int (Int32.ofNat (own_occ t3).length))]), .inr (.long, (own_ks t3)), .inr (.int, (own_vs t3)), .inr (.long, (own_rs (own_occ t3) 0))] _
        refine Go.ifT d0_277 j0_277 (XT.i0_ne_t hzz14) ?_
        refine Go.iload d0_282 rfl ?_
        refine Go.iconst d0_284 (v := 2) rfl ?_
        refine Go.icmpF d0_285 (XT.ii_le_f (by decide)) ?_
        refine Go.aload d0_288 rfl rfl ?_
        refine Go.lload d0_290 rfl ?_
        obtain ⟨z15, hzz15, ghz15⟩ := go_has K hw ((own_occ t3).map (fun x => x.1)) (by rw [List.length_map]; omega) k2 (own_mem_occ ((mm3 _).mpr (Or.inl rfl))) [.inl ("com/example/subsume/subsume/LongIntMap", [("keys", "[J", .ref 1), ("values", "[I", .ref 2), ("size", "I", .int (Int32.ofNat (own_occ t3).length))]), .inr (.long, (own_ks t3)), .inr (.int, (own_vs t3)), .inr (.long, (own_rs (own_occ t3) 0))] (by rw [← own_rs0]; rfl)
        refine Go.callS (M' := m8) d0_292 (hw _ (List.mem_of_getElem? (i := 40) rfl)) (hw _ (List.mem_of_getElem? (i := 41) rfl)) (hw _ (List.mem_of_getElem? (i := 42) rfl)) (hw _ (List.mem_of_getElem? (i := 43) rfl)) mi8 (as := [.ref 3, .long k2]) rfl rfl (st := []) rfl (ls1 := [.val (.ref 3), .val (.long k2), .second]) rfl (W := 0) rfl (by decide) (by decide) ghz15 12 152 (by decide) (by decide) ?_
        show Go _ _ _ _ 295 [.val (.long x0), .second, .val (.long x1), .second, .val (.long x2), .second, .val (.long x3), .second, .val (.int x4), .val (.int x5), .val (.long k0), .second, .val (.long k1), .second, .val (.long k2), .second, .val (.long k3), .second, .val (.int 3), .val (.int (x5 &&& 2147483647)), .val (.ref 0), .val (.ref 3), .val (.int 2)] [.int z15] [.inl ("com/example/subsume/subsume/LongIntMap", [("keys", "[J", .ref 1), ("values", "[I", .ref 2), ("size", "I", .int (Int32.ofNat (own_occ t3).length))]), .inr (.long, (own_ks t3)), .inr (.int, (own_vs t3)), .inr (.long, (own_rs (own_occ t3) 0))] _
        refine Go.ifT d0_295 j0_295 (XT.i0_ne_t hzz15) ?_
        refine Go.iload d0_300 rfl ?_
        refine Go.iconst d0_302 (v := 3) rfl ?_
        refine Go.icmpT d0_303 j0_303 (XT.ii_le_t (by decide)) ?_
        refine Go.iconst d0_318 (v := 1) rfl ?_
        exact Go.ireturnZ d0_319 rfl (by decide) rfl HOk.any
      · -- pc 198 not taken
        refine Go.iinc d0_201 (v := 1) rfl rfl (ls' := [.val (.long x0), .second, .val (.long x1), .second, .val (.long x2), .second, .val (.long x3), .second, .val (.int x4), .val (.int x5), .val (.long k0), .second, .val (.long k1), .second, .val (.long k2), .second, .val (.long k3), .second, .val (.int 3), .val (.int (x5 &&& 2147483647)), .val (.ref 0), .val (.ref 3), .val (.int 3)]) rfl ?_
        refine Go.iload d0_204 rfl ?_
        refine Go.iconst d0_206 (v := 3) rfl ?_
        refine Go.icmpT d0_207 j0_207 (XT.ii_le_t (by decide)) ?_
        have L1 : (own_occ t1).length = 1 := (ln1 (fun z => by
            exact mm0 _ z)).trans (congrArg (· + 1) le0)
        have L2 : (own_occ t2).length = 2 := (ln2 (fun z => by
            rcases (mm1 _).mp z with e | z
            · exact h173 e
            exact mm0 _ z)).trans (congrArg (· + 1) L1)
        have L3 : (own_occ t3).length = 3 := (ln3 (fun z => by
            rcases (mm2 _).mp z with e | z
            · exact h198 e
            rcases (mm1 _).mp z with e | z
            · exact h190 e
            exact mm0 _ z)).trans (congrArg (· + 1) L2)
        refine Go.aload d0_237 rfl rfl ?_
        refine Go.arraylength d0_239 rfl (z := 3) (own_rlen L3 rfl) ?_
        refine Go.iload d0_240 rfl ?_
        refine Go.icmpT d0_242 j0_242 (XT.ii_eq_t (by decide)) ?_
        refine Go.iload d0_247 rfl ?_
        refine Go.ifF d0_249 (XT.i0_le_f (by decide)) ?_
        refine Go.aload d0_252 rfl rfl ?_
        refine Go.lload d0_254 rfl ?_
        obtain ⟨z16, hzz16, ghz16⟩ := go_has K hw ((own_occ t3).map (fun x => x.1)) (by rw [List.length_map]; omega) k0 (own_mem_occ ((mm3 _).mpr (Or.inr ((mm2 _).mpr (Or.inr ((mm1 _).mpr (Or.inl rfl))))))) [.inl ("com/example/subsume/subsume/LongIntMap", [("keys", "[J", .ref 1), ("values", "[I", .ref 2), ("size", "I", .int (Int32.ofNat (own_occ t3).length))]), .inr (.long, (own_ks t3)), .inr (.int, (own_vs t3)), .inr (.long, (own_rs (own_occ t3) 0))] (by rw [← own_rs0]; rfl)
        refine Go.callS (M' := m8) d0_256 (hw _ (List.mem_of_getElem? (i := 40) rfl)) (hw _ (List.mem_of_getElem? (i := 41) rfl)) (hw _ (List.mem_of_getElem? (i := 42) rfl)) (hw _ (List.mem_of_getElem? (i := 43) rfl)) mi8 (as := [.ref 3, .long k0]) rfl rfl (st := []) rfl (ls1 := [.val (.ref 3), .val (.long k0), .second]) rfl (W := 0) rfl (by decide) (by decide) ghz16 12 152 (by decide) (by decide) ?_
        show Go _ _ _ _ 259 [.val (.long x0), .second, .val (.long x1), .second, .val (.long x2), .second, .val (.long x3), .second, .val (.int x4), .val (.int x5), .val (.long k0), .second, .val (.long k1), .second, .val (.long k2), .second, .val (.long k3), .second, .val (.int 3), .val (.int (x5 &&& 2147483647)), .val (.ref 0), .val (.ref 3), .val (.int 3)] [.int z16] [.inl ("com/example/subsume/subsume/LongIntMap", [("keys", "[J", .ref 1), ("values", "[I", .ref 2), ("size", "I", .int (Int32.ofNat (own_occ t3).length))]), .inr (.long, (own_ks t3)), .inr (.int, (own_vs t3)), .inr (.long, (own_rs (own_occ t3) 0))] _
        refine Go.ifT d0_259 j0_259 (XT.i0_ne_t hzz16) ?_
        refine Go.iload d0_264 rfl ?_
        refine Go.iconst d0_266 (v := 1) rfl ?_
        refine Go.icmpF d0_267 (XT.ii_le_f (by decide)) ?_
        refine Go.aload d0_270 rfl rfl ?_
        refine Go.lload d0_272 rfl ?_
        obtain ⟨z17, hzz17, ghz17⟩ := go_has K hw ((own_occ t3).map (fun x => x.1)) (by rw [List.length_map]; omega) k1 (own_mem_occ ((mm3 _).mpr (Or.inr ((mm2 _).mpr (Or.inl rfl))))) [.inl ("com/example/subsume/subsume/LongIntMap", [("keys", "[J", .ref 1), ("values", "[I", .ref 2), ("size", "I", .int (Int32.ofNat (own_occ t3).length))]), .inr (.long, (own_ks t3)), .inr (.int, (own_vs t3)), .inr (.long, (own_rs (own_occ t3) 0))] (by rw [← own_rs0]; rfl)
        refine Go.callS (M' := m8) d0_274 (hw _ (List.mem_of_getElem? (i := 40) rfl)) (hw _ (List.mem_of_getElem? (i := 41) rfl)) (hw _ (List.mem_of_getElem? (i := 42) rfl)) (hw _ (List.mem_of_getElem? (i := 43) rfl)) mi8 (as := [.ref 3, .long k1]) rfl rfl (st := []) rfl (ls1 := [.val (.ref 3), .val (.long k1), .second]) rfl (W := 0) rfl (by decide) (by decide) ghz17 12 152 (by decide) (by decide) ?_
        show Go _ _ _ _ 277 [.val (.long x0), .second, .val (.long x1), .second, .val (.long x2), .second, .val (.long x3), .second, .val (.int x4), .val (.int x5), .val (.long k0), .second, .val (.long k1), .second, .val (.long k2), .second, .val (.long k3), .second, .val (.int 3), .val (.int (x5 &&& 2147483647)), .val (.ref 0), .val (.ref 3), .val (.int 3)] [.int z17] [.inl ("com/example/subsume/subsume/LongIntMap", [("keys", "[J", .ref 1), ("values", "[I", .ref 2), ("size", "I", .int (Int32.ofNat (own_occ t3).length))]), .inr (.long, (own_ks t3)), .inr (.int, (own_vs t3)), .inr (.long, (own_rs (own_occ t3) 0))] _
        refine Go.ifT d0_277 j0_277 (XT.i0_ne_t hzz17) ?_
        refine Go.iload d0_282 rfl ?_
        refine Go.iconst d0_284 (v := 2) rfl ?_
        refine Go.icmpF d0_285 (XT.ii_le_f (by decide)) ?_
        refine Go.aload d0_288 rfl rfl ?_
        refine Go.lload d0_290 rfl ?_
        obtain ⟨z18, hzz18, ghz18⟩ := go_has K hw ((own_occ t3).map (fun x => x.1)) (by rw [List.length_map]; omega) k2 (own_mem_occ ((mm3 _).mpr (Or.inl rfl))) [.inl ("com/example/subsume/subsume/LongIntMap", [("keys", "[J", .ref 1), ("values", "[I", .ref 2), ("size", "I", .int (Int32.ofNat (own_occ t3).length))]), .inr (.long, (own_ks t3)), .inr (.int, (own_vs t3)), .inr (.long, (own_rs (own_occ t3) 0))] (by rw [← own_rs0]; rfl)
        refine Go.callS (M' := m8) d0_292 (hw _ (List.mem_of_getElem? (i := 40) rfl)) (hw _ (List.mem_of_getElem? (i := 41) rfl)) (hw _ (List.mem_of_getElem? (i := 42) rfl)) (hw _ (List.mem_of_getElem? (i := 43) rfl)) mi8 (as := [.ref 3, .long k2]) rfl rfl (st := []) rfl (ls1 := [.val (.ref 3), .val (.long k2), .second]) rfl (W := 0) rfl (by decide) (by decide) ghz18 12 152 (by decide) (by decide) ?_
        show Go _ _ _ _ 295 [.val (.long x0), .second, .val (.long x1), .second, .val (.long x2), .second, .val (.long x3), .second, .val (.int x4), .val (.int x5), .val (.long k0), .second, .val (.long k1), .second, .val (.long k2), .second, .val (.long k3), .second, .val (.int 3), .val (.int (x5 &&& 2147483647)), .val (.ref 0), .val (.ref 3), .val (.int 3)] [.int z18] [.inl ("com/example/subsume/subsume/LongIntMap", [("keys", "[J", .ref 1), ("values", "[I", .ref 2), ("size", "I", .int (Int32.ofNat (own_occ t3).length))]), .inr (.long, (own_ks t3)), .inr (.int, (own_vs t3)), .inr (.long, (own_rs (own_occ t3) 0))] _
        refine Go.ifT d0_295 j0_295 (XT.i0_ne_t hzz18) ?_
        refine Go.iload d0_300 rfl ?_
        refine Go.iconst d0_302 (v := 3) rfl ?_
        refine Go.icmpT d0_303 j0_303 (XT.ii_le_t (by decide)) ?_
        refine Go.iconst d0_318 (v := 1) rfl ?_
        exact Go.ireturnZ d0_319 rfl (by decide) rfl HOk.any
theorem go_t66_4 (K : Ctx) (hw : ∀ d ∈ tables_1, d.before K.2.2.1 K.2.1 = true) (x0 x1 x2 x3 k0 k1 k2 k3 : Int64) (x4 x5 : Int32) : Go K m0 6 144 66 [.val (.long x0), .second, .val (.long x1), .second, .val (.long x2), .second, .val (.long x3), .second, .val (.int x4), .val (.int x5), .val (.long k0), .second, .val (.long k1), .second, .val (.long k2), .second, .val (.long k3), .second, .val (.int 4), .unset, .unset, .unset, .unset] [] [] (some (.int 1), none, 16, 192) := by
  refine Go.iload d0_66 rfl ?_
  refine Go.ldc d0_68 (hw _ (List.mem_of_getElem? (i := 0) rfl)) ?_
  refine Go.iand d0_70 ?_
  refine Go.istore d0_71 (ls' := [.val (.long x0), .second, .val (.long x1), .second, .val (.long x2), .second, .val (.long x3), .second, .val (.int x4), .val (.int x5), .val (.long k0), .second, .val (.long k1), .second, .val (.long k2), .second, .val (.long k3), .second, .val (.int 4), .val (.int (x5 &&& 2147483647)), .unset, .unset, .unset]) rfl ?_
  refine Go.new [("keys", "[J", .null), ("values", "[I", .null), ("size", "I", .int 0)] d0_73 (hw _ (List.mem_of_getElem? (i := 1) rfl)) (hw _ (List.mem_of_getElem? (i := 2) rfl)) (hw _ (List.mem_of_getElem? (i := 3) rfl)) (by decide) (fun f hf => ?_) (i := 0) rfl 15 189 (by decide) (by decide) ?_
  · simp only [List.mem_cons, List.not_mem_nil, or_false] at hf
    rcases hf with rfl | rfl | rfl
    · exact ⟨Or.inl (hw _ (List.mem_of_getElem? (i := 12) rfl)), _, (by decide : parseFieldDescriptor "[J" = some (.array .long)), rfl⟩
    · exact ⟨Or.inl (hw _ (List.mem_of_getElem? (i := 22) rfl)), _, (by decide : parseFieldDescriptor "[I" = some (.array .int)), rfl⟩
    · exact ⟨Or.inl (hw _ (List.mem_of_getElem? (i := 29) rfl)), _, (by decide : parseFieldDescriptor "I" = some .int), rfl⟩
  show Go _ _ _ _ 76 [.val (.long x0), .second, .val (.long x1), .second, .val (.long x2), .second, .val (.long x3), .second, .val (.int x4), .val (.int x5), .val (.long k0), .second, .val (.long k1), .second, .val (.long k2), .second, .val (.long k3), .second, .val (.int 4), .val (.int (x5 &&& 2147483647)), .unset, .unset, .unset] [.ref 0] [.inl ("com/example/subsume/subsume/LongIntMap", [("keys", "[J", .null), ("values", "[I", .null), ("size", "I", .int 0)])] _
  refine Go.dup d0_76 rfl ?_
  refine Go.callI (M' := m1) (i := 0) d0_77 rfl rfl (hw _ (List.mem_of_getElem? (i := 4) rfl)) (hw _ (List.mem_of_getElem? (i := 5) rfl)) (hw _ (List.mem_of_getElem? (i := 3) rfl)) (hw _ (List.mem_of_getElem? (i := 6) rfl)) mi1 (as := []) rfl rfl (st := [.ref 0]) rfl (ls1 := [.val (.ref 0)]) rfl (W := 1) rfl (by decide) (by decide) (go_ctor K hw) 13 157 (by decide) (by decide) ?_
  show Go _ _ _ _ 80 [.val (.long x0), .second, .val (.long x1), .second, .val (.long x2), .second, .val (.long x3), .second, .val (.int x4), .val (.int x5), .val (.long k0), .second, .val (.long k1), .second, .val (.long k2), .second, .val (.long k3), .second, .val (.int 4), .val (.int (x5 &&& 2147483647)), .unset, .unset, .unset] [.ref 0] [.inl ("com/example/subsume/subsume/LongIntMap", [("keys", "[J", .ref 1), ("values", "[I", .ref 2), ("size", "I", .int 0)]), .inr (.long, [.long 0, .long 0, .long 0, .long 0, .long 0, .long 0, .long 0, .long 0, .long 0, .long 0, .long 0, .long 0, .long 0, .long 0, .long 0, .long 0]), .inr (.int, [.int (-1), .int (-1), .int (-1), .int (-1), .int (-1), .int (-1), .int (-1), .int (-1), .int (-1), .int (-1), .int (-1), .int (-1), .int (-1), .int (-1), .int (-1), .int (-1)])] _
  refine Go.astore d0_80 (ls' := [.val (.long x0), .second, .val (.long x1), .second, .val (.long x2), .second, .val (.long x3), .second, .val (.int x4), .val (.int x5), .val (.long k0), .second, .val (.long k1), .second, .val (.long k2), .second, .val (.long k3), .second, .val (.int 4), .val (.int (x5 &&& 2147483647)), .val (.ref 0), .unset, .unset]) rfl rfl ?_
  obtain ⟨t0, et0⟩ : ∃ t : own_T, t = List.replicate 16 none := ⟨_, rfl⟩
  have ok0 : own_okT t0 0 := by rw [et0]; exact own_ok0
  have mm0 : ∀ k, ¬ own_mem t0 k := by rw [et0]; exact own_mem0
  have le0 : (own_occ t0).length = 0 := by rw [et0, own_occ_new]; rfl
  have hH0 : ([.inl ("com/example/subsume/subsume/LongIntMap", [("keys", "[J", .ref 1), ("values", "[I", .ref 2), ("size", "I", .int 0)]), .inr (.long, [.long 0, .long 0, .long 0, .long 0, .long 0, .long 0, .long 0, .long 0, .long 0, .long 0, .long 0, .long 0, .long 0, .long 0, .long 0, .long 0]), .inr (.int, [.int (-1), .int (-1), .int (-1), .int (-1), .int (-1), .int (-1), .int (-1), .int (-1), .int (-1), .int (-1), .int (-1), .int (-1), .int (-1), .int (-1), .int (-1), .int (-1)])] : Hp) = [.inl ("com/example/subsume/subsume/LongIntMap", [("keys", "[J", .ref 1), ("values", "[I", .ref 2), ("size", "I", .int (Int32.ofNat (own_occ t0).length))]), .inr (.long, (own_ks t0)), .inr (.int, (own_vs t0))] := by rw [et0]; rfl
  rw [hH0]
  refine Go.iload d0_82 rfl ?_
  refine Go.ifF d0_84 (XT.i0_le_f (by decide)) ?_
  refine Go.aload d0_87 rfl rfl ?_
  refine Go.lload d0_89 rfl ?_
  refine Go.iload d0_91 rfl ?_
  obtain ⟨t1, ok1, mm1, le1, ln1, gp1⟩ := go_put K hw t0 0 ok0 (by decide) k0 (x5 &&& 2147483647) (own_val _)
  refine Go.callV (M' := m6) (i := 0) d0_93 rfl (hw _ (List.mem_of_getElem? (i := 30) rfl)) (hw _ (List.mem_of_getElem? (i := 32) rfl)) (hw _ (List.mem_of_getElem? (i := 3) rfl)) (hw _ (List.mem_of_getElem? (i := 31) rfl)) (hw _ (List.mem_of_getElem? (i := 33) rfl)) (hw _ (List.mem_of_getElem? (i := 34) rfl)) mi6 (as := [.long k0, .int (x5 &&& 2147483647)]) rfl rfl (st := []) rfl (ls1 := [.val (.ref 0), .val (.long k0), .second, .val (.int (x5 &&& 2147483647)), .unset]) rfl (W := 0) rfl (by decide) (by decide) gp1 13 157 (by decide) (by decide) ?_
  show Go _ _ _ _ 96 [.val (.long x0), .second, .val (.long x1), .second, .val (.long x2), .second, .val (.long x3), .second, .val (.int x4), .val (.int x5), .val (.long k0), .second, .val (.long k1), .second, .val (.long k2), .second, .val (.long k3), .second, .val (.int 4), .val (.int (x5 &&& 2147483647)), .val (.ref 0), .unset, .unset] [] [.inl ("com/example/subsume/subsume/LongIntMap", [("keys", "[J", .ref 1), ("values", "[I", .ref 2), ("size", "I", .int (Int32.ofNat (own_occ t1).length))]), .inr (.long, (own_ks t1)), .inr (.int, (own_vs t1))] _
  refine Go.iload d0_96 rfl ?_
  refine Go.iconst d0_98 (v := 1) rfl ?_
  refine Go.icmpF d0_99 (XT.ii_le_f (by decide)) ?_
  refine Go.aload d0_102 rfl rfl ?_
  refine Go.lload d0_104 rfl ?_
  refine Go.iload d0_106 rfl ?_
  refine Go.iconst d0_108 (v := 1) rfl ?_
  refine Go.ixor d0_109 ?_
  obtain ⟨t2, ok2, mm2, le2, ln2, gp2⟩ := go_put K hw t1 1 ok1 (by decide) k1 ((x5 &&& 2147483647) ^^^ 1) (own_valx _)
  refine Go.callV (M' := m6) (i := 0) d0_110 rfl (hw _ (List.mem_of_getElem? (i := 30) rfl)) (hw _ (List.mem_of_getElem? (i := 32) rfl)) (hw _ (List.mem_of_getElem? (i := 3) rfl)) (hw _ (List.mem_of_getElem? (i := 31) rfl)) (hw _ (List.mem_of_getElem? (i := 33) rfl)) (hw _ (List.mem_of_getElem? (i := 34) rfl)) mi6 (as := [.long k1, .int ((x5 &&& 2147483647) ^^^ 1)]) rfl rfl (st := []) rfl (ls1 := [.val (.ref 0), .val (.long k1), .second, .val (.int ((x5 &&& 2147483647) ^^^ 1)), .unset]) rfl (W := 0) rfl (by decide) (by decide) gp2 13 157 (by decide) (by decide) ?_
  show Go _ _ _ _ 113 [.val (.long x0), .second, .val (.long x1), .second, .val (.long x2), .second, .val (.long x3), .second, .val (.int x4), .val (.int x5), .val (.long k0), .second, .val (.long k1), .second, .val (.long k2), .second, .val (.long k3), .second, .val (.int 4), .val (.int (x5 &&& 2147483647)), .val (.ref 0), .unset, .unset] [] [.inl ("com/example/subsume/subsume/LongIntMap", [("keys", "[J", .ref 1), ("values", "[I", .ref 2), ("size", "I", .int (Int32.ofNat (own_occ t2).length))]), .inr (.long, (own_ks t2)), .inr (.int, (own_vs t2))] _
  refine Go.iload d0_113 rfl ?_
  refine Go.iconst d0_115 (v := 2) rfl ?_
  refine Go.icmpF d0_116 (XT.ii_le_f (by decide)) ?_
  refine Go.aload d0_119 rfl rfl ?_
  refine Go.lload d0_121 rfl ?_
  refine Go.iload d0_123 rfl ?_
  refine Go.iconst d0_125 (v := 1) rfl ?_
  refine Go.iushr d0_126 ?_
  obtain ⟨t3, ok3, mm3, le3, ln3, gp3⟩ := go_put K hw t2 2 ok2 (by decide) k2 (XT.ushr (x5 &&& 2147483647) 1) (own_valu _)
  refine Go.callV (M' := m6) (i := 0) d0_127 rfl (hw _ (List.mem_of_getElem? (i := 30) rfl)) (hw _ (List.mem_of_getElem? (i := 32) rfl)) (hw _ (List.mem_of_getElem? (i := 3) rfl)) (hw _ (List.mem_of_getElem? (i := 31) rfl)) (hw _ (List.mem_of_getElem? (i := 33) rfl)) (hw _ (List.mem_of_getElem? (i := 34) rfl)) mi6 (as := [.long k2, .int (XT.ushr (x5 &&& 2147483647) 1)]) rfl rfl (st := []) rfl (ls1 := [.val (.ref 0), .val (.long k2), .second, .val (.int (XT.ushr (x5 &&& 2147483647) 1)), .unset]) rfl (W := 0) rfl (by decide) (by decide) gp3 13 157 (by decide) (by decide) ?_
  show Go _ _ _ _ 130 [.val (.long x0), .second, .val (.long x1), .second, .val (.long x2), .second, .val (.long x3), .second, .val (.int x4), .val (.int x5), .val (.long k0), .second, .val (.long k1), .second, .val (.long k2), .second, .val (.long k3), .second, .val (.int 4), .val (.int (x5 &&& 2147483647)), .val (.ref 0), .unset, .unset] [] [.inl ("com/example/subsume/subsume/LongIntMap", [("keys", "[J", .ref 1), ("values", "[I", .ref 2), ("size", "I", .int (Int32.ofNat (own_occ t3).length))]), .inr (.long, (own_ks t3)), .inr (.int, (own_vs t3))] _
  refine Go.iload d0_130 rfl ?_
  refine Go.iconst d0_132 (v := 3) rfl ?_
  refine Go.icmpF d0_133 (XT.ii_le_f (by decide)) ?_
  refine Go.aload d0_136 rfl rfl ?_
  refine Go.lload d0_138 rfl ?_
  refine Go.iconst d0_140 (v := 0) rfl ?_
  obtain ⟨t4, ok4, mm4, le4, ln4, gp4⟩ := go_put K hw t3 3 ok3 (by decide) k3 0 (by decide)
  refine Go.callV (M' := m6) (i := 0) d0_141 rfl (hw _ (List.mem_of_getElem? (i := 30) rfl)) (hw _ (List.mem_of_getElem? (i := 32) rfl)) (hw _ (List.mem_of_getElem? (i := 3) rfl)) (hw _ (List.mem_of_getElem? (i := 31) rfl)) (hw _ (List.mem_of_getElem? (i := 33) rfl)) (hw _ (List.mem_of_getElem? (i := 34) rfl)) mi6 (as := [.long k3, .int 0]) rfl rfl (st := []) rfl (ls1 := [.val (.ref 0), .val (.long k3), .second, .val (.int 0), .unset]) rfl (W := 0) rfl (by decide) (by decide) gp4 13 157 (by decide) (by decide) ?_
  show Go _ _ _ _ 144 [.val (.long x0), .second, .val (.long x1), .second, .val (.long x2), .second, .val (.long x3), .second, .val (.int x4), .val (.int x5), .val (.long k0), .second, .val (.long k1), .second, .val (.long k2), .second, .val (.long k3), .second, .val (.int 4), .val (.int (x5 &&& 2147483647)), .val (.ref 0), .unset, .unset] [] [.inl ("com/example/subsume/subsume/LongIntMap", [("keys", "[J", .ref 1), ("values", "[I", .ref 2), ("size", "I", .int (Int32.ofNat (own_occ t4).length))]), .inr (.long, (own_ks t4)), .inr (.int, (own_vs t4))] _
  refine Go.aload d0_144 rfl rfl ?_
  refine Go.callV (M' := m5) (i := 0) d0_146 rfl (hw _ (List.mem_of_getElem? (i := 23) rfl)) (hw _ (List.mem_of_getElem? (i := 25) rfl)) (hw _ (List.mem_of_getElem? (i := 3) rfl)) (hw _ (List.mem_of_getElem? (i := 24) rfl)) (hw _ (List.mem_of_getElem? (i := 26) rfl)) (hw _ (List.mem_of_getElem? (i := 27) rfl)) mi5 (as := []) rfl rfl (st := []) rfl (ls1 := [.val (.ref 0), .unset, .unset, .unset]) rfl (W := 0) rfl (by decide) (by decide) (go_keys K hw t4 ok4.1 ok4.2.1 (by have := ok4.2.2.2; omega)) 12 152 (by decide) (by decide) ?_
  show Go _ _ _ _ 149 [.val (.long x0), .second, .val (.long x1), .second, .val (.long x2), .second, .val (.long x3), .second, .val (.int x4), .val (.int x5), .val (.long k0), .second, .val (.long k1), .second, .val (.long k2), .second, .val (.long k3), .second, .val (.int 4), .val (.int (x5 &&& 2147483647)), .val (.ref 0), .unset, .unset] [.ref 3] [.inl ("com/example/subsume/subsume/LongIntMap", [("keys", "[J", .ref 1), ("values", "[I", .ref 2), ("size", "I", .int (Int32.ofNat (own_occ t4).length))]), .inr (.long, (own_ks t4)), .inr (.int, (own_vs t4)), .inr (.long, (own_rs (own_occ t4) 0))] _
  refine Go.astore d0_149 (ls' := [.val (.long x0), .second, .val (.long x1), .second, .val (.long x2), .second, .val (.long x3), .second, .val (.int x4), .val (.int x5), .val (.long k0), .second, .val (.long k1), .second, .val (.long k2), .second, .val (.long k3), .second, .val (.int 4), .val (.int (x5 &&& 2147483647)), .val (.ref 0), .val (.ref 3), .unset]) rfl rfl ?_
  refine Go.iconst d0_151 (v := 0) rfl ?_
  refine Go.istore d0_152 (ls' := [.val (.long x0), .second, .val (.long x1), .second, .val (.long x2), .second, .val (.long x3), .second, .val (.int x4), .val (.int x5), .val (.long k0), .second, .val (.long k1), .second, .val (.long k2), .second, .val (.long k3), .second, .val (.int 4), .val (.int (x5 &&& 2147483647)), .val (.ref 0), .val (.ref 3), .val (.int 0)]) rfl ?_
  refine Go.iload d0_154 rfl ?_
  refine Go.ifF d0_156 (XT.i0_le_f (by decide)) ?_
  refine Go.iinc d0_159 (v := 1) rfl rfl (ls' := [.val (.long x0), .second, .val (.long x1), .second, .val (.long x2), .second, .val (.long x3), .second, .val (.int x4), .val (.int x5), .val (.long k0), .second, .val (.long k1), .second, .val (.long k2), .second, .val (.long k3), .second, .val (.int 4), .val (.int (x5 &&& 2147483647)), .val (.ref 0), .val (.ref 3), .val (.int 1)]) rfl ?_
  refine Go.iload d0_162 rfl ?_
  refine Go.iconst d0_164 (v := 1) rfl ?_
  refine Go.icmpF d0_165 (XT.ii_le_f (by decide)) ?_
  refine Go.lload d0_168 rfl ?_
  refine Go.lload d0_170 rfl ?_
  refine Go.lcmp d0_172 ?_
  refine Go.lif_eq d0_173 j0_173 (fun h173 => ?_) (fun h173 => ?_)
  · -- pc 173 taken
    refine Go.iload d0_179 rfl ?_
    refine Go.iconst d0_181 (v := 2) rfl ?_
    refine Go.icmpF d0_182 (XT.ii_le_f (by decide)) ?_
    refine Go.lload d0_185 rfl ?_
    refine Go.lload d0_187 rfl ?_
    refine Go.lcmp d0_189 ?_
    refine Go.lif_eq d0_190 j0_190 (fun h190 => ?_) (fun h190 => ?_)
    · -- pc 190 taken
      refine Go.iload d0_204 rfl ?_
      refine Go.iconst d0_206 (v := 3) rfl ?_
      refine Go.icmpF d0_207 (XT.ii_le_f (by decide)) ?_
      refine Go.lload d0_210 rfl ?_
      refine Go.lload d0_212 rfl ?_
      refine Go.lcmp d0_214 ?_
      refine Go.lif_eq d0_215 j0_215 (fun h215 => ?_) (fun h215 => ?_)
      · -- pc 215 taken
        have L1 : (own_occ t1).length = 1 := (ln1 (fun z => by
            exact mm0 _ z)).trans (congrArg (· + 1) le0)
        have L2 : (own_occ t2).length = 1 := (le2 (by rw [h173]; exact ((mm1 _).mpr (Or.inl rfl)))).trans L1
        have L3 : (own_occ t3).length = 1 := (le3 (by rw [h190]; exact ((mm2 _).mpr (Or.inr ((mm1 _).mpr (Or.inl rfl)))))).trans L2
        have L4 : (own_occ t4).length = 1 := (le4 (by rw [h215]; exact ((mm3 _).mpr (Or.inr ((mm2 _).mpr (Or.inr ((mm1 _).mpr (Or.inl rfl)))))))).trans L3
        refine Go.aload d0_237 rfl rfl ?_
        refine Go.arraylength d0_239 rfl (z := 1) (own_rlen L4 rfl) ?_
        refine Go.iload d0_240 rfl ?_
        refine Go.icmpT d0_242 j0_242 (XT.ii_eq_t (by decide)) ?_
        refine Go.iload d0_247 rfl ?_
        refine Go.ifF d0_249 (XT.i0_le_f (by decide)) ?_
        refine Go.aload d0_252 rfl rfl ?_
        refine Go.lload d0_254 rfl ?_
        obtain ⟨z1, hzz1, ghz1⟩ := go_has K hw ((own_occ t4).map (fun x => x.1)) (by rw [List.length_map]; omega) k0 (own_mem_occ ((mm4 _).mpr (Or.inr ((mm3 _).mpr (Or.inr ((mm2 _).mpr (Or.inr ((mm1 _).mpr (Or.inl rfl))))))))) [.inl ("com/example/subsume/subsume/LongIntMap", [("keys", "[J", .ref 1), ("values", "[I", .ref 2), ("size", "I", .int (Int32.ofNat (own_occ t4).length))]), .inr (.long, (own_ks t4)), .inr (.int, (own_vs t4)), .inr (.long, (own_rs (own_occ t4) 0))] (by rw [← own_rs0]; rfl)
        refine Go.callS (M' := m8) d0_256 (hw _ (List.mem_of_getElem? (i := 40) rfl)) (hw _ (List.mem_of_getElem? (i := 41) rfl)) (hw _ (List.mem_of_getElem? (i := 42) rfl)) (hw _ (List.mem_of_getElem? (i := 43) rfl)) mi8 (as := [.ref 3, .long k0]) rfl rfl (st := []) rfl (ls1 := [.val (.ref 3), .val (.long k0), .second]) rfl (W := 0) rfl (by decide) (by decide) ghz1 12 152 (by decide) (by decide) ?_
        show Go _ _ _ _ 259 [.val (.long x0), .second, .val (.long x1), .second, .val (.long x2), .second, .val (.long x3), .second, .val (.int x4), .val (.int x5), .val (.long k0), .second, .val (.long k1), .second, .val (.long k2), .second, .val (.long k3), .second, .val (.int 4), .val (.int (x5 &&& 2147483647)), .val (.ref 0), .val (.ref 3), .val (.int 1)] [.int z1] [.inl ("com/example/subsume/subsume/LongIntMap", [("keys", "[J", .ref 1), ("values", "[I", .ref 2), ("size", "I", .int (Int32.ofNat (own_occ t4).length))]), .inr (.long, (own_ks t4)), .inr (.int, (own_vs t4)), .inr (.long, (own_rs (own_occ t4) 0))] _
        refine Go.ifT d0_259 j0_259 (XT.i0_ne_t hzz1) ?_
        refine Go.iload d0_264 rfl ?_
        refine Go.iconst d0_266 (v := 1) rfl ?_
        refine Go.icmpF d0_267 (XT.ii_le_f (by decide)) ?_
        refine Go.aload d0_270 rfl rfl ?_
        refine Go.lload d0_272 rfl ?_
        obtain ⟨z2, hzz2, ghz2⟩ := go_has K hw ((own_occ t4).map (fun x => x.1)) (by rw [List.length_map]; omega) k1 (own_mem_occ ((mm4 _).mpr (Or.inr ((mm3 _).mpr (Or.inr ((mm2 _).mpr (Or.inl rfl))))))) [.inl ("com/example/subsume/subsume/LongIntMap", [("keys", "[J", .ref 1), ("values", "[I", .ref 2), ("size", "I", .int (Int32.ofNat (own_occ t4).length))]), .inr (.long, (own_ks t4)), .inr (.int, (own_vs t4)), .inr (.long, (own_rs (own_occ t4) 0))] (by rw [← own_rs0]; rfl)
        refine Go.callS (M' := m8) d0_274 (hw _ (List.mem_of_getElem? (i := 40) rfl)) (hw _ (List.mem_of_getElem? (i := 41) rfl)) (hw _ (List.mem_of_getElem? (i := 42) rfl)) (hw _ (List.mem_of_getElem? (i := 43) rfl)) mi8 (as := [.ref 3, .long k1]) rfl rfl (st := []) rfl (ls1 := [.val (.ref 3), .val (.long k1), .second]) rfl (W := 0) rfl (by decide) (by decide) ghz2 12 152 (by decide) (by decide) ?_
        show Go _ _ _ _ 277 [.val (.long x0), .second, .val (.long x1), .second, .val (.long x2), .second, .val (.long x3), .second, .val (.int x4), .val (.int x5), .val (.long k0), .second, .val (.long k1), .second, .val (.long k2), .second, .val (.long k3), .second, .val (.int 4), .val (.int (x5 &&& 2147483647)), .val (.ref 0), .val (.ref 3), .val (.int 1)] [.int z2] [.inl ("com/example/subsume/subsume/LongIntMap", [("keys", "[J", .ref 1), ("values", "[I", .ref 2), ("size", "I", .int (Int32.ofNat (own_occ t4).length))]), .inr (.long, (own_ks t4)), .inr (.int, (own_vs t4)), .inr (.long, (own_rs (own_occ t4) 0))] _
        refine Go.ifT d0_277 j0_277 (XT.i0_ne_t hzz2) ?_
        refine Go.iload d0_282 rfl ?_
        refine Go.iconst d0_284 (v := 2) rfl ?_
        refine Go.icmpF d0_285 (XT.ii_le_f (by decide)) ?_
        refine Go.aload d0_288 rfl rfl ?_
        refine Go.lload d0_290 rfl ?_
        obtain ⟨z3, hzz3, ghz3⟩ := go_has K hw ((own_occ t4).map (fun x => x.1)) (by rw [List.length_map]; omega) k2 (own_mem_occ ((mm4 _).mpr (Or.inr ((mm3 _).mpr (Or.inl rfl))))) [.inl ("com/example/subsume/subsume/LongIntMap", [("keys", "[J", .ref 1), ("values", "[I", .ref 2), ("size", "I", .int (Int32.ofNat (own_occ t4).length))]), .inr (.long, (own_ks t4)), .inr (.int, (own_vs t4)), .inr (.long, (own_rs (own_occ t4) 0))] (by rw [← own_rs0]; rfl)
        refine Go.callS (M' := m8) d0_292 (hw _ (List.mem_of_getElem? (i := 40) rfl)) (hw _ (List.mem_of_getElem? (i := 41) rfl)) (hw _ (List.mem_of_getElem? (i := 42) rfl)) (hw _ (List.mem_of_getElem? (i := 43) rfl)) mi8 (as := [.ref 3, .long k2]) rfl rfl (st := []) rfl (ls1 := [.val (.ref 3), .val (.long k2), .second]) rfl (W := 0) rfl (by decide) (by decide) ghz3 12 152 (by decide) (by decide) ?_
        show Go _ _ _ _ 295 [.val (.long x0), .second, .val (.long x1), .second, .val (.long x2), .second, .val (.long x3), .second, .val (.int x4), .val (.int x5), .val (.long k0), .second, .val (.long k1), .second, .val (.long k2), .second, .val (.long k3), .second, .val (.int 4), .val (.int (x5 &&& 2147483647)), .val (.ref 0), .val (.ref 3), .val (.int 1)] [.int z3] [.inl ("com/example/subsume/subsume/LongIntMap", [("keys", "[J", .ref 1), ("values", "[I", .ref 2), ("size", "I", .int (Int32.ofNat (own_occ t4).length))]), .inr (.long, (own_ks t4)), .inr (.int, (own_vs t4)), .inr (.long, (own_rs (own_occ t4) 0))] _
        refine Go.ifT d0_295 j0_295 (XT.i0_ne_t hzz3) ?_
        refine Go.iload d0_300 rfl ?_
        refine Go.iconst d0_302 (v := 3) rfl ?_
        refine Go.icmpF d0_303 (XT.ii_le_f (by decide)) ?_
        refine Go.aload d0_306 rfl rfl ?_
        refine Go.lload d0_308 rfl ?_
        obtain ⟨z4, hzz4, ghz4⟩ := go_has K hw ((own_occ t4).map (fun x => x.1)) (by rw [List.length_map]; omega) k3 (own_mem_occ ((mm4 _).mpr (Or.inl rfl))) [.inl ("com/example/subsume/subsume/LongIntMap", [("keys", "[J", .ref 1), ("values", "[I", .ref 2), ("size", "I", .int (Int32.ofNat (own_occ t4).length))]), .inr (.long, (own_ks t4)), .inr (.int, (own_vs t4)), .inr (.long, (own_rs (own_occ t4) 0))] (by rw [← own_rs0]; rfl)
        refine Go.callS (M' := m8) d0_310 (hw _ (List.mem_of_getElem? (i := 40) rfl)) (hw _ (List.mem_of_getElem? (i := 41) rfl)) (hw _ (List.mem_of_getElem? (i := 42) rfl)) (hw _ (List.mem_of_getElem? (i := 43) rfl)) mi8 (as := [.ref 3, .long k3]) rfl rfl (st := []) rfl (ls1 := [.val (.ref 3), .val (.long k3), .second]) rfl (W := 0) rfl (by decide) (by decide) ghz4 12 152 (by decide) (by decide) ?_
        show Go _ _ _ _ 313 [.val (.long x0), .second, .val (.long x1), .second, .val (.long x2), .second, .val (.long x3), .second, .val (.int x4), .val (.int x5), .val (.long k0), .second, .val (.long k1), .second, .val (.long k2), .second, .val (.long k3), .second, .val (.int 4), .val (.int (x5 &&& 2147483647)), .val (.ref 0), .val (.ref 3), .val (.int 1)] [.int z4] [.inl ("com/example/subsume/subsume/LongIntMap", [("keys", "[J", .ref 1), ("values", "[I", .ref 2), ("size", "I", .int (Int32.ofNat (own_occ t4).length))]), .inr (.long, (own_ks t4)), .inr (.int, (own_vs t4)), .inr (.long, (own_rs (own_occ t4) 0))] _
        refine Go.ifT d0_313 j0_313 (XT.i0_ne_t hzz4) ?_
        refine Go.iconst d0_318 (v := 1) rfl ?_
        exact Go.ireturnZ d0_319 rfl (by decide) rfl HOk.any
      · -- pc 215 not taken
        refine Go.lload d0_218 rfl ?_
        refine Go.lload d0_220 rfl ?_
        refine Go.lcmp d0_222 ?_
        refine Go.lif_eq d0_223 j0_223 (fun h223 => ?_) (fun h223 => ?_)
        · -- pc 223 taken
          have L1 : (own_occ t1).length = 1 := (ln1 (fun z => by
              exact mm0 _ z)).trans (congrArg (· + 1) le0)
          have L2 : (own_occ t2).length = 1 := (le2 (by rw [h173]; exact ((mm1 _).mpr (Or.inl rfl)))).trans L1
          have L3 : (own_occ t3).length = 1 := (le3 (by rw [h190]; exact ((mm2 _).mpr (Or.inr ((mm1 _).mpr (Or.inl rfl)))))).trans L2
          have L4 : (own_occ t4).length = 1 := (le4 (by rw [h223]; exact ((mm3 _).mpr (Or.inr ((mm2 _).mpr (Or.inl rfl)))))).trans L3
          refine Go.aload d0_237 rfl rfl ?_
          refine Go.arraylength d0_239 rfl (z := 1) (own_rlen L4 rfl) ?_
          refine Go.iload d0_240 rfl ?_
          refine Go.icmpT d0_242 j0_242 (XT.ii_eq_t (by decide)) ?_
          refine Go.iload d0_247 rfl ?_
          refine Go.ifF d0_249 (XT.i0_le_f (by decide)) ?_
          refine Go.aload d0_252 rfl rfl ?_
          refine Go.lload d0_254 rfl ?_
          obtain ⟨z5, hzz5, ghz5⟩ := go_has K hw ((own_occ t4).map (fun x => x.1)) (by rw [List.length_map]; omega) k0 (own_mem_occ ((mm4 _).mpr (Or.inr ((mm3 _).mpr (Or.inr ((mm2 _).mpr (Or.inr ((mm1 _).mpr (Or.inl rfl))))))))) [.inl ("com/example/subsume/subsume/LongIntMap", [("keys", "[J", .ref 1), ("values", "[I", .ref 2), ("size", "I", .int (Int32.ofNat (own_occ t4).length))]), .inr (.long, (own_ks t4)), .inr (.int, (own_vs t4)), .inr (.long, (own_rs (own_occ t4) 0))] (by rw [← own_rs0]; rfl)
          refine Go.callS (M' := m8) d0_256 (hw _ (List.mem_of_getElem? (i := 40) rfl)) (hw _ (List.mem_of_getElem? (i := 41) rfl)) (hw _ (List.mem_of_getElem? (i := 42) rfl)) (hw _ (List.mem_of_getElem? (i := 43) rfl)) mi8 (as := [.ref 3, .long k0]) rfl rfl (st := []) rfl (ls1 := [.val (.ref 3), .val (.long k0), .second]) rfl (W := 0) rfl (by decide) (by decide) ghz5 12 152 (by decide) (by decide) ?_
          show Go _ _ _ _ 259 [.val (.long x0), .second, .val (.long x1), .second, .val (.long x2), .second, .val (.long x3), .second, .val (.int x4), .val (.int x5), .val (.long k0), .second, .val (.long k1), .second, .val (.long k2), .second, .val (.long k3), .second, .val (.int 4), .val (.int (x5 &&& 2147483647)), .val (.ref 0), .val (.ref 3), .val (.int 1)] [.int z5] [.inl ("com/example/subsume/subsume/LongIntMap", [("keys", "[J", .ref 1), ("values", "[I", .ref 2), ("size", "I", .int (Int32.ofNat (own_occ t4).length))]), .inr (.long, (own_ks t4)), .inr (.int, (own_vs t4)), .inr (.long, (own_rs (own_occ t4) 0))] _
          refine Go.ifT d0_259 j0_259 (XT.i0_ne_t hzz5) ?_
          refine Go.iload d0_264 rfl ?_
          refine Go.iconst d0_266 (v := 1) rfl ?_
          refine Go.icmpF d0_267 (XT.ii_le_f (by decide)) ?_
          refine Go.aload d0_270 rfl rfl ?_
          refine Go.lload d0_272 rfl ?_
          obtain ⟨z6, hzz6, ghz6⟩ := go_has K hw ((own_occ t4).map (fun x => x.1)) (by rw [List.length_map]; omega) k1 (own_mem_occ ((mm4 _).mpr (Or.inr ((mm3 _).mpr (Or.inr ((mm2 _).mpr (Or.inl rfl))))))) [.inl ("com/example/subsume/subsume/LongIntMap", [("keys", "[J", .ref 1), ("values", "[I", .ref 2), ("size", "I", .int (Int32.ofNat (own_occ t4).length))]), .inr (.long, (own_ks t4)), .inr (.int, (own_vs t4)), .inr (.long, (own_rs (own_occ t4) 0))] (by rw [← own_rs0]; rfl)
          refine Go.callS (M' := m8) d0_274 (hw _ (List.mem_of_getElem? (i := 40) rfl)) (hw _ (List.mem_of_getElem? (i := 41) rfl)) (hw _ (List.mem_of_getElem? (i := 42) rfl)) (hw _ (List.mem_of_getElem? (i := 43) rfl)) mi8 (as := [.ref 3, .long k1]) rfl rfl (st := []) rfl (ls1 := [.val (.ref 3), .val (.long k1), .second]) rfl (W := 0) rfl (by decide) (by decide) ghz6 12 152 (by decide) (by decide) ?_
          show Go _ _ _ _ 277 [.val (.long x0), .second, .val (.long x1), .second, .val (.long x2), .second, .val (.long x3), .second, .val (.int x4), .val (.int x5), .val (.long k0), .second, .val (.long k1), .second, .val (.long k2), .second, .val (.long k3), .second, .val (.int 4), .val (.int (x5 &&& 2147483647)), .val (.ref 0), .val (.ref 3), .val (.int 1)] [.int z6] [.inl ("com/example/subsume/subsume/LongIntMap", [("keys", "[J", .ref 1), ("values", "[I", .ref 2), ("size", "I", .int (Int32.ofNat (own_occ t4).length))]), .inr (.long, (own_ks t4)), .inr (.int, (own_vs t4)), .inr (.long, (own_rs (own_occ t4) 0))] _
          refine Go.ifT d0_277 j0_277 (XT.i0_ne_t hzz6) ?_
          refine Go.iload d0_282 rfl ?_
          refine Go.iconst d0_284 (v := 2) rfl ?_
          refine Go.icmpF d0_285 (XT.ii_le_f (by decide)) ?_
          refine Go.aload d0_288 rfl rfl ?_
          refine Go.lload d0_290 rfl ?_
          obtain ⟨z7, hzz7, ghz7⟩ := go_has K hw ((own_occ t4).map (fun x => x.1)) (by rw [List.length_map]; omega) k2 (own_mem_occ ((mm4 _).mpr (Or.inr ((mm3 _).mpr (Or.inl rfl))))) [.inl ("com/example/subsume/subsume/LongIntMap", [("keys", "[J", .ref 1), ("values", "[I", .ref 2), ("size", "I", .int (Int32.ofNat (own_occ t4).length))]), .inr (.long, (own_ks t4)), .inr (.int, (own_vs t4)), .inr (.long, (own_rs (own_occ t4) 0))] (by rw [← own_rs0]; rfl)
          refine Go.callS (M' := m8) d0_292 (hw _ (List.mem_of_getElem? (i := 40) rfl)) (hw _ (List.mem_of_getElem? (i := 41) rfl)) (hw _ (List.mem_of_getElem? (i := 42) rfl)) (hw _ (List.mem_of_getElem? (i := 43) rfl)) mi8 (as := [.ref 3, .long k2]) rfl rfl (st := []) rfl (ls1 := [.val (.ref 3), .val (.long k2), .second]) rfl (W := 0) rfl (by decide) (by decide) ghz7 12 152 (by decide) (by decide) ?_
          show Go _ _ _ _ 295 [.val (.long x0), .second, .val (.long x1), .second, .val (.long x2), .second, .val (.long x3), .second, .val (.int x4), .val (.int x5), .val (.long k0), .second, .val (.long k1), .second, .val (.long k2), .second, .val (.long k3), .second, .val (.int 4), .val (.int (x5 &&& 2147483647)), .val (.ref 0), .val (.ref 3), .val (.int 1)] [.int z7] [.inl ("com/example/subsume/subsume/LongIntMap", [("keys", "[J", .ref 1), ("values", "[I", .ref 2), ("size", "I", .int (Int32.ofNat (own_occ t4).length))]), .inr (.long, (own_ks t4)), .inr (.int, (own_vs t4)), .inr (.long, (own_rs (own_occ t4) 0))] _
          refine Go.ifT d0_295 j0_295 (XT.i0_ne_t hzz7) ?_
          refine Go.iload d0_300 rfl ?_
          refine Go.iconst d0_302 (v := 3) rfl ?_
          refine Go.icmpF d0_303 (XT.ii_le_f (by decide)) ?_
          refine Go.aload d0_306 rfl rfl ?_
          refine Go.lload d0_308 rfl ?_
          obtain ⟨z8, hzz8, ghz8⟩ := go_has K hw ((own_occ t4).map (fun x => x.1)) (by rw [List.length_map]; omega) k3 (own_mem_occ ((mm4 _).mpr (Or.inl rfl))) [.inl ("com/example/subsume/subsume/LongIntMap", [("keys", "[J", .ref 1), ("values", "[I", .ref 2), ("size", "I", .int (Int32.ofNat (own_occ t4).length))]), .inr (.long, (own_ks t4)), .inr (.int, (own_vs t4)), .inr (.long, (own_rs (own_occ t4) 0))] (by rw [← own_rs0]; rfl)
          refine Go.callS (M' := m8) d0_310 (hw _ (List.mem_of_getElem? (i := 40) rfl)) (hw _ (List.mem_of_getElem? (i := 41) rfl)) (hw _ (List.mem_of_getElem? (i := 42) rfl)) (hw _ (List.mem_of_getElem? (i := 43) rfl)) mi8 (as := [.ref 3, .long k3]) rfl rfl (st := []) rfl (ls1 := [.val (.ref 3), .val (.long k3), .second]) rfl (W := 0) rfl (by decide) (by decide) ghz8 12 152 (by decide) (by decide) ?_
          show Go _ _ _ _ 313 [.val (.long x0), .second, .val (.long x1), .second, .val (.long x2), .second, .val (.long x3), .second, .val (.int x4), .val (.int x5), .val (.long k0), .second, .val (.long k1), .second, .val (.long k2), .second, .val (.long k3), .second, .val (.int 4), .val (.int (x5 &&& 2147483647)), .val (.ref 0), .val (.ref 3), .val (.int 1)] [.int z8] [.inl ("com/example/subsume/subsume/LongIntMap", [("keys", "[J", .ref 1), ("values", "[I", .ref 2), ("size", "I", .int (Int32.ofNat (own_occ t4).length))]), .inr (.long, (own_ks t4)), .inr (.int, (own_vs t4)), .inr (.long, (own_rs (own_occ t4) 0))] _
          refine Go.ifT d0_313 j0_313 (XT.i0_ne_t hzz8) ?_
          refine Go.iconst d0_318 (v := 1) rfl ?_
          exact Go.ireturnZ d0_319 rfl (by decide) rfl HOk.any
        · -- pc 223 not taken
          refine Go.lload d0_226 rfl ?_
          refine Go.lload d0_228 rfl ?_
          refine Go.lcmp d0_230 ?_
          refine Go.lif_eq d0_231 j0_231 (fun h231 => ?_) (fun h231 => ?_)
          · -- pc 231 taken
            have L1 : (own_occ t1).length = 1 := (ln1 (fun z => by
                exact mm0 _ z)).trans (congrArg (· + 1) le0)
            have L2 : (own_occ t2).length = 1 := (le2 (by rw [h173]; exact ((mm1 _).mpr (Or.inl rfl)))).trans L1
            have L3 : (own_occ t3).length = 1 := (le3 (by rw [h190]; exact ((mm2 _).mpr (Or.inr ((mm1 _).mpr (Or.inl rfl)))))).trans L2
            have L4 : (own_occ t4).length = 1 := (le4 (by rw [h231]; exact ((mm3 _).mpr (Or.inl rfl)))).trans L3
            refine Go.aload d0_237 rfl rfl ?_
            refine Go.arraylength d0_239 rfl (z := 1) (own_rlen L4 rfl) ?_
            refine Go.iload d0_240 rfl ?_
            refine Go.icmpT d0_242 j0_242 (XT.ii_eq_t (by decide)) ?_
            refine Go.iload d0_247 rfl ?_
            refine Go.ifF d0_249 (XT.i0_le_f (by decide)) ?_
            refine Go.aload d0_252 rfl rfl ?_
            refine Go.lload d0_254 rfl ?_
            obtain ⟨z9, hzz9, ghz9⟩ := go_has K hw ((own_occ t4).map (fun x => x.1)) (by rw [List.length_map]; omega) k0 (own_mem_occ ((mm4 _).mpr (Or.inr ((mm3 _).mpr (Or.inr ((mm2 _).mpr (Or.inr ((mm1 _).mpr (Or.inl rfl))))))))) [.inl ("com/example/subsume/subsume/LongIntMap", [("keys", "[J", .ref 1), ("values", "[I", .ref 2), ("size", "I", .int (Int32.ofNat (own_occ t4).length))]), .inr (.long, (own_ks t4)), .inr (.int, (own_vs t4)), .inr (.long, (own_rs (own_occ t4) 0))] (by rw [← own_rs0]; rfl)
            refine Go.callS (M' := m8) d0_256 (hw _ (List.mem_of_getElem? (i := 40) rfl)) (hw _ (List.mem_of_getElem? (i := 41) rfl)) (hw _ (List.mem_of_getElem? (i := 42) rfl)) (hw _ (List.mem_of_getElem? (i := 43) rfl)) mi8 (as := [.ref 3, .long k0]) rfl rfl (st := []) rfl (ls1 := [.val (.ref 3), .val (.long k0), .second]) rfl (W := 0) rfl (by decide) (by decide) ghz9 12 152 (by decide) (by decide) ?_
            show Go _ _ _ _ 259 [.val (.long x0), .second, .val (.long x1), .second, .val (.long x2), .second, .val (.long x3), .second, .val (.int x4), .val (.int x5), .val (.long k0), .second, .val (.long k1), .second, .val (.long k2), .second, .val (.long k3), .second, .val (.int 4), .val (.int (x5 &&& 2147483647)), .val (.ref 0), .val (.ref 3), .val (.int 1)] [.int z9] [.inl ("com/example/subsume/subsume/LongIntMap", [("keys", "[J", .ref 1), ("values", "[I", .ref 2), ("size", "I", .int (Int32.ofNat (own_occ t4).length))]), .inr (.long, (own_ks t4)), .inr (.int, (own_vs t4)), .inr (.long, (own_rs (own_occ t4) 0))] _
            refine Go.ifT d0_259 j0_259 (XT.i0_ne_t hzz9) ?_
            refine Go.iload d0_264 rfl ?_
            refine Go.iconst d0_266 (v := 1) rfl ?_
            refine Go.icmpF d0_267 (XT.ii_le_f (by decide)) ?_
            refine Go.aload d0_270 rfl rfl ?_
            refine Go.lload d0_272 rfl ?_
            obtain ⟨z10, hzz10, ghz10⟩ := go_has K hw ((own_occ t4).map (fun x => x.1)) (by rw [List.length_map]; omega) k1 (own_mem_occ ((mm4 _).mpr (Or.inr ((mm3 _).mpr (Or.inr ((mm2 _).mpr (Or.inl rfl))))))) [.inl ("com/example/subsume/subsume/LongIntMap", [("keys", "[J", .ref 1), ("values", "[I", .ref 2), ("size", "I", .int (Int32.ofNat (own_occ t4).length))]), .inr (.long, (own_ks t4)), .inr (.int, (own_vs t4)), .inr (.long, (own_rs (own_occ t4) 0))] (by rw [← own_rs0]; rfl)
            refine Go.callS (M' := m8) d0_274 (hw _ (List.mem_of_getElem? (i := 40) rfl)) (hw _ (List.mem_of_getElem? (i := 41) rfl)) (hw _ (List.mem_of_getElem? (i := 42) rfl)) (hw _ (List.mem_of_getElem? (i := 43) rfl)) mi8 (as := [.ref 3, .long k1]) rfl rfl (st := []) rfl (ls1 := [.val (.ref 3), .val (.long k1), .second]) rfl (W := 0) rfl (by decide) (by decide) ghz10 12 152 (by decide) (by decide) ?_
            show Go _ _ _ _ 277 [.val (.long x0), .second, .val (.long x1), .second, .val (.long x2), .second, .val (.long x3), .second, .val (.int x4), .val (.int x5), .val (.long k0), .second, .val (.long k1), .second, .val (.long k2), .second, .val (.long k3), .second, .val (.int 4), .val (.int (x5 &&& 2147483647)), .val (.ref 0), .val (.ref 3), .val (.int 1)] [.int z10] [.inl ("com/example/subsume/subsume/LongIntMap", [("keys", "[J", .ref 1), ("values", "[I", .ref 2), ("size", "I", .int (Int32.ofNat (own_occ t4).length))]), .inr (.long, (own_ks t4)), .inr (.int, (own_vs t4)), .inr (.long, (own_rs (own_occ t4) 0))] _
            refine Go.ifT d0_277 j0_277 (XT.i0_ne_t hzz10) ?_
            refine Go.iload d0_282 rfl ?_
            refine Go.iconst d0_284 (v := 2) rfl ?_
            refine Go.icmpF d0_285 (XT.ii_le_f (by decide)) ?_
            refine Go.aload d0_288 rfl rfl ?_
            refine Go.lload d0_290 rfl ?_
            obtain ⟨z11, hzz11, ghz11⟩ := go_has K hw ((own_occ t4).map (fun x => x.1)) (by rw [List.length_map]; omega) k2 (own_mem_occ ((mm4 _).mpr (Or.inr ((mm3 _).mpr (Or.inl rfl))))) [.inl ("com/example/subsume/subsume/LongIntMap", [("keys", "[J", .ref 1), ("values", "[I", .ref 2), ("size", "I", .int (Int32.ofNat (own_occ t4).length))]), .inr (.long, (own_ks t4)), .inr (.int, (own_vs t4)), .inr (.long, (own_rs (own_occ t4) 0))] (by rw [← own_rs0]; rfl)
            refine Go.callS (M' := m8) d0_292 (hw _ (List.mem_of_getElem? (i := 40) rfl)) (hw _ (List.mem_of_getElem? (i := 41) rfl)) (hw _ (List.mem_of_getElem? (i := 42) rfl)) (hw _ (List.mem_of_getElem? (i := 43) rfl)) mi8 (as := [.ref 3, .long k2]) rfl rfl (st := []) rfl (ls1 := [.val (.ref 3), .val (.long k2), .second]) rfl (W := 0) rfl (by decide) (by decide) ghz11 12 152 (by decide) (by decide) ?_
            show Go _ _ _ _ 295 [.val (.long x0), .second, .val (.long x1), .second, .val (.long x2), .second, .val (.long x3), .second, .val (.int x4), .val (.int x5), .val (.long k0), .second, .val (.long k1), .second, .val (.long k2), .second, .val (.long k3), .second, .val (.int 4), .val (.int (x5 &&& 2147483647)), .val (.ref 0), .val (.ref 3), .val (.int 1)] [.int z11] [.inl ("com/example/subsume/subsume/LongIntMap", [("keys", "[J", .ref 1), ("values", "[I", .ref 2), ("size", "I", .int (Int32.ofNat (own_occ t4).length))]), .inr (.long, (own_ks t4)), .inr (.int, (own_vs t4)), .inr (.long, (own_rs (own_occ t4) 0))] _
            refine Go.ifT d0_295 j0_295 (XT.i0_ne_t hzz11) ?_
            refine Go.iload d0_300 rfl ?_
            refine Go.iconst d0_302 (v := 3) rfl ?_
            refine Go.icmpF d0_303 (XT.ii_le_f (by decide)) ?_
            refine Go.aload d0_306 rfl rfl ?_
            refine Go.lload d0_308 rfl ?_
            obtain ⟨z12, hzz12, ghz12⟩ := go_has K hw ((own_occ t4).map (fun x => x.1)) (by rw [List.length_map]; omega) k3 (own_mem_occ ((mm4 _).mpr (Or.inl rfl))) [.inl ("com/example/subsume/subsume/LongIntMap", [("keys", "[J", .ref 1), ("values", "[I", .ref 2), ("size", "I", .int (Int32.ofNat (own_occ t4).length))]), .inr (.long, (own_ks t4)), .inr (.int, (own_vs t4)), .inr (.long, (own_rs (own_occ t4) 0))] (by rw [← own_rs0]; rfl)
            refine Go.callS (M' := m8) d0_310 (hw _ (List.mem_of_getElem? (i := 40) rfl)) (hw _ (List.mem_of_getElem? (i := 41) rfl)) (hw _ (List.mem_of_getElem? (i := 42) rfl)) (hw _ (List.mem_of_getElem? (i := 43) rfl)) mi8 (as := [.ref 3, .long k3]) rfl rfl (st := []) rfl (ls1 := [.val (.ref 3), .val (.long k3), .second]) rfl (W := 0) rfl (by decide) (by decide) ghz12 12 152 (by decide) (by decide) ?_
            show Go _ _ _ _ 313 [.val (.long x0), .second, .val (.long x1), .second, .val (.long x2), .second, .val (.long x3), .second, .val (.int x4), .val (.int x5), .val (.long k0), .second, .val (.long k1), .second, .val (.long k2), .second, .val (.long k3), .second, .val (.int 4), .val (.int (x5 &&& 2147483647)), .val (.ref 0), .val (.ref 3), .val (.int 1)] [.int z12] [.inl ("com/example/subsume/subsume/LongIntMap", [("keys", "[J", .ref 1), ("values", "[I", .ref 2), ("size", "I", .int (Int32.ofNat (own_occ t4).length))]), .inr (.long, (own_ks t4)), .inr (.int, (own_vs t4)), .inr (.long, (own_rs (own_occ t4) 0))] _
            refine Go.ifT d0_313 j0_313 (XT.i0_ne_t hzz12) ?_
            refine Go.iconst d0_318 (v := 1) rfl ?_
            exact Go.ireturnZ d0_319 rfl (by decide) rfl HOk.any
          · -- pc 231 not taken
            refine Go.iinc d0_234 (v := 1) rfl rfl (ls' := [.val (.long x0), .second, .val (.long x1), .second, .val (.long x2), .second, .val (.long x3), .second, .val (.int x4), .val (.int x5), .val (.long k0), .second, .val (.long k1), .second, .val (.long k2), .second, .val (.long k3), .second, .val (.int 4), .val (.int (x5 &&& 2147483647)), .val (.ref 0), .val (.ref 3), .val (.int 2)]) rfl ?_
            have L1 : (own_occ t1).length = 1 := (ln1 (fun z => by
                exact mm0 _ z)).trans (congrArg (· + 1) le0)
            have L2 : (own_occ t2).length = 1 := (le2 (by rw [h173]; exact ((mm1 _).mpr (Or.inl rfl)))).trans L1
            have L3 : (own_occ t3).length = 1 := (le3 (by rw [h190]; exact ((mm2 _).mpr (Or.inr ((mm1 _).mpr (Or.inl rfl)))))).trans L2
            have L4 : (own_occ t4).length = 2 := (ln4 (fun z => by
                rcases (mm3 _).mp z with e | z
                · exact h231 e
                rcases (mm2 _).mp z with e | z
                · exact h223 e
                rcases (mm1 _).mp z with e | z
                · exact h215 e
                exact mm0 _ z)).trans (congrArg (· + 1) L3)
            refine Go.aload d0_237 rfl rfl ?_
            refine Go.arraylength d0_239 rfl (z := 2) (own_rlen L4 rfl) ?_
            refine Go.iload d0_240 rfl ?_
            refine Go.icmpT d0_242 j0_242 (XT.ii_eq_t (by decide)) ?_
            refine Go.iload d0_247 rfl ?_
            refine Go.ifF d0_249 (XT.i0_le_f (by decide)) ?_
            refine Go.aload d0_252 rfl rfl ?_
            refine Go.lload d0_254 rfl ?_
            obtain ⟨z13, hzz13, ghz13⟩ := go_has K hw ((own_occ t4).map (fun x => x.1)) (by rw [List.length_map]; omega) k0 (own_mem_occ ((mm4 _).mpr (Or.inr ((mm3 _).mpr (Or.inr ((mm2 _).mpr (Or.inr ((mm1 _).mpr (Or.inl rfl))))))))) [.inl ("com/example/subsume/subsume/LongIntMap", [("keys", "[J", .ref 1), ("values", "[I", .ref 2), ("size", "I", .int (Int32.ofNat (own_occ t4).length))]), .inr (.long, (own_ks t4)), .inr (.int, (own_vs t4)), .inr (.long, (own_rs (own_occ t4) 0))] (by rw [← own_rs0]; rfl)
            refine Go.callS (M' := m8) d0_256 (hw _ (List.mem_of_getElem? (i := 40) rfl)) (hw _ (List.mem_of_getElem? (i := 41) rfl)) (hw _ (List.mem_of_getElem? (i := 42) rfl)) (hw _ (List.mem_of_getElem? (i := 43) rfl)) mi8 (as := [.ref 3, .long k0]) rfl rfl (st := []) rfl (ls1 := [.val (.ref 3), .val (.long k0), .second]) rfl (W := 0) rfl (by decide) (by decide) ghz13 12 152 (by decide) (by decide) ?_
            show Go _ _ _ _ 259 [.val (.long x0), .second, .val (.long x1), .second, .val (.long x2), .second, .val (.long x3), .second, .val (.int x4), .val (.int x5), .val (.long k0), .second, .val (.long k1), .second, .val (.long k2), .second, .val (.long k3), .second, .val (.int 4), .val (.int (x5 &&& 2147483647)), .val (.ref 0), .val (.ref 3), .val (.int 2)] [.int z13] [.inl ("com/example/subsume/subsume/LongIntMap", [("keys", "[J", .ref 1), ("values", "[I", .ref 2), ("size", "I", .int (Int32.ofNat (own_occ t4).length))]), .inr (.long, (own_ks t4)), .inr (.int, (own_vs t4)), .inr (.long, (own_rs (own_occ t4) 0))] _
            refine Go.ifT d0_259 j0_259 (XT.i0_ne_t hzz13) ?_
            refine Go.iload d0_264 rfl ?_
            refine Go.iconst d0_266 (v := 1) rfl ?_
            refine Go.icmpF d0_267 (XT.ii_le_f (by decide)) ?_
            refine Go.aload d0_270 rfl rfl ?_
            refine Go.lload d0_272 rfl ?_
            obtain ⟨z14, hzz14, ghz14⟩ := go_has K hw ((own_occ t4).map (fun x => x.1)) (by rw [List.length_map]; omega) k1 (own_mem_occ ((mm4 _).mpr (Or.inr ((mm3 _).mpr (Or.inr ((mm2 _).mpr (Or.inl rfl))))))) [.inl ("com/example/subsume/subsume/LongIntMap", [("keys", "[J", .ref 1), ("values", "[I", .ref 2), ("size", "I", .int (Int32.ofNat (own_occ t4).length))]), .inr (.long, (own_ks t4)), .inr (.int, (own_vs t4)), .inr (.long, (own_rs (own_occ t4) 0))] (by rw [← own_rs0]; rfl)
            refine Go.callS (M' := m8) d0_274 (hw _ (List.mem_of_getElem? (i := 40) rfl)) (hw _ (List.mem_of_getElem? (i := 41) rfl)) (hw _ (List.mem_of_getElem? (i := 42) rfl)) (hw _ (List.mem_of_getElem? (i := 43) rfl)) mi8 (as := [.ref 3, .long k1]) rfl rfl (st := []) rfl (ls1 := [.val (.ref 3), .val (.long k1), .second]) rfl (W := 0) rfl (by decide) (by decide) ghz14 12 152 (by decide) (by decide) ?_
            show Go _ _ _ _ 277 [.val (.long x0), .second, .val (.long x1), .second, .val (.long x2), .second, .val (.long x3), .second, .val (.int x4), .val (.int x5), .val (.long k0), .second, .val (.long k1), .second, .val (.long k2), .second, .val (.long k3), .second, .val (.int 4), .val (.int (x5 &&& 2147483647)), .val (.ref 0), .val (.ref 3), .val (.int 2)] [.int z14] [.inl ("com/example/subsume/subsume/LongIntMap", [("keys", "[J", .ref 1), ("values", "[I", .ref 2), ("size", "I", .int (Int32.ofNat (own_occ t4).length))]), .inr (.long, (own_ks t4)), .inr (.int, (own_vs t4)), .inr (.long, (own_rs (own_occ t4) 0))] _
            refine Go.ifT d0_277 j0_277 (XT.i0_ne_t hzz14) ?_
            refine Go.iload d0_282 rfl ?_
            refine Go.iconst d0_284 (v := 2) rfl ?_
            refine Go.icmpF d0_285 (XT.ii_le_f (by decide)) ?_
            refine Go.aload d0_288 rfl rfl ?_
            refine Go.lload d0_290 rfl ?_
            obtain ⟨z15, hzz15, ghz15⟩ := go_has K hw ((own_occ t4).map (fun x => x.1)) (by rw [List.length_map]; omega) k2 (own_mem_occ ((mm4 _).mpr (Or.inr ((mm3 _).mpr (Or.inl rfl))))) [.inl ("com/example/subsume/subsume/LongIntMap", [("keys", "[J", .ref 1), ("values", "[I", .ref 2), ("size", "I", .int (Int32.ofNat (own_occ t4).length))]), .inr (.long, (own_ks t4)), .inr (.int, (own_vs t4)), .inr (.long, (own_rs (own_occ t4) 0))] (by rw [← own_rs0]; rfl)
            refine Go.callS (M' := m8) d0_292 (hw _ (List.mem_of_getElem? (i := 40) rfl)) (hw _ (List.mem_of_getElem? (i := 41) rfl)) (hw _ (List.mem_of_getElem? (i := 42) rfl)) (hw _ (List.mem_of_getElem? (i := 43) rfl)) mi8 (as := [.ref 3, .long k2]) rfl rfl (st := []) rfl (ls1 := [.val (.ref 3), .val (.long k2), .second]) rfl (W := 0) rfl (by decide) (by decide) ghz15 12 152 (by decide) (by decide) ?_
            show Go _ _ _ _ 295 [.val (.long x0), .second, .val (.long x1), .second, .val (.long x2), .second, .val (.long x3), .second, .val (.int x4), .val (.int x5), .val (.long k0), .second, .val (.long k1), .second, .val (.long k2), .second, .val (.long k3), .second, .val (.int 4), .val (.int (x5 &&& 2147483647)), .val (.ref 0), .val (.ref 3), .val (.int 2)] [.int z15] [.inl ("com/example/subsume/subsume/LongIntMap", [("keys", "[J", .ref 1), ("values", "[I", .ref 2), ("size", "I", .int (Int32.ofNat (own_occ t4).length))]), .inr (.long, (own_ks t4)), .inr (.int, (own_vs t4)), .inr (.long, (own_rs (own_occ t4) 0))] _
            refine Go.ifT d0_295 j0_295 (XT.i0_ne_t hzz15) ?_
            refine Go.iload d0_300 rfl ?_
            refine Go.iconst d0_302 (v := 3) rfl ?_
            refine Go.icmpF d0_303 (XT.ii_le_f (by decide)) ?_
            refine Go.aload d0_306 rfl rfl ?_
            refine Go.lload d0_308 rfl ?_
            obtain ⟨z16, hzz16, ghz16⟩ := go_has K hw ((own_occ t4).map (fun x => x.1)) (by rw [List.length_map]; omega) k3 (own_mem_occ ((mm4 _).mpr (Or.inl rfl))) [.inl ("com/example/subsume/subsume/LongIntMap", [("keys", "[J", .ref 1), ("values", "[I", .ref 2), ("size", "I", .int (Int32.ofNat (own_occ t4).length))]), .inr (.long, (own_ks t4)), .inr (.int, (own_vs t4)), .inr (.long, (own_rs (own_occ t4) 0))] (by rw [← own_rs0]; rfl)
            refine Go.callS (M' := m8) d0_310 (hw _ (List.mem_of_getElem? (i := 40) rfl)) (hw _ (List.mem_of_getElem? (i := 41) rfl)) (hw _ (List.mem_of_getElem? (i := 42) rfl)) (hw _ (List.mem_of_getElem? (i := 43) rfl)) mi8 (as := [.ref 3, .long k3]) rfl rfl (st := []) rfl (ls1 := [.val (.ref 3), .val (.long k3), .second]) rfl (W := 0) rfl (by decide) (by decide) ghz16 12 152 (by decide) (by decide) ?_
            show Go _ _ _ _ 313 [.val (.long x0), .second, .val (.long x1), .second, .val (.long x2), .second, .val (.long x3), .second, .val (.int x4), .val (.int x5), .val (.long k0), .second, .val (.long k1), .second, .val (.long k2), .second, .val (.long k3), .second, .val (.int 4), .val (.int (x5 &&& 2147483647)), .val (.ref 0), .val (.ref 3), .val (.int 2)] [.int z16] [.inl ("com/example/subsume/subsume/LongIntMap", [("keys", "[J", .ref 1), ("values", "[I", .ref 2), ("size", "I", .int (Int32.ofNat (own_occ t4).length))]), .inr (.long, (own_ks t4)), .inr (.int, (own_vs t4)), .inr (.long, (own_rs (own_occ t4) 0))] _
            refine Go.ifT d0_313 j0_313 (XT.i0_ne_t hzz16) ?_
            refine Go.iconst d0_318 (v := 1) rfl ?_
            exact Go.ireturnZ d0_319 rfl (by decide) rfl HOk.any
    · -- pc 190 not taken
      refine Go.lload d0_193 rfl ?_
      refine Go.lload d0_195 rfl ?_
      refine Go.lcmp d0_197 ?_
      refine Go.lif_eq d0_198 j0_198 (fun h198 => ?_) (fun h198 => ?_)
      · -- pc 198 taken
        refine Go.iload d0_204 rfl ?_
        refine Go.iconst d0_206 (v := 3) rfl ?_
        refine Go.icmpF d0_207 (XT.ii_le_f (by decide)) ?_
        refine Go.lload d0_210 rfl ?_
        refine Go.lload d0_212 rfl ?_
        refine Go.lcmp d0_214 ?_
        refine Go.lif_eq d0_215 j0_215 (fun h215 => ?_) (fun h215 => ?_)
        · -- pc 215 taken
          have L1 : (own_occ t1).length = 1 := (ln1 (fun z => by
              exact mm0 _ z)).trans (congrArg (· + 1) le0)
          have L2 : (own_occ t2).length = 1 := (le2 (by rw [h173]; exact ((mm1 _).mpr (Or.inl rfl)))).trans L1
          have L3 : (own_occ t3).length = 1 := (le3 (by rw [h198]; exact ((mm2 _).mpr (Or.inl rfl)))).trans L2
          have L4 : (own_occ t4).length = 1 := (le4 (by rw [h215]; exact ((mm3 _).mpr (Or.inr ((mm2 _).mpr (Or.inr ((mm1 _).mpr (Or.inl rfl)))))))).trans L3
          refine Go.aload d0_237 rfl rfl ?_
          refine Go.arraylength d0_239 rfl (z := 1) (own_rlen L4 rfl) ?_
          refine Go.iload d0_240 rfl ?_
          refine Go.icmpT d0_242 j0_242 (XT.ii_eq_t (by decide)) ?_
          refine Go.iload d0_247 rfl ?_
          refine Go.ifF d0_249 (XT.i0_le_f (by decide)) ?_
          refine Go.aload d0_252 rfl rfl ?_
          refine Go.lload d0_254 rfl ?_
          obtain ⟨z17, hzz17, ghz17⟩ := go_has K hw ((own_occ t4).map (fun x => x.1)) (by rw [List.length_map]; omega) k0 (own_mem_occ ((mm4 _).mpr (Or.inr ((mm3 _).mpr (Or.inr ((mm2 _).mpr (Or.inr ((mm1 _).mpr (Or.inl rfl))))))))) [.inl ("com/example/subsume/subsume/LongIntMap", [("keys", "[J", .ref 1), ("values", "[I", .ref 2), ("size", "I", .int (Int32.ofNat (own_occ t4).length))]), .inr (.long, (own_ks t4)), .inr (.int, (own_vs t4)), .inr (.long, (own_rs (own_occ t4) 0))] (by rw [← own_rs0]; rfl)
          refine Go.callS (M' := m8) d0_256 (hw _ (List.mem_of_getElem? (i := 40) rfl)) (hw _ (List.mem_of_getElem? (i := 41) rfl)) (hw _ (List.mem_of_getElem? (i := 42) rfl)) (hw _ (List.mem_of_getElem? (i := 43) rfl)) mi8 (as := [.ref 3, .long k0]) rfl rfl (st := []) rfl (ls1 := [.val (.ref 3), .val (.long k0), .second]) rfl (W := 0) rfl (by decide) (by decide) ghz17 12 152 (by decide) (by decide) ?_
          show Go _ _ _ _ 259 [.val (.long x0), .second, .val (.long x1), .second, .val (.long x2), .second, .val (.long x3), .second, .val (.int x4), .val (.int x5), .val (.long k0), .second, .val (.long k1), .second, .val (.long k2), .second, .val (.long k3), .second, .val (.int 4), .val (.int (x5 &&& 2147483647)), .val (.ref 0), .val (.ref 3), .val (.int 1)] [.int z17] [.inl ("com/example/subsume/subsume/LongIntMap", [("keys", "[J", .ref 1), ("values", "[I", .ref 2), ("size", "I", .int (Int32.ofNat (own_occ t4).length))]), .inr (.long, (own_ks t4)), .inr (.int, (own_vs t4)), .inr (.long, (own_rs (own_occ t4) 0))] _
          refine Go.ifT d0_259 j0_259 (XT.i0_ne_t hzz17) ?_
          refine Go.iload d0_264 rfl ?_
          refine Go.iconst d0_266 (v := 1) rfl ?_
          refine Go.icmpF d0_267 (XT.ii_le_f (by decide)) ?_
          refine Go.aload d0_270 rfl rfl ?_
          refine Go.lload d0_272 rfl ?_
          obtain ⟨z18, hzz18, ghz18⟩ := go_has K hw ((own_occ t4).map (fun x => x.1)) (by rw [List.length_map]; omega) k1 (own_mem_occ ((mm4 _).mpr (Or.inr ((mm3 _).mpr (Or.inr ((mm2 _).mpr (Or.inl rfl))))))) [.inl ("com/example/subsume/subsume/LongIntMap", [("keys", "[J", .ref 1), ("values", "[I", .ref 2), ("size", "I", .int (Int32.ofNat (own_occ t4).length))]), .inr (.long, (own_ks t4)), .inr (.int, (own_vs t4)), .inr (.long, (own_rs (own_occ t4) 0))] (by rw [← own_rs0]; rfl)
          refine Go.callS (M' := m8) d0_274 (hw _ (List.mem_of_getElem? (i := 40) rfl)) (hw _ (List.mem_of_getElem? (i := 41) rfl)) (hw _ (List.mem_of_getElem? (i := 42) rfl)) (hw _ (List.mem_of_getElem? (i := 43) rfl)) mi8 (as := [.ref 3, .long k1]) rfl rfl (st := []) rfl (ls1 := [.val (.ref 3), .val (.long k1), .second]) rfl (W := 0) rfl (by decide) (by decide) ghz18 12 152 (by decide) (by decide) ?_
          show Go _ _ _ _ 277 [.val (.long x0), .second, .val (.long x1), .second, .val (.long x2), .second, .val (.long x3), .second, .val (.int x4), .val (.int x5), .val (.long k0), .second, .val (.long k1), .second, .val (.long k2), .second, .val (.long k3), .second, .val (.int 4), .val (.int (x5 &&& 2147483647)), .val (.ref 0), .val (.ref 3), .val (.int 1)] [.int z18] [.inl ("com/example/subsume/subsume/LongIntMap", [("keys", "[J", .ref 1), ("values", "[I", .ref 2), ("size", "I", .int (Int32.ofNat (own_occ t4).length))]), .inr (.long, (own_ks t4)), .inr (.int, (own_vs t4)), .inr (.long, (own_rs (own_occ t4) 0))] _
          refine Go.ifT d0_277 j0_277 (XT.i0_ne_t hzz18) ?_
          refine Go.iload d0_282 rfl ?_
          refine Go.iconst d0_284 (v := 2) rfl ?_
          refine Go.icmpF d0_285 (XT.ii_le_f (by decide)) ?_
          refine Go.aload d0_288 rfl rfl ?_
          refine Go.lload d0_290 rfl ?_
          obtain ⟨z19, hzz19, ghz19⟩ := go_has K hw ((own_occ t4).map (fun x => x.1)) (by rw [List.length_map]; omega) k2 (own_mem_occ ((mm4 _).mpr (Or.inr ((mm3 _).mpr (Or.inl rfl))))) [.inl ("com/example/subsume/subsume/LongIntMap", [("keys", "[J", .ref 1), ("values", "[I", .ref 2), ("size", "I", .int (Int32.ofNat (own_occ t4).length))]), .inr (.long, (own_ks t4)), .inr (.int, (own_vs t4)), .inr (.long, (own_rs (own_occ t4) 0))] (by rw [← own_rs0]; rfl)
          refine Go.callS (M' := m8) d0_292 (hw _ (List.mem_of_getElem? (i := 40) rfl)) (hw _ (List.mem_of_getElem? (i := 41) rfl)) (hw _ (List.mem_of_getElem? (i := 42) rfl)) (hw _ (List.mem_of_getElem? (i := 43) rfl)) mi8 (as := [.ref 3, .long k2]) rfl rfl (st := []) rfl (ls1 := [.val (.ref 3), .val (.long k2), .second]) rfl (W := 0) rfl (by decide) (by decide) ghz19 12 152 (by decide) (by decide) ?_
          show Go _ _ _ _ 295 [.val (.long x0), .second, .val (.long x1), .second, .val (.long x2), .second, .val (.long x3), .second, .val (.int x4), .val (.int x5), .val (.long k0), .second, .val (.long k1), .second, .val (.long k2), .second, .val (.long k3), .second, .val (.int 4), .val (.int (x5 &&& 2147483647)), .val (.ref 0), .val (.ref 3), .val (.int 1)] [.int z19] [.inl ("com/example/subsume/subsume/LongIntMap", [("keys", "[J", .ref 1), ("values", "[I", .ref 2), ("size", "I", .int (Int32.ofNat (own_occ t4).length))]), .inr (.long, (own_ks t4)), .inr (.int, (own_vs t4)), .inr (.long, (own_rs (own_occ t4) 0))] _
          refine Go.ifT d0_295 j0_295 (XT.i0_ne_t hzz19) ?_
          refine Go.iload d0_300 rfl ?_
          refine Go.iconst d0_302 (v := 3) rfl ?_
          refine Go.icmpF d0_303 (XT.ii_le_f (by decide)) ?_
          refine Go.aload d0_306 rfl rfl ?_
          refine Go.lload d0_308 rfl ?_
          obtain ⟨z20, hzz20, ghz20⟩ := go_has K hw ((own_occ t4).map (fun x => x.1)) (by rw [List.length_map]; omega) k3 (own_mem_occ ((mm4 _).mpr (Or.inl rfl))) [.inl ("com/example/subsume/subsume/LongIntMap", [("keys", "[J", .ref 1), ("values", "[I", .ref 2), ("size", "I", .int (Int32.ofNat (own_occ t4).length))]), .inr (.long, (own_ks t4)), .inr (.int, (own_vs t4)), .inr (.long, (own_rs (own_occ t4) 0))] (by rw [← own_rs0]; rfl)
          refine Go.callS (M' := m8) d0_310 (hw _ (List.mem_of_getElem? (i := 40) rfl)) (hw _ (List.mem_of_getElem? (i := 41) rfl)) (hw _ (List.mem_of_getElem? (i := 42) rfl)) (hw _ (List.mem_of_getElem? (i := 43) rfl)) mi8 (as := [.ref 3, .long k3]) rfl rfl (st := []) rfl (ls1 := [.val (.ref 3), .val (.long k3), .second]) rfl (W := 0) rfl (by decide) (by decide) ghz20 12 152 (by decide) (by decide) ?_
          show Go _ _ _ _ 313 [.val (.long x0), .second, .val (.long x1), .second, .val (.long x2), .second, .val (.long x3), .second, .val (.int x4), .val (.int x5), .val (.long k0), .second, .val (.long k1), .second, .val (.long k2), .second, .val (.long k3), .second, .val (.int 4), .val (.int (x5 &&& 2147483647)), .val (.ref 0), .val (.ref 3), .val (.int 1)] [.int z20] [.inl ("com/example/subsume/subsume/LongIntMap", [("keys", "[J", .ref 1), ("values", "[I", .ref 2), ("size", "I", .int (Int32.ofNat (own_occ t4).length))]), .inr (.long, (own_ks t4)), .inr (.int, (own_vs t4)), .inr (.long, (own_rs (own_occ t4) 0))] _
          refine Go.ifT d0_313 j0_313 (XT.i0_ne_t hzz20) ?_
          refine Go.iconst d0_318 (v := 1) rfl ?_
          exact Go.ireturnZ d0_319 rfl (by decide) rfl HOk.any
        · -- pc 215 not taken
          refine Go.lload d0_218 rfl ?_
          refine Go.lload d0_220 rfl ?_
          refine Go.lcmp d0_222 ?_
          refine Go.lif_eq d0_223 j0_223 (fun h223 => ?_) (fun h223 => ?_)
          · -- pc 223 taken
            have L1 : (own_occ t1).length = 1 := (ln1 (fun z => by
                exact mm0 _ z)).trans (congrArg (· + 1) le0)
            have L2 : (own_occ t2).length = 1 := (le2 (by rw [h173]; exact ((mm1 _).mpr (Or.inl rfl)))).trans L1
            have L3 : (own_occ t3).length = 1 := (le3 (by rw [h198]; exact ((mm2 _).mpr (Or.inl rfl)))).trans L2
            have L4 : (own_occ t4).length = 1 := (le4 (by rw [h223]; exact ((mm3 _).mpr (Or.inr ((mm2 _).mpr (Or.inl rfl)))))).trans L3
            refine Go.aload d0_237 rfl rfl ?_
            refine Go.arraylength d0_239 rfl (z := 1) (own_rlen L4 rfl) ?_
            refine Go.iload d0_240 rfl ?_
            refine Go.icmpT d0_242 j0_242 (XT.ii_eq_t (by decide)) ?_
            refine Go.iload d0_247 rfl ?_
            refine Go.ifF d0_249 (XT.i0_le_f (by decide)) ?_
            refine Go.aload d0_252 rfl rfl ?_
            refine Go.lload d0_254 rfl ?_
            obtain ⟨z21, hzz21, ghz21⟩ := go_has K hw ((own_occ t4).map (fun x => x.1)) (by rw [List.length_map]; omega) k0 (own_mem_occ ((mm4 _).mpr (Or.inr ((mm3 _).mpr (Or.inr ((mm2 _).mpr (Or.inr ((mm1 _).mpr (Or.inl rfl))))))))) [.inl ("com/example/subsume/subsume/LongIntMap", [("keys", "[J", .ref 1), ("values", "[I", .ref 2), ("size", "I", .int (Int32.ofNat (own_occ t4).length))]), .inr (.long, (own_ks t4)), .inr (.int, (own_vs t4)), .inr (.long, (own_rs (own_occ t4) 0))] (by rw [← own_rs0]; rfl)
            refine Go.callS (M' := m8) d0_256 (hw _ (List.mem_of_getElem? (i := 40) rfl)) (hw _ (List.mem_of_getElem? (i := 41) rfl)) (hw _ (List.mem_of_getElem? (i := 42) rfl)) (hw _ (List.mem_of_getElem? (i := 43) rfl)) mi8 (as := [.ref 3, .long k0]) rfl rfl (st := []) rfl (ls1 := [.val (.ref 3), .val (.long k0), .second]) rfl (W := 0) rfl (by decide) (by decide) ghz21 12 152 (by decide) (by decide) ?_
            show Go _ _ _ _ 259 [.val (.long x0), .second, .val (.long x1), .second, .val (.long x2), .second, .val (.long x3), .second, .val (.int x4), .val (.int x5), .val (.long k0), .second, .val (.long k1), .second, .val (.long k2), .second, .val (.long k3), .second, .val (.int 4), .val (.int (x5 &&& 2147483647)), .val (.ref 0), .val (.ref 3), .val (.int 1)] [.int z21] [.inl ("com/example/subsume/subsume/LongIntMap", [("keys", "[J", .ref 1), ("values", "[I", .ref 2), ("size", "I", .int (Int32.ofNat (own_occ t4).length))]), .inr (.long, (own_ks t4)), .inr (.int, (own_vs t4)), .inr (.long, (own_rs (own_occ t4) 0))] _
            refine Go.ifT d0_259 j0_259 (XT.i0_ne_t hzz21) ?_
            refine Go.iload d0_264 rfl ?_
            refine Go.iconst d0_266 (v := 1) rfl ?_
            refine Go.icmpF d0_267 (XT.ii_le_f (by decide)) ?_
            refine Go.aload d0_270 rfl rfl ?_
            refine Go.lload d0_272 rfl ?_
            obtain ⟨z22, hzz22, ghz22⟩ := go_has K hw ((own_occ t4).map (fun x => x.1)) (by rw [List.length_map]; omega) k1 (own_mem_occ ((mm4 _).mpr (Or.inr ((mm3 _).mpr (Or.inr ((mm2 _).mpr (Or.inl rfl))))))) [.inl ("com/example/subsume/subsume/LongIntMap", [("keys", "[J", .ref 1), ("values", "[I", .ref 2), ("size", "I", .int (Int32.ofNat (own_occ t4).length))]), .inr (.long, (own_ks t4)), .inr (.int, (own_vs t4)), .inr (.long, (own_rs (own_occ t4) 0))] (by rw [← own_rs0]; rfl)
            refine Go.callS (M' := m8) d0_274 (hw _ (List.mem_of_getElem? (i := 40) rfl)) (hw _ (List.mem_of_getElem? (i := 41) rfl)) (hw _ (List.mem_of_getElem? (i := 42) rfl)) (hw _ (List.mem_of_getElem? (i := 43) rfl)) mi8 (as := [.ref 3, .long k1]) rfl rfl (st := []) rfl (ls1 := [.val (.ref 3), .val (.long k1), .second]) rfl (W := 0) rfl (by decide) (by decide) ghz22 12 152 (by decide) (by decide) ?_
            show Go _ _ _ _ 277 [.val (.long x0), .second, .val (.long x1), .second, .val (.long x2), .second, .val (.long x3), .second, .val (.int x4), .val (.int x5), .val (.long k0), .second, .val (.long k1), .second, .val (.long k2), .second, .val (.long k3), .second, .val (.int 4), .val (.int (x5 &&& 2147483647)), .val (.ref 0), .val (.ref 3), .val (.int 1)] [.int z22] [.inl ("com/example/subsume/subsume/LongIntMap", [("keys", "[J", .ref 1), ("values", "[I", .ref 2), ("size", "I", .int (Int32.ofNat (own_occ t4).length))]), .inr (.long, (own_ks t4)), .inr (.int, (own_vs t4)), .inr (.long, (own_rs (own_occ t4) 0))] _
            refine Go.ifT d0_277 j0_277 (XT.i0_ne_t hzz22) ?_
            refine Go.iload d0_282 rfl ?_
            refine Go.iconst d0_284 (v := 2) rfl ?_
            refine Go.icmpF d0_285 (XT.ii_le_f (by decide)) ?_
            refine Go.aload d0_288 rfl rfl ?_
            refine Go.lload d0_290 rfl ?_
            obtain ⟨z23, hzz23, ghz23⟩ := go_has K hw ((own_occ t4).map (fun x => x.1)) (by rw [List.length_map]; omega) k2 (own_mem_occ ((mm4 _).mpr (Or.inr ((mm3 _).mpr (Or.inl rfl))))) [.inl ("com/example/subsume/subsume/LongIntMap", [("keys", "[J", .ref 1), ("values", "[I", .ref 2), ("size", "I", .int (Int32.ofNat (own_occ t4).length))]), .inr (.long, (own_ks t4)), .inr (.int, (own_vs t4)), .inr (.long, (own_rs (own_occ t4) 0))] (by rw [← own_rs0]; rfl)
            refine Go.callS (M' := m8) d0_292 (hw _ (List.mem_of_getElem? (i := 40) rfl)) (hw _ (List.mem_of_getElem? (i := 41) rfl)) (hw _ (List.mem_of_getElem? (i := 42) rfl)) (hw _ (List.mem_of_getElem? (i := 43) rfl)) mi8 (as := [.ref 3, .long k2]) rfl rfl (st := []) rfl (ls1 := [.val (.ref 3), .val (.long k2), .second]) rfl (W := 0) rfl (by decide) (by decide) ghz23 12 152 (by decide) (by decide) ?_
            show Go _ _ _ _ 295 [.val (.long x0), .second, .val (.long x1), .second, .val (.long x2), .second, .val (.long x3), .second, .val (.int x4), .val (.int x5), .val (.long k0), .second, .val (.long k1), .second, .val (.long k2), .second, .val (.long k3), .second, .val (.int 4), .val (.int (x5 &&& 2147483647)), .val (.ref 0), .val (.ref 3), .val (.int 1)] [.int z23] [.inl ("com/example/subsume/subsume/LongIntMap", [("keys", "[J", .ref 1), ("values", "[I", .ref 2), ("size", "I", .int (Int32.ofNat (own_occ t4).length))]), .inr (.long, (own_ks t4)), .inr (.int, (own_vs t4)), .inr (.long, (own_rs (own_occ t4) 0))] _
            refine Go.ifT d0_295 j0_295 (XT.i0_ne_t hzz23) ?_
            refine Go.iload d0_300 rfl ?_
            refine Go.iconst d0_302 (v := 3) rfl ?_
            refine Go.icmpF d0_303 (XT.ii_le_f (by decide)) ?_
            refine Go.aload d0_306 rfl rfl ?_
            refine Go.lload d0_308 rfl ?_
            obtain ⟨z24, hzz24, ghz24⟩ := go_has K hw ((own_occ t4).map (fun x => x.1)) (by rw [List.length_map]; omega) k3 (own_mem_occ ((mm4 _).mpr (Or.inl rfl))) [.inl ("com/example/subsume/subsume/LongIntMap", [("keys", "[J", .ref 1), ("values", "[I", .ref 2), ("size", "I", .int (Int32.ofNat (own_occ t4).length))]), .inr (.long, (own_ks t4)), .inr (.int, (own_vs t4)), .inr (.long, (own_rs (own_occ t4) 0))] (by rw [← own_rs0]; rfl)
            refine Go.callS (M' := m8) d0_310 (hw _ (List.mem_of_getElem? (i := 40) rfl)) (hw _ (List.mem_of_getElem? (i := 41) rfl)) (hw _ (List.mem_of_getElem? (i := 42) rfl)) (hw _ (List.mem_of_getElem? (i := 43) rfl)) mi8 (as := [.ref 3, .long k3]) rfl rfl (st := []) rfl (ls1 := [.val (.ref 3), .val (.long k3), .second]) rfl (W := 0) rfl (by decide) (by decide) ghz24 12 152 (by decide) (by decide) ?_
            show Go _ _ _ _ 313 [.val (.long x0), .second, .val (.long x1), .second, .val (.long x2), .second, .val (.long x3), .second, .val (.int x4), .val (.int x5), .val (.long k0), .second, .val (.long k1), .second, .val (.long k2), .second, .val (.long k3), .second, .val (.int 4), .val (.int (x5 &&& 2147483647)), .val (.ref 0), .val (.ref 3), .val (.int 1)] [.int z24] [.inl ("com/example/subsume/subsume/LongIntMap", [("keys", "[J", .ref 1), ("values", "[I", .ref 2), ("size", "I", .int (Int32.ofNat (own_occ t4).length))]), .inr (.long, (own_ks t4)), .inr (.int, (own_vs t4)), .inr (.long, (own_rs (own_occ t4) 0))] _
            refine Go.ifT d0_313 j0_313 (XT.i0_ne_t hzz24) ?_
            refine Go.iconst d0_318 (v := 1) rfl ?_
            exact Go.ireturnZ d0_319 rfl (by decide) rfl HOk.any
          · -- pc 223 not taken
            refine Go.lload d0_226 rfl ?_
            refine Go.lload d0_228 rfl ?_
            refine Go.lcmp d0_230 ?_
            refine Go.lif_eq d0_231 j0_231 (fun h231 => ?_) (fun h231 => ?_)
            · -- pc 231 taken
              have L1 : (own_occ t1).length = 1 := (ln1 (fun z => by
                  exact mm0 _ z)).trans (congrArg (· + 1) le0)
              have L2 : (own_occ t2).length = 1 := (le2 (by rw [h173]; exact ((mm1 _).mpr (Or.inl rfl)))).trans L1
              have L3 : (own_occ t3).length = 1 := (le3 (by rw [h198]; exact ((mm2 _).mpr (Or.inl rfl)))).trans L2
              have L4 : (own_occ t4).length = 1 := (le4 (by rw [h231]; exact ((mm3 _).mpr (Or.inl rfl)))).trans L3
              refine Go.aload d0_237 rfl rfl ?_
              refine Go.arraylength d0_239 rfl (z := 1) (own_rlen L4 rfl) ?_
              refine Go.iload d0_240 rfl ?_
              refine Go.icmpT d0_242 j0_242 (XT.ii_eq_t (by decide)) ?_
              refine Go.iload d0_247 rfl ?_
              refine Go.ifF d0_249 (XT.i0_le_f (by decide)) ?_
              refine Go.aload d0_252 rfl rfl ?_
              refine Go.lload d0_254 rfl ?_
              obtain ⟨z25, hzz25, ghz25⟩ := go_has K hw ((own_occ t4).map (fun x => x.1)) (by rw [List.length_map]; omega) k0 (own_mem_occ ((mm4 _).mpr (Or.inr ((mm3 _).mpr (Or.inr ((mm2 _).mpr (Or.inr ((mm1 _).mpr (Or.inl rfl))))))))) [.inl ("com/example/subsume/subsume/LongIntMap", [("keys", "[J", .ref 1), ("values", "[I", .ref 2), ("size", "I", .int (Int32.ofNat (own_occ t4).length))]), .inr (.long, (own_ks t4)), .inr (.int, (own_vs t4)), .inr (.long, (own_rs (own_occ t4) 0))] (by rw [← own_rs0]; rfl)
              refine Go.callS (M' := m8) d0_256 (hw _ (List.mem_of_getElem? (i := 40) rfl)) (hw _ (List.mem_of_getElem? (i := 41) rfl)) (hw _ (List.mem_of_getElem? (i := 42) rfl)) (hw _ (List.mem_of_getElem? (i := 43) rfl)) mi8 (as := [.ref 3, .long k0]) rfl rfl (st := []) rfl (ls1 := [.val (.ref 3), .val (.long k0), .second]) rfl (W := 0) rfl (by decide) (by decide) ghz25 12 152 (by decide) (by decide) ?_
              show Go _ _ _ _ 259 [.val (.long x0), .second, .val (.long x1), .second, .val (.long x2), .second, .val (.long x3), .second, .val (.int x4), .val (.int x5), .val (.long k0), .second, .val (.long k1), .second, .val (.long k2), .second, .val (.long k3), .second, .val (.int 4), .val (.int (x5 &&& 2147483647)), .val (.ref 0), .val (.ref 3), .val (.int 1)] [.int z25] [.inl ("com/example/subsume/subsume/LongIntMap", [("keys", "[J", .ref 1), ("values", "[I", .ref 2), ("size", "I", .int (Int32.ofNat (own_occ t4).length))]), .inr (.long, (own_ks t4)), .inr (.int, (own_vs t4)), .inr (.long, (own_rs (own_occ t4) 0))] _
              refine Go.ifT d0_259 j0_259 (XT.i0_ne_t hzz25) ?_
              refine Go.iload d0_264 rfl ?_
              refine Go.iconst d0_266 (v := 1) rfl ?_
              refine Go.icmpF d0_267 (XT.ii_le_f (by decide)) ?_
              refine Go.aload d0_270 rfl rfl ?_
              refine Go.lload d0_272 rfl ?_
              obtain ⟨z26, hzz26, ghz26⟩ := go_has K hw ((own_occ t4).map (fun x => x.1)) (by rw [List.length_map]; omega) k1 (own_mem_occ ((mm4 _).mpr (Or.inr ((mm3 _).mpr (Or.inr ((mm2 _).mpr (Or.inl rfl))))))) [.inl ("com/example/subsume/subsume/LongIntMap", [("keys", "[J", .ref 1), ("values", "[I", .ref 2), ("size", "I", .int (Int32.ofNat (own_occ t4).length))]), .inr (.long, (own_ks t4)), .inr (.int, (own_vs t4)), .inr (.long, (own_rs (own_occ t4) 0))] (by rw [← own_rs0]; rfl)
              refine Go.callS (M' := m8) d0_274 (hw _ (List.mem_of_getElem? (i := 40) rfl)) (hw _ (List.mem_of_getElem? (i := 41) rfl)) (hw _ (List.mem_of_getElem? (i := 42) rfl)) (hw _ (List.mem_of_getElem? (i := 43) rfl)) mi8 (as := [.ref 3, .long k1]) rfl rfl (st := []) rfl (ls1 := [.val (.ref 3), .val (.long k1), .second]) rfl (W := 0) rfl (by decide) (by decide) ghz26 12 152 (by decide) (by decide) ?_
              show Go _ _ _ _ 277 [.val (.long x0), .second, .val (.long x1), .second, .val (.long x2), .second, .val (.long x3), .second, .val (.int x4), .val (.int x5), .val (.long k0), .second, .val (.long k1), .second, .val (.long k2), .second, .val (.long k3), .second, .val (.int 4), .val (.int (x5 &&& 2147483647)), .val (.ref 0), .val (.ref 3), .val (.int 1)] [.int z26] [.inl ("com/example/subsume/subsume/LongIntMap", [("keys", "[J", .ref 1), ("values", "[I", .ref 2), ("size", "I", .int (Int32.ofNat (own_occ t4).length))]), .inr (.long, (own_ks t4)), .inr (.int, (own_vs t4)), .inr (.long, (own_rs (own_occ t4) 0))] _
              refine Go.ifT d0_277 j0_277 (XT.i0_ne_t hzz26) ?_
              refine Go.iload d0_282 rfl ?_
              refine Go.iconst d0_284 (v := 2) rfl ?_
              refine Go.icmpF d0_285 (XT.ii_le_f (by decide)) ?_
              refine Go.aload d0_288 rfl rfl ?_
              refine Go.lload d0_290 rfl ?_
              obtain ⟨z27, hzz27, ghz27⟩ := go_has K hw ((own_occ t4).map (fun x => x.1)) (by rw [List.length_map]; omega) k2 (own_mem_occ ((mm4 _).mpr (Or.inr ((mm3 _).mpr (Or.inl rfl))))) [.inl ("com/example/subsume/subsume/LongIntMap", [("keys", "[J", .ref 1), ("values", "[I", .ref 2), ("size", "I", .int (Int32.ofNat (own_occ t4).length))]), .inr (.long, (own_ks t4)), .inr (.int, (own_vs t4)), .inr (.long, (own_rs (own_occ t4) 0))] (by rw [← own_rs0]; rfl)
              refine Go.callS (M' := m8) d0_292 (hw _ (List.mem_of_getElem? (i := 40) rfl)) (hw _ (List.mem_of_getElem? (i := 41) rfl)) (hw _ (List.mem_of_getElem? (i := 42) rfl)) (hw _ (List.mem_of_getElem? (i := 43) rfl)) mi8 (as := [.ref 3, .long k2]) rfl rfl (st := []) rfl (ls1 := [.val (.ref 3), .val (.long k2), .second]) rfl (W := 0) rfl (by decide) (by decide) ghz27 12 152 (by decide) (by decide) ?_
              show Go _ _ _ _ 295 [.val (.long x0), .second, .val (.long x1), .second, .val (.long x2), .second, .val (.long x3), .second, .val (.int x4), .val (.int x5), .val (.long k0), .second, .val (.long k1), .second, .val (.long k2), .second, .val (.long k3), .second, .val (.int 4), .val (.int (x5 &&& 2147483647)), .val (.ref 0), .val (.ref 3), .val (.int 1)] [.int z27] [.inl ("com/example/subsume/subsume/LongIntMap", [("keys", "[J", .ref 1), ("values", "[I", .ref 2), ("size", "I", .int (Int32.ofNat (own_occ t4).length))]), .inr (.long, (own_ks t4)), .inr (.int, (own_vs t4)), .inr (.long, (own_rs (own_occ t4) 0))] _
              refine Go.ifT d0_295 j0_295 (XT.i0_ne_t hzz27) ?_
              refine Go.iload d0_300 rfl ?_
              refine Go.iconst d0_302 (v := 3) rfl ?_
              refine Go.icmpF d0_303 (XT.ii_le_f (by decide)) ?_
              refine Go.aload d0_306 rfl rfl ?_
              refine Go.lload d0_308 rfl ?_
              obtain ⟨z28, hzz28, ghz28⟩ := go_has K hw ((own_occ t4).map (fun x => x.1)) (by rw [List.length_map]; omega) k3 (own_mem_occ ((mm4 _).mpr (Or.inl rfl))) [.inl ("com/example/subsume/subsume/LongIntMap", [("keys", "[J", .ref 1), ("values", "[I", .ref 2), ("size", "I", .int (Int32.ofNat (own_occ t4).length))]), .inr (.long, (own_ks t4)), .inr (.int, (own_vs t4)), .inr (.long, (own_rs (own_occ t4) 0))] (by rw [← own_rs0]; rfl)
              refine Go.callS (M' := m8) d0_310 (hw _ (List.mem_of_getElem? (i := 40) rfl)) (hw _ (List.mem_of_getElem? (i := 41) rfl)) (hw _ (List.mem_of_getElem? (i := 42) rfl)) (hw _ (List.mem_of_getElem? (i := 43) rfl)) mi8 (as := [.ref 3, .long k3]) rfl rfl (st := []) rfl (ls1 := [.val (.ref 3), .val (.long k3), .second]) rfl (W := 0) rfl (by decide) (by decide) ghz28 12 152 (by decide) (by decide) ?_
              show Go _ _ _ _ 313 [.val (.long x0), .second, .val (.long x1), .second, .val (.long x2), .second, .val (.long x3), .second, .val (.int x4), .val (.int x5), .val (.long k0), .second, .val (.long k1), .second, .val (.long k2), .second, .val (.long k3), .second, .val (.int 4), .val (.int (x5 &&& 2147483647)), .val (.ref 0), .val (.ref 3), .val (.int 1)] [.int z28] [.inl ("com/example/subsume/subsume/LongIntMap", [("keys", "[J", .ref 1), ("values", "[I", .ref 2), ("size", "I", .int (Int32.ofNat (own_occ t4).length))]), .inr (.long, (own_ks t4)), .inr (.int, (own_vs t4)), .inr (.long, (own_rs (own_occ t4) 0))] _
              refine Go.ifT d0_313 j0_313 (XT.i0_ne_t hzz28) ?_
              refine Go.iconst d0_318 (v := 1) rfl ?_
              exact Go.ireturnZ d0_319 rfl (by decide) rfl HOk.any
            · -- pc 231 not taken
              refine Go.iinc d0_234 (v := 1) rfl rfl (ls' := [.val (.long x0), .second, .val (.long x1), .second, .val (.long x2), .second, .val (.long x3), .second, .val (.int x4), .val (.int x5), .val (.long k0), .second, .val (.long k1), .second, .val (.long k2), .second, .val (.long k3), .second, .val (.int 4), .val (.int (x5 &&& 2147483647)), .val (.ref 0), .val (.ref 3), .val (.int 2)]) rfl ?_
              have L1 : (own_occ t1).length = 1 := (ln1 (fun z => by
                  exact mm0 _ z)).trans (congrArg (· + 1) le0)
              have L2 : (own_occ t2).length = 1 := (le2 (by rw [h173]; exact ((mm1 _).mpr (Or.inl rfl)))).trans L1
              have L3 : (own_occ t3).length = 1 := (le3 (by rw [h198]; exact ((mm2 _).mpr (Or.inl rfl)))).trans L2
              have L4 : (own_occ t4).length = 2 := (ln4 (fun z => by
                  rcases (mm3 _).mp z with e | z
                  · exact h231 e
                  rcases (mm2 _).mp z with e | z
                  · exact h223 e
                  rcases (mm1 _).mp z with e | z
                  · exact h215 e
                  exact mm0 _ z)).trans (congrArg (· + 1) L3)
              refine Go.aload d0_237 rfl rfl ?_
              refine Go.arraylength d0_239 rfl (z := 2) (own_rlen L4 rfl) ?_
              refine Go.iload d0_240 rfl ?_
              refine Go.icmpT d0_242 j0_242 (XT.ii_eq_t (by decide)) ?_
              refine Go.iload d0_247 rfl ?_
              refine Go.ifF d0_249 (XT.i0_le_f (by decide)) ?_
              refine Go.aload d0_252 rfl rfl ?_
              refine Go.lload d0_254 rfl ?_
              obtain ⟨z29, hzz29, ghz29⟩ := go_has K hw ((own_occ t4).map (fun x => x.1)) (by rw [List.length_map]; omega) k0 (own_mem_occ ((mm4 _).mpr (Or.inr ((mm3 _).mpr (Or.inr ((mm2 _).mpr (Or.inr ((mm1 _).mpr (Or.inl rfl))))))))) [.inl ("com/example/subsume/subsume/LongIntMap", [("keys", "[J", .ref 1), ("values", "[I", .ref 2), ("size", "I", .int (Int32.ofNat (own_occ t4).length))]), .inr (.long, (own_ks t4)), .inr (.int, (own_vs t4)), .inr (.long, (own_rs (own_occ t4) 0))] (by rw [← own_rs0]; rfl)
              refine Go.callS (M' := m8) d0_256 (hw _ (List.mem_of_getElem? (i := 40) rfl)) (hw _ (List.mem_of_getElem? (i := 41) rfl)) (hw _ (List.mem_of_getElem? (i := 42) rfl)) (hw _ (List.mem_of_getElem? (i := 43) rfl)) mi8 (as := [.ref 3, .long k0]) rfl rfl (st := []) rfl (ls1 := [.val (.ref 3), .val (.long k0), .second]) rfl (W := 0) rfl (by decide) (by decide) ghz29 12 152 (by decide) (by decide) ?_
              show Go _ _ _ _ 259 [.val (.long x0), .second, .val (.long x1), .second, .val (.long x2), .second, .val (.long x3), .second, .val (.int x4), .val (.int x5), .val (.long k0), .second, .val (.long k1), .second, .val (.long k2), .second, .val (.long k3), .second, .val (.int 4), .val (.int (x5 &&& 2147483647)), .val (.ref 0), .val (.ref 3), .val (.int 2)] [.int z29] [.inl ("com/example/subsume/subsume/LongIntMap", [("keys", "[J", .ref 1), ("values", "[I", .ref 2), ("size", "I", .int (Int32.ofNat (own_occ t4).length))]), .inr (.long, (own_ks t4)), .inr (.int, (own_vs t4)), .inr (.long, (own_rs (own_occ t4) 0))] _
              refine Go.ifT d0_259 j0_259 (XT.i0_ne_t hzz29) ?_
              refine Go.iload d0_264 rfl ?_
              refine Go.iconst d0_266 (v := 1) rfl ?_
              refine Go.icmpF d0_267 (XT.ii_le_f (by decide)) ?_
              refine Go.aload d0_270 rfl rfl ?_
              refine Go.lload d0_272 rfl ?_
              obtain ⟨z30, hzz30, ghz30⟩ := go_has K hw ((own_occ t4).map (fun x => x.1)) (by rw [List.length_map]; omega) k1 (own_mem_occ ((mm4 _).mpr (Or.inr ((mm3 _).mpr (Or.inr ((mm2 _).mpr (Or.inl rfl))))))) [.inl ("com/example/subsume/subsume/LongIntMap", [("keys", "[J", .ref 1), ("values", "[I", .ref 2), ("size", "I", .int (Int32.ofNat (own_occ t4).length))]), .inr (.long, (own_ks t4)), .inr (.int, (own_vs t4)), .inr (.long, (own_rs (own_occ t4) 0))] (by rw [← own_rs0]; rfl)
              refine Go.callS (M' := m8) d0_274 (hw _ (List.mem_of_getElem? (i := 40) rfl)) (hw _ (List.mem_of_getElem? (i := 41) rfl)) (hw _ (List.mem_of_getElem? (i := 42) rfl)) (hw _ (List.mem_of_getElem? (i := 43) rfl)) mi8 (as := [.ref 3, .long k1]) rfl rfl (st := []) rfl (ls1 := [.val (.ref 3), .val (.long k1), .second]) rfl (W := 0) rfl (by decide) (by decide) ghz30 12 152 (by decide) (by decide) ?_
              show Go _ _ _ _ 277 [.val (.long x0), .second, .val (.long x1), .second, .val (.long x2), .second, .val (.long x3), .second, .val (.int x4), .val (.int x5), .val (.long k0), .second, .val (.long k1), .second, .val (.long k2), .second, .val (.long k3), .second, .val (.int 4), .val (.int (x5 &&& 2147483647)), .val (.ref 0), .val (.ref 3), .val (.int 2)] [.int z30] [.inl ("com/example/subsume/subsume/LongIntMap", [("keys", "[J", .ref 1), ("values", "[I", .ref 2), ("size", "I", .int (Int32.ofNat (own_occ t4).length))]), .inr (.long, (own_ks t4)), .inr (.int, (own_vs t4)), .inr (.long, (own_rs (own_occ t4) 0))] _
              refine Go.ifT d0_277 j0_277 (XT.i0_ne_t hzz30) ?_
              refine Go.iload d0_282 rfl ?_
              refine Go.iconst d0_284 (v := 2) rfl ?_
              refine Go.icmpF d0_285 (XT.ii_le_f (by decide)) ?_
              refine Go.aload d0_288 rfl rfl ?_
              refine Go.lload d0_290 rfl ?_
              obtain ⟨z31, hzz31, ghz31⟩ := go_has K hw ((own_occ t4).map (fun x => x.1)) (by rw [List.length_map]; omega) k2 (own_mem_occ ((mm4 _).mpr (Or.inr ((mm3 _).mpr (Or.inl rfl))))) [.inl ("com/example/subsume/subsume/LongIntMap", [("keys", "[J", .ref 1), ("values", "[I", .ref 2), ("size", "I", .int (Int32.ofNat (own_occ t4).length))]), .inr (.long, (own_ks t4)), .inr (.int, (own_vs t4)), .inr (.long, (own_rs (own_occ t4) 0))] (by rw [← own_rs0]; rfl)
              refine Go.callS (M' := m8) d0_292 (hw _ (List.mem_of_getElem? (i := 40) rfl)) (hw _ (List.mem_of_getElem? (i := 41) rfl)) (hw _ (List.mem_of_getElem? (i := 42) rfl)) (hw _ (List.mem_of_getElem? (i := 43) rfl)) mi8 (as := [.ref 3, .long k2]) rfl rfl (st := []) rfl (ls1 := [.val (.ref 3), .val (.long k2), .second]) rfl (W := 0) rfl (by decide) (by decide) ghz31 12 152 (by decide) (by decide) ?_
              show Go _ _ _ _ 295 [.val (.long x0), .second, .val (.long x1), .second, .val (.long x2), .second, .val (.long x3), .second, .val (.int x4), .val (.int x5), .val (.long k0), .second, .val (.long k1), .second, .val (.long k2), .second, .val (.long k3), .second, .val (.int 4), .val (.int (x5 &&& 2147483647)), .val (.ref 0), .val (.ref 3), .val (.int 2)] [.int z31] [.inl ("com/example/subsume/subsume/LongIntMap", [("keys", "[J", .ref 1), ("values", "[I", .ref 2), ("size", "I", .int (Int32.ofNat (own_occ t4).length))]), .inr (.long, (own_ks t4)), .inr (.int, (own_vs t4)), .inr (.long, (own_rs (own_occ t4) 0))] _
              refine Go.ifT d0_295 j0_295 (XT.i0_ne_t hzz31) ?_
              refine Go.iload d0_300 rfl ?_
              refine Go.iconst d0_302 (v := 3) rfl ?_
              refine Go.icmpF d0_303 (XT.ii_le_f (by decide)) ?_
              refine Go.aload d0_306 rfl rfl ?_
              refine Go.lload d0_308 rfl ?_
              obtain ⟨z32, hzz32, ghz32⟩ := go_has K hw ((own_occ t4).map (fun x => x.1)) (by rw [List.length_map]; omega) k3 (own_mem_occ ((mm4 _).mpr (Or.inl rfl))) [.inl ("com/example/subsume/subsume/LongIntMap", [("keys", "[J", .ref 1), ("values", "[I", .ref 2), ("size", "I", .int (Int32.ofNat (own_occ t4).length))]), .inr (.long, (own_ks t4)), .inr (.int, (own_vs t4)), .inr (.long, (own_rs (own_occ t4) 0))] (by rw [← own_rs0]; rfl)
              refine Go.callS (M' := m8) d0_310 (hw _ (List.mem_of_getElem? (i := 40) rfl)) (hw _ (List.mem_of_getElem? (i := 41) rfl)) (hw _ (List.mem_of_getElem? (i := 42) rfl)) (hw _ (List.mem_of_getElem? (i := 43) rfl)) mi8 (as := [.ref 3, .long k3]) rfl rfl (st := []) rfl (ls1 := [.val (.ref 3), .val (.long k3), .second]) rfl (W := 0) rfl (by decide) (by decide) ghz32 12 152 (by decide) (by decide) ?_
              show Go _ _ _ _ 313 [.val (.long x0), .second, .val (.long x1), .second, .val (.long x2), .second, .val (.long x3), .second, .val (.int x4), .val (.int x5), .val (.long k0), .second, .val (.long k1), .second, .val (.long k2), .second, .val (.long k3), .second, .val (.int 4), .val (.int (x5 &&& 2147483647)), .val (.ref 0), .val (.ref 3), .val (.int 2)] [.int z32] [.inl ("com/example/subsume/subsume/LongIntMap", [("keys", "[J", .ref 1), ("values", "[I", .ref 2), ("size", "I", .int (Int32.ofNat (own_occ t4).length))]), .inr (.long, (own_ks t4)), .inr (.int, (own_vs t4)), .inr (.long, (own_rs (own_occ t4) 0))] _
              refine Go.ifT d0_313 j0_313 (XT.i0_ne_t hzz32) ?_
              refine Go.iconst d0_318 (v := 1) rfl ?_
              exact Go.ireturnZ d0_319 rfl (by decide) rfl HOk.any
      · -- pc 198 not taken
        refine Go.iinc d0_201 (v := 1) rfl rfl (ls' := [.val (.long x0), .second, .val (.long x1), .second, .val (.long x2), .second, .val (.long x3), .second, .val (.int x4), .val (.int x5), .val (.long k0), .second, .val (.long k1), .second, .val (.long k2), .second, .val (.long k3), .second, .val (.int 4), .val (.int (x5 &&& 2147483647)), .val (.ref 0), .val (.ref 3), .val (.int 2)]) rfl ?_
        refine Go.iload d0_204 rfl ?_
        refine Go.iconst d0_206 (v := 3) rfl ?_
        refine Go.icmpF d0_207 (XT.ii_le_f (by decide)) ?_
        refine Go.lload d0_210 rfl ?_
        refine Go.lload d0_212 rfl ?_
        refine Go.lcmp d0_214 ?_
        refine Go.lif_eq d0_215 j0_215 (fun h215 => ?_) (fun h215 => ?_)
        · -- pc 215 taken
          have L1 : (own_occ t1).length = 1 := (ln1 (fun z => by
              exact mm0 _ z)).trans (congrArg (· + 1) le0)
          have L2 : (own_occ t2).length = 1 := (le2 (by rw [h173]; exact ((mm1 _).mpr (Or.inl rfl)))).trans L1
          have L3 : (own_occ t3).length = 2 := (ln3 (fun z => by
              rcases (mm2 _).mp z with e | z
              · exact h198 e
              rcases (mm1 _).mp z with e | z
              · exact h190 e
              exact mm0 _ z)).trans (congrArg (· + 1) L2)
          have L4 : (own_occ t4).length = 2 := (le4 (by rw [h215]; exact ((mm3 _).mpr (Or.inr ((mm2 _).mpr (Or.inr ((mm1 _).mpr (Or.inl rfl)))))))).trans L3
          refine Go.aload d0_237 rfl rfl ?_
          refine Go.arraylength d0_239 rfl (z := 2) (own_rlen L4 rfl) ?_
          refine Go.iload d0_240 rfl ?_
          refine Go.icmpT d0_242 j0_242 (XT.ii_eq_t (by decide)) ?_
          refine Go.iload d0_247 rfl ?_
          refine Go.ifF d0_249 (XT.i0_le_f (by decide)) ?_
          refine Go.aload d0_252 rfl rfl ?_
          refine Go.lload d0_254 rfl ?_
          obtain ⟨z33, hzz33, ghz33⟩ := go_has K hw ((own_occ t4).map (fun x => x.1)) (by rw [List.length_map]; omega) k0 (own_mem_occ ((mm4 _).mpr (Or.inr ((mm3 _).mpr (Or.inr ((mm2 _).mpr (Or.inr ((mm1 _).mpr (Or.inl rfl))))))))) [.inl ("com/example/subsume/subsume/LongIntMap", [("keys", "[J", .ref 1), ("values", "[I", .ref 2), ("size", "I", .int (Int32.ofNat (own_occ t4).length))]), .inr (.long, (own_ks t4)), .inr (.int, (own_vs t4)), .inr (.long, (own_rs (own_occ t4) 0))] (by rw [← own_rs0]; rfl)
          refine Go.callS (M' := m8) d0_256 (hw _ (List.mem_of_getElem? (i := 40) rfl)) (hw _ (List.mem_of_getElem? (i := 41) rfl)) (hw _ (List.mem_of_getElem? (i := 42) rfl)) (hw _ (List.mem_of_getElem? (i := 43) rfl)) mi8 (as := [.ref 3, .long k0]) rfl rfl (st := []) rfl (ls1 := [.val (.ref 3), .val (.long k0), .second]) rfl (W := 0) rfl (by decide) (by decide) ghz33 12 152 (by decide) (by decide) ?_
          show Go _ _ _ _ 259 [.val (.long x0), .second, .val (.long x1), .second, .val (.long x2), .second, .val (.long x3), .second, .val (.int x4), .val (.int x5), .val (.long k0), .second, .val (.long k1), .second, .val (.long k2), .second, .val (.long k3), .second, .val (.int 4), .val (.int (x5 &&& 2147483647)), .val (.ref 0), .val (.ref 3), .val (.int 2)] [.int z33] [.inl ("com/example/subsume/subsume/LongIntMap", [("keys", "[J", .ref 1), ("values", "[I", .ref 2), ("size", "I", .int (Int32.ofNat (own_occ t4).length))]), .inr (.long, (own_ks t4)), .inr (.int, (own_vs t4)), .inr (.long, (own_rs (own_occ t4) 0))] _
          refine Go.ifT d0_259 j0_259 (XT.i0_ne_t hzz33) ?_
          refine Go.iload d0_264 rfl ?_
          refine Go.iconst d0_266 (v := 1) rfl ?_
          refine Go.icmpF d0_267 (XT.ii_le_f (by decide)) ?_
          refine Go.aload d0_270 rfl rfl ?_
          refine Go.lload d0_272 rfl ?_
          obtain ⟨z34, hzz34, ghz34⟩ := go_has K hw ((own_occ t4).map (fun x => x.1)) (by rw [List.length_map]; omega) k1 (own_mem_occ ((mm4 _).mpr (Or.inr ((mm3 _).mpr (Or.inr ((mm2 _).mpr (Or.inl rfl))))))) [.inl ("com/example/subsume/subsume/LongIntMap", [("keys", "[J", .ref 1), ("values", "[I", .ref 2), ("size", "I", .int (Int32.ofNat (own_occ t4).length))]), .inr (.long, (own_ks t4)), .inr (.int, (own_vs t4)), .inr (.long, (own_rs (own_occ t4) 0))] (by rw [← own_rs0]; rfl)
          refine Go.callS (M' := m8) d0_274 (hw _ (List.mem_of_getElem? (i := 40) rfl)) (hw _ (List.mem_of_getElem? (i := 41) rfl)) (hw _ (List.mem_of_getElem? (i := 42) rfl)) (hw _ (List.mem_of_getElem? (i := 43) rfl)) mi8 (as := [.ref 3, .long k1]) rfl rfl (st := []) rfl (ls1 := [.val (.ref 3), .val (.long k1), .second]) rfl (W := 0) rfl (by decide) (by decide) ghz34 12 152 (by decide) (by decide) ?_
          show Go _ _ _ _ 277 [.val (.long x0), .second, .val (.long x1), .second, .val (.long x2), .second, .val (.long x3), .second, .val (.int x4), .val (.int x5), .val (.long k0), .second, .val (.long k1), .second, .val (.long k2), .second, .val (.long k3), .second, .val (.int 4), .val (.int (x5 &&& 2147483647)), .val (.ref 0), .val (.ref 3), .val (.int 2)] [.int z34] [.inl ("com/example/subsume/subsume/LongIntMap", [("keys", "[J", .ref 1), ("values", "[I", .ref 2), ("size", "I", .int (Int32.ofNat (own_occ t4).length))]), .inr (.long, (own_ks t4)), .inr (.int, (own_vs t4)), .inr (.long, (own_rs (own_occ t4) 0))] _
          refine Go.ifT d0_277 j0_277 (XT.i0_ne_t hzz34) ?_
          refine Go.iload d0_282 rfl ?_
          refine Go.iconst d0_284 (v := 2) rfl ?_
          refine Go.icmpF d0_285 (XT.ii_le_f (by decide)) ?_
          refine Go.aload d0_288 rfl rfl ?_
          refine Go.lload d0_290 rfl ?_
          obtain ⟨z35, hzz35, ghz35⟩ := go_has K hw ((own_occ t4).map (fun x => x.1)) (by rw [List.length_map]; omega) k2 (own_mem_occ ((mm4 _).mpr (Or.inr ((mm3 _).mpr (Or.inl rfl))))) [.inl ("com/example/subsume/subsume/LongIntMap", [("keys", "[J", .ref 1), ("values", "[I", .ref 2), ("size", "I", .int (Int32.ofNat (own_occ t4).length))]), .inr (.long, (own_ks t4)), .inr (.int, (own_vs t4)), .inr (.long, (own_rs (own_occ t4) 0))] (by rw [← own_rs0]; rfl)
          refine Go.callS (M' := m8) d0_292 (hw _ (List.mem_of_getElem? (i := 40) rfl)) (hw _ (List.mem_of_getElem? (i := 41) rfl)) (hw _ (List.mem_of_getElem? (i := 42) rfl)) (hw _ (List.mem_of_getElem? (i := 43) rfl)) mi8 (as := [.ref 3, .long k2]) rfl rfl (st := []) rfl (ls1 := [.val (.ref 3), .val (.long k2), .second]) rfl (W := 0) rfl (by decide) (by decide) ghz35 12 152 (by decide) (by decide) ?_
          show Go _ _ _ _ 295 [.val (.long x0), .second, .val (.long x1), .second, .val (.long x2), .second, .val (.long x3), .second, .val (.int x4), .val (.int x5), .val (.long k0), .second, .val (.long k1), .second, .val (.long k2), .second, .val (.long k3), .second, .val (.int 4), .val (.int (x5 &&& 2147483647)), .val (.ref 0), .val (.ref 3), .val (.int 2)] [.int z35] [.inl ("com/example/subsume/subsume/LongIntMap", [("keys", "[J", .ref 1), ("values", "[I", .ref 2), ("size", "I", .int (Int32.ofNat (own_occ t4).length))]), .inr (.long, (own_ks t4)), .inr (.int, (own_vs t4)), .inr (.long, (own_rs (own_occ t4) 0))] _
          refine Go.ifT d0_295 j0_295 (XT.i0_ne_t hzz35) ?_
          refine Go.iload d0_300 rfl ?_
          refine Go.iconst d0_302 (v := 3) rfl ?_
          refine Go.icmpF d0_303 (XT.ii_le_f (by decide)) ?_
          refine Go.aload d0_306 rfl rfl ?_
          refine Go.lload d0_308 rfl ?_
          obtain ⟨z36, hzz36, ghz36⟩ := go_has K hw ((own_occ t4).map (fun x => x.1)) (by rw [List.length_map]; omega) k3 (own_mem_occ ((mm4 _).mpr (Or.inl rfl))) [.inl ("com/example/subsume/subsume/LongIntMap", [("keys", "[J", .ref 1), ("values", "[I", .ref 2), ("size", "I", .int (Int32.ofNat (own_occ t4).length))]), .inr (.long, (own_ks t4)), .inr (.int, (own_vs t4)), .inr (.long, (own_rs (own_occ t4) 0))] (by rw [← own_rs0]; rfl)
          refine Go.callS (M' := m8) d0_310 (hw _ (List.mem_of_getElem? (i := 40) rfl)) (hw _ (List.mem_of_getElem? (i := 41) rfl)) (hw _ (List.mem_of_getElem? (i := 42) rfl)) (hw _ (List.mem_of_getElem? (i := 43) rfl)) mi8 (as := [.ref 3, .long k3]) rfl rfl (st := []) rfl (ls1 := [.val (.ref 3), .val (.long k3), .second]) rfl (W := 0) rfl (by decide) (by decide) ghz36 12 152 (by decide) (by decide) ?_
          show Go _ _ _ _ 313 [.val (.long x0), .second, .val (.long x1), .second, .val (.long x2), .second, .val (.long x3), .second, .val (.int x4), .val (.int x5), .val (.long k0), .second, .val (.long k1), .second, .val (.long k2), .second, .val (.long k3), .second, .val (.int 4), .val (.int (x5 &&& 2147483647)), .val (.ref 0), .val (.ref 3), .val (.int 2)] [.int z36] [.inl ("com/example/subsume/subsume/LongIntMap", [("keys", "[J", .ref 1), ("values", "[I", .ref 2), ("size", "I", .int (Int32.ofNat (own_occ t4).length))]), .inr (.long, (own_ks t4)), .inr (.int, (own_vs t4)), .inr (.long, (own_rs (own_occ t4) 0))] _
          refine Go.ifT d0_313 j0_313 (XT.i0_ne_t hzz36) ?_
          refine Go.iconst d0_318 (v := 1) rfl ?_
          exact Go.ireturnZ d0_319 rfl (by decide) rfl HOk.any
        · -- pc 215 not taken
          refine Go.lload d0_218 rfl ?_
          refine Go.lload d0_220 rfl ?_
          refine Go.lcmp d0_222 ?_
          refine Go.lif_eq d0_223 j0_223 (fun h223 => ?_) (fun h223 => ?_)
          · -- pc 223 taken
            have L1 : (own_occ t1).length = 1 := (ln1 (fun z => by
                exact mm0 _ z)).trans (congrArg (· + 1) le0)
            have L2 : (own_occ t2).length = 1 := (le2 (by rw [h173]; exact ((mm1 _).mpr (Or.inl rfl)))).trans L1
            have L3 : (own_occ t3).length = 2 := (ln3 (fun z => by
                rcases (mm2 _).mp z with e | z
                · exact h198 e
                rcases (mm1 _).mp z with e | z
                · exact h190 e
                exact mm0 _ z)).trans (congrArg (· + 1) L2)
            have L4 : (own_occ t4).length = 2 := (le4 (by rw [h223]; exact ((mm3 _).mpr (Or.inr ((mm2 _).mpr (Or.inl rfl)))))).trans L3
            refine Go.aload d0_237 rfl rfl ?_
            refine Go.arraylength d0_239 rfl (z := 2) (own_rlen L4 rfl) ?_
            refine Go.iload d0_240 rfl ?_
            refine Go.icmpT d0_242 j0_242 (XT.ii_eq_t (by decide)) ?_
            refine Go.iload d0_247 rfl ?_
            refine Go.ifF d0_249 (XT.i0_le_f (by decide)) ?_
            refine Go.aload d0_252 rfl rfl ?_
            refine Go.lload d0_254 rfl ?_
            obtain ⟨z37, hzz37, ghz37⟩ := go_has K hw ((own_occ t4).map (fun x => x.1)) (by rw [List.length_map]; omega) k0 (own_mem_occ ((mm4 _).mpr (Or.inr ((mm3 _).mpr (Or.inr ((mm2 _).mpr (Or.inr ((mm1 _).mpr (Or.inl rfl))))))))) [.inl ("com/example/subsume/subsume/LongIntMap", [("keys", "[J", .ref 1), ("values", "[I", .ref 2), ("size", "I", .int (Int32.ofNat (own_occ t4).length))]), .inr (.long, (own_ks t4)), .inr (.int, (own_vs t4)), .inr (.long, (own_rs (own_occ t4) 0))] (by rw [← own_rs0]; rfl)
            refine Go.callS (M' := m8) d0_256 (hw _ (List.mem_of_getElem? (i := 40) rfl)) (hw _ (List.mem_of_getElem? (i := 41) rfl)) (hw _ (List.mem_of_getElem? (i := 42) rfl)) (hw _ (List.mem_of_getElem? (i := 43) rfl)) mi8 (as := [.ref 3, .long k0]) rfl rfl (st := []) rfl (ls1 := [.val (.ref 3), .val (.long k0), .second]) rfl (W := 0) rfl (by decide) (by decide) ghz37 12 152 (by decide) (by decide) ?_
            show Go _ _ _ _ 259 [.val (.long x0), .second, .val (.long x1), .second, .val (.long x2), .second, .val (.long x3), .second, .val (.int x4), .val (.int x5), .val (.long k0), .second, .val (.long k1), .second, .val (.long k2), .second, .val (.long k3), .second, .val (.int 4), .val (.int (x5 &&& 2147483647)), .val (.ref 0), .val (.ref 3), .val (.int 2)] [.int z37] [.inl ("com/example/subsume/subsume/LongIntMap", [("keys", "[J", .ref 1), ("values", "[I", .ref 2), ("size", "I", .int (Int32.ofNat (own_occ t4).length))]), .inr (.long, (own_ks t4)), .inr (.int, (own_vs t4)), .inr (.long, (own_rs (own_occ t4) 0))] _
            refine Go.ifT d0_259 j0_259 (XT.i0_ne_t hzz37) ?_
            refine Go.iload d0_264 rfl ?_
            refine Go.iconst d0_266 (v := 1) rfl ?_
            refine Go.icmpF d0_267 (XT.ii_le_f (by decide)) ?_
            refine Go.aload d0_270 rfl rfl ?_
            refine Go.lload d0_272 rfl ?_
            obtain ⟨z38, hzz38, ghz38⟩ := go_has K hw ((own_occ t4).map (fun x => x.1)) (by rw [List.length_map]; omega) k1 (own_mem_occ ((mm4 _).mpr (Or.inr ((mm3 _).mpr (Or.inr ((mm2 _).mpr (Or.inl rfl))))))) [.inl ("com/example/subsume/subsume/LongIntMap", [("keys", "[J", .ref 1), ("values", "[I", .ref 2), ("size", "I", .int (Int32.ofNat (own_occ t4).length))]), .inr (.long, (own_ks t4)), .inr (.int, (own_vs t4)), .inr (.long, (own_rs (own_occ t4) 0))] (by rw [← own_rs0]; rfl)
            refine Go.callS (M' := m8) d0_274 (hw _ (List.mem_of_getElem? (i := 40) rfl)) (hw _ (List.mem_of_getElem? (i := 41) rfl)) (hw _ (List.mem_of_getElem? (i := 42) rfl)) (hw _ (List.mem_of_getElem? (i := 43) rfl)) mi8 (as := [.ref 3, .long k1]) rfl rfl (st := []) rfl (ls1 := [.val (.ref 3), .val (.long k1), .second]) rfl (W := 0) rfl (by decide) (by decide) ghz38 12 152 (by decide) (by decide) ?_
            show Go _ _ _ _ 277 [.val (.long x0), .second, .val (.long x1), .second, .val (.long x2), .second, .val (.long x3), .second, .val (.int x4), .val (.int x5), .val (.long k0), .second, .val (.long k1), .second, .val (.long k2), .second, .val (.long k3), .second, .val (.int 4), .val (.int (x5 &&& 2147483647)), .val (.ref 0), .val (.ref 3), .val (.int 2)] [.int z38] [.inl ("com/example/subsume/subsume/LongIntMap", [("keys", "[J", .ref 1), ("values", "[I", .ref 2), ("size", "I", .int (Int32.ofNat (own_occ t4).length))]), .inr (.long, (own_ks t4)), .inr (.int, (own_vs t4)), .inr (.long, (own_rs (own_occ t4) 0))] _
            refine Go.ifT d0_277 j0_277 (XT.i0_ne_t hzz38) ?_
            refine Go.iload d0_282 rfl ?_
            refine Go.iconst d0_284 (v := 2) rfl ?_
            refine Go.icmpF d0_285 (XT.ii_le_f (by decide)) ?_
            refine Go.aload d0_288 rfl rfl ?_
            refine Go.lload d0_290 rfl ?_
            obtain ⟨z39, hzz39, ghz39⟩ := go_has K hw ((own_occ t4).map (fun x => x.1)) (by rw [List.length_map]; omega) k2 (own_mem_occ ((mm4 _).mpr (Or.inr ((mm3 _).mpr (Or.inl rfl))))) [.inl ("com/example/subsume/subsume/LongIntMap", [("keys", "[J", .ref 1), ("values", "[I", .ref 2), ("size", "I", .int (Int32.ofNat (own_occ t4).length))]), .inr (.long, (own_ks t4)), .inr (.int, (own_vs t4)), .inr (.long, (own_rs (own_occ t4) 0))] (by rw [← own_rs0]; rfl)
            refine Go.callS (M' := m8) d0_292 (hw _ (List.mem_of_getElem? (i := 40) rfl)) (hw _ (List.mem_of_getElem? (i := 41) rfl)) (hw _ (List.mem_of_getElem? (i := 42) rfl)) (hw _ (List.mem_of_getElem? (i := 43) rfl)) mi8 (as := [.ref 3, .long k2]) rfl rfl (st := []) rfl (ls1 := [.val (.ref 3), .val (.long k2), .second]) rfl (W := 0) rfl (by decide) (by decide) ghz39 12 152 (by decide) (by decide) ?_
            show Go _ _ _ _ 295 [.val (.long x0), .second, .val (.long x1), .second, .val (.long x2), .second, .val (.long x3), .second, .val (.int x4), .val (.int x5), .val (.long k0), .second, .val (.long k1), .second, .val (.long k2), .second, .val (.long k3), .second, .val (.int 4), .val (.int (x5 &&& 2147483647)), .val (.ref 0), .val (.ref 3), .val (.int 2)] [.int z39] [.inl ("com/example/subsume/subsume/LongIntMap", [("keys", "[J", .ref 1), ("values", "[I", .ref 2), ("size", "I", .int (Int32.ofNat (own_occ t4).length))]), .inr (.long, (own_ks t4)), .inr (.int, (own_vs t4)), .inr (.long, (own_rs (own_occ t4) 0))] _
            refine Go.ifT d0_295 j0_295 (XT.i0_ne_t hzz39) ?_
            refine Go.iload d0_300 rfl ?_
            refine Go.iconst d0_302 (v := 3) rfl ?_
            refine Go.icmpF d0_303 (XT.ii_le_f (by decide)) ?_
            refine Go.aload d0_306 rfl rfl ?_
            refine Go.lload d0_308 rfl ?_
            obtain ⟨z40, hzz40, ghz40⟩ := go_has K hw ((own_occ t4).map (fun x => x.1)) (by rw [List.length_map]; omega) k3 (own_mem_occ ((mm4 _).mpr (Or.inl rfl))) [.inl ("com/example/subsume/subsume/LongIntMap", [("keys", "[J", .ref 1), ("values", "[I", .ref 2), ("size", "I", .int (Int32.ofNat (own_occ t4).length))]), .inr (.long, (own_ks t4)), .inr (.int, (own_vs t4)), .inr (.long, (own_rs (own_occ t4) 0))] (by rw [← own_rs0]; rfl)
            refine Go.callS (M' := m8) d0_310 (hw _ (List.mem_of_getElem? (i := 40) rfl)) (hw _ (List.mem_of_getElem? (i := 41) rfl)) (hw _ (List.mem_of_getElem? (i := 42) rfl)) (hw _ (List.mem_of_getElem? (i := 43) rfl)) mi8 (as := [.ref 3, .long k3]) rfl rfl (st := []) rfl (ls1 := [.val (.ref 3), .val (.long k3), .second]) rfl (W := 0) rfl (by decide) (by decide) ghz40 12 152 (by decide) (by decide) ?_
            show Go _ _ _ _ 313 [.val (.long x0), .second, .val (.long x1), .second, .val (.long x2), .second, .val (.long x3), .second, .val (.int x4), .val (.int x5), .val (.long k0), .second, .val (.long k1), .second, .val (.long k2), .second, .val (.long k3), .second, .val (.int 4), .val (.int (x5 &&& 2147483647)), .val (.ref 0), .val (.ref 3), .val (.int 2)] [.int z40] [.inl ("com/example/subsume/subsume/LongIntMap", [("keys", "[J", .ref 1), ("values", "[I", .ref 2), ("size", "I", .int (Int32.ofNat (own_occ t4).length))]), .inr (.long, (own_ks t4)), .inr (.int, (own_vs t4)), .inr (.long, (own_rs (own_occ t4) 0))] _
            refine Go.ifT d0_313 j0_313 (XT.i0_ne_t hzz40) ?_
            refine Go.iconst d0_318 (v := 1) rfl ?_
            exact Go.ireturnZ d0_319 rfl (by decide) rfl HOk.any
          · -- pc 223 not taken
            refine Go.lload d0_226 rfl ?_
            refine Go.lload d0_228 rfl ?_
            refine Go.lcmp d0_230 ?_
            refine Go.lif_eq d0_231 j0_231 (fun h231 => ?_) (fun h231 => ?_)
            · -- pc 231 taken
              have L1 : (own_occ t1).length = 1 := (ln1 (fun z => by
                  exact mm0 _ z)).trans (congrArg (· + 1) le0)
              have L2 : (own_occ t2).length = 1 := (le2 (by rw [h173]; exact ((mm1 _).mpr (Or.inl rfl)))).trans L1
              have L3 : (own_occ t3).length = 2 := (ln3 (fun z => by
                  rcases (mm2 _).mp z with e | z
                  · exact h198 e
                  rcases (mm1 _).mp z with e | z
                  · exact h190 e
                  exact mm0 _ z)).trans (congrArg (· + 1) L2)
              have L4 : (own_occ t4).length = 2 := (le4 (by rw [h231]; exact ((mm3 _).mpr (Or.inl rfl)))).trans L3
              refine Go.aload d0_237 rfl rfl ?_
              refine Go.arraylength d0_239 rfl (z := 2) (own_rlen L4 rfl) ?_
              refine Go.iload d0_240 rfl ?_
              refine Go.icmpT d0_242 j0_242 (XT.ii_eq_t (by decide)) ?_
              refine Go.iload d0_247 rfl ?_
              refine Go.ifF d0_249 (XT.i0_le_f (by decide)) ?_
              refine Go.aload d0_252 rfl rfl ?_
              refine Go.lload d0_254 rfl ?_
              obtain ⟨z41, hzz41, ghz41⟩ := go_has K hw ((own_occ t4).map (fun x => x.1)) (by rw [List.length_map]; omega) k0 (own_mem_occ ((mm4 _).mpr (Or.inr ((mm3 _).mpr (Or.inr ((mm2 _).mpr (Or.inr ((mm1 _).mpr (Or.inl rfl))))))))) [.inl ("com/example/subsume/subsume/LongIntMap", [("keys", "[J", .ref 1), ("values", "[I", .ref 2), ("size", "I", .int (Int32.ofNat (own_occ t4).length))]), .inr (.long, (own_ks t4)), .inr (.int, (own_vs t4)), .inr (.long, (own_rs (own_occ t4) 0))] (by rw [← own_rs0]; rfl)
              refine Go.callS (M' := m8) d0_256 (hw _ (List.mem_of_getElem? (i := 40) rfl)) (hw _ (List.mem_of_getElem? (i := 41) rfl)) (hw _ (List.mem_of_getElem? (i := 42) rfl)) (hw _ (List.mem_of_getElem? (i := 43) rfl)) mi8 (as := [.ref 3, .long k0]) rfl rfl (st := []) rfl (ls1 := [.val (.ref 3), .val (.long k0), .second]) rfl (W := 0) rfl (by decide) (by decide) ghz41 12 152 (by decide) (by decide) ?_
              show Go _ _ _ _ 259 [.val (.long x0), .second, .val (.long x1), .second, .val (.long x2), .second, .val (.long x3), .second, .val (.int x4), .val (.int x5), .val (.long k0), .second, .val (.long k1), .second, .val (.long k2), .second, .val (.long k3), .second, .val (.int 4), .val (.int (x5 &&& 2147483647)), .val (.ref 0), .val (.ref 3), .val (.int 2)] [.int z41] [.inl ("com/example/subsume/subsume/LongIntMap", [("keys", "[J", .ref 1), ("values", "[I", .ref 2), ("size", "I", .int (Int32.ofNat (own_occ t4).length))]), .inr (.long, (own_ks t4)), .inr (.int, (own_vs t4)), .inr (.long, (own_rs (own_occ t4) 0))] _
              refine Go.ifT d0_259 j0_259 (XT.i0_ne_t hzz41) ?_
              refine Go.iload d0_264 rfl ?_
              refine Go.iconst d0_266 (v := 1) rfl ?_
              refine Go.icmpF d0_267 (XT.ii_le_f (by decide)) ?_
              refine Go.aload d0_270 rfl rfl ?_
              refine Go.lload d0_272 rfl ?_
              obtain ⟨z42, hzz42, ghz42⟩ := go_has K hw ((own_occ t4).map (fun x => x.1)) (by rw [List.length_map]; omega) k1 (own_mem_occ ((mm4 _).mpr (Or.inr ((mm3 _).mpr (Or.inr ((mm2 _).mpr (Or.inl rfl))))))) [.inl ("com/example/subsume/subsume/LongIntMap", [("keys", "[J", .ref 1), ("values", "[I", .ref 2), ("size", "I", .int (Int32.ofNat (own_occ t4).length))]), .inr (.long, (own_ks t4)), .inr (.int, (own_vs t4)), .inr (.long, (own_rs (own_occ t4) 0))] (by rw [← own_rs0]; rfl)
              refine Go.callS (M' := m8) d0_274 (hw _ (List.mem_of_getElem? (i := 40) rfl)) (hw _ (List.mem_of_getElem? (i := 41) rfl)) (hw _ (List.mem_of_getElem? (i := 42) rfl)) (hw _ (List.mem_of_getElem? (i := 43) rfl)) mi8 (as := [.ref 3, .long k1]) rfl rfl (st := []) rfl (ls1 := [.val (.ref 3), .val (.long k1), .second]) rfl (W := 0) rfl (by decide) (by decide) ghz42 12 152 (by decide) (by decide) ?_
              show Go _ _ _ _ 277 [.val (.long x0), .second, .val (.long x1), .second, .val (.long x2), .second, .val (.long x3), .second, .val (.int x4), .val (.int x5), .val (.long k0), .second, .val (.long k1), .second, .val (.long k2), .second, .val (.long k3), .second, .val (.int 4), .val (.int (x5 &&& 2147483647)), .val (.ref 0), .val (.ref 3), .val (.int 2)] [.int z42] [.inl ("com/example/subsume/subsume/LongIntMap", [("keys", "[J", .ref 1), ("values", "[I", .ref 2), ("size", "I", .int (Int32.ofNat (own_occ t4).length))]), .inr (.long, (own_ks t4)), .inr (.int, (own_vs t4)), .inr (.long, (own_rs (own_occ t4) 0))] _
              refine Go.ifT d0_277 j0_277 (XT.i0_ne_t hzz42) ?_
              refine Go.iload d0_282 rfl ?_
              refine Go.iconst d0_284 (v := 2) rfl ?_
              refine Go.icmpF d0_285 (XT.ii_le_f (by decide)) ?_
              refine Go.aload d0_288 rfl rfl ?_
              refine Go.lload d0_290 rfl ?_
              obtain ⟨z43, hzz43, ghz43⟩ := go_has K hw ((own_occ t4).map (fun x => x.1)) (by rw [List.length_map]; omega) k2 (own_mem_occ ((mm4 _).mpr (Or.inr ((mm3 _).mpr (Or.inl rfl))))) [.inl ("com/example/subsume/subsume/LongIntMap", [("keys", "[J", .ref 1), ("values", "[I", .ref 2), ("size", "I", .int (Int32.ofNat (own_occ t4).length))]), .inr (.long, (own_ks t4)), .inr (.int, (own_vs t4)), .inr (.long, (own_rs (own_occ t4) 0))] (by rw [← own_rs0]; rfl)
              refine Go.callS (M' := m8) d0_292 (hw _ (List.mem_of_getElem? (i := 40) rfl)) (hw _ (List.mem_of_getElem? (i := 41) rfl)) (hw _ (List.mem_of_getElem? (i := 42) rfl)) (hw _ (List.mem_of_getElem? (i := 43) rfl)) mi8 (as := [.ref 3, .long k2]) rfl rfl (st := []) rfl (ls1 := [.val (.ref 3), .val (.long k2), .second]) rfl (W := 0) rfl (by decide) (by decide) ghz43 12 152 (by decide) (by decide) ?_
              show Go _ _ _ _ 295 [.val (.long x0), .second, .val (.long x1), .second, .val (.long x2), .second, .val (.long x3), .second, .val (.int x4), .val (.int x5), .val (.long k0), .second, .val (.long k1), .second, .val (.long k2), .second, .val (.long k3), .second, .val (.int 4), .val (.int (x5 &&& 2147483647)), .val (.ref 0), .val (.ref 3), .val (.int 2)] [.int z43] [.inl ("com/example/subsume/subsume/LongIntMap", [("keys", "[J", .ref 1), ("values", "[I", .ref 2), ("size", "I", .int (Int32.ofNat (own_occ t4).length))]), .inr (.long, (own_ks t4)), .inr (.int, (own_vs t4)), .inr (.long, (own_rs (own_occ t4) 0))] _
              refine Go.ifT d0_295 j0_295 (XT.i0_ne_t hzz43) ?_
              refine Go.iload d0_300 rfl ?_
              refine Go.iconst d0_302 (v := 3) rfl ?_
              refine Go.icmpF d0_303 (XT.ii_le_f (by decide)) ?_
              refine Go.aload d0_306 rfl rfl ?_
              refine Go.lload d0_308 rfl ?_
              obtain ⟨z44, hzz44, ghz44⟩ := go_has K hw ((own_occ t4).map (fun x => x.1)) (by rw [List.length_map]; omega) k3 (own_mem_occ ((mm4 _).mpr (Or.inl rfl))) [.inl ("com/example/subsume/subsume/LongIntMap", [("keys", "[J", .ref 1), ("values", "[I", .ref 2), ("size", "I", .int (Int32.ofNat (own_occ t4).length))]), .inr (.long, (own_ks t4)), .inr (.int, (own_vs t4)), .inr (.long, (own_rs (own_occ t4) 0))] (by rw [← own_rs0]; rfl)
              refine Go.callS (M' := m8) d0_310 (hw _ (List.mem_of_getElem? (i := 40) rfl)) (hw _ (List.mem_of_getElem? (i := 41) rfl)) (hw _ (List.mem_of_getElem? (i := 42) rfl)) (hw _ (List.mem_of_getElem? (i := 43) rfl)) mi8 (as := [.ref 3, .long k3]) rfl rfl (st := []) rfl (ls1 := [.val (.ref 3), .val (.long k3), .second]) rfl (W := 0) rfl (by decide) (by decide) ghz44 12 152 (by decide) (by decide) ?_
              show Go _ _ _ _ 313 [.val (.long x0), .second, .val (.long x1), .second, .val (.long x2), .second, .val (.long x3), .second, .val (.int x4), .val (.int x5), .val (.long k0), .second, .val (.long k1), .second, .val (.long k2), .second, .val (.long k3), .second, .val (.int 4), .val (.int (x5 &&& 2147483647)), .val (.ref 0), .val (.ref 3), .val (.int 2)] [.int z44] [.inl ("com/example/subsume/subsume/LongIntMap", [("keys", "[J", .ref 1), ("values", "[I", .ref 2), ("size", "I", .int (Int32.ofNat (own_occ t4).length))]), .inr (.long, (own_ks t4)), .inr (.int, (own_vs t4)), .inr (.long, (own_rs (own_occ t4) 0))] _
              refine Go.ifT d0_313 j0_313 (XT.i0_ne_t hzz44) ?_
              refine Go.iconst d0_318 (v := 1) rfl ?_
              exact Go.ireturnZ d0_319 rfl (by decide) rfl HOk.any
            · -- pc 231 not taken
              refine Go.iinc d0_234 (v := 1) rfl rfl (ls' := [.val (.long x0), .second, .val (.long x1), .second, .val (.long x2), .second, .val (.long x3), .second, .val (.int x4), .val (.int x5), .val (.long k0), .second, .val (.long k1), .second, .val (.long k2), .second, .val (.long k3), .second, .val (.int 4), .val (.int (x5 &&& 2147483647)), .val (.ref 0), .val (.ref 3), .val (.int 3)]) rfl ?_
              have L1 : (own_occ t1).length = 1 := (ln1 (fun z => by
                  exact mm0 _ z)).trans (congrArg (· + 1) le0)
              have L2 : (own_occ t2).length = 1 := (le2 (by rw [h173]; exact ((mm1 _).mpr (Or.inl rfl)))).trans L1
              have L3 : (own_occ t3).length = 2 := (ln3 (fun z => by
                  rcases (mm2 _).mp z with e | z
                  · exact h198 e
                  rcases (mm1 _).mp z with e | z
                  · exact h190 e
                  exact mm0 _ z)).trans (congrArg (· + 1) L2)
              have L4 : (own_occ t4).length = 3 := (ln4 (fun z => by
                  rcases (mm3 _).mp z with e | z
                  · exact h231 e
                  rcases (mm2 _).mp z with e | z
                  · exact h223 e
                  rcases (mm1 _).mp z with e | z
                  · exact h215 e
                  exact mm0 _ z)).trans (congrArg (· + 1) L3)
              refine Go.aload d0_237 rfl rfl ?_
              refine Go.arraylength d0_239 rfl (z := 3) (own_rlen L4 rfl) ?_
              refine Go.iload d0_240 rfl ?_
              refine Go.icmpT d0_242 j0_242 (XT.ii_eq_t (by decide)) ?_
              refine Go.iload d0_247 rfl ?_
              refine Go.ifF d0_249 (XT.i0_le_f (by decide)) ?_
              refine Go.aload d0_252 rfl rfl ?_
              refine Go.lload d0_254 rfl ?_
              obtain ⟨z45, hzz45, ghz45⟩ := go_has K hw ((own_occ t4).map (fun x => x.1)) (by rw [List.length_map]; omega) k0 (own_mem_occ ((mm4 _).mpr (Or.inr ((mm3 _).mpr (Or.inr ((mm2 _).mpr (Or.inr ((mm1 _).mpr (Or.inl rfl))))))))) [.inl ("com/example/subsume/subsume/LongIntMap", [("keys", "[J", .ref 1), ("values", "[I", .ref 2), ("size", "I", .int (Int32.ofNat (own_occ t4).length))]), .inr (.long, (own_ks t4)), .inr (.int, (own_vs t4)), .inr (.long, (own_rs (own_occ t4) 0))] (by rw [← own_rs0]; rfl)
              refine Go.callS (M' := m8) d0_256 (hw _ (List.mem_of_getElem? (i := 40) rfl)) (hw _ (List.mem_of_getElem? (i := 41) rfl)) (hw _ (List.mem_of_getElem? (i := 42) rfl)) (hw _ (List.mem_of_getElem? (i := 43) rfl)) mi8 (as := [.ref 3, .long k0]) rfl rfl (st := []) rfl (ls1 := [.val (.ref 3), .val (.long k0), .second]) rfl (W := 0) rfl (by decide) (by decide) ghz45 12 152 (by decide) (by decide) ?_
              show Go _ _ _ _ 259 [.val (.long x0), .second, .val (.long x1), .second, .val (.long x2), .second, .val (.long x3), .second, .val (.int x4), .val (.int x5), .val (.long k0), .second, .val (.long k1), .second, .val (.long k2), .second, .val (.long k3), .second, .val (.int 4), .val (.int (x5 &&& 2147483647)), .val (.ref 0), .val (.ref 3), .val (.int 3)] [.int z45] [.inl ("com/example/subsume/subsume/LongIntMap", [("keys", "[J", .ref 1), ("values", "[I", .ref 2), ("size", "I", .int (Int32.ofNat (own_occ t4).length))]), .inr (.long, (own_ks t4)), .inr (.int, (own_vs t4)), .inr (.long, (own_rs (own_occ t4) 0))] _
              refine Go.ifT d0_259 j0_259 (XT.i0_ne_t hzz45) ?_
              refine Go.iload d0_264 rfl ?_
              refine Go.iconst d0_266 (v := 1) rfl ?_
              refine Go.icmpF d0_267 (XT.ii_le_f (by decide)) ?_
              refine Go.aload d0_270 rfl rfl ?_
              refine Go.lload d0_272 rfl ?_
              obtain ⟨z46, hzz46, ghz46⟩ := go_has K hw ((own_occ t4).map (fun x => x.1)) (by rw [List.length_map]; omega) k1 (own_mem_occ ((mm4 _).mpr (Or.inr ((mm3 _).mpr (Or.inr ((mm2 _).mpr (Or.inl rfl))))))) [.inl ("com/example/subsume/subsume/LongIntMap", [("keys", "[J", .ref 1), ("values", "[I", .ref 2), ("size", "I", .int (Int32.ofNat (own_occ t4).length))]), .inr (.long, (own_ks t4)), .inr (.int, (own_vs t4)), .inr (.long, (own_rs (own_occ t4) 0))] (by rw [← own_rs0]; rfl)
              refine Go.callS (M' := m8) d0_274 (hw _ (List.mem_of_getElem? (i := 40) rfl)) (hw _ (List.mem_of_getElem? (i := 41) rfl)) (hw _ (List.mem_of_getElem? (i := 42) rfl)) (hw _ (List.mem_of_getElem? (i := 43) rfl)) mi8 (as := [.ref 3, .long k1]) rfl rfl (st := []) rfl (ls1 := [.val (.ref 3), .val (.long k1), .second]) rfl (W := 0) rfl (by decide) (by decide) ghz46 12 152 (by decide) (by decide) ?_
              show Go _ _ _ _ 277 [.val (.long x0), .second, .val (.long x1), .second, .val (.long x2), .second, .val (.long x3), .second, .val (.int x4), .val (.int x5), .val (.long k0), .second, .val (.long k1), .second, .val (.long k2), .second, .val (.long k3), .second, .val (.int 4), .val (.int (x5 &&& 2147483647)), .val (.ref 0), .val (.ref 3), .val (.int 3)] [.int z46] [.inl ("com/example/subsume/subsume/LongIntMap", [("keys", "[J", .ref 1), ("values", "[I", .ref 2), ("size", "I", .int (Int32.ofNat (own_occ t4).length))]), .inr (.long, (own_ks t4)), .inr (.int, (own_vs t4)), .inr (.long, (own_rs (own_occ t4) 0))] _
              refine Go.ifT d0_277 j0_277 (XT.i0_ne_t hzz46) ?_
              refine Go.iload d0_282 rfl ?_
              refine Go.iconst d0_284 (v := 2) rfl ?_
              refine Go.icmpF d0_285 (XT.ii_le_f (by decide)) ?_
              refine Go.aload d0_288 rfl rfl ?_
              refine Go.lload d0_290 rfl ?_
              obtain ⟨z47, hzz47, ghz47⟩ := go_has K hw ((own_occ t4).map (fun x => x.1)) (by rw [List.length_map]; omega) k2 (own_mem_occ ((mm4 _).mpr (Or.inr ((mm3 _).mpr (Or.inl rfl))))) [.inl ("com/example/subsume/subsume/LongIntMap", [("keys", "[J", .ref 1), ("values", "[I", .ref 2), ("size", "I", .int (Int32.ofNat (own_occ t4).length))]), .inr (.long, (own_ks t4)), .inr (.int, (own_vs t4)), .inr (.long, (own_rs (own_occ t4) 0))] (by rw [← own_rs0]; rfl)
              refine Go.callS (M' := m8) d0_292 (hw _ (List.mem_of_getElem? (i := 40) rfl)) (hw _ (List.mem_of_getElem? (i := 41) rfl)) (hw _ (List.mem_of_getElem? (i := 42) rfl)) (hw _ (List.mem_of_getElem? (i := 43) rfl)) mi8 (as := [.ref 3, .long k2]) rfl rfl (st := []) rfl (ls1 := [.val (.ref 3), .val (.long k2), .second]) rfl (W := 0) rfl (by decide) (by decide) ghz47 12 152 (by decide) (by decide) ?_
              show Go _ _ _ _ 295 [.val (.long x0), .second, .val (.long x1), .second, .val (.long x2), .second, .val (.long x3), .second, .val (.int x4), .val (.int x5), .val (.long k0), .second, .val (.long k1), .second, .val (.long k2), .second, .val (.long k3), .second, .val (.int 4), .val (.int (x5 &&& 2147483647)), .val (.ref 0), .val (.ref 3), .val (.int 3)] [.int z47] [.inl ("com/example/subsume/subsume/LongIntMap", [("keys", "[J", .ref 1), ("values", "[I", .ref 2), ("size", "I", .int (Int32.ofNat (own_occ t4).length))]), .inr (.long, (own_ks t4)), .inr (.int, (own_vs t4)), .inr (.long, (own_rs (own_occ t4) 0))] _
              refine Go.ifT d0_295 j0_295 (XT.i0_ne_t hzz47) ?_
              refine Go.iload d0_300 rfl ?_
              refine Go.iconst d0_302 (v := 3) rfl ?_
              refine Go.icmpF d0_303 (XT.ii_le_f (by decide)) ?_
              refine Go.aload d0_306 rfl rfl ?_
              refine Go.lload d0_308 rfl ?_
              obtain ⟨z48, hzz48, ghz48⟩ := go_has K hw ((own_occ t4).map (fun x => x.1)) (by rw [List.length_map]; omega) k3 (own_mem_occ ((mm4 _).mpr (Or.inl rfl))) [.inl ("com/example/subsume/subsume/LongIntMap", [("keys", "[J", .ref 1), ("values", "[I", .ref 2), ("size", "I", .int (Int32.ofNat (own_occ t4).length))]), .inr (.long, (own_ks t4)), .inr (.int, (own_vs t4)), .inr (.long, (own_rs (own_occ t4) 0))] (by rw [← own_rs0]; rfl)
              refine Go.callS (M' := m8) d0_310 (hw _ (List.mem_of_getElem? (i := 40) rfl)) (hw _ (List.mem_of_getElem? (i := 41) rfl)) (hw _ (List.mem_of_getElem? (i := 42) rfl)) (hw _ (List.mem_of_getElem? (i := 43) rfl)) mi8 (as := [.ref 3, .long k3]) rfl rfl (st := []) rfl (ls1 := [.val (.ref 3), .val (.long k3), .second]) rfl (W := 0) rfl (by decide) (by decide) ghz48 12 152 (by decide) (by decide) ?_
              show Go _ _ _ _ 313 [.val (.long x0), .second, .val (.long x1), .second, .val (.long x2), .second, .val (.long x3), .second, .val (.int x4), .val (.int x5), .val (.long k0), .second, .val (.long k1), .second, .val (.long k2), .second, .val (.long k3), .second, .val (.int 4), .val (.int (x5 &&& 2147483647)), .val (.ref 0), .val (.ref 3), .val (.int 3)] [.int z48] [.inl ("com/example/subsume/subsume/LongIntMap", [("keys", "[J", .ref 1), ("values", "[I", .ref 2), ("size", "I", .int (Int32.ofNat (own_occ t4).length))]), .inr (.long, (own_ks t4)), .inr (.int, (own_vs t4)), .inr (.long, (own_rs (own_occ t4) 0))] _
              refine Go.ifT d0_313 j0_313 (XT.i0_ne_t hzz48) ?_
              refine Go.iconst d0_318 (v := 1) rfl ?_
              exact Go.ireturnZ d0_319 rfl (by decide) rfl HOk.any
  · -- pc 173 not taken
    refine Go.iinc d0_176 (v := 1) rfl rfl (ls' := [.val (.long x0), .second, .val (.long x1), .second, .val (.long x2), .second, .val (.long x3), .second, .val (.int x4), .val (.int x5), .val (.long k0), .second, .val (.long k1), .second, .val (.long k2), .second, .val (.long k3), .second, .val (.int 4), .val (.int (x5 &&& 2147483647)), .val (.ref 0), .val (.ref 3), .val (.int 2)]) rfl ?_
    refine Go.iload d0_179 rfl ?_
    refine Go.iconst d0_181 (v := 2) rfl ?_
    refine Go.icmpF d0_182 (XT.ii_le_f (by decide)) ?_
    refine Go.lload d0_185 rfl ?_
    refine Go.lload d0_187 rfl ?_
    refine Go.lcmp d0_189 ?_
    refine Go.lif_eq d0_190 j0_190 (fun h190 => ?_) (fun h190 => ?_)
    · -- pc 190 taken
      refine Go.iload d0_204 rfl ?_
      refine Go.iconst d0_206 (v := 3) rfl ?_
      refine Go.icmpF d0_207 (XT.ii_le_f (by decide)) ?_
      refine Go.lload d0_210 rfl ?_
      refine Go.lload d0_212 rfl ?_
      refine Go.lcmp d0_214 ?_
      refine Go.lif_eq d0_215 j0_215 (fun h215 => ?_) (fun h215 => ?_)
      · -- pc 215 taken
        have L1 : (own_occ t1).length = 1 := (ln1 (fun z => by
            exact mm0 _ z)).trans (congrArg (· + 1) le0)
        have L2 : (own_occ t2).length = 2 := (ln2 (fun z => by
            rcases (mm1 _).mp z with e | z
            · exact h173 e
            exact mm0 _ z)).trans (congrArg (· + 1) L1)
        have L3 : (own_occ t3).length = 2 := (le3 (by rw [h190]; exact ((mm2 _).mpr (Or.inr ((mm1 _).mpr (Or.inl rfl)))))).trans L2
        have L4 : (own_occ t4).length = 2 := (le4 (by rw [h215]; exact ((mm3 _).mpr (Or.inr ((mm2 _).mpr (Or.inr ((mm1 _).mpr (Or.inl rfl)))))))).trans L3
        refine Go.aload d0_237 rfl rfl ?_
        refine Go.arraylength d0_239 rfl (z := 2) (own_rlen L4 rfl) ?_
        refine Go.iload d0_240 rfl ?_
        refine Go.icmpT d0_242 j0_242 (XT.ii_eq_t (by decide)) ?_
        refine Go.iload d0_247 rfl ?_
        refine Go.ifF d0_249 (XT.i0_le_f (by decide)) ?_
        refine Go.aload d0_252 rfl rfl ?_
        refine Go.lload d0_254 rfl ?_
        obtain ⟨z49, hzz49, ghz49⟩ := go_has K hw ((own_occ t4).map (fun x => x.1)) (by rw [List.length_map]; omega) k0 (own_mem_occ ((mm4 _).mpr (Or.inr ((mm3 _).mpr (Or.inr ((mm2 _).mpr (Or.inr ((mm1 _).mpr (Or.inl rfl))))))))) [.inl ("com/example/subsume/subsume/LongIntMap", [("keys", "[J", .ref 1), ("values", "[I", .ref 2), ("size", "I", .int (Int32.ofNat (own_occ t4).length))]), .inr (.long, (own_ks t4)), .inr (.int, (own_vs t4)), .inr (.long, (own_rs (own_occ t4) 0))] (by rw [← own_rs0]; rfl)
        refine Go.callS (M' := m8) d0_256 (hw _ (List.mem_of_getElem? (i := 40) rfl)) (hw _ (List.mem_of_getElem? (i := 41) rfl)) (hw _ (List.mem_of_getElem? (i := 42) rfl)) (hw _ (List.mem_of_getElem? (i := 43) rfl)) mi8 (as := [.ref 3, .long k0]) rfl rfl (st := []) rfl (ls1 := [.val (.ref 3), .val (.long k0), .second]) rfl (W := 0) rfl (by decide) (by decide) ghz49 12 152 (by decide) (by decide) ?_
        show Go _ _ _ _ 259 [.val (.long x0), .second, .val (.long x1), .second, .val (.long x2), .second, .val (.long x3), .second, .val (.int x4), .val (.int x5), .val (.long k0), .second, .val (.long k1), .second, .val (.long k2), .second, .val (.long k3), .second, .val (.int 4), .val (.int (x5 &&& 2147483647)), .val (.ref 0), .val (.ref 3), .val (.int 2)] [.int z49] [.inl ("com/example/subsume/subsume/LongIntMap", [("keys", "[J", .ref 1), ("values", "[I", .ref 2), ("size", "I", .int (Int32.ofNat (own_occ t4).length))]), .inr (.long, (own_ks t4)), .inr (.int, (own_vs t4)), .inr (.long, (own_rs (own_occ t4) 0))] _
        refine Go.ifT d0_259 j0_259 (XT.i0_ne_t hzz49) ?_
        refine Go.iload d0_264 rfl ?_
        refine Go.iconst d0_266 (v := 1) rfl ?_
        refine Go.icmpF d0_267 (XT.ii_le_f (by decide)) ?_
        refine Go.aload d0_270 rfl rfl ?_
        refine Go.lload d0_272 rfl ?_
        obtain ⟨z50, hzz50, ghz50⟩ := go_has K hw ((own_occ t4).map (fun x => x.1)) (by rw [List.length_map]; omega) k1 (own_mem_occ ((mm4 _).mpr (Or.inr ((mm3 _).mpr (Or.inr ((mm2 _).mpr (Or.inl rfl))))))) [.inl ("com/example/subsume/subsume/LongIntMap", [("keys", "[J", .ref 1), ("values", "[I", .ref 2), ("size", "I", .int (Int32.ofNat (own_occ t4).length))]), .inr (.long, (own_ks t4)), .inr (.int, (own_vs t4)), .inr (.long, (own_rs (own_occ t4) 0))] (by rw [← own_rs0]; rfl)
        refine Go.callS (M' := m8) d0_274 (hw _ (List.mem_of_getElem? (i := 40) rfl)) (hw _ (List.mem_of_getElem? (i := 41) rfl)) (hw _ (List.mem_of_getElem? (i := 42) rfl)) (hw _ (List.mem_of_getElem? (i := 43) rfl)) mi8 (as := [.ref 3, .long k1]) rfl rfl (st := []) rfl (ls1 := [.val (.ref 3), .val (.long k1), .second]) rfl (W := 0) rfl (by decide) (by decide) ghz50 12 152 (by decide) (by decide) ?_
        show Go _ _ _ _ 277 [.val (.long x0), .second, .val (.long x1), .second, .val (.long x2), .second, .val (.long x3), .second, .val (.int x4), .val (.int x5), .val (.long k0), .second, .val (.long k1), .second, .val (.long k2), .second, .val (.long k3), .second, .val (.int 4), .val (.int (x5 &&& 2147483647)), .val (.ref 0), .val (.ref 3), .val (.int 2)] [.int z50] [.inl ("com/example/subsume/subsume/LongIntMap", [("keys", "[J", .ref 1), ("values", "[I", .ref 2), ("size", "I", .int (Int32.ofNat (own_occ t4).length))]), .inr (.long, (own_ks t4)), .inr (.int, (own_vs t4)), .inr (.long, (own_rs (own_occ t4) 0))] _
        refine Go.ifT d0_277 j0_277 (XT.i0_ne_t hzz50) ?_
        refine Go.iload d0_282 rfl ?_
        refine Go.iconst d0_284 (v := 2) rfl ?_
        refine Go.icmpF d0_285 (XT.ii_le_f (by decide)) ?_
        refine Go.aload d0_288 rfl rfl ?_
        refine Go.lload d0_290 rfl ?_
        obtain ⟨z51, hzz51, ghz51⟩ := go_has K hw ((own_occ t4).map (fun x => x.1)) (by rw [List.length_map]; omega) k2 (own_mem_occ ((mm4 _).mpr (Or.inr ((mm3 _).mpr (Or.inl rfl))))) [.inl ("com/example/subsume/subsume/LongIntMap", [("keys", "[J", .ref 1), ("values", "[I", .ref 2), ("size", "I", .int (Int32.ofNat (own_occ t4).length))]), .inr (.long, (own_ks t4)), .inr (.int, (own_vs t4)), .inr (.long, (own_rs (own_occ t4) 0))] (by rw [← own_rs0]; rfl)
        refine Go.callS (M' := m8) d0_292 (hw _ (List.mem_of_getElem? (i := 40) rfl)) (hw _ (List.mem_of_getElem? (i := 41) rfl)) (hw _ (List.mem_of_getElem? (i := 42) rfl)) (hw _ (List.mem_of_getElem? (i := 43) rfl)) mi8 (as := [.ref 3, .long k2]) rfl rfl (st := []) rfl (ls1 := [.val (.ref 3), .val (.long k2), .second]) rfl (W := 0) rfl (by decide) (by decide) ghz51 12 152 (by decide) (by decide) ?_
        show Go _ _ _ _ 295 [.val (.long x0), .second, .val (.long x1), .second, .val (.long x2), .second, .val (.long x3), .second, .val (.int x4), .val (.int x5), .val (.long k0), .second, .val (.long k1), .second, .val (.long k2), .second, .val (.long k3), .second, .val (.int 4), .val (.int (x5 &&& 2147483647)), .val (.ref 0), .val (.ref 3), .val (.int 2)] [.int z51] [.inl ("com/example/subsume/subsume/LongIntMap", [("keys", "[J", .ref 1), ("values", "[I", .ref 2), ("size", "I", .int (Int32.ofNat (own_occ t4).length))]), .inr (.long, (own_ks t4)), .inr (.int, (own_vs t4)), .inr (.long, (own_rs (own_occ t4) 0))] _
        refine Go.ifT d0_295 j0_295 (XT.i0_ne_t hzz51) ?_
        refine Go.iload d0_300 rfl ?_
        refine Go.iconst d0_302 (v := 3) rfl ?_
        refine Go.icmpF d0_303 (XT.ii_le_f (by decide)) ?_
        refine Go.aload d0_306 rfl rfl ?_
        refine Go.lload d0_308 rfl ?_
        obtain ⟨z52, hzz52, ghz52⟩ := go_has K hw ((own_occ t4).map (fun x => x.1)) (by rw [List.length_map]; omega) k3 (own_mem_occ ((mm4 _).mpr (Or.inl rfl))) [.inl ("com/example/subsume/subsume/LongIntMap", [("keys", "[J", .ref 1), ("values", "[I", .ref 2), ("size", "I", .int (Int32.ofNat (own_occ t4).length))]), .inr (.long, (own_ks t4)), .inr (.int, (own_vs t4)), .inr (.long, (own_rs (own_occ t4) 0))] (by rw [← own_rs0]; rfl)
        refine Go.callS (M' := m8) d0_310 (hw _ (List.mem_of_getElem? (i := 40) rfl)) (hw _ (List.mem_of_getElem? (i := 41) rfl)) (hw _ (List.mem_of_getElem? (i := 42) rfl)) (hw _ (List.mem_of_getElem? (i := 43) rfl)) mi8 (as := [.ref 3, .long k3]) rfl rfl (st := []) rfl (ls1 := [.val (.ref 3), .val (.long k3), .second]) rfl (W := 0) rfl (by decide) (by decide) ghz52 12 152 (by decide) (by decide) ?_
        show Go _ _ _ _ 313 [.val (.long x0), .second, .val (.long x1), .second, .val (.long x2), .second, .val (.long x3), .second, .val (.int x4), .val (.int x5), .val (.long k0), .second, .val (.long k1), .second, .val (.long k2), .second, .val (.long k3), .second, .val (.int 4), .val (.int (x5 &&& 2147483647)), .val (.ref 0), .val (.ref 3), .val (.int 2)] [.int z52] [.inl ("com/example/subsume/subsume/LongIntMap", [("keys", "[J", .ref 1), ("values", "[I", .ref 2), ("size", "I", .int (Int32.ofNat (own_occ t4).length))]), .inr (.long, (own_ks t4)), .inr (.int, (own_vs t4)), .inr (.long, (own_rs (own_occ t4) 0))] _
        refine Go.ifT d0_313 j0_313 (XT.i0_ne_t hzz52) ?_
        refine Go.iconst d0_318 (v := 1) rfl ?_
        exact Go.ireturnZ d0_319 rfl (by decide) rfl HOk.any
      · -- pc 215 not taken
        refine Go.lload d0_218 rfl ?_
        refine Go.lload d0_220 rfl ?_
        refine Go.lcmp d0_222 ?_
        refine Go.lif_eq d0_223 j0_223 (fun h223 => ?_) (fun h223 => ?_)
        · -- pc 223 taken
          have L1 : (own_occ t1).length = 1 := (ln1 (fun z => by
              exact mm0 _ z)).trans (congrArg (· + 1) le0)
          have L2 : (own_occ t2).length = 2 := (ln2 (fun z => by
              rcases (mm1 _).mp z with e | z
              · exact h173 e
              exact mm0 _ z)).trans (congrArg (· + 1) L1)
          have L3 : (own_occ t3).length = 2 := (le3 (by rw [h190]; exact ((mm2 _).mpr (Or.inr ((mm1 _).mpr (Or.inl rfl)))))).trans L2
          have L4 : (own_occ t4).length = 2 := (le4 (by rw [h223]; exact ((mm3 _).mpr (Or.inr ((mm2 _).mpr (Or.inl rfl)))))).trans L3
          refine Go.aload d0_237 rfl rfl ?_
          refine Go.arraylength d0_239 rfl (z := 2) (own_rlen L4 rfl) ?_
          refine Go.iload d0_240 rfl ?_
          refine Go.icmpT d0_242 j0_242 (XT.ii_eq_t (by decide)) ?_
          refine Go.iload d0_247 rfl ?_
          refine Go.ifF d0_249 (XT.i0_le_f (by decide)) ?_
          refine Go.aload d0_252 rfl rfl ?_
          refine Go.lload d0_254 rfl ?_
          obtain ⟨z53, hzz53, ghz53⟩ := go_has K hw ((own_occ t4).map (fun x => x.1)) (by rw [List.length_map]; omega) k0 (own_mem_occ ((mm4 _).mpr (Or.inr ((mm3 _).mpr (Or.inr ((mm2 _).mpr (Or.inr ((mm1 _).mpr (Or.inl rfl))))))))) [.inl ("com/example/subsume/subsume/LongIntMap", [("keys", "[J", .ref 1), ("values", "[I", .ref 2), ("size", "I", .int (Int32.ofNat (own_occ t4).length))]), .inr (.long, (own_ks t4)), .inr (.int, (own_vs t4)), .inr (.long, (own_rs (own_occ t4) 0))] (by rw [← own_rs0]; rfl)
          refine Go.callS (M' := m8) d0_256 (hw _ (List.mem_of_getElem? (i := 40) rfl)) (hw _ (List.mem_of_getElem? (i := 41) rfl)) (hw _ (List.mem_of_getElem? (i := 42) rfl)) (hw _ (List.mem_of_getElem? (i := 43) rfl)) mi8 (as := [.ref 3, .long k0]) rfl rfl (st := []) rfl (ls1 := [.val (.ref 3), .val (.long k0), .second]) rfl (W := 0) rfl (by decide) (by decide) ghz53 12 152 (by decide) (by decide) ?_
          show Go _ _ _ _ 259 [.val (.long x0), .second, .val (.long x1), .second, .val (.long x2), .second, .val (.long x3), .second, .val (.int x4), .val (.int x5), .val (.long k0), .second, .val (.long k1), .second, .val (.long k2), .second, .val (.long k3), .second, .val (.int 4), .val (.int (x5 &&& 2147483647)), .val (.ref 0), .val (.ref 3), .val (.int 2)] [.int z53] [.inl ("com/example/subsume/subsume/LongIntMap", [("keys", "[J", .ref 1), ("values", "[I", .ref 2), ("size", "I", .int (Int32.ofNat (own_occ t4).length))]), .inr (.long, (own_ks t4)), .inr (.int, (own_vs t4)), .inr (.long, (own_rs (own_occ t4) 0))] _
          refine Go.ifT d0_259 j0_259 (XT.i0_ne_t hzz53) ?_
          refine Go.iload d0_264 rfl ?_
          refine Go.iconst d0_266 (v := 1) rfl ?_
          refine Go.icmpF d0_267 (XT.ii_le_f (by decide)) ?_
          refine Go.aload d0_270 rfl rfl ?_
          refine Go.lload d0_272 rfl ?_
          obtain ⟨z54, hzz54, ghz54⟩ := go_has K hw ((own_occ t4).map (fun x => x.1)) (by rw [List.length_map]; omega) k1 (own_mem_occ ((mm4 _).mpr (Or.inr ((mm3 _).mpr (Or.inr ((mm2 _).mpr (Or.inl rfl))))))) [.inl ("com/example/subsume/subsume/LongIntMap", [("keys", "[J", .ref 1), ("values", "[I", .ref 2), ("size", "I", .int (Int32.ofNat (own_occ t4).length))]), .inr (.long, (own_ks t4)), .inr (.int, (own_vs t4)), .inr (.long, (own_rs (own_occ t4) 0))] (by rw [← own_rs0]; rfl)
          refine Go.callS (M' := m8) d0_274 (hw _ (List.mem_of_getElem? (i := 40) rfl)) (hw _ (List.mem_of_getElem? (i := 41) rfl)) (hw _ (List.mem_of_getElem? (i := 42) rfl)) (hw _ (List.mem_of_getElem? (i := 43) rfl)) mi8 (as := [.ref 3, .long k1]) rfl rfl (st := []) rfl (ls1 := [.val (.ref 3), .val (.long k1), .second]) rfl (W := 0) rfl (by decide) (by decide) ghz54 12 152 (by decide) (by decide) ?_
          show Go _ _ _ _ 277 [.val (.long x0), .second, .val (.long x1), .second, .val (.long x2), .second, .val (.long x3), .second, .val (.int x4), .val (.int x5), .val (.long k0), .second, .val (.long k1), .second, .val (.long k2), .second, .val (.long k3), .second, .val (.int 4), .val (.int (x5 &&& 2147483647)), .val (.ref 0), .val (.ref 3), .val (.int 2)] [.int z54] [.inl ("com/example/subsume/subsume/LongIntMap", [("keys", "[J", .ref 1), ("values", "[I", .ref 2), ("size", "I", .int (Int32.ofNat (own_occ t4).length))]), .inr (.long, (own_ks t4)), .inr (.int, (own_vs t4)), .inr (.long, (own_rs (own_occ t4) 0))] _
          refine Go.ifT d0_277 j0_277 (XT.i0_ne_t hzz54) ?_
          refine Go.iload d0_282 rfl ?_
          refine Go.iconst d0_284 (v := 2) rfl ?_
          refine Go.icmpF d0_285 (XT.ii_le_f (by decide)) ?_
          refine Go.aload d0_288 rfl rfl ?_
          refine Go.lload d0_290 rfl ?_
          obtain ⟨z55, hzz55, ghz55⟩ := go_has K hw ((own_occ t4).map (fun x => x.1)) (by rw [List.length_map]; omega) k2 (own_mem_occ ((mm4 _).mpr (Or.inr ((mm3 _).mpr (Or.inl rfl))))) [.inl ("com/example/subsume/subsume/LongIntMap", [("keys", "[J", .ref 1), ("values", "[I", .ref 2), ("size", "I", .int (Int32.ofNat (own_occ t4).length))]), .inr (.long, (own_ks t4)), .inr (.int, (own_vs t4)), .inr (.long, (own_rs (own_occ t4) 0))] (by rw [← own_rs0]; rfl)
          refine Go.callS (M' := m8) d0_292 (hw _ (List.mem_of_getElem? (i := 40) rfl)) (hw _ (List.mem_of_getElem? (i := 41) rfl)) (hw _ (List.mem_of_getElem? (i := 42) rfl)) (hw _ (List.mem_of_getElem? (i := 43) rfl)) mi8 (as := [.ref 3, .long k2]) rfl rfl (st := []) rfl (ls1 := [.val (.ref 3), .val (.long k2), .second]) rfl (W := 0) rfl (by decide) (by decide) ghz55 12 152 (by decide) (by decide) ?_
          show Go _ _ _ _ 295 [.val (.long x0), .second, .val (.long x1), .second, .val (.long x2), .second, .val (.long x3), .second, .val (.int x4), .val (.int x5), .val (.long k0), .second, .val (.long k1), .second, .val (.long k2), .second, .val (.long k3), .second, .val (.int 4), .val (.int (x5 &&& 2147483647)), .val (.ref 0), .val (.ref 3), .val (.int 2)] [.int z55] [.inl ("com/example/subsume/subsume/LongIntMap", [("keys", "[J", .ref 1), ("values", "[I", .ref 2), ("size", "I", .int (Int32.ofNat (own_occ t4).length))]), .inr (.long, (own_ks t4)), .inr (.int, (own_vs t4)), .inr (.long, (own_rs (own_occ t4) 0))] _
          refine Go.ifT d0_295 j0_295 (XT.i0_ne_t hzz55) ?_
          refine Go.iload d0_300 rfl ?_
          refine Go.iconst d0_302 (v := 3) rfl ?_
          refine Go.icmpF d0_303 (XT.ii_le_f (by decide)) ?_
          refine Go.aload d0_306 rfl rfl ?_
          refine Go.lload d0_308 rfl ?_
          obtain ⟨z56, hzz56, ghz56⟩ := go_has K hw ((own_occ t4).map (fun x => x.1)) (by rw [List.length_map]; omega) k3 (own_mem_occ ((mm4 _).mpr (Or.inl rfl))) [.inl ("com/example/subsume/subsume/LongIntMap", [("keys", "[J", .ref 1), ("values", "[I", .ref 2), ("size", "I", .int (Int32.ofNat (own_occ t4).length))]), .inr (.long, (own_ks t4)), .inr (.int, (own_vs t4)), .inr (.long, (own_rs (own_occ t4) 0))] (by rw [← own_rs0]; rfl)
          refine Go.callS (M' := m8) d0_310 (hw _ (List.mem_of_getElem? (i := 40) rfl)) (hw _ (List.mem_of_getElem? (i := 41) rfl)) (hw _ (List.mem_of_getElem? (i := 42) rfl)) (hw _ (List.mem_of_getElem? (i := 43) rfl)) mi8 (as := [.ref 3, .long k3]) rfl rfl (st := []) rfl (ls1 := [.val (.ref 3), .val (.long k3), .second]) rfl (W := 0) rfl (by decide) (by decide) ghz56 12 152 (by decide) (by decide) ?_
          show Go _ _ _ _ 313 [.val (.long x0), .second, .val (.long x1), .second, .val (.long x2), .second, .val (.long x3), .second, .val (.int x4), .val (.int x5), .val (.long k0), .second, .val (.long k1), .second, .val (.long k2), .second, .val (.long k3), .second, .val (.int 4), .val (.int (x5 &&& 2147483647)), .val (.ref 0), .val (.ref 3), .val (.int 2)] [.int z56] [.inl ("com/example/subsume/subsume/LongIntMap", [("keys", "[J", .ref 1), ("values", "[I", .ref 2), ("size", "I", .int (Int32.ofNat (own_occ t4).length))]), .inr (.long, (own_ks t4)), .inr (.int, (own_vs t4)), .inr (.long, (own_rs (own_occ t4) 0))] _
          refine Go.ifT d0_313 j0_313 (XT.i0_ne_t hzz56) ?_
          refine Go.iconst d0_318 (v := 1) rfl ?_
          exact Go.ireturnZ d0_319 rfl (by decide) rfl HOk.any
        · -- pc 223 not taken
          refine Go.lload d0_226 rfl ?_
          refine Go.lload d0_228 rfl ?_
          refine Go.lcmp d0_230 ?_
          refine Go.lif_eq d0_231 j0_231 (fun h231 => ?_) (fun h231 => ?_)
          · -- pc 231 taken
            have L1 : (own_occ t1).length = 1 := (ln1 (fun z => by
                exact mm0 _ z)).trans (congrArg (· + 1) le0)
            have L2 : (own_occ t2).length = 2 := (ln2 (fun z => by
                rcases (mm1 _).mp z with e | z
                · exact h173 e
                exact mm0 _ z)).trans (congrArg (· + 1) L1)
            have L3 : (own_occ t3).length = 2 := (le3 (by rw [h190]; exact ((mm2 _).mpr (Or.inr ((mm1 _).mpr (Or.inl rfl)))))).trans L2
            have L4 : (own_occ t4).length = 2 := (le4 (by rw [h231]; exact ((mm3 _).mpr (Or.inl rfl)))).trans L3
            refine Go.aload d0_237 rfl rfl ?_
            refine Go.arraylength d0_239 rfl (z := 2) (own_rlen L4 rfl) ?_
            refine Go.iload d0_240 rfl ?_
            refine Go.icmpT d0_242 j0_242 (XT.ii_eq_t (by decide)) ?_
            refine Go.iload d0_247 rfl ?_
            refine Go.ifF d0_249 (XT.i0_le_f (by decide)) ?_
            refine Go.aload d0_252 rfl rfl ?_
            refine Go.lload d0_254 rfl ?_
            obtain ⟨z57, hzz57, ghz57⟩ := go_has K hw ((own_occ t4).map (fun x => x.1)) (by rw [List.length_map]; omega) k0 (own_mem_occ ((mm4 _).mpr (Or.inr ((mm3 _).mpr (Or.inr ((mm2 _).mpr (Or.inr ((mm1 _).mpr (Or.inl rfl))))))))) [.inl ("com/example/subsume/subsume/LongIntMap", [("keys", "[J", .ref 1), ("values", "[I", .ref 2), ("size", "I", .int (Int32.ofNat (own_occ t4).length))]), .inr (.long, (own_ks t4)), .inr (.int, (own_vs t4)), .inr (.long, (own_rs (own_occ t4) 0))] (by rw [← own_rs0]; rfl)
            refine Go.callS (M' := m8) d0_256 (hw _ (List.mem_of_getElem? (i := 40) rfl)) (hw _ (List.mem_of_getElem? (i := 41) rfl)) (hw _ (List.mem_of_getElem? (i := 42) rfl)) (hw _ (List.mem_of_getElem? (i := 43) rfl)) mi8 (as := [.ref 3, .long k0]) rfl rfl (st := []) rfl (ls1 := [.val (.ref 3), .val (.long k0), .second]) rfl (W := 0) rfl (by decide) (by decide) ghz57 12 152 (by decide) (by decide) ?_
            show Go _ _ _ _ 259 [.val (.long x0), .second, .val (.long x1), .second, .val (.long x2), .second, .val (.long x3), .second, .val (.int x4), .val (.int x5), .val (.long k0), .second, .val (.long k1), .second, .val (.long k2), .second, .val (.long k3), .second, .val (.int 4), .val (.int (x5 &&& 2147483647)), .val (.ref 0), .val (.ref 3), .val (.int 2)] [.int z57] [.inl ("com/example/subsume/subsume/LongIntMap", [("keys", "[J", .ref 1), ("values", "[I", .ref 2), ("size", "I", .int (Int32.ofNat (own_occ t4).length))]), .inr (.long, (own_ks t4)), .inr (.int, (own_vs t4)), .inr (.long, (own_rs (own_occ t4) 0))] _
            refine Go.ifT d0_259 j0_259 (XT.i0_ne_t hzz57) ?_
            refine Go.iload d0_264 rfl ?_
            refine Go.iconst d0_266 (v := 1) rfl ?_
            refine Go.icmpF d0_267 (XT.ii_le_f (by decide)) ?_
            refine Go.aload d0_270 rfl rfl ?_
            refine Go.lload d0_272 rfl ?_
            obtain ⟨z58, hzz58, ghz58⟩ := go_has K hw ((own_occ t4).map (fun x => x.1)) (by rw [List.length_map]; omega) k1 (own_mem_occ ((mm4 _).mpr (Or.inr ((mm3 _).mpr (Or.inr ((mm2 _).mpr (Or.inl rfl))))))) [.inl ("com/example/subsume/subsume/LongIntMap", [("keys", "[J", .ref 1), ("values", "[I", .ref 2), ("size", "I", .int (Int32.ofNat (own_occ t4).length))]), .inr (.long, (own_ks t4)), .inr (.int, (own_vs t4)), .inr (.long, (own_rs (own_occ t4) 0))] (by rw [← own_rs0]; rfl)
            refine Go.callS (M' := m8) d0_274 (hw _ (List.mem_of_getElem? (i := 40) rfl)) (hw _ (List.mem_of_getElem? (i := 41) rfl)) (hw _ (List.mem_of_getElem? (i := 42) rfl)) (hw _ (List.mem_of_getElem? (i := 43) rfl)) mi8 (as := [.ref 3, .long k1]) rfl rfl (st := []) rfl (ls1 := [.val (.ref 3), .val (.long k1), .second]) rfl (W := 0) rfl (by decide) (by decide) ghz58 12 152 (by decide) (by decide) ?_
            show Go _ _ _ _ 277 [.val (.long x0), .second, .val (.long x1), .second, .val (.long x2), .second, .val (.long x3), .second, .val (.int x4), .val (.int x5), .val (.long k0), .second, .val (.long k1), .second, .val (.long k2), .second, .val (.long k3), .second, .val (.int 4), .val (.int (x5 &&& 2147483647)), .val (.ref 0), .val (.ref 3), .val (.int 2)] [.int z58] [.inl ("com/example/subsume/subsume/LongIntMap", [("keys", "[J", .ref 1), ("values", "[I", .ref 2), ("size", "I", .int (Int32.ofNat (own_occ t4).length))]), .inr (.long, (own_ks t4)), .inr (.int, (own_vs t4)), .inr (.long, (own_rs (own_occ t4) 0))] _
            refine Go.ifT d0_277 j0_277 (XT.i0_ne_t hzz58) ?_
            refine Go.iload d0_282 rfl ?_
            refine Go.iconst d0_284 (v := 2) rfl ?_
            refine Go.icmpF d0_285 (XT.ii_le_f (by decide)) ?_
            refine Go.aload d0_288 rfl rfl ?_
            refine Go.lload d0_290 rfl ?_
            obtain ⟨z59, hzz59, ghz59⟩ := go_has K hw ((own_occ t4).map (fun x => x.1)) (by rw [List.length_map]; omega) k2 (own_mem_occ ((mm4 _).mpr (Or.inr ((mm3 _).mpr (Or.inl rfl))))) [.inl ("com/example/subsume/subsume/LongIntMap", [("keys", "[J", .ref 1), ("values", "[I", .ref 2), ("size", "I", .int (Int32.ofNat (own_occ t4).length))]), .inr (.long, (own_ks t4)), .inr (.int, (own_vs t4)), .inr (.long, (own_rs (own_occ t4) 0))] (by rw [← own_rs0]; rfl)
            refine Go.callS (M' := m8) d0_292 (hw _ (List.mem_of_getElem? (i := 40) rfl)) (hw _ (List.mem_of_getElem? (i := 41) rfl)) (hw _ (List.mem_of_getElem? (i := 42) rfl)) (hw _ (List.mem_of_getElem? (i := 43) rfl)) mi8 (as := [.ref 3, .long k2]) rfl rfl (st := []) rfl (ls1 := [.val (.ref 3), .val (.long k2), .second]) rfl (W := 0) rfl (by decide) (by decide) ghz59 12 152 (by decide) (by decide) ?_
            show Go _ _ _ _ 295 [.val (.long x0), .second, .val (.long x1), .second, .val (.long x2), .second, .val (.long x3), .second, .val (.int x4), .val (.int x5), .val (.long k0), .second, .val (.long k1), .second, .val (.long k2), .second, .val (.long k3), .second, .val (.int 4), .val (.int (x5 &&& 2147483647)), .val (.ref 0), .val (.ref 3), .val (.int 2)] [.int z59] [.inl ("com/example/subsume/subsume/LongIntMap", [("keys", "[J", .ref 1), ("values", "[I", .ref 2), ("size", "I", .int (Int32.ofNat (own_occ t4).length))]), .inr (.long, (own_ks t4)), .inr (.int, (own_vs t4)), .inr (.long, (own_rs (own_occ t4) 0))] _
            refine Go.ifT d0_295 j0_295 (XT.i0_ne_t hzz59) ?_
            refine Go.iload d0_300 rfl ?_
            refine Go.iconst d0_302 (v := 3) rfl ?_
            refine Go.icmpF d0_303 (XT.ii_le_f (by decide)) ?_
            refine Go.aload d0_306 rfl rfl ?_
            refine Go.lload d0_308 rfl ?_
            obtain ⟨z60, hzz60, ghz60⟩ := go_has K hw ((own_occ t4).map (fun x => x.1)) (by rw [List.length_map]; omega) k3 (own_mem_occ ((mm4 _).mpr (Or.inl rfl))) [.inl ("com/example/subsume/subsume/LongIntMap", [("keys", "[J", .ref 1), ("values", "[I", .ref 2), ("size", "I", .int (Int32.ofNat (own_occ t4).length))]), .inr (.long, (own_ks t4)), .inr (.int, (own_vs t4)), .inr (.long, (own_rs (own_occ t4) 0))] (by rw [← own_rs0]; rfl)
            refine Go.callS (M' := m8) d0_310 (hw _ (List.mem_of_getElem? (i := 40) rfl)) (hw _ (List.mem_of_getElem? (i := 41) rfl)) (hw _ (List.mem_of_getElem? (i := 42) rfl)) (hw _ (List.mem_of_getElem? (i := 43) rfl)) mi8 (as := [.ref 3, .long k3]) rfl rfl (st := []) rfl (ls1 := [.val (.ref 3), .val (.long k3), .second]) rfl (W := 0) rfl (by decide) (by decide) ghz60 12 152 (by decide) (by decide) ?_
            show Go _ _ _ _ 313 [.val (.long x0), .second, .val (.long x1), .second, .val (.long x2), .second, .val (.long x3), .second, .val (.int x4), .val (.int x5), .val (.long k0), .second, .val (.long k1), .second, .val (.long k2), .second, .val (.long k3), .second, .val (.int 4), .val (.int (x5 &&& 2147483647)), .val (.ref 0), .val (.ref 3), .val (.int 2)] [.int z60] [.inl ("com/example/subsume/subsume/LongIntMap", [("keys", "[J", .ref 1), ("values", "[I", .ref 2), ("size", "I", .int (Int32.ofNat (own_occ t4).length))]), .inr (.long, (own_ks t4)), .inr (.int, (own_vs t4)), .inr (.long, (own_rs (own_occ t4) 0))] _
            refine Go.ifT d0_313 j0_313 (XT.i0_ne_t hzz60) ?_
            refine Go.iconst d0_318 (v := 1) rfl ?_
            exact Go.ireturnZ d0_319 rfl (by decide) rfl HOk.any
          · -- pc 231 not taken
            refine Go.iinc d0_234 (v := 1) rfl rfl (ls' := [.val (.long x0), .second, .val (.long x1), .second, .val (.long x2), .second, .val (.long x3), .second, .val (.int x4), .val (.int x5), .val (.long k0), .second, .val (.long k1), .second, .val (.long k2), .second, .val (.long k3), .second, .val (.int 4), .val (.int (x5 &&& 2147483647)), .val (.ref 0), .val (.ref 3), .val (.int 3)]) rfl ?_
            have L1 : (own_occ t1).length = 1 := (ln1 (fun z => by
                exact mm0 _ z)).trans (congrArg (· + 1) le0)
            have L2 : (own_occ t2).length = 2 := (ln2 (fun z => by
                rcases (mm1 _).mp z with e | z
                · exact h173 e
                exact mm0 _ z)).trans (congrArg (· + 1) L1)
            have L3 : (own_occ t3).length = 2 := (le3 (by rw [h190]; exact ((mm2 _).mpr (Or.inr ((mm1 _).mpr (Or.inl rfl)))))).trans L2
            have L4 : (own_occ t4).length = 3 := (ln4 (fun z => by
                rcases (mm3 _).mp z with e | z
                · exact h231 e
                rcases (mm2 _).mp z with e | z
                · exact h223 e
                rcases (mm1 _).mp z with e | z
                · exact h215 e
                exact mm0 _ z)).trans (congrArg (· + 1) L3)
            refine Go.aload d0_237 rfl rfl ?_
            refine Go.arraylength d0_239 rfl (z := 3) (own_rlen L4 rfl) ?_
            refine Go.iload d0_240 rfl ?_
            refine Go.icmpT d0_242 j0_242 (XT.ii_eq_t (by decide)) ?_
            refine Go.iload d0_247 rfl ?_
            refine Go.ifF d0_249 (XT.i0_le_f (by decide)) ?_
            refine Go.aload d0_252 rfl rfl ?_
            refine Go.lload d0_254 rfl ?_
            obtain ⟨z61, hzz61, ghz61⟩ := go_has K hw ((own_occ t4).map (fun x => x.1)) (by rw [List.length_map]; omega) k0 (own_mem_occ ((mm4 _).mpr (Or.inr ((mm3 _).mpr (Or.inr ((mm2 _).mpr (Or.inr ((mm1 _).mpr (Or.inl rfl))))))))) [.inl ("com/example/subsume/subsume/LongIntMap", [("keys", "[J", .ref 1), ("values", "[I", .ref 2), ("size", "I", .int (Int32.ofNat (own_occ t4).length))]), .inr (.long, (own_ks t4)), .inr (.int, (own_vs t4)), .inr (.long, (own_rs (own_occ t4) 0))] (by rw [← own_rs0]; rfl)
            refine Go.callS (M' := m8) d0_256 (hw _ (List.mem_of_getElem? (i := 40) rfl)) (hw _ (List.mem_of_getElem? (i := 41) rfl)) (hw _ (List.mem_of_getElem? (i := 42) rfl)) (hw _ (List.mem_of_getElem? (i := 43) rfl)) mi8 (as := [.ref 3, .long k0]) rfl rfl (st := []) rfl (ls1 := [.val (.ref 3), .val (.long k0), .second]) rfl (W := 0) rfl (by decide) (by decide) ghz61 12 152 (by decide) (by decide) ?_
            show Go _ _ _ _ 259 [.val (.long x0), .second, .val (.long x1), .second, .val (.long x2), .second, .val (.long x3), .second, .val (.int x4), .val (.int x5), .val (.long k0), .second, .val (.long k1), .second, .val (.long k2), .second, .val (.long k3), .second, .val (.int 4), .val (.int (x5 &&& 2147483647)), .val (.ref 0), .val (.ref 3), .val (.int 3)] [.int z61] [.inl ("com/example/subsume/subsume/LongIntMap", [("keys", "[J", .ref 1), ("values", "[I", .ref 2), ("size", "I", .int (Int32.ofNat (own_occ t4).length))]), .inr (.long, (own_ks t4)), .inr (.int, (own_vs t4)), .inr (.long, (own_rs (own_occ t4) 0))] _
            refine Go.ifT d0_259 j0_259 (XT.i0_ne_t hzz61) ?_
            refine Go.iload d0_264 rfl ?_
            refine Go.iconst d0_266 (v := 1) rfl ?_
            refine Go.icmpF d0_267 (XT.ii_le_f (by decide)) ?_
            refine Go.aload d0_270 rfl rfl ?_
            refine Go.lload d0_272 rfl ?_
            obtain ⟨z62, hzz62, ghz62⟩ := go_has K hw ((own_occ t4).map (fun x => x.1)) (by rw [List.length_map]; omega) k1 (own_mem_occ ((mm4 _).mpr (Or.inr ((mm3 _).mpr (Or.inr ((mm2 _).mpr (Or.inl rfl))))))) [.inl ("com/example/subsume/subsume/LongIntMap", [("keys", "[J", .ref 1), ("values", "[I", .ref 2), ("size", "I", .int (Int32.ofNat (own_occ t4).length))]), .inr (.long, (own_ks t4)), .inr (.int, (own_vs t4)), .inr (.long, (own_rs (own_occ t4) 0))] (by rw [← own_rs0]; rfl)
            refine Go.callS (M' := m8) d0_274 (hw _ (List.mem_of_getElem? (i := 40) rfl)) (hw _ (List.mem_of_getElem? (i := 41) rfl)) (hw _ (List.mem_of_getElem? (i := 42) rfl)) (hw _ (List.mem_of_getElem? (i := 43) rfl)) mi8 (as := [.ref 3, .long k1]) rfl rfl (st := []) rfl (ls1 := [.val (.ref 3), .val (.long k1), .second]) rfl (W := 0) rfl (by decide) (by decide) ghz62 12 152 (by decide) (by decide) ?_
            show Go _ _ _ _ 277 [.val (.long x0), .second, .val (.long x1), .second, .val (.long x2), .second, .val (.long x3), .second, .val (.int x4), .val (.int x5), .val (.long k0), .second, .val (.long k1), .second, .val (.long k2), .second, .val (.long k3), .second, .val (.int 4), .val (.int (x5 &&& 2147483647)), .val (.ref 0), .val (.ref 3), .val (.int 3)] [.int z62] [.inl ("com/example/subsume/subsume/LongIntMap", [("keys", "[J", .ref 1), ("values", "[I", .ref 2), ("size", "I", .int (Int32.ofNat (own_occ t4).length))]), .inr (.long, (own_ks t4)), .inr (.int, (own_vs t4)), .inr (.long, (own_rs (own_occ t4) 0))] _
            refine Go.ifT d0_277 j0_277 (XT.i0_ne_t hzz62) ?_
            refine Go.iload d0_282 rfl ?_
            refine Go.iconst d0_284 (v := 2) rfl ?_
            refine Go.icmpF d0_285 (XT.ii_le_f (by decide)) ?_
            refine Go.aload d0_288 rfl rfl ?_
            refine Go.lload d0_290 rfl ?_
            obtain ⟨z63, hzz63, ghz63⟩ := go_has K hw ((own_occ t4).map (fun x => x.1)) (by rw [List.length_map]; omega) k2 (own_mem_occ ((mm4 _).mpr (Or.inr ((mm3 _).mpr (Or.inl rfl))))) [.inl ("com/example/subsume/subsume/LongIntMap", [("keys", "[J", .ref 1), ("values", "[I", .ref 2), ("size", "I", .int (Int32.ofNat (own_occ t4).length))]), .inr (.long, (own_ks t4)), .inr (.int, (own_vs t4)), .inr (.long, (own_rs (own_occ t4) 0))] (by rw [← own_rs0]; rfl)
            refine Go.callS (M' := m8) d0_292 (hw _ (List.mem_of_getElem? (i := 40) rfl)) (hw _ (List.mem_of_getElem? (i := 41) rfl)) (hw _ (List.mem_of_getElem? (i := 42) rfl)) (hw _ (List.mem_of_getElem? (i := 43) rfl)) mi8 (as := [.ref 3, .long k2]) rfl rfl (st := []) rfl (ls1 := [.val (.ref 3), .val (.long k2), .second]) rfl (W := 0) rfl (by decide) (by decide) ghz63 12 152 (by decide) (by decide) ?_
            show Go _ _ _ _ 295 [.val (.long x0), .second, .val (.long x1), .second, .val (.long x2), .second, .val (.long x3), .second, .val (.int x4), .val (.int x5), .val (.long k0), .second, .val (.long k1), .second, .val (.long k2), .second, .val (.long k3), .second, .val (.int 4), .val (.int (x5 &&& 2147483647)), .val (.ref 0), .val (.ref 3), .val (.int 3)] [.int z63] [.inl ("com/example/subsume/subsume/LongIntMap", [("keys", "[J", .ref 1), ("values", "[I", .ref 2), ("size", "I", .int (Int32.ofNat (own_occ t4).length))]), .inr (.long, (own_ks t4)), .inr (.int, (own_vs t4)), .inr (.long, (own_rs (own_occ t4) 0))] _
            refine Go.ifT d0_295 j0_295 (XT.i0_ne_t hzz63) ?_
            refine Go.iload d0_300 rfl ?_
            refine Go.iconst d0_302 (v := 3) rfl ?_
            refine Go.icmpF d0_303 (XT.ii_le_f (by decide)) ?_
            refine Go.aload d0_306 rfl rfl ?_
            refine Go.lload d0_308 rfl ?_
            obtain ⟨z64, hzz64, ghz64⟩ := go_has K hw ((own_occ t4).map (fun x => x.1)) (by rw [List.length_map]; omega) k3 (own_mem_occ ((mm4 _).mpr (Or.inl rfl))) [.inl ("com/example/subsume/subsume/LongIntMap", [("keys", "[J", .ref 1), ("values", "[I", .ref 2), ("size", "I", .int (Int32.ofNat (own_occ t4).length))]), .inr (.long, (own_ks t4)), .inr (.int, (own_vs t4)), .inr (.long, (own_rs (own_occ t4) 0))] (by rw [← own_rs0]; rfl)
            refine Go.callS (M' := m8) d0_310 (hw _ (List.mem_of_getElem? (i := 40) rfl)) (hw _ (List.mem_of_getElem? (i := 41) rfl)) (hw _ (List.mem_of_getElem? (i := 42) rfl)) (hw _ (List.mem_of_getElem? (i := 43) rfl)) mi8 (as := [.ref 3, .long k3]) rfl rfl (st := []) rfl (ls1 := [.val (.ref 3), .val (.long k3), .second]) rfl (W := 0) rfl (by decide) (by decide) ghz64 12 152 (by decide) (by decide) ?_
            show Go _ _ _ _ 313 [.val (.long x0), .second, .val (.long x1), .second, .val (.long x2), .second, .val (.long x3), .second, .val (.int x4), .val (.int x5), .val (.long k0), .second, .val (.long k1), .second, .val (.long k2), .second, .val (.long k3), .second, .val (.int 4), .val (.int (x5 &&& 2147483647)), .val (.ref 0), .val (.ref 3), .val (.int 3)] [.int z64] [.inl ("com/example/subsume/subsume/LongIntMap", [("keys", "[J", .ref 1), ("values", "[I", .ref 2), ("size", "I", .int (Int32.ofNat (own_occ t4).length))]), .inr (.long, (own_ks t4)), .inr (.int, (own_vs t4)), .inr (.long, (own_rs (own_occ t4) 0))] _
            refine Go.ifT d0_313 j0_313 (XT.i0_ne_t hzz64) ?_
            refine Go.iconst d0_318 (v := 1) rfl ?_
            exact Go.ireturnZ d0_319 rfl (by decide) rfl HOk.any
    · -- pc 190 not taken
      refine Go.lload d0_193 rfl ?_
      refine Go.lload d0_195 rfl ?_
      refine Go.lcmp d0_197 ?_
      refine Go.lif_eq d0_198 j0_198 (fun h198 => ?_) (fun h198 => ?_)
      · -- pc 198 taken
        refine Go.iload d0_204 rfl ?_
        refine Go.iconst d0_206 (v := 3) rfl ?_
        refine Go.icmpF d0_207 (XT.ii_le_f (by decide)) ?_
        refine Go.lload d0_210 rfl ?_
        refine Go.lload d0_212 rfl ?_
        refine Go.lcmp d0_214 ?_
        refine Go.lif_eq d0_215 j0_215 (fun h215 => ?_) (fun h215 => ?_)
        · -- pc 215 taken
          have L1 : (own_occ t1).length = 1 := (ln1 (fun z => by
              exact mm0 _ z)).trans (congrArg (· + 1) le0)
          have L2 : (own_occ t2).length = 2 := (ln2 (fun z => by
              rcases (mm1 _).mp z with e | z
              · exact h173 e
              exact mm0 _ z)).trans (congrArg (· + 1) L1)
          have L3 : (own_occ t3).length = 2 := (le3 (by rw [h198]; exact ((mm2 _).mpr (Or.inl rfl)))).trans L2
          have L4 : (own_occ t4).length = 2 := (le4 (by rw [h215]; exact ((mm3 _).mpr (Or.inr ((mm2 _).mpr (Or.inr ((mm1 _).mpr (Or.inl rfl)))))))).trans L3
          refine Go.aload d0_237 rfl rfl ?_
          refine Go.arraylength d0_239 rfl (z := 2) (own_rlen L4 rfl) ?_
          refine Go.iload d0_240 rfl ?_
          refine Go.icmpT d0_242 j0_242 (XT.ii_eq_t (by decide)) ?_
          refine Go.iload d0_247 rfl ?_
          refine Go.ifF d0_249 (XT.i0_le_f (by decide)) ?_
          refine Go.aload d0_252 rfl rfl ?_
          refine Go.lload d0_254 rfl ?_
          obtain ⟨z65, hzz65, ghz65⟩ := go_has K hw ((own_occ t4).map (fun x => x.1)) (by rw [List.length_map]; omega) k0 (own_mem_occ ((mm4 _).mpr (Or.inr ((mm3 _).mpr (Or.inr ((mm2 _).mpr (Or.inr ((mm1 _).mpr (Or.inl rfl))))))))) [.inl ("com/example/subsume/subsume/LongIntMap", [("keys", "[J", .ref 1), ("values", "[I", .ref 2), ("size", "I", .int (Int32.ofNat (own_occ t4).length))]), .inr (.long, (own_ks t4)), .inr (.int, (own_vs t4)), .inr (.long, (own_rs (own_occ t4) 0))] (by rw [← own_rs0]; rfl)
          refine Go.callS (M' := m8) d0_256 (hw _ (List.mem_of_getElem? (i := 40) rfl)) (hw _ (List.mem_of_getElem? (i := 41) rfl)) (hw _ (List.mem_of_getElem? (i := 42) rfl)) (hw _ (List.mem_of_getElem? (i := 43) rfl)) mi8 (as := [.ref 3, .long k0]) rfl rfl (st := []) rfl (ls1 := [.val (.ref 3), .val (.long k0), .second]) rfl (W := 0) rfl (by decide) (by decide) ghz65 12 152 (by decide) (by decide) ?_
          show Go _ _ _ _ 259 [.val (.long x0), .second, .val (.long x1), .second, .val (.long x2), .second, .val (.long x3), .second, .val (.int x4), .val (.int x5), .val (.long k0), .second, .val (.long k1), .second, .val (.long k2), .second, .val (.long k3), .second, .val (.int 4), .val (.int (x5 &&& 2147483647)), .val (.ref 0), .val (.ref 3), .val (.int 2)] [.int z65] [.inl ("com/example/subsume/subsume/LongIntMap", [("keys", "[J", .ref 1), ("values", "[I", .ref 2), ("size", "I", .int (Int32.ofNat (own_occ t4).length))]), .inr (.long, (own_ks t4)), .inr (.int, (own_vs t4)), .inr (.long, (own_rs (own_occ t4) 0))] _
          refine Go.ifT d0_259 j0_259 (XT.i0_ne_t hzz65) ?_
          refine Go.iload d0_264 rfl ?_
          refine Go.iconst d0_266 (v := 1) rfl ?_
          refine Go.icmpF d0_267 (XT.ii_le_f (by decide)) ?_
          refine Go.aload d0_270 rfl rfl ?_
          refine Go.lload d0_272 rfl ?_
          obtain ⟨z66, hzz66, ghz66⟩ := go_has K hw ((own_occ t4).map (fun x => x.1)) (by rw [List.length_map]; omega) k1 (own_mem_occ ((mm4 _).mpr (Or.inr ((mm3 _).mpr (Or.inr ((mm2 _).mpr (Or.inl rfl))))))) [.inl ("com/example/subsume/subsume/LongIntMap", [("keys", "[J", .ref 1), ("values", "[I", .ref 2), ("size", "I", .int (Int32.ofNat (own_occ t4).length))]), .inr (.long, (own_ks t4)), .inr (.int, (own_vs t4)), .inr (.long, (own_rs (own_occ t4) 0))] (by rw [← own_rs0]; rfl)
          refine Go.callS (M' := m8) d0_274 (hw _ (List.mem_of_getElem? (i := 40) rfl)) (hw _ (List.mem_of_getElem? (i := 41) rfl)) (hw _ (List.mem_of_getElem? (i := 42) rfl)) (hw _ (List.mem_of_getElem? (i := 43) rfl)) mi8 (as := [.ref 3, .long k1]) rfl rfl (st := []) rfl (ls1 := [.val (.ref 3), .val (.long k1), .second]) rfl (W := 0) rfl (by decide) (by decide) ghz66 12 152 (by decide) (by decide) ?_
          show Go _ _ _ _ 277 [.val (.long x0), .second, .val (.long x1), .second, .val (.long x2), .second, .val (.long x3), .second, .val (.int x4), .val (.int x5), .val (.long k0), .second, .val (.long k1), .second, .val (.long k2), .second, .val (.long k3), .second, .val (.int 4), .val (.int (x5 &&& 2147483647)), .val (.ref 0), .val (.ref 3), .val (.int 2)] [.int z66] [.inl ("com/example/subsume/subsume/LongIntMap", [("keys", "[J", .ref 1), ("values", "[I", .ref 2), ("size", "I", .int (Int32.ofNat (own_occ t4).length))]), .inr (.long, (own_ks t4)), .inr (.int, (own_vs t4)), .inr (.long, (own_rs (own_occ t4) 0))] _
          refine Go.ifT d0_277 j0_277 (XT.i0_ne_t hzz66) ?_
          refine Go.iload d0_282 rfl ?_
          refine Go.iconst d0_284 (v := 2) rfl ?_
          refine Go.icmpF d0_285 (XT.ii_le_f (by decide)) ?_
          refine Go.aload d0_288 rfl rfl ?_
          refine Go.lload d0_290 rfl ?_
          obtain ⟨z67, hzz67, ghz67⟩ := go_has K hw ((own_occ t4).map (fun x => x.1)) (by rw [List.length_map]; omega) k2 (own_mem_occ ((mm4 _).mpr (Or.inr ((mm3 _).mpr (Or.inl rfl))))) [.inl ("com/example/subsume/subsume/LongIntMap", [("keys", "[J", .ref 1), ("values", "[I", .ref 2), ("size", "I", .int (Int32.ofNat (own_occ t4).length))]), .inr (.long, (own_ks t4)), .inr (.int, (own_vs t4)), .inr (.long, (own_rs (own_occ t4) 0))] (by rw [← own_rs0]; rfl)
          refine Go.callS (M' := m8) d0_292 (hw _ (List.mem_of_getElem? (i := 40) rfl)) (hw _ (List.mem_of_getElem? (i := 41) rfl)) (hw _ (List.mem_of_getElem? (i := 42) rfl)) (hw _ (List.mem_of_getElem? (i := 43) rfl)) mi8 (as := [.ref 3, .long k2]) rfl rfl (st := []) rfl (ls1 := [.val (.ref 3), .val (.long k2), .second]) rfl (W := 0) rfl (by decide) (by decide) ghz67 12 152 (by decide) (by decide) ?_
          show Go _ _ _ _ 295 [.val (.long x0), .second, .val (.long x1), .second, .val (.long x2), .second, .val (.long x3), .second, .val (.int x4), .val (.int x5), .val (.long k0), .second, .val (.long k1), .second, .val (.long k2), .second, .val (.long k3), .second, .val (.int 4), .val (.int (x5 &&& 2147483647)), .val (.ref 0), .val (.ref 3), .val (.int 2)] [.int z67] [.inl ("com/example/subsume/subsume/LongIntMap", [("keys", "[J", .ref 1), ("values", "[I", .ref 2), ("size", "I", .int (Int32.ofNat (own_occ t4).length))]), .inr (.long, (own_ks t4)), .inr (.int, (own_vs t4)), .inr (.long, (own_rs (own_occ t4) 0))] _
          refine Go.ifT d0_295 j0_295 (XT.i0_ne_t hzz67) ?_
          refine Go.iload d0_300 rfl ?_
          refine Go.iconst d0_302 (v := 3) rfl ?_
          refine Go.icmpF d0_303 (XT.ii_le_f (by decide)) ?_
          refine Go.aload d0_306 rfl rfl ?_
          refine Go.lload d0_308 rfl ?_
          obtain ⟨z68, hzz68, ghz68⟩ := go_has K hw ((own_occ t4).map (fun x => x.1)) (by rw [List.length_map]; omega) k3 (own_mem_occ ((mm4 _).mpr (Or.inl rfl))) [.inl ("com/example/subsume/subsume/LongIntMap", [("keys", "[J", .ref 1), ("values", "[I", .ref 2), ("size", "I", .int (Int32.ofNat (own_occ t4).length))]), .inr (.long, (own_ks t4)), .inr (.int, (own_vs t4)), .inr (.long, (own_rs (own_occ t4) 0))] (by rw [← own_rs0]; rfl)
          refine Go.callS (M' := m8) d0_310 (hw _ (List.mem_of_getElem? (i := 40) rfl)) (hw _ (List.mem_of_getElem? (i := 41) rfl)) (hw _ (List.mem_of_getElem? (i := 42) rfl)) (hw _ (List.mem_of_getElem? (i := 43) rfl)) mi8 (as := [.ref 3, .long k3]) rfl rfl (st := []) rfl (ls1 := [.val (.ref 3), .val (.long k3), .second]) rfl (W := 0) rfl (by decide) (by decide) ghz68 12 152 (by decide) (by decide) ?_
          show Go _ _ _ _ 313 [.val (.long x0), .second, .val (.long x1), .second, .val (.long x2), .second, .val (.long x3), .second, .val (.int x4), .val (.int x5), .val (.long k0), .second, .val (.long k1), .second, .val (.long k2), .second, .val (.long k3), .second, .val (.int 4), .val (.int (x5 &&& 2147483647)), .val (.ref 0), .val (.ref 3), .val (.int 2)] [.int z68] [.inl ("com/example/subsume/subsume/LongIntMap", [("keys", "[J", .ref 1), ("values", "[I", .ref 2), ("size", "I", .int (Int32.ofNat (own_occ t4).length))]), .inr (.long, (own_ks t4)), .inr (.int, (own_vs t4)), .inr (.long, (own_rs (own_occ t4) 0))] _
          refine Go.ifT d0_313 j0_313 (XT.i0_ne_t hzz68) ?_
          refine Go.iconst d0_318 (v := 1) rfl ?_
          exact Go.ireturnZ d0_319 rfl (by decide) rfl HOk.any
        · -- pc 215 not taken
          refine Go.lload d0_218 rfl ?_
          refine Go.lload d0_220 rfl ?_
          refine Go.lcmp d0_222 ?_
          refine Go.lif_eq d0_223 j0_223 (fun h223 => ?_) (fun h223 => ?_)
          · -- pc 223 taken
            have L1 : (own_occ t1).length = 1 := (ln1 (fun z => by
                exact mm0 _ z)).trans (congrArg (· + 1) le0)
            have L2 : (own_occ t2).length = 2 := (ln2 (fun z => by
                rcases (mm1 _).mp z with e | z
                · exact h173 e
                exact mm0 _ z)).trans (congrArg (· + 1) L1)
            have L3 : (own_occ t3).length = 2 := (le3 (by rw [h198]; exact ((mm2 _).mpr (Or.inl rfl)))).trans L2
            have L4 : (own_occ t4).length = 2 := (le4 (by rw [h223]; exact ((mm3 _).mpr (Or.inr ((mm2 _).mpr (Or.inl rfl)))))).trans L3
            refine Go.aload d0_237 rfl rfl ?_
            refine Go.arraylength d0_239 rfl (z := 2) (own_rlen L4 rfl) ?_
            refine Go.iload d0_240 rfl ?_
            refine Go.icmpT d0_242 j0_242 (XT.ii_eq_t (by decide)) ?_
            refine Go.iload d0_247 rfl ?_
            refine Go.ifF d0_249 (XT.i0_le_f (by decide)) ?_
            refine Go.aload d0_252 rfl rfl ?_
            refine Go.lload d0_254 rfl ?_
            obtain ⟨z69, hzz69, ghz69⟩ := go_has K hw ((own_occ t4).map (fun x => x.1)) (by rw [List.length_map]; omega) k0 (own_mem_occ ((mm4 _).mpr (Or.inr ((mm3 _).mpr (Or.inr ((mm2 _).mpr (Or.inr ((mm1 _).mpr (Or.inl rfl))))))))) [.inl ("com/example/subsume/subsume/LongIntMap", [("keys", "[J", .ref 1), ("values", "[I", .ref 2), ("size", "I", .int (Int32.ofNat (own_occ t4).length))]), .inr (.long, (own_ks t4)), .inr (.int, (own_vs t4)), .inr (.long, (own_rs (own_occ t4) 0))] (by rw [← own_rs0]; rfl)
            refine Go.callS (M' := m8) d0_256 (hw _ (List.mem_of_getElem? (i := 40) rfl)) (hw _ (List.mem_of_getElem? (i := 41) rfl)) (hw _ (List.mem_of_getElem? (i := 42) rfl)) (hw _ (List.mem_of_getElem? (i := 43) rfl)) mi8 (as := [.ref 3, .long k0]) rfl rfl (st := []) rfl (ls1 := [.val (.ref 3), .val (.long k0), .second]) rfl (W := 0) rfl (by decide) (by decide) ghz69 12 152 (by decide) (by decide) ?_
            show Go _ _ _ _ 259 [.val (.long x0), .second, .val (.long x1), .second, .val (.long x2), .second, .val (.long x3), .second, .val (.int x4), .val (.int x5), .val (.long k0), .second, .val (.long k1), .second, .val (.long k2), .second, .val (.long k3), .second, .val (.int 4), .val (.int (x5 &&& 2147483647)), .val (.ref 0), .val (.ref 3), .val (.int 2)] [.int z69] [.inl ("com/example/subsume/subsume/LongIntMap", [("keys", "[J", .ref 1), ("values", "[I", .ref 2), ("size", "I", .int (Int32.ofNat (own_occ t4).length))]), .inr (.long, (own_ks t4)), .inr (.int, (own_vs t4)), .inr (.long, (own_rs (own_occ t4) 0))] _
            refine Go.ifT d0_259 j0_259 (XT.i0_ne_t hzz69) ?_
            refine Go.iload d0_264 rfl ?_
            refine Go.iconst d0_266 (v := 1) rfl ?_
            refine Go.icmpF d0_267 (XT.ii_le_f (by decide)) ?_
            refine Go.aload d0_270 rfl rfl ?_
            refine Go.lload d0_272 rfl ?_
            obtain ⟨z70, hzz70, ghz70⟩ := go_has K hw ((own_occ t4).map (fun x => x.1)) (by rw [List.length_map]; omega) k1 (own_mem_occ ((mm4 _).mpr (Or.inr ((mm3 _).mpr (Or.inr ((mm2 _).mpr (Or.inl rfl))))))) [.inl ("com/example/subsume/subsume/LongIntMap", [("keys", "[J", .ref 1), ("values", "[I", .ref 2), ("size", "I", .int (Int32.ofNat (own_occ t4).length))]), .inr (.long, (own_ks t4)), .inr (.int, (own_vs t4)), .inr (.long, (own_rs (own_occ t4) 0))] (by rw [← own_rs0]; rfl)
            refine Go.callS (M' := m8) d0_274 (hw _ (List.mem_of_getElem? (i := 40) rfl)) (hw _ (List.mem_of_getElem? (i := 41) rfl)) (hw _ (List.mem_of_getElem? (i := 42) rfl)) (hw _ (List.mem_of_getElem? (i := 43) rfl)) mi8 (as := [.ref 3, .long k1]) rfl rfl (st := []) rfl (ls1 := [.val (.ref 3), .val (.long k1), .second]) rfl (W := 0) rfl (by decide) (by decide) ghz70 12 152 (by decide) (by decide) ?_
            show Go _ _ _ _ 277 [.val (.long x0), .second, .val (.long x1), .second, .val (.long x2), .second, .val (.long x3), .second, .val (.int x4), .val (.int x5), .val (.long k0), .second, .val (.long k1), .second, .val (.long k2), .second, .val (.long k3), .second, .val (.int 4), .val (.int (x5 &&& 2147483647)), .val (.ref 0), .val (.ref 3), .val (.int 2)] [.int z70] [.inl ("com/example/subsume/subsume/LongIntMap", [("keys", "[J", .ref 1), ("values", "[I", .ref 2), ("size", "I", .int (Int32.ofNat (own_occ t4).length))]), .inr (.long, (own_ks t4)), .inr (.int, (own_vs t4)), .inr (.long, (own_rs (own_occ t4) 0))] _
            refine Go.ifT d0_277 j0_277 (XT.i0_ne_t hzz70) ?_
            refine Go.iload d0_282 rfl ?_
            refine Go.iconst d0_284 (v := 2) rfl ?_
            refine Go.icmpF d0_285 (XT.ii_le_f (by decide)) ?_
            refine Go.aload d0_288 rfl rfl ?_
            refine Go.lload d0_290 rfl ?_
            obtain ⟨z71, hzz71, ghz71⟩ := go_has K hw ((own_occ t4).map (fun x => x.1)) (by rw [List.length_map]; omega) k2 (own_mem_occ ((mm4 _).mpr (Or.inr ((mm3 _).mpr (Or.inl rfl))))) [.inl ("com/example/subsume/subsume/LongIntMap", [("keys", "[J", .ref 1), ("values", "[I", .ref 2), ("size", "I", .int (Int32.ofNat (own_occ t4).length))]), .inr (.long, (own_ks t4)), .inr (.int, (own_vs t4)), .inr (.long, (own_rs (own_occ t4) 0))] (by rw [← own_rs0]; rfl)
            refine Go.callS (M' := m8) d0_292 (hw _ (List.mem_of_getElem? (i := 40) rfl)) (hw _ (List.mem_of_getElem? (i := 41) rfl)) (hw _ (List.mem_of_getElem? (i := 42) rfl)) (hw _ (List.mem_of_getElem? (i := 43) rfl)) mi8 (as := [.ref 3, .long k2]) rfl rfl (st := []) rfl (ls1 := [.val (.ref 3), .val (.long k2), .second]) rfl (W := 0) rfl (by decide) (by decide) ghz71 12 152 (by decide) (by decide) ?_
            show Go _ _ _ _ 295 [.val (.long x0), .second, .val (.long x1), .second, .val (.long x2), .second, .val (.long x3), .second, .val (.int x4), .val (.int x5), .val (.long k0), .second, .val (.long k1), .second, .val (.long k2), .second, .val (.long k3), .second, .val (.int 4), .val (.int (x5 &&& 2147483647)), .val (.ref 0), .val (.ref 3), .val (.int 2)] [.int z71] [.inl ("com/example/subsume/subsume/LongIntMap", [("keys", "[J", .ref 1), ("values", "[I", .ref 2), ("size", "I", .int (Int32.ofNat (own_occ t4).length))]), .inr (.long, (own_ks t4)), .inr (.int, (own_vs t4)), .inr (.long, (own_rs (own_occ t4) 0))] _
            refine Go.ifT d0_295 j0_295 (XT.i0_ne_t hzz71) ?_
            refine Go.iload d0_300 rfl ?_
            refine Go.iconst d0_302 (v := 3) rfl ?_
            refine Go.icmpF d0_303 (XT.ii_le_f (by decide)) ?_
            refine Go.aload d0_306 rfl rfl ?_
            refine Go.lload d0_308 rfl ?_
            obtain ⟨z72, hzz72, ghz72⟩ := go_has K hw ((own_occ t4).map (fun x => x.1)) (by rw [List.length_map]; omega) k3 (own_mem_occ ((mm4 _).mpr (Or.inl rfl))) [.inl ("com/example/subsume/subsume/LongIntMap", [("keys", "[J", .ref 1), ("values", "[I", .ref 2), ("size", "I", .int (Int32.ofNat (own_occ t4).length))]), .inr (.long, (own_ks t4)), .inr (.int, (own_vs t4)), .inr (.long, (own_rs (own_occ t4) 0))] (by rw [← own_rs0]; rfl)
            refine Go.callS (M' := m8) d0_310 (hw _ (List.mem_of_getElem? (i := 40) rfl)) (hw _ (List.mem_of_getElem? (i := 41) rfl)) (hw _ (List.mem_of_getElem? (i := 42) rfl)) (hw _ (List.mem_of_getElem? (i := 43) rfl)) mi8 (as := [.ref 3, .long k3]) rfl rfl (st := []) rfl (ls1 := [.val (.ref 3), .val (.long k3), .second]) rfl (W := 0) rfl (by decide) (by decide) ghz72 12 152 (by decide) (by decide) ?_
            show Go _ _ _ _ 313 [.val (.long x0), .second, .val (.long x1), .second, .val (.long x2), .second, .val (.long x3), .second, .val (.int x4), .val (.int x5), .val (.long k0), .second, .val (.long k1), .second, .val (.long k2), .second, .val (.long k3), .second, .val (.int 4), .val (.int (x5 &&& 2147483647)), .val (.ref 0), .val (.ref 3), .val (.int 2)] [.int z72] [.inl ("com/example/subsume/subsume/LongIntMap", [("keys", "[J", .ref 1), ("values", "[I", .ref 2), ("size", "I", .int (Int32.ofNat (own_occ t4).length))]), .inr (.long, (own_ks t4)), .inr (.int, (own_vs t4)), .inr (.long, (own_rs (own_occ t4) 0))] _
            refine Go.ifT d0_313 j0_313 (XT.i0_ne_t hzz72) ?_
            refine Go.iconst d0_318 (v := 1) rfl ?_
            exact Go.ireturnZ d0_319 rfl (by decide) rfl HOk.any
          · -- pc 223 not taken
            refine Go.lload d0_226 rfl ?_
            refine Go.lload d0_228 rfl ?_
            refine Go.lcmp d0_230 ?_
            refine Go.lif_eq d0_231 j0_231 (fun h231 => ?_) (fun h231 => ?_)
            · -- pc 231 taken
              have L1 : (own_occ t1).length = 1 := (ln1 (fun z => by
                  exact mm0 _ z)).trans (congrArg (· + 1) le0)
              have L2 : (own_occ t2).length = 2 := (ln2 (fun z => by
                  rcases (mm1 _).mp z with e | z
                  · exact h173 e
                  exact mm0 _ z)).trans (congrArg (· + 1) L1)
              have L3 : (own_occ t3).length = 2 := (le3 (by rw [h198]; exact ((mm2 _).mpr (Or.inl rfl)))).trans L2
              have L4 : (own_occ t4).length = 2 := (le4 (by rw [h231]; exact ((mm3 _).mpr (Or.inl rfl)))).trans L3
              refine Go.aload d0_237 rfl rfl ?_
              refine Go.arraylength d0_239 rfl (z := 2) (own_rlen L4 rfl) ?_
              refine Go.iload d0_240 rfl ?_
              refine Go.icmpT d0_242 j0_242 (XT.ii_eq_t (by decide)) ?_
              refine Go.iload d0_247 rfl ?_
              refine Go.ifF d0_249 (XT.i0_le_f (by decide)) ?_
              refine Go.aload d0_252 rfl rfl ?_
              refine Go.lload d0_254 rfl ?_
              obtain ⟨z73, hzz73, ghz73⟩ := go_has K hw ((own_occ t4).map (fun x => x.1)) (by rw [List.length_map]; omega) k0 (own_mem_occ ((mm4 _).mpr (Or.inr ((mm3 _).mpr (Or.inr ((mm2 _).mpr (Or.inr ((mm1 _).mpr (Or.inl rfl))))))))) [.inl ("com/example/subsume/subsume/LongIntMap", [("keys", "[J", .ref 1), ("values", "[I", .ref 2), ("size", "I", .int (Int32.ofNat (own_occ t4).length))]), .inr (.long, (own_ks t4)), .inr (.int, (own_vs t4)), .inr (.long, (own_rs (own_occ t4) 0))] (by rw [← own_rs0]; rfl)
              refine Go.callS (M' := m8) d0_256 (hw _ (List.mem_of_getElem? (i := 40) rfl)) (hw _ (List.mem_of_getElem? (i := 41) rfl)) (hw _ (List.mem_of_getElem? (i := 42) rfl)) (hw _ (List.mem_of_getElem? (i := 43) rfl)) mi8 (as := [.ref 3, .long k0]) rfl rfl (st := []) rfl (ls1 := [.val (.ref 3), .val (.long k0), .second]) rfl (W := 0) rfl (by decide) (by decide) ghz73 12 152 (by decide) (by decide) ?_
              show Go _ _ _ _ 259 [.val (.long x0), .second, .val (.long x1), .second, .val (.long x2), .second, .val (.long x3), .second, .val (.int x4), .val (.int x5), .val (.long k0), .second, .val (.long k1), .second, .val (.long k2), .second, .val (.long k3), .second, .val (.int 4), .val (.int (x5 &&& 2147483647)), .val (.ref 0), .val (.ref 3), .val (.int 2)] [.int z73] [.inl ("com/example/subsume/subsume/LongIntMap", [("keys", "[J", .ref 1), ("values", "[I", .ref 2), ("size", "I", .int (Int32.ofNat (own_occ t4).length))]), .inr (.long, (own_ks t4)), .inr (.int, (own_vs t4)), .inr (.long, (own_rs (own_occ t4) 0))] _
              refine Go.ifT d0_259 j0_259 (XT.i0_ne_t hzz73) ?_
              refine Go.iload d0_264 rfl ?_
              refine Go.iconst d0_266 (v := 1) rfl ?_
              refine Go.icmpF d0_267 (XT.ii_le_f (by decide)) ?_
              refine Go.aload d0_270 rfl rfl ?_
              refine Go.lload d0_272 rfl ?_
              obtain ⟨z74, hzz74, ghz74⟩ := go_has K hw ((own_occ t4).map (fun x => x.1)) (by rw [List.length_map]; omega) k1 (own_mem_occ ((mm4 _).mpr (Or.inr ((mm3 _).mpr (Or.inr ((mm2 _).mpr (Or.inl rfl))))))) [.inl ("com/example/subsume/subsume/LongIntMap", [("keys", "[J", .ref 1), ("values", "[I", .ref 2), ("size", "I", .int (Int32.ofNat (own_occ t4).length))]), .inr (.long, (own_ks t4)), .inr (.int, (own_vs t4)), .inr (.long, (own_rs (own_occ t4) 0))] (by rw [← own_rs0]; rfl)
              refine Go.callS (M' := m8) d0_274 (hw _ (List.mem_of_getElem? (i := 40) rfl)) (hw _ (List.mem_of_getElem? (i := 41) rfl)) (hw _ (List.mem_of_getElem? (i := 42) rfl)) (hw _ (List.mem_of_getElem? (i := 43) rfl)) mi8 (as := [.ref 3, .long k1]) rfl rfl (st := []) rfl (ls1 := [.val (.ref 3), .val (.long k1), .second]) rfl (W := 0) rfl (by decide) (by decide) ghz74 12 152 (by decide) (by decide) ?_
              show Go _ _ _ _ 277 [.val (.long x0), .second, .val (.long x1), .second, .val (.long x2), .second, .val (.long x3), .second, .val (.int x4), .val (.int x5), .val (.long k0), .second, .val (.long k1), .second, .val (.long k2), .second, .val (.long k3), .second, .val (.int 4), .val (.int (x5 &&& 2147483647)), .val (.ref 0), .val (.ref 3), .val (.int 2)] [.int z74] [.inl ("com/example/subsume/subsume/LongIntMap", [("keys", "[J", .ref 1), ("values", "[I", .ref 2), ("size", "I", .int (Int32.ofNat (own_occ t4).length))]), .inr (.long, (own_ks t4)), .inr (.int, (own_vs t4)), .inr (.long, (own_rs (own_occ t4) 0))] _
              refine Go.ifT d0_277 j0_277 (XT.i0_ne_t hzz74) ?_
              refine Go.iload d0_282 rfl ?_
              refine Go.iconst d0_284 (v := 2) rfl ?_
              refine Go.icmpF d0_285 (XT.ii_le_f (by decide)) ?_
              refine Go.aload d0_288 rfl rfl ?_
              refine Go.lload d0_290 rfl ?_
              obtain ⟨z75, hzz75, ghz75⟩ := go_has K hw ((own_occ t4).map (fun x => x.1)) (by rw [List.length_map]; omega) k2 (own_mem_occ ((mm4 _).mpr (Or.inr ((mm3 _).mpr (Or.inl rfl))))) [.inl ("com/example/subsume/subsume/LongIntMap", [("keys", "[J", .ref 1), ("values", "[I", .ref 2), ("size", "I", .int (Int32.ofNat (own_occ t4).length))]), .inr (.long, (own_ks t4)), .inr (.int, (own_vs t4)), .inr (.long, (own_rs (own_occ t4) 0))] (by rw [← own_rs0]; rfl)
              refine Go.callS (M' := m8) d0_292 (hw _ (List.mem_of_getElem? (i := 40) rfl)) (hw _ (List.mem_of_getElem? (i := 41) rfl)) (hw _ (List.mem_of_getElem? (i := 42) rfl)) (hw _ (List.mem_of_getElem? (i := 43) rfl)) mi8 (as := [.ref 3, .long k2]) rfl rfl (st := []) rfl (ls1 := [.val (.ref 3), .val (.long k2), .second]) rfl (W := 0) rfl (by decide) (by decide) ghz75 12 152 (by decide) (by decide) ?_
              show Go _ _ _ _ 295 [.val (.long x0), .second, .val (.long x1), .second, .val (.long x2), .second, .val (.long x3), .second, .val (.int x4), .val (.int x5), .val (.long k0), .second, .val (.long k1), .second, .val (.long k2), .second, .val (.long k3), .second, .val (.int 4), .val (.int (x5 &&& 2147483647)), .val (.ref 0), .val (.ref 3), .val (.int 2)] [.int z75] [.inl ("com/example/subsume/subsume/LongIntMap", [("keys", "[J", .ref 1), ("values", "[I", .ref 2), ("size", "I", .int (Int32.ofNat (own_occ t4).length))]), .inr (.long, (own_ks t4)), .inr (.int, (own_vs t4)), .inr (.long, (own_rs (own_occ t4) 0))] _
              refine Go.ifT d0_295 j0_295 (XT.i0_ne_t hzz75) ?_
              refine Go.iload d0_300 rfl ?_
              refine Go.iconst d0_302 (v := 3) rfl ?_
              refine Go.icmpF d0_303 (XT.ii_le_f (by decide)) ?_
              refine Go.aload d0_306 rfl rfl ?_
              refine Go.lload d0_308 rfl ?_
              obtain ⟨z76, hzz76, ghz76⟩ := go_has K hw ((own_occ t4).map (fun x => x.1)) (by rw [List.length_map]; omega) k3 (own_mem_occ ((mm4 _).mpr (Or.inl rfl))) [.inl ("com/example/subsume/subsume/LongIntMap", [("keys", "[J", .ref 1), ("values", "[I", .ref 2), ("size", "I", .int (Int32.ofNat (own_occ t4).length))]), .inr (.long, (own_ks t4)), .inr (.int, (own_vs t4)), .inr (.long, (own_rs (own_occ t4) 0))] (by rw [← own_rs0]; rfl)
              refine Go.callS (M' := m8) d0_310 (hw _ (List.mem_of_getElem? (i := 40) rfl)) (hw _ (List.mem_of_getElem? (i := 41) rfl)) (hw _ (List.mem_of_getElem? (i := 42) rfl)) (hw _ (List.mem_of_getElem? (i := 43) rfl)) mi8 (as := [.ref 3, .long k3]) rfl rfl (st := []) rfl (ls1 := [.val (.ref 3), .val (.long k3), .second]) rfl (W := 0) rfl (by decide) (by decide) ghz76 12 152 (by decide) (by decide) ?_
              show Go _ _ _ _ 313 [.val (.long x0), .second, .val (.long x1), .second, .val (.long x2), .second, .val (.long x3), .second, .val (.int x4), .val (.int x5), .val (.long k0), .second, .val (.long k1), .second, .val (.long k2), .second, .val (.long k3), .second, .val (.int 4), .val (.int (x5 &&& 2147483647)), .val (.ref 0), .val (.ref 3), .val (.int 2)] [.int z76] [.inl ("com/example/subsume/subsume/LongIntMap", [("keys", "[J", .ref 1), ("values", "[I", .ref 2), ("size", "I", .int (Int32.ofNat (own_occ t4).length))]), .inr (.long, (own_ks t4)), .inr (.int, (own_vs t4)), .inr (.long, (own_rs (own_occ t4) 0))] _
              refine Go.ifT d0_313 j0_313 (XT.i0_ne_t hzz76) ?_
              refine Go.iconst d0_318 (v := 1) rfl ?_
              exact Go.ireturnZ d0_319 rfl (by decide) rfl HOk.any
            · -- pc 231 not taken
              refine Go.iinc d0_234 (v := 1) rfl rfl (ls' := [.val (.long x0), .second, .val (.long x1), .second, .val (.long x2), .second, .val (.long x3), .second, .val (.int x4), .val (.int x5), .val (.long k0), .second, .val (.long k1), .second, .val (.long k2), .second, .val (.long k3), .second, .val (.int 4), .val (.int (x5 &&& 2147483647)), .val (.ref 0), .val (.ref 3), .val (.int 3)]) rfl ?_
              have L1 : (own_occ t1).length = 1 := (ln1 (fun z => by
                  exact mm0 _ z)).trans (congrArg (· + 1) le0)
              have L2 : (own_occ t2).length = 2 := (ln2 (fun z => by
                  rcases (mm1 _).mp z with e | z
                  · exact h173 e
                  exact mm0 _ z)).trans (congrArg (· + 1) L1)
              have L3 : (own_occ t3).length = 2 := (le3 (by rw [h198]; exact ((mm2 _).mpr (Or.inl rfl)))).trans L2
              have L4 : (own_occ t4).length = 3 := (ln4 (fun z => by
                  rcases (mm3 _).mp z with e | z
                  · exact h231 e
                  rcases (mm2 _).mp z with e | z
                  · exact h223 e
                  rcases (mm1 _).mp z with e | z
                  · exact h215 e
                  exact mm0 _ z)).trans (congrArg (· + 1) L3)
              refine Go.aload d0_237 rfl rfl ?_
              refine Go.arraylength d0_239 rfl (z := 3) (own_rlen L4 rfl) ?_
              refine Go.iload d0_240 rfl ?_
              refine Go.icmpT d0_242 j0_242 (XT.ii_eq_t (by decide)) ?_
              refine Go.iload d0_247 rfl ?_
              refine Go.ifF d0_249 (XT.i0_le_f (by decide)) ?_
              refine Go.aload d0_252 rfl rfl ?_
              refine Go.lload d0_254 rfl ?_
              obtain ⟨z77, hzz77, ghz77⟩ := go_has K hw ((own_occ t4).map (fun x => x.1)) (by rw [List.length_map]; omega) k0 (own_mem_occ ((mm4 _).mpr (Or.inr ((mm3 _).mpr (Or.inr ((mm2 _).mpr (Or.inr ((mm1 _).mpr (Or.inl rfl))))))))) [.inl ("com/example/subsume/subsume/LongIntMap", [("keys", "[J", .ref 1), ("values", "[I", .ref 2), ("size", "I", .int (Int32.ofNat (own_occ t4).length))]), .inr (.long, (own_ks t4)), .inr (.int, (own_vs t4)), .inr (.long, (own_rs (own_occ t4) 0))] (by rw [← own_rs0]; rfl)
              refine Go.callS (M' := m8) d0_256 (hw _ (List.mem_of_getElem? (i := 40) rfl)) (hw _ (List.mem_of_getElem? (i := 41) rfl)) (hw _ (List.mem_of_getElem? (i := 42) rfl)) (hw _ (List.mem_of_getElem? (i := 43) rfl)) mi8 (as := [.ref 3, .long k0]) rfl rfl (st := []) rfl (ls1 := [.val (.ref 3), .val (.long k0), .second]) rfl (W := 0) rfl (by decide) (by decide) ghz77 12 152 (by decide) (by decide) ?_
              show Go _ _ _ _ 259 [.val (.long x0), .second, .val (.long x1), .second, .val (.long x2), .second, .val (.long x3), .second, .val (.int x4), .val (.int x5), .val (.long k0), .second, .val (.long k1), .second, .val (.long k2), .second, .val (.long k3), .second, .val (.int 4), .val (.int (x5 &&& 2147483647)), .val (.ref 0), .val (.ref 3), .val (.int 3)] [.int z77] [.inl ("com/example/subsume/subsume/LongIntMap", [("keys", "[J", .ref 1), ("values", "[I", .ref 2), ("size", "I", .int (Int32.ofNat (own_occ t4).length))]), .inr (.long, (own_ks t4)), .inr (.int, (own_vs t4)), .inr (.long, (own_rs (own_occ t4) 0))] _
              refine Go.ifT d0_259 j0_259 (XT.i0_ne_t hzz77) ?_
              refine Go.iload d0_264 rfl ?_
              refine Go.iconst d0_266 (v := 1) rfl ?_
              refine Go.icmpF d0_267 (XT.ii_le_f (by decide)) ?_
              refine Go.aload d0_270 rfl rfl ?_
              refine Go.lload d0_272 rfl ?_
              obtain ⟨z78, hzz78, ghz78⟩ := go_has K hw ((own_occ t4).map (fun x => x.1)) (by rw [List.length_map]; omega) k1 (own_mem_occ ((mm4 _).mpr (Or.inr ((mm3 _).mpr (Or.inr ((mm2 _).mpr (Or.inl rfl))))))) [.inl ("com/example/subsume/subsume/LongIntMap", [("keys", "[J", .ref 1), ("values", "[I", .ref 2), ("size", "I", .int (Int32.ofNat (own_occ t4).length))]), .inr (.long, (own_ks t4)), .inr (.int, (own_vs t4)), .inr (.long, (own_rs (own_occ t4) 0))] (by rw [← own_rs0]; rfl)
              refine Go.callS (M' := m8) d0_274 (hw _ (List.mem_of_getElem? (i := 40) rfl)) (hw _ (List.mem_of_getElem? (i := 41) rfl)) (hw _ (List.mem_of_getElem? (i := 42) rfl)) (hw _ (List.mem_of_getElem? (i := 43) rfl)) mi8 (as := [.ref 3, .long k1]) rfl rfl (st := []) rfl (ls1 := [.val (.ref 3), .val (.long k1), .second]) rfl (W := 0) rfl (by decide) (by decide) ghz78 12 152 (by decide) (by decide) ?_
              show Go _ _ _ _ 277 [.val (.long x0), .second, .val (.long x1), .second, .val (.long x2), .second, .val (.long x3), .second, .val (.int x4), .val (.int x5), .val (.long k0), .second, .val (.long k1), .second, .val (.long k2), .second, .val (.long k3), .second, .val (.int 4), .val (.int (x5 &&& 2147483647)), .val (.ref 0), .val (.ref 3), .val (.int 3)] [.int z78] [.inl ("com/example/subsume/subsume/LongIntMap", [("keys", "[J", .ref 1), ("values", "[I", .ref 2), ("size", "I", .int (Int32.ofNat (own_occ t4).length))]), .inr (.long, (own_ks t4)), .inr (.int, (own_vs t4)), .inr (.long, (own_rs (own_occ t4) 0))] _
              refine Go.ifT d0_277 j0_277 (XT.i0_ne_t hzz78) ?_
              refine Go.iload d0_282 rfl ?_
              refine Go.iconst d0_284 (v := 2) rfl ?_
              refine Go.icmpF d0_285 (XT.ii_le_f (by decide)) ?_
              refine Go.aload d0_288 rfl rfl ?_
              refine Go.lload d0_290 rfl ?_
              obtain ⟨z79, hzz79, ghz79⟩ := go_has K hw ((own_occ t4).map (fun x => x.1)) (by rw [List.length_map]; omega) k2 (own_mem_occ ((mm4 _).mpr (Or.inr ((mm3 _).mpr (Or.inl rfl))))) [.inl ("com/example/subsume/subsume/LongIntMap", [("keys", "[J", .ref 1), ("values", "[I", .ref 2), ("size", "I", .int (Int32.ofNat (own_occ t4).length))]), .inr (.long, (own_ks t4)), .inr (.int, (own_vs t4)), .inr (.long, (own_rs (own_occ t4) 0))] (by rw [← own_rs0]; rfl)
              refine Go.callS (M' := m8) d0_292 (hw _ (List.mem_of_getElem? (i := 40) rfl)) (hw _ (List.mem_of_getElem? (i := 41) rfl)) (hw _ (List.mem_of_getElem? (i := 42) rfl)) (hw _ (List.mem_of_getElem? (i := 43) rfl)) mi8 (as := [.ref 3, .long k2]) rfl rfl (st := []) rfl (ls1 := [.val (.ref 3), .val (.long k2), .second]) rfl (W := 0) rfl (by decide) (by decide) ghz79 12 152 (by decide) (by decide) ?_
              show Go _ _ _ _ 295 [.val (.long x0), .second, .val (.long x1), .second, .val (.long x2), .second, .val (.long x3), .second, .val (.int x4), .val (.int x5), .val (.long k0), .second, .val (.long k1), .second, .val (.long k2), .second, .val (.long k3), .second, .val (.int 4), .val (.int (x5 &&& 2147483647)), .val (.ref 0), .val (.ref 3), .val (.int 3)] [.int z79] [.inl ("com/example/subsume/subsume/LongIntMap", [("keys", "[J", .ref 1), ("values", "[I", .ref 2), ("size", "I", .int (Int32.ofNat (own_occ t4).length))]), .inr (.long, (own_ks t4)), .inr (.int, (own_vs t4)), .inr (.long, (own_rs (own_occ t4) 0))] _
              refine Go.ifT d0_295 j0_295 (XT.i0_ne_t hzz79) ?_
              refine Go.iload d0_300 rfl ?_
              refine Go.iconst d0_302 (v := 3) rfl ?_
              refine Go.icmpF d0_303 (XT.ii_le_f (by decide)) ?_
              refine Go.aload d0_306 rfl rfl ?_
              refine Go.lload d0_308 rfl ?_
              obtain ⟨z80, hzz80, ghz80⟩ := go_has K hw ((own_occ t4).map (fun x => x.1)) (by rw [List.length_map]; omega) k3 (own_mem_occ ((mm4 _).mpr (Or.inl rfl))) [.inl ("com/example/subsume/subsume/LongIntMap", [("keys", "[J", .ref 1), ("values", "[I", .ref 2), ("size", "I", .int (Int32.ofNat (own_occ t4).length))]), .inr (.long, (own_ks t4)), .inr (.int, (own_vs t4)), .inr (.long, (own_rs (own_occ t4) 0))] (by rw [← own_rs0]; rfl)
              refine Go.callS (M' := m8) d0_310 (hw _ (List.mem_of_getElem? (i := 40) rfl)) (hw _ (List.mem_of_getElem? (i := 41) rfl)) (hw _ (List.mem_of_getElem? (i := 42) rfl)) (hw _ (List.mem_of_getElem? (i := 43) rfl)) mi8 (as := [.ref 3, .long k3]) rfl rfl (st := []) rfl (ls1 := [.val (.ref 3), .val (.long k3), .second]) rfl (W := 0) rfl (by decide) (by decide) ghz80 12 152 (by decide) (by decide) ?_
              show Go _ _ _ _ 313 [.val (.long x0), .second, .val (.long x1), .second, .val (.long x2), .second, .val (.long x3), .second, .val (.int x4), .val (.int x5), .val (.long k0), .second, .val (.long k1), .second, .val (.long k2), .second, .val (.long k3), .second, .val (.int 4), .val (.int (x5 &&& 2147483647)), .val (.ref 0), .val (.ref 3), .val (.int 3)] [.int z80] [.inl ("com/example/subsume/subsume/LongIntMap", [("keys", "[J", .ref 1), ("values", "[I", .ref 2), ("size", "I", .int (Int32.ofNat (own_occ t4).length))]), .inr (.long, (own_ks t4)), .inr (.int, (own_vs t4)), .inr (.long, (own_rs (own_occ t4) 0))] _
              refine Go.ifT d0_313 j0_313 (XT.i0_ne_t hzz80) ?_
              refine Go.iconst d0_318 (v := 1) rfl ?_
              exact Go.ireturnZ d0_319 rfl (by decide) rfl HOk.any
      · -- pc 198 not taken
        refine Go.iinc d0_201 (v := 1) rfl rfl (ls' := [.val (.long x0), .second, .val (.long x1), .second, .val (.long x2), .second, .val (.long x3), .second, .val (.int x4), .val (.int x5), .val (.long k0), .second, .val (.long k1), .second, .val (.long k2), .second, .val (.long k3), .second, .val (.int 4), .val (.int (x5 &&& 2147483647)), .val (.ref 0), .val (.ref 3), .val (.int 3)]) rfl ?_
        refine Go.iload d0_204 rfl ?_
        refine Go.iconst d0_206 (v := 3) rfl ?_
        refine Go.icmpF d0_207 (XT.ii_le_f (by decide)) ?_
        refine Go.lload d0_210 rfl ?_
        refine Go.lload d0_212 rfl ?_
        refine Go.lcmp d0_214 ?_
        refine Go.lif_eq d0_215 j0_215 (fun h215 => ?_) (fun h215 => ?_)
        · -- pc 215 taken
          have L1 : (own_occ t1).length = 1 := (ln1 (fun z => by
              exact mm0 _ z)).trans (congrArg (· + 1) le0)
          have L2 : (own_occ t2).length = 2 := (ln2 (fun z => by
              rcases (mm1 _).mp z with e | z
              · exact h173 e
              exact mm0 _ z)).trans (congrArg (· + 1) L1)
          have L3 : (own_occ t3).length = 3 := (ln3 (fun z => by
              rcases (mm2 _).mp z with e | z
              · exact h198 e
              rcases (mm1 _).mp z with e | z
              · exact h190 e
              exact mm0 _ z)).trans (congrArg (· + 1) L2)
          have L4 : (own_occ t4).length = 3 := (le4 (by rw [h215]; exact ((mm3 _).mpr (Or.inr ((mm2 _).mpr (Or.inr ((mm1 _).mpr (Or.inl rfl)))))))).trans L3
          refine Go.aload d0_237 rfl rfl ?_
          refine Go.arraylength d0_239 rfl (z := 3) (own_rlen L4 rfl) ?_
          refine Go.iload d0_240 rfl ?_
          refine Go.icmpT d0_242 j0_242 (XT.ii_eq_t (by decide)) ?_
          refine Go.iload d0_247 rfl ?_
          refine Go.ifF d0_249 (XT.i0_le_f (by decide)) ?_
          refine Go.aload d0_252 rfl rfl ?_
          refine Go.lload d0_254 rfl ?_
          obtain ⟨z81, hzz81, ghz81⟩ := go_has K hw ((own_occ t4).map (fun x => x.1)) (by rw [List.length_map]; omega) k0 (own_mem_occ ((mm4 _).mpr (Or.inr ((mm3 _).mpr (Or.inr ((mm2 _).mpr (Or.inr ((mm1 _).mpr (Or.inl rfl))))))))) [.inl ("com/example/subsume/subsume/LongIntMap", [("keys", "[J", .ref 1), ("values", "[I", .ref 2), ("size", "I", .int (Int32.ofNat (own_occ t4).length))]), .inr (.long, (own_ks t4)), .inr (.int, (own_vs t4)), .inr (.long, (own_rs (own_occ t4) 0))] (by rw [← own_rs0]; rfl)
          refine Go.callS (M' := m8) d0_256 (hw _ (List.mem_of_getElem? (i := 40) rfl)) (hw _ (List.mem_of_getElem? (i := 41) rfl)) (hw _ (List.mem_of_getElem? (i := 42) rfl)) (hw _ (List.mem_of_getElem? (i := 43) rfl)) mi8 (as := [.ref 3, .long k0]) rfl rfl (st := []) rfl (ls1 := [.val (.ref 3), .val (.long k0), .second]) rfl (W := 0) rfl (by decide) (by decide) ghz81 12 152 (by decide) (by decide) ?_
          show Go _ _ _ _ 259 [.val (.long x0), .second, .val (.long x1), .second, .val (.long x2), .second, .val (.long x3), .second, .val (.int x4), .val (.int x5), .val (.long k0), .second, .val (.long k1), .second, .val (.long k2), .second, .val (.long k3), .second, .val (.int 4), .val (.int (x5 &&& 2147483647)), .val (.ref 0), .val (.ref 3), .val (.int 3)] [.int z81] [.inl ("com/example/subsume/subsume/LongIntMap", [("keys", "[J", .ref 1), ("values", "[I", .ref 2), ("size", "I", .int (Int32.ofNat (own_occ t4).length))]), .inr (.long, (own_ks t4)), .inr (.int, (own_vs t4)), .inr (.long, (own_rs (own_occ t4) 0))] _
          refine Go.ifT d0_259 j0_259 (XT.i0_ne_t hzz81) ?_
          refine Go.iload d0_264 rfl ?_
          refine Go.iconst d0_266 (v := 1) rfl ?_
          refine Go.icmpF d0_267 (XT.ii_le_f (by decide)) ?_
          refine Go.aload d0_270 rfl rfl ?_
          refine Go.lload d0_272 rfl ?_
          obtain ⟨z82, hzz82, ghz82⟩ := go_has K hw ((own_occ t4).map (fun x => x.1)) (by rw [List.length_map]; omega) k1 (own_mem_occ ((mm4 _).mpr (Or.inr ((mm3 _).mpr (Or.inr ((mm2 _).mpr (Or.inl rfl))))))) [.inl ("com/example/subsume/subsume/LongIntMap", [("keys", "[J", .ref 1), ("values", "[I", .ref 2), ("size", "I", .int (Int32.ofNat (own_occ t4).length))]), .inr (.long, (own_ks t4)), .inr (.int, (own_vs t4)), .inr (.long, (own_rs (own_occ t4) 0))] (by rw [← own_rs0]; rfl)
          refine Go.callS (M' := m8) d0_274 (hw _ (List.mem_of_getElem? (i := 40) rfl)) (hw _ (List.mem_of_getElem? (i := 41) rfl)) (hw _ (List.mem_of_getElem? (i := 42) rfl)) (hw _ (List.mem_of_getElem? (i := 43) rfl)) mi8 (as := [.ref 3, .long k1]) rfl rfl (st := []) rfl (ls1 := [.val (.ref 3), .val (.long k1), .second]) rfl (W := 0) rfl (by decide) (by decide) ghz82 12 152 (by decide) (by decide) ?_
          show Go _ _ _ _ 277 [.val (.long x0), .second, .val (.long x1), .second, .val (.long x2), .second, .val (.long x3), .second, .val (.int x4), .val (.int x5), .val (.long k0), .second, .val (.long k1), .second, .val (.long k2), .second, .val (.long k3), .second, .val (.int 4), .val (.int (x5 &&& 2147483647)), .val (.ref 0), .val (.ref 3), .val (.int 3)] [.int z82] [.inl ("com/example/subsume/subsume/LongIntMap", [("keys", "[J", .ref 1), ("values", "[I", .ref 2), ("size", "I", .int (Int32.ofNat (own_occ t4).length))]), .inr (.long, (own_ks t4)), .inr (.int, (own_vs t4)), .inr (.long, (own_rs (own_occ t4) 0))] _
          refine Go.ifT d0_277 j0_277 (XT.i0_ne_t hzz82) ?_
          refine Go.iload d0_282 rfl ?_
          refine Go.iconst d0_284 (v := 2) rfl ?_
          refine Go.icmpF d0_285 (XT.ii_le_f (by decide)) ?_
          refine Go.aload d0_288 rfl rfl ?_
          refine Go.lload d0_290 rfl ?_
          obtain ⟨z83, hzz83, ghz83⟩ := go_has K hw ((own_occ t4).map (fun x => x.1)) (by rw [List.length_map]; omega) k2 (own_mem_occ ((mm4 _).mpr (Or.inr ((mm3 _).mpr (Or.inl rfl))))) [.inl ("com/example/subsume/subsume/LongIntMap", [("keys", "[J", .ref 1), ("values", "[I", .ref 2), ("size", "I", .int (Int32.ofNat (own_occ t4).length))]), .inr (.long, (own_ks t4)), .inr (.int, (own_vs t4)), .inr (.long, (own_rs (own_occ t4) 0))] (by rw [← own_rs0]; rfl)
          refine Go.callS (M' := m8) d0_292 (hw _ (List.mem_of_getElem? (i := 40) rfl)) (hw _ (List.mem_of_getElem? (i := 41) rfl)) (hw _ (List.mem_of_getElem? (i := 42) rfl)) (hw _ (List.mem_of_getElem? (i := 43) rfl)) mi8 (as := [.ref 3, .long k2]) rfl rfl (st := []) rfl (ls1 := [.val (.ref 3), .val (.long k2), .second]) rfl (W := 0) rfl (by decide) (by decide) ghz83 12 152 (by decide) (by decide) ?_
          show Go _ _ _ _ 295 [.val (.long x0), .second, .val (.long x1), .second, .val (.long x2), .second, .val (.long x3), .second, .val (.int x4), .val (.int x5), .val (.long k0), .second, .val (.long k1), .second, .val (.long k2), .second, .val (.long k3), .second, .val (.int 4), .val (.int (x5 &&& 2147483647)), .val (.ref 0), .val (.ref 3), .val (.int 3)] [.int z83] [.inl ("com/example/subsume/subsume/LongIntMap", [("keys", "[J", .ref 1), ("values", "[I", .ref 2), ("size", "I", .int (Int32.ofNat (own_occ t4).length))]), .inr (.long, (own_ks t4)), .inr (.int, (own_vs t4)), .inr (.long, (own_rs (own_occ t4) 0))] _
          refine Go.ifT d0_295 j0_295 (XT.i0_ne_t hzz83) ?_
          refine Go.iload d0_300 rfl ?_
          refine Go.iconst d0_302 (v := 3) rfl ?_
          refine Go.icmpF d0_303 (XT.ii_le_f (by decide)) ?_
          refine Go.aload d0_306 rfl rfl ?_
          refine Go.lload d0_308 rfl ?_
          obtain ⟨z84, hzz84, ghz84⟩ := go_has K hw ((own_occ t4).map (fun x => x.1)) (by rw [List.length_map]; omega) k3 (own_mem_occ ((mm4 _).mpr (Or.inl rfl))) [.inl ("com/example/subsume/subsume/LongIntMap", [("keys", "[J", .ref 1), ("values", "[I", .ref 2), ("size", "I", .int (Int32.ofNat (own_occ t4).length))]), .inr (.long, (own_ks t4)), .inr (.int, (own_vs t4)), .inr (.long, (own_rs (own_occ t4) 0))] (by rw [← own_rs0]; rfl)
          refine Go.callS (M' := m8) d0_310 (hw _ (List.mem_of_getElem? (i := 40) rfl)) (hw _ (List.mem_of_getElem? (i := 41) rfl)) (hw _ (List.mem_of_getElem? (i := 42) rfl)) (hw _ (List.mem_of_getElem? (i := 43) rfl)) mi8 (as := [.ref 3, .long k3]) rfl rfl (st := []) rfl (ls1 := [.val (.ref 3), .val (.long k3), .second]) rfl (W := 0) rfl (by decide) (by decide) ghz84 12 152 (by decide) (by decide) ?_
          show Go _ _ _ _ 313 [.val (.long x0), .second, .val (.long x1), .second, .val (.long x2), .second, .val (.long x3), .second, .val (.int x4), .val (.int x5), .val (.long k0), .second, .val (.long k1), .second, .val (.long k2), .second, .val (.long k3), .second, .val (.int 4), .val (.int (x5 &&& 2147483647)), .val (.ref 0), .val (.ref 3), .val (.int 3)] [.int z84] [.inl ("com/example/subsume/subsume/LongIntMap", [("keys", "[J", .ref 1), ("values", "[I", .ref 2), ("size", "I", .int (Int32.ofNat (own_occ t4).length))]), .inr (.long, (own_ks t4)), .inr (.int, (own_vs t4)), .inr (.long, (own_rs (own_occ t4) 0))] _
          refine Go.ifT d0_313 j0_313 (XT.i0_ne_t hzz84) ?_
          refine Go.iconst d0_318 (v := 1) rfl ?_
          exact Go.ireturnZ d0_319 rfl (by decide) rfl HOk.any
        · -- pc 215 not taken
          refine Go.lload d0_218 rfl ?_
          refine Go.lload d0_220 rfl ?_
          refine Go.lcmp d0_222 ?_
          refine Go.lif_eq d0_223 j0_223 (fun h223 => ?_) (fun h223 => ?_)
          · -- pc 223 taken
            have L1 : (own_occ t1).length = 1 := (ln1 (fun z => by
                exact mm0 _ z)).trans (congrArg (· + 1) le0)
            have L2 : (own_occ t2).length = 2 := (ln2 (fun z => by
                rcases (mm1 _).mp z with e | z
                · exact h173 e
                exact mm0 _ z)).trans (congrArg (· + 1) L1)
            have L3 : (own_occ t3).length = 3 := (ln3 (fun z => by
                rcases (mm2 _).mp z with e | z
                · exact h198 e
                rcases (mm1 _).mp z with e | z
                · exact h190 e
                exact mm0 _ z)).trans (congrArg (· + 1) L2)
            have L4 : (own_occ t4).length = 3 := (le4 (by rw [h223]; exact ((mm3 _).mpr (Or.inr ((mm2 _).mpr (Or.inl rfl)))))).trans L3
            refine Go.aload d0_237 rfl rfl ?_
            refine Go.arraylength d0_239 rfl (z := 3) (own_rlen L4 rfl) ?_
            refine Go.iload d0_240 rfl ?_
            refine Go.icmpT d0_242 j0_242 (XT.ii_eq_t (by decide)) ?_
            refine Go.iload d0_247 rfl ?_
            refine Go.ifF d0_249 (XT.i0_le_f (by decide)) ?_
            refine Go.aload d0_252 rfl rfl ?_
            refine Go.lload d0_254 rfl ?_
            obtain ⟨z85, hzz85, ghz85⟩ := go_has K hw ((own_occ t4).map (fun x => x.1)) (by rw [List.length_map]; omega) k0 (own_mem_occ ((mm4 _).mpr (Or.inr ((mm3 _).mpr (Or.inr ((mm2 _).mpr (Or.inr ((mm1 _).mpr (Or.inl rfl))))))))) [.inl ("com/example/subsume/subsume/LongIntMap", [("keys", "[J", .ref 1), ("values", "[I", .ref 2), ("size", "I", .int (Int32.ofNat (own_occ t4).length))]), .inr (.long, (own_ks t4)), .inr (.int, (own_vs t4)), .inr (.long, (own_rs (own_occ t4) 0))] (by rw [← own_rs0]; rfl)
            refine Go.callS (M' := m8) d0_256 (hw _ (List.mem_of_getElem? (i := 40) rfl)) (hw _ (List.mem_of_getElem? (i := 41) rfl)) (hw _ (List.mem_of_getElem? (i := 42) rfl)) (hw _ (List.mem_of_getElem? (i := 43) rfl)) mi8 (as := [.ref 3, .long k0]) rfl rfl (st := []) rfl (ls1 := [.val (.ref 3), .val (.long k0), .second]) rfl (W := 0) rfl (by decide) (by decide) ghz85 12 152 (by decide) (by decide) ?_
            show Go _ _ _ _ 259 [.val (.long x0), .second, .val (.long x1), .second, .val (.long x2), .second, .val (.long x3), .second, .val (.int x4), .val (.int x5), .val (.long k0), .second, .val (.long k1), .second, .val (.long k2), .second, .val (.long k3), .second, .val (.int 4), .val (.int (x5 &&& 2147483647)), .val (.ref 0), .val (.ref 3), .val (.int 3)] [.int z85] [.inl ("com/example/subsume/subsume/LongIntMap", [("keys", "[J", .ref 1), ("values", "[I", .ref 2), ("size", "I", .int (Int32.ofNat (own_occ t4).length))]), .inr (.long, (own_ks t4)), .inr (.int, (own_vs t4)), .inr (.long, (own_rs (own_occ t4) 0))] _
            refine Go.ifT d0_259 j0_259 (XT.i0_ne_t hzz85) ?_
            refine Go.iload d0_264 rfl ?_
            refine Go.iconst d0_266 (v := 1) rfl ?_
            refine Go.icmpF d0_267 (XT.ii_le_f (by decide)) ?_
            refine Go.aload d0_270 rfl rfl ?_
            refine Go.lload d0_272 rfl ?_
            obtain ⟨z86, hzz86, ghz86⟩ := go_has K hw ((own_occ t4).map (fun x => x.1)) (by rw [List.length_map]; omega) k1 (own_mem_occ ((mm4 _).mpr (Or.inr ((mm3 _).mpr (Or.inr ((mm2 _).mpr (Or.inl rfl))))))) [.inl ("com/example/subsume/subsume/LongIntMap", [("keys", "[J", .ref 1), ("values", "[I", .ref 2), ("size", "I", .int (Int32.ofNat (own_occ t4).length))]), .inr (.long, (own_ks t4)), .inr (.int, (own_vs t4)), .inr (.long, (own_rs (own_occ t4) 0))] (by rw [← own_rs0]; rfl)
            refine Go.callS (M' := m8) d0_274 (hw _ (List.mem_of_getElem? (i := 40) rfl)) (hw _ (List.mem_of_getElem? (i := 41) rfl)) (hw _ (List.mem_of_getElem? (i := 42) rfl)) (hw _ (List.mem_of_getElem? (i := 43) rfl)) mi8 (as := [.ref 3, .long k1]) rfl rfl (st := []) rfl (ls1 := [.val (.ref 3), .val (.long k1), .second]) rfl (W := 0) rfl (by decide) (by decide) ghz86 12 152 (by decide) (by decide) ?_
            show Go _ _ _ _ 277 [.val (.long x0), .second, .val (.long x1), .second, .val (.long x2), .second, .val (.long x3), .second, .val (.int x4), .val (.int x5), .val (.long k0), .second, .val (.long k1), .second, .val (.long k2), .second, .val (.long k3), .second, .val (.int 4), .val (.int (x5 &&& 2147483647)), .val (.ref 0), .val (.ref 3), .val (.int 3)] [.int z86] [.inl ("com/example/subsume/subsume/LongIntMap", [("keys", "[J", .ref 1), ("values", "[I", .ref 2), ("size", "I", .int (Int32.ofNat (own_occ t4).length))]), .inr (.long, (own_ks t4)), .inr (.int, (own_vs t4)), .inr (.long, (own_rs (own_occ t4) 0))] _
            refine Go.ifT d0_277 j0_277 (XT.i0_ne_t hzz86) ?_
            refine Go.iload d0_282 rfl ?_
            refine Go.iconst d0_284 (v := 2) rfl ?_
            refine Go.icmpF d0_285 (XT.ii_le_f (by decide)) ?_
            refine Go.aload d0_288 rfl rfl ?_
            refine Go.lload d0_290 rfl ?_
            obtain ⟨z87, hzz87, ghz87⟩ := go_has K hw ((own_occ t4).map (fun x => x.1)) (by rw [List.length_map]; omega) k2 (own_mem_occ ((mm4 _).mpr (Or.inr ((mm3 _).mpr (Or.inl rfl))))) [.inl ("com/example/subsume/subsume/LongIntMap", [("keys", "[J", .ref 1), ("values", "[I", .ref 2), ("size", "I", .int (Int32.ofNat (own_occ t4).length))]), .inr (.long, (own_ks t4)), .inr (.int, (own_vs t4)), .inr (.long, (own_rs (own_occ t4) 0))] (by rw [← own_rs0]; rfl)
            refine Go.callS (M' := m8) d0_292 (hw _ (List.mem_of_getElem? (i := 40) rfl)) (hw _ (List.mem_of_getElem? (i := 41) rfl)) (hw _ (List.mem_of_getElem? (i := 42) rfl)) (hw _ (List.mem_of_getElem? (i := 43) rfl)) mi8 (as := [.ref 3, .long k2]) rfl rfl (st := []) rfl (ls1 := [.val (.ref 3), .val (.long k2), .second]) rfl (W := 0) rfl (by decide) (by decide) ghz87 12 152 (by decide) (by decide) ?_
            show Go _ _ _ _ 295 [.val (.long x0), .second, .val (.long x1), .second, .val (.long x2), .second, .val (.long x3), .second, .val (.int x4), .val (.int x5), .val (.long k0), .second, .val (.long k1), .second, .val (.long k2), .second, .val (.long k3), .second, .val (.int 4), .val (.int (x5 &&& 2147483647)), .val (.ref 0), .val (.ref 3), .val (.int 3)] [.int z87] [.inl ("com/example/subsume/subsume/LongIntMap", [("keys", "[J", .ref 1), ("values", "[I", .ref 2), ("size", "I", .int (Int32.ofNat (own_occ t4).length))]), .inr (.long, (own_ks t4)), .inr (.int, (own_vs t4)), .inr (.long, (own_rs (own_occ t4) 0))] _
            refine Go.ifT d0_295 j0_295 (XT.i0_ne_t hzz87) ?_
            refine Go.iload d0_300 rfl ?_
            refine Go.iconst d0_302 (v := 3) rfl ?_
            refine Go.icmpF d0_303 (XT.ii_le_f (by decide)) ?_
            refine Go.aload d0_306 rfl rfl ?_
            refine Go.lload d0_308 rfl ?_
            obtain ⟨z88, hzz88, ghz88⟩ := go_has K hw ((own_occ t4).map (fun x => x.1)) (by rw [List.length_map]; omega) k3 (own_mem_occ ((mm4 _).mpr (Or.inl rfl))) [.inl ("com/example/subsume/subsume/LongIntMap", [("keys", "[J", .ref 1), ("values", "[I", .ref 2), ("size", "I", .int (Int32.ofNat (own_occ t4).length))]), .inr (.long, (own_ks t4)), .inr (.int, (own_vs t4)), .inr (.long, (own_rs (own_occ t4) 0))] (by rw [← own_rs0]; rfl)
            refine Go.callS (M' := m8) d0_310 (hw _ (List.mem_of_getElem? (i := 40) rfl)) (hw _ (List.mem_of_getElem? (i := 41) rfl)) (hw _ (List.mem_of_getElem? (i := 42) rfl)) (hw _ (List.mem_of_getElem? (i := 43) rfl)) mi8 (as := [.ref 3, .long k3]) rfl rfl (st := []) rfl (ls1 := [.val (.ref 3), .val (.long k3), .second]) rfl (W := 0) rfl (by decide) (by decide) ghz88 12 152 (by decide) (by decide) ?_
            show Go _ _ _ _ 313 [.val (.long x0), .second, .val (.long x1), .second, .val (.long x2), .second, .val (.long x3), .second, .val (.int x4), .val (.int x5), .val (.long k0), .second, .val (.long k1), .second, .val (.long k2), .second, .val (.long k3), .second, .val (.int 4), .val (.int (x5 &&& 2147483647)), .val (.ref 0), .val (.ref 3), .val (.int 3)] [.int z88] [.inl ("com/example/subsume/subsume/LongIntMap", [("keys", "[J", .ref 1), ("values", "[I", .ref 2), ("size", "I", .int (Int32.ofNat (own_occ t4).length))]), .inr (.long, (own_ks t4)), .inr (.int, (own_vs t4)), .inr (.long, (own_rs (own_occ t4) 0))] _
            refine Go.ifT d0_313 j0_313 (XT.i0_ne_t hzz88) ?_
            refine Go.iconst d0_318 (v := 1) rfl ?_
            exact Go.ireturnZ d0_319 rfl (by decide) rfl HOk.any
          · -- pc 223 not taken
            refine Go.lload d0_226 rfl ?_
            refine Go.lload d0_228 rfl ?_
            refine Go.lcmp d0_230 ?_
            refine Go.lif_eq d0_231 j0_231 (fun h231 => ?_) (fun h231 => ?_)
            · -- pc 231 taken
              have L1 : (own_occ t1).length = 1 := (ln1 (fun z => by
                  exact mm0 _ z)).trans (congrArg (· + 1) le0)
              have L2 : (own_occ t2).length = 2 := (ln2 (fun z => by
                  rcases (mm1 _).mp z with e | z
                  · exact h173 e
                  exact mm0 _ z)).trans (congrArg (· + 1) L1)
              have L3 : (own_occ t3).length = 3 := (ln3 (fun z => by
                  rcases (mm2 _).mp z with e | z
                  · exact h198 e
                  rcases (mm1 _).mp z with e | z
                  · exact h190 e
                  exact mm0 _ z)).trans (congrArg (· + 1) L2)
              have L4 : (own_occ t4).length = 3 := (le4 (by rw [h231]; exact ((mm3 _).mpr (Or.inl rfl)))).trans L3
              refine Go.aload d0_237 rfl rfl ?_
              refine Go.arraylength d0_239 rfl (z := 3) (own_rlen L4 rfl) ?_
              refine Go.iload d0_240 rfl ?_
              refine Go.icmpT d0_242 j0_242 (XT.ii_eq_t (by decide)) ?_
              refine Go.iload d0_247 rfl ?_
              refine Go.ifF d0_249 (XT.i0_le_f (by decide)) ?_
              refine Go.aload d0_252 rfl rfl ?_
              refine Go.lload d0_254 rfl ?_
              obtain ⟨z89, hzz89, ghz89⟩ := go_has K hw ((own_occ t4).map (fun x => x.1)) (by rw [List.length_map]; omega) k0 (own_mem_occ ((mm4 _).mpr (Or.inr ((mm3 _).mpr (Or.inr ((mm2 _).mpr (Or.inr ((mm1 _).mpr (Or.inl rfl))))))))) [.inl ("com/example/subsume/subsume/LongIntMap", [("keys", "[J", .ref 1), ("values", "[I", .ref 2), ("size", "I", .int (Int32.ofNat (own_occ t4).length))]), .inr (.long, (own_ks t4)), .inr (.int, (own_vs t4)), .inr (.long, (own_rs (own_occ t4) 0))] (by rw [← own_rs0]; rfl)
              refine Go.callS (M' := m8) d0_256 (hw _ (List.mem_of_getElem? (i := 40) rfl)) (hw _ (List.mem_of_getElem? (i := 41) rfl)) (hw _ (List.mem_of_getElem? (i := 42) rfl)) (hw _ (List.mem_of_getElem? (i := 43) rfl)) mi8 (as := [.ref 3, .long k0]) rfl rfl (st := []) rfl (ls1 := [.val (.ref 3), .val (.long k0), .second]) rfl (W := 0) rfl (by decide) (by decide) ghz89 12 152 (by decide) (by decide) ?_
              show Go _ _ _ _ 259 [.val (.long x0), .second, .val (.long x1), .second, .val (.long x2), .second, .val (.long x3), .second, .val (.int x4), .val (.int x5), .val (.long k0), .second, .val (.long k1), .second, .val (.long k2), .second, .val (.long k3), .second, .val (.int 4), .val (.int (x5 &&& 2147483647)), .val (.ref 0), .val (.ref 3), .val (.int 3)] [.int z89] [.inl ("com/example/subsume/subsume/LongIntMap", [("keys", "[J", .ref 1), ("values", "[I", .ref 2), ("size", "I", .int (Int32.ofNat (own_occ t4).length))]), .inr (.long, (own_ks t4)), .inr (.int, (own_vs t4)), .inr (.long, (own_rs (own_occ t4) 0))] _
              refine Go.ifT d0_259 j0_259 (XT.i0_ne_t hzz89) ?_
              refine Go.iload d0_264 rfl ?_
              refine Go.iconst d0_266 (v := 1) rfl ?_
              refine Go.icmpF d0_267 (XT.ii_le_f (by decide)) ?_
              refine Go.aload d0_270 rfl rfl ?_
              refine Go.lload d0_272 rfl ?_
              obtain ⟨z90, hzz90, ghz90⟩ := go_has K hw ((own_occ t4).map (fun x => x.1)) (by rw [List.length_map]; omega) k1 (own_mem_occ ((mm4 _).mpr (Or.inr ((mm3 _).mpr (Or.inr ((mm2 _).mpr (Or.inl rfl))))))) [.inl ("com/example/subsume/subsume/LongIntMap", [("keys", "[J", .ref 1), ("values", "[I", .ref 2), ("size", "I", .int (Int32.ofNat (own_occ t4).length))]), .inr (.long, (own_ks t4)), .inr (.int, (own_vs t4)), .inr (.long, (own_rs (own_occ t4) 0))] (by rw [← own_rs0]; rfl)
              refine Go.callS (M' := m8) d0_274 (hw _ (List.mem_of_getElem? (i := 40) rfl)) (hw _ (List.mem_of_getElem? (i := 41) rfl)) (hw _ (List.mem_of_getElem? (i := 42) rfl)) (hw _ (List.mem_of_getElem? (i := 43) rfl)) mi8 (as := [.ref 3, .long k1]) rfl rfl (st := []) rfl (ls1 := [.val (.ref 3), .val (.long k1), .second]) rfl (W := 0) rfl (by decide) (by decide) ghz90 12 152 (by decide) (by decide) ?_
              show Go _ _ _ _ 277 [.val (.long x0), .second, .val (.long x1), .second, .val (.long x2), .second, .val (.long x3), .second, .val (.int x4), .val (.int x5), .val (.long k0), .second, .val (.long k1), .second, .val (.long k2), .second, .val (.long k3), .second, .val (.int 4), .val (.int (x5 &&& 2147483647)), .val (.ref 0), .val (.ref 3), .val (.int 3)] [.int z90] [.inl ("com/example/subsume/subsume/LongIntMap", [("keys", "[J", .ref 1), ("values", "[I", .ref 2), ("size", "I", .int (Int32.ofNat (own_occ t4).length))]), .inr (.long, (own_ks t4)), .inr (.int, (own_vs t4)), .inr (.long, (own_rs (own_occ t4) 0))] _
              refine Go.ifT d0_277 j0_277 (XT.i0_ne_t hzz90) ?_
              refine Go.iload d0_282 rfl ?_
              refine Go.iconst d0_284 (v := 2) rfl ?_
              refine Go.icmpF d0_285 (XT.ii_le_f (by decide)) ?_
              refine Go.aload d0_288 rfl rfl ?_
              refine Go.lload d0_290 rfl ?_
              obtain ⟨z91, hzz91, ghz91⟩ := go_has K hw ((own_occ t4).map (fun x => x.1)) (by rw [List.length_map]; omega) k2 (own_mem_occ ((mm4 _).mpr (Or.inr ((mm3 _).mpr (Or.inl rfl))))) [.inl ("com/example/subsume/subsume/LongIntMap", [("keys", "[J", .ref 1), ("values", "[I", .ref 2), ("size", "I", .int (Int32.ofNat (own_occ t4).length))]), .inr (.long, (own_ks t4)), .inr (.int, (own_vs t4)), .inr (.long, (own_rs (own_occ t4) 0))] (by rw [← own_rs0]; rfl)
              refine Go.callS (M' := m8) d0_292 (hw _ (List.mem_of_getElem? (i := 40) rfl)) (hw _ (List.mem_of_getElem? (i := 41) rfl)) (hw _ (List.mem_of_getElem? (i := 42) rfl)) (hw _ (List.mem_of_getElem? (i := 43) rfl)) mi8 (as := [.ref 3, .long k2]) rfl rfl (st := []) rfl (ls1 := [.val (.ref 3), .val (.long k2), .second]) rfl (W := 0) rfl (by decide) (by decide) ghz91 12 152 (by decide) (by decide) ?_
              show Go _ _ _ _ 295 [.val (.long x0), .second, .val (.long x1), .second, .val (.long x2), .second, .val (.long x3), .second, .val (.int x4), .val (.int x5), .val (.long k0), .second, .val (.long k1), .second, .val (.long k2), .second, .val (.long k3), .second, .val (.int 4), .val (.int (x5 &&& 2147483647)), .val (.ref 0), .val (.ref 3), .val (.int 3)] [.int z91] [.inl ("com/example/subsume/subsume/LongIntMap", [("keys", "[J", .ref 1), ("values", "[I", .ref 2), ("size", "I", .int (Int32.ofNat (own_occ t4).length))]), .inr (.long, (own_ks t4)), .inr (.int, (own_vs t4)), .inr (.long, (own_rs (own_occ t4) 0))] _
              refine Go.ifT d0_295 j0_295 (XT.i0_ne_t hzz91) ?_
              refine Go.iload d0_300 rfl ?_
              refine Go.iconst d0_302 (v := 3) rfl ?_
              refine Go.icmpF d0_303 (XT.ii_le_f (by decide)) ?_
              refine Go.aload d0_306 rfl rfl ?_
              refine Go.lload d0_308 rfl ?_
              obtain ⟨z92, hzz92, ghz92⟩ := go_has K hw ((own_occ t4).map (fun x => x.1)) (by rw [List.length_map]; omega) k3 (own_mem_occ ((mm4 _).mpr (Or.inl rfl))) [.inl ("com/example/subsume/subsume/LongIntMap", [("keys", "[J", .ref 1), ("values", "[I", .ref 2), ("size", "I", .int (Int32.ofNat (own_occ t4).length))]), .inr (.long, (own_ks t4)), .inr (.int, (own_vs t4)), .inr (.long, (own_rs (own_occ t4) 0))] (by rw [← own_rs0]; rfl)
              refine Go.callS (M' := m8) d0_310 (hw _ (List.mem_of_getElem? (i := 40) rfl)) (hw _ (List.mem_of_getElem? (i := 41) rfl)) (hw _ (List.mem_of_getElem? (i := 42) rfl)) (hw _ (List.mem_of_getElem? (i := 43) rfl)) mi8 (as := [.ref 3, .long k3]) rfl rfl (st := []) rfl (ls1 := [.val (.ref 3), .val (.long k3), .second]) rfl (W := 0) rfl (by decide) (by decide) ghz92 12 152 (by decide) (by decide) ?_
              show Go _ _ _ _ 313 [.val (.long x0), .second, .val (.long x1), .second, .val (.long x2), .second, .val (.long x3), .second, .val (.int x4), .val (.int x5), .val (.long k0), .second, .val (.long k1), .second, .val (.long k2), .second, .val (.long k3), .second, .val (.int 4), .val (.int (x5 &&& 2147483647)), .val (.ref 0), .val (.ref 3), .val (.int 3)] [.int z92] [.inl ("com/example/subsume/subsume/LongIntMap", [("keys", "[J", .ref 1), ("values", "[I", .ref 2), ("size", "I", .int (Int32.ofNat (own_occ t4).length))]), .inr (.long, (own_ks t4)), .inr (.int, (own_vs t4)), .inr (.long, (own_rs (own_occ t4) 0))] _
              refine Go.ifT d0_313 j0_313 (XT.i0_ne_t hzz92) ?_
              refine Go.iconst d0_318 (v := 1) rfl ?_
              exact Go.ireturnZ d0_319 rfl (by decide) rfl HOk.any
            · -- pc 231 not taken
              refine Go.iinc d0_234 (v := 1) rfl rfl (ls' := [.val (.long x0), .second, .val (.long x1), .second, .val (.long x2), .second, .val (.long x3), .second, .val (.int x4), .val (.int x5), .val (.long k0), .second, .val (.long k1), .second, .val (.long k2), .second, .val (.long k3), .second, .val (.int 4), .val (.int (x5 &&& 2147483647)), .val (.ref 0), .val (.ref 3), .val (.int 4)]) rfl ?_
              have L1 : (own_occ t1).length = 1 := (ln1 (fun z => by
                  exact mm0 _ z)).trans (congrArg (· + 1) le0)
              have L2 : (own_occ t2).length = 2 := (ln2 (fun z => by
                  rcases (mm1 _).mp z with e | z
                  · exact h173 e
                  exact mm0 _ z)).trans (congrArg (· + 1) L1)
              have L3 : (own_occ t3).length = 3 := (ln3 (fun z => by
                  rcases (mm2 _).mp z with e | z
                  · exact h198 e
                  rcases (mm1 _).mp z with e | z
                  · exact h190 e
                  exact mm0 _ z)).trans (congrArg (· + 1) L2)
              have L4 : (own_occ t4).length = 4 := (ln4 (fun z => by
                  rcases (mm3 _).mp z with e | z
                  · exact h231 e
                  rcases (mm2 _).mp z with e | z
                  · exact h223 e
                  rcases (mm1 _).mp z with e | z
                  · exact h215 e
                  exact mm0 _ z)).trans (congrArg (· + 1) L3)
              refine Go.aload d0_237 rfl rfl ?_
              refine Go.arraylength d0_239 rfl (z := 4) (own_rlen L4 rfl) ?_
              refine Go.iload d0_240 rfl ?_
              refine Go.icmpT d0_242 j0_242 (XT.ii_eq_t (by decide)) ?_
              refine Go.iload d0_247 rfl ?_
              refine Go.ifF d0_249 (XT.i0_le_f (by decide)) ?_
              refine Go.aload d0_252 rfl rfl ?_
              refine Go.lload d0_254 rfl ?_
              obtain ⟨z93, hzz93, ghz93⟩ := go_has K hw ((own_occ t4).map (fun x => x.1)) (by rw [List.length_map]; omega) k0 (own_mem_occ ((mm4 _).mpr (Or.inr ((mm3 _).mpr (Or.inr ((mm2 _).mpr (Or.inr ((mm1 _).mpr (Or.inl rfl))))))))) [.inl ("com/example/subsume/subsume/LongIntMap", [("keys", "[J", .ref 1), ("values", "[I", .ref 2), ("size", "I", .int (Int32.ofNat (own_occ t4).length))]), .inr (.long, (own_ks t4)), .inr (.int, (own_vs t4)), .inr (.long, (own_rs (own_occ t4) 0))] (by rw [← own_rs0]; rfl)
              refine Go.callS (M' := m8) d0_256 (hw _ (List.mem_of_getElem? (i := 40) rfl)) (hw _ (List.mem_of_getElem? (i := 41) rfl)) (hw _ (List.mem_of_getElem? (i := 42) rfl)) (hw _ (List.mem_of_getElem? (i := 43) rfl)) mi8 (as := [.ref 3, .long k0]) rfl rfl (st := []) rfl (ls1 := [.val (.ref 3), .val (.long k0), .second]) rfl (W := 0) rfl (by decide) (by decide) ghz93 12 152 (by decide) (by decide) ?_
              show Go _ _ _ _ 259 [.val (.long x0), .second, .val (.long x1), .second, .val (.long x2), .second, .val (.long x3), .second, .val (.int x4), .val (.int x5), .val (.long k0), .second, .val (.long k1), .second, .val (.long k2), .second, .val (.long k3), .second, .val (.int 4), .val (.int (x5 &&& 2147483647)), .val (.ref 0), .val (.ref 3), .val (.int 4)] [.int z93] [.inl ("com/example/subsume/subsume/LongIntMap", [("keys", "[J", .ref 1), ("values", "[I", .ref 2), ("size", "I", .int (Int32.ofNat (own_occ t4).length))]), .inr (.long, (own_ks t4)), .inr (.int, (own_vs t4)), .inr (.long, (own_rs (own_occ t4) 0))] _
              refine Go.ifT d0_259 j0_259 (XT.i0_ne_t hzz93) ?_
              refine Go.iload d0_264 rfl ?_
              refine Go.iconst d0_266 (v := 1) rfl ?_
              refine Go.icmpF d0_267 (XT.ii_le_f (by decide)) ?_
              refine Go.aload d0_270 rfl rfl ?_
              refine Go.lload d0_272 rfl ?_
              obtain ⟨z94, hzz94, ghz94⟩ := go_has K hw ((own_occ t4).map (fun x => x.1)) (by rw [List.length_map]; omega) k1 (own_mem_occ ((mm4 _).mpr (Or.inr ((mm3 _).mpr (Or.inr ((mm2 _).mpr (Or.inl rfl))))))) [.inl ("com/example/subsume/subsume/LongIntMap", [("keys", "[J", .ref 1), ("values", "[I", .ref 2), ("size", "I", .int (Int32.ofNat (own_occ t4).length))]), .inr (.long, (own_ks t4)), .inr (.int, (own_vs t4)), .inr (.long, (own_rs (own_occ t4) 0))] (by rw [← own_rs0]; rfl)
              refine Go.callS (M' := m8) d0_274 (hw _ (List.mem_of_getElem? (i := 40) rfl)) (hw _ (List.mem_of_getElem? (i := 41) rfl)) (hw _ (List.mem_of_getElem? (i := 42) rfl)) (hw _ (List.mem_of_getElem? (i := 43) rfl)) mi8 (as := [.ref 3, .long k1]) rfl rfl (st := []) rfl (ls1 := [.val (.ref 3), .val (.long k1), .second]) rfl (W := 0) rfl (by decide) (by decide) ghz94 12 152 (by decide) (by decide) ?_
              show Go _ _ _ _ 277 [.val (.long x0), .second, .val (.long x1), .second, .val (.long x2), .second, .val (.long x3), .second, .val (.int x4), .val (.int x5), .val (.long k0), .second, .val (.long k1), .second, .val (.long k2), .second, .val (.long k3), .second, .val (.int 4), .val (.int (x5 &&& 2147483647)), .val (.ref 0), .val (.ref 3), .val (.int 4)] [.int z94] [.inl ("com/example/subsume/subsume/LongIntMap", [("keys", "[J", .ref 1), ("values", "[I", .ref 2), ("size", "I", .int (Int32.ofNat (own_occ t4).length))]), .inr (.long, (own_ks t4)), .inr (.int, (own_vs t4)), .inr (.long, (own_rs (own_occ t4) 0))] _
              refine Go.ifT d0_277 j0_277 (XT.i0_ne_t hzz94) ?_
              refine Go.iload d0_282 rfl ?_
              refine Go.iconst d0_284 (v := 2) rfl ?_
              refine Go.icmpF d0_285 (XT.ii_le_f (by decide)) ?_
              refine Go.aload d0_288 rfl rfl ?_
              refine Go.lload d0_290 rfl ?_
              obtain ⟨z95, hzz95, ghz95⟩ := go_has K hw ((own_occ t4).map (fun x => x.1)) (by rw [List.length_map]; omega) k2 (own_mem_occ ((mm4 _).mpr (Or.inr ((mm3 _).mpr (Or.inl rfl))))) [.inl ("com/example/subsume/subsume/LongIntMap", [("keys", "[J", .ref 1), ("values", "[I", .ref 2), ("size", "I", .int (Int32.ofNat (own_occ t4).length))]), .inr (.long, (own_ks t4)), .inr (.int, (own_vs t4)), .inr (.long, (own_rs (own_occ t4) 0))] (by rw [← own_rs0]; rfl)
              refine Go.callS (M' := m8) d0_292 (hw _ (List.mem_of_getElem? (i := 40) rfl)) (hw _ (List.mem_of_getElem? (i := 41) rfl)) (hw _ (List.mem_of_getElem? (i := 42) rfl)) (hw _ (List.mem_of_getElem? (i := 43) rfl)) mi8 (as := [.ref 3, .long k2]) rfl rfl (st := []) rfl (ls1 := [.val (.ref 3), .val (.long k2), .second]) rfl (W := 0) rfl (by decide) (by decide) ghz95 12 152 (by decide) (by decide) ?_
              show Go _ _ _ _ 295 [.val (.long x0), .second, .val (.long x1), .second, .val (.long x2), .second, .val (.long x3), .second, .val (.int x4), .val (.int x5), .val (.long k0), .second, .val (.long k1), .second, .val (.long k2), .second, .val (.long k3), .second, .val (.int 4), .val (.int (x5 &&& 2147483647)), .val (.ref 0), .val (.ref 3), .val (.int 4)] [.int z95] [.inl ("com/example/subsume/subsume/LongIntMap", [("keys", "[J", .ref 1), ("values", "[I", .ref 2), ("size", "I", .int (Int32.ofNat (own_occ t4).length))]), .inr (.long, (own_ks t4)), .inr (.int, (own_vs t4)), .inr (.long, (own_rs (own_occ t4) 0))] _
              refine Go.ifT d0_295 j0_295 (XT.i0_ne_t hzz95) ?_
              refine Go.iload d0_300 rfl ?_
              refine Go.iconst d0_302 (v := 3) rfl ?_
              refine Go.icmpF d0_303 (XT.ii_le_f (by decide)) ?_
              refine Go.aload d0_306 rfl rfl ?_
              refine Go.lload d0_308 rfl ?_
              obtain ⟨z96, hzz96, ghz96⟩ := go_has K hw ((own_occ t4).map (fun x => x.1)) (by rw [List.length_map]; omega) k3 (own_mem_occ ((mm4 _).mpr (Or.inl rfl))) [.inl ("com/example/subsume/subsume/LongIntMap", [("keys", "[J", .ref 1), ("values", "[I", .ref 2), ("size", "I", .int (Int32.ofNat (own_occ t4).length))]), .inr (.long, (own_ks t4)), .inr (.int, (own_vs t4)), .inr (.long, (own_rs (own_occ t4) 0))] (by rw [← own_rs0]; rfl)
              refine Go.callS (M' := m8) d0_310 (hw _ (List.mem_of_getElem? (i := 40) rfl)) (hw _ (List.mem_of_getElem? (i := 41) rfl)) (hw _ (List.mem_of_getElem? (i := 42) rfl)) (hw _ (List.mem_of_getElem? (i := 43) rfl)) mi8 (as := [.ref 3, .long k3]) rfl rfl (st := []) rfl (ls1 := [.val (.ref 3), .val (.long k3), .second]) rfl (W := 0) rfl (by decide) (by decide) ghz96 12 152 (by decide) (by decide) ?_
              show Go _ _ _ _ 313 [.val (.long x0), .second, .val (.long x1), .second, .val (.long x2), .second, .val (.long x3), .second, .val (.int x4), .val (.int x5), .val (.long k0), .second, .val (.long k1), .second, .val (.long k2), .second, .val (.long k3), .second, .val (.int 4), .val (.int (x5 &&& 2147483647)), .val (.ref 0), .val (.ref 3), .val (.int 4)] [.int z96] [.inl ("com/example/subsume/subsume/LongIntMap", [("keys", "[J", .ref 1), ("values", "[I", .ref 2), ("size", "I", .int (Int32.ofNat (own_occ t4).length))]), .inr (.long, (own_ks t4)), .inr (.int, (own_vs t4)), .inr (.long, (own_rs (own_occ t4) 0))] _
              refine Go.ifT d0_313 j0_313 (XT.i0_ne_t hzz96) ?_
              refine Go.iconst d0_318 (v := 1) rfl ?_
              exact Go.ireturnZ d0_319 rfl (by decide) rfl HOk.any
theorem go_t48 (K : Ctx) (hw : ∀ d ∈ tables_1, d.before K.2.2.1 K.2.1 = true) (x0 x1 x2 x3 k0 k1 k2 k3 : Int64) (x4 x5 : Int32) : Go K m0 6 144 48 [.val (.long x0), .second, .val (.long x1), .second, .val (.long x2), .second, .val (.long x3), .second, .val (.int x4), .val (.int x5), .val (.long k0), .second, .val (.long k1), .second, .val (.long k2), .second, .val (.long k3), .second, .unset, .unset, .unset, .unset, .unset] [] [] (some (.int 1), none, 16, 192) := by
  refine Go.iload d0_48 rfl ?_
  refine Go.iconst d0_50 (v := 3) rfl ?_
  refine Go.iushr d0_51 ?_
  refine Go.bipush d0_52 (v := 7) rfl ?_
  refine Go.iand d0_54 ?_
  refine Go.istore d0_55 (ls' := [.val (.long x0), .second, .val (.long x1), .second, .val (.long x2), .second, .val (.long x3), .second, .val (.int x4), .val (.int x5), .val (.long k0), .second, .val (.long k1), .second, .val (.long k2), .second, .val (.long k3), .second, .val (.int ((XT.ushr x4 3) &&& 7)), .unset, .unset, .unset, .unset]) rfl ?_
  refine Go.iload d0_57 rfl ?_
  refine Go.iconst d0_59 (v := 4) rfl ?_
  refine Go.icmp_le d0_60 j0_60 (fun h60 => ?_) (fun h60 => ?_)
  · -- pc 60 taken
    rcases own_n7 x4 h60 with h | h | h | h | h <;> rw [h]
    · exact go_t66_0 K hw _ _ _ _ _ _ _ _ _ _ 
    · exact go_t66_1 K hw _ _ _ _ _ _ _ _ _ _ 
    · exact go_t66_2 K hw _ _ _ _ _ _ _ _ _ _ 
    · exact go_t66_3 K hw _ _ _ _ _ _ _ _ _ _ 
    · exact go_t66_4 K hw _ _ _ _ _ _ _ _ _ _ 
  · -- pc 60 not taken
    refine Go.iconst d0_63 (v := 4) rfl ?_
    refine Go.istore d0_64 (ls' := [.val (.long x0), .second, .val (.long x1), .second, .val (.long x2), .second, .val (.long x3), .second, .val (.int x4), .val (.int x5), .val (.long k0), .second, .val (.long k1), .second, .val (.long k2), .second, .val (.long k3), .second, .val (.int 4), .unset, .unset, .unset, .unset]) rfl ?_
    exact go_t66_4 K hw _ _ _ _ _ _ _ _ _ _ 
theorem go_t32 (K : Ctx) (hw : ∀ d ∈ tables_1, d.before K.2.2.1 K.2.1 = true) (x0 x1 x2 x3 k0 k1 k2 : Int64) (x4 x5 : Int32) : Go K m0 6 144 32 [.val (.long x0), .second, .val (.long x1), .second, .val (.long x2), .second, .val (.long x3), .second, .val (.int x4), .val (.int x5), .val (.long k0), .second, .val (.long k1), .second, .val (.long k2), .second, .unset, .unset, .unset, .unset, .unset, .unset, .unset] [] [] (some (.int 1), none, 16, 192) := by
  refine Go.iload d0_32 rfl ?_
  refine Go.iconst d0_34 (v := 4) rfl ?_
  refine Go.iand d0_35 ?_
  refine Go.if_eq d0_36 j0_36 (fun h36 => ?_) (fun h36 => ?_)
  · -- pc 36 taken
    refine Go.lload d0_44 rfl ?_
    refine Go.lstore d0_46 (ls' := [.val (.long x0), .second, .val (.long x1), .second, .val (.long x2), .second, .val (.long x3), .second, .val (.int x4), .val (.int x5), .val (.long k0), .second, .val (.long k1), .second, .val (.long k2), .second, .val (.long x3), .second, .unset, .unset, .unset, .unset, .unset]) rfl ?_
    exact go_t48 K hw _ _ _ _ _ _ _ _ _ _ 
  · -- pc 36 not taken
    refine Go.lload d0_39 rfl ?_
    refine Go.goto d0_41 j0_41 ?_
    refine Go.lstore d0_46 (ls' := [.val (.long x0), .second, .val (.long x1), .second, .val (.long x2), .second, .val (.long x3), .second, .val (.int x4), .val (.int x5), .val (.long k0), .second, .val (.long k1), .second, .val (.long k2), .second, .val (.long x2), .second, .unset, .unset, .unset, .unset, .unset]) rfl ?_
    exact go_t48 K hw _ _ _ _ _ _ _ _ _ _ 
theorem go_t17 (K : Ctx) (hw : ∀ d ∈ tables_1, d.before K.2.2.1 K.2.1 = true) (x0 x1 x2 x3 k0 k1 : Int64) (x4 x5 : Int32) : Go K m0 6 144 17 [.val (.long x0), .second, .val (.long x1), .second, .val (.long x2), .second, .val (.long x3), .second, .val (.int x4), .val (.int x5), .val (.long k0), .second, .val (.long k1), .second, .unset, .unset, .unset, .unset, .unset, .unset, .unset, .unset, .unset] [] [] (some (.int 1), none, 16, 192) := by
  refine Go.iload d0_17 rfl ?_
  refine Go.iconst d0_19 (v := 2) rfl ?_
  refine Go.iand d0_20 ?_
  refine Go.if_eq d0_21 j0_21 (fun h21 => ?_) (fun h21 => ?_)
  · -- pc 21 taken
    refine Go.lload d0_28 rfl ?_
    refine Go.lstore d0_30 (ls' := [.val (.long x0), .second, .val (.long x1), .second, .val (.long x2), .second, .val (.long x3), .second, .val (.int x4), .val (.int x5), .val (.long k0), .second, .val (.long k1), .second, .val (.long x2), .second, .unset, .unset, .unset, .unset, .unset, .unset, .unset]) rfl ?_
    exact go_t32 K hw _ _ _ _ _ _ _ _ _ 
  · -- pc 21 not taken
    refine Go.lloadN d0_24 rfl ?_
    refine Go.goto d0_25 j0_25 ?_
    refine Go.lstore d0_30 (ls' := [.val (.long x0), .second, .val (.long x1), .second, .val (.long x2), .second, .val (.long x3), .second, .val (.int x4), .val (.int x5), .val (.long k0), .second, .val (.long k1), .second, .val (.long x1), .second, .unset, .unset, .unset, .unset, .unset, .unset, .unset]) rfl ?_
    exact go_t32 K hw _ _ _ _ _ _ _ _ _ 
theorem go_law (K : Ctx) (hw : ∀ d ∈ tables_1, d.before K.2.2.1 K.2.1 = true) (x0 : Int64) (x1 : Int64) (x2 : Int64) (x3 : Int64) (x4 : Int32) (x5 : Int32) : Go K m0 6 144 0 [.val (.long x0), .second, .val (.long x1), .second, .val (.long x2), .second, .val (.long x3), .second, .val (.int x4), .val (.int x5), .unset, .unset, .unset, .unset, .unset, .unset, .unset, .unset, .unset, .unset, .unset, .unset, .unset] [] [] (some (.int 1), none, 16, 192) := by
  refine Go.lloadN d0_0 rfl ?_
  refine Go.lstore d0_1 (ls' := [.val (.long x0), .second, .val (.long x1), .second, .val (.long x2), .second, .val (.long x3), .second, .val (.int x4), .val (.int x5), .val (.long x0), .second, .unset, .unset, .unset, .unset, .unset, .unset, .unset, .unset, .unset, .unset, .unset]) rfl ?_
  refine Go.iload d0_3 rfl ?_
  refine Go.iconst d0_5 (v := 1) rfl ?_
  refine Go.iand d0_6 ?_
  refine Go.if_eq d0_7 j0_7 (fun h7 => ?_) (fun h7 => ?_)
  · -- pc 7 taken
    refine Go.lloadN d0_14 rfl ?_
    refine Go.lstore d0_15 (ls' := [.val (.long x0), .second, .val (.long x1), .second, .val (.long x2), .second, .val (.long x3), .second, .val (.int x4), .val (.int x5), .val (.long x0), .second, .val (.long x1), .second, .unset, .unset, .unset, .unset, .unset, .unset, .unset, .unset, .unset]) rfl ?_
    exact go_t17 K hw _ _ _ _ _ _ _ _ 
  · -- pc 7 not taken
    refine Go.lloadN d0_10 rfl ?_
    refine Go.goto d0_11 j0_11 ?_
    refine Go.lstore d0_15 (ls' := [.val (.long x0), .second, .val (.long x1), .second, .val (.long x2), .second, .val (.long x3), .second, .val (.int x4), .val (.int x5), .val (.long x0), .second, .val (.long x0), .second, .unset, .unset, .unset, .unset, .unset, .unset, .unset, .unset, .unset]) rfl ?_
    exact go_t17 K hw _ _ _ _ _ _ _ _ 
set_option maxRecDepth 65536 in
set_option maxHeartbeats 40000000 in
theorem comes_1 {Post : Tables → Env → Array Value → State → Outcome → State → Prop} (hpost : ∀ tb e args s v u, (limb_1_1.after args s (.returned v) u = true ∧ limb_1_2.after args s (.returned v) u = true ∧ True) → FrameEnd s (.returned v) u (Jvm.fieldLocs frame_1_writes args s ++ Jvm.arrayLocs frame_1_arrays args s ++ Jvm.staticLocs frame_1_statics s) 16 192 → Post tb e args s (.returned v) u) :
    ArmFor flags0 classFile x code maxLocals ret World_1 tables_1 room_1 Calls_1 rest_1 Pre_1 Post := by
  intro l hfl _ _ p e ha hc hk s m args below hf hA hF happ hP
  obtain ⟨hcalls, hrest, hpre⟩ := hP
  obtain ⟨-, -, -, hnamed, -, -, -, hat⟩ := (Spec.applies_iff hf).mp happ
  obtain ⟨hg, hn⟩ := and_e (Cond.before_iff.mp (show (Jvm.Cond.and given_1 narrow_1).before args s = true from hpre))
  obtain ⟨h1, g0⟩ := and_e hg
  obtain ⟨w0, w1, w2, w3, w4, w5, rfl⟩ : ∃ w0 w1 w2 w3 w4 w5 : Value, args = #[w0, w1, w2, w3, w4, w5] := by
    have hs : args.size = 6 := by simpa [Cond.value, given_1] using h1
    obtain ⟨L⟩ := args
    match L, hs with
    | [w0, w1, w2, w3, w4, w5], _ => exact ⟨w0, w1, w2, w3, w4, w5, rfl⟩
  have hw := fun d (hd : d ∈ tables_1) => atoms_spec (ws := Jvm.Cond.code x code maxLocals ret :: tables_1) hat d (List.mem_cons_of_mem _ hd)
  obtain ⟨q0, g1⟩ := and_e g0
  obtain ⟨i0, e0⟩ := isL_v q0
  obtain rfl : w0 = (.long i0) := Option.some.inj e0
  obtain ⟨q1, g2⟩ := and_e g1
  obtain ⟨i1, e1⟩ := isL_v q1
  obtain rfl : w1 = (.long i1) := Option.some.inj e1
  obtain ⟨q2, g3⟩ := and_e g2
  obtain ⟨i2, e2⟩ := isL_v q2
  obtain rfl : w2 = (.long i2) := Option.some.inj e2
  obtain ⟨q3, g4⟩ := and_e g3
  obtain ⟨i3, e3⟩ := isL_v q3
  obtain rfl : w3 = (.long i3) := Option.some.inj e3
  obtain ⟨q4, g5⟩ := and_e g4
  obtain ⟨i4, e4⟩ := is_v q4
  obtain rfl : w4 = (.int i4) := Option.some.inj e4
  obtain ⟨i5, e5⟩ := is_v g5
  obtain rfl : w5 = (.int i5) := Option.some.inj e5
  have gl := go_law (l, s, _, s.heap.size) hw i0 i1 i2 i3 i4 i5
  obtain ⟨n, o, h1, h2, h3, _, L, rfl, ⟨rfl, -, N⟩, hq⟩ := Go.met (K := (l, s, _, s.heap.size)) (M := m0) (as := [.long i0, .long i1, .long i2, .long i3, .int i4, .int i5]) (ws := tables_1) (rm := room_1) (rv := some (.int 1)) (h := s.heap) (H := []) (by decide +kernel) ⟨rfl, fun i o h => by simp at h⟩ rfl gl p e ha hc hk s m _ below hf ((Spec.applies_iff_loose hf).mp happ).1 ⟨rfl, State.Warmed39.refl s, rfl⟩ trivial
  refine ⟨n, _, h1, h2, h3, hpost _ _ _ _ _ _ ⟨Cond.after_iff.mpr rfl, Cond.after_iff.mpr (eq_i res_at (Term.int_eval (1)) rfl), trivial⟩ ⟨hq.1, hq.2.1, (hq.2.2.sift fun y hy => Or.inr (N y hy)).mono (by decide) (by decide)⟩⟩
theorem main_1_1 : Claimed_1_1 := comes_1 fun _ _ _ _ _ _ h hF => ⟨h.1, hF⟩
theorem main_1_2 : Claimed_1_2 := comes_1 fun _ _ _ _ _ _ h hF => ⟨h.2.1, hF⟩
end Jvm.Pilot.@@N@@
namespace Jvm.Pilot.@@N@@
open Jvm Jvm.ClassFile Sem Op Lib Jvm.Free Jvm.Stand Jvm.Pilot.@@N@@.Jvm.D
/-! MADE BY PROGRAM (witnessworld.py) out of the Statement's table words and the real class files: 12 classes; the members and pool entries that the words name. The judged class is class 1, her method 1. -/
namespace start1
open Jvm.ClassFile
def u (s : String) : CpInfo := .utf8 (stringToUtf16 s)
/-- a pool by its gaps: so many unusable entries, then the entry; so many at the end -/
def gap : Nat → List CpInfo → List CpInfo
  | 0, r => r
  | n + 1, r => .unusable :: gap n r
def poolList (es : List (Nat × CpInfo)) (last : Nat) : List CpInfo := es.foldr (fun e r => gap e.1 (e.2 :: r)) (gap last [])
def pool (es : List (Nat × CpInfo)) (last : Nat) : Array CpInfo := ⟨poolList es last⟩
def fileOf (pool : Array CpInfo) (this : Nat) (attrs : Array Attribute := #[]) (ms : Array MethodInfo := #[]) (fl : Nat := 33) (sup : Nat := 0) (ifs : Array Nat := #[]) (fds : Array FieldInfo := #[]) : ClassFile where
  minorVersion := 0
  majorVersion := 65
  constantPool := pool
  accessFlags := fl
  thisClass := this
  superClass := sup
  interfaces := ifs
  fields := fds
  methods := ms
  attributes := attrs
def plain (name : String) (sup : Option ClassId) : Class where
  name := name
  kind := .ordinary
  loader := none
  accessFlags := 33
  super := sup
  interfaces := #[]
  cf := none
  fields := #[]
  methods := #[]
  instanceTypes := #[]
  staticTypes := #[]
  resolved := #[]
  callSites := []
  init := .initialized
  statics := none
  mirror := none

def pool0 : Array CpInfo := pool [(5, u "<init>"), (0, u "()V"), (1, .class_ 10), (1, u "java/lang/Object")] 113

def k0c0 : Code := { maxStack := 0, maxLocals := 1, code := object_method_1_code, exceptionTable := #[], attributes := #[] }
def k0m0 : Method := { name := "<init>", desc := "()V", sig := { parameters := [], returnType := none }, accessFlags := 1, code := some k0c0 }
/-- java/lang/Object -/
def k0 : Class := { plain "java/lang/Object" none with
  accessFlags := 33
  interfaces := #[]
  cf := some (fileOf pool0 8 #[] #[{ accessFlags := 1, nameIndex := 5, descriptorIndex := 6, attributes := #[] }] 33 0 #[] #[])
  fields := #[]
  methods := #[k0m0]
  instanceTypes := #[]
  staticTypes := #[]
  resolved := Array.replicate 124 none
  statics := none }

def pool1 : Array CpInfo := pool [(2, .class_ 4), (0, .nameAndType 5 6), (0, u "java/lang/Object"), (0, u "<init>"), (0, u "()V"), (0, .integer 2147483647), (0, .class_ 9), (0, u "com/example/subsume/subsume/LongIntMap"), (0, .methodref 8 3), (0, .methodref 8 12), (0, .nameAndType 13 14), (0, u "put"), (0, u "(JI)V"), (0, .methodref 8 16), (0, .nameAndType 17 18), (0, u "keys"), (0, u "()[J"), (0, .methodref 20 21), (0, .class_ 22), (0, .nameAndType 23 24), (0, u "com/example/subsume/subsume/LongIntMapKeysPinLaw"), (0, u "has"), (0, u "([JJ)Z"), (2, u "law"), (0, u "(JJJJII)Z")] 5

def k1m0 : Method := { name := "<init>", desc := "()V", sig := { parameters := [], returnType := none }, accessFlags := 1, code := none }
def k1c1 : Code := { maxStack := 5, maxLocals := 23, code := code, exceptionTable := #[], attributes := #[] }
def k1m1 : Method := { name := "law", desc := "(JJJJII)Z", sig := { parameters := [.long, .long, .long, .long, .int, .int], returnType := some .boolean }, accessFlags := 9, code := some k1c1 }
def k1c2 : Code := { maxStack := 4, maxLocals := 3, code := method_3_code, exceptionTable := #[], attributes := #[] }
def k1m2 : Method := { name := "has", desc := "([JJ)Z", sig := { parameters := [(.array .long), .long], returnType := some .boolean }, accessFlags := 10, code := some k1c2 }
/-- com/example/subsume/subsume/LongIntMapKeysPinLaw -/
def k1 : Class := { plain "com/example/subsume/subsume/LongIntMapKeysPinLaw" (some 0) with
  accessFlags := 49
  interfaces := #[]
  cf := some (fileOf pool1 20 #[] #[{ accessFlags := 1, nameIndex := 5, descriptorIndex := 6, attributes := #[] }, { accessFlags := 9, nameIndex := 27, descriptorIndex := 28, attributes := #[] }, { accessFlags := 10, nameIndex := 23, descriptorIndex := 24, attributes := #[] }] 49 2 #[] #[])
  fields := #[]
  methods := #[k1m0, k1m1, k1m2]
  instanceTypes := #[]
  staticTypes := #[]
  resolved := Array.replicate 34 none
  statics := none }

def pool2 : Array CpInfo := pool [(1, .methodref 2 3), (0, .class_ 4), (0, .nameAndType 5 6), (0, u "java/lang/Object"), (0, u "<init>"), (0, u "()V"), (0, .fieldref 8 9), (0, .class_ 10), (0, .nameAndType 11 12), (0, u "com/example/subsume/subsume/LongIntMap"), (0, u "keys"), (0, u "[J"), (0, .methodref 8 14), (0, .nameAndType 15 16), (0, u "filled"), (0, u "(I)[I"), (0, .fieldref 8 18), (0, .nameAndType 19 20), (0, u "values"), (0, u "[I"), (0, .methodref 8 22), (0, .nameAndType 23 24), (0, u "slotOf"), (0, u "(J)I"), (0, .fieldref 8 26), (0, .nameAndType 27 28), (0, u "size"), (0, u "I"), (5, u "put"), (0, u "(JI)V"), (10, .long 11400714819323198485), (1, .methodref 49 50), (0, .class_ 51), (0, .nameAndType 52 53), (0, u "java/util/Arrays"), (0, u "fill"), (0, u "([II)V"), (0, u "ABSENT"), (2, u "MAX_SLOTS"), (7, u "()[J")] 19

def k2c0 : Code := { maxStack := 2, maxLocals := 1, code := prog_37_method_1_code, exceptionTable := #[], attributes := #[] }
def k2m0 : Method := { name := "<init>", desc := "()V", sig := { parameters := [], returnType := none }, accessFlags := 0, code := some k2c0 }
def k2c1 : Code := { maxStack := 4, maxLocals := 5, code := prog_37_method_3_code, exceptionTable := #[], attributes := #[] }
def k2m1 : Method := { name := "put", desc := "(JI)V", sig := { parameters := [.long, .int], returnType := none }, accessFlags := 0, code := some k2c1 }
def k2c2 : Code := { maxStack := 4, maxLocals := 4, code := prog_37_method_6_code, exceptionTable := #[], attributes := #[] }
def k2m2 : Method := { name := "keys", desc := "()[J", sig := { parameters := [], returnType := some (.array .long) }, accessFlags := 0, code := some k2c2 }
def k2c3 : Code := { maxStack := 5, maxLocals := 7, code := prog_37_method_8_code, exceptionTable := #[], attributes := #[] }
def k2m3 : Method := { name := "slotOf", desc := "(J)I", sig := { parameters := [.long], returnType := some .int }, accessFlags := 2, code := some k2c3 }
def k2c4 : Code := { maxStack := 2, maxLocals := 2, code := prog_37_method_9_code, exceptionTable := #[], attributes := #[] }
def k2m4 : Method := { name := "filled", desc := "(I)[I", sig := { parameters := [.int], returnType := some (.array .int) }, accessFlags := 10, code := some k2c4 }
/-- com/example/subsume/subsume/LongIntMap -/
def k2 : Class := { plain "com/example/subsume/subsume/LongIntMap" (some 0) with
  accessFlags := 32
  interfaces := #[]
  cf := some (fileOf pool2 8 #[] #[{ accessFlags := 0, nameIndex := 5, descriptorIndex := 6, attributes := #[] }, { accessFlags := 0, nameIndex := 34, descriptorIndex := 35, attributes := #[] }, { accessFlags := 0, nameIndex := 11, descriptorIndex := 65, attributes := #[] }, { accessFlags := 2, nameIndex := 23, descriptorIndex := 24, attributes := #[] }, { accessFlags := 10, nameIndex := 15, descriptorIndex := 16, attributes := #[] }] 32 2 #[] #[{ accessFlags := 24, nameIndex := 54, descriptorIndex := 28, attributes := #[] }, { accessFlags := 26, nameIndex := 57, descriptorIndex := 28, attributes := #[] }, { accessFlags := 2, nameIndex := 11, descriptorIndex := 12, attributes := #[] }, { accessFlags := 2, nameIndex := 19, descriptorIndex := 20, attributes := #[] }, { accessFlags := 2, nameIndex := 27, descriptorIndex := 28, attributes := #[] }])
  fields := #[{ name := "ABSENT", type := .int, accessFlags := 24, slot := 0, constantValue := 0 }, { name := "MAX_SLOTS", type := .int, accessFlags := 26, slot := 1, constantValue := 0 }, { name := "keys", type := (.array .long), accessFlags := 2, slot := 0, constantValue := 0 }, { name := "values", type := (.array .int), accessFlags := 2, slot := 1, constantValue := 0 }, { name := "size", type := .int, accessFlags := 2, slot := 2, constantValue := 0 }]
  methods := #[k2m0, k2m1, k2m2, k2m3, k2m4]
  instanceTypes := #[(.array .long), (.array .int), .int]
  staticTypes := #[.int, .int]
  resolved := Array.replicate 85 none
  statics := none }

def pool3 : Array CpInfo := pool [(2, .class_ 4), (1, u "java/lang/Object"), (0, u "<init>"), (0, u "()V"), (7, .class_ 16), (1, u "java/util/Arrays"), (57, .class_ 76), (1, u "java/util/Arrays$NaturalOrder"), (36, .class_ 115), (1, u "java/util/Arrays$LegacyMergeSort"), (1, u "Z"), (257, .class_ 376), (0, u "java/util/Arrays$ArrayList"), (68, u "$assertionsDisabled"), (269, u "MIN_ARRAY_SORT_GRAN"), (0, u "I"), (2, u "INSERTIONSORT_THRESHOLD"), (120, u "fill"), (4, u "([II)V"), (129, .class_ 976), (0, u "java/util/Arrays$ArrayItr")] 52

def k3m0 : Method := { name := "<init>", desc := "()V", sig := { parameters := [], returnType := none }, accessFlags := 2, code := none }
def k3c1 : Code := { maxStack := 3, maxLocals := 4, code := jdk_65_method_103_code, exceptionTable := #[], attributes := #[] }
def k3m1 : Method := { name := "fill", desc := "([II)V", sig := { parameters := [(.array .int), .int], returnType := none }, accessFlags := 9, code := some k3c1 }
/-- java/util/Arrays -/
def k3 : Class := { plain "java/util/Arrays" (some 0) with
  accessFlags := 49
  interfaces := #[]
  cf := some (fileOf pool3 14 #[.nestMembers #[975, 375, 113, 74]] #[{ accessFlags := 2, nameIndex := 5, descriptorIndex := 6, attributes := #[] }, { accessFlags := 9, nameIndex := 840, descriptorIndex := 845, attributes := #[] }] 49 2 #[] #[{ accessFlags := 26, nameIndex := 715, descriptorIndex := 716, attributes := #[] }, { accessFlags := 26, nameIndex := 719, descriptorIndex := 716, attributes := #[] }, { accessFlags := 4120, nameIndex := 445, descriptorIndex := 117, attributes := #[] }])
  fields := #[{ name := "MIN_ARRAY_SORT_GRAN", type := .int, accessFlags := 26, slot := 0, constantValue := 0 }, { name := "INSERTIONSORT_THRESHOLD", type := .int, accessFlags := 26, slot := 1, constantValue := 0 }, { name := "$assertionsDisabled", type := .boolean, accessFlags := 4120, slot := 2, constantValue := 0 }]
  methods := #[k3m0, k3m1]
  instanceTypes := #[]
  staticTypes := #[.int, .int, .boolean]
  resolved := Array.replicate 1029 none
  statics := none }

def pool4 : Array CpInfo := pool [(1, u "java/lang/Cloneable"), (0, .class_ 1), (0, u "java/lang/Object"), (0, .class_ 3)] 3

/-- java/lang/Cloneable -/
def k4 : Class := { plain "java/lang/Cloneable" (some 0) with
  accessFlags := 1537
  interfaces := #[]
  cf := some (fileOf pool4 2 #[] #[] 1537 4 #[] #[])
  fields := #[]
  methods := #[]
  instanceTypes := #[]
  staticTypes := #[]
  resolved := Array.replicate 8 none
  statics := none }

def pool5 : Array CpInfo := pool [(1, u "java/io/Serializable"), (0, .class_ 1), (0, u "java/lang/Object"), (0, .class_ 3)] 3

/-- java/io/Serializable -/
def k5 : Class := { plain "java/io/Serializable" (some 0) with
  accessFlags := 1537
  interfaces := #[]
  cf := some (fileOf pool5 2 #[] #[] 1537 4 #[] #[])
  fields := #[]
  methods := #[]
  instanceTypes := #[]
  staticTypes := #[]
  resolved := Array.replicate 8 none
  statics := none }

/-- the primitive byte -/
def k6 : Class := { plain "byte" none with kind := .primitive 'B', accessFlags := 0x411 }
/-- [B -/
def k7 : Class := { plain "[B" (some 0) with kind := .array 6 .byte, interfaces := #[4, 5], accessFlags := 1041 }

/-- the primitive int -/
def k8 : Class := { plain "int" none with kind := .primitive 'I', accessFlags := 0x411 }
/-- [I -/
def k9 : Class := { plain "[I" (some 0) with kind := .array 8 .int, interfaces := #[4, 5], accessFlags := 1041 }

/-- the primitive long -/
def k10 : Class := { plain "long" none with kind := .primitive 'J', accessFlags := 0x411 }
/-- [J -/
def k11 : Class := { plain "[J" (some 0) with kind := .array 10 .long, interfaces := #[4, 5], accessFlags := 1041 }

def heap : Heap := #[]
def classes : Array Class := #[k0, k1, k2, k3, k4, k5, k6, k7, k8, k9, k10, k11]
def interned : List (Array UInt16 × Addr) := []
def slotsUsed : Nat := 0
def theMethod : MethodId := ⟨1, 1⟩
def args0 : Array Value := #[.long 5, .long 7, .long 6, .long 1, .int 2, .int 3]
def aboutOver (below : List Frame) : State where
  vm := { classes := classes, interned := interned.toArray }
  heap := heap
  slotsUsed := slotsUsed
  threads := #[{ frames := .invoking theMethod args0 :: below }]
def below0 : List Frame := [.native { method := ⟨0, 0⟩, args := #[] }]
def about1 : State := aboutOver below0
def p0 : Program := .bare "" "" ""
def e0 : Env := launch0.env 0 0 0
theorem w_frames : about1.frames = Frame.invoking theMethod args0 :: below0 := rfl
set_option maxRecDepth 65536 in
theorem w_args : argsFit about1.vm theMethod args0 = true := by decide +kernel
set_option maxRecDepth 65536 in
theorem w_heap : heapFits about1 = true := by decide +kernel
set_option maxRecDepth 65536 in
theorem w_runnable : about1.curStatus? = some .runnable := by decide +kernel
set_option maxRecDepth 65536 in
theorem w_alone : about1.alone = true := by decide +kernel
set_option maxRecDepth 65536 in
theorem w_named : about1.methodNamed? x = some theMethod := by decide +kernel
set_option maxRecDepth 65536 in
theorem w_hears : about1.hears theMethod below0 = true := by decide +kernel
set_option maxRecDepth 65536 in
theorem w_ripe : about1.ripe theMethod args0 below0 = true := by decide +kernel
theorem w_running : about1.status = .running := rfl
set_option maxRecDepth 65536 in
theorem w_room : about1.hasRoom e0.platform room_1 = true :=
  launch0.hasRoom_least _ room_1 (by decide +kernel) (by decide +kernel) (by decide +kernel) (by decide +kernel) (by decide +kernel) (by decide +kernel)
theorem allAtoms_all (ts : List Jvm.Cond) (a : Array Jvm.Value) (st : Jvm.State) : (allAtoms ts).before a st = ts.all (fun c => c.before a st) := by
  induction ts with
  | nil => rfl
  | cons c t ih =>
    show (Jvm.Cond.and c (allAtoms t)).before a st = _
    rw [Jvm.Cond.before_and, ih, List.all_cons]
def words1 : List Jvm.Cond := Jvm.Cond.code x code maxLocals ret :: tables_1
/-- a 'code' word, met by the world's own term for the bytes: nothing is compared byte by byte -/
theorem code_word {y : MethodName} {bytes : ByteArray} {mx : Nat} {rt : Option FieldType} {a : Array Value} {s : State} {m : MethodId} {meth : Method} {c : Code} (h1 : s.methodNamed? y = some m) (h2 : s.vm.method? m = some meth) (h3 : meth.code = some c) (h4 : c.code = bytes)
    (h5 : (c.maxLocals == mx && c.exceptionTable.isEmpty && decide (c.maxStack ≤ mostOperands) && decide (meth.sig.returnType = rt) && !meth.locks && decide (parseMethodDescriptor y.desc = some meth.sig)) = true) : (Jvm.Cond.code y bytes mx rt).before a s = true := by
  simp only [Bool.and_eq_true, beq_iff_eq, Bool.not_eq_true', decide_eq_true_eq] at h5
  obtain ⟨⟨⟨⟨⟨g1, g2⟩, g3⟩, g4⟩, g5⟩, g6⟩ := h5
  simp [Cond.before, Cond.holds, Cond.value, h1, h2, h3, h4, g1, g2, g3, g4, g5, g6]
def isCode : Jvm.Cond → Bool
  | .code _ _ _ _ => true
  | _ => false
theorem all_split {L : List Jvm.Cond} {P : Jvm.Cond → Bool} (h1 : L.all (fun c => isCode c || P c) = true) (h2 : ∀ c ∈ L.filter isCode, P c = true) : L.all P = true := by
  refine List.all_eq_true.mpr fun c hc => ?_
  have h := List.all_eq_true.mp h1 c hc
  rcases Bool.eq_false_or_eq_true (isCode c) with hi | hi
  · exact h2 c (List.mem_filter.mpr ⟨hc, hi⟩)
  · simpa [hi] using h
set_option maxRecDepth 65536 in
theorem w_c0 : (Jvm.Cond.code x code maxLocals ret).before args0 about1 = true := code_word (m := ⟨1, 1⟩) (meth := k1m1) (c := k1c1) (by decide +kernel) rfl rfl rfl (by decide +kernel)
set_option maxRecDepth 65536 in
theorem w_c1 : (Jvm.Cond.code ({ cls := "com/example/subsume/subsume/LongIntMap", name := "<init>", desc := "()V" } : Jvm.MethodName) prog_37_method_1_code (1 : Nat) (Option.none : Option Jvm.ClassFile.FieldType)).before args0 about1 = true := code_word (m := ⟨2, 0⟩) (meth := k2m0) (c := k2c0) (by decide +kernel) rfl rfl rfl (by decide +kernel)
set_option maxRecDepth 65536 in
theorem w_c2 : (Jvm.Cond.code ({ cls := "java/lang/Object", name := "<init>", desc := "()V" } : Jvm.MethodName) object_method_1_code (1 : Nat) (Option.none : Option Jvm.ClassFile.FieldType)).before args0 about1 = true := code_word (m := ⟨0, 0⟩) (meth := k0m0) (c := k0c0) (by decide +kernel) rfl rfl rfl (by decide +kernel)
set_option maxRecDepth 65536 in
theorem w_c3 : (Jvm.Cond.code ({ cls := "com/example/subsume/subsume/LongIntMap", name := "filled", desc := "(I)[I" } : Jvm.MethodName) prog_37_method_9_code (2 : Nat) (Option.some (Jvm.ClassFile.FieldType.array Jvm.ClassFile.FieldType.int))).before args0 about1 = true := code_word (m := ⟨2, 4⟩) (meth := k2m4) (c := k2c4) (by decide +kernel) rfl rfl rfl (by decide +kernel)
set_option maxRecDepth 65536 in
theorem w_c4 : (Jvm.Cond.code ({ cls := "java/util/Arrays", name := "fill", desc := "([II)V" } : Jvm.MethodName) jdk_65_method_103_code (4 : Nat) (Option.none : Option Jvm.ClassFile.FieldType)).before args0 about1 = true := code_word (m := ⟨3, 1⟩) (meth := k3m1) (c := k3c1) (by decide +kernel) rfl rfl rfl (by decide +kernel)
set_option maxRecDepth 65536 in
theorem w_c5 : (Jvm.Cond.code ({ cls := "com/example/subsume/subsume/LongIntMap", name := "keys", desc := "()[J" } : Jvm.MethodName) prog_37_method_6_code (4 : Nat) (Option.some (Jvm.ClassFile.FieldType.array Jvm.ClassFile.FieldType.long))).before args0 about1 = true := code_word (m := ⟨2, 2⟩) (meth := k2m2) (c := k2c2) (by decide +kernel) rfl rfl rfl (by decide +kernel)
set_option maxRecDepth 65536 in
theorem w_c6 : (Jvm.Cond.code ({ cls := "com/example/subsume/subsume/LongIntMap", name := "put", desc := "(JI)V" } : Jvm.MethodName) prog_37_method_3_code (5 : Nat) (Option.none : Option Jvm.ClassFile.FieldType)).before args0 about1 = true := code_word (m := ⟨2, 1⟩) (meth := k2m1) (c := k2c1) (by decide +kernel) rfl rfl rfl (by decide +kernel)
set_option maxRecDepth 65536 in
theorem w_c7 : (Jvm.Cond.code ({ cls := "com/example/subsume/subsume/LongIntMap", name := "slotOf", desc := "(J)I" } : Jvm.MethodName) prog_37_method_8_code (7 : Nat) (Option.some Jvm.ClassFile.FieldType.int)).before args0 about1 = true := code_word (m := ⟨2, 3⟩) (meth := k2m3) (c := k2c3) (by decide +kernel) rfl rfl rfl (by decide +kernel)
set_option maxRecDepth 65536 in
theorem w_c8 : (Jvm.Cond.code ({ cls := "com/example/subsume/subsume/LongIntMapKeysPinLaw", name := "has", desc := "([JJ)Z" } : Jvm.MethodName) method_3_code (3 : Nat) (Option.some Jvm.ClassFile.FieldType.boolean)).before args0 about1 = true := code_word (m := ⟨1, 2⟩) (meth := k1m2) (c := k1c2) (by decide +kernel) rfl rfl rfl (by decide +kernel)
def codes1 : List Jvm.Cond := [Jvm.Cond.code x code maxLocals ret, Jvm.Cond.code ({ cls := "com/example/subsume/subsume/LongIntMap", name := "<init>", desc := "()V" } : Jvm.MethodName) prog_37_method_1_code (1 : Nat) (Option.none : Option Jvm.ClassFile.FieldType), Jvm.Cond.code ({ cls := "java/lang/Object", name := "<init>", desc := "()V" } : Jvm.MethodName) object_method_1_code (1 : Nat) (Option.none : Option Jvm.ClassFile.FieldType), Jvm.Cond.code ({ cls := "com/example/subsume/subsume/LongIntMap", name := "filled", desc := "(I)[I" } : Jvm.MethodName) prog_37_method_9_code (2 : Nat) (Option.some (Jvm.ClassFile.FieldType.array Jvm.ClassFile.FieldType.int)), Jvm.Cond.code ({ cls := "java/util/Arrays", name := "fill", desc := "([II)V" } : Jvm.MethodName) jdk_65_method_103_code (4 : Nat) (Option.none : Option Jvm.ClassFile.FieldType), Jvm.Cond.code ({ cls := "com/example/subsume/subsume/LongIntMap", name := "keys", desc := "()[J" } : Jvm.MethodName) prog_37_method_6_code (4 : Nat) (Option.some (Jvm.ClassFile.FieldType.array Jvm.ClassFile.FieldType.long)), Jvm.Cond.code ({ cls := "com/example/subsume/subsume/LongIntMap", name := "put", desc := "(JI)V" } : Jvm.MethodName) prog_37_method_3_code (5 : Nat) (Option.none : Option Jvm.ClassFile.FieldType), Jvm.Cond.code ({ cls := "com/example/subsume/subsume/LongIntMap", name := "slotOf", desc := "(J)I" } : Jvm.MethodName) prog_37_method_8_code (7 : Nat) (Option.some Jvm.ClassFile.FieldType.int), Jvm.Cond.code ({ cls := "com/example/subsume/subsume/LongIntMapKeysPinLaw", name := "has", desc := "([JJ)Z" } : Jvm.MethodName) method_3_code (3 : Nat) (Option.some Jvm.ClassFile.FieldType.boolean)]
set_option maxRecDepth 65536 in
theorem codes_eq : words1.filter isCode = codes1 := rfl
theorem w_codes : ∀ c ∈ words1.filter isCode, c.before args0 about1 = true := by
  rw [codes_eq]
  intro c hc
  simp only [codes1, List.mem_cons, List.not_mem_nil, or_false] at hc
  rcases hc with rfl | rfl | rfl | rfl | rfl | rfl | rfl | rfl | rfl
  · exact w_c0
  · exact w_c1
  · exact w_c2
  · exact w_c3
  · exact w_c4
  · exact w_c5
  · exact w_c6
  · exact w_c7
  · exact w_c8
set_option maxRecDepth 65536 in
theorem w_t1 : (words1.take 24).all (fun c => isCode c || c.before args0 about1) = true := by decide +kernel
set_option maxRecDepth 65536 in
theorem w_t2 : (words1.drop 24).all (fun c => isCode c || c.before args0 about1) = true := by decide +kernel
theorem w_tables : (allAtoms (Jvm.Cond.code x code maxLocals ret :: tables_1)).before args0 about1 = true := by
  rw [allAtoms_all]
  show words1.all (fun c => c.before args0 about1) = true
  refine all_split ?_ w_codes
  rw [← List.take_append_drop 24 words1, List.all_append, w_t1, w_t2]
  rfl
set_option maxRecDepth 65536 in
theorem w_case : (Jvm.Cond.and given_1 narrow_1).before args0 about1 = true := by decide +kernel
theorem w_applies : (headSpec (Jvm.Cond.code x code maxLocals ret :: tables_1) room_1).applies x e0.platform about1 = true :=
  (Spec.applies_iff w_frames).mpr ⟨w_running, w_runnable, w_alone, w_named, w_hears, w_ripe, w_room, w_tables⟩
theorem atStart : AtStart classFile x code maxLocals ret World_1 tables_1 room_1 Calls_1 rest_1 Pre_1 launch0 p0 e0 about1 theMethod args0 below0 :=
  ⟨lists_1, trivial, launch0.admits_env _ _ _, launch0.least_env, fairChoices_fair.cas, fairChoices_fair.clock, w_frames, w_args, w_heap, w_applies, trivial, trivial, w_case⟩
end start1
theorem witness_1 : WitnessClaimed_1 := ⟨start1.p0, start1.e0, start1.about1, start1.theMethod, start1.args0, start1.below0, start1.atStart⟩
end Jvm.Pilot.@@N@@
