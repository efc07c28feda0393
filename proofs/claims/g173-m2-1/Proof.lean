import JvmDerived
import JvmDerived.Pilot.@@N@@Statement
import JvmDerived.Pilot.@@N@@Code
set_option linter.unusedVariables false
set_option linter.unusedSimpArgs false
@@BLOCK:NumsL.lean.txt@@
namespace Jvm.OwnGo
open Jvm Sem ClassFile Op Lib Jvm.Stand Jvm.Free Jvm.LawKit Jvm.RoadKit
/-! ## 1. plain values: a reference is a place in the list of the objects that the law has made -/
def sv (n0 : Nat) : Value → Value
  | .ref a => .ref (n0 + a)
  | .int x => .int x
  | .long x => .long x
  | .null => .null
  | .float x => .float x
  | .double x => .double x
  | .retAddr x => .retAddr x
def ss (n0 : Nat) : Slot → Slot
  | .val v => .val (sv n0 v)
  | .unset => .unset
  | .second => .second
abbrev Obj := (String × List (String × String × Value)) ⊕ (FieldType × List Value)
abbrev Hp := List Obj
abbrev Ctx := Launch × State × Array Value × Nat
abbrev Mt := MethodName × ByteArray × Nat × Option FieldType
abbrev Res := Option Value × Option Hp × Nat × Nat
abbrev LL (n0 : Nat) (ls : List Slot) : Array Slot := (ls.map (ss n0)).toArray
abbrev SS (n0 : Nat) (st : List Value) : List Value := st.map (sv n0)
theorem sv_cat (n0 : Nat) (v : Value) : (sv n0 v).category = v.category := by cases v <;> rfl
theorem sv_ref (n0 : Nat) (v : Value) : (sv n0 v).isRef = v.isRef := by cases v <;> rfl
theorem LL_get {n0 : Nat} {ls : List Slot} {k : Nat} {x : Slot} (h : ls[k]? = some x) : (LL n0 ls)[k]? = some (ss n0 x) := by simp [LL, h]
theorem LL_size (n0 : Nat) (ls : List Slot) : (LL n0 ls).size = ls.length := by simp [LL]
theorem cats (n0 : Nat) (st : List Value) : ((SS n0 st).map fun v => v.category).sum = (st.map fun v => v.category).sum := by
  induction st with
  | nil => rfl
  | cons v r ih => simp only [SS, List.map_cons, List.sum_cons, sv_cat] at ih ⊢; rw [ih]
/-! ## 2. what an object of the list is in the heap -/
def COk (Z : State) (a0 : Array Value) (n0 : Nat) (h : Heap) (a : Addr) : Obj → Prop
  | .inl o => Exa Z h a o.1 ∧ (o.2.map (fun f => f.1)).Nodup ∧ ∀ f ∈ o.2, Laid Z a0 o.1 o.1 f.1 f.2.1 ∧ (∃ ty, parseFieldDescriptor f.2.1 = some ty) ∧ Fld Z h a o.1 f.1 f.2.1 (sv n0 f.2.2)
  | .inr o => Exa Z h a ("[" ++ o.1.toString) ∧ ∃ c : Cell, Arr Z h a c o.1 ∧ c.slots = (o.2.map (sv n0)).toArray
def Sim (K : Ctx) (h : Heap) (H : Hp) : Prop := h.size = K.2.2.2 + H.length ∧ ∀ (i : Nat) (o : Obj), H[i]? = some o → COk K.2.1 K.2.2.1 K.2.2.2 h (K.2.2.2 + i) o
theorem COk.ext {Z : State} {a0 : Array Value} {n0 : Nat} {h h' : Heap} {a : Addr} {o : Obj} (E : Ext h h') (C : COk Z a0 n0 h a o) : COk Z a0 n0 h' a o := by
  cases o with
  | inl o => exact ⟨C.1.ext E, C.2.1, fun f hf => ⟨(C.2.2 f hf).1, (C.2.2 f hf).2.1, (C.2.2 f hf).2.2.ext E⟩⟩
  | inr o => obtain ⟨e0, c, A, q⟩ := C; exact ⟨e0.ext E, c, A.ext E, q⟩
theorem COk.other {Z : State} {a0 : Array Value} {n0 : Nat} {h h' : Heap} {a b : Addr} {o : Obj} {sl : Nat} {v : Value} (W : Wr h h' b sl v) (ne : a ≠ b) (C : COk Z a0 n0 h a o) : COk Z a0 n0 h' a o := by
  cases o with
  | inl o => exact ⟨C.1.wr W, C.2.1, fun f hf => ⟨(C.2.2 f hf).1, (C.2.2 f hf).2.1, (C.2.2 f hf).2.2.other W (Or.inl ne)⟩⟩
  | inr o => obtain ⟨e0, c, A, q⟩ := C; exact ⟨e0.wr W, c, A.other W ne, q⟩
theorem Sim.push {K : Ctx} {h h' : Heap} {H : Hp} {o : Obj} (S : Sim K h H) (E : Ext h h') (hs : h'.size = h.size + 1) (C : COk K.2.1 K.2.2.1 K.2.2.2 h' (K.2.2.2 + H.length) o) : Sim K h' (H ++ [o]) := by
  refine ⟨by rw [hs, S.1, List.length_append]; rfl, fun i o' hi => ?_⟩
  by_cases q : i < H.length
  · rw [List.getElem?_append_left q] at hi
    exact (S.2 i o' hi).ext E
  · have hl := (List.getElem?_eq_some_iff.mp hi).1
    rw [List.length_append, List.length_singleton] at hl
    obtain rfl : i = H.length := by omega
    rw [List.getElem?_append_right (Nat.le_refl _), Nat.sub_self] at hi
    cases hi
    exact C
theorem Sim.set {K : Ctx} {h h' : Heap} {H : Hp} {o o' : Obj} {i sl : Nat} {v : Value} (S : Sim K h H) (W : Wr h h' (K.2.2.2 + i) sl v) (hi : H[i]? = some o) (C : COk K.2.1 K.2.2.1 K.2.2.2 h' (K.2.2.2 + i) o') : Sim K h' (H.set i o') := by
  refine ⟨by rw [W.size, S.1, List.length_set], fun j u hj => ?_⟩
  by_cases q : j = i
  · subst q
    rw [List.getElem?_set_self (List.getElem?_eq_some_iff.mp hi).1] at hj
    cases hj
    exact C
  · rw [List.getElem?_set_ne (Ne.symm q)] at hj
    exact (S.2 j u hj).other W (fun z => q (Nat.add_left_cancel z))
/-! ## 3. 'Go': from here the invocation comes to its end with r: the value, the objects, at the most so many cells and slots made -/
def FinH (K : Ctx) (h : Heap) (o : Option Hp) : Prop := ∀ H', o = some H' → Sim K h H'
def HOk (H : Hp) (o : Option Hp) : Prop := ∀ H', o = some H' → H = H'
theorem HOk.any {H : Hp} : HOk H none := fun _ h => nomatch h
theorem HOk.eq {H H' : Hp} (h : H = H') : HOk H (some H') := fun _ e => h.trans (Option.some.inj e)
theorem HOk.fin {K : Ctx} {h : Heap} {H : Hp} {o : Option Hp} (q : HOk H o) (S : Sim K h H) : FinH K h o := fun H' e => q H' e ▸ S
def Go (K : Ctx) (M : Mt) (F Lo : Nat) (pc : Nat) (ls : List Slot) (st : List Value) (H : Hp) (r : Res) : Prop :=
  ∀ (R : Room) (cells slots : Nat) (p : Program) (e : Env) (s : State) (m : MethodId) (args : Array Value) (below : List Frame) (meth : Method) (c : Code) (T : State) (locs : List Loc),
    F ≤ R.frames → Lo ≤ R.locals → cells + r.2.2.1 ≤ R.cells → slots + r.2.2.2 ≤ R.slots → p.tables.exec = Jvm.exec → K.2.1.Warmed39 s.vm → c.code = M.2.1 → c.maxLocals = M.2.2.1 → meth.sig.returnType = M.2.2.2 → meth.locks = false → s.vm.findClass M.1.cls = some m.cls → meth.name = M.1.name →
    Stand p K.1 e R s m args below meth c T locs cells slots → Sim K T.heap H → Fr K.2.2.2 locs →
    ∃ (s₂ : State) (L : List Loc), Steps p.tables e below (T.setTop (mkF m pc (LL K.2.2.2 ls) (SS K.2.2.2 st))) s₂ ∧ s₂.status = .running ∧ Ended s₂ below (.returned (r.1.map (sv K.2.2.2))) ∧ FinH K s₂.heap r.2.1 ∧ Fr K.2.2.2 L ∧ FrameEnd s (.returned (r.1.map (sv K.2.2.2))) s₂ L (cells + r.2.2.1) (slots + r.2.2.2)
def Dec (M : Mt) (pc : Nat) (i : Instr) (n pc' : Nat) : Prop := decode M.2.1 pc = .ok (i, n) ∧ pc + n = pc'
def Jmp (pc : Nat) (o : Int) (pc' : Nat) : Prop := 0 ≤ (pc : Int) + o ∧ ((pc : Int) + o).toNat = pc'
instance (M : Mt) (pc : Nat) (i : Instr) (n pc' : Nat) : Decidable (Dec M pc i n pc') := inferInstanceAs (Decidable (_ ∧ _))
instance (pc : Nat) (o : Int) (pc' : Nat) : Decidable (Jmp pc o pc') := inferInstanceAs (Decidable (_ ∧ _))
section G
variable {K : Ctx} {M : Mt} {F Lo pc pc' pt : Nat} {ls ls' : List Slot} {st st' : List Value} {H : Hp} {r : Res}
theorem Go.mono {F' Lo' : Nat} {rv : Option Value} {H' : Option Hp} {dc ds dc' ds' : Nat} (h : Go K M F Lo pc ls st H (rv, H', dc, ds)) (h1 : F ≤ F') (h2 : Lo ≤ Lo') (h3 : dc ≤ dc') (h4 : ds ≤ ds') : Go K M F' Lo' pc ls st H (rv, H', dc', ds') := by
  intro R cells slots p e s m args below meth c T locs a1 a2 a3 a4 b1 b2 b3 b4 b5 b6 b7 b8 X S N
  obtain ⟨s₂, L, q1, q2, q3, q4, q5, q6⟩ := h R cells slots p e s m args below meth c T locs (Nat.le_trans h1 a1) (Nat.le_trans h2 a2) (Nat.le_trans (Nat.add_le_add_left h3 _) a3) (Nat.le_trans (Nat.add_le_add_left h4 _) a4) b1 b2 b3 b4 b5 b6 b7 b8 X S N
  exact ⟨s₂, L, q1, q2, q3, q4, q5, q6.1, q6.2.1, q6.2.2.mono (Nat.add_le_add_left h3 _) (Nat.add_le_add_left h4 _)⟩
theorem Go.cast {r' : Res} (h : Go K M F Lo pc ls st H r) (e : r = r') : Go K M F Lo pc ls st H r' := e ▸ h
theorem Go.pureS (hs : ∀ {p : Program} {e : Env} {below : List Frame} {T target : State} {m : MethodId} {c : Code}, At T m c below → p.tables.exec = Jvm.exec → c.code = M.2.1 → Steps p.tables e below (T.setTop (mkF m pc' (LL K.2.2.2 ls') (SS K.2.2.2 st'))) target → Steps p.tables e below (T.setTop (mkF m pc (LL K.2.2.2 ls) (SS K.2.2.2 st))) target)
    (h : Go K M F Lo pc' ls' st' H r) : Go K M F Lo pc ls st H r := by
  intro R cells slots p e s m args below meth c T locs a1 a2 a3 a4 b1 b2 b3 b4 b5 b6 b7 b8 X S N
  obtain ⟨s₂, L, q1, q⟩ := h R cells slots p e s m args below meth c T locs a1 a2 a3 a4 b1 b2 b3 b4 b5 b6 b7 b8 X S N
  exact ⟨s₂, L, hs X.here b1 b3 q1, q⟩
theorem Dec.at {M : Mt} {pc n pc' : Nat} {i : Instr} (d : Dec M pc i n pc') {c : Code} (hc : c.code = M.2.1) : decode c.code pc = .ok (i, n) := hc ▸ d.1
/-! ## 4. one law a plain instruction -/
theorem rem_mod (x y : Int32) : x - (x / y) * y = x % y := irem_eq_mod x y
def setM (n0 : Nat) (A : Array Slot) : Array Slot := A.map (ss n0)
theorem setAt_map (n0 : Nat) (A : Array Slot) (i : Nat) (x : Slot) : setAt (setM n0 A) i (ss n0 x) = (setAt A i x).map (setM n0) := by
  simp only [setAt, setM, Array.size_map]
  split
  · show some ((A.map (ss n0)).setIfInBounds i (ss n0 x)) = some ((A.setIfInBounds i x).map (ss n0))
    rw [Array.map_setIfInBounds]
  · rfl
theorem setM_get (n0 : Nat) (A : Array Slot) (i : Nat) : (setM n0 A)[i]? = (A[i]?).map (ss n0) := by simp [setM]
theorem storeSelf_map (n0 : Nat) (A : Array Slot) (i : Nat) (v : Value) : storeSelf (setM n0 A) i (sv n0 v) = (storeSelf A i v).map (setM n0) := by
  have e0 : setAt (setM n0 A) i (.val (sv n0 v)) = (setAt A i (.val v)).map (setM n0) := setAt_map n0 A i (.val v)
  have eu : ∀ B j, setAt (setM n0 B) j .unset = (setAt B j .unset).map (setM n0) := fun B j => setAt_map n0 B j .unset
  have es : ∀ B j, setAt (setM n0 B) j .second = (setAt B j .second).map (setM n0) := fun B j => setAt_map n0 B j .second
  simp only [storeSelf, e0, sv_cat]
  cases setAt A i (.val v) with
  | none => rfl
  | some B =>
    simp only [Option.map_some, Option.bind_eq_bind, Option.bind_some, setM_get]
    split
    · cases B[i + 1]? with
      | none => rfl
      | some x =>
        cases x with
        | unset => simp only [Option.map_some, Option.bind_some, ss, es]
        | second => simp only [Option.map_some, Option.bind_some, ss, es]
        | val w =>
          simp only [Option.map_some, Option.bind_some, ss, sv_cat]
          split
          · rw [eu]
            cases setAt B (i + 2) .unset with
            | none => rfl
            | some D => simp only [Option.map_some, Option.bind_some, es]
          · rw [es]
    · rfl
theorem storeLocals_map (n0 : Nat) (A : Array Slot) (i : Nat) (v : Value) : storeLocals (setM n0 A) i (sv n0 v) = (storeLocals A i v).map (setM n0) := by
  have eu : ∀ B j, setAt (setM n0 B) j .unset = (setAt B j .unset).map (setM n0) := fun B j => setAt_map n0 B j .unset
  simp only [storeLocals, setM_get, Option.bind_eq_bind]
  cases A[i]? with
  | none => rfl
  | some x =>
    cases x with
    | unset => simp only [Option.map_some, Option.bind_some, ss, storeSelf_map]
    | second =>
      simp only [Option.map_some, Option.bind_some, ss, eu]
      cases setAt A (i - 1) .unset with
      | none => rfl
      | some D => simp only [Option.map_some, Option.bind_some, storeSelf_map]
    | val w =>
      simp only [Option.map_some, Option.bind_some, ss, sv_cat]
      split
      · rw [eu]
        cases setAt A (i + 1) .unset with
        | none => rfl
        | some D => simp only [Option.map_some, Option.bind_some, storeSelf_map]
      · rw [storeSelf_map]
def stl (ls : List Slot) (k : Nat) (v : Value) : Option (List Slot) := (storeLocals ls.toArray k v).map Array.toList
theorem stl_ok {n0 : Nat} {ls ls' : List Slot} {k : Nat} {v : Value} (h : stl ls k v = some ls') : storeLocals (LL n0 ls) k (sv n0 v) = some (LL n0 ls') := by
  have e : LL n0 ls = setM n0 ls.toArray := by simp [LL, setM]
  rw [e, storeLocals_map]
  simp only [stl] at h
  cases hq : storeLocals ls.toArray k v with
  | none => rw [hq] at h; cases h
  | some B =>
    rw [hq] at h
    cases h
    show some (setM n0 B) = some (LL n0 B.toList)
    congr 1
    apply Array.toList_inj.mp
    simp [LL, setM]
theorem Go.iloadN {k : Fin 4} {v : Int32} (hd : Dec M pc (.iload_n k) 1 pc') (hl : ls[k.val]? = some (.val (.int v))) (h : Go K M F Lo pc' ls (.int v :: st) H r) : Go K M F Lo pc ls st H r := by
  obtain ⟨hd, rfl⟩ := hd
  exact h.pureS fun A hx hc k => XS.iloadN A hx rfl (hc ▸ hd) (LL_get hl) k
theorem Go.iload {k : Nat} {v : Int32} (hd : Dec M pc (.iload k) 2 pc') (hl : ls[k]? = some (.val (.int v))) (h : Go K M F Lo pc' ls (.int v :: st) H r) : Go K M F Lo pc ls st H r := by
  obtain ⟨hd, rfl⟩ := hd
  exact h.pureS fun A hx hc k => XS.iload A hx rfl (hc ▸ hd) (LL_get hl) k
theorem Go.istoreN {k : Fin 4} {v : Int32} (hd : Dec M pc (.istore_n k) 1 pc') (hl : stl ls k.val (.int v) = some ls') (h : Go K M F Lo pc' ls' st H r) : Go K M F Lo pc ls (.int v :: st) H r := by
  obtain ⟨hd, rfl⟩ := hd
  exact h.pureS fun A hx hc k => XS.istoreN A hx rfl (hc ▸ hd) rfl (stl_ok (n0 := K.2.2.2) hl) k
theorem Go.istore {k : Nat} {v : Int32} (hd : Dec M pc (.istore k) 2 pc') (hl : stl ls k (.int v) = some ls') (h : Go K M F Lo pc' ls' st H r) : Go K M F Lo pc ls (.int v :: st) H r := by
  obtain ⟨hd, rfl⟩ := hd
  exact h.pureS fun A hx hc k => XS.istore A hx rfl (hc ▸ hd) rfl (stl_ok (n0 := K.2.2.2) hl) k
theorem Go.lloadN {k : Fin 4} {v : Int64} (hd : Dec M pc (.lload_n k) 1 pc') (hl : ls[k.val]? = some (.val (.long v))) (h : Go K M F Lo pc' ls (.long v :: st) H r) : Go K M F Lo pc ls st H r := by
  obtain ⟨hd, rfl⟩ := hd
  exact h.pureS fun A hx hc k => XT.lloadN A hx rfl (hc ▸ hd) (LL_get hl) k
theorem Go.lload {k : Nat} {v : Int64} (hd : Dec M pc (.lload k) 2 pc') (hl : ls[k]? = some (.val (.long v))) (h : Go K M F Lo pc' ls (.long v :: st) H r) : Go K M F Lo pc ls st H r := by
  obtain ⟨hd, rfl⟩ := hd
  exact h.pureS fun A hx hc k => XT.lload A hx rfl (hc ▸ hd) (LL_get hl) k
theorem Go.lstoreN {k : Fin 4} {v : Int64} (hd : Dec M pc (.lstore_n k) 1 pc') (hl : stl ls k.val (.long v) = some ls') (h : Go K M F Lo pc' ls' st H r) : Go K M F Lo pc ls (.long v :: st) H r := by
  obtain ⟨hd, rfl⟩ := hd
  exact h.pureS fun A hx hc k => XT.lstoreN A hx rfl (hc ▸ hd) rfl (stl_ok (n0 := K.2.2.2) hl) k
theorem Go.lstore {k : Nat} {v : Int64} (hd : Dec M pc (.lstore k) 2 pc') (hl : stl ls k (.long v) = some ls') (h : Go K M F Lo pc' ls' st H r) : Go K M F Lo pc ls (.long v :: st) H r := by
  obtain ⟨hd, rfl⟩ := hd
  exact h.pureS fun A hx hc k => XT.lstore A hx rfl (hc ▸ hd) rfl (stl_ok (n0 := K.2.2.2) hl) k
theorem Go.aloadN {k : Fin 4} {v : Value} (hd : Dec M pc (.aload_n k) 1 pc') (hl : ls[k.val]? = some (.val v)) (hv : v.isRef = true) (h : Go K M F Lo pc' ls (v :: st) H r) : Go K M F Lo pc ls st H r := by
  obtain ⟨hd, rfl⟩ := hd
  exact h.pureS fun A hx hc k => XS.aloadN A hx rfl (hc ▸ hd) (LL_get hl) (by rw [sv_ref]; exact hv) k
theorem Go.aload {k : Nat} {v : Value} (hd : Dec M pc (.aload k) 2 pc') (hl : ls[k]? = some (.val v)) (hv : v.isRef = true) (h : Go K M F Lo pc' ls (v :: st) H r) : Go K M F Lo pc ls st H r := by
  obtain ⟨hd, rfl⟩ := hd
  exact h.pureS fun A hx hc k => XS.aload A hx rfl (hc ▸ hd) (LL_get hl) (by rw [sv_ref]; exact hv) k
theorem Go.astoreN {k : Fin 4} {v : Value} (hd : Dec M pc (.astore_n k) 1 pc') (hl : stl ls k.val v = some ls') (hv : v.isRef = true) (h : Go K M F Lo pc' ls' st H r) : Go K M F Lo pc ls (v :: st) H r := by
  obtain ⟨hd, rfl⟩ := hd
  exact h.pureS fun A hx hc k => XS.astoreN A hx rfl (hc ▸ hd) rfl (by rw [sv_ref]; exact hv) (stl_ok (n0 := K.2.2.2) hl) k
theorem Go.astore {k : Nat} {v : Value} (hd : Dec M pc (.astore k) 2 pc') (hl : stl ls k v = some ls') (hv : v.isRef = true) (h : Go K M F Lo pc' ls' st H r) : Go K M F Lo pc ls (v :: st) H r := by
  obtain ⟨hd, rfl⟩ := hd
  exact h.pureS fun A hx hc k => XS.astore A hx rfl (hc ▸ hd) rfl (by rw [sv_ref]; exact hv) (stl_ok (n0 := K.2.2.2) hl) k
theorem Go.iconst {i : Int} {v : Int32} (hd : Dec M pc (.iconst i) 1 pc') (hv : Int32.ofInt i = v) (h : Go K M F Lo pc' ls (.int v :: st) H r) : Go K M F Lo pc ls st H r := by
  obtain ⟨hd, rfl⟩ := hd
  exact h.pureS fun A hx hc k => XT.iconstV A hx rfl v (hc ▸ hd) hv k
theorem Go.bipush {i : Int} {v : Int32} (hd : Dec M pc (.bipush i) 2 pc') (hv : (Int8.ofInt i).toInt32 = v) (h : Go K M F Lo pc' ls (.int v :: st) H r) : Go K M F Lo pc ls st H r := by
  obtain ⟨hd, rfl⟩ := hd
  exact h.pureS fun A hx hc k => XT.bipushV A hx rfl v (hc ▸ hd) hv k
theorem Go.sipush {i : Int} {v : Int32} (hd : Dec M pc (.sipush i) 3 pc') (hv : (Int16.ofInt i).toInt32 = v) (h : Go K M F Lo pc' ls (.int v :: st) H r) : Go K M F Lo pc ls st H r := by
  obtain ⟨hd, rfl⟩ := hd
  exact h.pureS fun A hx hc k => XT.sipushV A hx rfl v (hc ▸ hd) hv k
theorem Go.lconst {i : Fin 2} {v : Int64} (hd : Dec M pc (.lconst i) 1 pc') (hv : Int64.ofNat i = v) (h : Go K M F Lo pc' ls (.long v :: st) H r) : Go K M F Lo pc ls st H r := by
  obtain ⟨hd, rfl⟩ := hd
  exact h.pureS fun A hx hc k => XT.lconstV A hx rfl v (hc ▸ hd) hv k
theorem Go.aconstNull  (hd : Dec M pc .aconst_null 1 pc') (h : Go K M F Lo pc' ls (.null :: st) H r) : Go K M F Lo pc ls st H r := by
  obtain ⟨hd, rfl⟩ := hd
  exact h.pureS fun A hx hc k => XS.aconstNull A hx rfl (hc ▸ hd) k
theorem Go.iadd {x y : Int32} (hd : Dec M pc .iadd 1 pc') (h : Go K M F Lo pc' ls (.int (x + y) :: st) H r) : Go K M F Lo pc ls (.int y :: .int x :: st) H r := by
  obtain ⟨hd, rfl⟩ := hd
  exact h.pureS fun A hx hc k => XS.iadd A hx rfl (hc ▸ hd) rfl k
theorem Go.isub {x y : Int32} (hd : Dec M pc .isub 1 pc') (h : Go K M F Lo pc' ls (.int (x - y) :: st) H r) : Go K M F Lo pc ls (.int y :: .int x :: st) H r := by
  obtain ⟨hd, rfl⟩ := hd
  exact h.pureS fun A hx hc k => XS.isub A hx rfl (hc ▸ hd) rfl k
theorem Go.imul {x y : Int32} (hd : Dec M pc .imul 1 pc') (h : Go K M F Lo pc' ls (.int (x * y) :: st) H r) : Go K M F Lo pc ls (.int y :: .int x :: st) H r := by
  obtain ⟨hd, rfl⟩ := hd
  exact h.pureS fun A hx hc k => XS.imul A hx rfl (hc ▸ hd) rfl k
theorem Go.iand {x y : Int32} (hd : Dec M pc .iand 1 pc') (h : Go K M F Lo pc' ls (.int (x &&& y) :: st) H r) : Go K M F Lo pc ls (.int y :: .int x :: st) H r := by
  obtain ⟨hd, rfl⟩ := hd
  exact h.pureS fun A hx hc k => XS.iand A hx rfl (hc ▸ hd) rfl k
theorem Go.ior {x y : Int32} (hd : Dec M pc .ior 1 pc') (h : Go K M F Lo pc' ls (.int (x ||| y) :: st) H r) : Go K M F Lo pc ls (.int y :: .int x :: st) H r := by
  obtain ⟨hd, rfl⟩ := hd
  exact h.pureS fun A hx hc k => XT.ior A hx rfl (hc ▸ hd) rfl k
theorem Go.ixor {x y : Int32} (hd : Dec M pc .ixor 1 pc') (h : Go K M F Lo pc' ls (.int (x ^^^ y) :: st) H r) : Go K M F Lo pc ls (.int y :: .int x :: st) H r := by
  obtain ⟨hd, rfl⟩ := hd
  exact h.pureS fun A hx hc k => XT.ixor A hx rfl (hc ▸ hd) rfl k
theorem Go.ishl {x y : Int32} (hd : Dec M pc .ishl 1 pc') (h : Go K M F Lo pc' ls (.int (x <<< (y &&& 31)) :: st) H r) : Go K M F Lo pc ls (.int y :: .int x :: st) H r := by
  obtain ⟨hd, rfl⟩ := hd
  exact h.pureS fun A hx hc k => XT.ishl A hx rfl (hc ▸ hd) rfl k
theorem Go.ishr {x y : Int32} (hd : Dec M pc .ishr 1 pc') (h : Go K M F Lo pc' ls (.int (x >>> (y &&& 31)) :: st) H r) : Go K M F Lo pc ls (.int y :: .int x :: st) H r := by
  obtain ⟨hd, rfl⟩ := hd
  exact h.pureS fun A hx hc k => XT.ishr A hx rfl (hc ▸ hd) rfl k
theorem Go.iushr {x y : Int32} (hd : Dec M pc .iushr 1 pc') (h : Go K M F Lo pc' ls (.int (XT.ushr x y) :: st) H r) : Go K M F Lo pc ls (.int y :: .int x :: st) H r := by
  obtain ⟨hd, rfl⟩ := hd
  exact h.pureS fun A hx hc k => XT.iushr A hx rfl (hc ▸ hd) rfl k
theorem Go.irem {x y : Int32} (hd : Dec M pc .irem 1 pc') (hy : y ≠ 0) (h : Go K M F Lo pc' ls (.int (x % y) :: st) H r) : Go K M F Lo pc ls (.int y :: .int x :: st) H r := by
  obtain ⟨hd, rfl⟩ := hd
  exact h.pureS fun A hx hc k => XS.irem A hx rfl (hc ▸ hd) rfl hy (by rw [rem_mod]; exact k)
theorem Go.idiv {x y : Int32} (hd : Dec M pc .idiv 1 pc') (hy : y ≠ 0) (h : Go K M F Lo pc' ls (.int (x / y) :: st) H r) : Go K M F Lo pc ls (.int y :: .int x :: st) H r := by
  obtain ⟨hd, rfl⟩ := hd
  exact h.pureS fun A hx hc k => XS.idiv A hx rfl (hc ▸ hd) rfl hy k
theorem Go.ineg {x : Int32} (hd : Dec M pc .ineg 1 pc') (h : Go K M F Lo pc' ls (.int (-x) :: st) H r) : Go K M F Lo pc ls (.int x :: st) H r := by
  obtain ⟨hd, rfl⟩ := hd
  exact h.pureS fun A hx hc k => XS.ineg A hx rfl (hc ▸ hd) rfl k
theorem Go.iinc {i : Nat} {cst : Int} {v x : Int32} (hd : Dec M pc (.iinc i cst) 3 pc') (hv : Int32.ofInt cst = v) (hl : ls[i]? = some (.val (.int x))) (hl' : stl ls i (.int (x + v)) = some ls') (h : Go K M F Lo pc' ls' st H r) : Go K M F Lo pc ls st H r := by
  obtain ⟨hd, rfl⟩ := hd
  exact h.pureS fun A hx hc k => XT.iincV A hx rfl v (hc ▸ hd) hv (LL_get hl) (stl_ok (n0 := K.2.2.2) hl') k
theorem Go.ladd {x y : Int64} (hd : Dec M pc .ladd 1 pc') (h : Go K M F Lo pc' ls (.long (x + y) :: st) H r) : Go K M F Lo pc ls (.long y :: .long x :: st) H r := by
  obtain ⟨hd, rfl⟩ := hd
  exact h.pureS fun A hx hc k => XT.ladd A hx rfl (hc ▸ hd) rfl k
theorem Go.lsub {x y : Int64} (hd : Dec M pc .lsub 1 pc') (h : Go K M F Lo pc' ls (.long (x - y) :: st) H r) : Go K M F Lo pc ls (.long y :: .long x :: st) H r := by
  obtain ⟨hd, rfl⟩ := hd
  exact h.pureS fun A hx hc k => XT.lsub A hx rfl (hc ▸ hd) rfl k
theorem Go.lmul {x y : Int64} (hd : Dec M pc .lmul 1 pc') (h : Go K M F Lo pc' ls (.long (x * y) :: st) H r) : Go K M F Lo pc ls (.long y :: .long x :: st) H r := by
  obtain ⟨hd, rfl⟩ := hd
  exact h.pureS fun A hx hc k => XT.lmul A hx rfl (hc ▸ hd) rfl k
theorem Go.land {x y : Int64} (hd : Dec M pc .land 1 pc') (h : Go K M F Lo pc' ls (.long (x &&& y) :: st) H r) : Go K M F Lo pc ls (.long y :: .long x :: st) H r := by
  obtain ⟨hd, rfl⟩ := hd
  exact h.pureS fun A hx hc k => XT.land A hx rfl (hc ▸ hd) rfl k
theorem Go.lor {x y : Int64} (hd : Dec M pc .lor 1 pc') (h : Go K M F Lo pc' ls (.long (x ||| y) :: st) H r) : Go K M F Lo pc ls (.long y :: .long x :: st) H r := by
  obtain ⟨hd, rfl⟩ := hd
  exact h.pureS fun A hx hc k => XT.lor A hx rfl (hc ▸ hd) rfl k
theorem Go.lxor {x y : Int64} (hd : Dec M pc .lxor 1 pc') (h : Go K M F Lo pc' ls (.long (x ^^^ y) :: st) H r) : Go K M F Lo pc ls (.long y :: .long x :: st) H r := by
  obtain ⟨hd, rfl⟩ := hd
  exact h.pureS fun A hx hc k => XT.lxor A hx rfl (hc ▸ hd) rfl k
theorem Go.lshl {x : Int64} {y : Int32} (hd : Dec M pc .lshl 1 pc') (h : Go K M F Lo pc' ls (.long (x <<< (y.toInt64 &&& 63)) :: st) H r) : Go K M F Lo pc ls (.int y :: .long x :: st) H r := by
  obtain ⟨hd, rfl⟩ := hd
  exact h.pureS fun A hx hc k => XT.lshl A hx rfl (hc ▸ hd) rfl k
theorem Go.lshr {x : Int64} {y : Int32} (hd : Dec M pc .lshr 1 pc') (h : Go K M F Lo pc' ls (.long (x >>> (y.toInt64 &&& 63)) :: st) H r) : Go K M F Lo pc ls (.int y :: .long x :: st) H r := by
  obtain ⟨hd, rfl⟩ := hd
  exact h.pureS fun A hx hc k => XT.lshr A hx rfl (hc ▸ hd) rfl k
theorem Go.lushr {x : Int64} {y : Int32} (hd : Dec M pc .lushr 1 pc') (h : Go K M F Lo pc' ls (.long (XT.ushrL x y) :: st) H r) : Go K M F Lo pc ls (.int y :: .long x :: st) H r := by
  obtain ⟨hd, rfl⟩ := hd
  exact h.pureS fun A hx hc k => XT.lushr A hx rfl (hc ▸ hd) rfl k
theorem Go.lrem {x y : Int64} (hd : Dec M pc .lrem 1 pc') (hy : y ≠ 0) (h : Go K M F Lo pc' ls (.long (x % y) :: st) H r) : Go K M F Lo pc ls (.long y :: .long x :: st) H r := by
  obtain ⟨hd, rfl⟩ := hd
  exact h.pureS fun A hx hc k => XT.lrem A hx rfl (hc ▸ hd) rfl hy (by rw [lrem_mod]; exact k)
theorem Go.ldiv {x y : Int64} (hd : Dec M pc .ldiv 1 pc') (hy : y ≠ 0) (h : Go K M F Lo pc' ls (.long (x / y) :: st) H r) : Go K M F Lo pc ls (.long y :: .long x :: st) H r := by
  obtain ⟨hd, rfl⟩ := hd
  exact h.pureS fun A hx hc k => XT.ldiv A hx rfl (hc ▸ hd) rfl hy k
theorem Go.lneg {x : Int64} (hd : Dec M pc .lneg 1 pc') (h : Go K M F Lo pc' ls (.long (-x) :: st) H r) : Go K M F Lo pc ls (.long x :: st) H r := by
  obtain ⟨hd, rfl⟩ := hd
  exact h.pureS fun A hx hc k => XT.lneg A hx rfl (hc ▸ hd) rfl k
theorem Go.lcmp {x y : Int64} (hd : Dec M pc .lcmp 1 pc') (h : Go K M F Lo pc' ls (.int (XT.cmpL x y) :: st) H r) : Go K M F Lo pc ls (.long y :: .long x :: st) H r := by
  obtain ⟨hd, rfl⟩ := hd
  exact h.pureS fun A hx hc k => XT.lcmp A hx rfl (hc ▸ hd) rfl k
theorem Go.i2l {x : Int32} (hd : Dec M pc .i2l 1 pc') (h : Go K M F Lo pc' ls (.long x.toInt64 :: st) H r) : Go K M F Lo pc ls (.int x :: st) H r := by
  obtain ⟨hd, rfl⟩ := hd
  exact h.pureS fun A hx hc k => XT.i2l A hx rfl (hc ▸ hd) rfl k
theorem Go.l2i {x : Int64} (hd : Dec M pc .l2i 1 pc') (h : Go K M F Lo pc' ls (.int x.toInt32 :: st) H r) : Go K M F Lo pc ls (.long x :: st) H r := by
  obtain ⟨hd, rfl⟩ := hd
  exact h.pureS fun A hx hc k => XT.l2i A hx rfl (hc ▸ hd) rfl k
theorem Go.i2b {x : Int32} (hd : Dec M pc .i2b 1 pc') (h : Go K M F Lo pc' ls (.int x.toInt8.toInt32 :: st) H r) : Go K M F Lo pc ls (.int x :: st) H r := by
  obtain ⟨hd, rfl⟩ := hd
  exact h.pureS fun A hx hc k => XT.i2b A hx rfl (hc ▸ hd) rfl k
theorem Go.i2c {x : Int32} (hd : Dec M pc .i2c 1 pc') (h : Go K M F Lo pc' ls (.int x.toUInt32.toUInt16.toUInt32.toInt32 :: st) H r) : Go K M F Lo pc ls (.int x :: st) H r := by
  obtain ⟨hd, rfl⟩ := hd
  exact h.pureS fun A hx hc k => XT.i2c A hx rfl (hc ▸ hd) rfl k
theorem Go.i2s {x : Int32} (hd : Dec M pc .i2s 1 pc') (h : Go K M F Lo pc' ls (.int x.toInt16.toInt32 :: st) H r) : Go K M F Lo pc ls (.int x :: st) H r := by
  obtain ⟨hd, rfl⟩ := hd
  exact h.pureS fun A hx hc k => XT.i2s A hx rfl (hc ▸ hd) rfl k
theorem Go.pop {x : Value} (hd : Dec M pc .pop 1 pc') (hx1 : x.category = 1) (h : Go K M F Lo pc' ls st H r) : Go K M F Lo pc ls (x :: st) H r := by
  obtain ⟨hd, rfl⟩ := hd
  exact h.pureS fun A hx hc k => XT.pop A hx rfl (hc ▸ hd) rfl (by rw [sv_cat]; exact hx1) k
theorem Go.dup {x : Value} (hd : Dec M pc .dup 1 pc') (hx1 : x.category = 1) (h : Go K M F Lo pc' ls (x :: x :: st) H r) : Go K M F Lo pc ls (x :: st) H r := by
  obtain ⟨hd, rfl⟩ := hd
  exact h.pureS fun A hx hc k => XS.dup A hx rfl (hc ▸ hd) rfl (by rw [sv_cat]; exact hx1) k
theorem Go.dupX1 {x y : Value} (hd : Dec M pc .dup_x1 1 pc') (hx1 : x.category = 1) (hy1 : y.category = 1) (h : Go K M F Lo pc' ls (x :: y :: x :: st) H r) : Go K M F Lo pc ls (x :: y :: st) H r := by
  obtain ⟨hd, rfl⟩ := hd
  exact h.pureS fun A hx hc k => XT.dupX1 A hx rfl (hc ▸ hd) rfl (by rw [sv_cat]; exact hx1) (by rw [sv_cat]; exact hy1) k
theorem Go.dup2 {x y : Value} (hd : Dec M pc .dup2 1 pc') (hx1 : x.category = 1) (hy1 : y.category = 1) (h : Go K M F Lo pc' ls (x :: y :: x :: y :: st) H r) : Go K M F Lo pc ls (x :: y :: st) H r := by
  obtain ⟨hd, rfl⟩ := hd
  exact h.pureS fun A hx hc k => XT.dup2 A hx rfl (hc ▸ hd) rfl (by rw [sv_cat]; exact hx1) (by rw [sv_cat]; exact hy1) k
theorem Go.dup2L {x : Int64} (hd : Dec M pc .dup2 1 pc') (h : Go K M F Lo pc' ls (.long x :: .long x :: st) H r) : Go K M F Lo pc ls (.long x :: st) H r := by
  obtain ⟨hd, rfl⟩ := hd
  exact h.pureS fun A hx hc k => XT.dup2L A hx rfl (hc ▸ hd) rfl k
theorem hset_self {H : Hp} {i : Nat} {o o' : Obj} (h : H[i]? = some o) : (H.set i o')[i]? = some o' := List.getElem?_set_self (List.getElem?_eq_some_iff.mp h).1
theorem hset_ne {H : Hp} {i j : Nat} {o o' : Obj} (h : H[j]? = some o) (ne : i ≠ j) : (H.set i o')[j]? = some o := (List.getElem?_set_ne ne).trans h
theorem happ {H : Hp} {i : Nat} {o : Obj} (h : H[i]? = some o) (L : Hp) : (H ++ L)[i]? = some o := (List.getElem?_append_left (List.getElem?_eq_some_iff.mp h).1).trans h
theorem happ_last {H : Hp} {i : Nat} {o : Obj} (h : H.length = i) : (H ++ [o])[i]? = some o := by subst h; simp
theorem Go.goto {o : Int} (hd : Dec M pc (.goto o) 3 pc') (hj : Jmp pc o pt) (h : Go K M F Lo pt ls st H r) : Go K M F Lo pc ls st H r :=
  h.pureS fun A hx hc k => XS.goto A hx rfl rfl (hd.at hc) hj.1 hj.2 k
theorem Go.icmpT {cd : ClassFile.Cond} {x y : Int32} {o : Int} (hd : Dec M pc (.if_icmp cd o) 3 pc') (hj : Jmp pc o pt) (hv : if_icmp.holds cd x y = true) (h : Go K M F Lo pt ls st H r) : Go K M F Lo pc ls (.int y :: .int x :: st) H r :=
  h.pureS fun A hx hc k => XS.icmpYes A hx rfl rfl (hd.at hc) rfl hv hj.1 hj.2 k
theorem Go.icmpF {cd : ClassFile.Cond} {x y : Int32} {o : Int} (hd : Dec M pc (.if_icmp cd o) 3 pc') (hv : if_icmp.holds cd x y = false) (h : Go K M F Lo pc' ls st H r) : Go K M F Lo pc ls (.int y :: .int x :: st) H r := by
  obtain ⟨hd, rfl⟩ := hd
  exact h.pureS fun A hx hc k => XS.icmpNo A hx rfl (hc ▸ hd) rfl hv k
theorem Go.ifT {cd : ClassFile.Cond} {x : Int32} {o : Int} (hd : Dec M pc (.ifCond cd o) 3 pc') (hj : Jmp pc o pt) (hv : ifCond.holds cd x = true) (h : Go K M F Lo pt ls st H r) : Go K M F Lo pc ls (.int x :: st) H r :=
  h.pureS fun A hx hc k => XS.ifYes A hx rfl rfl (hd.at hc) rfl hv hj.1 hj.2 k
theorem Go.ifF {cd : ClassFile.Cond} {x : Int32} {o : Int} (hd : Dec M pc (.ifCond cd o) 3 pc') (hv : ifCond.holds cd x = false) (h : Go K M F Lo pc' ls st H r) : Go K M F Lo pc ls (.int x :: st) H r := by
  obtain ⟨hd, rfl⟩ := hd
  exact h.pureS fun A hx hc k => XS.ifNo A hx rfl (hc ▸ hd) rfl hv k
theorem Go.icmp_lt {x y : Int32} {o : Int} (hd : Dec M pc (.if_icmp .lt o) 3 pc') (hj : Jmp pc o pt) (hT : x < y → Go K M F Lo pt ls st H r) (hF : ¬ x < y → Go K M F Lo pc' ls st H r) : Go K M F Lo pc ls (.int y :: .int x :: st) H r := by
  by_cases q : x < y
  · exact Go.icmpT hd hj (XT.ii_lt_t q) (hT q)
  · exact Go.icmpF hd (XT.ii_lt_f q) (hF q)
theorem Go.if_lt {x : Int32} {o : Int} (hd : Dec M pc (.ifCond .lt o) 3 pc') (hj : Jmp pc o pt) (hT : x < 0 → Go K M F Lo pt ls st H r) (hF : ¬ x < 0 → Go K M F Lo pc' ls st H r) : Go K M F Lo pc ls (.int x :: st) H r := by
  by_cases q : x < 0
  · exact Go.ifT hd hj (XT.i0_lt_t q) (hT q)
  · exact Go.ifF hd (XT.i0_lt_f q) (hF q)
theorem Go.lif_lt {x y : Int64} {o : Int} (hd : Dec M pc (.ifCond .lt o) 3 pc') (hj : Jmp pc o pt) (hT : x < y → Go K M F Lo pt ls st H r) (hF : ¬ x < y → Go K M F Lo pc' ls st H r) : Go K M F Lo pc ls (.int (XT.cmpL x y) :: st) H r := by
  by_cases q : x < y
  · exact Go.ifT hd hj (XT.ll_lt_t q) (hT q)
  · exact Go.ifF hd (XT.ll_lt_f q) (hF q)
theorem Go.icmp_ge {x y : Int32} {o : Int} (hd : Dec M pc (.if_icmp .ge o) 3 pc') (hj : Jmp pc o pt) (hT : ¬ x < y → Go K M F Lo pt ls st H r) (hF : x < y → Go K M F Lo pc' ls st H r) : Go K M F Lo pc ls (.int y :: .int x :: st) H r := by
  by_cases q : x < y
  · exact Go.icmpF hd (XT.ii_ge_f q) (hF q)
  · exact Go.icmpT hd hj (XT.ii_ge_t q) (hT q)
theorem Go.if_ge {x : Int32} {o : Int} (hd : Dec M pc (.ifCond .ge o) 3 pc') (hj : Jmp pc o pt) (hT : ¬ x < 0 → Go K M F Lo pt ls st H r) (hF : x < 0 → Go K M F Lo pc' ls st H r) : Go K M F Lo pc ls (.int x :: st) H r := by
  by_cases q : x < 0
  · exact Go.ifF hd (XT.i0_ge_f q) (hF q)
  · exact Go.ifT hd hj (XT.i0_ge_t q) (hT q)
theorem Go.lif_ge {x y : Int64} {o : Int} (hd : Dec M pc (.ifCond .ge o) 3 pc') (hj : Jmp pc o pt) (hT : ¬ x < y → Go K M F Lo pt ls st H r) (hF : x < y → Go K M F Lo pc' ls st H r) : Go K M F Lo pc ls (.int (XT.cmpL x y) :: st) H r := by
  by_cases q : x < y
  · exact Go.ifF hd (XT.ll_ge_f q) (hF q)
  · exact Go.ifT hd hj (XT.ll_ge_t q) (hT q)
theorem Go.icmp_gt {x y : Int32} {o : Int} (hd : Dec M pc (.if_icmp .gt o) 3 pc') (hj : Jmp pc o pt) (hT : y < x → Go K M F Lo pt ls st H r) (hF : ¬ y < x → Go K M F Lo pc' ls st H r) : Go K M F Lo pc ls (.int y :: .int x :: st) H r := by
  by_cases q : y < x
  · exact Go.icmpT hd hj (XT.ii_gt_t q) (hT q)
  · exact Go.icmpF hd (XT.ii_gt_f q) (hF q)
theorem Go.if_gt {x : Int32} {o : Int} (hd : Dec M pc (.ifCond .gt o) 3 pc') (hj : Jmp pc o pt) (hT : 0 < x → Go K M F Lo pt ls st H r) (hF : ¬ 0 < x → Go K M F Lo pc' ls st H r) : Go K M F Lo pc ls (.int x :: st) H r := by
  by_cases q : 0 < x
  · exact Go.ifT hd hj (XT.i0_gt_t q) (hT q)
  · exact Go.ifF hd (XT.i0_gt_f q) (hF q)
theorem Go.lif_gt {x y : Int64} {o : Int} (hd : Dec M pc (.ifCond .gt o) 3 pc') (hj : Jmp pc o pt) (hT : y < x → Go K M F Lo pt ls st H r) (hF : ¬ y < x → Go K M F Lo pc' ls st H r) : Go K M F Lo pc ls (.int (XT.cmpL x y) :: st) H r := by
  by_cases q : y < x
  · exact Go.ifT hd hj (XT.ll_gt_t q) (hT q)
  · exact Go.ifF hd (XT.ll_gt_f q) (hF q)
theorem Go.icmp_le {x y : Int32} {o : Int} (hd : Dec M pc (.if_icmp .le o) 3 pc') (hj : Jmp pc o pt) (hT : ¬ y < x → Go K M F Lo pt ls st H r) (hF : y < x → Go K M F Lo pc' ls st H r) : Go K M F Lo pc ls (.int y :: .int x :: st) H r := by
  by_cases q : y < x
  · exact Go.icmpF hd (XT.ii_le_f q) (hF q)
  · exact Go.icmpT hd hj (XT.ii_le_t q) (hT q)
theorem Go.if_le {x : Int32} {o : Int} (hd : Dec M pc (.ifCond .le o) 3 pc') (hj : Jmp pc o pt) (hT : ¬ 0 < x → Go K M F Lo pt ls st H r) (hF : 0 < x → Go K M F Lo pc' ls st H r) : Go K M F Lo pc ls (.int x :: st) H r := by
  by_cases q : 0 < x
  · exact Go.ifF hd (XT.i0_le_f q) (hF q)
  · exact Go.ifT hd hj (XT.i0_le_t q) (hT q)
theorem Go.lif_le {x y : Int64} {o : Int} (hd : Dec M pc (.ifCond .le o) 3 pc') (hj : Jmp pc o pt) (hT : ¬ y < x → Go K M F Lo pt ls st H r) (hF : y < x → Go K M F Lo pc' ls st H r) : Go K M F Lo pc ls (.int (XT.cmpL x y) :: st) H r := by
  by_cases q : y < x
  · exact Go.ifF hd (XT.ll_le_f q) (hF q)
  · exact Go.ifT hd hj (XT.ll_le_t q) (hT q)
theorem Go.icmp_eq {x y : Int32} {o : Int} (hd : Dec M pc (.if_icmp .eq o) 3 pc') (hj : Jmp pc o pt) (hT : x = y → Go K M F Lo pt ls st H r) (hF : ¬ x = y → Go K M F Lo pc' ls st H r) : Go K M F Lo pc ls (.int y :: .int x :: st) H r := by
  by_cases q : x = y
  · exact Go.icmpT hd hj (XT.ii_eq_t q) (hT q)
  · exact Go.icmpF hd (XT.ii_eq_f q) (hF q)
theorem Go.if_eq {x : Int32} {o : Int} (hd : Dec M pc (.ifCond .eq o) 3 pc') (hj : Jmp pc o pt) (hT : x = 0 → Go K M F Lo pt ls st H r) (hF : ¬ x = 0 → Go K M F Lo pc' ls st H r) : Go K M F Lo pc ls (.int x :: st) H r := by
  by_cases q : x = 0
  · exact Go.ifT hd hj (XT.i0_eq_t q) (hT q)
  · exact Go.ifF hd (XT.i0_eq_f q) (hF q)
theorem Go.lif_eq {x y : Int64} {o : Int} (hd : Dec M pc (.ifCond .eq o) 3 pc') (hj : Jmp pc o pt) (hT : x = y → Go K M F Lo pt ls st H r) (hF : ¬ x = y → Go K M F Lo pc' ls st H r) : Go K M F Lo pc ls (.int (XT.cmpL x y) :: st) H r := by
  by_cases q : x = y
  · exact Go.ifT hd hj (XT.ll_eq_t q) (hT q)
  · exact Go.ifF hd (XT.ll_eq_f q) (hF q)
theorem Go.icmp_ne {x y : Int32} {o : Int} (hd : Dec M pc (.if_icmp .ne o) 3 pc') (hj : Jmp pc o pt) (hT : ¬ x = y → Go K M F Lo pt ls st H r) (hF : x = y → Go K M F Lo pc' ls st H r) : Go K M F Lo pc ls (.int y :: .int x :: st) H r := by
  by_cases q : x = y
  · exact Go.icmpF hd (XT.ii_ne_f q) (hF q)
  · exact Go.icmpT hd hj (XT.ii_ne_t q) (hT q)
theorem Go.if_ne {x : Int32} {o : Int} (hd : Dec M pc (.ifCond .ne o) 3 pc') (hj : Jmp pc o pt) (hT : ¬ x = 0 → Go K M F Lo pt ls st H r) (hF : x = 0 → Go K M F Lo pc' ls st H r) : Go K M F Lo pc ls (.int x :: st) H r := by
  by_cases q : x = 0
  · exact Go.ifF hd (XT.i0_ne_f q) (hF q)
  · exact Go.ifT hd hj (XT.i0_ne_t q) (hT q)
theorem Go.lif_ne {x y : Int64} {o : Int} (hd : Dec M pc (.ifCond .ne o) 3 pc') (hj : Jmp pc o pt) (hT : ¬ x = y → Go K M F Lo pt ls st H r) (hF : x = y → Go K M F Lo pc' ls st H r) : Go K M F Lo pc ls (.int (XT.cmpL x y) :: st) H r := by
  by_cases q : x = y
  · exact Go.ifF hd (XT.ll_ne_f q) (hF q)
  · exact Go.ifT hd hj (XT.ll_ne_t q) (hT q)
theorem Go.ifnullT {o : Int} (hd : Dec M pc (.ifnull o) 3 pc') (hj : Jmp pc o pt) (h : Go K M F Lo pt ls st H r) : Go K M F Lo pc ls (.null :: st) H r :=
  h.pureS fun A hx hc k => XS.ifnullYes A hx rfl rfl (hd.at hc) rfl hj.1 hj.2 k
theorem Go.ifnullF {i : Nat} {o : Int} (hd : Dec M pc (.ifnull o) 3 pc') (h : Go K M F Lo pc' ls st H r) : Go K M F Lo pc ls (.ref i :: st) H r := by
  obtain ⟨hd, rfl⟩ := hd
  exact h.pureS fun A hx hc k => XS.ifnullNo A hx rfl (hc ▸ hd) rfl k
theorem Go.ifnonnullT {i : Nat} {o : Int} (hd : Dec M pc (.ifnonnull o) 3 pc') (hj : Jmp pc o pt) (h : Go K M F Lo pt ls st H r) : Go K M F Lo pc ls (.ref i :: st) H r :=
  h.pureS fun A hx hc k => XT.ifnonnullYes A hx rfl rfl (hd.at hc) rfl hj.1 hj.2 k
theorem Go.ifnonnullF {o : Int} (hd : Dec M pc (.ifnonnull o) 3 pc') (h : Go K M F Lo pc' ls st H r) : Go K M F Lo pc ls (.null :: st) H r := by
  obtain ⟨hd, rfl⟩ := hd
  exact h.pureS fun A hx hc k => XT.ifnonnullNo A hx rfl (hc ▸ hd) rfl k
theorem sv_inj (n0 : Nat) {x y : Value} : sv n0 x = sv n0 y ↔ x = y := by
  cases x <;> cases y <;> simp [sv]
theorem acmp_sv (n0 : Nat) (cd : ClassFile.ACond) (x y : Value) : XT.acmp cd (sv n0 x) (sv n0 y) = XT.acmp cd x y := by
  cases cd <;> simp [XT.acmp, sv_inj]
theorem Go.acmpT {cd : ClassFile.ACond} {x y : Value} {o : Int} (hd : Dec M pc (.if_acmp cd o) 3 pc') (hj : Jmp pc o pt) (h1 : x.isRef = true) (h2 : y.isRef = true) (hv : XT.acmp cd x y = true) (h : Go K M F Lo pt ls st H r) : Go K M F Lo pc ls (y :: x :: st) H r :=
  h.pureS fun A hx hc k => XT.acmpYes A hx rfl rfl (hd.at hc) rfl (by rw [sv_ref]; exact h1) (by rw [sv_ref]; exact h2) (by rw [acmp_sv]; exact hv) hj.1 hj.2 k
theorem Go.acmpF {cd : ClassFile.ACond} {x y : Value} {o : Int} (hd : Dec M pc (.if_acmp cd o) 3 pc') (h1 : x.isRef = true) (h2 : y.isRef = true) (hv : XT.acmp cd x y = false) (h : Go K M F Lo pc' ls st H r) : Go K M F Lo pc ls (y :: x :: st) H r := by
  obtain ⟨hd, rfl⟩ := hd
  exact h.pureS fun A hx hc k => XT.acmpNo A hx rfl (hc ▸ hd) rfl (by rw [sv_ref]; exact h1) (by rw [sv_ref]; exact h2) (by rw [acmp_sv]; exact hv) k
/-! ## 5. constants of the pool -/
theorem Go.ldc {idx : Nat} {v : Int32} (hd : Dec M pc (.ldc idx) 2 pc') (w : (Cond.constant M.1.cls idx v).before K.2.2.1 K.2.1 = true) (h : Go K M F Lo pc' ls (.int v :: st) H r) : Go K M F Lo pc ls st H r := by
  obtain ⟨hd, rfl⟩ := hd
  intro R cells slots p e s m args below meth c T locs a1 a2 a3 a4 b1 b2 b3 b4 b5 b6 b7 b8 X S N
  obtain ⟨s₂, L, q1, q⟩ := h R cells slots p e s m args below meth c T locs a1 a2 a3 a4 b1 b2 b3 b4 b5 b6 b7 b8 X S N
  exact ⟨s₂, L, X.ldcI b1 b7 (mvT b2 w) rfl (b3 ▸ hd) q1, q⟩
theorem Go.ldc2 {idx : Nat} {v : Int64} (hd : Dec M pc (.ldc2_w idx) 3 pc') (w : (Cond.constantLong M.1.cls idx v).before K.2.2.1 K.2.1 = true) (h : Go K M F Lo pc' ls (.long v :: st) H r) : Go K M F Lo pc ls st H r := by
  obtain ⟨hd, rfl⟩ := hd
  intro R cells slots p e s m args below meth c T locs a1 a2 a3 a4 b1 b2 b3 b4 b5 b6 b7 b8 X S N
  obtain ⟨s₂, L, q1, q⟩ := h R cells slots p e s m args below meth c T locs a1 a2 a3 a4 b1 b2 b3 b4 b5 b6 b7 b8 X S N
  exact ⟨s₂, L, X.ldc2J b1 b7 (mvT b2 w) rfl (b3 ▸ hd) q1, q⟩
/-! ## 6. fields -/
theorem Go.getfield {idx i : Nat} (j : Nat) {C n d : String} {fs : List (String × String × Value)} {v : Value} (hd : Dec M pc (.getfield idx) 3 pc') (w : (Cond.fieldLink M.1.cls idx C n d).before K.2.2.1 K.2.1 = true) (hH : H[i]? = some (.inl (C, fs))) (hf : fs[j]? = some (n, d, v))
    (h : Go K M F Lo pc' ls (v :: st) H r) : Go K M F Lo pc ls (.ref i :: st) H r := by
  obtain ⟨hd, rfl⟩ := hd
  intro R cells slots p e s m args below meth c T locs a1 a2 a3 a4 b1 b2 b3 b4 b5 b6 b7 b8 X S N
  have C0 := S.2 i _ hH
  have Fl := (C0.2.2 _ (List.mem_of_getElem? hf)).2.2
  obtain ⟨T', X', e', stp⟩ := getF X b1 b2 b7 (host := "") (Or.inl w) Via.refl rfl Fl (g := mkF m pc (LL K.2.2.2 ls) (SS K.2.2.2 (.ref i :: st))) rfl rfl (b3 ▸ hd)
  obtain ⟨s₂, L, q1, q⟩ := h R cells slots p e s m args below meth c T' locs a1 a2 a3 a4 b1 b2 b3 b4 b5 b6 b7 b8 X' (e' ▸ S) N
  exact ⟨s₂, L, stp _ q1, q⟩
def PutOk (ty : FieldType) (v : Value) : Prop := ∀ n0, narrow ty (sv n0 v) = sv n0 v ∧ fits ty (sv n0 v) = true
theorem names_set {fs : List (String × String × Value)} {j : Nat} {n d : String} {v w : Value} (hf : fs[j]? = some (n, d, w)) : (fs.set j (n, d, v)).map (fun f => f.1) = fs.map (fun f => f.1) := by
  apply List.ext_getElem?
  intro k
  rw [List.getElem?_map, List.getElem?_map]
  by_cases q : j = k
  · subst q
    rw [List.getElem?_set_self (List.getElem?_eq_some_iff.mp hf).1, hf]; rfl
  · rw [List.getElem?_set_ne q]
theorem fields_set {K : Ctx} {h h' : Heap} {a : Addr} {C n d : String} {fs : List (String × String × Value)} {j : Nat} {v old : Value} {ty : FieldType} (Ck : COk K.2.1 K.2.2.1 K.2.2.2 h a (.inl (C, fs))) (hf : fs[j]? = some (n, d, old)) (hty : parseFieldDescriptor d = some ty)
    (L : Laid K.2.1 K.2.2.1 C C n d) (W : Wr h h' a (Jvm.RoadKit.slotOf K.2.1 C n d) (sv K.2.2.2 v)) : COk K.2.1 K.2.2.1 K.2.2.2 h' a (.inl (C, fs.set j (n, d, v))) := by
  obtain ⟨E, nd, al⟩ := Ck
  refine ⟨E.wr W, by rw [names_set hf]; exact nd, fun f hm => ?_⟩
  obtain ⟨k, hk⟩ := List.mem_iff_getElem?.mp hm
  by_cases q : j = k
  · subst q
    rw [List.getElem?_set_self (List.getElem?_eq_some_iff.mp hf).1] at hk
    cases hk
    exact ⟨L, ⟨ty, hty⟩, (al _ (List.mem_of_getElem? hf)).2.2.same W⟩
  · rw [List.getElem?_set_ne q] at hk
    obtain ⟨l1, ⟨t1, p1⟩, f1⟩ := al f (List.mem_of_getElem? hk)
    refine ⟨l1, ⟨t1, p1⟩, f1.other W (Or.inr (slot_ne l1 L ?_ p1 hty))⟩
    intro e
    have h1 : (fs.map (fun f => f.1))[k]? = some f.1 := by rw [List.getElem?_map, hk]; rfl
    have h2 : (fs.map (fun f => f.1))[j]? = some f.1 := by rw [List.getElem?_map, hf, e]; rfl
    exact q ((List.getElem?_inj (List.getElem?_eq_some_iff.mp h2).1 nd).mp (h2.trans h1.symm))
theorem Go.putfield {idx i kk : Nat} (j : Nat) {C n d : String} {ty : FieldType} {fs : List (String × String × Value)} {v old : Value} {H1 : Hp} (hd : Dec M pc (.putfield idx) 3 pc') (w : (Cond.fieldLink M.1.cls idx C n d).before K.2.2.1 K.2.1 = true)
    (wl : (Cond.lays C C n d).before K.2.2.1 K.2.1 = true ∨ ((Cond.laysFinal C C n d).before K.2.2.1 K.2.1 = true ∧ M.1.cls = C ∧ M.1.name = "<init>")) (wi : (Cond.instantiable C kk).before K.2.2.1 K.2.1 = true) (hty : parseFieldDescriptor d = some ty) (hv : PutOk ty v)
    (hH : H[i]? = some (.inl (C, fs))) (hf : fs[j]? = some (n, d, old)) (hH1 : H.set i (.inl (C, fs.set j (n, d, v))) = H1) (h : Go K M F Lo pc' ls st H1 r) : Go K M F Lo pc ls (v :: .ref i :: st) H r := by
  obtain ⟨hd, rfl⟩ := hd
  intro R cells slots p e s m args below meth c T locs a1 a2 a3 a4 b1 b2 b3 b4 b5 b6 b7 b8 X S N
  subst hH1
  have C0 := S.2 i _ hH
  have Fl := (C0.2.2 _ (List.mem_of_getElem? hf)).2.2
  have L0 : Laid K.2.1 K.2.2.1 C C n d := wl.imp id (fun q => q.1)
  obtain ⟨T', h', X', e', W, stp⟩ := putF X b1 b2 b7 (host := "") (Or.inl w) Via.refl rfl Fl C0.1 (wl.imp id (fun q => ⟨q.1, q.2.1, b8.trans q.2.2⟩)) wi hty (hv K.2.2.2).1 (hv K.2.2.2).2 (g := mkF m pc (LL K.2.2.2 ls) (SS K.2.2.2 (v :: .ref i :: st))) rfl rfl (b3 ▸ hd)
  subst e'
  obtain ⟨s₂, L, q1, q⟩ := h R cells slots p e s m args below meth c T' _ a1 a2 a3 a4 b1 b2 b3 b4 b5 b6 b7 b8 X' (S.set W hH (fields_set C0 hf hty L0 W)) (Fr.snoc X' N (Nat.le_add_right _ _))
  exact ⟨s₂, L, stp _ q1, q⟩
/-! ## 7. new -/
theorem sv_dflt (n0 : Nat) (ty : FieldType) : sv n0 (defaultValue ty) = defaultValue ty := by cases ty <;> rfl
theorem Go.new {idx k i : Nat} {C : String} (fs : List (String × String × Value)) {rv : Option Value} {H' : Option Hp} {dct dst : Nat} (hd : Dec M pc (.new idx) 3 pc') (w1 : (Cond.classLink M.1.cls idx C).before K.2.2.1 K.2.1 = true) (w2 : (Cond.instantiable C k).before K.2.2.1 K.2.1 = true) (w3 : (Cond.initialized C).before K.2.2.1 K.2.1 = true)
    (hnd : (fs.map (fun f => f.1)).Nodup) (hfs : ∀ f ∈ fs, Laid K.2.1 K.2.2.1 C C f.1 f.2.1 ∧ ∃ ty, parseFieldDescriptor f.2.1 = some ty ∧ f.2.2 = defaultValue ty) (hi : H.length = i)
    (dc ds : Nat) (hdc : dc + 1 ≤ dct) (hds : ds + k ≤ dst) (h : Go K M F Lo pc' ls (.ref i :: st) (H ++ [.inl (C, fs)]) (rv, H', dc, ds)) : Go K M F Lo pc ls st H (rv, H', dct, dst) := by
  obtain ⟨hd, rfl⟩ := hd
  intro R cells slots p e s m args below meth c T locs a1 a2 a3 a4 b1 b2 b3 b4 b5 b6 b7 b8 X S N
  subst hi
  have a3' : cells + dct ≤ R.cells := a3
  have a4' : slots + dst ≤ R.slots := a4
  obtain ⟨vm', cC, kC, h1, h2, h3, h4, X', stp⟩ := X.newCold b1 b7 (mv b2 w1) (mv b2 w2) (mv b2 w3) (g := mkF m pc (LL K.2.2.2 ls) (SS K.2.2.2 st)) rfl (b3 ▸ hd) (by omega) (by omega)
  rw [b2.alike.findClass] at h1
  obtain ⟨kZ, z1, -⟩ := Vm.findClass_spec h1
  obtain ⟨k', z2, z3⟩ := b2.alike.2.2 _ _ z1
  cases h2.symm.trans z2
  have ei : kC.instanceTypes = kZ.instanceTypes := by rw [z3]
  have hN : (T.heap.push { cls := cC, slots := kC.instanceTypes.map defaultValue, vm := .none })[T.heap.size]? = some { cls := cC, slots := kC.instanceTypes.map defaultValue, vm := .none } := by simp
  have E : Ext T.heap (T.heap.push { cls := cC, slots := kC.instanceTypes.map defaultValue, vm := .none }) := ⟨by simp, fun a c h => by
    rw [Array.getElem?_push_lt (Array.getElem?_eq_some_iff.mp h).1]; exact (Array.getElem?_eq_getElem _).symm.trans h⟩
  have S' : Sim K (T.heap.push { cls := cC, slots := kC.instanceTypes.map defaultValue, vm := .none }) (H ++ [.inl (C, fs)]) := by
    refine S.push E (by simp) ?_
    rw [← S.1]
    refine ⟨⟨_, kZ, hN, h1, z1, rfl, fun _ => by simp [ei]⟩, hnd, fun f hf => ?_⟩
    obtain ⟨Lf, ty, ht, hv⟩ := hfs f hf
    refine ⟨Lf, ⟨ty, ht⟩, ?_⟩
    rw [hv, sv_dflt]
    obtain ⟨c1, k1, cf, kf, i, f', y1, y2, y3, y4, y5, y6, -⟩ := Lf.spec
    cases h1.symm.trans y1
    cases z1.symm.trans y2
    exact ⟨_, cf, kf, i, f', hN, y3, y4, by simp, rfl, y5, by simp [ei, y6, (State.fieldFound?_type y3 ht).2]⟩
  obtain ⟨s₂, L, q1, q2, q3, q4, q5, q6⟩ := h R (cells + 1) (slots + k) p e s m args below meth c _ locs a1 a2 (by show cells + 1 + dc ≤ _; omega) (by show slots + k + ds ≤ _; omega) b1 b2 b3 b4 b5 b6 b7 b8 X' S' N
  refine ⟨s₂, L, stp _ ?_, q2, q3, q4, q5, q6.1, q6.2.1, q6.2.2.mono (by show cells + 1 + dc ≤ cells + dct; omega) (by show slots + k + ds ≤ slots + dst; omega)⟩
  have e : SS K.2.2.2 (.ref H.length :: st) = .ref T.heap.size :: SS K.2.2.2 st := by rw [S.1]; rfl
  rw [e] at q1
  exact q1
theorem Go.newarray {aty : ArrayType} {t : FieldType} {n : Int32} {i : Nat} (cap : Nat) {vs : List Value} {rv : Option Value} {H' : Option Hp} {dct dst : Nat} (hd : Dec M pc (.newarray aty) 2 pc') (w : (Cond.arrayClass (newarray.typeOf aty)).before K.2.2.1 K.2.1 = true) (ht : newarray.typeOf aty = t)
    (hn : ¬ n < 0) (hcap : n.toNatClampNeg ≤ cap) (hb : cap * 8 ≤ 536870912) (hvs : List.replicate n.toNatClampNeg (defaultValue t) = vs) (hi : H.length = i)
    (dc ds : Nat) (hdc : dc + 1 ≤ dct) (hds : ds + cap ≤ dst) (h : Go K M F Lo pc' ls (.ref i :: st) (H ++ [.inr (t, vs)]) (rv, H', dc, ds)) : Go K M F Lo pc ls (.int n :: st) H (rv, H', dct, dst) := by
  obtain ⟨hd, rfl⟩ := hd
  intro R cells slots p e s m args below meth c T locs a1 a2 a3 a4 b1 b2 b3 b4 b5 b6 b7 b8 X S N
  subst hi ht hvs
  have a3' : cells + dct ≤ R.cells := a3
  have a4' : slots + dst ≤ R.slots := a4
  have hcb : componentBytes (newarray.typeOf aty) ≤ 8 := by cases aty <;> decide
  obtain ⟨cA, kA, comp, h1, h2, h3, X', stp⟩ := X.newarrayPrim b1 (mvA b2 w) (g := mkF m pc (LL K.2.2.2 ls) (SS K.2.2.2 (.int n :: st))) rfl (b3 ▸ hd) (n := n) (rest := SS K.2.2.2 st) rfl hn (Nat.le_trans (Nat.mul_le_mul hcap hcb) hb) (by omega) (by omega)
  rw [b2.alike.findClass] at h1
  obtain ⟨kZ, z1, -⟩ := Vm.findClass_spec h1
  obtain ⟨k', z2, z3⟩ := b2.alike.2.2 _ _ z1
  cases h2.symm.trans z2
  have hN : (T.heap.push { cls := cA, slots := Array.replicate n.toNatClampNeg (defaultValue (newarray.typeOf aty)), vm := .none })[T.heap.size]? = some { cls := cA, slots := Array.replicate n.toNatClampNeg (defaultValue (newarray.typeOf aty)), vm := .none } := by simp
  have E : Ext T.heap (T.heap.push { cls := cA, slots := Array.replicate n.toNatClampNeg (defaultValue (newarray.typeOf aty)), vm := .none }) := ⟨by simp, fun a c h => by
    rw [Array.getElem?_push_lt (Array.getElem?_eq_some_iff.mp h).1]; exact (Array.getElem?_eq_getElem _).symm.trans h⟩
  have S' : Sim K (T.heap.push { cls := cA, slots := Array.replicate n.toNatClampNeg (defaultValue (newarray.typeOf aty)), vm := .none }) (H ++ [.inr (newarray.typeOf aty, List.replicate n.toNatClampNeg (defaultValue (newarray.typeOf aty)))]) := by
    refine S.push E (by simp) ?_
    rw [← S.1]
    refine ⟨⟨_, kZ, hN, h1, z1, rfl, fun q => ?_⟩, _, ⟨hN, ⟨by simp, kZ, z1, comp, by rw [← h3, z3]⟩, by simp⟩, ?_⟩
    · have q2 : kZ.kind = .array comp (newarray.typeOf aty) := by rw [← h3, z3]
      rw [q2] at q; cases q
    · simp [sv_dflt]
  obtain ⟨s₂, L, q1, q2, q3, q4, q5, q6⟩ := h R (cells + 1) (slots + cap) p e s m args below meth c _ locs a1 a2 (by show cells + 1 + dc ≤ _; omega) (by show slots + cap + ds ≤ _; omega) b1 b2 b3 b4 b5 b6 b7 b8 (X'.more (Nat.le_refl _) (by omega)) S' N
  refine ⟨s₂, L, stp _ ?_, q2, q3, q4, q5, q6.1, q6.2.1, q6.2.2.mono (by show cells + 1 + dc ≤ cells + dct; omega) (by show slots + cap + ds ≤ slots + dst; omega)⟩
  have e : SS K.2.2.2 (.ref H.length :: st) = .ref T.heap.size :: SS K.2.2.2 st := by rw [S.1]; rfl
  rw [e] at q1
  exact q1
/-! ## 8. arrays -/
theorem Go.arraylength {i : Nat} {t : FieldType} {vs : List Value} {z : Int32} (hd : Dec M pc .arraylength 1 pc') (hH : H[i]? = some (.inr (t, vs))) (hz : vs.length.toInt32 = z) (h : Go K M F Lo pc' ls (.int z :: st) H r) : Go K M F Lo pc ls (.ref i :: st) H r := by
  obtain ⟨hd, rfl⟩ := hd
  intro R cells slots p e s m args below meth c T locs a1 a2 a3 a4 b1 b2 b3 b4 b5 b6 b7 b8 X S N
  obtain ⟨Ex, cl, Ar, hc⟩ := S.2 i _ hH
  obtain ⟨s₂, L, q1, q⟩ := h R cells slots p e s m args below meth c T locs a1 a2 a3 a4 b1 b2 b3 b4 b5 b6 b7 b8 X S N
  refine ⟨s₂, L, X.arraylength b1 Ar.1 (State.isArrayOf_alike b2.alike Ar.2.1) (g := mkF m pc (LL K.2.2.2 ls) (SS K.2.2.2 (.ref i :: st))) rfl (rest := SS K.2.2.2 st) rfl (b3 ▸ hd) _ ?_, q⟩
  have e : cl.slots.size.toInt32 = z := by rw [hc, ← hz]; simp
  rw [e]; exact q1
theorem in_of {cl : Cell} {n0 : Nat} {vs : List Value} {j : Int32} {v : Value} (hc : cl.slots = (vs.map (sv n0)).toArray) (hj : ¬ j < 0) (hv : vs[j.toNatClampNeg]? = some v) : ¬ (j < 0 ∨ cl.slots.size ≤ j.toNatClampNeg) ∧ cl.slots[j.toNatClampNeg]? = some (sv n0 v) := by
  have hl := (List.getElem?_eq_some_iff.mp hv).1
  refine ⟨?_, by rw [hc]; simp [hv]⟩
  rintro (q | q)
  · exact hj q
  · rw [hc] at q; simp at q; omega
theorem Go.iaload {i : Nat} {vs : List Value} {j : Int32} {v : Value} (hd : Dec M pc .iaload 1 pc') (hH : H[i]? = some (.inr (.int, vs))) (hj : ¬ j < 0) (hv : vs[j.toNatClampNeg]? = some v) (h : Go K M F Lo pc' ls (v :: st) H r) : Go K M F Lo pc ls (.int j :: .ref i :: st) H r := by
  obtain ⟨hd, rfl⟩ := hd
  intro R cells slots p e s m args below meth c T locs a1 a2 a3 a4 b1 b2 b3 b4 b5 b6 b7 b8 X S N
  obtain ⟨Ex, cl, Ar, hc⟩ := S.2 i _ hH
  obtain ⟨hin, hat⟩ := in_of hc hj hv
  obtain ⟨s₂, L, q1, q⟩ := h R cells slots p e s m args below meth c T locs a1 a2 a3 a4 b1 b2 b3 b4 b5 b6 b7 b8 X S N
  exact ⟨s₂, L, X.iaload b1 Ar.1 (State.isArrayOf_alike b2.alike Ar.2.1) Ar.2.2 hin hat (g := mkF m pc (LL K.2.2.2 ls) (SS K.2.2.2 (.int j :: .ref i :: st))) rfl (rest := SS K.2.2.2 st) rfl (b3 ▸ hd) _ q1, q⟩
theorem Go.laload {i : Nat} {vs : List Value} {j : Int32} {v : Value} (hd : Dec M pc .laload 1 pc') (hH : H[i]? = some (.inr (.long, vs))) (hj : ¬ j < 0) (hv : vs[j.toNatClampNeg]? = some v) (h : Go K M F Lo pc' ls (v :: st) H r) : Go K M F Lo pc ls (.int j :: .ref i :: st) H r := by
  obtain ⟨hd, rfl⟩ := hd
  intro R cells slots p e s m args below meth c T locs a1 a2 a3 a4 b1 b2 b3 b4 b5 b6 b7 b8 X S N
  obtain ⟨Ex, cl, Ar, hc⟩ := S.2 i _ hH
  obtain ⟨hin, hat⟩ := in_of hc hj hv
  obtain ⟨s₂, L, q1, q⟩ := h R cells slots p e s m args below meth c T locs a1 a2 a3 a4 b1 b2 b3 b4 b5 b6 b7 b8 X S N
  exact ⟨s₂, L, X.laload b1 Ar.1 (State.isArrayOf_alike b2.alike Ar.2.1) Ar.2.2 hin hat (g := mkF m pc (LL K.2.2.2 ls) (SS K.2.2.2 (.int j :: .ref i :: st))) rfl (rest := SS K.2.2.2 st) rfl (b3 ▸ hd) _ q1, q⟩
theorem Go.caload {i : Nat} {vs : List Value} {j : Int32} {v : Value} (hd : Dec M pc .caload 1 pc') (hH : H[i]? = some (.inr (.char, vs))) (hj : ¬ j < 0) (hv : vs[j.toNatClampNeg]? = some v) (h : Go K M F Lo pc' ls (v :: st) H r) : Go K M F Lo pc ls (.int j :: .ref i :: st) H r := by
  obtain ⟨hd, rfl⟩ := hd
  intro R cells slots p e s m args below meth c T locs a1 a2 a3 a4 b1 b2 b3 b4 b5 b6 b7 b8 X S N
  obtain ⟨Ex, cl, Ar, hc⟩ := S.2 i _ hH
  obtain ⟨hin, hat⟩ := in_of hc hj hv
  obtain ⟨s₂, L, q1, q⟩ := h R cells slots p e s m args below meth c T locs a1 a2 a3 a4 b1 b2 b3 b4 b5 b6 b7 b8 X S N
  exact ⟨s₂, L, X.caload b1 Ar.1 (State.isArrayOf_alike b2.alike Ar.2.1) Ar.2.2 hin hat (g := mkF m pc (LL K.2.2.2 ls) (SS K.2.2.2 (.int j :: .ref i :: st))) rfl (rest := SS K.2.2.2 st) rfl (b3 ▸ hd) _ q1, q⟩
theorem Go.baload {i : Nat} {vs : List Value} {j : Int32} {v : Value} (hd : Dec M pc .baload 1 pc') (hH : H[i]? = some (.inr (.byte, vs))) (hj : ¬ j < 0) (hv : vs[j.toNatClampNeg]? = some v) (h : Go K M F Lo pc' ls (v :: st) H r) : Go K M F Lo pc ls (.int j :: .ref i :: st) H r := by
  obtain ⟨hd, rfl⟩ := hd
  intro R cells slots p e s m args below meth c T locs a1 a2 a3 a4 b1 b2 b3 b4 b5 b6 b7 b8 X S N
  obtain ⟨Ex, cl, Ar, hc⟩ := S.2 i _ hH
  obtain ⟨hin, hat⟩ := in_of hc hj hv
  obtain ⟨s₂, L, q1, q⟩ := h R cells slots p e s m args below meth c T locs a1 a2 a3 a4 b1 b2 b3 b4 b5 b6 b7 b8 X S N
  exact ⟨s₂, L, X.baloadBytes b1 Ar.1 (State.isArrayOf_alike b2.alike Ar.2.1) Ar.2.2 hin hat (g := mkF m pc (LL K.2.2.2 ls) (SS K.2.2.2 (.int j :: .ref i :: st))) rfl (rest := SS K.2.2.2 st) rfl (b3 ▸ hd) _ q1, q⟩
theorem arr_set {K : Ctx} {h h' : Heap} {a : Addr} {cl : Cell} {t : FieldType} {vs : List Value} {k : Nat} {v : Value} (Ex : Exa K.2.1 h a ("[" ++ t.toString)) (Ar : Arr K.2.1 h a cl t) (hc : cl.slots = (vs.map (sv K.2.2.2)).toArray) (W : Wr h h' a k (sv K.2.2.2 v)) : COk K.2.1 K.2.2.1 K.2.2.2 h' a (.inr (t, vs.set k v)) :=
  ⟨Ex.wr W, _, Ar.same W, by simp [Cell.setSlot, hc, List.map_set]⟩
theorem Go.iastore {i : Nat} {vs : List Value} {j : Int32} {x : Int32} {H1 : Hp} (hd : Dec M pc .iastore 1 pc') (hH : H[i]? = some (.inr (.int, vs))) (hj : ¬ j < 0) (hl : j.toNatClampNeg < vs.length) (hH1 : H.set i (.inr (.int, vs.set j.toNatClampNeg (.int x))) = H1) (h : Go K M F Lo pc' ls st H1 r) : Go K M F Lo pc ls (.int x :: .int j :: .ref i :: st) H r := by
  obtain ⟨hd, rfl⟩ := hd
  intro R cells slots p e s m args below meth c T locs a1 a2 a3 a4 b1 b2 b3 b4 b5 b6 b7 b8 X S N
  subst hH1
  obtain ⟨Ex, cl, Ar, hc⟩ := S.2 i _ hH
  have hin : ¬ (j < 0 ∨ cl.slots.size ≤ j.toNatClampNeg) := by
    rintro (q | q)
    · exact hj q
    · rw [hc] at q; simp at q; omega
  obtain ⟨T', h', X', e', W, stp⟩ := stI X b1 b2 rfl Ar hin (g := mkF m pc (LL K.2.2.2 ls) (SS K.2.2.2 (.int x :: .int j :: .ref i :: st))) rfl (rest := SS K.2.2.2 st) rfl (b3 ▸ hd)
  subst e'
  obtain ⟨s₂, L, q1, q⟩ := h R cells slots p e s m args below meth c T' _ a1 a2 a3 a4 b1 b2 b3 b4 b5 b6 b7 b8 X' (S.set W hH (arr_set (v := .int x) Ex Ar hc W)) (Fr.snoc X' N (Nat.le_add_right _ _))
  exact ⟨s₂, L, stp _ q1, q⟩
theorem Go.lastore {i : Nat} {vs : List Value} {j : Int32} {x : Int64} {H1 : Hp} (hd : Dec M pc .lastore 1 pc') (hH : H[i]? = some (.inr (.long, vs))) (hj : ¬ j < 0) (hl : j.toNatClampNeg < vs.length) (hH1 : H.set i (.inr (.long, vs.set j.toNatClampNeg (.long x))) = H1) (h : Go K M F Lo pc' ls st H1 r) : Go K M F Lo pc ls (.long x :: .int j :: .ref i :: st) H r := by
  obtain ⟨hd, rfl⟩ := hd
  intro R cells slots p e s m args below meth c T locs a1 a2 a3 a4 b1 b2 b3 b4 b5 b6 b7 b8 X S N
  subst hH1
  obtain ⟨Ex, cl, Ar, hc⟩ := S.2 i _ hH
  have hin : ¬ (j < 0 ∨ cl.slots.size ≤ j.toNatClampNeg) := by
    rintro (q | q)
    · exact hj q
    · rw [hc] at q; simp at q; omega
  obtain ⟨T', h', X', e', W, stp⟩ := stJ X b1 b2 rfl Ar hin (g := mkF m pc (LL K.2.2.2 ls) (SS K.2.2.2 (.long x :: .int j :: .ref i :: st))) rfl (rest := SS K.2.2.2 st) rfl (b3 ▸ hd)
  subst e'
  obtain ⟨s₂, L, q1, q⟩ := h R cells slots p e s m args below meth c T' _ a1 a2 a3 a4 b1 b2 b3 b4 b5 b6 b7 b8 X' (S.set W hH (arr_set (v := .long x) Ex Ar hc W)) (Fr.snoc X' N (Nat.le_add_right _ _))
  exact ⟨s₂, L, stp _ q1, q⟩
theorem Go.castore {i : Nat} {vs : List Value} {j : Int32} {x : Int32} {H1 : Hp} (hd : Dec M pc .castore 1 pc') (hH : H[i]? = some (.inr (.char, vs))) (hj : ¬ j < 0) (hl : j.toNatClampNeg < vs.length) (hH1 : H.set i (.inr (.char, vs.set j.toNatClampNeg (.int (nar .char x)))) = H1) (h : Go K M F Lo pc' ls st H1 r) : Go K M F Lo pc ls (.int x :: .int j :: .ref i :: st) H r := by
  obtain ⟨hd, rfl⟩ := hd
  intro R cells slots p e s m args below meth c T locs a1 a2 a3 a4 b1 b2 b3 b4 b5 b6 b7 b8 X S N
  subst hH1
  obtain ⟨Ex, cl, Ar, hc⟩ := S.2 i _ hH
  have hin : ¬ (j < 0 ∨ cl.slots.size ≤ j.toNatClampNeg) := by
    rintro (q | q)
    · exact hj q
    · rw [hc] at q; simp at q; omega
  obtain ⟨T', h', X', e', W, stp⟩ := stC X b1 b2 rfl Ar hin (g := mkF m pc (LL K.2.2.2 ls) (SS K.2.2.2 (.int x :: .int j :: .ref i :: st))) rfl (rest := SS K.2.2.2 st) rfl (b3 ▸ hd)
  subst e'
  obtain ⟨s₂, L, q1, q⟩ := h R cells slots p e s m args below meth c T' _ a1 a2 a3 a4 b1 b2 b3 b4 b5 b6 b7 b8 X' (S.set W hH (arr_set (v := .int (nar .char x)) Ex Ar hc W)) (Fr.snoc X' N (Nat.le_add_right _ _))
  exact ⟨s₂, L, stp _ q1, q⟩
theorem Go.bastore {i : Nat} {vs : List Value} {j : Int32} {x : Int32} {H1 : Hp} (hd : Dec M pc .bastore 1 pc') (hH : H[i]? = some (.inr (.byte, vs))) (hj : ¬ j < 0) (hl : j.toNatClampNeg < vs.length) (hH1 : H.set i (.inr (.byte, vs.set j.toNatClampNeg (.int (nar .byte x)))) = H1) (h : Go K M F Lo pc' ls st H1 r) : Go K M F Lo pc ls (.int x :: .int j :: .ref i :: st) H r := by
  obtain ⟨hd, rfl⟩ := hd
  intro R cells slots p e s m args below meth c T locs a1 a2 a3 a4 b1 b2 b3 b4 b5 b6 b7 b8 X S N
  subst hH1
  obtain ⟨Ex, cl, Ar, hc⟩ := S.2 i _ hH
  have hin : ¬ (j < 0 ∨ cl.slots.size ≤ j.toNatClampNeg) := by
    rintro (q | q)
    · exact hj q
    · rw [hc] at q; simp at q; omega
  obtain ⟨T', h', X', e', W, stp⟩ := stB X b1 b2 rfl Ar hin (g := mkF m pc (LL K.2.2.2 ls) (SS K.2.2.2 (.int x :: .int j :: .ref i :: st))) rfl (rest := SS K.2.2.2 st) rfl (b3 ▸ hd)
  subst e'
  obtain ⟨s₂, L, q1, q⟩ := h R cells slots p e s m args below meth c T' _ a1 a2 a3 a4 b1 b2 b3 b4 b5 b6 b7 b8 X' (S.set W hH (arr_set (v := .int (nar .byte x)) Ex Ar hc W)) (Fr.snoc X' N (Nat.le_add_right _ _))
  exact ⟨s₂, L, stp _ q1, q⟩
/-! ## 9. returns -/
theorem Go.retW {i : Instr} {v : Value} {t : FieldType} {dc ds : Nat} {H' : Option Hp} (hH : HOk H H') (hd : Dec M pc i 1 pc') (ht : M.2.2.2 = some t) (hn : ∀ n0, narrow t (sv n0 v) = sv n0 v)
    (hi : ∀ n0, (i = .ireturn ∧ (t = .int ∨ t = .boolean ∨ t = .byte ∨ t = .char ∨ t = .short) ∧ ∃ z, sv n0 v = .int z) ∨ (i = .lreturn ∧ t = .long ∧ ∃ z, sv n0 v = .long z) ∨ (i = .dreturn ∧ t = .double ∧ ∃ z, sv n0 v = .double z) ∨ (i = .freturn ∧ t = .float ∧ ∃ z, sv n0 v = .float z) ∨ (i = .areturn ∧ t.isReference = true ∧ (sv n0 v).isRef = true)) : Go K M F Lo pc ls (v :: st) H (some v, H', dc, ds) := by
  intro R cells slots p e s m args below meth c T locs a1 a2 a3 a4 b1 b2 b3 b4 b5 b6 b7 b8 X S N
  obtain ⟨fs, hr, hrun, hended, hW, hsame⟩ := X.leave (v := some (sv K.2.2.2 v)) (fun q => by rw [b5, ht] at q; cases q) b6
  exact ⟨_, locs, retOut X b1 (b5.trans ht) (hn _) (hi _) (b3 ▸ hd.1) hr, hrun, hended, hH.fin S, N, ⟨_, rfl⟩, hW, hsame.mono (Nat.le_add_right _ _) (Nat.le_add_right _ _)⟩
theorem Go.ireturn {v : Int32} {dc ds : Nat} {rv : Option Value} {H' : Option Hp} (hd : Dec M pc .ireturn 1 pc') (ht : M.2.2.2 = some .int) (hv : rv = some (.int v)) (hH : HOk H H') : Go K M F Lo pc ls (.int v :: st) H (rv, H', dc, ds) := by
  subst hv
  exact Go.retW hH hd ht (fun _ => rfl) (fun _ => Or.inl ⟨rfl, Or.inl rfl, _, rfl⟩)
theorem Go.ireturnZ {v : Int32} {dc ds : Nat} {rv : Option Value} {H' : Option Hp} (hd : Dec M pc .ireturn 1 pc') (ht : M.2.2.2 = some .boolean) (h01 : v = 0 ∨ v = 1) (hv : rv = some (.int v)) (hH : HOk H H') : Go K M F Lo pc ls (.int v :: st) H (rv, H', dc, ds) := by
  subst hv
  exact Go.retW hH hd ht (fun _ => by rcases h01 with rfl | rfl <;> rfl) (fun _ => Or.inl ⟨rfl, Or.inr (Or.inl rfl), _, rfl⟩)
theorem Go.lreturn {v : Int64} {dc ds : Nat} {rv : Option Value} {H' : Option Hp} (hd : Dec M pc .lreturn 1 pc') (ht : M.2.2.2 = some .long) (hv : rv = some (.long v)) (hH : HOk H H') : Go K M F Lo pc ls (.long v :: st) H (rv, H', dc, ds) := by
  subst hv
  exact Go.retW hH hd ht (fun _ => rfl) (fun _ => Or.inr (Or.inl ⟨rfl, rfl, _, rfl⟩))
theorem Go.areturn {v : Value} {t : FieldType} {dc ds : Nat} {rv : Option Value} {H' : Option Hp} (hd : Dec M pc .areturn 1 pc') (ht : M.2.2.2 = some t) (htr : t.isReference = true) (hr : v.isRef = true) (hv : rv = some v) (hH : HOk H H') : Go K M F Lo pc ls (v :: st) H (rv, H', dc, ds) := by
  subst hv
  refine Go.retW hH hd ht (fun _ => ?_) (fun _ => Or.inr (Or.inr (Or.inr (Or.inr ⟨rfl, htr, by rw [sv_ref]; exact hr⟩))))
  rcases ref_cases hr with rfl | ⟨a, rfl⟩ <;> cases t <;> first | rfl | (simp [FieldType.isReference] at htr)
theorem Go.ret {dc ds : Nat} {rv : Option Value} {H' : Option Hp} (hd : Dec M pc .return_ 1 pc') (ht : M.2.2.2 = none) (hv : rv = none) (hH : HOk H H') : Go K M F Lo pc ls [] H (rv, H', dc, ds) := by
  subst hv
  intro R cells slots p e s m args below meth c T locs a1 a2 a3 a4 b1 b2 b3 b4 b5 b6 b7 b8 X S N
  obtain ⟨fs, hr, hrun, hended, hW, hsame⟩ := X.leave (v := none) (fun _ => rfl) b6
  exact ⟨_, locs, X.returnOut b1 (b5.trans ht) (b3 ▸ hd.1) hr, hrun, hended, hH.fin S, N, ⟨_, rfl⟩, hW, hsame.mono (Nat.le_add_right _ _) (Nat.le_add_right _ _)⟩
/-! ## 10. a whole invocation; calls -/
def ent (as : List Value) (mx : Nat) : List Slot := Jvm.Sym.laidSlots as ++ List.replicate (mx - (Jvm.Sym.laidSlots as).length) .unset
theorem laid_map (n0 : Nat) (as : List Value) : Jvm.Sym.laidSlots (as.map (sv n0)) = (Jvm.Sym.laidSlots as).map (ss n0) := by
  induction as with
  | nil => rfl
  | cons v r ih =>
    simp only [List.map_cons, Jvm.Sym.laidSlots, sv_cat, ih]
    split <;> rfl
theorem ent_map (n0 : Nat) (as : List Value) (mx : Nat) : Jvm.Sym.laidSlots (as.map (sv n0)) ++ List.replicate (mx - (Jvm.Sym.laidSlots (as.map (sv n0))).length) .unset = (LL n0 (ent as mx)).toList := by
  rw [laid_map, List.length_map, LL, ent, List.map_append, List.map_replicate]
  rfl
theorem Go.met {as : List Value} {ws : List Jvm.Cond} {rm : Room} {h : Heap} {rv : Option Value} {H' : Option Hp} (hpn : plainFor M.1 = true) (S : Sim K h H) (hls : ent as M.2.2.1 = ls) (g : Go K M rm.frames rm.locals 0 ls [] H (rv, H', rm.cells, rm.slots)) :
    MetFree K.1 M.1 (head1 (Jvm.Cond.code M.1 M.2.1 M.2.2.1 M.2.2.2 :: ws) rm) (fun a U => a = (SS K.2.2.2 as).toArray ∧ K.2.1.Warmed39 U.vm ∧ U.heap = h) (fun _ _ _ _ _ => True)
      (fun _ U o U' => ∃ v L, o = .returned v ∧ (v = rv.map (sv K.2.2.2) ∧ FinH K U'.heap H' ∧ Fr K.2.2.2 L) ∧ FrameEnd U o U' L rm.cells rm.slots) := by
  refine MetFree.of_bodySF hpn hisR ?_
  intro p e s m args below meth c s₁ Bd hml0 hP hK
  obtain ⟨rfl, hZ, hh⟩ := hP
  subst hls
  have X0 : Stand p K.1 e rm s m (SS K.2.2.2 as).toArray below meth c s₁ [] 0 0 := Stand.of_body Bd
  have e0 : s₁.heap = h := by rw [← hh, Bd.state]; rfl
  obtain ⟨s₂, L, q1, q2, q3, q4, q5, q6⟩ := g rm 0 0 p e s m _ below meth c s₁ [] (Nat.le_refl _) (Nat.le_refl _) (Nat.le_of_eq (Nat.zero_add _)) (Nat.le_of_eq (Nat.zero_add _)) Bd.exec hZ Bd.bytes hml0 Bd.returns Bd.notSynchronized (findClass_of_methodNamed Bd.named) (name_of_methodNamed Bd.named Bd.method).1 X0 (by rw [e0]; exact S) (Fr.nil _)
  refine ⟨s₂, _, (XT.entry (Ls := LL K.2.2.2 (ent as M.2.2.1)) (by simpa using ent_map K.2.2.2 as M.2.2.1)).trans q1, q2, q3, _, L, rfl, ⟨rfl, q4, q5⟩, ?_⟩
  have e1 : (0 : Nat) + rm.cells = rm.cells := Nat.zero_add _
  have e2 : (0 : Nat) + rm.slots = rm.slots := Nat.zero_add _
  simp only [e1, e2] at q6
  exact q6
def MInfo (M : Mt) (na : Nat) : Prop := plainFor M.1 = true ∧ (M.1.cls ≠ "java/lang/invoke/MethodHandle" ∧ M.1.cls ≠ "java/lang/invoke/VarHandle") ∧ (parseMethodDescriptor M.1.desc).map (fun q => q.parameters.length) = some na
instance (M : Mt) (na : Nat) : Decidable (MInfo M na) := inferInstanceAs (Decidable (_ ∧ _ ∧ _))
theorem MInfo.len {M : Mt} {na : Nat} (mi : MInfo M na) {n0 : Nat} {as : List Value} (h : as.length = na) : ∀ sig, parseMethodDescriptor M.1.desc = some sig → (SS n0 as).length = sig.parameters.length := fun sig hs => by
  have q := mi.2.2
  rw [hs] at q
  rw [List.length_map, h]
  exact (Option.some.inj q).symm
theorem Go.back {M' : Mt} {F' Lo' W dc1 ds1 : Nat} {as : List Value} {ls1 : List Slot} {h : Heap} {rv1 : Option Value} {H1 : Hp} {R : Room} {p : Program} {e : Env} {below : List Frame} {s : State} {sargs : Array Value} (g : Go K M' F' Lo' 0 ls1 [] H (rv1, some H1, dc1, ds1)) (hls : ent as M'.2.2.1 = ls1) (hpn : plainFor M'.1 = true) (S : Sim K h H)
    (hZ : K.2.1.Warmed39 s.vm) (wc : (Jvm.Cond.code M'.1 M'.2.1 M'.2.2.1 M'.2.2.2).before K.2.2.1 K.2.1 = true) (wz : (Jvm.Cond.initialized M'.1.cls).before K.2.2.1 K.2.1 = true) (hf : F' + 1 ≤ R.frames) (hl : W + (M'.2.2.1 + 11) + Lo' ≤ R.locals) :
    Back K.1 R p e below s sargs M'.1 3 W (fun A a => a = (SS K.2.2.2 as).toArray ∧ A.U.heap = h ∧ A.cells + dc1 ≤ R.cells ∧ A.slots + ds1 ≤ R.slots)
      (fun A _ v B => ∃ L, (v = rv1.map (sv K.2.2.2) ∧ FinH K B.U.heap (some H1) ∧ Fr K.2.2.2 L) ∧ B.locs = A.locs ++ L ∧ B.cells = A.cells + dc1 ∧ B.slots = A.slots + ds1) :=
  backOf (rm := ({ frames := F', cells := dc1, slots := ds1, locals := Lo' } : Room)) (Q := fun v hp L => v = rv1.map (sv K.2.2.2) ∧ FinH K hp (some H1) ∧ Fr K.2.2.2 L) (Go.met (ws := []) hpn S hls g) hZ wc wz hf hl
theorem SS_app (n0 : Nat) (as st : List Value) : SS n0 (as.reverse ++ st) = (SS n0 as).reverse ++ SS n0 st := by simp [SS]
theorem SS_ret (n0 : Nat) (rv : Option Value) (st : List Value) : (rv.map (sv n0)).toList ++ SS n0 st = SS n0 (rv.toList ++ st) := by cases rv <;> rfl
theorem Go.callS {idx na W F' Lo' dc1 ds1 dct dst : Nat} {M' : Mt} {as : List Value} {ls1 : List Slot} {st0 : List Value} {rv1 rv : Option Value} {H1 : Hp} {H' : Option Hp} (hd : Dec M pc (.invokestatic idx) 3 pc') (w1 : (Jvm.Cond.methodLink M.1.cls idx M'.1).before K.2.2.1 K.2.1 = true) (w2 : (Jvm.Cond.static M'.1).before K.2.2.1 K.2.1 = true) (w3 : (Jvm.Cond.initialized M'.1.cls).before K.2.2.1 K.2.1 = true) (w4 : (Jvm.Cond.code M'.1 M'.2.1 M'.2.2.1 M'.2.2.2).before K.2.2.1 K.2.1 = true)
    (mi : MInfo M' na) (has : as.length = na) (hsz : ls.length = M.2.2.1) (hst : as.reverse ++ st = st0) (hls : ent as M'.2.2.1 = ls1) (hW : (st.map fun v => v.category).sum = W) (hF : F' + 1 ≤ F) (hLo : W + (M'.2.2.1 + 11) + Lo' ≤ Lo) (g : Go K M' F' Lo' 0 ls1 [] H (rv1, some H1, dc1, ds1))
    (dc ds : Nat) (hdc : dc + dc1 ≤ dct) (hds : ds + ds1 ≤ dst) (h : Go K M F Lo pc' ls (rv1.toList ++ st) H1 (rv, H', dc, ds)) : Go K M F Lo pc ls st0 H (rv, H', dct, dst) := by
  obtain ⟨hd, rfl⟩ := hd
  intro R cells slots p e s m args below meth c T locs a1 a2 a3 a4 b1 b2 b3 b4 b5 b6 b7 b8 X S N
  subst hst
  have a3' : cells + dct ≤ R.cells := a3
  have a4' : slots + dst ≤ R.slots := a4
  obtain ⟨v, vm₁, ⟨T', L1, k1, n1⟩, -, X', ⟨Lc, ⟨hv, S', N'⟩, l1, l2, l3⟩, stp⟩ := Jvm.LawKit.callS X b1 (y := M'.1) b7 (mvT b2 w1) (mvT b2 w2) (mvT b2 w3) (mvT b2 w4) mi.2.1 (g.back (W := W) hls mi.1 S b2 w4 w3 (Nat.le_trans hF a1) (Nat.le_trans hLo a2)) (g := mkF m pc (LL K.2.2.2 ls) (SS K.2.2.2 (as.reverse ++ st))) rfl (by rw [b4, ← hsz]; exact LL_size _ _) (argsL := SS K.2.2.2 as) (rest := SS K.2.2.2 st) (mi.len has) (SS_app _ _ _) (by show 2 * 0 + _ ≤ W; rw [cats, hW]; omega) (b3 ▸ hd) (fun _ _ => ⟨rfl, rfl, by show cells + dc1 ≤ _; omega, by show slots + ds1 ≤ _; omega⟩)
  dsimp only [Pt.U, Pt.locs, Pt.cells, Pt.slots] at X' l1 l2 l3 stp S' hv
  subst l1 l2 l3 hv
  obtain ⟨s₂, L, q1, q2, q3, q4, q5, q6⟩ := h R (cells + dc1) (slots + ds1) p e s m args below meth c T' _ a1 a2 (by show cells + dc1 + dc ≤ _; omega) (by show slots + ds1 + ds ≤ _; omega) b1 b2 b3 b4 b5 b6 b7 b8 X' (S' _ rfl) (N.app N')
  refine ⟨s₂, L, stp _ ?_, q2, q3, q4, q5, q6.1, q6.2.1, q6.2.2.mono (by show cells + dc1 + dc ≤ cells + dct; omega) (by show slots + ds1 + ds ≤ slots + dst; omega)⟩
  rw [← SS_ret] at q1
  exact q1
theorem Go.callI {idx na W F' Lo' dc1 ds1 dct dst i : Nat} {M' : Mt} {as : List Value} {ls1 : List Slot} {st0 : List Value} {rv1 rv : Option Value} {H1 : Hp} {H' : Option Hp} (hd : Dec M pc (.invokespecial idx) 3 pc') (hnm : M'.1.name = "<init>") (hrn : M'.2.2.2 = none) (w1 : (Jvm.Cond.methodLink M.1.cls idx M'.1).before K.2.2.1 K.2.1 = true) (w2 : (Jvm.Cond.instanceMethod M'.1).before K.2.2.1 K.2.1 = true) (w3 : (Jvm.Cond.initialized M'.1.cls).before K.2.2.1 K.2.1 = true) (w4 : (Jvm.Cond.code M'.1 M'.2.1 M'.2.2.1 M'.2.2.2).before K.2.2.1 K.2.1 = true)
    (mi : MInfo M' na) (has : as.length = na) (hsz : ls.length = M.2.2.1) (hst : as.reverse ++ .ref i :: st = st0) (hls : ent (.ref i :: as) M'.2.2.1 = ls1) (hW : (st.map fun v => v.category).sum = W) (hF : F' + 1 ≤ F) (hLo : W + (M'.2.2.1 + 11) + Lo' ≤ Lo) (g : Go K M' F' Lo' 0 ls1 [] H (rv1, some H1, dc1, ds1))
    (dc ds : Nat) (hdc : dc + dc1 ≤ dct) (hds : ds + ds1 ≤ dst) (h : Go K M F Lo pc' ls (rv1.toList ++ st) H1 (rv, H', dc, ds)) : Go K M F Lo pc ls st0 H (rv, H', dct, dst) := by
  obtain ⟨hd, rfl⟩ := hd
  intro R cells slots p e s m args below meth c T locs a1 a2 a3 a4 b1 b2 b3 b4 b5 b6 b7 b8 X S N
  subst hst
  have a3' : cells + dct ≤ R.cells := a3
  have a4' : slots + dst ≤ R.slots := a4
  have hstk : SS K.2.2.2 (as.reverse ++ .ref i :: st) = (SS K.2.2.2 as).reverse ++ .ref (K.2.2.2 + i) :: SS K.2.2.2 st := SS_app _ _ _
  obtain ⟨v, vm₁, ⟨T', L1, k1, n1⟩, -, X', ⟨Lc, ⟨hv, S', N'⟩, l1, l2, l3⟩, stp⟩ := X.specialBack b1 (y := M'.1) hnm b7 (mvT b2 w1) (mvT b2 w2) (mvT b2 (hrn ▸ w4)) mi.2.1 (g.back (as := .ref i :: as) (W := W) hls mi.1 S b2 w4 w3 (Nat.le_trans hF a1) (Nat.le_trans hLo a2)) (g := mkF m pc (LL K.2.2.2 ls) (SS K.2.2.2 (as.reverse ++ .ref i :: st))) rfl (by rw [b4, ← hsz]; exact LL_size _ _) (Steps.refl _) (a := K.2.2.2 + i) (argsL := SS K.2.2.2 as) (rest := SS K.2.2.2 st) (mi.len has) hstk (by show 2 * 0 + _ ≤ W; rw [cats, hW]; omega) (b3 ▸ hd) (fun _ _ => ⟨rfl, rfl, by show cells + dc1 ≤ _; omega, by show slots + ds1 ≤ _; omega⟩)
  dsimp only [Pt.U, Pt.locs, Pt.cells, Pt.slots] at X' l1 l2 l3 stp S' hv
  subst l1 l2 l3 hv
  obtain ⟨s₂, L, q1, q2, q3, q4, q5, q6⟩ := h R (cells + dc1) (slots + ds1) p e s m args below meth c T' _ a1 a2 (by show cells + dc1 + dc ≤ _; omega) (by show slots + ds1 + ds ≤ _; omega) b1 b2 b3 b4 b5 b6 b7 b8 X' (S' _ rfl) (N.app N')
  refine ⟨s₂, L, stp.trans ?_, q2, q3, q4, q5, q6.1, q6.2.1, q6.2.2.mono (by show cells + dc1 + dc ≤ cells + dct; omega) (by show slots + ds1 + ds ≤ slots + dst; omega)⟩
  rw [← SS_ret] at q1
  exact q1
theorem Go.callV {idx na W F' Lo' dc1 ds1 dct dst i : Nat} {M' : Mt} {as : List Value} {ls1 : List Slot} {st0 : List Value} {rv1 rv : Option Value} {H1 : Hp} {H' : Option Hp} {fs : List (String × String × Value)} (hd : Dec M pc (.invokevirtual idx) 3 pc') (hH : H[i]? = some (.inl (M'.1.cls, fs))) (w1 : (Jvm.Cond.methodLink M.1.cls idx M'.1).before K.2.2.1 K.2.1 = true) (w2 : (Jvm.Cond.instanceMethod M'.1).before K.2.2.1 K.2.1 = true) (w3 : (Jvm.Cond.initialized M'.1.cls).before K.2.2.1 K.2.1 = true) (w5 : (Jvm.Cond.declares M'.1).before K.2.2.1 K.2.1 = true) (w6 : (Jvm.Cond.selects M'.1.cls M'.1 M'.1).before K.2.2.1 K.2.1 = true) (w4 : (Jvm.Cond.code M'.1 M'.2.1 M'.2.2.1 M'.2.2.2).before K.2.2.1 K.2.1 = true)
    (mi : MInfo M' na) (has : as.length = na) (hsz : ls.length = M.2.2.1) (hst : as.reverse ++ .ref i :: st = st0) (hls : ent (.ref i :: as) M'.2.2.1 = ls1) (hW : (st.map fun v => v.category).sum = W) (hF : F' + 1 ≤ F) (hLo : W + (M'.2.2.1 + 11) + Lo' ≤ Lo) (g : Go K M' F' Lo' 0 ls1 [] H (rv1, some H1, dc1, ds1))
    (dc ds : Nat) (hdc : dc + dc1 ≤ dct) (hds : ds + ds1 ≤ dst) (h : Go K M F Lo pc' ls (rv1.toList ++ st) H1 (rv, H', dc, ds)) : Go K M F Lo pc ls st0 H (rv, H', dct, dst) := by
  obtain ⟨hd, rfl⟩ := hd
  intro R cells slots p e s m args below meth c T locs a1 a2 a3 a4 b1 b2 b3 b4 b5 b6 b7 b8 X S N
  subst hst
  have a3' : cells + dct ≤ R.cells := a3
  have a4' : slots + dst ≤ R.slots := a4
  have hstk : SS K.2.2.2 (as.reverse ++ .ref i :: st) = (SS K.2.2.2 as).reverse ++ .ref (K.2.2.2 + i) :: SS K.2.2.2 st := SS_app _ _ _
  obtain ⟨cq, kq, qa, qb, qc⟩ := isOf b2 rfl (S.2 i _ hH).1
  obtain ⟨v, vm₁, ⟨T', L1, k1, n1⟩, -, X', ⟨Lc, ⟨hv, S', N'⟩, l1, l2, l3⟩, stp⟩ := X.virtualBack b1 (y := M'.1) (z := M'.1) b7 (mvT b2 w1) (mvT b2 w5) (notFace_of_selects (args := #[]) (mvT b2 w6)) (mvT b2 w6) (mvT b2 w2) mi.2.1 (g.back (as := .ref i :: as) (W := W) hls mi.1 S b2 w4 w3 (Nat.le_trans hF a1) (Nat.le_trans hLo a2)) qa qc (g := mkF m pc (LL K.2.2.2 ls) (SS K.2.2.2 (as.reverse ++ .ref i :: st))) rfl (by rw [b4, ← hsz]; exact LL_size _ _) (Steps.refl _) (argsL := SS K.2.2.2 as) (rest := SS K.2.2.2 st) (mi.len has) hstk (by show 2 * 0 + _ ≤ W; rw [cats, hW]; omega) (b3 ▸ hd) (fun _ _ => ⟨rfl, rfl, by show cells + dc1 ≤ _; omega, by show slots + ds1 ≤ _; omega⟩)
  dsimp only [Pt.U, Pt.locs, Pt.cells, Pt.slots] at X' l1 l2 l3 stp S' hv
  subst l1 l2 l3 hv
  obtain ⟨s₂, L, q1, q2, q3, q4, q5, q6⟩ := h R (cells + dc1) (slots + ds1) p e s m args below meth c T' _ a1 a2 (by show cells + dc1 + dc ≤ _; omega) (by show slots + ds1 + ds ≤ _; omega) b1 b2 b3 b4 b5 b6 b7 b8 X' (S' _ rfl) (N.app N')
  refine ⟨s₂, L, stp.trans ?_, q2, q3, q4, q5, q6.1, q6.2.1, q6.2.2.mono (by show cells + dc1 + dc ≤ cells + dct; omega) (by show slots + ds1 + ds ≤ slots + dst; omega)⟩
  rw [← SS_ret] at q1
  exact q1
theorem Go.callP {idx na W F' Lo' dc1 ds1 dct dst i : Nat} {M' : Mt} {as : List Value} {ls1 : List Slot} {st0 : List Value} {rv1 rv : Option Value} {H1 : Hp} {H' : Option Hp} {kk : Nat} {fs : List (String × String × Value)} (hd : Dec M pc (.invokevirtual idx) 3 pc') (hH : H[i]? = some (.inl (M'.1.cls, fs))) (w1 : (Jvm.Cond.methodLink M.1.cls idx M'.1).before K.2.2.1 K.2.1 = true) (w2 : (Jvm.Cond.instanceMethod M'.1).before K.2.2.1 K.2.1 = true) (w3 : (Jvm.Cond.initialized M'.1.cls).before K.2.2.1 K.2.1 = true) (w5 : (Jvm.Cond.privateMethod M'.1).before K.2.2.1 K.2.1 = true) (w6 : (Jvm.Cond.instantiable M'.1.cls kk).before K.2.2.1 K.2.1 = true) (w4 : (Jvm.Cond.code M'.1 M'.2.1 M'.2.2.1 M'.2.2.2).before K.2.2.1 K.2.1 = true)
    (mi : MInfo M' na) (has : as.length = na) (hsz : ls.length = M.2.2.1) (hst : as.reverse ++ .ref i :: st = st0) (hls : ent (.ref i :: as) M'.2.2.1 = ls1) (hW : (st.map fun v => v.category).sum = W) (hF : F' + 1 ≤ F) (hLo : W + (M'.2.2.1 + 11) + Lo' ≤ Lo) (g : Go K M' F' Lo' 0 ls1 [] H (rv1, some H1, dc1, ds1))
    (dc ds : Nat) (hdc : dc + dc1 ≤ dct) (hds : ds + ds1 ≤ dst) (h : Go K M F Lo pc' ls (rv1.toList ++ st) H1 (rv, H', dc, ds)) : Go K M F Lo pc ls st0 H (rv, H', dct, dst) := by
  obtain ⟨hd, rfl⟩ := hd
  intro R cells slots p e s m args below meth c T locs a1 a2 a3 a4 b1 b2 b3 b4 b5 b6 b7 b8 X S N
  subst hst
  have a3' : cells + dct ≤ R.cells := a3
  have a4' : slots + dst ≤ R.slots := a4
  have hstk : SS K.2.2.2 (as.reverse ++ .ref i :: st) = (SS K.2.2.2 as).reverse ++ .ref (K.2.2.2 + i) :: SS K.2.2.2 st := SS_app _ _ _
  obtain ⟨cq, qa, qb⟩ := (S.2 i _ hH).1.cell
  have hpr : s.PrivateAt M'.1 := Cond.privateMethod_at (mvP b2 w5 (args := #[]))
  have hsel : (Jvm.Cond.selects M'.1.cls M'.1 M'.1).before args s = true := by
    obtain ⟨c9, k9, z1, z2, z3, z4, -⟩ := Cond.instantiable_spec (mvT (args := args) b2 w6)
    refine selects_self_of_private z1 z2 ?_ hpr (mvT b2 w2) mi.2.1
    simp only [Bool.or_eq_false_iff] at z4
    exact z4.1
  obtain ⟨v, vm₁, ⟨T', L1, k1, n1⟩, -, X', ⟨Lc, ⟨hv, S', N'⟩, l1, l2, l3⟩, stp⟩ := X.privateBack b1 (y := M'.1) b7 (mvT b2 w1) (mvT b2 w2) hsel hpr (mvT b2 w4) mi.2.1 (g.back (as := .ref i :: as) (W := W) hls mi.1 S b2 w4 w3 (Nat.le_trans hF a1) (Nat.le_trans hLo a2)) (g := mkF m pc (LL K.2.2.2 ls) (SS K.2.2.2 (as.reverse ++ .ref i :: st))) rfl (by rw [b4, ← hsz]; exact LL_size _ _) (Steps.refl _) (a := K.2.2.2 + i) qa qb (argsL := SS K.2.2.2 as) (rest := SS K.2.2.2 st) (mi.len has) hstk (by show 2 * 0 + _ ≤ W; rw [cats, hW]; omega) (b3 ▸ hd) (fun _ _ => ⟨rfl, rfl, by show cells + dc1 ≤ _; omega, by show slots + ds1 ≤ _; omega⟩)
  dsimp only [Pt.U, Pt.locs, Pt.cells, Pt.slots] at X' l1 l2 l3 stp S' hv
  subst l1 l2 l3 hv
  obtain ⟨s₂, L, q1, q2, q3, q4, q5, q6⟩ := h R (cells + dc1) (slots + ds1) p e s m args below meth c T' _ a1 a2 (by show cells + dc1 + dc ≤ _; omega) (by show slots + ds1 + ds ≤ _; omega) b1 b2 b3 b4 b5 b6 b7 b8 X' (S' _ rfl) (N.app N')
  refine ⟨s₂, L, stp.trans ?_, q2, q3, q4, q5, q6.1, q6.2.1, q6.2.2.mono (by show cells + dc1 + dc ≤ cells + dct; omega) (by show slots + ds1 + ds ≤ slots + dst; omega)⟩
  rw [← SS_ret] at q1
  exact q1
theorem Go.initObj {idx i W : Nat} (hd : Dec M pc (.invokespecial idx) 3 pc') (w1 : (Jvm.Cond.methodLink M.1.cls idx Lib.objectInit).before K.2.2.1 K.2.1 = true) (w2 : (Jvm.Cond.instanceMethod Lib.objectInit).before K.2.2.1 K.2.1 = true) (w3 : (Jvm.Cond.code Lib.objectInit ⟨#[0xb1]⟩ 1 none).before K.2.2.1 K.2.1 = true)
    (hsz : ls.length = M.2.2.1) (hW : (st.map fun v => v.category).sum = W) (hF : 1 ≤ F) (hLo : W + 12 ≤ Lo) (h : Go K M F Lo pc' ls st H r) : Go K M F Lo pc ls (.ref i :: st) H r := by
  obtain ⟨hd, rfl⟩ := hd
  intro R cells slots p e s m args below meth c T locs a1 a2 a3 a4 b1 b2 b3 b4 b5 b6 b7 b8 X S N
  obtain ⟨T', X', e', stp⟩ := initO X b1 b2 b7 w1 w2 w3 rfl (g := mkF m pc (LL K.2.2.2 ls) (SS K.2.2.2 (.ref i :: st))) rfl (by rw [b4, ← hsz]; exact LL_size _ _) (rest := SS K.2.2.2 st) rfl (b3 ▸ hd) (Nat.le_trans hF a1) (W := W) (by show 2 * 0 + _ ≤ W; rw [cats, hW]; omega) (Nat.le_trans hLo a2)
  obtain ⟨s₂, L, q1, q⟩ := h R cells slots p e s m args below meth c T' locs a1 a2 a3 a4 b1 b2 b3 b4 b5 b6 b7 b8 X' (e' ▸ S) N
  exact ⟨s₂, L, stp _ q1, q⟩
theorem Go.cloneArr {idx i j W : Nat} {t : FieldType} {vs : List Value} {ad : String} (cap : Nat) {rv : Option Value} {H' : Option Hp} {dct dst : Nat} (hd : Dec M pc (.invokevirtual idx) 3 pc') (w1 : (Jvm.Cond.methodLink M.1.cls idx ⟨ad, "clone", "()Ljava/lang/Object;"⟩).before K.2.2.1 K.2.1 = true) (w2 : (Jvm.Cond.sameMethod ad "java/lang/Object" "clone" "()Ljava/lang/Object;").before K.2.2.1 K.2.1 = true) (w3 : (Jvm.Cond.native ⟨"java/lang/Object", "clone", "()Ljava/lang/Object;"⟩).before K.2.2.1 K.2.1 = true)
    (w4 : (Jvm.Cond.instanceMethod ⟨"java/lang/Object", "clone", "()Ljava/lang/Object;"⟩).before K.2.2.1 K.2.1 = true) (w5 : (Jvm.Cond.selects ad ⟨ad, "clone", "()Ljava/lang/Object;"⟩ ⟨"java/lang/Object", "clone", "()Ljava/lang/Object;"⟩).before K.2.2.1 K.2.1 = true) (w6 : (Jvm.Cond.castable ad "java/lang/Cloneable").before K.2.2.1 K.2.1 = true)
    (had : "[" ++ t.toString = ad) (hH : H[i]? = some (.inr (t, vs))) (hfit : ∀ v ∈ vs, ∀ n0, fits t (sv n0 v) = true) (hcap : vs.length ≤ cap) (hj : H.length = j) (hsz : ls.length = M.2.2.1) (hW : (st.map fun v => v.category).sum = W) (hF : 1 ≤ F) (hLo : W + 14 ≤ Lo)
    (dc ds : Nat) (hdc : dc + 1 ≤ dct) (hds : ds + cap ≤ dst) (h : Go K M F Lo pc' ls (.ref j :: st) (H ++ [.inr (t, vs)]) (rv, H', dc, ds)) : Go K M F Lo pc ls (.ref i :: st) H (rv, H', dct, dst) := by
  obtain ⟨hd, rfl⟩ := hd
  intro R cells slots p e s m args below meth c T locs a1 a2 a3 a4 b1 b2 b3 b4 b5 b6 b7 b8 X S N
  subst hj had
  have a3' : cells + dct ≤ R.cells := a3
  have a4' : slots + dst ≤ R.slots := a4
  obtain ⟨Ex, cl, Ar, hcl⟩ := S.2 i _ hH
  have hlen : cl.slots.size = vs.length := by rw [hcl]; simp
  have Fc : FitC K.2.1 cl := fitC_of Ar fun k hk v hv => by
    rw [hcl] at hv
    simp only [List.getElem?_toArray, List.getElem?_map] at hv
    cases hq : vs[k]? with
    | none => rw [hq] at hv; cases hv
    | some w => rw [hq] at hv; cases hv; exact hfit w (List.mem_of_getElem? hq) _
  obtain ⟨c2, k, e1, e2, e3, e4, e5⟩ := Ex
  cases Ar.1.symm.trans e1
  obtain ⟨c1, cC, g1, g2, g3⟩ := Cond.castable_spec w6
  cases e2.symm.trans g1
  have hal : K.2.1.vm.Alike T.vm := b2.alike.trans X.warmed.alike
  obtain ⟨vm', X', stp⟩ := X.cloneArray b1 b7 (mv b2 w1) (mv b2 w2) (mv b2 w3) (mv b2 w4) (mv b2 w5) (a := K.2.2.2 + i) Ar.1 Ar.2.1.1 Ar.2.2 (by rw [b2.alike.findClass]; exact e2) (by rw [b2.alike.findClass]; exact g2) (by rw [b2.alike.assignable]; exact g3)
    (fun i v hv => by have q := Fc i v hv; rw [← State.fitsSlot_setVm hal] at q; exact q) (g := mkF m pc (LL K.2.2.2 ls) (SS K.2.2.2 (.ref i :: st))) rfl (by rw [b4, ← hsz]; exact LL_size _ _) (rest := SS K.2.2.2 st) rfl (b3 ▸ hd) (Nat.le_trans hF a1) (by show 2 * 0 + _ + 14 ≤ _; rw [cats, hW]; omega) (by omega) (by omega)
    (by obtain ⟨-, k2, hk2, comp, hkind⟩ := Ar.2.1; rw [b2.alike.clonesLoader]; exact Vm.clonesLoader_of_array hk2 hkind)
  have hN : (T.heap.push (cloneOf cl))[T.heap.size]? = some (cloneOf cl) := by simp
  have S' : Sim K (T.heap.push (cloneOf cl)) (H ++ [.inr (t, vs)]) := by
    refine S.push (ext_of fun a q => Array.getElem?_push_lt q |>.trans (Array.getElem?_eq_getElem q).symm) (by simp) ?_
    rw [← S.1]
    exact ⟨⟨_, k, hN, e2, e3, rfl, e5⟩, _, ⟨hN, ⟨fun _ z => (by cases z), Ar.2.1.2⟩, fun z => (by cases z)⟩, hcl⟩
  obtain ⟨s₂, L, q1, q2, q3, q4, q5, q6⟩ := h R (cells + 1) (slots + cap) p e s m args below meth c _ locs a1 a2 (by show cells + 1 + dc ≤ _; omega) (by show slots + cap + ds ≤ _; omega) b1 b2 b3 b4 b5 b6 b7 b8 (X'.more (Nat.le_refl _) (by omega)) S' N
  refine ⟨s₂, L, stp _ ?_, q2, q3, q4, q5, q6.1, q6.2.1, q6.2.2.mono (by show cells + 1 + dc ≤ cells + dct; omega) (by show slots + cap + ds ≤ slots + dst; omega)⟩
  have e : SS K.2.2.2 (.ref H.length :: st) = .ref T.heap.size :: SS K.2.2.2 st := by rw [S.1]; rfl
  rw [e] at q1
  exact q1
theorem Go.checkcastArr {idx i : Nat} {t : FieldType} {vs : List Value} {C : String} (hd : Dec M pc (.checkcast idx) 3 pc') (w : (Jvm.Cond.classLink M.1.cls idx C).before K.2.2.1 K.2.1 = true) (hC : "[" ++ t.toString = C) (hH : H[i]? = some (.inr (t, vs))) (h : Go K M F Lo pc' ls (.ref i :: st) H r) : Go K M F Lo pc ls (.ref i :: st) H r := by
  obtain ⟨hd, rfl⟩ := hd
  intro R cells slots p e s m args below meth c T locs a1 a2 a3 a4 b1 b2 b3 b4 b5 b6 b7 b8 X S N
  subst hC
  obtain ⟨T', X', e', stp⟩ := castY X b1 b2 b7 w rfl (Ins.self (S.2 i _ hH).1) (g := mkF m pc (LL K.2.2.2 ls) (SS K.2.2.2 (.ref i :: st))) rfl (rest := SS K.2.2.2 st) rfl (b3 ▸ hd)
  obtain ⟨s₂, L, q1, q⟩ := h R cells slots p e s m args below meth c T' locs a1 a2 a3 a4 b1 b2 b3 b4 b5 b6 b7 b8 X' (e' ▸ S) N
  exact ⟨s₂, L, stp _ q1, q⟩
end G
end Jvm.OwnGo
namespace Jvm.Pilot.@@N@@
open Jvm Jvm.ClassFile Sem Op Lib Jvm.Free Jvm.Stand Jvm.LawKit Jvm.RoadKit Bundle Jvm.Pilot.@@N@@.Jvm.D Jvm.OwnGo
abbrev m0 : Mt := (x, code, maxLocals, ret)
theorem mi0 : MInfo m0 5 := by decide +kernel
theorem d0_0 : Dec m0 0 (.new 17) 3 3 := by decide +kernel
theorem d0_3 : Dec m0 3 (.dup) 1 4 := by decide +kernel
theorem d0_4 : Dec m0 4 (.iconst 5) 1 5 := by decide +kernel
theorem d0_5 : Dec m0 5 (.invokespecial 19) 3 8 := by decide +kernel
theorem d0_8 : Dec m0 8 (.astore 5) 2 10 := by decide +kernel
theorem d0_10 : Dec m0 10 (.iconst 5) 1 11 := by decide +kernel
theorem d0_11 : Dec m0 11 (.newarray .int) 2 13 := by decide +kernel
theorem d0_13 : Dec m0 13 (.dup) 1 14 := by decide +kernel
theorem d0_14 : Dec m0 14 (.iconst 0) 1 15 := by decide +kernel
theorem d0_15 : Dec m0 15 (.iconst 0) 1 16 := by decide +kernel
theorem d0_16 : Dec m0 16 (.iastore) 1 17 := by decide +kernel
theorem d0_17 : Dec m0 17 (.dup) 1 18 := by decide +kernel
theorem d0_18 : Dec m0 18 (.iconst 1) 1 19 := by decide +kernel
theorem d0_19 : Dec m0 19 (.iconst 1) 1 20 := by decide +kernel
theorem d0_20 : Dec m0 20 (.iastore) 1 21 := by decide +kernel
theorem d0_21 : Dec m0 21 (.dup) 1 22 := by decide +kernel
theorem d0_22 : Dec m0 22 (.iconst 2) 1 23 := by decide +kernel
theorem d0_23 : Dec m0 23 (.iconst 2) 1 24 := by decide +kernel
theorem d0_24 : Dec m0 24 (.iastore) 1 25 := by decide +kernel
theorem d0_25 : Dec m0 25 (.dup) 1 26 := by decide +kernel
theorem d0_26 : Dec m0 26 (.iconst 3) 1 27 := by decide +kernel
theorem d0_27 : Dec m0 27 (.iconst 3) 1 28 := by decide +kernel
theorem d0_28 : Dec m0 28 (.iastore) 1 29 := by decide +kernel
theorem d0_29 : Dec m0 29 (.dup) 1 30 := by decide +kernel
theorem d0_30 : Dec m0 30 (.iconst 4) 1 31 := by decide +kernel
theorem d0_31 : Dec m0 31 (.iconst 4) 1 32 := by decide +kernel
theorem d0_32 : Dec m0 32 (.iastore) 1 33 := by decide +kernel
theorem d0_33 : Dec m0 33 (.astore 6) 2 35 := by decide +kernel
theorem d0_35 : Dec m0 35 (.iload 4) 2 37 := by decide +kernel
theorem d0_37 : Dec m0 37 (.ldc 22) 2 39 := by decide +kernel
theorem d0_39 : Dec m0 39 (.iand) 1 40 := by decide +kernel
theorem d0_40 : Dec m0 40 (.iconst 5) 1 41 := by decide +kernel
theorem d0_41 : Dec m0 41 (.irem) 1 42 := by decide +kernel
theorem d0_42 : Dec m0 42 (.istore 7) 2 44 := by decide +kernel
theorem d0_44 : Dec m0 44 (.aload 5) 2 46 := by decide +kernel
theorem d0_46 : Dec m0 46 (.iload_n 0) 1 47 := by decide +kernel
theorem d0_47 : Dec m0 47 (.invokestatic 23) 3 50 := by decide +kernel
theorem d0_50 : Dec m0 50 (.iload_n 0) 1 51 := by decide +kernel
theorem d0_51 : Dec m0 51 (.invokestatic 29) 3 54 := by decide +kernel
theorem d0_54 : Dec m0 54 (.invokevirtual 32) 3 57 := by decide +kernel
theorem d0_57 : Dec m0 57 (.aload 6) 2 59 := by decide +kernel
theorem d0_59 : Dec m0 59 (.iload_n 0) 1 60 := by decide +kernel
theorem d0_60 : Dec m0 60 (.invokestatic 23) 3 63 := by decide +kernel
theorem d0_63 : Dec m0 63 (.iload_n 0) 1 64 := by decide +kernel
theorem d0_64 : Dec m0 64 (.invokestatic 29) 3 67 := by decide +kernel
theorem d0_67 : Dec m0 67 (.invokestatic 36) 3 70 := by decide +kernel
theorem d0_70 : Dec m0 70 (.aload 5) 2 72 := by decide +kernel
theorem d0_72 : Dec m0 72 (.iload_n 1) 1 73 := by decide +kernel
theorem d0_73 : Dec m0 73 (.invokestatic 23) 3 76 := by decide +kernel
theorem d0_76 : Dec m0 76 (.iload_n 1) 1 77 := by decide +kernel
theorem d0_77 : Dec m0 77 (.invokestatic 29) 3 80 := by decide +kernel
theorem d0_80 : Dec m0 80 (.invokevirtual 32) 3 83 := by decide +kernel
theorem d0_83 : Dec m0 83 (.aload 6) 2 85 := by decide +kernel
theorem d0_85 : Dec m0 85 (.iload_n 1) 1 86 := by decide +kernel
theorem d0_86 : Dec m0 86 (.invokestatic 23) 3 89 := by decide +kernel
theorem d0_89 : Dec m0 89 (.iload_n 1) 1 90 := by decide +kernel
theorem d0_90 : Dec m0 90 (.invokestatic 29) 3 93 := by decide +kernel
theorem d0_93 : Dec m0 93 (.invokestatic 36) 3 96 := by decide +kernel
theorem d0_96 : Dec m0 96 (.aload 5) 2 98 := by decide +kernel
theorem d0_98 : Dec m0 98 (.iload 7) 2 100 := by decide +kernel
theorem d0_100 : Dec m0 100 (.invokevirtual 40) 3 103 := by decide +kernel
theorem d0_103 : Dec m0 103 (.aload 6) 2 105 := by decide +kernel
theorem d0_105 : Dec m0 105 (.iload 7) 2 107 := by decide +kernel
theorem d0_107 : Dec m0 107 (.iaload) 1 108 := by decide +kernel
theorem d0_108 : Dec m0 108 (.if_icmp .ne 7) 3 111 := by decide +kernel
theorem j0_108 : Jmp 108 (7) 115 := by decide
theorem d0_111 : Dec m0 111 (.iconst 1) 1 112 := by decide +kernel
theorem d0_112 : Dec m0 112 (.goto 4) 3 115 := by decide +kernel
theorem j0_112 : Jmp 112 (4) 116 := by decide
theorem d0_115 : Dec m0 115 (.iconst 0) 1 116 := by decide +kernel
theorem d0_116 : Dec m0 116 (.istore 8) 2 118 := by decide +kernel
theorem d0_118 : Dec m0 118 (.aload 5) 2 120 := by decide +kernel
theorem d0_120 : Dec m0 120 (.iload_n 2) 1 121 := by decide +kernel
theorem d0_121 : Dec m0 121 (.invokestatic 23) 3 124 := by decide +kernel
theorem d0_124 : Dec m0 124 (.iload_n 2) 1 125 := by decide +kernel
theorem d0_125 : Dec m0 125 (.invokestatic 29) 3 128 := by decide +kernel
theorem d0_128 : Dec m0 128 (.invokevirtual 32) 3 131 := by decide +kernel
theorem d0_131 : Dec m0 131 (.aload 6) 2 133 := by decide +kernel
theorem d0_133 : Dec m0 133 (.iload_n 2) 1 134 := by decide +kernel
theorem d0_134 : Dec m0 134 (.invokestatic 23) 3 137 := by decide +kernel
theorem d0_137 : Dec m0 137 (.iload_n 2) 1 138 := by decide +kernel
theorem d0_138 : Dec m0 138 (.invokestatic 29) 3 141 := by decide +kernel
theorem d0_141 : Dec m0 141 (.invokestatic 36) 3 144 := by decide +kernel
theorem d0_144 : Dec m0 144 (.aload 5) 2 146 := by decide +kernel
theorem d0_146 : Dec m0 146 (.iload_n 3) 1 147 := by decide +kernel
theorem d0_147 : Dec m0 147 (.invokestatic 23) 3 150 := by decide +kernel
theorem d0_150 : Dec m0 150 (.iload_n 3) 1 151 := by decide +kernel
theorem d0_151 : Dec m0 151 (.invokestatic 29) 3 154 := by decide +kernel
theorem d0_154 : Dec m0 154 (.invokevirtual 32) 3 157 := by decide +kernel
theorem d0_157 : Dec m0 157 (.aload 6) 2 159 := by decide +kernel
theorem d0_159 : Dec m0 159 (.iload_n 3) 1 160 := by decide +kernel
theorem d0_160 : Dec m0 160 (.invokestatic 23) 3 163 := by decide +kernel
theorem d0_163 : Dec m0 163 (.iload_n 3) 1 164 := by decide +kernel
theorem d0_164 : Dec m0 164 (.invokestatic 29) 3 167 := by decide +kernel
theorem d0_167 : Dec m0 167 (.invokestatic 36) 3 170 := by decide +kernel
theorem d0_170 : Dec m0 170 (.iload 8) 2 172 := by decide +kernel
theorem d0_172 : Dec m0 172 (.ifCond .eq 20) 3 175 := by decide +kernel
theorem j0_172 : Jmp 172 (20) 192 := by decide
theorem d0_175 : Dec m0 175 (.aload 5) 2 177 := by decide +kernel
theorem d0_177 : Dec m0 177 (.iconst 0) 1 178 := by decide +kernel
theorem d0_178 : Dec m0 178 (.invokevirtual 40) 3 181 := by decide +kernel
theorem d0_181 : Dec m0 181 (.aload 6) 2 183 := by decide +kernel
theorem d0_183 : Dec m0 183 (.iconst 0) 1 184 := by decide +kernel
theorem d0_184 : Dec m0 184 (.iaload) 1 185 := by decide +kernel
theorem d0_185 : Dec m0 185 (.if_icmp .ne 7) 3 188 := by decide +kernel
theorem j0_185 : Jmp 185 (7) 192 := by decide
theorem d0_188 : Dec m0 188 (.iconst 1) 1 189 := by decide +kernel
theorem d0_189 : Dec m0 189 (.goto 4) 3 192 := by decide +kernel
theorem j0_189 : Jmp 189 (4) 193 := by decide
theorem d0_192 : Dec m0 192 (.iconst 0) 1 193 := by decide +kernel
theorem d0_193 : Dec m0 193 (.istore 8) 2 195 := by decide +kernel
theorem d0_195 : Dec m0 195 (.iload 8) 2 197 := by decide +kernel
theorem d0_197 : Dec m0 197 (.ifCond .eq 20) 3 200 := by decide +kernel
theorem j0_197 : Jmp 197 (20) 217 := by decide
theorem d0_200 : Dec m0 200 (.aload 5) 2 202 := by decide +kernel
theorem d0_202 : Dec m0 202 (.iconst 1) 1 203 := by decide +kernel
theorem d0_203 : Dec m0 203 (.invokevirtual 40) 3 206 := by decide +kernel
theorem d0_206 : Dec m0 206 (.aload 6) 2 208 := by decide +kernel
theorem d0_208 : Dec m0 208 (.iconst 1) 1 209 := by decide +kernel
theorem d0_209 : Dec m0 209 (.iaload) 1 210 := by decide +kernel
theorem d0_210 : Dec m0 210 (.if_icmp .ne 7) 3 213 := by decide +kernel
theorem j0_210 : Jmp 210 (7) 217 := by decide
theorem d0_213 : Dec m0 213 (.iconst 1) 1 214 := by decide +kernel
theorem d0_214 : Dec m0 214 (.goto 4) 3 217 := by decide +kernel
theorem j0_214 : Jmp 214 (4) 218 := by decide
theorem d0_217 : Dec m0 217 (.iconst 0) 1 218 := by decide +kernel
theorem d0_218 : Dec m0 218 (.istore 8) 2 220 := by decide +kernel
theorem d0_220 : Dec m0 220 (.iload 8) 2 222 := by decide +kernel
theorem d0_222 : Dec m0 222 (.ifCond .eq 20) 3 225 := by decide +kernel
theorem j0_222 : Jmp 222 (20) 242 := by decide
theorem d0_225 : Dec m0 225 (.aload 5) 2 227 := by decide +kernel
theorem d0_227 : Dec m0 227 (.iconst 2) 1 228 := by decide +kernel
theorem d0_228 : Dec m0 228 (.invokevirtual 40) 3 231 := by decide +kernel
theorem d0_231 : Dec m0 231 (.aload 6) 2 233 := by decide +kernel
theorem d0_233 : Dec m0 233 (.iconst 2) 1 234 := by decide +kernel
theorem d0_234 : Dec m0 234 (.iaload) 1 235 := by decide +kernel
theorem d0_235 : Dec m0 235 (.if_icmp .ne 7) 3 238 := by decide +kernel
theorem j0_235 : Jmp 235 (7) 242 := by decide
theorem d0_238 : Dec m0 238 (.iconst 1) 1 239 := by decide +kernel
theorem d0_239 : Dec m0 239 (.goto 4) 3 242 := by decide +kernel
theorem j0_239 : Jmp 239 (4) 243 := by decide
theorem d0_242 : Dec m0 242 (.iconst 0) 1 243 := by decide +kernel
theorem d0_243 : Dec m0 243 (.istore 8) 2 245 := by decide +kernel
theorem d0_245 : Dec m0 245 (.iload 8) 2 247 := by decide +kernel
theorem d0_247 : Dec m0 247 (.ifCond .eq 20) 3 250 := by decide +kernel
theorem j0_247 : Jmp 247 (20) 267 := by decide
theorem d0_250 : Dec m0 250 (.aload 5) 2 252 := by decide +kernel
theorem d0_252 : Dec m0 252 (.iconst 3) 1 253 := by decide +kernel
theorem d0_253 : Dec m0 253 (.invokevirtual 40) 3 256 := by decide +kernel
theorem d0_256 : Dec m0 256 (.aload 6) 2 258 := by decide +kernel
theorem d0_258 : Dec m0 258 (.iconst 3) 1 259 := by decide +kernel
theorem d0_259 : Dec m0 259 (.iaload) 1 260 := by decide +kernel
theorem d0_260 : Dec m0 260 (.if_icmp .ne 7) 3 263 := by decide +kernel
theorem j0_260 : Jmp 260 (7) 267 := by decide
theorem d0_263 : Dec m0 263 (.iconst 1) 1 264 := by decide +kernel
theorem d0_264 : Dec m0 264 (.goto 4) 3 267 := by decide +kernel
theorem j0_264 : Jmp 264 (4) 268 := by decide
theorem d0_267 : Dec m0 267 (.iconst 0) 1 268 := by decide +kernel
theorem d0_268 : Dec m0 268 (.istore 8) 2 270 := by decide +kernel
theorem d0_270 : Dec m0 270 (.iload 8) 2 272 := by decide +kernel
theorem d0_272 : Dec m0 272 (.ifCond .eq 20) 3 275 := by decide +kernel
theorem j0_272 : Jmp 272 (20) 292 := by decide
theorem d0_275 : Dec m0 275 (.aload 5) 2 277 := by decide +kernel
theorem d0_277 : Dec m0 277 (.iconst 4) 1 278 := by decide +kernel
theorem d0_278 : Dec m0 278 (.invokevirtual 40) 3 281 := by decide +kernel
theorem d0_281 : Dec m0 281 (.aload 6) 2 283 := by decide +kernel
theorem d0_283 : Dec m0 283 (.iconst 4) 1 284 := by decide +kernel
theorem d0_284 : Dec m0 284 (.iaload) 1 285 := by decide +kernel
theorem d0_285 : Dec m0 285 (.if_icmp .ne 7) 3 288 := by decide +kernel
theorem j0_285 : Jmp 285 (7) 292 := by decide
theorem d0_288 : Dec m0 288 (.iconst 1) 1 289 := by decide +kernel
theorem d0_289 : Dec m0 289 (.goto 4) 3 292 := by decide +kernel
theorem j0_289 : Jmp 289 (4) 293 := by decide
theorem d0_292 : Dec m0 292 (.iconst 0) 1 293 := by decide +kernel
theorem d0_293 : Dec m0 293 (.istore 8) 2 295 := by decide +kernel
theorem d0_295 : Dec m0 295 (.iload 8) 2 297 := by decide +kernel
theorem d0_297 : Dec m0 297 (.ireturn) 1 298 := by decide +kernel
abbrev m1 : Mt := (⟨"com/example/subsume/subsume/DisjointSets", "<init>", "(I)V"⟩, prog_20_method_1_code, 3, none)
theorem mi1 : MInfo m1 1 := by decide +kernel
theorem d1_0 : Dec m1 0 (.aload_n 0) 1 1 := by decide +kernel
theorem d1_1 : Dec m1 1 (.invokespecial 1) 3 4 := by decide +kernel
theorem d1_4 : Dec m1 4 (.aload_n 0) 1 5 := by decide +kernel
theorem d1_5 : Dec m1 5 (.iload_n 1) 1 6 := by decide +kernel
theorem d1_6 : Dec m1 6 (.newarray .int) 2 8 := by decide +kernel
theorem d1_8 : Dec m1 8 (.putfield 7) 3 11 := by decide +kernel
theorem d1_11 : Dec m1 11 (.iconst 0) 1 12 := by decide +kernel
theorem d1_12 : Dec m1 12 (.istore_n 2) 1 13 := by decide +kernel
theorem d1_13 : Dec m1 13 (.iload_n 2) 1 14 := by decide +kernel
theorem d1_14 : Dec m1 14 (.iload_n 1) 1 15 := by decide +kernel
theorem d1_15 : Dec m1 15 (.if_icmp .ge 16) 3 18 := by decide +kernel
theorem j1_15 : Jmp 15 (16) 31 := by decide
theorem d1_18 : Dec m1 18 (.aload_n 0) 1 19 := by decide +kernel
theorem d1_19 : Dec m1 19 (.getfield 7) 3 22 := by decide +kernel
theorem d1_22 : Dec m1 22 (.iload_n 2) 1 23 := by decide +kernel
theorem d1_23 : Dec m1 23 (.iload_n 2) 1 24 := by decide +kernel
theorem d1_24 : Dec m1 24 (.iastore) 1 25 := by decide +kernel
theorem d1_25 : Dec m1 25 (.iinc 2 1) 3 28 := by decide +kernel
theorem d1_28 : Dec m1 28 (.goto (-15)) 3 31 := by decide +kernel
theorem j1_28 : Jmp 28 (-15) 13 := by decide
theorem d1_31 : Dec m1 31 (.return_) 1 32 := by decide +kernel
abbrev m3 : Mt := (⟨"com/example/subsume/subsume/DisjointSetsSmallestPinLaw", "first", "(I)I"⟩, method_2_code, 1, some .int)
theorem mi3 : MInfo m3 1 := by decide +kernel
theorem d3_0 : Dec m3 0 (.iload_n 0) 1 1 := by decide +kernel
theorem d3_1 : Dec m3 1 (.ldc 7) 2 3 := by decide +kernel
theorem d3_3 : Dec m3 3 (.iand) 1 4 := by decide +kernel
theorem d3_4 : Dec m3 4 (.iconst 5) 1 5 := by decide +kernel
theorem d3_5 : Dec m3 5 (.irem) 1 6 := by decide +kernel
theorem d3_6 : Dec m3 6 (.ireturn) 1 7 := by decide +kernel
abbrev m4 : Mt := (⟨"com/example/subsume/subsume/DisjointSetsSmallestPinLaw", "second", "(I)I"⟩, method_3_code, 1, some .int)
theorem mi4 : MInfo m4 1 := by decide +kernel
theorem d4_0 : Dec m4 0 (.iload_n 0) 1 1 := by decide +kernel
theorem d4_1 : Dec m4 1 (.bipush 16) 2 3 := by decide +kernel
theorem d4_3 : Dec m4 3 (.iushr) 1 4 := by decide +kernel
theorem d4_4 : Dec m4 4 (.sipush 32767) 3 7 := by decide +kernel
theorem d4_7 : Dec m4 7 (.iand) 1 8 := by decide +kernel
theorem d4_8 : Dec m4 8 (.iconst 5) 1 9 := by decide +kernel
theorem d4_9 : Dec m4 9 (.irem) 1 10 := by decide +kernel
theorem d4_10 : Dec m4 10 (.ireturn) 1 11 := by decide +kernel
abbrev m5 : Mt := (⟨"com/example/subsume/subsume/DisjointSets", "join", "(II)V"⟩, prog_20_method_2_code, 5, none)
theorem mi5 : MInfo m5 2 := by decide +kernel
theorem d5_0 : Dec m5 0 (.aload_n 0) 1 1 := by decide +kernel
theorem d5_1 : Dec m5 1 (.iload_n 1) 1 2 := by decide +kernel
theorem d5_2 : Dec m5 2 (.invokevirtual 13) 3 5 := by decide +kernel
theorem d5_5 : Dec m5 5 (.istore_n 3) 1 6 := by decide +kernel
theorem d5_6 : Dec m5 6 (.aload_n 0) 1 7 := by decide +kernel
theorem d5_7 : Dec m5 7 (.iload_n 2) 1 8 := by decide +kernel
theorem d5_8 : Dec m5 8 (.invokevirtual 13) 3 11 := by decide +kernel
theorem d5_11 : Dec m5 11 (.istore 4) 2 13 := by decide +kernel
theorem d5_13 : Dec m5 13 (.aload_n 0) 1 14 := by decide +kernel
theorem d5_14 : Dec m5 14 (.getfield 7) 3 17 := by decide +kernel
theorem d5_17 : Dec m5 17 (.iload_n 3) 1 18 := by decide +kernel
theorem d5_18 : Dec m5 18 (.iload 4) 2 20 := by decide +kernel
theorem d5_20 : Dec m5 20 (.invokestatic 17) 3 23 := by decide +kernel
theorem d5_23 : Dec m5 23 (.iload_n 3) 1 24 := by decide +kernel
theorem d5_24 : Dec m5 24 (.iload 4) 2 26 := by decide +kernel
theorem d5_26 : Dec m5 26 (.invokestatic 23) 3 29 := by decide +kernel
theorem d5_29 : Dec m5 29 (.iastore) 1 30 := by decide +kernel
theorem d5_30 : Dec m5 30 (.return_) 1 31 := by decide +kernel
abbrev m6 : Mt := (⟨"com/example/subsume/subsume/DisjointSets", "smallest", "(I)I"⟩, prog_20_method_3_code, 3, some .int)
theorem mi6 : MInfo m6 1 := by decide +kernel
theorem d6_0 : Dec m6 0 (.iload_n 1) 1 1 := by decide +kernel
theorem d6_1 : Dec m6 1 (.istore_n 2) 1 2 := by decide +kernel
theorem d6_2 : Dec m6 2 (.aload_n 0) 1 3 := by decide +kernel
theorem d6_3 : Dec m6 3 (.getfield 7) 3 6 := by decide +kernel
theorem d6_6 : Dec m6 6 (.iload_n 2) 1 7 := by decide +kernel
theorem d6_7 : Dec m6 7 (.iaload) 1 8 := by decide +kernel
theorem d6_8 : Dec m6 8 (.iload_n 2) 1 9 := by decide +kernel
theorem d6_9 : Dec m6 9 (.if_icmp .eq 30) 3 12 := by decide +kernel
theorem j6_9 : Jmp 9 (30) 39 := by decide
theorem d6_12 : Dec m6 12 (.aload_n 0) 1 13 := by decide +kernel
theorem d6_13 : Dec m6 13 (.getfield 7) 3 16 := by decide +kernel
theorem d6_16 : Dec m6 16 (.iload_n 2) 1 17 := by decide +kernel
theorem d6_17 : Dec m6 17 (.aload_n 0) 1 18 := by decide +kernel
theorem d6_18 : Dec m6 18 (.getfield 7) 3 21 := by decide +kernel
theorem d6_21 : Dec m6 21 (.aload_n 0) 1 22 := by decide +kernel
theorem d6_22 : Dec m6 22 (.getfield 7) 3 25 := by decide +kernel
theorem d6_25 : Dec m6 25 (.iload_n 2) 1 26 := by decide +kernel
theorem d6_26 : Dec m6 26 (.iaload) 1 27 := by decide +kernel
theorem d6_27 : Dec m6 27 (.iaload) 1 28 := by decide +kernel
theorem d6_28 : Dec m6 28 (.iastore) 1 29 := by decide +kernel
theorem d6_29 : Dec m6 29 (.aload_n 0) 1 30 := by decide +kernel
theorem d6_30 : Dec m6 30 (.getfield 7) 3 33 := by decide +kernel
theorem d6_33 : Dec m6 33 (.iload_n 2) 1 34 := by decide +kernel
theorem d6_34 : Dec m6 34 (.iaload) 1 35 := by decide +kernel
theorem d6_35 : Dec m6 35 (.istore_n 2) 1 36 := by decide +kernel
theorem d6_36 : Dec m6 36 (.goto (-34)) 3 39 := by decide +kernel
theorem j6_36 : Jmp 36 (-34) 2 := by decide
theorem d6_39 : Dec m6 39 (.iload_n 2) 1 40 := by decide +kernel
theorem d6_40 : Dec m6 40 (.ireturn) 1 41 := by decide +kernel
abbrev m7 : Mt := (⟨"java/lang/Math", "max", "(II)I"⟩, jdk_29_method_65_code, 2, some .int)
theorem mi7 : MInfo m7 2 := by decide +kernel
theorem d7_0 : Dec m7 0 (.iload_n 0) 1 1 := by decide +kernel
theorem d7_1 : Dec m7 1 (.iload_n 1) 1 2 := by decide +kernel
theorem d7_2 : Dec m7 2 (.if_icmp .lt 7) 3 5 := by decide +kernel
theorem j7_2 : Jmp 2 (7) 9 := by decide
theorem d7_5 : Dec m7 5 (.iload_n 0) 1 6 := by decide +kernel
theorem d7_6 : Dec m7 6 (.goto 4) 3 9 := by decide +kernel
theorem j7_6 : Jmp 6 (4) 10 := by decide
theorem d7_9 : Dec m7 9 (.iload_n 1) 1 10 := by decide +kernel
theorem d7_10 : Dec m7 10 (.ireturn) 1 11 := by decide +kernel
abbrev m8 : Mt := (⟨"java/lang/Math", "min", "(II)I"⟩, jdk_29_method_69_code, 2, some .int)
theorem mi8 : MInfo m8 2 := by decide +kernel
theorem d8_0 : Dec m8 0 (.iload_n 0) 1 1 := by decide +kernel
theorem d8_1 : Dec m8 1 (.iload_n 1) 1 2 := by decide +kernel
theorem d8_2 : Dec m8 2 (.if_icmp .gt 7) 3 5 := by decide +kernel
theorem j8_2 : Jmp 2 (7) 9 := by decide
theorem d8_5 : Dec m8 5 (.iload_n 0) 1 6 := by decide +kernel
theorem d8_6 : Dec m8 6 (.goto 4) 3 9 := by decide +kernel
theorem j8_6 : Jmp 6 (4) 10 := by decide
theorem d8_9 : Dec m8 9 (.iload_n 1) 1 10 := by decide +kernel
theorem d8_10 : Dec m8 10 (.ireturn) 1 11 := by decide +kernel
abbrev m9 : Mt := (⟨"com/example/subsume/subsume/DisjointSetsSmallestPinLaw", "merge", "([III)V"⟩, method_4_code, 7, none)
theorem mi9 : MInfo m9 3 := by decide +kernel
theorem d9_0 : Dec m9 0 (.aload_n 0) 1 1 := by decide +kernel
theorem d9_1 : Dec m9 1 (.iload_n 1) 1 2 := by decide +kernel
theorem d9_2 : Dec m9 2 (.iaload) 1 3 := by decide +kernel
theorem d9_3 : Dec m9 3 (.istore_n 3) 1 4 := by decide +kernel
theorem d9_4 : Dec m9 4 (.aload_n 0) 1 5 := by decide +kernel
theorem d9_5 : Dec m9 5 (.iload_n 2) 1 6 := by decide +kernel
theorem d9_6 : Dec m9 6 (.iaload) 1 7 := by decide +kernel
theorem d9_7 : Dec m9 7 (.istore 4) 2 9 := by decide +kernel
theorem d9_9 : Dec m9 9 (.iload_n 3) 1 10 := by decide +kernel
theorem d9_10 : Dec m9 10 (.iload 4) 2 12 := by decide +kernel
theorem d9_12 : Dec m9 12 (.invokestatic 8) 3 15 := by decide +kernel
theorem d9_15 : Dec m9 15 (.istore 5) 2 17 := by decide +kernel
theorem d9_17 : Dec m9 17 (.iload_n 3) 1 18 := by decide +kernel
theorem d9_18 : Dec m9 18 (.iload 4) 2 20 := by decide +kernel
theorem d9_20 : Dec m9 20 (.invokestatic 14) 3 23 := by decide +kernel
theorem d9_23 : Dec m9 23 (.istore 6) 2 25 := by decide +kernel
theorem d9_25 : Dec m9 25 (.aload_n 0) 1 26 := by decide +kernel
theorem d9_26 : Dec m9 26 (.iconst 0) 1 27 := by decide +kernel
theorem d9_27 : Dec m9 27 (.iaload) 1 28 := by decide +kernel
theorem d9_28 : Dec m9 28 (.iload 6) 2 30 := by decide +kernel
theorem d9_30 : Dec m9 30 (.if_icmp .ne 8) 3 33 := by decide +kernel
theorem j9_30 : Jmp 30 (8) 38 := by decide
theorem d9_33 : Dec m9 33 (.aload_n 0) 1 34 := by decide +kernel
theorem d9_34 : Dec m9 34 (.iconst 0) 1 35 := by decide +kernel
theorem d9_35 : Dec m9 35 (.iload 5) 2 37 := by decide +kernel
theorem d9_37 : Dec m9 37 (.iastore) 1 38 := by decide +kernel
theorem d9_38 : Dec m9 38 (.aload_n 0) 1 39 := by decide +kernel
theorem d9_39 : Dec m9 39 (.iconst 1) 1 40 := by decide +kernel
theorem d9_40 : Dec m9 40 (.iaload) 1 41 := by decide +kernel
theorem d9_41 : Dec m9 41 (.iload 6) 2 43 := by decide +kernel
theorem d9_43 : Dec m9 43 (.if_icmp .ne 8) 3 46 := by decide +kernel
theorem j9_43 : Jmp 43 (8) 51 := by decide
theorem d9_46 : Dec m9 46 (.aload_n 0) 1 47 := by decide +kernel
theorem d9_47 : Dec m9 47 (.iconst 1) 1 48 := by decide +kernel
theorem d9_48 : Dec m9 48 (.iload 5) 2 50 := by decide +kernel
theorem d9_50 : Dec m9 50 (.iastore) 1 51 := by decide +kernel
theorem d9_51 : Dec m9 51 (.aload_n 0) 1 52 := by decide +kernel
theorem d9_52 : Dec m9 52 (.iconst 2) 1 53 := by decide +kernel
theorem d9_53 : Dec m9 53 (.iaload) 1 54 := by decide +kernel
theorem d9_54 : Dec m9 54 (.iload 6) 2 56 := by decide +kernel
theorem d9_56 : Dec m9 56 (.if_icmp .ne 8) 3 59 := by decide +kernel
theorem j9_56 : Jmp 56 (8) 64 := by decide
theorem d9_59 : Dec m9 59 (.aload_n 0) 1 60 := by decide +kernel
theorem d9_60 : Dec m9 60 (.iconst 2) 1 61 := by decide +kernel
theorem d9_61 : Dec m9 61 (.iload 5) 2 63 := by decide +kernel
theorem d9_63 : Dec m9 63 (.iastore) 1 64 := by decide +kernel
theorem d9_64 : Dec m9 64 (.aload_n 0) 1 65 := by decide +kernel
theorem d9_65 : Dec m9 65 (.iconst 3) 1 66 := by decide +kernel
theorem d9_66 : Dec m9 66 (.iaload) 1 67 := by decide +kernel
theorem d9_67 : Dec m9 67 (.iload 6) 2 69 := by decide +kernel
theorem d9_69 : Dec m9 69 (.if_icmp .ne 8) 3 72 := by decide +kernel
theorem j9_69 : Jmp 69 (8) 77 := by decide
theorem d9_72 : Dec m9 72 (.aload_n 0) 1 73 := by decide +kernel
theorem d9_73 : Dec m9 73 (.iconst 3) 1 74 := by decide +kernel
theorem d9_74 : Dec m9 74 (.iload 5) 2 76 := by decide +kernel
theorem d9_76 : Dec m9 76 (.iastore) 1 77 := by decide +kernel
theorem d9_77 : Dec m9 77 (.aload_n 0) 1 78 := by decide +kernel
theorem d9_78 : Dec m9 78 (.iconst 4) 1 79 := by decide +kernel
theorem d9_79 : Dec m9 79 (.iaload) 1 80 := by decide +kernel
theorem d9_80 : Dec m9 80 (.iload 6) 2 82 := by decide +kernel
theorem d9_82 : Dec m9 82 (.if_icmp .ne 8) 3 85 := by decide +kernel
theorem j9_82 : Jmp 82 (8) 90 := by decide
theorem d9_85 : Dec m9 85 (.aload_n 0) 1 86 := by decide +kernel
theorem d9_86 : Dec m9 86 (.iconst 4) 1 87 := by decide +kernel
theorem d9_87 : Dec m9 87 (.iload 5) 2 89 := by decide +kernel
theorem d9_89 : Dec m9 89 (.iastore) 1 90 := by decide +kernel
theorem d9_90 : Dec m9 90 (.return_) 1 91 := by decide +kernel
def own_max (x0 : Int32) (x1 : Int32) : Int32 := (if x0 < x1 then x1 else x0)
theorem go_own_max (K : Ctx) (hw : ∀ d ∈ tables_1, d.before K.2.2.1 K.2.1 = true) (x0 : Int32) (x1 : Int32) (H : Hp) : Go K m7 0 0 0 [.val (.int x0), .val (.int x1)] [] H (some (.int (own_max x0 x1)), some H, 0, 0) := by
  refine Go.iloadN d7_0 rfl ?_
  refine Go.iloadN d7_1 rfl ?_
  refine Go.icmp_lt d7_2 j7_2 (fun h2 => ?_) (fun h2 => ?_)
  · -- pc 2 taken
    refine Go.iloadN d7_9 rfl ?_
    exact Go.ireturn d7_10 rfl (by rw [own_max, if_pos h2]) (HOk.eq rfl)
  · -- pc 2 not taken
    refine Go.iloadN d7_5 rfl ?_
    refine Go.goto d7_6 j7_6 ?_
    exact Go.ireturn d7_10 rfl (by rw [own_max, if_neg h2]) (HOk.eq rfl)
def own_min (x0 : Int32) (x1 : Int32) : Int32 := (if x1 < x0 then x1 else x0)
theorem go_own_min (K : Ctx) (hw : ∀ d ∈ tables_1, d.before K.2.2.1 K.2.1 = true) (x0 : Int32) (x1 : Int32) (H : Hp) : Go K m8 0 0 0 [.val (.int x0), .val (.int x1)] [] H (some (.int (own_min x0 x1)), some H, 0, 0) := by
  refine Go.iloadN d8_0 rfl ?_
  refine Go.iloadN d8_1 rfl ?_
  refine Go.icmp_gt d8_2 j8_2 (fun h2 => ?_) (fun h2 => ?_)
  · -- pc 2 taken
    refine Go.iloadN d8_9 rfl ?_
    exact Go.ireturn d8_10 rfl (by rw [own_min, if_pos h2]) (HOk.eq rfl)
  · -- pc 2 not taken
    refine Go.iloadN d8_5 rfl ?_
    refine Go.goto d8_6 j8_6 ?_
    exact Go.ireturn d8_10 rfl (by rw [own_min, if_neg h2]) (HOk.eq rfl)
def own_first (x0 : Int32) : Int32 := ((x0 &&& 65535) % 5)
theorem go_own_first (K : Ctx) (hw : ∀ d ∈ tables_1, d.before K.2.2.1 K.2.1 = true) (x0 : Int32) (H : Hp) : Go K m3 0 0 0 [.val (.int x0)] [] H (some (.int (own_first x0)), some H, 0, 0) := by
  refine Go.iloadN d3_0 rfl ?_
  refine Go.ldc d3_1 (hw _ (List.mem_of_getElem? (i := 17) rfl)) ?_
  refine Go.iand d3_3 ?_
  refine Go.iconst d3_4 (v := 5) rfl ?_
  refine Go.irem d3_5 (by decide) ?_
  exact Go.ireturn d3_6 rfl (by rw [own_first]) (HOk.eq rfl)
def own_second (x0 : Int32) : Int32 := (((XT.ushr x0 16) &&& 32767) % 5)
theorem go_own_second (K : Ctx) (hw : ∀ d ∈ tables_1, d.before K.2.2.1 K.2.1 = true) (x0 : Int32) (H : Hp) : Go K m4 0 0 0 [.val (.int x0)] [] H (some (.int (own_second x0)), some H, 0, 0) := by
  refine Go.iloadN d4_0 rfl ?_
  refine Go.bipush d4_1 (v := 16) rfl ?_
  refine Go.iushr d4_3 ?_
  refine Go.sipush d4_4 (v := 32767) rfl ?_
  refine Go.iand d4_7 ?_
  refine Go.iconst d4_8 (v := 5) rfl ?_
  refine Go.irem d4_9 (by decide) ?_
  exact Go.ireturn d4_10 rfl (by rw [own_second]) (HOk.eq rfl)
theorem go_ctor (K : Ctx) (hw : ∀ d ∈ tables_1, d.before K.2.2.1 K.2.1 = true)  : Go K m1 1 12 0 [.val (.ref 0), .val (.int 5), .unset] [] [.inl ("com/example/subsume/subsume/DisjointSets", [("links", "[I", .null)])] (none, some [.inl ("com/example/subsume/subsume/DisjointSets", [("links", "[I", .ref 1)]), .inr (.int, [.int 0, .int 1, .int 2, .int 3, .int 4])], 1, 5) := by
  refine Go.aloadN d1_0 rfl rfl ?_
  refine Go.initObj d1_1 (hw _ (List.mem_of_getElem? (i := 6) rfl)) (hw _ (List.mem_of_getElem? (i := 7) rfl)) (hw _ (List.mem_of_getElem? (i := 8) rfl)) rfl (W := 0) rfl (by decide) (by decide) ?_
  refine Go.aloadN d1_4 rfl rfl ?_
  refine Go.iloadN d1_5 rfl ?_
  refine Go.newarray 5 d1_6 (hw _ (List.mem_of_getElem? (i := 9) rfl)) (t := .int) rfl (by decide) (by decide) (by decide) (vs := [.int 0, .int 0, .int 0, .int 0, .int 0]) rfl (i := 1) rfl 0 0 (by decide) (by decide) ?_
  show Go _ _ _ _ 8 [.val (.ref 0), .val (.int 5), .unset] [.ref 1, .ref 0] [.inl ("com/example/subsume/subsume/DisjointSets", [("links", "[I", .null)]), .inr (.int, [.int 0, .int 0, .int 0, .int 0, .int 0])] _
  refine Go.putfield 0 d1_8 (hw _ (List.mem_of_getElem? (i := 10) rfl)) (Or.inr ⟨(hw _ (List.mem_of_getElem? (i := 11) rfl)), rfl, rfl⟩) (hw _ (List.mem_of_getElem? (i := 1) rfl)) (ty := (.array .int)) (by decide) (fun _ => ⟨rfl, rfl⟩) rfl rfl (H1 := [.inl ("com/example/subsume/subsume/DisjointSets", [("links", "[I", .ref 1)]), .inr (.int, [.int 0, .int 0, .int 0, .int 0, .int 0])]) rfl ?_
  refine Go.iconst d1_11 (v := 0) rfl ?_
  refine Go.istoreN d1_12 (ls' := [.val (.ref 0), .val (.int 5), .val (.int 0)]) rfl ?_
  refine Go.iloadN d1_13 rfl ?_
  refine Go.iloadN d1_14 rfl ?_
  refine Go.icmpF d1_15 (XT.ii_ge_f (by decide)) ?_
  refine Go.aloadN d1_18 rfl rfl ?_
  refine Go.getfield 0 d1_19 (hw _ (List.mem_of_getElem? (i := 10) rfl)) rfl rfl ?_
  refine Go.iloadN d1_22 rfl ?_
  refine Go.iloadN d1_23 rfl ?_
  refine Go.iastore d1_24 rfl (by decide) (Nat.le_of_ble_eq_true rfl) (H1 := [.inl ("com/example/subsume/subsume/DisjointSets", [("links", "[I", .ref 1)]), .inr (.int, [.int 0, .int 0, .int 0, .int 0, .int 0])]) rfl ?_
  refine Go.iinc d1_25 (v := 1) rfl rfl (ls' := [.val (.ref 0), .val (.int 5), .val (.int 1)]) rfl ?_
  refine Go.goto d1_28 j1_28 ?_
  refine Go.iloadN d1_13 rfl ?_
  refine Go.iloadN d1_14 rfl ?_
  refine Go.icmpF d1_15 (XT.ii_ge_f (by decide)) ?_
  refine Go.aloadN d1_18 rfl rfl ?_
  refine Go.getfield 0 d1_19 (hw _ (List.mem_of_getElem? (i := 10) rfl)) rfl rfl ?_
  refine Go.iloadN d1_22 rfl ?_
  refine Go.iloadN d1_23 rfl ?_
  refine Go.iastore d1_24 rfl (by decide) (Nat.le_of_ble_eq_true rfl) (H1 := [.inl ("com/example/subsume/subsume/DisjointSets", [("links", "[I", .ref 1)]), .inr (.int, [.int 0, .int 1, .int 0, .int 0, .int 0])]) rfl ?_
  refine Go.iinc d1_25 (v := 1) rfl rfl (ls' := [.val (.ref 0), .val (.int 5), .val (.int 2)]) rfl ?_
  refine Go.goto d1_28 j1_28 ?_
  refine Go.iloadN d1_13 rfl ?_
  refine Go.iloadN d1_14 rfl ?_
  refine Go.icmpF d1_15 (XT.ii_ge_f (by decide)) ?_
  refine Go.aloadN d1_18 rfl rfl ?_
  refine Go.getfield 0 d1_19 (hw _ (List.mem_of_getElem? (i := 10) rfl)) rfl rfl ?_
  refine Go.iloadN d1_22 rfl ?_
  refine Go.iloadN d1_23 rfl ?_
  refine Go.iastore d1_24 rfl (by decide) (Nat.le_of_ble_eq_true rfl) (H1 := [.inl ("com/example/subsume/subsume/DisjointSets", [("links", "[I", .ref 1)]), .inr (.int, [.int 0, .int 1, .int 2, .int 0, .int 0])]) rfl ?_
  refine Go.iinc d1_25 (v := 1) rfl rfl (ls' := [.val (.ref 0), .val (.int 5), .val (.int 3)]) rfl ?_
  refine Go.goto d1_28 j1_28 ?_
  refine Go.iloadN d1_13 rfl ?_
  refine Go.iloadN d1_14 rfl ?_
  refine Go.icmpF d1_15 (XT.ii_ge_f (by decide)) ?_
  refine Go.aloadN d1_18 rfl rfl ?_
  refine Go.getfield 0 d1_19 (hw _ (List.mem_of_getElem? (i := 10) rfl)) rfl rfl ?_
  refine Go.iloadN d1_22 rfl ?_
  refine Go.iloadN d1_23 rfl ?_
  refine Go.iastore d1_24 rfl (by decide) (Nat.le_of_ble_eq_true rfl) (H1 := [.inl ("com/example/subsume/subsume/DisjointSets", [("links", "[I", .ref 1)]), .inr (.int, [.int 0, .int 1, .int 2, .int 3, .int 0])]) rfl ?_
  refine Go.iinc d1_25 (v := 1) rfl rfl (ls' := [.val (.ref 0), .val (.int 5), .val (.int 4)]) rfl ?_
  refine Go.goto d1_28 j1_28 ?_
  refine Go.iloadN d1_13 rfl ?_
  refine Go.iloadN d1_14 rfl ?_
  refine Go.icmpF d1_15 (XT.ii_ge_f (by decide)) ?_
  refine Go.aloadN d1_18 rfl rfl ?_
  refine Go.getfield 0 d1_19 (hw _ (List.mem_of_getElem? (i := 10) rfl)) rfl rfl ?_
  refine Go.iloadN d1_22 rfl ?_
  refine Go.iloadN d1_23 rfl ?_
  refine Go.iastore d1_24 rfl (by decide) (Nat.le_of_ble_eq_true rfl) (H1 := [.inl ("com/example/subsume/subsume/DisjointSets", [("links", "[I", .ref 1)]), .inr (.int, [.int 0, .int 1, .int 2, .int 3, .int 4])]) rfl ?_
  refine Go.iinc d1_25 (v := 1) rfl rfl (ls' := [.val (.ref 0), .val (.int 5), .val (.int 5)]) rfl ?_
  refine Go.goto d1_28 j1_28 ?_
  refine Go.iloadN d1_13 rfl ?_
  refine Go.iloadN d1_14 rfl ?_
  refine Go.icmpT d1_15 j1_15 (XT.ii_ge_t (by decide)) ?_
  exact Go.ret d1_31 rfl rfl (HOk.eq rfl)
theorem go_sm_a (K : Ctx) (hw : ∀ d ∈ tables_1, d.before K.2.2.1 K.2.1 = true) (ls lab : List Value) (m r v : Int32) (hr0 : ¬ r < 0) (hv : ls[r.toNatClampNeg]? = some (.int v)) (u : Int32) (hne : ¬ v = r) (hv0 : ¬ v < 0) (hu : ls[v.toNatClampNeg]? = some (.int u)) (rv : Option Value) (Hr : Option Hp) (h : Go K m6 0 0 2 [.val (.ref 0), .val (.int m), .val (.int u)] [] [.inl ("com/example/subsume/subsume/DisjointSets", [("links", "[I", .ref 1)]), .inr (.int, (ls.set r.toNatClampNeg (.int u))), .inr (.int, lab)] (rv, Hr, 0, 0)) : Go K m6 0 0 2 [.val (.ref 0), .val (.int m), .val (.int r)] [] [.inl ("com/example/subsume/subsume/DisjointSets", [("links", "[I", .ref 1)]), .inr (.int, ls), .inr (.int, lab)] (rv, Hr, 0, 0) := by
  refine Go.aloadN d6_2 rfl rfl ?_
  refine Go.getfield 0 d6_3 (hw _ (List.mem_of_getElem? (i := 10) rfl)) rfl rfl ?_
  refine Go.iloadN d6_6 rfl ?_
  refine Go.iaload d6_7 rfl hr0 hv ?_
  refine Go.iloadN d6_8 rfl ?_
  refine Go.icmpF d6_9 (XT.ii_eq_f hne) ?_
  refine Go.aloadN d6_12 rfl rfl ?_
  refine Go.getfield 0 d6_13 (hw _ (List.mem_of_getElem? (i := 10) rfl)) rfl rfl ?_
  refine Go.iloadN d6_16 rfl ?_
  refine Go.aloadN d6_17 rfl rfl ?_
  refine Go.getfield 0 d6_18 (hw _ (List.mem_of_getElem? (i := 10) rfl)) rfl rfl ?_
  refine Go.aloadN d6_21 rfl rfl ?_
  refine Go.getfield 0 d6_22 (hw _ (List.mem_of_getElem? (i := 10) rfl)) rfl rfl ?_
  refine Go.iloadN d6_25 rfl ?_
  refine Go.iaload d6_26 rfl hr0 hv ?_
  refine Go.iaload d6_27 rfl hv0 hu ?_
  refine Go.iastore d6_28 rfl hr0 (List.getElem?_eq_some_iff.mp hv).1 (H1 := [.inl ("com/example/subsume/subsume/DisjointSets", [("links", "[I", .ref 1)]), .inr (.int, (ls.set r.toNatClampNeg (.int u))), .inr (.int, lab)]) rfl ?_
  refine Go.aloadN d6_29 rfl rfl ?_
  refine Go.getfield 0 d6_30 (hw _ (List.mem_of_getElem? (i := 10) rfl)) rfl rfl ?_
  refine Go.iloadN d6_33 rfl ?_
  refine Go.iaload d6_34 rfl hr0 (List.getElem?_set_self (List.getElem?_eq_some_iff.mp hv).1) ?_
  refine Go.istoreN d6_35 (ls' := [.val (.ref 0), .val (.int m), .val (.int u)]) rfl ?_
  refine Go.goto d6_36 j6_36 ?_
  exact h
theorem go_sm_b (K : Ctx) (hw : ∀ d ∈ tables_1, d.before K.2.2.1 K.2.1 = true) (ls lab : List Value) (m r v : Int32) (hr0 : ¬ r < 0) (hv : ls[r.toNatClampNeg]? = some (.int v)) (heq : v = r) : Go K m6 0 0 2 [.val (.ref 0), .val (.int m), .val (.int r)] [] [.inl ("com/example/subsume/subsume/DisjointSets", [("links", "[I", .ref 1)]), .inr (.int, ls), .inr (.int, lab)] (some (.int r), some [.inl ("com/example/subsume/subsume/DisjointSets", [("links", "[I", .ref 1)]), .inr (.int, ls), .inr (.int, lab)], 0, 0) := by
  refine Go.aloadN d6_2 rfl rfl ?_
  refine Go.getfield 0 d6_3 (hw _ (List.mem_of_getElem? (i := 10) rfl)) rfl rfl ?_
  refine Go.iloadN d6_6 rfl ?_
  refine Go.iaload d6_7 rfl hr0 hv ?_
  refine Go.iloadN d6_8 rfl ?_
  refine Go.icmpT d6_9 j6_9 (XT.ii_eq_t heq) ?_
  refine Go.iloadN d6_39 rfl ?_
  exact Go.ireturn d6_40 rfl rfl (HOk.eq rfl)
theorem go_sm_0 (K : Ctx) (hw : ∀ d ∈ tables_1, d.before K.2.2.1 K.2.1 = true) (H : Hp) (m : Int32) (rv : Option Value) (Hr : Option Hp) (h : Go K m6 0 0 2 [.val (.ref 0), .val (.int m), .val (.int m)] [] H (rv, Hr, 0, 0)) : Go K m6 0 0 0 [.val (.ref 0), .val (.int m), .unset] [] H (rv, Hr, 0, 0) := by
  refine Go.iloadN d6_0 rfl ?_
  refine Go.istoreN d6_1 (ls' := [.val (.ref 0), .val (.int m), .val (.int m)]) rfl ?_
  exact h
theorem go_jn_t (K : Ctx) (hw : ∀ d ∈ tables_1, d.before K.2.2.1 K.2.1 = true) (ls lab : List Value) (a b p q : Int32) (hj0 : ¬ own_max p q < 0) (hjl : (own_max p q).toNatClampNeg < ls.length) : Go K m5 1 20 13 [.val (.ref 0), .val (.int a), .val (.int b), .val (.int p), .val (.int q)] [] [.inl ("com/example/subsume/subsume/DisjointSets", [("links", "[I", .ref 1)]), .inr (.int, ls), .inr (.int, lab)] (none, some [.inl ("com/example/subsume/subsume/DisjointSets", [("links", "[I", .ref 1)]), .inr (.int, (ls.set (own_max p q).toNatClampNeg (.int (own_min p q)))), .inr (.int, lab)], 0, 0) := by
  refine Go.aloadN d5_13 rfl rfl ?_
  refine Go.getfield 0 d5_14 (hw _ (List.mem_of_getElem? (i := 10) rfl)) rfl rfl ?_
  refine Go.iloadN d5_17 rfl ?_
  refine Go.iload d5_18 rfl ?_
  refine Go.callS (M' := m7) d5_20 (hw _ (List.mem_of_getElem? (i := 31) rfl)) (hw _ (List.mem_of_getElem? (i := 32) rfl)) (hw _ (List.mem_of_getElem? (i := 33) rfl)) (hw _ (List.mem_of_getElem? (i := 34) rfl)) mi7 (as := [.int p, .int q]) rfl rfl (st := [.ref 1]) rfl (ls1 := [.val (.int p), .val (.int q)]) rfl (W := 1) rfl (by decide) (by decide) (go_own_max K hw p q _) 0 0 (by decide) (by decide) ?_
  show Go _ _ _ _ 23 [.val (.ref 0), .val (.int a), .val (.int b), .val (.int p), .val (.int q)] [.int (own_max p q), .ref 1] [.inl ("com/example/subsume/subsume/DisjointSets", [("links", "[I", .ref 1)]), .inr (.int, ls), .inr (.int, lab)] _
  refine Go.iloadN d5_23 rfl ?_
  refine Go.iload d5_24 rfl ?_
  refine Go.callS (M' := m8) d5_26 (hw _ (List.mem_of_getElem? (i := 35) rfl)) (hw _ (List.mem_of_getElem? (i := 36) rfl)) (hw _ (List.mem_of_getElem? (i := 33) rfl)) (hw _ (List.mem_of_getElem? (i := 37) rfl)) mi8 (as := [.int p, .int q]) rfl rfl (st := [.int (own_max p q), .ref 1]) rfl (ls1 := [.val (.int p), .val (.int q)]) rfl (W := 2) rfl (by decide) (by decide) (go_own_min K hw p q _) 0 0 (by decide) (by decide) ?_
  show Go _ _ _ _ 29 [.val (.ref 0), .val (.int a), .val (.int b), .val (.int p), .val (.int q)] [.int (own_min p q), .int (own_max p q), .ref 1] [.inl ("com/example/subsume/subsume/DisjointSets", [("links", "[I", .ref 1)]), .inr (.int, ls), .inr (.int, lab)] _
  refine Go.iastore d5_29 rfl hj0 hjl (H1 := [.inl ("com/example/subsume/subsume/DisjointSets", [("links", "[I", .ref 1)]), .inr (.int, (ls.set (own_max p q).toNatClampNeg (.int (own_min p q)))), .inr (.int, lab)]) rfl ?_
  exact Go.ret d5_30 rfl rfl (HOk.eq rfl)
def own_lv (l : List Nat) : List Value := l.map (fun n => Value.int (Int32.ofNat n))
def own_sm : Nat → Nat → List Nat → Nat × List Nat
  | 0, r, l => (r, l)
  | k + 1, r, l => if (l[r]?).getD 0 = r then (r, l) else own_sm k ((l[(l[r]?).getD 0]?).getD 0) (l.set r ((l[(l[r]?).getD 0]?).getD 0))
def own_R (l : List Nat) : List Nat := [(own_sm 0 0 l).1, (own_sm 1 1 l).1, (own_sm 2 2 l).1, (own_sm 3 3 l).1, (own_sm 4 4 l).1]
def own_jn (l : List Nat) (a b : Nat) : List Nat := (own_sm b b (own_sm a a l).2).2.set (max (own_sm a a l).1 (own_sm b b (own_sm a a l).2).1) (min (own_sm a a l).1 (own_sm b b (own_sm a a l).2).1)
def own_mg (lab : List Nat) (a b : Nat) : List Nat := lab.map (fun z => if z = max ((lab[a]?).getD 0) ((lab[b]?).getD 0) then min ((lab[a]?).getD 0) ((lab[b]?).getD 0) else z)
def own_okb (l : List Nat) : Bool := decide (l.length = 5) && (List.range 5).all (fun i => decide ((l[i]?).getD 9 ≤ i))
def own_ck (l : List Nat) (a b : Nat) : Bool := own_okb (own_sm a a l).2 && decide ((own_sm a a l).1 < 5) && decide (own_R (own_sm a a l).2 = own_R l) && own_okb (own_jn l a b) && decide (own_R (own_jn l a b) = own_mg (own_R l) a b) && decide ((own_R l)[a]? = some (own_sm a a l).1)
theorem own_chk : ∀ (c0 : Fin 1) (c1 : Fin 2) (c2 : Fin 3) (c3 : Fin 4) (c4 a b : Fin 5), own_ck [c0.val, c1.val, c2.val, c3.val, c4.val] a.val b.val = true := by decide +kernel
theorem own_okP {l : List Nat} (h : own_okb l = true) : l.length = 5 ∧ ∀ (i m : Nat), l[i]? = some m → m ≤ i := by
  simp only [own_okb, Bool.and_eq_true, decide_eq_true_eq, List.all_eq_true, List.mem_range] at h
  refine ⟨h.1, fun i m hi => ?_⟩
  have hl := (List.getElem?_eq_some_iff.mp hi).1
  have := h.2 i (by omega)
  rw [hi, Option.getD_some] at this
  exact this
theorem own_ckP {l : List Nat} {a b : Nat} (h : own_okb l = true) (ha : a < 5) (hb : b < 5) : own_ck l a b = true := by
  have hP := own_okP h
  match l, hP with
  | [c0, c1, c2, c3, c4], hP => exact own_chk ⟨c0, by have := hP.2 0 c0 rfl; omega⟩ ⟨c1, by have := hP.2 1 c1 rfl; omega⟩ ⟨c2, by have := hP.2 2 c2 rfl; omega⟩ ⟨c3, by have := hP.2 3 c3 rfl; omega⟩ ⟨c4, by have := hP.2 4 c4 rfl; omega⟩ ⟨a, ha⟩ ⟨b, hb⟩
theorem own_facts {l : List Nat} {a b : Nat} (h : own_okb l = true) (ha : a < 5) (hb : b < 5) : own_okb (own_sm a a l).2 = true ∧ (own_sm a a l).1 < 5 ∧ own_R (own_sm a a l).2 = own_R l ∧ own_okb (own_jn l a b) = true ∧ own_R (own_jn l a b) = own_mg (own_R l) a b ∧ (own_R l)[a]? = some (own_sm a a l).1 := by
  have := own_ckP h ha hb
  simp only [own_ck, Bool.and_eq_true, decide_eq_true_eq] at this
  exact ⟨this.1.1.1.1.1, this.1.1.1.1.2, this.1.1.1.2, this.1.1.2, this.1.2, this.2⟩
theorem own_clamp {n : Nat} (h : n ≤ 1000) : (Int32.ofNat n).toNatClampNeg = n := Int32.toNatClampNeg_ofNat_of_lt (by omega)
theorem own_i32 {n : Nat} (h : n ≤ 1000) : (Int32.ofNat n).toInt = n := Int32.toInt_ofNat_of_lt (by omega)
theorem own_nneg {n : Nat} (h : n ≤ 1000) : ¬ Int32.ofNat n < 0 := by
  rw [Int32.lt_iff_toInt_lt, own_i32 h]; show ¬ (n : Int) < 0; omega
theorem own_inj {a c : Nat} (ha : a ≤ 1000) (hc : c ≤ 1000) : Int32.ofNat a = Int32.ofNat c ↔ a = c := by
  rw [← Int32.toInt_inj, own_i32 ha, own_i32 hc]; omega
theorem own_lget {l : List Nat} {i n : Nat} (h : l[i]? = some n) : (own_lv l)[i]? = some (.int (Int32.ofNat n)) := by simp [own_lv, h]
theorem own_lset (l : List Nat) (i n : Nat) : (own_lv l).set i (.int (Int32.ofNat n)) = own_lv (l.set i n) := by simp [own_lv, List.map_set]
theorem own_maxn {a c : Nat} (ha : a ≤ 1000) (hc : c ≤ 1000) : own_max (Int32.ofNat a) (Int32.ofNat c) = Int32.ofNat (max a c) := by
  rw [own_max]
  by_cases h : Int32.ofNat a < Int32.ofNat c
  · rw [if_pos h]
    rw [Int32.lt_iff_toInt_lt, own_i32 ha, own_i32 hc] at h
    rw [Nat.max_eq_right (by omega)]
  · rw [if_neg h]
    rw [Int32.lt_iff_toInt_lt, own_i32 ha, own_i32 hc] at h
    rw [Nat.max_eq_left (by omega)]
theorem own_minn {a c : Nat} (ha : a ≤ 1000) (hc : c ≤ 1000) : own_min (Int32.ofNat a) (Int32.ofNat c) = Int32.ofNat (min a c) := by
  rw [own_min]
  by_cases h : Int32.ofNat c < Int32.ofNat a
  · rw [if_pos h]
    rw [Int32.lt_iff_toInt_lt, own_i32 ha, own_i32 hc] at h
    rw [Nat.min_eq_right (by omega)]
  · rw [if_neg h]
    rw [Int32.lt_iff_toInt_lt, own_i32 ha, own_i32 hc] at h
    rw [Nat.min_eq_left (by omega)]
theorem own_ok_set {l : List Nat} {r u : Nat} (h : l.length = 5 ∧ ∀ (i m : Nat), l[i]? = some m → m ≤ i) (hu : u ≤ r) : (l.set r u).length = 5 ∧ ∀ (i m : Nat), (l.set r u)[i]? = some m → m ≤ i := by
  refine ⟨by rw [List.length_set]; exact h.1, fun i m hi => ?_⟩
  by_cases q : r = i
  · subst q
    have hl := (List.getElem?_eq_some_iff.mp hi).1
    rw [List.length_set] at hl
    rw [List.getElem?_set_self hl] at hi
    cases hi; exact hu
  · rw [List.getElem?_set_ne q] at hi
    exact h.2 i m hi
theorem go_small (K : Ctx) (hw : ∀ d ∈ tables_1, d.before K.2.2.1 K.2.1 = true) (lab : List Value) (m : Int32) : ∀ k r (l : List Nat), (l.length = 5 ∧ ∀ (i m : Nat), l[i]? = some m → m ≤ i) → r < 5 → r ≤ k →
    Go K m6 0 0 2 [.val (.ref 0), .val (.int m), .val (.int (Int32.ofNat r))] [] [.inl ("com/example/subsume/subsume/DisjointSets", [("links", "[I", .ref 1)]), .inr (.int, (own_lv l)), .inr (.int, lab)] (some (.int (Int32.ofNat (own_sm k r l).1)), some [.inl ("com/example/subsume/subsume/DisjointSets", [("links", "[I", .ref 1)]), .inr (.int, (own_lv (own_sm k r l).2)), .inr (.int, lab)], 0, 0) := by
  intro k
  induction k with
  | zero =>
    intro r l hl hr hk
    obtain rfl : r = 0 := Nat.le_zero.mp hk
    have hv : l[0]? = some l[0] := List.getElem?_eq_getElem (by omega)
    have h0 := hl.2 0 _ hv
    exact go_sm_b K hw (own_lv l) lab m (Int32.ofNat 0) (Int32.ofNat l[0]) (own_nneg (by omega)) (by rw [own_clamp (by omega)]; exact own_lget hv) (by rw [own_inj (by omega) (by omega)]; omega)
  | succ k ih =>
    intro r l hl hr hk
    have hv : l[r]? = some l[r] := List.getElem?_eq_getElem (by omega)
    have hvr := hl.2 r _ hv
    generalize l[r] = v at hv hvr
    have gv : (own_lv l)[(Int32.ofNat r).toNatClampNeg]? = some (.int (Int32.ofNat v)) := by rw [own_clamp (by omega)]; exact own_lget hv
    rw [own_sm, hv, Option.getD_some]
    by_cases e : v = r
    · rw [if_pos e]
      exact go_sm_b K hw (own_lv l) lab m (Int32.ofNat r) (Int32.ofNat v) (own_nneg (by omega)) gv (by rw [own_inj (by omega) (by omega)]; exact e)
    · rw [if_neg e]
      have hu : l[v]? = some l[v] := List.getElem?_eq_getElem (by omega)
      have huv := hl.2 v _ hu
      generalize l[v] = u at hu huv
      rw [hu, Option.getD_some]
      refine go_sm_a K hw (own_lv l) lab m (Int32.ofNat r) (Int32.ofNat v) (own_nneg (by omega)) gv (Int32.ofNat u) (by rw [own_inj (by omega) (by omega)]; exact e) (own_nneg (by omega)) (by rw [own_clamp (by omega)]; exact own_lget hu) _ _ ?_
      rw [own_clamp (n := r) (by omega), own_lset]
      exact ih u (l.set r u) (own_ok_set hl (by omega)) (by omega) (by omega)
theorem go_smallest (K : Ctx) (hw : ∀ d ∈ tables_1, d.before K.2.2.1 K.2.1 = true) (lab : List Value) (l : List Nat) (a : Nat) (h : own_okb l = true) (ha : a < 5) :
    Go K m6 0 0 0 [.val (.ref 0), .val (.int (Int32.ofNat a)), .unset] [] [.inl ("com/example/subsume/subsume/DisjointSets", [("links", "[I", .ref 1)]), .inr (.int, (own_lv l)), .inr (.int, lab)] (some (.int (Int32.ofNat (own_sm a a l).1)), some [.inl ("com/example/subsume/subsume/DisjointSets", [("links", "[I", .ref 1)]), .inr (.int, (own_lv (own_sm a a l).2)), .inr (.int, lab)], 0, 0) :=
  go_sm_0 K hw _ _ _ _ (go_small K hw lab _ a a l (own_okP h) ha (Nat.le_refl _))
theorem go_join (K : Ctx) (hw : ∀ d ∈ tables_1, d.before K.2.2.1 K.2.1 = true) (l : List Nat) (lab : List Value) (a b : Nat) (h : own_okb l = true) (ha : a < 5) (hb : b < 5) : Go K m5 1 20 0 [.val (.ref 0), .val (.int (Int32.ofNat a)), .val (.int (Int32.ofNat b)), .unset, .unset] [] [.inl ("com/example/subsume/subsume/DisjointSets", [("links", "[I", .ref 1)]), .inr (.int, (own_lv l)), .inr (.int, lab)] (none, some [.inl ("com/example/subsume/subsume/DisjointSets", [("links", "[I", .ref 1)]), .inr (.int, (own_lv (own_jn l a b))), .inr (.int, lab)], 0, 0) := by
  have f1 := own_facts h ha hb
  have f2 := own_facts (a := b) (b := b) f1.1 hb hb
  refine Go.aloadN d5_0 rfl rfl ?_
  refine Go.iloadN d5_1 rfl ?_
  refine Go.callV (M' := m6) (i := 0) d5_2 rfl (hw _ (List.mem_of_getElem? (i := 26) rfl)) (hw _ (List.mem_of_getElem? (i := 28) rfl)) (hw _ (List.mem_of_getElem? (i := 2) rfl)) (hw _ (List.mem_of_getElem? (i := 27) rfl)) (hw _ (List.mem_of_getElem? (i := 29) rfl)) (hw _ (List.mem_of_getElem? (i := 30) rfl)) mi6 (as := [.int (Int32.ofNat a)]) rfl rfl (st := []) rfl (ls1 := [.val (.ref 0), .val (.int (Int32.ofNat a)), .unset]) rfl (W := 0) rfl (by decide) (by decide) (go_smallest K hw lab l a h ha) 0 0 (by decide) (by decide) ?_
  show Go _ _ _ _ 5 [.val (.ref 0), .val (.int (Int32.ofNat a)), .val (.int (Int32.ofNat b)), .unset, .unset] [.int (Int32.ofNat (own_sm a a l).1)] [.inl ("com/example/subsume/subsume/DisjointSets", [("links", "[I", .ref 1)]), .inr (.int, (own_lv (own_sm a a l).2)), .inr (.int, lab)] _
  refine Go.istoreN d5_5 (ls' := [.val (.ref 0), .val (.int (Int32.ofNat a)), .val (.int (Int32.ofNat b)), .val (.int (Int32.ofNat (own_sm a a l).1)), .unset]) rfl ?_
  refine Go.aloadN d5_6 rfl rfl ?_
  refine Go.iloadN d5_7 rfl ?_
  refine Go.callV (M' := m6) (i := 0) d5_8 rfl (hw _ (List.mem_of_getElem? (i := 26) rfl)) (hw _ (List.mem_of_getElem? (i := 28) rfl)) (hw _ (List.mem_of_getElem? (i := 2) rfl)) (hw _ (List.mem_of_getElem? (i := 27) rfl)) (hw _ (List.mem_of_getElem? (i := 29) rfl)) (hw _ (List.mem_of_getElem? (i := 30) rfl)) mi6 (as := [.int (Int32.ofNat b)]) rfl rfl (st := []) rfl (ls1 := [.val (.ref 0), .val (.int (Int32.ofNat b)), .unset]) rfl (W := 0) rfl (by decide) (by decide) (go_smallest K hw lab (own_sm a a l).2 b f1.1 hb) 0 0 (by decide) (by decide) ?_
  show Go _ _ _ _ 11 [.val (.ref 0), .val (.int (Int32.ofNat a)), .val (.int (Int32.ofNat b)), .val (.int (Int32.ofNat (own_sm a a l).1)), .unset] [.int (Int32.ofNat (own_sm b b (own_sm a a l).2).1)] [.inl ("com/example/subsume/subsume/DisjointSets", [("links", "[I", .ref 1)]), .inr (.int, (own_lv (own_sm b b (own_sm a a l).2).2)), .inr (.int, lab)] _
  refine Go.istore d5_11 (ls' := [.val (.ref 0), .val (.int (Int32.ofNat a)), .val (.int (Int32.ofNat b)), .val (.int (Int32.ofNat (own_sm a a l).1)), .val (.int (Int32.ofNat (own_sm b b (own_sm a a l).2).1))]) rfl ?_
  have g := go_jn_t K hw (own_lv (own_sm b b (own_sm a a l).2).2) lab (Int32.ofNat a) (Int32.ofNat b) (Int32.ofNat (own_sm a a l).1) (Int32.ofNat (own_sm b b (own_sm a a l).2).1) (by rw [own_maxn (by omega) (by omega)]; exact own_nneg (by omega)) (by rw [own_maxn (by omega) (by omega), own_clamp (by omega)]; simp only [own_lv, List.length_map]; have := (own_okP f2.1).1; omega)
  rw [own_maxn (by omega) (by omega), own_minn (by omega) (by omega), own_clamp (by omega), own_lset] at g
  exact g
def own_pk (a b m : Int32) : Int32 := if a = b then m else a
theorem go_mg0_t (K : Ctx) (hw : ∀ d ∈ tables_1, d.before K.2.2.1 K.2.1 = true) (g0 g1 : Obj) (a0 a1 a2 a3 a4 x y lx ly mn mx : Int32) (e : a0 = mx) (rv : Option Value) (Hr : Option Hp) (h : Go K m9 1 20 38 [.val (.ref 2), .val (.int x), .val (.int y), .val (.int lx), .val (.int ly), .val (.int mn), .val (.int mx)] [] [g0, g1, .inr (.int, [.int mn, .int a1, .int a2, .int a3, .int a4])] (rv, Hr, 0, 0)) : Go K m9 1 20 25 [.val (.ref 2), .val (.int x), .val (.int y), .val (.int lx), .val (.int ly), .val (.int mn), .val (.int mx)] [] [g0, g1, .inr (.int, [.int a0, .int a1, .int a2, .int a3, .int a4])] (rv, Hr, 0, 0) := by
  refine Go.aloadN d9_25 rfl rfl ?_
  refine Go.iconst d9_26 (v := 0) rfl ?_
  refine Go.iaload d9_27 rfl (by decide) rfl ?_
  refine Go.iload d9_28 rfl ?_
  refine Go.icmpF d9_30 (XT.ii_ne_f e) ?_
  refine Go.aloadN d9_33 rfl rfl ?_
  refine Go.iconst d9_34 (v := 0) rfl ?_
  refine Go.iload d9_35 rfl ?_
  refine Go.iastore d9_37 rfl (by decide) (Nat.le_of_ble_eq_true rfl) (H1 := [g0, g1, .inr (.int, [.int mn, .int a1, .int a2, .int a3, .int a4])]) rfl ?_
  exact h
theorem go_mg0_f (K : Ctx) (hw : ∀ d ∈ tables_1, d.before K.2.2.1 K.2.1 = true) (g0 g1 : Obj) (a0 a1 a2 a3 a4 x y lx ly mn mx : Int32) (e : ¬ a0 = mx) (rv : Option Value) (Hr : Option Hp) (h : Go K m9 1 20 38 [.val (.ref 2), .val (.int x), .val (.int y), .val (.int lx), .val (.int ly), .val (.int mn), .val (.int mx)] [] [g0, g1, .inr (.int, [.int a0, .int a1, .int a2, .int a3, .int a4])] (rv, Hr, 0, 0)) : Go K m9 1 20 25 [.val (.ref 2), .val (.int x), .val (.int y), .val (.int lx), .val (.int ly), .val (.int mn), .val (.int mx)] [] [g0, g1, .inr (.int, [.int a0, .int a1, .int a2, .int a3, .int a4])] (rv, Hr, 0, 0) := by
  refine Go.aloadN d9_25 rfl rfl ?_
  refine Go.iconst d9_26 (v := 0) rfl ?_
  refine Go.iaload d9_27 rfl (by decide) rfl ?_
  refine Go.iload d9_28 rfl ?_
  refine Go.icmpT d9_30 j9_30 (XT.ii_ne_t e) ?_
  exact h
theorem go_mg0 (K : Ctx) (hw : ∀ d ∈ tables_1, d.before K.2.2.1 K.2.1 = true) (g0 g1 : Obj) (a0 a1 a2 a3 a4 x y lx ly mn mx : Int32) (rv : Option Value) (Hr : Option Hp) (h : Go K m9 1 20 38 [.val (.ref 2), .val (.int x), .val (.int y), .val (.int lx), .val (.int ly), .val (.int mn), .val (.int mx)] [] [g0, g1, .inr (.int, [.int (own_pk a0 mx mn), .int a1, .int a2, .int a3, .int a4])] (rv, Hr, 0, 0)) : Go K m9 1 20 25 [.val (.ref 2), .val (.int x), .val (.int y), .val (.int lx), .val (.int ly), .val (.int mn), .val (.int mx)] [] [g0, g1, .inr (.int, [.int a0, .int a1, .int a2, .int a3, .int a4])] (rv, Hr, 0, 0) := by
  by_cases e : a0 = mx
  · rw [own_pk, if_pos e] at h; exact go_mg0_t K hw g0 g1 a0 a1 a2 a3 a4 x y lx ly mn mx e rv Hr h
  · rw [own_pk, if_neg e] at h; exact go_mg0_f K hw g0 g1 a0 a1 a2 a3 a4 x y lx ly mn mx e rv Hr h
theorem go_mg1_t (K : Ctx) (hw : ∀ d ∈ tables_1, d.before K.2.2.1 K.2.1 = true) (g0 g1 : Obj) (a0 a1 a2 a3 a4 x y lx ly mn mx : Int32) (e : a1 = mx) (rv : Option Value) (Hr : Option Hp) (h : Go K m9 1 20 51 [.val (.ref 2), .val (.int x), .val (.int y), .val (.int lx), .val (.int ly), .val (.int mn), .val (.int mx)] [] [g0, g1, .inr (.int, [.int a0, .int mn, .int a2, .int a3, .int a4])] (rv, Hr, 0, 0)) : Go K m9 1 20 38 [.val (.ref 2), .val (.int x), .val (.int y), .val (.int lx), .val (.int ly), .val (.int mn), .val (.int mx)] [] [g0, g1, .inr (.int, [.int a0, .int a1, .int a2, .int a3, .int a4])] (rv, Hr, 0, 0) := by
  refine Go.aloadN d9_38 rfl rfl ?_
  refine Go.iconst d9_39 (v := 1) rfl ?_
  refine Go.iaload d9_40 rfl (by decide) rfl ?_
  refine Go.iload d9_41 rfl ?_
  refine Go.icmpF d9_43 (XT.ii_ne_f e) ?_
  refine Go.aloadN d9_46 rfl rfl ?_
  refine Go.iconst d9_47 (v := 1) rfl ?_
  refine Go.iload d9_48 rfl ?_
  refine Go.iastore d9_50 rfl (by decide) (Nat.le_of_ble_eq_true rfl) (H1 := [g0, g1, .inr (.int, [.int a0, .int mn, .int a2, .int a3, .int a4])]) rfl ?_
  exact h
theorem go_mg1_f (K : Ctx) (hw : ∀ d ∈ tables_1, d.before K.2.2.1 K.2.1 = true) (g0 g1 : Obj) (a0 a1 a2 a3 a4 x y lx ly mn mx : Int32) (e : ¬ a1 = mx) (rv : Option Value) (Hr : Option Hp) (h : Go K m9 1 20 51 [.val (.ref 2), .val (.int x), .val (.int y), .val (.int lx), .val (.int ly), .val (.int mn), .val (.int mx)] [] [g0, g1, .inr (.int, [.int a0, .int a1, .int a2, .int a3, .int a4])] (rv, Hr, 0, 0)) : Go K m9 1 20 38 [.val (.ref 2), .val (.int x), .val (.int y), .val (.int lx), .val (.int ly), .val (.int mn), .val (.int mx)] [] [g0, g1, .inr (.int, [.int a0, .int a1, .int a2, .int a3, .int a4])] (rv, Hr, 0, 0) := by
  refine Go.aloadN d9_38 rfl rfl ?_
  refine Go.iconst d9_39 (v := 1) rfl ?_
  refine Go.iaload d9_40 rfl (by decide) rfl ?_
  refine Go.iload d9_41 rfl ?_
  refine Go.icmpT d9_43 j9_43 (XT.ii_ne_t e) ?_
  exact h
theorem go_mg1 (K : Ctx) (hw : ∀ d ∈ tables_1, d.before K.2.2.1 K.2.1 = true) (g0 g1 : Obj) (a0 a1 a2 a3 a4 x y lx ly mn mx : Int32) (rv : Option Value) (Hr : Option Hp) (h : Go K m9 1 20 51 [.val (.ref 2), .val (.int x), .val (.int y), .val (.int lx), .val (.int ly), .val (.int mn), .val (.int mx)] [] [g0, g1, .inr (.int, [.int a0, .int (own_pk a1 mx mn), .int a2, .int a3, .int a4])] (rv, Hr, 0, 0)) : Go K m9 1 20 38 [.val (.ref 2), .val (.int x), .val (.int y), .val (.int lx), .val (.int ly), .val (.int mn), .val (.int mx)] [] [g0, g1, .inr (.int, [.int a0, .int a1, .int a2, .int a3, .int a4])] (rv, Hr, 0, 0) := by
  by_cases e : a1 = mx
  · rw [own_pk, if_pos e] at h; exact go_mg1_t K hw g0 g1 a0 a1 a2 a3 a4 x y lx ly mn mx e rv Hr h
  · rw [own_pk, if_neg e] at h; exact go_mg1_f K hw g0 g1 a0 a1 a2 a3 a4 x y lx ly mn mx e rv Hr h
theorem go_mg2_t (K : Ctx) (hw : ∀ d ∈ tables_1, d.before K.2.2.1 K.2.1 = true) (g0 g1 : Obj) (a0 a1 a2 a3 a4 x y lx ly mn mx : Int32) (e : a2 = mx) (rv : Option Value) (Hr : Option Hp) (h : Go K m9 1 20 64 [.val (.ref 2), .val (.int x), .val (.int y), .val (.int lx), .val (.int ly), .val (.int mn), .val (.int mx)] [] [g0, g1, .inr (.int, [.int a0, .int a1, .int mn, .int a3, .int a4])] (rv, Hr, 0, 0)) : Go K m9 1 20 51 [.val (.ref 2), .val (.int x), .val (.int y), .val (.int lx), .val (.int ly), .val (.int mn), .val (.int mx)] [] [g0, g1, .inr (.int, [.int a0, .int a1, .int a2, .int a3, .int a4])] (rv, Hr, 0, 0) := by
  refine Go.aloadN d9_51 rfl rfl ?_
  refine Go.iconst d9_52 (v := 2) rfl ?_
  refine Go.iaload d9_53 rfl (by decide) rfl ?_
  refine Go.iload d9_54 rfl ?_
  refine Go.icmpF d9_56 (XT.ii_ne_f e) ?_
  refine Go.aloadN d9_59 rfl rfl ?_
  refine Go.iconst d9_60 (v := 2) rfl ?_
  refine Go.iload d9_61 rfl ?_
  refine Go.iastore d9_63 rfl (by decide) (Nat.le_of_ble_eq_true rfl) (H1 := [g0, g1, .inr (.int, [.int a0, .int a1, .int mn, .int a3, .int a4])]) rfl ?_
  exact h
theorem go_mg2_f (K : Ctx) (hw : ∀ d ∈ tables_1, d.before K.2.2.1 K.2.1 = true) (g0 g1 : Obj) (a0 a1 a2 a3 a4 x y lx ly mn mx : Int32) (e : ¬ a2 = mx) (rv : Option Value) (Hr : Option Hp) (h : Go K m9 1 20 64 [.val (.ref 2), .val (.int x), .val (.int y), .val (.int lx), .val (.int ly), .val (.int mn), .val (.int mx)] [] [g0, g1, .inr (.int, [.int a0, .int a1, .int a2, .int a3, .int a4])] (rv, Hr, 0, 0)) : Go K m9 1 20 51 [.val (.ref 2), .val (.int x), .val (.int y), .val (.int lx), .val (.int ly), .val (.int mn), .val (.int mx)] [] [g0, g1, .inr (.int, [.int a0, .int a1, .int a2, .int a3, .int a4])] (rv, Hr, 0, 0) := by
  refine Go.aloadN d9_51 rfl rfl ?_
  refine Go.iconst d9_52 (v := 2) rfl ?_
  refine Go.iaload d9_53 rfl (by decide) rfl ?_
  refine Go.iload d9_54 rfl ?_
  refine Go.icmpT d9_56 j9_56 (XT.ii_ne_t e) ?_
  exact h
theorem go_mg2 (K : Ctx) (hw : ∀ d ∈ tables_1, d.before K.2.2.1 K.2.1 = true) (g0 g1 : Obj) (a0 a1 a2 a3 a4 x y lx ly mn mx : Int32) (rv : Option Value) (Hr : Option Hp) (h : Go K m9 1 20 64 [.val (.ref 2), .val (.int x), .val (.int y), .val (.int lx), .val (.int ly), .val (.int mn), .val (.int mx)] [] [g0, g1, .inr (.int, [.int a0, .int a1, .int (own_pk a2 mx mn), .int a3, .int a4])] (rv, Hr, 0, 0)) : Go K m9 1 20 51 [.val (.ref 2), .val (.int x), .val (.int y), .val (.int lx), .val (.int ly), .val (.int mn), .val (.int mx)] [] [g0, g1, .inr (.int, [.int a0, .int a1, .int a2, .int a3, .int a4])] (rv, Hr, 0, 0) := by
  by_cases e : a2 = mx
  · rw [own_pk, if_pos e] at h; exact go_mg2_t K hw g0 g1 a0 a1 a2 a3 a4 x y lx ly mn mx e rv Hr h
  · rw [own_pk, if_neg e] at h; exact go_mg2_f K hw g0 g1 a0 a1 a2 a3 a4 x y lx ly mn mx e rv Hr h
theorem go_mg3_t (K : Ctx) (hw : ∀ d ∈ tables_1, d.before K.2.2.1 K.2.1 = true) (g0 g1 : Obj) (a0 a1 a2 a3 a4 x y lx ly mn mx : Int32) (e : a3 = mx) (rv : Option Value) (Hr : Option Hp) (h : Go K m9 1 20 77 [.val (.ref 2), .val (.int x), .val (.int y), .val (.int lx), .val (.int ly), .val (.int mn), .val (.int mx)] [] [g0, g1, .inr (.int, [.int a0, .int a1, .int a2, .int mn, .int a4])] (rv, Hr, 0, 0)) : Go K m9 1 20 64 [.val (.ref 2), .val (.int x), .val (.int y), .val (.int lx), .val (.int ly), .val (.int mn), .val (.int mx)] [] [g0, g1, .inr (.int, [.int a0, .int a1, .int a2, .int a3, .int a4])] (rv, Hr, 0, 0) := by
  refine Go.aloadN d9_64 rfl rfl ?_
  refine Go.iconst d9_65 (v := 3) rfl ?_
  refine Go.iaload d9_66 rfl (by decide) rfl ?_
  refine Go.iload d9_67 rfl ?_
  refine Go.icmpF d9_69 (XT.ii_ne_f e) ?_
  refine Go.aloadN d9_72 rfl rfl ?_
  refine Go.iconst d9_73 (v := 3) rfl ?_
  refine Go.iload d9_74 rfl ?_
  refine Go.iastore d9_76 rfl (by decide) (Nat.le_of_ble_eq_true rfl) (H1 := [g0, g1, .inr (.int, [.int a0, .int a1, .int a2, .int mn, .int a4])]) rfl ?_
  exact h
theorem go_mg3_f (K : Ctx) (hw : ∀ d ∈ tables_1, d.before K.2.2.1 K.2.1 = true) (g0 g1 : Obj) (a0 a1 a2 a3 a4 x y lx ly mn mx : Int32) (e : ¬ a3 = mx) (rv : Option Value) (Hr : Option Hp) (h : Go K m9 1 20 77 [.val (.ref 2), .val (.int x), .val (.int y), .val (.int lx), .val (.int ly), .val (.int mn), .val (.int mx)] [] [g0, g1, .inr (.int, [.int a0, .int a1, .int a2, .int a3, .int a4])] (rv, Hr, 0, 0)) : Go K m9 1 20 64 [.val (.ref 2), .val (.int x), .val (.int y), .val (.int lx), .val (.int ly), .val (.int mn), .val (.int mx)] [] [g0, g1, .inr (.int, [.int a0, .int a1, .int a2, .int a3, .int a4])] (rv, Hr, 0, 0) := by
  refine Go.aloadN d9_64 rfl rfl ?_
  refine Go.iconst d9_65 (v := 3) rfl ?_
  refine Go.iaload d9_66 rfl (by decide) rfl ?_
  refine Go.iload d9_67 rfl ?_
  refine Go.icmpT d9_69 j9_69 (XT.ii_ne_t e) ?_
  exact h
theorem go_mg3 (K : Ctx) (hw : ∀ d ∈ tables_1, d.before K.2.2.1 K.2.1 = true) (g0 g1 : Obj) (a0 a1 a2 a3 a4 x y lx ly mn mx : Int32) (rv : Option Value) (Hr : Option Hp) (h : Go K m9 1 20 77 [.val (.ref 2), .val (.int x), .val (.int y), .val (.int lx), .val (.int ly), .val (.int mn), .val (.int mx)] [] [g0, g1, .inr (.int, [.int a0, .int a1, .int a2, .int (own_pk a3 mx mn), .int a4])] (rv, Hr, 0, 0)) : Go K m9 1 20 64 [.val (.ref 2), .val (.int x), .val (.int y), .val (.int lx), .val (.int ly), .val (.int mn), .val (.int mx)] [] [g0, g1, .inr (.int, [.int a0, .int a1, .int a2, .int a3, .int a4])] (rv, Hr, 0, 0) := by
  by_cases e : a3 = mx
  · rw [own_pk, if_pos e] at h; exact go_mg3_t K hw g0 g1 a0 a1 a2 a3 a4 x y lx ly mn mx e rv Hr h
  · rw [own_pk, if_neg e] at h; exact go_mg3_f K hw g0 g1 a0 a1 a2 a3 a4 x y lx ly mn mx e rv Hr h
theorem go_mg4_t (K : Ctx) (hw : ∀ d ∈ tables_1, d.before K.2.2.1 K.2.1 = true) (g0 g1 : Obj) (a0 a1 a2 a3 a4 x y lx ly mn mx : Int32) (e : a4 = mx) (rv : Option Value) (Hr : Option Hp) (h : Go K m9 1 20 90 [.val (.ref 2), .val (.int x), .val (.int y), .val (.int lx), .val (.int ly), .val (.int mn), .val (.int mx)] [] [g0, g1, .inr (.int, [.int a0, .int a1, .int a2, .int a3, .int mn])] (rv, Hr, 0, 0)) : Go K m9 1 20 77 [.val (.ref 2), .val (.int x), .val (.int y), .val (.int lx), .val (.int ly), .val (.int mn), .val (.int mx)] [] [g0, g1, .inr (.int, [.int a0, .int a1, .int a2, .int a3, .int a4])] (rv, Hr, 0, 0) := by
  refine Go.aloadN d9_77 rfl rfl ?_
  refine Go.iconst d9_78 (v := 4) rfl ?_
  refine Go.iaload d9_79 rfl (by decide) rfl ?_
  refine Go.iload d9_80 rfl ?_
  refine Go.icmpF d9_82 (XT.ii_ne_f e) ?_
  refine Go.aloadN d9_85 rfl rfl ?_
  refine Go.iconst d9_86 (v := 4) rfl ?_
  refine Go.iload d9_87 rfl ?_
  refine Go.iastore d9_89 rfl (by decide) (Nat.le_of_ble_eq_true rfl) (H1 := [g0, g1, .inr (.int, [.int a0, .int a1, .int a2, .int a3, .int mn])]) rfl ?_
  exact h
theorem go_mg4_f (K : Ctx) (hw : ∀ d ∈ tables_1, d.before K.2.2.1 K.2.1 = true) (g0 g1 : Obj) (a0 a1 a2 a3 a4 x y lx ly mn mx : Int32) (e : ¬ a4 = mx) (rv : Option Value) (Hr : Option Hp) (h : Go K m9 1 20 90 [.val (.ref 2), .val (.int x), .val (.int y), .val (.int lx), .val (.int ly), .val (.int mn), .val (.int mx)] [] [g0, g1, .inr (.int, [.int a0, .int a1, .int a2, .int a3, .int a4])] (rv, Hr, 0, 0)) : Go K m9 1 20 77 [.val (.ref 2), .val (.int x), .val (.int y), .val (.int lx), .val (.int ly), .val (.int mn), .val (.int mx)] [] [g0, g1, .inr (.int, [.int a0, .int a1, .int a2, .int a3, .int a4])] (rv, Hr, 0, 0) := by
  refine Go.aloadN d9_77 rfl rfl ?_
  refine Go.iconst d9_78 (v := 4) rfl ?_
  refine Go.iaload d9_79 rfl (by decide) rfl ?_
  refine Go.iload d9_80 rfl ?_
  refine Go.icmpT d9_82 j9_82 (XT.ii_ne_t e) ?_
  exact h
theorem go_mg4 (K : Ctx) (hw : ∀ d ∈ tables_1, d.before K.2.2.1 K.2.1 = true) (g0 g1 : Obj) (a0 a1 a2 a3 a4 x y lx ly mn mx : Int32) (rv : Option Value) (Hr : Option Hp) (h : Go K m9 1 20 90 [.val (.ref 2), .val (.int x), .val (.int y), .val (.int lx), .val (.int ly), .val (.int mn), .val (.int mx)] [] [g0, g1, .inr (.int, [.int a0, .int a1, .int a2, .int a3, .int (own_pk a4 mx mn)])] (rv, Hr, 0, 0)) : Go K m9 1 20 77 [.val (.ref 2), .val (.int x), .val (.int y), .val (.int lx), .val (.int ly), .val (.int mn), .val (.int mx)] [] [g0, g1, .inr (.int, [.int a0, .int a1, .int a2, .int a3, .int a4])] (rv, Hr, 0, 0) := by
  by_cases e : a4 = mx
  · rw [own_pk, if_pos e] at h; exact go_mg4_t K hw g0 g1 a0 a1 a2 a3 a4 x y lx ly mn mx e rv Hr h
  · rw [own_pk, if_neg e] at h; exact go_mg4_f K hw g0 g1 a0 a1 a2 a3 a4 x y lx ly mn mx e rv Hr h
theorem go_merge (K : Ctx) (hw : ∀ d ∈ tables_1, d.before K.2.2.1 K.2.1 = true) (g0 g1 : Obj) (a0 a1 a2 a3 a4 x y lx ly : Int32) (hx0 : ¬ x < 0) (hxv : ([.int a0, .int a1, .int a2, .int a3, .int a4] : List Value)[x.toNatClampNeg]? = some (.int lx)) (hy0 : ¬ y < 0) (hyv : ([.int a0, .int a1, .int a2, .int a3, .int a4] : List Value)[y.toNatClampNeg]? = some (.int ly)) : Go K m9 1 20 0 [.val (.ref 2), .val (.int x), .val (.int y), .unset, .unset, .unset, .unset] [] [g0, g1, .inr (.int, [.int a0, .int a1, .int a2, .int a3, .int a4])] (none, some [g0, g1, .inr (.int, [.int (own_pk a0 (own_max lx ly) (own_min lx ly)), .int (own_pk a1 (own_max lx ly) (own_min lx ly)), .int (own_pk a2 (own_max lx ly) (own_min lx ly)), .int (own_pk a3 (own_max lx ly) (own_min lx ly)), .int (own_pk a4 (own_max lx ly) (own_min lx ly))])], 0, 0) := by
  refine Go.aloadN d9_0 rfl rfl ?_
  refine Go.iloadN d9_1 rfl ?_
  refine Go.iaload d9_2 rfl hx0 hxv ?_
  refine Go.istoreN d9_3 (ls' := [.val (.ref 2), .val (.int x), .val (.int y), .val (.int lx), .unset, .unset, .unset]) rfl ?_
  refine Go.aloadN d9_4 rfl rfl ?_
  refine Go.iloadN d9_5 rfl ?_
  refine Go.iaload d9_6 rfl hy0 hyv ?_
  refine Go.istore d9_7 (ls' := [.val (.ref 2), .val (.int x), .val (.int y), .val (.int lx), .val (.int ly), .unset, .unset]) rfl ?_
  refine Go.iloadN d9_9 rfl ?_
  refine Go.iload d9_10 rfl ?_
  refine Go.callS (M' := m8) d9_12 (hw _ (List.mem_of_getElem? (i := 41) rfl)) (hw _ (List.mem_of_getElem? (i := 36) rfl)) (hw _ (List.mem_of_getElem? (i := 33) rfl)) (hw _ (List.mem_of_getElem? (i := 37) rfl)) mi8 (as := [.int lx, .int ly]) rfl rfl (st := []) rfl (ls1 := [.val (.int lx), .val (.int ly)]) rfl (W := 0) rfl (by decide) (by decide) (go_own_min K hw lx ly _) 0 0 (by decide) (by decide) ?_
  show Go _ _ _ _ 15 [.val (.ref 2), .val (.int x), .val (.int y), .val (.int lx), .val (.int ly), .unset, .unset] [.int (own_min lx ly)] [g0, g1, .inr (.int, [.int a0, .int a1, .int a2, .int a3, .int a4])] _
  refine Go.istore d9_15 (ls' := [.val (.ref 2), .val (.int x), .val (.int y), .val (.int lx), .val (.int ly), .val (.int (own_min lx ly)), .unset]) rfl ?_
  refine Go.iloadN d9_17 rfl ?_
  refine Go.iload d9_18 rfl ?_
  refine Go.callS (M' := m7) d9_20 (hw _ (List.mem_of_getElem? (i := 42) rfl)) (hw _ (List.mem_of_getElem? (i := 32) rfl)) (hw _ (List.mem_of_getElem? (i := 33) rfl)) (hw _ (List.mem_of_getElem? (i := 34) rfl)) mi7 (as := [.int lx, .int ly]) rfl rfl (st := []) rfl (ls1 := [.val (.int lx), .val (.int ly)]) rfl (W := 0) rfl (by decide) (by decide) (go_own_max K hw lx ly _) 0 0 (by decide) (by decide) ?_
  show Go _ _ _ _ 23 [.val (.ref 2), .val (.int x), .val (.int y), .val (.int lx), .val (.int ly), .val (.int (own_min lx ly)), .unset] [.int (own_max lx ly)] [g0, g1, .inr (.int, [.int a0, .int a1, .int a2, .int a3, .int a4])] _
  refine Go.istore d9_23 (ls' := [.val (.ref 2), .val (.int x), .val (.int y), .val (.int lx), .val (.int ly), .val (.int (own_min lx ly)), .val (.int (own_max lx ly))]) rfl ?_
  refine go_mg0 K hw _ _ _ _ _ _ _ _ _ _ _ _ _ _ _ ?_
  refine go_mg1 K hw _ _ _ _ _ _ _ _ _ _ _ _ _ _ _ ?_
  refine go_mg2 K hw _ _ _ _ _ _ _ _ _ _ _ _ _ _ _ ?_
  refine go_mg3 K hw _ _ _ _ _ _ _ _ _ _ _ _ _ _ _ ?_
  refine go_mg4 K hw _ _ _ _ _ _ _ _ _ _ _ _ _ _ _ ?_
  exact Go.ret d9_90 rfl rfl (HOk.eq rfl)
theorem own_pkn {a b m : Nat} (ha : a ≤ 1000) (hb : b ≤ 1000) : own_pk (Int32.ofNat a) (Int32.ofNat b) (Int32.ofNat m) = Int32.ofNat (if a = b then m else a) := by
  rw [own_pk]
  by_cases e : a = b
  · rw [if_pos ((own_inj ha hb).mpr e), if_pos e]
  · rw [if_neg (fun z => e ((own_inj ha hb).mp z)), if_neg e]
theorem go_mergeN (K : Ctx) (hw : ∀ d ∈ tables_1, d.before K.2.2.1 K.2.1 = true) (g0 g1 : Obj) (lab : List Nat) (a b : Nat) (hl : lab.length = 5) (hs : ∀ z ∈ lab, z ≤ 1000) (ha : a < 5) (hb : b < 5) :
    Go K m9 1 20 0 [.val (.ref 2), .val (.int (Int32.ofNat a)), .val (.int (Int32.ofNat b)), .unset, .unset, .unset, .unset] [] [g0, g1, .inr (.int, own_lv lab)] (none, some [g0, g1, .inr (.int, own_lv (own_mg lab a b))], 0, 0) := by
  have va : lab[a]? = some lab[a] := List.getElem?_eq_getElem (by omega)
  have vb : lab[b]? = some lab[b] := List.getElem?_eq_getElem (by omega)
  have ma : lab[a] ≤ 1000 := hs _ (List.mem_of_getElem? va)
  have mb : lab[b] ≤ 1000 := hs _ (List.mem_of_getElem? vb)
  generalize lab[a] = u at va ma
  generalize lab[b] = v at vb mb
  have ga : (own_lv lab)[(Int32.ofNat a).toNatClampNeg]? = some (.int (Int32.ofNat u)) := by rw [own_clamp (by omega)]; exact own_lget va
  have gb : (own_lv lab)[(Int32.ofNat b).toNatClampNeg]? = some (.int (Int32.ofNat v)) := by rw [own_clamp (by omega)]; exact own_lget vb
  rw [own_mg, va, vb, Option.getD_some, Option.getD_some]
  match lab, hl with
  | [c0, c1, c2, c3, c4], _ =>
    have s0 : c0 ≤ 1000 := hs c0 (by simp)
    have s1 : c1 ≤ 1000 := hs c1 (by simp)
    have s2 : c2 ≤ 1000 := hs c2 (by simp)
    have s3 : c3 ≤ 1000 := hs c3 (by simp)
    have s4 : c4 ≤ 1000 := hs c4 (by simp)
    have g := go_merge K hw g0 g1 (Int32.ofNat c0) (Int32.ofNat c1) (Int32.ofNat c2) (Int32.ofNat c3) (Int32.ofNat c4) (Int32.ofNat a) (Int32.ofNat b) (Int32.ofNat u) (Int32.ofNat v) (own_nneg (by omega)) ga (own_nneg (by omega)) gb
    rw [own_maxn ma mb, own_minn ma mb, own_pkn s0 (by omega), own_pkn s1 (by omega), own_pkn s2 (by omega), own_pkn s3 (by omega), own_pkn s4 (by omega)] at g
    exact g
theorem own_Rle {l : List Nat} (h : own_okb l = true) : ∀ z ∈ own_R l, z ≤ 1000 := by
  intro z hz
  simp only [own_R, List.mem_cons, List.not_mem_nil, or_false] at hz
  have f : ∀ a, a < 5 → (own_sm a a l).1 < 5 := fun a ha => (own_facts (b := 0) h ha (by omega)).2.1
  have := f 0 (by omega); have := f 1 (by omega); have := f 2 (by omega); have := f 3 (by omega); have := f 4 (by omega)
  rcases hz with rfl | rfl | rfl | rfl | rfl <;> omega
theorem own_mod5 {x : Int32} (h : 0 ≤ x.toInt) : ∃ a, a < 5 ∧ x % 5 = Int32.ofNat a := by
  have hr := Jvm.Kit.i32_rem_nonneg (x := x) (y := 5) h
  have e : (5 : Int32).toInt = 5 := by decide
  rw [e] at hr
  refine ⟨(x.toInt % 5).toNat, by omega, Int32.toInt_inj.mp ?_⟩
  rw [own_i32 (by omega), hr]; omega
theorem own_firstN (x : Int32) : ∃ a, a < 5 ∧ own_first x = Int32.ofNat a := by
  have h := Jvm.Kit.i32_mask x 65535 (k := 16) (by decide) (by decide)
  rw [own_first]
  exact own_mod5 (by omega)
theorem own_secondN (x : Int32) : ∃ a, a < 5 ∧ own_second x = Int32.ofNat a := by
  have h := Jvm.Kit.i32_mask (XT.ushr x 16) 32767 (k := 15) (by decide) (by decide)
  rw [own_second]
  exact own_mod5 (by omega)
theorem own_qN (x : Int32) : ∃ a, a < 5 ∧ (x &&& 2147483647) % 5 = Int32.ofNat a := by
  have h := Jvm.Kit.i32_mask x 2147483647 (k := 31) (by decide) (by decide)
  exact own_mod5 (by omega)
theorem own_ldv {l : List Nat} {q n : Nat} (hq : q < 5) (h : l[q]? = some n) : (own_lv l)[(Int32.ofNat q).toNatClampNeg]? = some (.int (Int32.ofNat n)) := by rw [own_clamp (by omega)]; exact own_lget h
theorem own_ldv0 {l : List Nat} {q n : Nat} (h : l[q]? = some n) : (own_lv l)[q]? = some (.int (Int32.ofNat n)) := own_lget h
theorem go_law (K : Ctx) (hw : ∀ d ∈ tables_1, d.before K.2.2.1 K.2.1 = true) (x0 : Int32) (x1 : Int32) (x2 : Int32) (x3 : Int32) (x4 : Int32) : Go K m0 5 128 0 [.val (.int x0), .val (.int x1), .val (.int x2), .val (.int x3), .val (.int x4), .unset, .unset, .unset, .unset] [] [] (some (.int 1), none, 16, 128) := by
  obtain ⟨a0, ha0, e0⟩ := own_firstN x0
  obtain ⟨b0, hb0, f0⟩ := own_secondN x0
  obtain ⟨a1, ha1, e1⟩ := own_firstN x1
  obtain ⟨b1, hb1, f1⟩ := own_secondN x1
  obtain ⟨a2, ha2, e2⟩ := own_firstN x2
  obtain ⟨b2, hb2, f2⟩ := own_secondN x2
  obtain ⟨a3, ha3, e3⟩ := own_firstN x3
  obtain ⟨b3, hb3, f3⟩ := own_secondN x3
  obtain ⟨q, hq, eq⟩ := own_qN x4
  have k0 : own_okb [0, 1, 2, 3, 4] = true := by decide
  refine Go.new [("links", "[I", .null)] d0_0 (hw _ (List.mem_of_getElem? (i := 0) rfl)) (hw _ (List.mem_of_getElem? (i := 1) rfl)) (hw _ (List.mem_of_getElem? (i := 2) rfl)) (by decide) (fun f hf => ?_) (i := 0) rfl 15 127 (by decide) (by decide) ?_
  · simp only [List.mem_cons, List.not_mem_nil, or_false] at hf
    rcases hf with rfl
    · exact ⟨Or.inr (hw _ (List.mem_of_getElem? (i := 11) rfl)), _, (by decide : parseFieldDescriptor "[I" = some (.array .int)), rfl⟩
  show Go _ _ _ _ 3 [.val (.int x0), .val (.int x1), .val (.int x2), .val (.int x3), .val (.int x4), .unset, .unset, .unset, .unset] [.ref 0] [.inl ("com/example/subsume/subsume/DisjointSets", [("links", "[I", .null)])] _
  refine Go.dup d0_3 rfl ?_
  refine Go.iconst d0_4 (v := 5) rfl ?_
  refine Go.callI (M' := m1) (i := 0) d0_5 rfl rfl (hw _ (List.mem_of_getElem? (i := 3) rfl)) (hw _ (List.mem_of_getElem? (i := 4) rfl)) (hw _ (List.mem_of_getElem? (i := 2) rfl)) (hw _ (List.mem_of_getElem? (i := 5) rfl)) mi1 (as := [.int 5]) rfl rfl (st := [.ref 0]) rfl (ls1 := [.val (.ref 0), .val (.int 5), .unset]) rfl (W := 1) rfl (by decide) (by decide) (go_ctor K hw) 14 122 (by decide) (by decide) ?_
  show Go _ _ _ _ 8 [.val (.int x0), .val (.int x1), .val (.int x2), .val (.int x3), .val (.int x4), .unset, .unset, .unset, .unset] [.ref 0] [.inl ("com/example/subsume/subsume/DisjointSets", [("links", "[I", .ref 1)]), .inr (.int, [.int 0, .int 1, .int 2, .int 3, .int 4])] _
  refine Go.astore d0_8 (ls' := [.val (.int x0), .val (.int x1), .val (.int x2), .val (.int x3), .val (.int x4), .val (.ref 0), .unset, .unset, .unset]) rfl rfl ?_
  refine Go.iconst d0_10 (v := 5) rfl ?_
  refine Go.newarray 5 d0_11 (hw _ (List.mem_of_getElem? (i := 9) rfl)) (t := .int) rfl (by decide) (by decide) (by decide) (vs := [.int 0, .int 0, .int 0, .int 0, .int 0]) rfl (i := 2) rfl 13 117 (by decide) (by decide) ?_
  show Go _ _ _ _ 13 [.val (.int x0), .val (.int x1), .val (.int x2), .val (.int x3), .val (.int x4), .val (.ref 0), .unset, .unset, .unset] [.ref 2] [.inl ("com/example/subsume/subsume/DisjointSets", [("links", "[I", .ref 1)]), .inr (.int, [.int 0, .int 1, .int 2, .int 3, .int 4]), .inr (.int, [.int 0, .int 0, .int 0, .int 0, .int 0])] _
  refine Go.dup d0_13 rfl ?_
  refine Go.iconst d0_14 (v := 0) rfl ?_
  refine Go.iconst d0_15 (v := 0) rfl ?_
  refine Go.iastore d0_16 rfl (by decide) (Nat.le_of_ble_eq_true rfl) (H1 := [.inl ("com/example/subsume/subsume/DisjointSets", [("links", "[I", .ref 1)]), .inr (.int, [.int 0, .int 1, .int 2, .int 3, .int 4]), .inr (.int, [.int 0, .int 0, .int 0, .int 0, .int 0])]) rfl ?_
  refine Go.dup d0_17 rfl ?_
  refine Go.iconst d0_18 (v := 1) rfl ?_
  refine Go.iconst d0_19 (v := 1) rfl ?_
  refine Go.iastore d0_20 rfl (by decide) (Nat.le_of_ble_eq_true rfl) (H1 := [.inl ("com/example/subsume/subsume/DisjointSets", [("links", "[I", .ref 1)]), .inr (.int, [.int 0, .int 1, .int 2, .int 3, .int 4]), .inr (.int, [.int 0, .int 1, .int 0, .int 0, .int 0])]) rfl ?_
  refine Go.dup d0_21 rfl ?_
  refine Go.iconst d0_22 (v := 2) rfl ?_
  refine Go.iconst d0_23 (v := 2) rfl ?_
  refine Go.iastore d0_24 rfl (by decide) (Nat.le_of_ble_eq_true rfl) (H1 := [.inl ("com/example/subsume/subsume/DisjointSets", [("links", "[I", .ref 1)]), .inr (.int, [.int 0, .int 1, .int 2, .int 3, .int 4]), .inr (.int, [.int 0, .int 1, .int 2, .int 0, .int 0])]) rfl ?_
  refine Go.dup d0_25 rfl ?_
  refine Go.iconst d0_26 (v := 3) rfl ?_
  refine Go.iconst d0_27 (v := 3) rfl ?_
  refine Go.iastore d0_28 rfl (by decide) (Nat.le_of_ble_eq_true rfl) (H1 := [.inl ("com/example/subsume/subsume/DisjointSets", [("links", "[I", .ref 1)]), .inr (.int, [.int 0, .int 1, .int 2, .int 3, .int 4]), .inr (.int, [.int 0, .int 1, .int 2, .int 3, .int 0])]) rfl ?_
  refine Go.dup d0_29 rfl ?_
  refine Go.iconst d0_30 (v := 4) rfl ?_
  refine Go.iconst d0_31 (v := 4) rfl ?_
  refine Go.iastore d0_32 rfl (by decide) (Nat.le_of_ble_eq_true rfl) (H1 := [.inl ("com/example/subsume/subsume/DisjointSets", [("links", "[I", .ref 1)]), .inr (.int, [.int 0, .int 1, .int 2, .int 3, .int 4]), .inr (.int, [.int 0, .int 1, .int 2, .int 3, .int 4])]) rfl ?_
  refine Go.astore d0_33 (ls' := [.val (.int x0), .val (.int x1), .val (.int x2), .val (.int x3), .val (.int x4), .val (.ref 0), .val (.ref 2), .unset, .unset]) rfl rfl ?_
  refine Go.iload d0_35 rfl ?_
  refine Go.ldc d0_37 (hw _ (List.mem_of_getElem? (i := 12) rfl)) ?_
  refine Go.iand d0_39 ?_
  refine Go.iconst d0_40 (v := 5) rfl ?_
  refine Go.irem d0_41 (by decide) ?_
  refine Go.istore d0_42 (ls' := [.val (.int x0), .val (.int x1), .val (.int x2), .val (.int x3), .val (.int x4), .val (.ref 0), .val (.ref 2), .val (.int ((x4 &&& 2147483647) % 5)), .unset]) rfl ?_
  rw [eq]
  show Go _ _ _ _ 44 [.val (.int x0), .val (.int x1), .val (.int x2), .val (.int x3), .val (.int x4), .val (.ref 0), .val (.ref 2), .val (.int (Int32.ofNat q)), .unset] [] [.inl ("com/example/subsume/subsume/DisjointSets", [("links", "[I", .ref 1)]), .inr (.int, (own_lv [0, 1, 2, 3, 4])), .inr (.int, (own_lv (own_R [0, 1, 2, 3, 4])))] _
  refine Go.aload d0_44 rfl rfl ?_
  refine Go.iloadN d0_46 rfl ?_
  have gc1 : Go K m3 0 0 0 [.val (.int x0)] [] [.inl ("com/example/subsume/subsume/DisjointSets", [("links", "[I", .ref 1)]), .inr (.int, (own_lv [0, 1, 2, 3, 4])), .inr (.int, (own_lv (own_R [0, 1, 2, 3, 4])))] (some (.int (Int32.ofNat a0)), some [.inl ("com/example/subsume/subsume/DisjointSets", [("links", "[I", .ref 1)]), .inr (.int, (own_lv [0, 1, 2, 3, 4])), .inr (.int, (own_lv (own_R [0, 1, 2, 3, 4])))], 0, 0) := by rw [← e0]; exact go_own_first K hw x0 _
  refine Go.callS (M' := m3) d0_47 (hw _ (List.mem_of_getElem? (i := 13) rfl)) (hw _ (List.mem_of_getElem? (i := 14) rfl)) (hw _ (List.mem_of_getElem? (i := 15) rfl)) (hw _ (List.mem_of_getElem? (i := 16) rfl)) mi3 (as := [.int x0]) rfl rfl (st := [.ref 0]) rfl (ls1 := [.val (.int x0)]) rfl (W := 1) rfl (by decide) (by decide) gc1 13 117 (by decide) (by decide) ?_
  show Go _ _ _ _ 50 [.val (.int x0), .val (.int x1), .val (.int x2), .val (.int x3), .val (.int x4), .val (.ref 0), .val (.ref 2), .val (.int (Int32.ofNat q)), .unset] [.int (Int32.ofNat a0), .ref 0] [.inl ("com/example/subsume/subsume/DisjointSets", [("links", "[I", .ref 1)]), .inr (.int, (own_lv [0, 1, 2, 3, 4])), .inr (.int, (own_lv (own_R [0, 1, 2, 3, 4])))] _
  refine Go.iloadN d0_50 rfl ?_
  have gc2 : Go K m4 0 0 0 [.val (.int x0)] [] [.inl ("com/example/subsume/subsume/DisjointSets", [("links", "[I", .ref 1)]), .inr (.int, (own_lv [0, 1, 2, 3, 4])), .inr (.int, (own_lv (own_R [0, 1, 2, 3, 4])))] (some (.int (Int32.ofNat b0)), some [.inl ("com/example/subsume/subsume/DisjointSets", [("links", "[I", .ref 1)]), .inr (.int, (own_lv [0, 1, 2, 3, 4])), .inr (.int, (own_lv (own_R [0, 1, 2, 3, 4])))], 0, 0) := by rw [← f0]; exact go_own_second K hw x0 _
  refine Go.callS (M' := m4) d0_51 (hw _ (List.mem_of_getElem? (i := 18) rfl)) (hw _ (List.mem_of_getElem? (i := 19) rfl)) (hw _ (List.mem_of_getElem? (i := 15) rfl)) (hw _ (List.mem_of_getElem? (i := 20) rfl)) mi4 (as := [.int x0]) rfl rfl (st := [.int (Int32.ofNat a0), .ref 0]) rfl (ls1 := [.val (.int x0)]) rfl (W := 2) rfl (by decide) (by decide) gc2 13 117 (by decide) (by decide) ?_
  show Go _ _ _ _ 54 [.val (.int x0), .val (.int x1), .val (.int x2), .val (.int x3), .val (.int x4), .val (.ref 0), .val (.ref 2), .val (.int (Int32.ofNat q)), .unset] [.int (Int32.ofNat b0), .int (Int32.ofNat a0), .ref 0] [.inl ("com/example/subsume/subsume/DisjointSets", [("links", "[I", .ref 1)]), .inr (.int, (own_lv [0, 1, 2, 3, 4])), .inr (.int, (own_lv (own_R [0, 1, 2, 3, 4])))] _
  have fa1 := own_facts k0 ha0 hb0
  obtain ⟨l1, el1⟩ : ∃ l, l = own_jn [0, 1, 2, 3, 4] a0 b0 := ⟨_, rfl⟩
  have k1 : own_okb l1 = true := by rw [el1]; exact fa1.2.2.2.1
  have r1 : own_R l1 = own_mg (own_R [0, 1, 2, 3, 4]) a0 b0 := by rw [el1]; exact fa1.2.2.2.2.1
  have gj1 : Go K m5 1 20 0 [.val (.ref 0), .val (.int (Int32.ofNat a0)), .val (.int (Int32.ofNat b0)), .unset, .unset] [] [.inl ("com/example/subsume/subsume/DisjointSets", [("links", "[I", .ref 1)]), .inr (.int, (own_lv [0, 1, 2, 3, 4])), .inr (.int, (own_lv (own_R [0, 1, 2, 3, 4])))] (none, some [.inl ("com/example/subsume/subsume/DisjointSets", [("links", "[I", .ref 1)]), .inr (.int, (own_lv l1)), .inr (.int, (own_lv (own_R [0, 1, 2, 3, 4])))], 0, 0) := by rw [el1]; exact go_join K hw [0, 1, 2, 3, 4] _ a0 b0 k0 ha0 hb0
  refine Go.callV (M' := m5) (i := 0) d0_54 rfl (hw _ (List.mem_of_getElem? (i := 21) rfl)) (hw _ (List.mem_of_getElem? (i := 23) rfl)) (hw _ (List.mem_of_getElem? (i := 2) rfl)) (hw _ (List.mem_of_getElem? (i := 22) rfl)) (hw _ (List.mem_of_getElem? (i := 24) rfl)) (hw _ (List.mem_of_getElem? (i := 25) rfl)) mi5 (as := [.int (Int32.ofNat a0), .int (Int32.ofNat b0)]) rfl rfl (st := []) rfl (ls1 := [.val (.ref 0), .val (.int (Int32.ofNat a0)), .val (.int (Int32.ofNat b0)), .unset, .unset]) rfl (W := 0) rfl (by decide) (by decide) gj1 13 117 (by decide) (by decide) ?_
  show Go _ _ _ _ 57 [.val (.int x0), .val (.int x1), .val (.int x2), .val (.int x3), .val (.int x4), .val (.ref 0), .val (.ref 2), .val (.int (Int32.ofNat q)), .unset] [] [.inl ("com/example/subsume/subsume/DisjointSets", [("links", "[I", .ref 1)]), .inr (.int, (own_lv l1)), .inr (.int, (own_lv (own_R [0, 1, 2, 3, 4])))] _
  refine Go.aload d0_57 rfl rfl ?_
  refine Go.iloadN d0_59 rfl ?_
  have gc3 : Go K m3 0 0 0 [.val (.int x0)] [] [.inl ("com/example/subsume/subsume/DisjointSets", [("links", "[I", .ref 1)]), .inr (.int, (own_lv l1)), .inr (.int, (own_lv (own_R [0, 1, 2, 3, 4])))] (some (.int (Int32.ofNat a0)), some [.inl ("com/example/subsume/subsume/DisjointSets", [("links", "[I", .ref 1)]), .inr (.int, (own_lv l1)), .inr (.int, (own_lv (own_R [0, 1, 2, 3, 4])))], 0, 0) := by rw [← e0]; exact go_own_first K hw x0 _
  refine Go.callS (M' := m3) d0_60 (hw _ (List.mem_of_getElem? (i := 13) rfl)) (hw _ (List.mem_of_getElem? (i := 14) rfl)) (hw _ (List.mem_of_getElem? (i := 15) rfl)) (hw _ (List.mem_of_getElem? (i := 16) rfl)) mi3 (as := [.int x0]) rfl rfl (st := [.ref 2]) rfl (ls1 := [.val (.int x0)]) rfl (W := 1) rfl (by decide) (by decide) gc3 13 117 (by decide) (by decide) ?_
  show Go _ _ _ _ 63 [.val (.int x0), .val (.int x1), .val (.int x2), .val (.int x3), .val (.int x4), .val (.ref 0), .val (.ref 2), .val (.int (Int32.ofNat q)), .unset] [.int (Int32.ofNat a0), .ref 2] [.inl ("com/example/subsume/subsume/DisjointSets", [("links", "[I", .ref 1)]), .inr (.int, (own_lv l1)), .inr (.int, (own_lv (own_R [0, 1, 2, 3, 4])))] _
  refine Go.iloadN d0_63 rfl ?_
  have gc4 : Go K m4 0 0 0 [.val (.int x0)] [] [.inl ("com/example/subsume/subsume/DisjointSets", [("links", "[I", .ref 1)]), .inr (.int, (own_lv l1)), .inr (.int, (own_lv (own_R [0, 1, 2, 3, 4])))] (some (.int (Int32.ofNat b0)), some [.inl ("com/example/subsume/subsume/DisjointSets", [("links", "[I", .ref 1)]), .inr (.int, (own_lv l1)), .inr (.int, (own_lv (own_R [0, 1, 2, 3, 4])))], 0, 0) := by rw [← f0]; exact go_own_second K hw x0 _
  refine Go.callS (M' := m4) d0_64 (hw _ (List.mem_of_getElem? (i := 18) rfl)) (hw _ (List.mem_of_getElem? (i := 19) rfl)) (hw _ (List.mem_of_getElem? (i := 15) rfl)) (hw _ (List.mem_of_getElem? (i := 20) rfl)) mi4 (as := [.int x0]) rfl rfl (st := [.int (Int32.ofNat a0), .ref 2]) rfl (ls1 := [.val (.int x0)]) rfl (W := 2) rfl (by decide) (by decide) gc4 13 117 (by decide) (by decide) ?_
  show Go _ _ _ _ 67 [.val (.int x0), .val (.int x1), .val (.int x2), .val (.int x3), .val (.int x4), .val (.ref 0), .val (.ref 2), .val (.int (Int32.ofNat q)), .unset] [.int (Int32.ofNat b0), .int (Int32.ofNat a0), .ref 2] [.inl ("com/example/subsume/subsume/DisjointSets", [("links", "[I", .ref 1)]), .inr (.int, (own_lv l1)), .inr (.int, (own_lv (own_R [0, 1, 2, 3, 4])))] _
  have gm1 : Go K m9 1 20 0 [.val (.ref 2), .val (.int (Int32.ofNat a0)), .val (.int (Int32.ofNat b0)), .unset, .unset, .unset, .unset] [] [.inl ("com/example/subsume/subsume/DisjointSets", [("links", "[I", .ref 1)]), .inr (.int, (own_lv l1)), .inr (.int, (own_lv (own_R [0, 1, 2, 3, 4])))] (none, some [.inl ("com/example/subsume/subsume/DisjointSets", [("links", "[I", .ref 1)]), .inr (.int, (own_lv l1)), .inr (.int, (own_lv (own_R l1)))], 0, 0) := by rw [r1]; exact go_mergeN K hw _ _ (own_R [0, 1, 2, 3, 4]) a0 b0 rfl (own_Rle k0) ha0 hb0
  refine Go.callS (M' := m9) d0_67 (hw _ (List.mem_of_getElem? (i := 38) rfl)) (hw _ (List.mem_of_getElem? (i := 39) rfl)) (hw _ (List.mem_of_getElem? (i := 15) rfl)) (hw _ (List.mem_of_getElem? (i := 40) rfl)) mi9 (as := [.ref 2, .int (Int32.ofNat a0), .int (Int32.ofNat b0)]) rfl rfl (st := []) rfl (ls1 := [.val (.ref 2), .val (.int (Int32.ofNat a0)), .val (.int (Int32.ofNat b0)), .unset, .unset, .unset, .unset]) rfl (W := 0) rfl (by decide) (by decide) gm1 13 117 (by decide) (by decide) ?_
  show Go _ _ _ _ 70 [.val (.int x0), .val (.int x1), .val (.int x2), .val (.int x3), .val (.int x4), .val (.ref 0), .val (.ref 2), .val (.int (Int32.ofNat q)), .unset] [] [.inl ("com/example/subsume/subsume/DisjointSets", [("links", "[I", .ref 1)]), .inr (.int, (own_lv l1)), .inr (.int, (own_lv (own_R l1)))] _
  refine Go.aload d0_70 rfl rfl ?_
  refine Go.iloadN d0_72 rfl ?_
  have gc5 : Go K m3 0 0 0 [.val (.int x1)] [] [.inl ("com/example/subsume/subsume/DisjointSets", [("links", "[I", .ref 1)]), .inr (.int, (own_lv l1)), .inr (.int, (own_lv (own_R l1)))] (some (.int (Int32.ofNat a1)), some [.inl ("com/example/subsume/subsume/DisjointSets", [("links", "[I", .ref 1)]), .inr (.int, (own_lv l1)), .inr (.int, (own_lv (own_R l1)))], 0, 0) := by rw [← e1]; exact go_own_first K hw x1 _
  refine Go.callS (M' := m3) d0_73 (hw _ (List.mem_of_getElem? (i := 13) rfl)) (hw _ (List.mem_of_getElem? (i := 14) rfl)) (hw _ (List.mem_of_getElem? (i := 15) rfl)) (hw _ (List.mem_of_getElem? (i := 16) rfl)) mi3 (as := [.int x1]) rfl rfl (st := [.ref 0]) rfl (ls1 := [.val (.int x1)]) rfl (W := 1) rfl (by decide) (by decide) gc5 13 117 (by decide) (by decide) ?_
  show Go _ _ _ _ 76 [.val (.int x0), .val (.int x1), .val (.int x2), .val (.int x3), .val (.int x4), .val (.ref 0), .val (.ref 2), .val (.int (Int32.ofNat q)), .unset] [.int (Int32.ofNat a1), .ref 0] [.inl ("com/example/subsume/subsume/DisjointSets", [("links", "[I", .ref 1)]), .inr (.int, (own_lv l1)), .inr (.int, (own_lv (own_R l1)))] _
  refine Go.iloadN d0_76 rfl ?_
  have gc6 : Go K m4 0 0 0 [.val (.int x1)] [] [.inl ("com/example/subsume/subsume/DisjointSets", [("links", "[I", .ref 1)]), .inr (.int, (own_lv l1)), .inr (.int, (own_lv (own_R l1)))] (some (.int (Int32.ofNat b1)), some [.inl ("com/example/subsume/subsume/DisjointSets", [("links", "[I", .ref 1)]), .inr (.int, (own_lv l1)), .inr (.int, (own_lv (own_R l1)))], 0, 0) := by rw [← f1]; exact go_own_second K hw x1 _
  refine Go.callS (M' := m4) d0_77 (hw _ (List.mem_of_getElem? (i := 18) rfl)) (hw _ (List.mem_of_getElem? (i := 19) rfl)) (hw _ (List.mem_of_getElem? (i := 15) rfl)) (hw _ (List.mem_of_getElem? (i := 20) rfl)) mi4 (as := [.int x1]) rfl rfl (st := [.int (Int32.ofNat a1), .ref 0]) rfl (ls1 := [.val (.int x1)]) rfl (W := 2) rfl (by decide) (by decide) gc6 13 117 (by decide) (by decide) ?_
  show Go _ _ _ _ 80 [.val (.int x0), .val (.int x1), .val (.int x2), .val (.int x3), .val (.int x4), .val (.ref 0), .val (.ref 2), .val (.int (Int32.ofNat q)), .unset] [.int (Int32.ofNat b1), .int (Int32.ofNat a1), .ref 0] [.inl ("com/example/subsume/subsume/DisjointSets", [("links", "[I", .ref 1)]), .inr (.int, (own_lv l1)), .inr (.int, (own_lv (own_R l1)))] _
  have fa2 := own_facts k1 ha1 hb1
  obtain ⟨l2, el2⟩ : ∃ l, l = own_jn l1 a1 b1 := ⟨_, rfl⟩
  have k2 : own_okb l2 = true := by rw [el2]; exact fa2.2.2.2.1
  have r2 : own_R l2 = own_mg (own_R l1) a1 b1 := by rw [el2]; exact fa2.2.2.2.2.1
  have gj2 : Go K m5 1 20 0 [.val (.ref 0), .val (.int (Int32.ofNat a1)), .val (.int (Int32.ofNat b1)), .unset, .unset] [] [.inl ("com/example/subsume/subsume/DisjointSets", [("links", "[I", .ref 1)]), .inr (.int, (own_lv l1)), .inr (.int, (own_lv (own_R l1)))] (none, some [.inl ("com/example/subsume/subsume/DisjointSets", [("links", "[I", .ref 1)]), .inr (.int, (own_lv l2)), .inr (.int, (own_lv (own_R l1)))], 0, 0) := by rw [el2]; exact go_join K hw l1 _ a1 b1 k1 ha1 hb1
  refine Go.callV (M' := m5) (i := 0) d0_80 rfl (hw _ (List.mem_of_getElem? (i := 21) rfl)) (hw _ (List.mem_of_getElem? (i := 23) rfl)) (hw _ (List.mem_of_getElem? (i := 2) rfl)) (hw _ (List.mem_of_getElem? (i := 22) rfl)) (hw _ (List.mem_of_getElem? (i := 24) rfl)) (hw _ (List.mem_of_getElem? (i := 25) rfl)) mi5 (as := [.int (Int32.ofNat a1), .int (Int32.ofNat b1)]) rfl rfl (st := []) rfl (ls1 := [.val (.ref 0), .val (.int (Int32.ofNat a1)), .val (.int (Int32.ofNat b1)), .unset, .unset]) rfl (W := 0) rfl (by decide) (by decide) gj2 13 117 (by decide) (by decide) ?_
  show Go _ _ _ _ 83 [.val (.int x0), .val (.int x1), .val (.int x2), .val (.int x3), .val (.int x4), .val (.ref 0), .val (.ref 2), .val (.int (Int32.ofNat q)), .unset] [] [.inl ("com/example/subsume/subsume/DisjointSets", [("links", "[I", .ref 1)]), .inr (.int, (own_lv l2)), .inr (.int, (own_lv (own_R l1)))] _
  refine Go.aload d0_83 rfl rfl ?_
  refine Go.iloadN d0_85 rfl ?_
  have gc7 : Go K m3 0 0 0 [.val (.int x1)] [] [.inl ("com/example/subsume/subsume/DisjointSets", [("links", "[I", .ref 1)]), .inr (.int, (own_lv l2)), .inr (.int, (own_lv (own_R l1)))] (some (.int (Int32.ofNat a1)), some [.inl ("com/example/subsume/subsume/DisjointSets", [("links", "[I", .ref 1)]), .inr (.int, (own_lv l2)), .inr (.int, (own_lv (own_R l1)))], 0, 0) := by rw [← e1]; exact go_own_first K hw x1 _
  refine Go.callS (M' := m3) d0_86 (hw _ (List.mem_of_getElem? (i := 13) rfl)) (hw _ (List.mem_of_getElem? (i := 14) rfl)) (hw _ (List.mem_of_getElem? (i := 15) rfl)) (hw _ (List.mem_of_getElem? (i := 16) rfl)) mi3 (as := [.int x1]) rfl rfl (st := [.ref 2]) rfl (ls1 := [.val (.int x1)]) rfl (W := 1) rfl (by decide) (by decide) gc7 13 117 (by decide) (by decide) ?_
  show Go _ _ _ _ 89 [.val (.int x0), .val (.int x1), .val (.int x2), .val (.int x3), .val (.int x4), .val (.ref 0), .val (.ref 2), .val (.int (Int32.ofNat q)), .unset] [.int (Int32.ofNat a1), .ref 2] [.inl ("com/example/subsume/subsume/DisjointSets", [("links", "[I", .ref 1)]), .inr (.int, (own_lv l2)), .inr (.int, (own_lv (own_R l1)))] _
  refine Go.iloadN d0_89 rfl ?_
  have gc8 : Go K m4 0 0 0 [.val (.int x1)] [] [.inl ("com/example/subsume/subsume/DisjointSets", [("links", "[I", .ref 1)]), .inr (.int, (own_lv l2)), .inr (.int, (own_lv (own_R l1)))] (some (.int (Int32.ofNat b1)), some [.inl ("com/example/subsume/subsume/DisjointSets", [("links", "[I", .ref 1)]), .inr (.int, (own_lv l2)), .inr (.int, (own_lv (own_R l1)))], 0, 0) := by rw [← f1]; exact go_own_second K hw x1 _
  refine Go.callS (M' := m4) d0_90 (hw _ (List.mem_of_getElem? (i := 18) rfl)) (hw _ (List.mem_of_getElem? (i := 19) rfl)) (hw _ (List.mem_of_getElem? (i := 15) rfl)) (hw _ (List.mem_of_getElem? (i := 20) rfl)) mi4 (as := [.int x1]) rfl rfl (st := [.int (Int32.ofNat a1), .ref 2]) rfl (ls1 := [.val (.int x1)]) rfl (W := 2) rfl (by decide) (by decide) gc8 13 117 (by decide) (by decide) ?_
  show Go _ _ _ _ 93 [.val (.int x0), .val (.int x1), .val (.int x2), .val (.int x3), .val (.int x4), .val (.ref 0), .val (.ref 2), .val (.int (Int32.ofNat q)), .unset] [.int (Int32.ofNat b1), .int (Int32.ofNat a1), .ref 2] [.inl ("com/example/subsume/subsume/DisjointSets", [("links", "[I", .ref 1)]), .inr (.int, (own_lv l2)), .inr (.int, (own_lv (own_R l1)))] _
  have gm2 : Go K m9 1 20 0 [.val (.ref 2), .val (.int (Int32.ofNat a1)), .val (.int (Int32.ofNat b1)), .unset, .unset, .unset, .unset] [] [.inl ("com/example/subsume/subsume/DisjointSets", [("links", "[I", .ref 1)]), .inr (.int, (own_lv l2)), .inr (.int, (own_lv (own_R l1)))] (none, some [.inl ("com/example/subsume/subsume/DisjointSets", [("links", "[I", .ref 1)]), .inr (.int, (own_lv l2)), .inr (.int, (own_lv (own_R l2)))], 0, 0) := by rw [r2]; exact go_mergeN K hw _ _ (own_R l1) a1 b1 rfl (own_Rle k1) ha1 hb1
  refine Go.callS (M' := m9) d0_93 (hw _ (List.mem_of_getElem? (i := 38) rfl)) (hw _ (List.mem_of_getElem? (i := 39) rfl)) (hw _ (List.mem_of_getElem? (i := 15) rfl)) (hw _ (List.mem_of_getElem? (i := 40) rfl)) mi9 (as := [.ref 2, .int (Int32.ofNat a1), .int (Int32.ofNat b1)]) rfl rfl (st := []) rfl (ls1 := [.val (.ref 2), .val (.int (Int32.ofNat a1)), .val (.int (Int32.ofNat b1)), .unset, .unset, .unset, .unset]) rfl (W := 0) rfl (by decide) (by decide) gm2 13 117 (by decide) (by decide) ?_
  show Go _ _ _ _ 96 [.val (.int x0), .val (.int x1), .val (.int x2), .val (.int x3), .val (.int x4), .val (.ref 0), .val (.ref 2), .val (.int (Int32.ofNat q)), .unset] [] [.inl ("com/example/subsume/subsume/DisjointSets", [("links", "[I", .ref 1)]), .inr (.int, (own_lv l2)), .inr (.int, (own_lv (own_R l2)))] _
  refine Go.aload d0_96 rfl rfl ?_
  refine Go.iload d0_98 rfl ?_
  have fa3 := own_facts (a := q) (b := 0) k2 hq (by decide)
  obtain ⟨l3, el3⟩ : ∃ l, l = (own_sm q q l2).2 := ⟨_, rfl⟩
  have k3 : own_okb l3 = true := by rw [el3]; exact fa3.1
  have r3 : own_R l3 = own_R l2 := by rw [el3]; exact fa3.2.2.1
  have gs3 : Go K m6 0 0 0 [.val (.ref 0), .val (.int (Int32.ofNat q)), .unset] [] [.inl ("com/example/subsume/subsume/DisjointSets", [("links", "[I", .ref 1)]), .inr (.int, (own_lv l2)), .inr (.int, (own_lv (own_R l2)))] (some (.int (Int32.ofNat (own_sm q q l2).1)), some [.inl ("com/example/subsume/subsume/DisjointSets", [("links", "[I", .ref 1)]), .inr (.int, (own_lv l3)), .inr (.int, (own_lv (own_R l3)))], 0, 0) := by rw [r3, el3]; exact go_smallest K hw _ l2 q k2 hq
  refine Go.callV (M' := m6) (i := 0) d0_100 rfl (hw _ (List.mem_of_getElem? (i := 43) rfl)) (hw _ (List.mem_of_getElem? (i := 28) rfl)) (hw _ (List.mem_of_getElem? (i := 2) rfl)) (hw _ (List.mem_of_getElem? (i := 27) rfl)) (hw _ (List.mem_of_getElem? (i := 29) rfl)) (hw _ (List.mem_of_getElem? (i := 30) rfl)) mi6 (as := [.int (Int32.ofNat q)]) rfl rfl (st := []) rfl (ls1 := [.val (.ref 0), .val (.int (Int32.ofNat q)), .unset]) rfl (W := 0) rfl (by decide) (by decide) gs3 13 117 (by decide) (by decide) ?_
  show Go _ _ _ _ 103 [.val (.int x0), .val (.int x1), .val (.int x2), .val (.int x3), .val (.int x4), .val (.ref 0), .val (.ref 2), .val (.int (Int32.ofNat q)), .unset] [.int (Int32.ofNat (own_sm q q l2).1)] [.inl ("com/example/subsume/subsume/DisjointSets", [("links", "[I", .ref 1)]), .inr (.int, (own_lv l3)), .inr (.int, (own_lv (own_R l3)))] _
  refine Go.aload d0_103 rfl rfl ?_
  refine Go.iload d0_105 rfl ?_
  refine Go.iaload d0_107 rfl (own_nneg (by omega)) (own_ldv hq (r3 ▸ fa3.2.2.2.2.2)) ?_
  refine Go.icmpF d0_108 (XT.ii_ne_f rfl) ?_
  refine Go.iconst d0_111 (v := 1) rfl ?_
  refine Go.goto d0_112 j0_112 ?_
  refine Go.istore d0_116 (ls' := [.val (.int x0), .val (.int x1), .val (.int x2), .val (.int x3), .val (.int x4), .val (.ref 0), .val (.ref 2), .val (.int (Int32.ofNat q)), .val (.int 1)]) rfl ?_
  refine Go.aload d0_118 rfl rfl ?_
  refine Go.iloadN d0_120 rfl ?_
  have gc9 : Go K m3 0 0 0 [.val (.int x2)] [] [.inl ("com/example/subsume/subsume/DisjointSets", [("links", "[I", .ref 1)]), .inr (.int, (own_lv l3)), .inr (.int, (own_lv (own_R l3)))] (some (.int (Int32.ofNat a2)), some [.inl ("com/example/subsume/subsume/DisjointSets", [("links", "[I", .ref 1)]), .inr (.int, (own_lv l3)), .inr (.int, (own_lv (own_R l3)))], 0, 0) := by rw [← e2]; exact go_own_first K hw x2 _
  refine Go.callS (M' := m3) d0_121 (hw _ (List.mem_of_getElem? (i := 13) rfl)) (hw _ (List.mem_of_getElem? (i := 14) rfl)) (hw _ (List.mem_of_getElem? (i := 15) rfl)) (hw _ (List.mem_of_getElem? (i := 16) rfl)) mi3 (as := [.int x2]) rfl rfl (st := [.ref 0]) rfl (ls1 := [.val (.int x2)]) rfl (W := 1) rfl (by decide) (by decide) gc9 13 117 (by decide) (by decide) ?_
  show Go _ _ _ _ 124 [.val (.int x0), .val (.int x1), .val (.int x2), .val (.int x3), .val (.int x4), .val (.ref 0), .val (.ref 2), .val (.int (Int32.ofNat q)), .val (.int 1)] [.int (Int32.ofNat a2), .ref 0] [.inl ("com/example/subsume/subsume/DisjointSets", [("links", "[I", .ref 1)]), .inr (.int, (own_lv l3)), .inr (.int, (own_lv (own_R l3)))] _
  refine Go.iloadN d0_124 rfl ?_
  have gc10 : Go K m4 0 0 0 [.val (.int x2)] [] [.inl ("com/example/subsume/subsume/DisjointSets", [("links", "[I", .ref 1)]), .inr (.int, (own_lv l3)), .inr (.int, (own_lv (own_R l3)))] (some (.int (Int32.ofNat b2)), some [.inl ("com/example/subsume/subsume/DisjointSets", [("links", "[I", .ref 1)]), .inr (.int, (own_lv l3)), .inr (.int, (own_lv (own_R l3)))], 0, 0) := by rw [← f2]; exact go_own_second K hw x2 _
  refine Go.callS (M' := m4) d0_125 (hw _ (List.mem_of_getElem? (i := 18) rfl)) (hw _ (List.mem_of_getElem? (i := 19) rfl)) (hw _ (List.mem_of_getElem? (i := 15) rfl)) (hw _ (List.mem_of_getElem? (i := 20) rfl)) mi4 (as := [.int x2]) rfl rfl (st := [.int (Int32.ofNat a2), .ref 0]) rfl (ls1 := [.val (.int x2)]) rfl (W := 2) rfl (by decide) (by decide) gc10 13 117 (by decide) (by decide) ?_
  show Go _ _ _ _ 128 [.val (.int x0), .val (.int x1), .val (.int x2), .val (.int x3), .val (.int x4), .val (.ref 0), .val (.ref 2), .val (.int (Int32.ofNat q)), .val (.int 1)] [.int (Int32.ofNat b2), .int (Int32.ofNat a2), .ref 0] [.inl ("com/example/subsume/subsume/DisjointSets", [("links", "[I", .ref 1)]), .inr (.int, (own_lv l3)), .inr (.int, (own_lv (own_R l3)))] _
  have fa4 := own_facts k3 ha2 hb2
  obtain ⟨l4, el4⟩ : ∃ l, l = own_jn l3 a2 b2 := ⟨_, rfl⟩
  have k4 : own_okb l4 = true := by rw [el4]; exact fa4.2.2.2.1
  have r4 : own_R l4 = own_mg (own_R l3) a2 b2 := by rw [el4]; exact fa4.2.2.2.2.1
  have gj4 : Go K m5 1 20 0 [.val (.ref 0), .val (.int (Int32.ofNat a2)), .val (.int (Int32.ofNat b2)), .unset, .unset] [] [.inl ("com/example/subsume/subsume/DisjointSets", [("links", "[I", .ref 1)]), .inr (.int, (own_lv l3)), .inr (.int, (own_lv (own_R l3)))] (none, some [.inl ("com/example/subsume/subsume/DisjointSets", [("links", "[I", .ref 1)]), .inr (.int, (own_lv l4)), .inr (.int, (own_lv (own_R l3)))], 0, 0) := by rw [el4]; exact go_join K hw l3 _ a2 b2 k3 ha2 hb2
  refine Go.callV (M' := m5) (i := 0) d0_128 rfl (hw _ (List.mem_of_getElem? (i := 21) rfl)) (hw _ (List.mem_of_getElem? (i := 23) rfl)) (hw _ (List.mem_of_getElem? (i := 2) rfl)) (hw _ (List.mem_of_getElem? (i := 22) rfl)) (hw _ (List.mem_of_getElem? (i := 24) rfl)) (hw _ (List.mem_of_getElem? (i := 25) rfl)) mi5 (as := [.int (Int32.ofNat a2), .int (Int32.ofNat b2)]) rfl rfl (st := []) rfl (ls1 := [.val (.ref 0), .val (.int (Int32.ofNat a2)), .val (.int (Int32.ofNat b2)), .unset, .unset]) rfl (W := 0) rfl (by decide) (by decide) gj4 13 117 (by decide) (by decide) ?_
  show Go _ _ _ _ 131 [.val (.int x0), .val (.int x1), .val (.int x2), .val (.int x3), .val (.int x4), .val (.ref 0), .val (.ref 2), .val (.int (Int32.ofNat q)), .val (.int 1)] [] [.inl ("com/example/subsume/subsume/DisjointSets", [("links", "[I", .ref 1)]), .inr (.int, (own_lv l4)), .inr (.int, (own_lv (own_R l3)))] _
  refine Go.aload d0_131 rfl rfl ?_
  refine Go.iloadN d0_133 rfl ?_
  have gc11 : Go K m3 0 0 0 [.val (.int x2)] [] [.inl ("com/example/subsume/subsume/DisjointSets", [("links", "[I", .ref 1)]), .inr (.int, (own_lv l4)), .inr (.int, (own_lv (own_R l3)))] (some (.int (Int32.ofNat a2)), some [.inl ("com/example/subsume/subsume/DisjointSets", [("links", "[I", .ref 1)]), .inr (.int, (own_lv l4)), .inr (.int, (own_lv (own_R l3)))], 0, 0) := by rw [← e2]; exact go_own_first K hw x2 _
  refine Go.callS (M' := m3) d0_134 (hw _ (List.mem_of_getElem? (i := 13) rfl)) (hw _ (List.mem_of_getElem? (i := 14) rfl)) (hw _ (List.mem_of_getElem? (i := 15) rfl)) (hw _ (List.mem_of_getElem? (i := 16) rfl)) mi3 (as := [.int x2]) rfl rfl (st := [.ref 2]) rfl (ls1 := [.val (.int x2)]) rfl (W := 1) rfl (by decide) (by decide) gc11 13 117 (by decide) (by decide) ?_
  show Go _ _ _ _ 137 [.val (.int x0), .val (.int x1), .val (.int x2), .val (.int x3), .val (.int x4), .val (.ref 0), .val (.ref 2), .val (.int (Int32.ofNat q)), .val (.int 1)] [.int (Int32.ofNat a2), .ref 2] [.inl ("com/example/subsume/subsume/DisjointSets", [("links", "[I", .ref 1)]), .inr (.int, (own_lv l4)), .inr (.int, (own_lv (own_R l3)))] _
  refine Go.iloadN d0_137 rfl ?_
  have gc12 : Go K m4 0 0 0 [.val (.int x2)] [] [.inl ("com/example/subsume/subsume/DisjointSets", [("links", "[I", .ref 1)]), .inr (.int, (own_lv l4)), .inr (.int, (own_lv (own_R l3)))] (some (.int (Int32.ofNat b2)), some [.inl ("com/example/subsume/subsume/DisjointSets", [("links", "[I", .ref 1)]), .inr (.int, (own_lv l4)), .inr (.int, (own_lv (own_R l3)))], 0, 0) := by rw [← f2]; exact go_own_second K hw x2 _
  refine Go.callS (M' := m4) d0_138 (hw _ (List.mem_of_getElem? (i := 18) rfl)) (hw _ (List.mem_of_getElem? (i := 19) rfl)) (hw _ (List.mem_of_getElem? (i := 15) rfl)) (hw _ (List.mem_of_getElem? (i := 20) rfl)) mi4 (as := [.int x2]) rfl rfl (st := [.int (Int32.ofNat a2), .ref 2]) rfl (ls1 := [.val (.int x2)]) rfl (W := 2) rfl (by decide) (by decide) gc12 13 117 (by decide) (by decide) ?_
  show Go _ _ _ _ 141 [.val (.int x0), .val (.int x1), .val (.int x2), .val (.int x3), .val (.int x4), .val (.ref 0), .val (.ref 2), .val (.int (Int32.ofNat q)), .val (.int 1)] [.int (Int32.ofNat b2), .int (Int32.ofNat a2), .ref 2] [.inl ("com/example/subsume/subsume/DisjointSets", [("links", "[I", .ref 1)]), .inr (.int, (own_lv l4)), .inr (.int, (own_lv (own_R l3)))] _
  have gm4 : Go K m9 1 20 0 [.val (.ref 2), .val (.int (Int32.ofNat a2)), .val (.int (Int32.ofNat b2)), .unset, .unset, .unset, .unset] [] [.inl ("com/example/subsume/subsume/DisjointSets", [("links", "[I", .ref 1)]), .inr (.int, (own_lv l4)), .inr (.int, (own_lv (own_R l3)))] (none, some [.inl ("com/example/subsume/subsume/DisjointSets", [("links", "[I", .ref 1)]), .inr (.int, (own_lv l4)), .inr (.int, (own_lv (own_R l4)))], 0, 0) := by rw [r4]; exact go_mergeN K hw _ _ (own_R l3) a2 b2 rfl (own_Rle k3) ha2 hb2
  refine Go.callS (M' := m9) d0_141 (hw _ (List.mem_of_getElem? (i := 38) rfl)) (hw _ (List.mem_of_getElem? (i := 39) rfl)) (hw _ (List.mem_of_getElem? (i := 15) rfl)) (hw _ (List.mem_of_getElem? (i := 40) rfl)) mi9 (as := [.ref 2, .int (Int32.ofNat a2), .int (Int32.ofNat b2)]) rfl rfl (st := []) rfl (ls1 := [.val (.ref 2), .val (.int (Int32.ofNat a2)), .val (.int (Int32.ofNat b2)), .unset, .unset, .unset, .unset]) rfl (W := 0) rfl (by decide) (by decide) gm4 13 117 (by decide) (by decide) ?_
  show Go _ _ _ _ 144 [.val (.int x0), .val (.int x1), .val (.int x2), .val (.int x3), .val (.int x4), .val (.ref 0), .val (.ref 2), .val (.int (Int32.ofNat q)), .val (.int 1)] [] [.inl ("com/example/subsume/subsume/DisjointSets", [("links", "[I", .ref 1)]), .inr (.int, (own_lv l4)), .inr (.int, (own_lv (own_R l4)))] _
  refine Go.aload d0_144 rfl rfl ?_
  refine Go.iloadN d0_146 rfl ?_
  have gc13 : Go K m3 0 0 0 [.val (.int x3)] [] [.inl ("com/example/subsume/subsume/DisjointSets", [("links", "[I", .ref 1)]), .inr (.int, (own_lv l4)), .inr (.int, (own_lv (own_R l4)))] (some (.int (Int32.ofNat a3)), some [.inl ("com/example/subsume/subsume/DisjointSets", [("links", "[I", .ref 1)]), .inr (.int, (own_lv l4)), .inr (.int, (own_lv (own_R l4)))], 0, 0) := by rw [← e3]; exact go_own_first K hw x3 _
  refine Go.callS (M' := m3) d0_147 (hw _ (List.mem_of_getElem? (i := 13) rfl)) (hw _ (List.mem_of_getElem? (i := 14) rfl)) (hw _ (List.mem_of_getElem? (i := 15) rfl)) (hw _ (List.mem_of_getElem? (i := 16) rfl)) mi3 (as := [.int x3]) rfl rfl (st := [.ref 0]) rfl (ls1 := [.val (.int x3)]) rfl (W := 1) rfl (by decide) (by decide) gc13 13 117 (by decide) (by decide) ?_
  show Go _ _ _ _ 150 [.val (.int x0), .val (.int x1), .val (.int x2), .val (.int x3), .val (.int x4), .val (.ref 0), .val (.ref 2), .val (.int (Int32.ofNat q)), .val (.int 1)] [.int (Int32.ofNat a3), .ref 0] [.inl ("com/example/subsume/subsume/DisjointSets", [("links", "[I", .ref 1)]), .inr (.int, (own_lv l4)), .inr (.int, (own_lv (own_R l4)))] _
  refine Go.iloadN d0_150 rfl ?_
  have gc14 : Go K m4 0 0 0 [.val (.int x3)] [] [.inl ("com/example/subsume/subsume/DisjointSets", [("links", "[I", .ref 1)]), .inr (.int, (own_lv l4)), .inr (.int, (own_lv (own_R l4)))] (some (.int (Int32.ofNat b3)), some [.inl ("com/example/subsume/subsume/DisjointSets", [("links", "[I", .ref 1)]), .inr (.int, (own_lv l4)), .inr (.int, (own_lv (own_R l4)))], 0, 0) := by rw [← f3]; exact go_own_second K hw x3 _
  refine Go.callS (M' := m4) d0_151 (hw _ (List.mem_of_getElem? (i := 18) rfl)) (hw _ (List.mem_of_getElem? (i := 19) rfl)) (hw _ (List.mem_of_getElem? (i := 15) rfl)) (hw _ (List.mem_of_getElem? (i := 20) rfl)) mi4 (as := [.int x3]) rfl rfl (st := [.int (Int32.ofNat a3), .ref 0]) rfl (ls1 := [.val (.int x3)]) rfl (W := 2) rfl (by decide) (by decide) gc14 13 117 (by decide) (by decide) ?_
  show Go _ _ _ _ 154 [.val (.int x0), .val (.int x1), .val (.int x2), .val (.int x3), .val (.int x4), .val (.ref 0), .val (.ref 2), .val (.int (Int32.ofNat q)), .val (.int 1)] [.int (Int32.ofNat b3), .int (Int32.ofNat a3), .ref 0] [.inl ("com/example/subsume/subsume/DisjointSets", [("links", "[I", .ref 1)]), .inr (.int, (own_lv l4)), .inr (.int, (own_lv (own_R l4)))] _
  have fa5 := own_facts k4 ha3 hb3
  obtain ⟨l5, el5⟩ : ∃ l, l = own_jn l4 a3 b3 := ⟨_, rfl⟩
  have k5 : own_okb l5 = true := by rw [el5]; exact fa5.2.2.2.1
  have r5 : own_R l5 = own_mg (own_R l4) a3 b3 := by rw [el5]; exact fa5.2.2.2.2.1
  have gj5 : Go K m5 1 20 0 [.val (.ref 0), .val (.int (Int32.ofNat a3)), .val (.int (Int32.ofNat b3)), .unset, .unset] [] [.inl ("com/example/subsume/subsume/DisjointSets", [("links", "[I", .ref 1)]), .inr (.int, (own_lv l4)), .inr (.int, (own_lv (own_R l4)))] (none, some [.inl ("com/example/subsume/subsume/DisjointSets", [("links", "[I", .ref 1)]), .inr (.int, (own_lv l5)), .inr (.int, (own_lv (own_R l4)))], 0, 0) := by rw [el5]; exact go_join K hw l4 _ a3 b3 k4 ha3 hb3
  refine Go.callV (M' := m5) (i := 0) d0_154 rfl (hw _ (List.mem_of_getElem? (i := 21) rfl)) (hw _ (List.mem_of_getElem? (i := 23) rfl)) (hw _ (List.mem_of_getElem? (i := 2) rfl)) (hw _ (List.mem_of_getElem? (i := 22) rfl)) (hw _ (List.mem_of_getElem? (i := 24) rfl)) (hw _ (List.mem_of_getElem? (i := 25) rfl)) mi5 (as := [.int (Int32.ofNat a3), .int (Int32.ofNat b3)]) rfl rfl (st := []) rfl (ls1 := [.val (.ref 0), .val (.int (Int32.ofNat a3)), .val (.int (Int32.ofNat b3)), .unset, .unset]) rfl (W := 0) rfl (by decide) (by decide) gj5 13 117 (by decide) (by decide) ?_
  show Go _ _ _ _ 157 [.val (.int x0), .val (.int x1), .val (.int x2), .val (.int x3), .val (.int x4), .val (.ref 0), .val (.ref 2), .val (.int (Int32.ofNat q)), .val (.int 1)] [] [.inl ("com/example/subsume/subsume/DisjointSets", [("links", "[I", .ref 1)]), .inr (.int, (own_lv l5)), .inr (.int, (own_lv (own_R l4)))] _
  refine Go.aload d0_157 rfl rfl ?_
  refine Go.iloadN d0_159 rfl ?_
  have gc15 : Go K m3 0 0 0 [.val (.int x3)] [] [.inl ("com/example/subsume/subsume/DisjointSets", [("links", "[I", .ref 1)]), .inr (.int, (own_lv l5)), .inr (.int, (own_lv (own_R l4)))] (some (.int (Int32.ofNat a3)), some [.inl ("com/example/subsume/subsume/DisjointSets", [("links", "[I", .ref 1)]), .inr (.int, (own_lv l5)), .inr (.int, (own_lv (own_R l4)))], 0, 0) := by rw [← e3]; exact go_own_first K hw x3 _
  refine Go.callS (M' := m3) d0_160 (hw _ (List.mem_of_getElem? (i := 13) rfl)) (hw _ (List.mem_of_getElem? (i := 14) rfl)) (hw _ (List.mem_of_getElem? (i := 15) rfl)) (hw _ (List.mem_of_getElem? (i := 16) rfl)) mi3 (as := [.int x3]) rfl rfl (st := [.ref 2]) rfl (ls1 := [.val (.int x3)]) rfl (W := 1) rfl (by decide) (by decide) gc15 13 117 (by decide) (by decide) ?_
  show Go _ _ _ _ 163 [.val (.int x0), .val (.int x1), .val (.int x2), .val (.int x3), .val (.int x4), .val (.ref 0), .val (.ref 2), .val (.int (Int32.ofNat q)), .val (.int 1)] [.int (Int32.ofNat a3), .ref 2] [.inl ("com/example/subsume/subsume/DisjointSets", [("links", "[I", .ref 1)]), .inr (.int, (own_lv l5)), .inr (.int, (own_lv (own_R l4)))] _
  refine Go.iloadN d0_163 rfl ?_
  have gc16 : Go K m4 0 0 0 [.val (.int x3)] [] [.inl ("com/example/subsume/subsume/DisjointSets", [("links", "[I", .ref 1)]), .inr (.int, (own_lv l5)), .inr (.int, (own_lv (own_R l4)))] (some (.int (Int32.ofNat b3)), some [.inl ("com/example/subsume/subsume/DisjointSets", [("links", "[I", .ref 1)]), .inr (.int, (own_lv l5)), .inr (.int, (own_lv (own_R l4)))], 0, 0) := by rw [← f3]; exact go_own_second K hw x3 _
  refine Go.callS (M' := m4) d0_164 (hw _ (List.mem_of_getElem? (i := 18) rfl)) (hw _ (List.mem_of_getElem? (i := 19) rfl)) (hw _ (List.mem_of_getElem? (i := 15) rfl)) (hw _ (List.mem_of_getElem? (i := 20) rfl)) mi4 (as := [.int x3]) rfl rfl (st := [.int (Int32.ofNat a3), .ref 2]) rfl (ls1 := [.val (.int x3)]) rfl (W := 2) rfl (by decide) (by decide) gc16 13 117 (by decide) (by decide) ?_
  show Go _ _ _ _ 167 [.val (.int x0), .val (.int x1), .val (.int x2), .val (.int x3), .val (.int x4), .val (.ref 0), .val (.ref 2), .val (.int (Int32.ofNat q)), .val (.int 1)] [.int (Int32.ofNat b3), .int (Int32.ofNat a3), .ref 2] [.inl ("com/example/subsume/subsume/DisjointSets", [("links", "[I", .ref 1)]), .inr (.int, (own_lv l5)), .inr (.int, (own_lv (own_R l4)))] _
  have gm5 : Go K m9 1 20 0 [.val (.ref 2), .val (.int (Int32.ofNat a3)), .val (.int (Int32.ofNat b3)), .unset, .unset, .unset, .unset] [] [.inl ("com/example/subsume/subsume/DisjointSets", [("links", "[I", .ref 1)]), .inr (.int, (own_lv l5)), .inr (.int, (own_lv (own_R l4)))] (none, some [.inl ("com/example/subsume/subsume/DisjointSets", [("links", "[I", .ref 1)]), .inr (.int, (own_lv l5)), .inr (.int, (own_lv (own_R l5)))], 0, 0) := by rw [r5]; exact go_mergeN K hw _ _ (own_R l4) a3 b3 rfl (own_Rle k4) ha3 hb3
  refine Go.callS (M' := m9) d0_167 (hw _ (List.mem_of_getElem? (i := 38) rfl)) (hw _ (List.mem_of_getElem? (i := 39) rfl)) (hw _ (List.mem_of_getElem? (i := 15) rfl)) (hw _ (List.mem_of_getElem? (i := 40) rfl)) mi9 (as := [.ref 2, .int (Int32.ofNat a3), .int (Int32.ofNat b3)]) rfl rfl (st := []) rfl (ls1 := [.val (.ref 2), .val (.int (Int32.ofNat a3)), .val (.int (Int32.ofNat b3)), .unset, .unset, .unset, .unset]) rfl (W := 0) rfl (by decide) (by decide) gm5 13 117 (by decide) (by decide) ?_
  show Go _ _ _ _ 170 [.val (.int x0), .val (.int x1), .val (.int x2), .val (.int x3), .val (.int x4), .val (.ref 0), .val (.ref 2), .val (.int (Int32.ofNat q)), .val (.int 1)] [] [.inl ("com/example/subsume/subsume/DisjointSets", [("links", "[I", .ref 1)]), .inr (.int, (own_lv l5)), .inr (.int, (own_lv (own_R l5)))] _
  refine Go.iload d0_170 rfl ?_
  refine Go.ifF d0_172 (XT.i0_eq_f (by decide)) ?_
  refine Go.aload d0_175 rfl rfl ?_
  refine Go.iconst d0_177 (v := 0) rfl ?_
  have fa6 := own_facts (a := 0) (b := 0) k5 (by decide) (by decide)
  obtain ⟨l6, el6⟩ : ∃ l, l = (own_sm 0 0 l5).2 := ⟨_, rfl⟩
  have k6 : own_okb l6 = true := by rw [el6]; exact fa6.1
  have r6 : own_R l6 = own_R l5 := by rw [el6]; exact fa6.2.2.1
  have gs6 : Go K m6 0 0 0 [.val (.ref 0), .val (.int 0), .unset] [] [.inl ("com/example/subsume/subsume/DisjointSets", [("links", "[I", .ref 1)]), .inr (.int, (own_lv l5)), .inr (.int, (own_lv (own_R l5)))] (some (.int (Int32.ofNat (own_sm 0 0 l5).1)), some [.inl ("com/example/subsume/subsume/DisjointSets", [("links", "[I", .ref 1)]), .inr (.int, (own_lv l6)), .inr (.int, (own_lv (own_R l6)))], 0, 0) := by rw [r6, el6]; exact go_smallest K hw _ l5 0 k5 (by decide)
  refine Go.callV (M' := m6) (i := 0) d0_178 rfl (hw _ (List.mem_of_getElem? (i := 43) rfl)) (hw _ (List.mem_of_getElem? (i := 28) rfl)) (hw _ (List.mem_of_getElem? (i := 2) rfl)) (hw _ (List.mem_of_getElem? (i := 27) rfl)) (hw _ (List.mem_of_getElem? (i := 29) rfl)) (hw _ (List.mem_of_getElem? (i := 30) rfl)) mi6 (as := [.int 0]) rfl rfl (st := []) rfl (ls1 := [.val (.ref 0), .val (.int 0), .unset]) rfl (W := 0) rfl (by decide) (by decide) gs6 13 117 (by decide) (by decide) ?_
  show Go _ _ _ _ 181 [.val (.int x0), .val (.int x1), .val (.int x2), .val (.int x3), .val (.int x4), .val (.ref 0), .val (.ref 2), .val (.int (Int32.ofNat q)), .val (.int 1)] [.int (Int32.ofNat (own_sm 0 0 l5).1)] [.inl ("com/example/subsume/subsume/DisjointSets", [("links", "[I", .ref 1)]), .inr (.int, (own_lv l6)), .inr (.int, (own_lv (own_R l6)))] _
  refine Go.aload d0_181 rfl rfl ?_
  refine Go.iconst d0_183 (v := 0) rfl ?_
  refine Go.iaload d0_184 rfl (by decide) (own_ldv0 (r6 ▸ fa6.2.2.2.2.2)) ?_
  refine Go.icmpF d0_185 (XT.ii_ne_f rfl) ?_
  refine Go.iconst d0_188 (v := 1) rfl ?_
  refine Go.goto d0_189 j0_189 ?_
  refine Go.istore d0_193 (ls' := [.val (.int x0), .val (.int x1), .val (.int x2), .val (.int x3), .val (.int x4), .val (.ref 0), .val (.ref 2), .val (.int (Int32.ofNat q)), .val (.int 1)]) rfl ?_
  refine Go.iload d0_195 rfl ?_
  refine Go.ifF d0_197 (XT.i0_eq_f (by decide)) ?_
  refine Go.aload d0_200 rfl rfl ?_
  refine Go.iconst d0_202 (v := 1) rfl ?_
  have fa7 := own_facts (a := 1) (b := 0) k6 (by decide) (by decide)
  obtain ⟨l7, el7⟩ : ∃ l, l = (own_sm 1 1 l6).2 := ⟨_, rfl⟩
  have k7 : own_okb l7 = true := by rw [el7]; exact fa7.1
  have r7 : own_R l7 = own_R l6 := by rw [el7]; exact fa7.2.2.1
  have gs7 : Go K m6 0 0 0 [.val (.ref 0), .val (.int 1), .unset] [] [.inl ("com/example/subsume/subsume/DisjointSets", [("links", "[I", .ref 1)]), .inr (.int, (own_lv l6)), .inr (.int, (own_lv (own_R l6)))] (some (.int (Int32.ofNat (own_sm 1 1 l6).1)), some [.inl ("com/example/subsume/subsume/DisjointSets", [("links", "[I", .ref 1)]), .inr (.int, (own_lv l7)), .inr (.int, (own_lv (own_R l7)))], 0, 0) := by rw [r7, el7]; exact go_smallest K hw _ l6 1 k6 (by decide)
  refine Go.callV (M' := m6) (i := 0) d0_203 rfl (hw _ (List.mem_of_getElem? (i := 43) rfl)) (hw _ (List.mem_of_getElem? (i := 28) rfl)) (hw _ (List.mem_of_getElem? (i := 2) rfl)) (hw _ (List.mem_of_getElem? (i := 27) rfl)) (hw _ (List.mem_of_getElem? (i := 29) rfl)) (hw _ (List.mem_of_getElem? (i := 30) rfl)) mi6 (as := [.int 1]) rfl rfl (st := []) rfl (ls1 := [.val (.ref 0), .val (.int 1), .unset]) rfl (W := 0) rfl (by decide) (by decide) gs7 13 117 (by decide) (by decide) ?_
  show Go _ _ _ _ 206 [.val (.int x0), .val (.int x1), .val (.int x2), .val (.int x3), .val (.int x4), .val (.ref 0), .val (.ref 2), .val (.int (Int32.ofNat q)), .val (.int 1)] [.int (Int32.ofNat (own_sm 1 1 l6).1)] [.inl ("com/example/subsume/subsume/DisjointSets", [("links", "[I", .ref 1)]), .inr (.int, (own_lv l7)), .inr (.int, (own_lv (own_R l7)))] _
  refine Go.aload d0_206 rfl rfl ?_
  refine Go.iconst d0_208 (v := 1) rfl ?_
  refine Go.iaload d0_209 rfl (by decide) (own_ldv0 (r7 ▸ fa7.2.2.2.2.2)) ?_
  refine Go.icmpF d0_210 (XT.ii_ne_f rfl) ?_
  refine Go.iconst d0_213 (v := 1) rfl ?_
  refine Go.goto d0_214 j0_214 ?_
  refine Go.istore d0_218 (ls' := [.val (.int x0), .val (.int x1), .val (.int x2), .val (.int x3), .val (.int x4), .val (.ref 0), .val (.ref 2), .val (.int (Int32.ofNat q)), .val (.int 1)]) rfl ?_
  refine Go.iload d0_220 rfl ?_
  refine Go.ifF d0_222 (XT.i0_eq_f (by decide)) ?_
  refine Go.aload d0_225 rfl rfl ?_
  refine Go.iconst d0_227 (v := 2) rfl ?_
  have fa8 := own_facts (a := 2) (b := 0) k7 (by decide) (by decide)
  obtain ⟨l8, el8⟩ : ∃ l, l = (own_sm 2 2 l7).2 := ⟨_, rfl⟩
  have k8 : own_okb l8 = true := by rw [el8]; exact fa8.1
  have r8 : own_R l8 = own_R l7 := by rw [el8]; exact fa8.2.2.1
  have gs8 : Go K m6 0 0 0 [.val (.ref 0), .val (.int 2), .unset] [] [.inl ("com/example/subsume/subsume/DisjointSets", [("links", "[I", .ref 1)]), .inr (.int, (own_lv l7)), .inr (.int, (own_lv (own_R l7)))] (some (.int (Int32.ofNat (own_sm 2 2 l7).1)), some [.inl ("com/example/subsume/subsume/DisjointSets", [("links", "[I", .ref 1)]), .inr (.int, (own_lv l8)), .inr (.int, (own_lv (own_R l8)))], 0, 0) := by rw [r8, el8]; exact go_smallest K hw _ l7 2 k7 (by decide)
  refine Go.callV (M' := m6) (i := 0) d0_228 rfl (hw _ (List.mem_of_getElem? (i := 43) rfl)) (hw _ (List.mem_of_getElem? (i := 28) rfl)) (hw _ (List.mem_of_getElem? (i := 2) rfl)) (hw _ (List.mem_of_getElem? (i := 27) rfl)) (hw _ (List.mem_of_getElem? (i := 29) rfl)) (hw _ (List.mem_of_getElem? (i := 30) rfl)) mi6 (as := [.int 2]) rfl rfl (st := []) rfl (ls1 := [.val (.ref 0), .val (.int 2), .unset]) rfl (W := 0) rfl (by decide) (by decide) gs8 13 117 (by decide) (by decide) ?_
  show Go _ _ _ _ 231 [.val (.int x0), .val (.int x1), .val (.int x2), .val (.int x3), .val (.int x4), .val (.ref 0), .val (.ref 2), .val (.int (Int32.ofNat q)), .val (.int 1)] [.int (Int32.ofNat (own_sm 2 2 l7).1)] [.inl ("com/example/subsume/subsume/DisjointSets", [("links", "[I", .ref 1)]), .inr (.int, (own_lv l8)), .inr (.int, (own_lv (own_R l8)))] _
  refine Go.aload d0_231 rfl rfl ?_
  refine Go.iconst d0_233 (v := 2) rfl ?_
  refine Go.iaload d0_234 rfl (by decide) (own_ldv0 (r8 ▸ fa8.2.2.2.2.2)) ?_
  refine Go.icmpF d0_235 (XT.ii_ne_f rfl) ?_
  refine Go.iconst d0_238 (v := 1) rfl ?_
  refine Go.goto d0_239 j0_239 ?_
  refine Go.istore d0_243 (ls' := [.val (.int x0), .val (.int x1), .val (.int x2), .val (.int x3), .val (.int x4), .val (.ref 0), .val (.ref 2), .val (.int (Int32.ofNat q)), .val (.int 1)]) rfl ?_
  refine Go.iload d0_245 rfl ?_
  refine Go.ifF d0_247 (XT.i0_eq_f (by decide)) ?_
  refine Go.aload d0_250 rfl rfl ?_
  refine Go.iconst d0_252 (v := 3) rfl ?_
  have fa9 := own_facts (a := 3) (b := 0) k8 (by decide) (by decide)
  obtain ⟨l9, el9⟩ : ∃ l, l = (own_sm 3 3 l8).2 := ⟨_, rfl⟩
  have k9 : own_okb l9 = true := by rw [el9]; exact fa9.1
  have r9 : own_R l9 = own_R l8 := by rw [el9]; exact fa9.2.2.1
  have gs9 : Go K m6 0 0 0 [.val (.ref 0), .val (.int 3), .unset] [] [.inl ("com/example/subsume/subsume/DisjointSets", [("links", "[I", .ref 1)]), .inr (.int, (own_lv l8)), .inr (.int, (own_lv (own_R l8)))] (some (.int (Int32.ofNat (own_sm 3 3 l8).1)), some [.inl ("com/example/subsume/subsume/DisjointSets", [("links", "[I", .ref 1)]), .inr (.int, (own_lv l9)), .inr (.int, (own_lv (own_R l9)))], 0, 0) := by rw [r9, el9]; exact go_smallest K hw _ l8 3 k8 (by decide)
  refine Go.callV (M' := m6) (i := 0) d0_253 rfl (hw _ (List.mem_of_getElem? (i := 43) rfl)) (hw _ (List.mem_of_getElem? (i := 28) rfl)) (hw _ (List.mem_of_getElem? (i := 2) rfl)) (hw _ (List.mem_of_getElem? (i := 27) rfl)) (hw _ (List.mem_of_getElem? (i := 29) rfl)) (hw _ (List.mem_of_getElem? (i := 30) rfl)) mi6 (as := [.int 3]) rfl rfl (st := []) rfl (ls1 := [.val (.ref 0), .val (.int 3), .unset]) rfl (W := 0) rfl (by decide) (by decide) gs9 13 117 (by decide) (by decide) ?_
  show Go _ _ _ _ 256 [.val (.int x0), .val (.int x1), .val (.int x2), .val (.int x3), .val (.int x4), .val (.ref 0), .val (.ref 2), .val (.int (Int32.ofNat q)), .val (.int 1)] [.int (Int32.ofNat (own_sm 3 3 l8).1)] [.inl ("com/example/subsume/subsume/DisjointSets", [("links", "[I", .ref 1)]), .inr (.int, (own_lv l9)), .inr (.int, (own_lv (own_R l9)))] _
  refine Go.aload d0_256 rfl rfl ?_
  refine Go.iconst d0_258 (v := 3) rfl ?_
  refine Go.iaload d0_259 rfl (by decide) (own_ldv0 (r9 ▸ fa9.2.2.2.2.2)) ?_
  refine Go.icmpF d0_260 (XT.ii_ne_f rfl) ?_
  refine Go.iconst d0_263 (v := 1) rfl ?_
  refine Go.goto d0_264 j0_264 ?_
  refine Go.istore d0_268 (ls' := [.val (.int x0), .val (.int x1), .val (.int x2), .val (.int x3), .val (.int x4), .val (.ref 0), .val (.ref 2), .val (.int (Int32.ofNat q)), .val (.int 1)]) rfl ?_
  refine Go.iload d0_270 rfl ?_
  refine Go.ifF d0_272 (XT.i0_eq_f (by decide)) ?_
  refine Go.aload d0_275 rfl rfl ?_
  refine Go.iconst d0_277 (v := 4) rfl ?_
  have fa10 := own_facts (a := 4) (b := 0) k9 (by decide) (by decide)
  obtain ⟨l10, el10⟩ : ∃ l, l = (own_sm 4 4 l9).2 := ⟨_, rfl⟩
  have k10 : own_okb l10 = true := by rw [el10]; exact fa10.1
  have r10 : own_R l10 = own_R l9 := by rw [el10]; exact fa10.2.2.1
  have gs10 : Go K m6 0 0 0 [.val (.ref 0), .val (.int 4), .unset] [] [.inl ("com/example/subsume/subsume/DisjointSets", [("links", "[I", .ref 1)]), .inr (.int, (own_lv l9)), .inr (.int, (own_lv (own_R l9)))] (some (.int (Int32.ofNat (own_sm 4 4 l9).1)), some [.inl ("com/example/subsume/subsume/DisjointSets", [("links", "[I", .ref 1)]), .inr (.int, (own_lv l10)), .inr (.int, (own_lv (own_R l10)))], 0, 0) := by rw [r10, el10]; exact go_smallest K hw _ l9 4 k9 (by decide)
  refine Go.callV (M' := m6) (i := 0) d0_278 rfl (hw _ (List.mem_of_getElem? (i := 43) rfl)) (hw _ (List.mem_of_getElem? (i := 28) rfl)) (hw _ (List.mem_of_getElem? (i := 2) rfl)) (hw _ (List.mem_of_getElem? (i := 27) rfl)) (hw _ (List.mem_of_getElem? (i := 29) rfl)) (hw _ (List.mem_of_getElem? (i := 30) rfl)) mi6 (as := [.int 4]) rfl rfl (st := []) rfl (ls1 := [.val (.ref 0), .val (.int 4), .unset]) rfl (W := 0) rfl (by decide) (by decide) gs10 13 117 (by decide) (by decide) ?_
  show Go _ _ _ _ 281 [.val (.int x0), .val (.int x1), .val (.int x2), .val (.int x3), .val (.int x4), .val (.ref 0), .val (.ref 2), .val (.int (Int32.ofNat q)), .val (.int 1)] [.int (Int32.ofNat (own_sm 4 4 l9).1)] [.inl ("com/example/subsume/subsume/DisjointSets", [("links", "[I", .ref 1)]), .inr (.int, (own_lv l10)), .inr (.int, (own_lv (own_R l10)))] _
  refine Go.aload d0_281 rfl rfl ?_
  refine Go.iconst d0_283 (v := 4) rfl ?_
  refine Go.iaload d0_284 rfl (by decide) (own_ldv0 (r10 ▸ fa10.2.2.2.2.2)) ?_
  refine Go.icmpF d0_285 (XT.ii_ne_f rfl) ?_
  refine Go.iconst d0_288 (v := 1) rfl ?_
  refine Go.goto d0_289 j0_289 ?_
  refine Go.istore d0_293 (ls' := [.val (.int x0), .val (.int x1), .val (.int x2), .val (.int x3), .val (.int x4), .val (.ref 0), .val (.ref 2), .val (.int (Int32.ofNat q)), .val (.int 1)]) rfl ?_
  refine Go.iload d0_295 rfl ?_
  exact Go.ireturnZ d0_297 rfl (by decide) rfl HOk.any
set_option maxRecDepth 65536 in
set_option maxHeartbeats 40000000 in
theorem comes_1 {Post : Tables → Env → Array Value → State → Outcome → State → Prop} (hpost : ∀ tb e args s v u, (limb_1_1.after args s (.returned v) u = true ∧ limb_1_2.after args s (.returned v) u = true ∧ True) → FrameEnd s (.returned v) u (Jvm.fieldLocs frame_1_writes args s ++ Jvm.arrayLocs frame_1_arrays args s ++ Jvm.staticLocs frame_1_statics s) 16 128 → Post tb e args s (.returned v) u) :
    ArmFor flags0 classFile x code maxLocals ret World_1 tables_1 room_1 Calls_1 rest_1 Pre_1 Post := by
  intro l hfl _ _ p e ha hc hk s m args below hf hA hF happ hP
  obtain ⟨hcalls, hrest, hpre⟩ := hP
  obtain ⟨-, -, -, hnamed, -, -, -, hat⟩ := (Spec.applies_iff hf).mp happ
  obtain ⟨hg, hn⟩ := and_e (Cond.before_iff.mp (show (Jvm.Cond.and given_1 narrow_1).before args s = true from hpre))
  obtain ⟨h1, g0⟩ := and_e hg
  obtain ⟨w0, w1, w2, w3, w4, rfl⟩ : ∃ w0 w1 w2 w3 w4 : Value, args = #[w0, w1, w2, w3, w4] := by
    have hs : args.size = 5 := by simpa [Cond.value, given_1] using h1
    obtain ⟨L⟩ := args
    match L, hs with
    | [w0, w1, w2, w3, w4], _ => exact ⟨w0, w1, w2, w3, w4, rfl⟩
  have hw := fun d (hd : d ∈ tables_1) => atoms_spec (ws := Jvm.Cond.code x code maxLocals ret :: tables_1) hat d (List.mem_cons_of_mem _ hd)
  obtain ⟨q0, g1⟩ := and_e g0
  obtain ⟨i0, e0⟩ := is_v q0
  obtain rfl : w0 = (.int i0) := Option.some.inj e0
  obtain ⟨q1, g2⟩ := and_e g1
  obtain ⟨i1, e1⟩ := is_v q1
  obtain rfl : w1 = (.int i1) := Option.some.inj e1
  obtain ⟨q2, g3⟩ := and_e g2
  obtain ⟨i2, e2⟩ := is_v q2
  obtain rfl : w2 = (.int i2) := Option.some.inj e2
  obtain ⟨q3, g4⟩ := and_e g3
  obtain ⟨i3, e3⟩ := is_v q3
  obtain rfl : w3 = (.int i3) := Option.some.inj e3
  obtain ⟨i4, e4⟩ := is_v g4
  obtain rfl : w4 = (.int i4) := Option.some.inj e4
  have gl := go_law (l, s, _, s.heap.size) hw i0 i1 i2 i3 i4
  obtain ⟨n, o, h1, h2, h3, _, L, rfl, ⟨rfl, -, N⟩, hq⟩ := Go.met (K := (l, s, _, s.heap.size)) (M := m0) (as := [.int i0, .int i1, .int i2, .int i3, .int i4]) (ws := tables_1) (rm := room_1) (rv := some (.int 1)) (h := s.heap) (H := []) (by decide +kernel) ⟨rfl, fun i o h => by simp at h⟩ rfl gl p e ha hc hk s m _ below hf ((Spec.applies_iff_loose hf).mp happ).1 ⟨rfl, State.Warmed39.refl s, rfl⟩ trivial
  refine ⟨n, _, h1, h2, h3, hpost _ _ _ _ _ _ ⟨Cond.after_iff.mpr rfl, Cond.after_iff.mpr (eq_i res_at (Term.int_eval (1)) rfl), trivial⟩ ⟨hq.1, hq.2.1, (hq.2.2.sift fun y hy => Or.inr (N y hy)).mono (by decide) (by decide)⟩⟩
theorem main_1_1 : Claimed_1_1 := comes_1 fun _ _ _ _ _ _ h hF => ⟨h.1, hF⟩
theorem main_1_2 : Claimed_1_2 := comes_1 fun _ _ _ _ _ _ h hF => ⟨h.2.1, hF⟩
end Jvm.Pilot.@@N@@
namespace Jvm.Pilot.@@N@@
open Jvm Jvm.ClassFile Sem Op Lib Jvm.Free Jvm.Stand Jvm.Pilot.@@N@@.Jvm.D
/-! MADE BY PROGRAM (witnessworld.py) out of the Statement's table words and the real class files: 10 classes; the members and pool entries that the words name. The judged class is class 1, her method 4. -/
namespace start1
open Jvm.ClassFile
def u (s : String) : CpInfo := .utf8 (stringToUtf16 s)
/-- a pool by its gaps: so many unusable entries, then the entry; so many at the end -/
def gap : Nat → List CpInfo → List CpInfo
  | 0, r => r
  | n + 1, r => .unusable :: gap n r
def poolList (es : List (Nat × CpInfo)) (last : Nat) : List CpInfo := es.foldr (fun e r => gap e.1 (e.2 :: r)) (gap last [])
def pool (es : List (Nat × CpInfo)) (last : Nat) : Array CpInfo := ⟨poolList es last⟩
def fileOf (pool : Array CpInfo) (this : Nat) (attrs : Array Attribute := #[]) (ms : Array MethodInfo := #[]) (fl : Nat := 33) (sup : Nat := 0) (ifs : Array Nat := #[]) (fds : Array FieldInfo := #[]) : ClassFile where
  minorVersion := 0
  majorVersion := 65
  constantPool := pool
  accessFlags := fl
  thisClass := this
  superClass := sup
  interfaces := ifs
  fields := fds
  methods := ms
  attributes := attrs
def plain (name : String) (sup : Option ClassId) : Class where
  name := name
  kind := .ordinary
  loader := none
  accessFlags := 33
  super := sup
  interfaces := #[]
  cf := none
  fields := #[]
  methods := #[]
  instanceTypes := #[]
  staticTypes := #[]
  resolved := #[]
  callSites := []
  init := .initialized
  statics := none
  mirror := none

def pool0 : Array CpInfo := pool [(5, u "<init>"), (0, u "()V"), (1, .class_ 10), (1, u "java/lang/Object")] 113

def k0c0 : Code := { maxStack := 0, maxLocals := 1, code := object_method_1_code, exceptionTable := #[], attributes := #[] }
def k0m0 : Method := { name := "<init>", desc := "()V", sig := { parameters := [], returnType := none }, accessFlags := 1, code := some k0c0 }
/-- java/lang/Object -/
def k0 : Class := { plain "java/lang/Object" none with
  accessFlags := 33
  interfaces := #[]
  cf := some (fileOf pool0 8 #[] #[{ accessFlags := 1, nameIndex := 5, descriptorIndex := 6, attributes := #[] }] 33 0 #[] #[])
  fields := #[]
  methods := #[k0m0]
  instanceTypes := #[]
  staticTypes := #[]
  resolved := Array.replicate 124 none
  statics := none }

def pool1 : Array CpInfo := pool [(2, .class_ 4), (1, u "java/lang/Object"), (0, u "<init>"), (0, u "()V"), (0, .integer 65535), (0, .methodref 9 10), (0, .class_ 11), (0, .nameAndType 12 13), (0, u "java/lang/Math"), (0, u "min"), (0, u "(II)I"), (0, .methodref 9 15), (0, .nameAndType 16 13), (0, u "max"), (0, .class_ 18), (0, u "com/example/subsume/subsume/DisjointSets"), (0, .methodref 17 20), (0, .nameAndType 5 21), (0, u "(I)V"), (0, .integer 2147483647), (0, .methodref 24 25), (0, .class_ 26), (0, .nameAndType 27 28), (0, u "com/example/subsume/subsume/DisjointSetsSmallestPinLaw"), (0, u "first"), (0, u "(I)I"), (0, .methodref 24 30), (0, .nameAndType 31 28), (0, u "second"), (0, .methodref 17 33), (0, .nameAndType 34 35), (0, u "join"), (0, u "(II)V"), (0, .methodref 24 37), (0, .nameAndType 38 39), (0, u "merge"), (0, u "([III)V"), (0, .methodref 17 41), (0, .nameAndType 42 28), (0, u "smallest"), (5, u "law"), (0, u "(IIIII)Z")] 2

def k1m0 : Method := { name := "<init>", desc := "()V", sig := { parameters := [], returnType := none }, accessFlags := 1, code := none }
def k1c1 : Code := { maxStack := 2, maxLocals := 1, code := method_2_code, exceptionTable := #[], attributes := #[] }
def k1m1 : Method := { name := "first", desc := "(I)I", sig := { parameters := [.int], returnType := some .int }, accessFlags := 10, code := some k1c1 }
def k1c2 : Code := { maxStack := 2, maxLocals := 1, code := method_3_code, exceptionTable := #[], attributes := #[] }
def k1m2 : Method := { name := "second", desc := "(I)I", sig := { parameters := [.int], returnType := some .int }, accessFlags := 10, code := some k1c2 }
def k1c3 : Code := { maxStack := 3, maxLocals := 7, code := method_4_code, exceptionTable := #[], attributes := #[] }
def k1m3 : Method := { name := "merge", desc := "([III)V", sig := { parameters := [(.array .int), .int, .int], returnType := none }, accessFlags := 10, code := some k1c3 }
def k1c4 : Code := { maxStack := 4, maxLocals := 9, code := code, exceptionTable := #[], attributes := #[] }
def k1m4 : Method := { name := "law", desc := "(IIIII)Z", sig := { parameters := [.int, .int, .int, .int, .int], returnType := some .boolean }, accessFlags := 9, code := some k1c4 }
/-- com/example/subsume/subsume/DisjointSetsSmallestPinLaw -/
def k1 : Class := { plain "com/example/subsume/subsume/DisjointSetsSmallestPinLaw" (some 0) with
  accessFlags := 49
  interfaces := #[]
  cf := some (fileOf pool1 24 #[] #[{ accessFlags := 1, nameIndex := 5, descriptorIndex := 6, attributes := #[] }, { accessFlags := 10, nameIndex := 27, descriptorIndex := 28, attributes := #[] }, { accessFlags := 10, nameIndex := 31, descriptorIndex := 28, attributes := #[] }, { accessFlags := 10, nameIndex := 38, descriptorIndex := 39, attributes := #[] }, { accessFlags := 9, nameIndex := 48, descriptorIndex := 49, attributes := #[] }] 49 2 #[] #[])
  fields := #[]
  methods := #[k1m0, k1m1, k1m2, k1m3, k1m4]
  instanceTypes := #[]
  staticTypes := #[]
  resolved := Array.replicate 52 none
  statics := none }

def pool2 : Array CpInfo := pool [(1, .methodref 2 3), (0, .class_ 4), (0, .nameAndType 5 6), (0, u "java/lang/Object"), (0, u "<init>"), (0, u "()V"), (0, .fieldref 8 9), (0, .class_ 10), (0, .nameAndType 11 12), (0, u "com/example/subsume/subsume/DisjointSets"), (0, u "links"), (0, u "[I"), (0, .methodref 8 14), (0, .nameAndType 15 16), (0, u "smallest"), (0, u "(I)I"), (0, .methodref 18 19), (0, .class_ 20), (0, .nameAndType 21 22), (0, u "java/lang/Math"), (0, u "max"), (0, u "(II)I"), (0, .methodref 18 24), (0, .nameAndType 25 22), (0, u "min"), (0, u "(I)V"), (3, u "join"), (0, u "(II)V")] 2

def k2c0 : Code := { maxStack := 3, maxLocals := 3, code := prog_20_method_1_code, exceptionTable := #[], attributes := #[] }
def k2m0 : Method := { name := "<init>", desc := "(I)V", sig := { parameters := [.int], returnType := none }, accessFlags := 0, code := some k2c0 }
def k2c1 : Code := { maxStack := 4, maxLocals := 5, code := prog_20_method_2_code, exceptionTable := #[], attributes := #[] }
def k2m1 : Method := { name := "join", desc := "(II)V", sig := { parameters := [.int, .int], returnType := none }, accessFlags := 0, code := some k2c1 }
def k2c2 : Code := { maxStack := 5, maxLocals := 3, code := prog_20_method_3_code, exceptionTable := #[], attributes := #[] }
def k2m2 : Method := { name := "smallest", desc := "(I)I", sig := { parameters := [.int], returnType := some .int }, accessFlags := 0, code := some k2c2 }
/-- com/example/subsume/subsume/DisjointSets -/
def k2 : Class := { plain "com/example/subsume/subsume/DisjointSets" (some 0) with
  accessFlags := 32
  interfaces := #[]
  cf := some (fileOf pool2 8 #[] #[{ accessFlags := 0, nameIndex := 5, descriptorIndex := 26, attributes := #[] }, { accessFlags := 0, nameIndex := 30, descriptorIndex := 31, attributes := #[] }, { accessFlags := 0, nameIndex := 15, descriptorIndex := 16, attributes := #[] }] 32 2 #[] #[{ accessFlags := 18, nameIndex := 11, descriptorIndex := 12, attributes := #[] }])
  fields := #[{ name := "links", type := (.array .int), accessFlags := 18, slot := 0, constantValue := 0 }]
  methods := #[k2m0, k2m1, k2m2]
  instanceTypes := #[(.array .int)]
  staticTypes := #[]
  resolved := Array.replicate 34 none
  statics := none }

def pool3 : Array CpInfo := pool [(1, .class_ 2), (0, u "java/lang/Math"), (1, .class_ 6), (1, u "java/lang/Object"), (0, u "<init>"), (0, u "()V"), (89, .class_ 100), (1, u "java/lang/Math$RandomNumberGeneratorHolder"), (71, u "negativeZeroFloatBits"), (0, u "J"), (2, u "negativeZeroDoubleBits"), (21, u "max"), (2, u "min"), (43, u "$assertionsDisabled"), (0, u "Z"), (88, u "(II)I"), (2, u "twoToTheDoubleScaleDown"), (0, u "D"), (4, u "twoToTheDoubleScaleUp"), (9, u "E"), (3, u "PI"), (2, u "TAU"), (2, u "DEGREES_TO_RADIANS"), (0, u "RADIANS_TO_DEGREES")] 94

def k3m0 : Method := { name := "<init>", desc := "()V", sig := { parameters := [], returnType := none }, accessFlags := 2, code := none }
def k3c1 : Code := { maxStack := 2, maxLocals := 2, code := jdk_29_method_65_code, exceptionTable := #[], attributes := #[] }
def k3m1 : Method := { name := "max", desc := "(II)I", sig := { parameters := [.int, .int], returnType := some .int }, accessFlags := 9, code := some k3c1 }
def k3c2 : Code := { maxStack := 2, maxLocals := 2, code := jdk_29_method_69_code, exceptionTable := #[], attributes := #[] }
def k3m2 : Method := { name := "min", desc := "(II)I", sig := { parameters := [.int, .int], returnType := some .int }, accessFlags := 9, code := some k3c2 }
/-- java/lang/Math -/
def k3 : Class := { plain "java/lang/Math" (some 0) with
  accessFlags := 49
  interfaces := #[]
  cf := some (fileOf pool3 1 #[.nestMembers #[98]] #[{ accessFlags := 2, nameIndex := 7, descriptorIndex := 8, attributes := #[] }, { accessFlags := 9, nameIndex := 198, descriptorIndex := 335, attributes := #[] }, { accessFlags := 9, nameIndex := 201, descriptorIndex := 335, attributes := #[] }] 49 4 #[] #[{ accessFlags := 25, nameIndex := 354, descriptorIndex := 339, attributes := #[] }, { accessFlags := 25, nameIndex := 358, descriptorIndex := 339, attributes := #[] }, { accessFlags := 25, nameIndex := 361, descriptorIndex := 339, attributes := #[] }, { accessFlags := 26, nameIndex := 364, descriptorIndex := 339, attributes := #[] }, { accessFlags := 26, nameIndex := 365, descriptorIndex := 339, attributes := #[] }, { accessFlags := 26, nameIndex := 172, descriptorIndex := 173, attributes := #[] }, { accessFlags := 26, nameIndex := 176, descriptorIndex := 173, attributes := #[] }, { accessFlags := 8, nameIndex := 344, descriptorIndex := 339, attributes := #[] }, { accessFlags := 8, nameIndex := 338, descriptorIndex := 339, attributes := #[] }, { accessFlags := 4120, nameIndex := 245, descriptorIndex := 246, attributes := #[] }])
  fields := #[{ name := "E", type := .double, accessFlags := 25, slot := 0, constantValue := 0 }, { name := "PI", type := .double, accessFlags := 25, slot := 1, constantValue := 0 }, { name := "TAU", type := .double, accessFlags := 25, slot := 2, constantValue := 0 }, { name := "DEGREES_TO_RADIANS", type := .double, accessFlags := 26, slot := 3, constantValue := 0 }, { name := "RADIANS_TO_DEGREES", type := .double, accessFlags := 26, slot := 4, constantValue := 0 }, { name := "negativeZeroFloatBits", type := .long, accessFlags := 26, slot := 5, constantValue := 0 }, { name := "negativeZeroDoubleBits", type := .long, accessFlags := 26, slot := 6, constantValue := 0 }, { name := "twoToTheDoubleScaleUp", type := .double, accessFlags := 8, slot := 7, constantValue := 0 }, { name := "twoToTheDoubleScaleDown", type := .double, accessFlags := 8, slot := 8, constantValue := 0 }, { name := "$assertionsDisabled", type := .boolean, accessFlags := 4120, slot := 9, constantValue := 0 }]
  methods := #[k3m0, k3m1, k3m2]
  instanceTypes := #[]
  staticTypes := #[.double, .double, .double, .double, .double, .long, .long, .double, .double, .boolean]
  resolved := Array.replicate 460 none
  statics := none }

def pool4 : Array CpInfo := pool [(1, u "java/lang/Cloneable"), (0, .class_ 1), (0, u "java/lang/Object"), (0, .class_ 3)] 3

/-- java/lang/Cloneable -/
def k4 : Class := { plain "java/lang/Cloneable" (some 0) with
  accessFlags := 1537
  interfaces := #[]
  cf := some (fileOf pool4 2 #[] #[] 1537 4 #[] #[])
  fields := #[]
  methods := #[]
  instanceTypes := #[]
  staticTypes := #[]
  resolved := Array.replicate 8 none
  statics := none }

def pool5 : Array CpInfo := pool [(1, u "java/io/Serializable"), (0, .class_ 1), (0, u "java/lang/Object"), (0, .class_ 3)] 3

/-- java/io/Serializable -/
def k5 : Class := { plain "java/io/Serializable" (some 0) with
  accessFlags := 1537
  interfaces := #[]
  cf := some (fileOf pool5 2 #[] #[] 1537 4 #[] #[])
  fields := #[]
  methods := #[]
  instanceTypes := #[]
  staticTypes := #[]
  resolved := Array.replicate 8 none
  statics := none }

/-- the primitive byte -/
def k6 : Class := { plain "byte" none with kind := .primitive 'B', accessFlags := 0x411 }
/-- [B -/
def k7 : Class := { plain "[B" (some 0) with kind := .array 6 .byte, interfaces := #[4, 5], accessFlags := 1041 }

/-- the primitive int -/
def k8 : Class := { plain "int" none with kind := .primitive 'I', accessFlags := 0x411 }
/-- [I -/
def k9 : Class := { plain "[I" (some 0) with kind := .array 8 .int, interfaces := #[4, 5], accessFlags := 1041 }

def heap : Heap := #[]
def classes : Array Class := #[k0, k1, k2, k3, k4, k5, k6, k7, k8, k9]
def interned : List (Array UInt16 × Addr) := []
def slotsUsed : Nat := 0
def theMethod : MethodId := ⟨1, 4⟩
def args0 : Array Value := #[.int 5, .int 7, .int 6, .int 1, .int 2]
def aboutOver (below : List Frame) : State where
  vm := { classes := classes, interned := interned.toArray }
  heap := heap
  slotsUsed := slotsUsed
  threads := #[{ frames := .invoking theMethod args0 :: below }]
def below0 : List Frame := [.native { method := ⟨0, 0⟩, args := #[] }]
def about1 : State := aboutOver below0
def p0 : Program := .bare "" "" ""
def e0 : Env := launch0.env 0 0 0
theorem w_frames : about1.frames = Frame.invoking theMethod args0 :: below0 := rfl
set_option maxRecDepth 65536 in
theorem w_args : argsFit about1.vm theMethod args0 = true := by decide +kernel
set_option maxRecDepth 65536 in
theorem w_heap : heapFits about1 = true := by decide +kernel
set_option maxRecDepth 65536 in
theorem w_runnable : about1.curStatus? = some .runnable := by decide +kernel
set_option maxRecDepth 65536 in
theorem w_alone : about1.alone = true := by decide +kernel
set_option maxRecDepth 65536 in
theorem w_named : about1.methodNamed? x = some theMethod := by decide +kernel
set_option maxRecDepth 65536 in
theorem w_hears : about1.hears theMethod below0 = true := by decide +kernel
set_option maxRecDepth 65536 in
theorem w_ripe : about1.ripe theMethod args0 below0 = true := by decide +kernel
theorem w_running : about1.status = .running := rfl
set_option maxRecDepth 65536 in
theorem w_room : about1.hasRoom e0.platform room_1 = true :=
  launch0.hasRoom_least _ room_1 (by decide +kernel) (by decide +kernel) (by decide +kernel) (by decide +kernel) (by decide +kernel) (by decide +kernel)
theorem allAtoms_all (ts : List Jvm.Cond) (a : Array Jvm.Value) (st : Jvm.State) : (allAtoms ts).before a st = ts.all (fun c => c.before a st) := by
  induction ts with
  | nil => rfl
  | cons c t ih =>
    show (Jvm.Cond.and c (allAtoms t)).before a st = _
    rw [Jvm.Cond.before_and, ih, List.all_cons]
def words1 : List Jvm.Cond := Jvm.Cond.code x code maxLocals ret :: tables_1
/-- a 'code' word, met by the world's own term for the bytes: nothing is compared byte by byte -/
theorem code_word {y : MethodName} {bytes : ByteArray} {mx : Nat} {rt : Option FieldType} {a : Array Value} {s : State} {m : MethodId} {meth : Method} {c : Code} (h1 : s.methodNamed? y = some m) (h2 : s.vm.method? m = some meth) (h3 : meth.code = some c) (h4 : c.code = bytes)
    (h5 : (c.maxLocals == mx && c.exceptionTable.isEmpty && decide (c.maxStack ≤ mostOperands) && decide (meth.sig.returnType = rt) && !meth.locks && decide (parseMethodDescriptor y.desc = some meth.sig)) = true) : (Jvm.Cond.code y bytes mx rt).before a s = true := by
  simp only [Bool.and_eq_true, beq_iff_eq, Bool.not_eq_true', decide_eq_true_eq] at h5
  obtain ⟨⟨⟨⟨⟨g1, g2⟩, g3⟩, g4⟩, g5⟩, g6⟩ := h5
  simp [Cond.before, Cond.holds, Cond.value, h1, h2, h3, h4, g1, g2, g3, g4, g5, g6]
def isCode : Jvm.Cond → Bool
  | .code _ _ _ _ => true
  | _ => false
theorem all_split {L : List Jvm.Cond} {P : Jvm.Cond → Bool} (h1 : L.all (fun c => isCode c || P c) = true) (h2 : ∀ c ∈ L.filter isCode, P c = true) : L.all P = true := by
  refine List.all_eq_true.mpr fun c hc => ?_
  have h := List.all_eq_true.mp h1 c hc
  rcases Bool.eq_false_or_eq_true (isCode c) with hi | hi
  · exact h2 c (List.mem_filter.mpr ⟨hc, hi⟩)
  · simpa [hi] using h
set_option maxRecDepth 65536 in
theorem w_c0 : (Jvm.Cond.code x code maxLocals ret).before args0 about1 = true := code_word (m := ⟨1, 4⟩) (meth := k1m4) (c := k1c4) (by decide +kernel) rfl rfl rfl (by decide +kernel)
set_option maxRecDepth 65536 in
theorem w_c1 : (Jvm.Cond.code ({ cls := "com/example/subsume/subsume/DisjointSets", name := "<init>", desc := "(I)V" } : Jvm.MethodName) prog_20_method_1_code (3 : Nat) (Option.none : Option Jvm.ClassFile.FieldType)).before args0 about1 = true := code_word (m := ⟨2, 0⟩) (meth := k2m0) (c := k2c0) (by decide +kernel) rfl rfl rfl (by decide +kernel)
set_option maxRecDepth 65536 in
theorem w_c2 : (Jvm.Cond.code ({ cls := "java/lang/Object", name := "<init>", desc := "()V" } : Jvm.MethodName) object_method_1_code (1 : Nat) (Option.none : Option Jvm.ClassFile.FieldType)).before args0 about1 = true := code_word (m := ⟨0, 0⟩) (meth := k0m0) (c := k0c0) (by decide +kernel) rfl rfl rfl (by decide +kernel)
set_option maxRecDepth 65536 in
theorem w_c3 : (Jvm.Cond.code ({ cls := "com/example/subsume/subsume/DisjointSetsSmallestPinLaw", name := "first", desc := "(I)I" } : Jvm.MethodName) method_2_code (1 : Nat) (Option.some Jvm.ClassFile.FieldType.int)).before args0 about1 = true := code_word (m := ⟨1, 1⟩) (meth := k1m1) (c := k1c1) (by decide +kernel) rfl rfl rfl (by decide +kernel)
set_option maxRecDepth 65536 in
theorem w_c4 : (Jvm.Cond.code ({ cls := "com/example/subsume/subsume/DisjointSetsSmallestPinLaw", name := "second", desc := "(I)I" } : Jvm.MethodName) method_3_code (1 : Nat) (Option.some Jvm.ClassFile.FieldType.int)).before args0 about1 = true := code_word (m := ⟨1, 2⟩) (meth := k1m2) (c := k1c2) (by decide +kernel) rfl rfl rfl (by decide +kernel)
set_option maxRecDepth 65536 in
theorem w_c5 : (Jvm.Cond.code ({ cls := "com/example/subsume/subsume/DisjointSets", name := "join", desc := "(II)V" } : Jvm.MethodName) prog_20_method_2_code (5 : Nat) (Option.none : Option Jvm.ClassFile.FieldType)).before args0 about1 = true := code_word (m := ⟨2, 1⟩) (meth := k2m1) (c := k2c1) (by decide +kernel) rfl rfl rfl (by decide +kernel)
set_option maxRecDepth 65536 in
theorem w_c6 : (Jvm.Cond.code ({ cls := "com/example/subsume/subsume/DisjointSets", name := "smallest", desc := "(I)I" } : Jvm.MethodName) prog_20_method_3_code (3 : Nat) (Option.some Jvm.ClassFile.FieldType.int)).before args0 about1 = true := code_word (m := ⟨2, 2⟩) (meth := k2m2) (c := k2c2) (by decide +kernel) rfl rfl rfl (by decide +kernel)
set_option maxRecDepth 65536 in
theorem w_c7 : (Jvm.Cond.code ({ cls := "java/lang/Math", name := "max", desc := "(II)I" } : Jvm.MethodName) jdk_29_method_65_code (2 : Nat) (Option.some Jvm.ClassFile.FieldType.int)).before args0 about1 = true := code_word (m := ⟨3, 1⟩) (meth := k3m1) (c := k3c1) (by decide +kernel) rfl rfl rfl (by decide +kernel)
set_option maxRecDepth 65536 in
theorem w_c8 : (Jvm.Cond.code ({ cls := "java/lang/Math", name := "min", desc := "(II)I" } : Jvm.MethodName) jdk_29_method_69_code (2 : Nat) (Option.some Jvm.ClassFile.FieldType.int)).before args0 about1 = true := code_word (m := ⟨3, 2⟩) (meth := k3m2) (c := k3c2) (by decide +kernel) rfl rfl rfl (by decide +kernel)
set_option maxRecDepth 65536 in
theorem w_c9 : (Jvm.Cond.code ({ cls := "com/example/subsume/subsume/DisjointSetsSmallestPinLaw", name := "merge", desc := "([III)V" } : Jvm.MethodName) method_4_code (7 : Nat) (Option.none : Option Jvm.ClassFile.FieldType)).before args0 about1 = true := code_word (m := ⟨1, 3⟩) (meth := k1m3) (c := k1c3) (by decide +kernel) rfl rfl rfl (by decide +kernel)
def codes1 : List Jvm.Cond := [Jvm.Cond.code x code maxLocals ret, Jvm.Cond.code ({ cls := "com/example/subsume/subsume/DisjointSets", name := "<init>", desc := "(I)V" } : Jvm.MethodName) prog_20_method_1_code (3 : Nat) (Option.none : Option Jvm.ClassFile.FieldType), Jvm.Cond.code ({ cls := "java/lang/Object", name := "<init>", desc := "()V" } : Jvm.MethodName) object_method_1_code (1 : Nat) (Option.none : Option Jvm.ClassFile.FieldType), Jvm.Cond.code ({ cls := "com/example/subsume/subsume/DisjointSetsSmallestPinLaw", name := "first", desc := "(I)I" } : Jvm.MethodName) method_2_code (1 : Nat) (Option.some Jvm.ClassFile.FieldType.int), Jvm.Cond.code ({ cls := "com/example/subsume/subsume/DisjointSetsSmallestPinLaw", name := "second", desc := "(I)I" } : Jvm.MethodName) method_3_code (1 : Nat) (Option.some Jvm.ClassFile.FieldType.int), Jvm.Cond.code ({ cls := "com/example/subsume/subsume/DisjointSets", name := "join", desc := "(II)V" } : Jvm.MethodName) prog_20_method_2_code (5 : Nat) (Option.none : Option Jvm.ClassFile.FieldType), Jvm.Cond.code ({ cls := "com/example/subsume/subsume/DisjointSets", name := "smallest", desc := "(I)I" } : Jvm.MethodName) prog_20_method_3_code (3 : Nat) (Option.some Jvm.ClassFile.FieldType.int), Jvm.Cond.code ({ cls := "java/lang/Math", name := "max", desc := "(II)I" } : Jvm.MethodName) jdk_29_method_65_code (2 : Nat) (Option.some Jvm.ClassFile.FieldType.int), Jvm.Cond.code ({ cls := "java/lang/Math", name := "min", desc := "(II)I" } : Jvm.MethodName) jdk_29_method_69_code (2 : Nat) (Option.some Jvm.ClassFile.FieldType.int), Jvm.Cond.code ({ cls := "com/example/subsume/subsume/DisjointSetsSmallestPinLaw", name := "merge", desc := "([III)V" } : Jvm.MethodName) method_4_code (7 : Nat) (Option.none : Option Jvm.ClassFile.FieldType)]
set_option maxRecDepth 65536 in
theorem codes_eq : words1.filter isCode = codes1 := rfl
theorem w_codes : ∀ c ∈ words1.filter isCode, c.before args0 about1 = true := by
  rw [codes_eq]
  intro c hc
  simp only [codes1, List.mem_cons, List.not_mem_nil, or_false] at hc
  rcases hc with rfl | rfl | rfl | rfl | rfl | rfl | rfl | rfl | rfl | rfl
  · exact w_c0
  · exact w_c1
  · exact w_c2
  · exact w_c3
  · exact w_c4
  · exact w_c5
  · exact w_c6
  · exact w_c7
  · exact w_c8
  · exact w_c9
set_option maxRecDepth 65536 in
theorem w_t1 : (words1.take 24).all (fun c => isCode c || c.before args0 about1) = true := by decide +kernel
set_option maxRecDepth 65536 in
theorem w_t2 : (words1.drop 24).all (fun c => isCode c || c.before args0 about1) = true := by decide +kernel
theorem w_tables : (allAtoms (Jvm.Cond.code x code maxLocals ret :: tables_1)).before args0 about1 = true := by
  rw [allAtoms_all]
  show words1.all (fun c => c.before args0 about1) = true
  refine all_split ?_ w_codes
  rw [← List.take_append_drop 24 words1, List.all_append, w_t1, w_t2]
  rfl
set_option maxRecDepth 65536 in
theorem w_case : (Jvm.Cond.and given_1 narrow_1).before args0 about1 = true := by decide +kernel
theorem w_applies : (headSpec (Jvm.Cond.code x code maxLocals ret :: tables_1) room_1).applies x e0.platform about1 = true :=
  (Spec.applies_iff w_frames).mpr ⟨w_running, w_runnable, w_alone, w_named, w_hears, w_ripe, w_room, w_tables⟩
theorem atStart : AtStart classFile x code maxLocals ret World_1 tables_1 room_1 Calls_1 rest_1 Pre_1 launch0 p0 e0 about1 theMethod args0 below0 :=
  ⟨lists_1, trivial, launch0.admits_env _ _ _, launch0.least_env, fairChoices_fair.cas, fairChoices_fair.clock, w_frames, w_args, w_heap, w_applies, trivial, trivial, w_case⟩
end start1
theorem witness_1 : WitnessClaimed_1 := ⟨start1.p0, start1.e0, start1.about1, start1.theMethod, start1.args0, start1.below0, start1.atStart⟩
end Jvm.Pilot.@@N@@
