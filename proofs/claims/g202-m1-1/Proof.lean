import JvmDerived
import JvmDerived.Pilot.@@N@@Statement
import JvmDerived.Pilot.@@N@@Code
set_option linter.unusedVariables false
set_option linter.unusedSimpArgs false
@@BLOCK:NumsL.lean.txt@@
namespace Jvm.OwnGo
open Jvm Sem ClassFile Op Lib Jvm.Stand Jvm.Free Jvm.LawKit Jvm.RoadKit
/-! ## 1. plain values: a reference is a place in the list of the objects that the law has made -/
def sv (n0 : Nat) : Value → Value
  | .ref a => .ref (n0 + a)
  | .int x => .int x
  | .long x => .long x
  | .null => .null
  | .float x => .float x
  | .double x => .double x
  | .retAddr x => .retAddr x
def ss (n0 : Nat) : Slot → Slot
  | .val v => .val (sv n0 v)
  | .unset => .unset
  | .second => .second
abbrev Obj := (String × List (String × String × Value)) ⊕ (FieldType × List Value)
abbrev Hp := List Obj
abbrev Ctx := Launch × State × Array Value × Nat
abbrev Mt := MethodName × ByteArray × Nat × Option FieldType
abbrev Res := Option Value × Option Hp × Nat × Nat
abbrev LL (n0 : Nat) (ls : List Slot) : Array Slot := (ls.map (ss n0)).toArray
abbrev SS (n0 : Nat) (st : List Value) : List Value := st.map (sv n0)
theorem sv_cat (n0 : Nat) (v : Value) : (sv n0 v).category = v.category := by cases v <;> rfl
theorem sv_ref (n0 : Nat) (v : Value) : (sv n0 v).isRef = v.isRef := by cases v <;> rfl
theorem LL_get {n0 : Nat} {ls : List Slot} {k : Nat} {x : Slot} (h : ls[k]? = some x) : (LL n0 ls)[k]? = some (ss n0 x) := by simp [LL, h]
theorem LL_size (n0 : Nat) (ls : List Slot) : (LL n0 ls).size = ls.length := by simp [LL]
theorem cats (n0 : Nat) (st : List Value) : ((SS n0 st).map fun v => v.category).sum = (st.map fun v => v.category).sum := by
  induction st with
  | nil => rfl
  | cons v r ih => simp only [SS, List.map_cons, List.sum_cons, sv_cat] at ih ⊢; rw [ih]
/-! ## 2. what an object of the list is in the heap -/
def COk (Z : State) (a0 : Array Value) (n0 : Nat) (h : Heap) (a : Addr) : Obj → Prop
  | .inl o => Exa Z h a o.1 ∧ (o.2.map (fun f => f.1)).Nodup ∧ ∀ f ∈ o.2, Laid Z a0 o.1 o.1 f.1 f.2.1 ∧ (∃ ty, parseFieldDescriptor f.2.1 = some ty) ∧ Fld Z h a o.1 f.1 f.2.1 (sv n0 f.2.2)
  | .inr o => Exa Z h a ("[" ++ o.1.toString) ∧ ∃ c : Cell, Arr Z h a c o.1 ∧ c.slots = (o.2.map (sv n0)).toArray
def Sim (K : Ctx) (h : Heap) (H : Hp) : Prop := h.size = K.2.2.2 + H.length ∧ ∀ (i : Nat) (o : Obj), H[i]? = some o → COk K.2.1 K.2.2.1 K.2.2.2 h (K.2.2.2 + i) o
theorem COk.ext {Z : State} {a0 : Array Value} {n0 : Nat} {h h' : Heap} {a : Addr} {o : Obj} (E : Ext h h') (C : COk Z a0 n0 h a o) : COk Z a0 n0 h' a o := by
  cases o with
  | inl o => exact ⟨C.1.ext E, C.2.1, fun f hf => ⟨(C.2.2 f hf).1, (C.2.2 f hf).2.1, (C.2.2 f hf).2.2.ext E⟩⟩
  | inr o => obtain ⟨e0, c, A, q⟩ := C; exact ⟨e0.ext E, c, A.ext E, q⟩
theorem COk.other {Z : State} {a0 : Array Value} {n0 : Nat} {h h' : Heap} {a b : Addr} {o : Obj} {sl : Nat} {v : Value} (W : Wr h h' b sl v) (ne : a ≠ b) (C : COk Z a0 n0 h a o) : COk Z a0 n0 h' a o := by
  cases o with
  | inl o => exact ⟨C.1.wr W, C.2.1, fun f hf => ⟨(C.2.2 f hf).1, (C.2.2 f hf).2.1, (C.2.2 f hf).2.2.other W (Or.inl ne)⟩⟩
  | inr o => obtain ⟨e0, c, A, q⟩ := C; exact ⟨e0.wr W, c, A.other W ne, q⟩
theorem Sim.push {K : Ctx} {h h' : Heap} {H : Hp} {o : Obj} (S : Sim K h H) (E : Ext h h') (hs : h'.size = h.size + 1) (C : COk K.2.1 K.2.2.1 K.2.2.2 h' (K.2.2.2 + H.length) o) : Sim K h' (H ++ [o]) := by
  refine ⟨by rw [hs, S.1, List.length_append]; rfl, fun i o' hi => ?_⟩
  by_cases q : i < H.length
  · rw [List.getElem?_append_left q] at hi
    exact (S.2 i o' hi).ext E
  · have hl := (List.getElem?_eq_some_iff.mp hi).1
    rw [List.length_append, List.length_singleton] at hl
    obtain rfl : i = H.length := by omega
    rw [List.getElem?_append_right (Nat.le_refl _), Nat.sub_self] at hi
    cases hi
    exact C
theorem Sim.set {K : Ctx} {h h' : Heap} {H : Hp} {o o' : Obj} {i sl : Nat} {v : Value} (S : Sim K h H) (W : Wr h h' (K.2.2.2 + i) sl v) (hi : H[i]? = some o) (C : COk K.2.1 K.2.2.1 K.2.2.2 h' (K.2.2.2 + i) o') : Sim K h' (H.set i o') := by
  refine ⟨by rw [W.size, S.1, List.length_set], fun j u hj => ?_⟩
  by_cases q : j = i
  · subst q
    rw [List.getElem?_set_self (List.getElem?_eq_some_iff.mp hi).1] at hj
    cases hj
    exact C
  · rw [List.getElem?_set_ne (Ne.symm q)] at hj
    exact (S.2 j u hj).other W (fun z => q (Nat.add_left_cancel z))
/-! ## 3. 'Go': from here the invocation comes to its end with r: the value, the objects, at the most so many cells and slots made -/
def FinH (K : Ctx) (h : Heap) (o : Option Hp) : Prop := ∀ H', o = some H' → Sim K h H'
def HOk (H : Hp) (o : Option Hp) : Prop := ∀ H', o = some H' → H = H'
theorem HOk.any {H : Hp} : HOk H none := fun _ h => nomatch h
theorem HOk.eq {H H' : Hp} (h : H = H') : HOk H (some H') := fun _ e => h.trans (Option.some.inj e)
theorem HOk.fin {K : Ctx} {h : Heap} {H : Hp} {o : Option Hp} (q : HOk H o) (S : Sim K h H) : FinH K h o := fun H' e => q H' e ▸ S
def Go (K : Ctx) (M : Mt) (F Lo : Nat) (pc : Nat) (ls : List Slot) (st : List Value) (H : Hp) (r : Res) : Prop :=
  ∀ (R : Room) (cells slots : Nat) (p : Program) (e : Env) (s : State) (m : MethodId) (args : Array Value) (below : List Frame) (meth : Method) (c : Code) (T : State) (locs : List Loc),
    F ≤ R.frames → Lo ≤ R.locals → cells + r.2.2.1 ≤ R.cells → slots + r.2.2.2 ≤ R.slots → p.tables.exec = Jvm.exec → K.2.1.Warmed39 s.vm → c.code = M.2.1 → c.maxLocals = M.2.2.1 → meth.sig.returnType = M.2.2.2 → meth.locks = false → s.vm.findClass M.1.cls = some m.cls → meth.name = M.1.name →
    Stand p K.1 e R s m args below meth c T locs cells slots → Sim K T.heap H → Fr K.2.2.2 locs →
    ∃ (s₂ : State) (L : List Loc), Steps p.tables e below (T.setTop (mkF m pc (LL K.2.2.2 ls) (SS K.2.2.2 st))) s₂ ∧ s₂.status = .running ∧ Ended s₂ below (.returned (r.1.map (sv K.2.2.2))) ∧ FinH K s₂.heap r.2.1 ∧ Fr K.2.2.2 L ∧ FrameEnd s (.returned (r.1.map (sv K.2.2.2))) s₂ L (cells + r.2.2.1) (slots + r.2.2.2)
def Dec (M : Mt) (pc : Nat) (i : Instr) (n pc' : Nat) : Prop := decode M.2.1 pc = .ok (i, n) ∧ pc + n = pc'
def Jmp (pc : Nat) (o : Int) (pc' : Nat) : Prop := 0 ≤ (pc : Int) + o ∧ ((pc : Int) + o).toNat = pc'
instance (M : Mt) (pc : Nat) (i : Instr) (n pc' : Nat) : Decidable (Dec M pc i n pc') := inferInstanceAs (Decidable (_ ∧ _))
instance (pc : Nat) (o : Int) (pc' : Nat) : Decidable (Jmp pc o pc') := inferInstanceAs (Decidable (_ ∧ _))
section G
variable {K : Ctx} {M : Mt} {F Lo pc pc' pt : Nat} {ls ls' : List Slot} {st st' : List Value} {H : Hp} {r : Res}
theorem Go.mono {F' Lo' : Nat} {rv : Option Value} {H' : Option Hp} {dc ds dc' ds' : Nat} (h : Go K M F Lo pc ls st H (rv, H', dc, ds)) (h1 : F ≤ F') (h2 : Lo ≤ Lo') (h3 : dc ≤ dc') (h4 : ds ≤ ds') : Go K M F' Lo' pc ls st H (rv, H', dc', ds') := by
  intro R cells slots p e s m args below meth c T locs a1 a2 a3 a4 b1 b2 b3 b4 b5 b6 b7 b8 X S N
  obtain ⟨s₂, L, q1, q2, q3, q4, q5, q6⟩ := h R cells slots p e s m args below meth c T locs (Nat.le_trans h1 a1) (Nat.le_trans h2 a2) (Nat.le_trans (Nat.add_le_add_left h3 _) a3) (Nat.le_trans (Nat.add_le_add_left h4 _) a4) b1 b2 b3 b4 b5 b6 b7 b8 X S N
  exact ⟨s₂, L, q1, q2, q3, q4, q5, q6.1, q6.2.1, q6.2.2.mono (Nat.add_le_add_left h3 _) (Nat.add_le_add_left h4 _)⟩
theorem Go.cast {r' : Res} (h : Go K M F Lo pc ls st H r) (e : r = r') : Go K M F Lo pc ls st H r' := e ▸ h
theorem Go.pureS (hs : ∀ {p : Program} {e : Env} {below : List Frame} {T target : State} {m : MethodId} {c : Code}, At T m c below → p.tables.exec = Jvm.exec → c.code = M.2.1 → Steps p.tables e below (T.setTop (mkF m pc' (LL K.2.2.2 ls') (SS K.2.2.2 st'))) target → Steps p.tables e below (T.setTop (mkF m pc (LL K.2.2.2 ls) (SS K.2.2.2 st))) target)
    (h : Go K M F Lo pc' ls' st' H r) : Go K M F Lo pc ls st H r := by
  intro R cells slots p e s m args below meth c T locs a1 a2 a3 a4 b1 b2 b3 b4 b5 b6 b7 b8 X S N
  obtain ⟨s₂, L, q1, q⟩ := h R cells slots p e s m args below meth c T locs a1 a2 a3 a4 b1 b2 b3 b4 b5 b6 b7 b8 X S N
  exact ⟨s₂, L, hs X.here b1 b3 q1, q⟩
theorem Dec.at {M : Mt} {pc n pc' : Nat} {i : Instr} (d : Dec M pc i n pc') {c : Code} (hc : c.code = M.2.1) : decode c.code pc = .ok (i, n) := hc ▸ d.1
/-! ## 4. one law a plain instruction -/
theorem rem_mod (x y : Int32) : x - (x / y) * y = x % y := irem_eq_mod x y
def setM (n0 : Nat) (A : Array Slot) : Array Slot := A.map (ss n0)
theorem setAt_map (n0 : Nat) (A : Array Slot) (i : Nat) (x : Slot) : setAt (setM n0 A) i (ss n0 x) = (setAt A i x).map (setM n0) := by
  simp only [setAt, setM, Array.size_map]
  split
  · show some ((A.map (ss n0)).setIfInBounds i (ss n0 x)) = some ((A.setIfInBounds i x).map (ss n0))
    rw [Array.map_setIfInBounds]
  · rfl
theorem setM_get (n0 : Nat) (A : Array Slot) (i : Nat) : (setM n0 A)[i]? = (A[i]?).map (ss n0) := by simp [setM]
theorem storeSelf_map (n0 : Nat) (A : Array Slot) (i : Nat) (v : Value) : storeSelf (setM n0 A) i (sv n0 v) = (storeSelf A i v).map (setM n0) := by
  have e0 : setAt (setM n0 A) i (.val (sv n0 v)) = (setAt A i (.val v)).map (setM n0) := setAt_map n0 A i (.val v)
  have eu : ∀ B j, setAt (setM n0 B) j .unset = (setAt B j .unset).map (setM n0) := fun B j => setAt_map n0 B j .unset
  have es : ∀ B j, setAt (setM n0 B) j .second = (setAt B j .second).map (setM n0) := fun B j => setAt_map n0 B j .second
  simp only [storeSelf, e0, sv_cat]
  cases setAt A i (.val v) with
  | none => rfl
  | some B =>
    simp only [Option.map_some, Option.bind_eq_bind, Option.bind_some, setM_get]
    split
    · cases B[i + 1]? with
      | none => rfl
      | some x =>
        cases x with
        | unset => simp only [Option.map_some, Option.bind_some, ss, es]
        | second => simp only [Option.map_some, Option.bind_some, ss, es]
        | val w =>
          simp only [Option.map_some, Option.bind_some, ss, sv_cat]
          split
          · rw [eu]
            cases setAt B (i + 2) .unset with
            | none => rfl
            | some D => simp only [Option.map_some, Option.bind_some, es]
          · rw [es]
    · rfl
theorem storeLocals_map (n0 : Nat) (A : Array Slot) (i : Nat) (v : Value) : storeLocals (setM n0 A) i (sv n0 v) = (storeLocals A i v).map (setM n0) := by
  have eu : ∀ B j, setAt (setM n0 B) j .unset = (setAt B j .unset).map (setM n0) := fun B j => setAt_map n0 B j .unset
  simp only [storeLocals, setM_get, Option.bind_eq_bind]
  cases A[i]? with
  | none => rfl
  | some x =>
    cases x with
    | unset => simp only [Option.map_some, Option.bind_some, ss, storeSelf_map]
    | second =>
      simp only [Option.map_some, Option.bind_some, ss, eu]
      cases setAt A (i - 1) .unset with
      | none => rfl
      | some D => simp only [Option.map_some, Option.bind_some, storeSelf_map]
    | val w =>
      simp only [Option.map_some, Option.bind_some, ss, sv_cat]
      split
      · rw [eu]
        cases setAt A (i + 1) .unset with
        | none => rfl
        | some D => simp only [Option.map_some, Option.bind_some, storeSelf_map]
      · rw [storeSelf_map]
def stl (ls : List Slot) (k : Nat) (v : Value) : Option (List Slot) := (storeLocals ls.toArray k v).map Array.toList
theorem stl_ok {n0 : Nat} {ls ls' : List Slot} {k : Nat} {v : Value} (h : stl ls k v = some ls') : storeLocals (LL n0 ls) k (sv n0 v) = some (LL n0 ls') := by
  have e : LL n0 ls = setM n0 ls.toArray := by simp [LL, setM]
  rw [e, storeLocals_map]
  simp only [stl] at h
  cases hq : storeLocals ls.toArray k v with
  | none => rw [hq] at h; cases h
  | some B =>
    rw [hq] at h
    cases h
    show some (setM n0 B) = some (LL n0 B.toList)
    congr 1
    apply Array.toList_inj.mp
    simp [LL, setM]
theorem Go.iloadN {k : Fin 4} {v : Int32} (hd : Dec M pc (.iload_n k) 1 pc') (hl : ls[k.val]? = some (.val (.int v))) (h : Go K M F Lo pc' ls (.int v :: st) H r) : Go K M F Lo pc ls st H r := by
  obtain ⟨hd, rfl⟩ := hd
  exact h.pureS fun A hx hc k => XS.iloadN A hx rfl (hc ▸ hd) (LL_get hl) k
theorem Go.iload {k : Nat} {v : Int32} (hd : Dec M pc (.iload k) 2 pc') (hl : ls[k]? = some (.val (.int v))) (h : Go K M F Lo pc' ls (.int v :: st) H r) : Go K M F Lo pc ls st H r := by
  obtain ⟨hd, rfl⟩ := hd
  exact h.pureS fun A hx hc k => XS.iload A hx rfl (hc ▸ hd) (LL_get hl) k
theorem Go.istoreN {k : Fin 4} {v : Int32} (hd : Dec M pc (.istore_n k) 1 pc') (hl : stl ls k.val (.int v) = some ls') (h : Go K M F Lo pc' ls' st H r) : Go K M F Lo pc ls (.int v :: st) H r := by
  obtain ⟨hd, rfl⟩ := hd
  exact h.pureS fun A hx hc k => XS.istoreN A hx rfl (hc ▸ hd) rfl (stl_ok (n0 := K.2.2.2) hl) k
theorem Go.istore {k : Nat} {v : Int32} (hd : Dec M pc (.istore k) 2 pc') (hl : stl ls k (.int v) = some ls') (h : Go K M F Lo pc' ls' st H r) : Go K M F Lo pc ls (.int v :: st) H r := by
  obtain ⟨hd, rfl⟩ := hd
  exact h.pureS fun A hx hc k => XS.istore A hx rfl (hc ▸ hd) rfl (stl_ok (n0 := K.2.2.2) hl) k
theorem Go.lloadN {k : Fin 4} {v : Int64} (hd : Dec M pc (.lload_n k) 1 pc') (hl : ls[k.val]? = some (.val (.long v))) (h : Go K M F Lo pc' ls (.long v :: st) H r) : Go K M F Lo pc ls st H r := by
  obtain ⟨hd, rfl⟩ := hd
  exact h.pureS fun A hx hc k => XT.lloadN A hx rfl (hc ▸ hd) (LL_get hl) k
theorem Go.lload {k : Nat} {v : Int64} (hd : Dec M pc (.lload k) 2 pc') (hl : ls[k]? = some (.val (.long v))) (h : Go K M F Lo pc' ls (.long v :: st) H r) : Go K M F Lo pc ls st H r := by
  obtain ⟨hd, rfl⟩ := hd
  exact h.pureS fun A hx hc k => XT.lload A hx rfl (hc ▸ hd) (LL_get hl) k
theorem Go.lstoreN {k : Fin 4} {v : Int64} (hd : Dec M pc (.lstore_n k) 1 pc') (hl : stl ls k.val (.long v) = some ls') (h : Go K M F Lo pc' ls' st H r) : Go K M F Lo pc ls (.long v :: st) H r := by
  obtain ⟨hd, rfl⟩ := hd
  exact h.pureS fun A hx hc k => XT.lstoreN A hx rfl (hc ▸ hd) rfl (stl_ok (n0 := K.2.2.2) hl) k
theorem Go.lstore {k : Nat} {v : Int64} (hd : Dec M pc (.lstore k) 2 pc') (hl : stl ls k (.long v) = some ls') (h : Go K M F Lo pc' ls' st H r) : Go K M F Lo pc ls (.long v :: st) H r := by
  obtain ⟨hd, rfl⟩ := hd
  exact h.pureS fun A hx hc k => XT.lstore A hx rfl (hc ▸ hd) rfl (stl_ok (n0 := K.2.2.2) hl) k
theorem Go.aloadN {k : Fin 4} {v : Value} (hd : Dec M pc (.aload_n k) 1 pc') (hl : ls[k.val]? = some (.val v)) (hv : v.isRef = true) (h : Go K M F Lo pc' ls (v :: st) H r) : Go K M F Lo pc ls st H r := by
  obtain ⟨hd, rfl⟩ := hd
  exact h.pureS fun A hx hc k => XS.aloadN A hx rfl (hc ▸ hd) (LL_get hl) (by rw [sv_ref]; exact hv) k
theorem Go.aload {k : Nat} {v : Value} (hd : Dec M pc (.aload k) 2 pc') (hl : ls[k]? = some (.val v)) (hv : v.isRef = true) (h : Go K M F Lo pc' ls (v :: st) H r) : Go K M F Lo pc ls st H r := by
  obtain ⟨hd, rfl⟩ := hd
  exact h.pureS fun A hx hc k => XS.aload A hx rfl (hc ▸ hd) (LL_get hl) (by rw [sv_ref]; exact hv) k
theorem Go.astoreN {k : Fin 4} {v : Value} (hd : Dec M pc (.astore_n k) 1 pc') (hl : stl ls k.val v = some ls') (hv : v.isRef = true) (h : Go K M F Lo pc' ls' st H r) : Go K M F Lo pc ls (v :: st) H r := by
  obtain ⟨hd, rfl⟩ := hd
  exact h.pureS fun A hx hc k => XS.astoreN A hx rfl (hc ▸ hd) rfl (by rw [sv_ref]; exact hv) (stl_ok (n0 := K.2.2.2) hl) k
theorem Go.astore {k : Nat} {v : Value} (hd : Dec M pc (.astore k) 2 pc') (hl : stl ls k v = some ls') (hv : v.isRef = true) (h : Go K M F Lo pc' ls' st H r) : Go K M F Lo pc ls (v :: st) H r := by
  obtain ⟨hd, rfl⟩ := hd
  exact h.pureS fun A hx hc k => XS.astore A hx rfl (hc ▸ hd) rfl (by rw [sv_ref]; exact hv) (stl_ok (n0 := K.2.2.2) hl) k
theorem Go.iconst {i : Int} {v : Int32} (hd : Dec M pc (.iconst i) 1 pc') (hv : Int32.ofInt i = v) (h : Go K M F Lo pc' ls (.int v :: st) H r) : Go K M F Lo pc ls st H r := by
  obtain ⟨hd, rfl⟩ := hd
  exact h.pureS fun A hx hc k => XT.iconstV A hx rfl v (hc ▸ hd) hv k
theorem Go.bipush {i : Int} {v : Int32} (hd : Dec M pc (.bipush i) 2 pc') (hv : (Int8.ofInt i).toInt32 = v) (h : Go K M F Lo pc' ls (.int v :: st) H r) : Go K M F Lo pc ls st H r := by
  obtain ⟨hd, rfl⟩ := hd
  exact h.pureS fun A hx hc k => XT.bipushV A hx rfl v (hc ▸ hd) hv k
theorem Go.sipush {i : Int} {v : Int32} (hd : Dec M pc (.sipush i) 3 pc') (hv : (Int16.ofInt i).toInt32 = v) (h : Go K M F Lo pc' ls (.int v :: st) H r) : Go K M F Lo pc ls st H r := by
  obtain ⟨hd, rfl⟩ := hd
  exact h.pureS fun A hx hc k => XT.sipushV A hx rfl v (hc ▸ hd) hv k
theorem Go.lconst {i : Fin 2} {v : Int64} (hd : Dec M pc (.lconst i) 1 pc') (hv : Int64.ofNat i = v) (h : Go K M F Lo pc' ls (.long v :: st) H r) : Go K M F Lo pc ls st H r := by
  obtain ⟨hd, rfl⟩ := hd
  exact h.pureS fun A hx hc k => XT.lconstV A hx rfl v (hc ▸ hd) hv k
theorem Go.aconstNull  (hd : Dec M pc .aconst_null 1 pc') (h : Go K M F Lo pc' ls (.null :: st) H r) : Go K M F Lo pc ls st H r := by
  obtain ⟨hd, rfl⟩ := hd
  exact h.pureS fun A hx hc k => XS.aconstNull A hx rfl (hc ▸ hd) k
theorem Go.iadd {x y : Int32} (hd : Dec M pc .iadd 1 pc') (h : Go K M F Lo pc' ls (.int (x + y) :: st) H r) : Go K M F Lo pc ls (.int y :: .int x :: st) H r := by
  obtain ⟨hd, rfl⟩ := hd
  exact h.pureS fun A hx hc k => XS.iadd A hx rfl (hc ▸ hd) rfl k
theorem Go.isub {x y : Int32} (hd : Dec M pc .isub 1 pc') (h : Go K M F Lo pc' ls (.int (x - y) :: st) H r) : Go K M F Lo pc ls (.int y :: .int x :: st) H r := by
  obtain ⟨hd, rfl⟩ := hd
  exact h.pureS fun A hx hc k => XS.isub A hx rfl (hc ▸ hd) rfl k
theorem Go.imul {x y : Int32} (hd : Dec M pc .imul 1 pc') (h : Go K M F Lo pc' ls (.int (x * y) :: st) H r) : Go K M F Lo pc ls (.int y :: .int x :: st) H r := by
  obtain ⟨hd, rfl⟩ := hd
  exact h.pureS fun A hx hc k => XS.imul A hx rfl (hc ▸ hd) rfl k
theorem Go.iand {x y : Int32} (hd : Dec M pc .iand 1 pc') (h : Go K M F Lo pc' ls (.int (x &&& y) :: st) H r) : Go K M F Lo pc ls (.int y :: .int x :: st) H r := by
  obtain ⟨hd, rfl⟩ := hd
  exact h.pureS fun A hx hc k => XS.iand A hx rfl (hc ▸ hd) rfl k
theorem Go.ior {x y : Int32} (hd : Dec M pc .ior 1 pc') (h : Go K M F Lo pc' ls (.int (x ||| y) :: st) H r) : Go K M F Lo pc ls (.int y :: .int x :: st) H r := by
  obtain ⟨hd, rfl⟩ := hd
  exact h.pureS fun A hx hc k => XT.ior A hx rfl (hc ▸ hd) rfl k
theorem Go.ixor {x y : Int32} (hd : Dec M pc .ixor 1 pc') (h : Go K M F Lo pc' ls (.int (x ^^^ y) :: st) H r) : Go K M F Lo pc ls (.int y :: .int x :: st) H r := by
  obtain ⟨hd, rfl⟩ := hd
  exact h.pureS fun A hx hc k => XT.ixor A hx rfl (hc ▸ hd) rfl k
theorem Go.ishl {x y : Int32} (hd : Dec M pc .ishl 1 pc') (h : Go K M F Lo pc' ls (.int (x <<< (y &&& 31)) :: st) H r) : Go K M F Lo pc ls (.int y :: .int x :: st) H r := by
  obtain ⟨hd, rfl⟩ := hd
  exact h.pureS fun A hx hc k => XT.ishl A hx rfl (hc ▸ hd) rfl k
theorem Go.ishr {x y : Int32} (hd : Dec M pc .ishr 1 pc') (h : Go K M F Lo pc' ls (.int (x >>> (y &&& 31)) :: st) H r) : Go K M F Lo pc ls (.int y :: .int x :: st) H r := by
  obtain ⟨hd, rfl⟩ := hd
  exact h.pureS fun A hx hc k => XT.ishr A hx rfl (hc ▸ hd) rfl k
theorem Go.iushr {x y : Int32} (hd : Dec M pc .iushr 1 pc') (h : Go K M F Lo pc' ls (.int (XT.ushr x y) :: st) H r) : Go K M F Lo pc ls (.int y :: .int x :: st) H r := by
  obtain ⟨hd, rfl⟩ := hd
  exact h.pureS fun A hx hc k => XT.iushr A hx rfl (hc ▸ hd) rfl k
theorem Go.irem {x y : Int32} (hd : Dec M pc .irem 1 pc') (hy : y ≠ 0) (h : Go K M F Lo pc' ls (.int (x % y) :: st) H r) : Go K M F Lo pc ls (.int y :: .int x :: st) H r := by
  obtain ⟨hd, rfl⟩ := hd
  exact h.pureS fun A hx hc k => XS.irem A hx rfl (hc ▸ hd) rfl hy (by rw [rem_mod]; exact k)
theorem Go.idiv {x y : Int32} (hd : Dec M pc .idiv 1 pc') (hy : y ≠ 0) (h : Go K M F Lo pc' ls (.int (x / y) :: st) H r) : Go K M F Lo pc ls (.int y :: .int x :: st) H r := by
  obtain ⟨hd, rfl⟩ := hd
  exact h.pureS fun A hx hc k => XS.idiv A hx rfl (hc ▸ hd) rfl hy k
theorem Go.ineg {x : Int32} (hd : Dec M pc .ineg 1 pc') (h : Go K M F Lo pc' ls (.int (-x) :: st) H r) : Go K M F Lo pc ls (.int x :: st) H r := by
  obtain ⟨hd, rfl⟩ := hd
  exact h.pureS fun A hx hc k => XS.ineg A hx rfl (hc ▸ hd) rfl k
theorem Go.iinc {i : Nat} {cst : Int} {v x : Int32} (hd : Dec M pc (.iinc i cst) 3 pc') (hv : Int32.ofInt cst = v) (hl : ls[i]? = some (.val (.int x))) (hl' : stl ls i (.int (x + v)) = some ls') (h : Go K M F Lo pc' ls' st H r) : Go K M F Lo pc ls st H r := by
  obtain ⟨hd, rfl⟩ := hd
  exact h.pureS fun A hx hc k => XT.iincV A hx rfl v (hc ▸ hd) hv (LL_get hl) (stl_ok (n0 := K.2.2.2) hl') k
theorem Go.ladd {x y : Int64} (hd : Dec M pc .ladd 1 pc') (h : Go K M F Lo pc' ls (.long (x + y) :: st) H r) : Go K M F Lo pc ls (.long y :: .long x :: st) H r := by
  obtain ⟨hd, rfl⟩ := hd
  exact h.pureS fun A hx hc k => XT.ladd A hx rfl (hc ▸ hd) rfl k
theorem Go.lsub {x y : Int64} (hd : Dec M pc .lsub 1 pc') (h : Go K M F Lo pc' ls (.long (x - y) :: st) H r) : Go K M F Lo pc ls (.long y :: .long x :: st) H r := by
  obtain ⟨hd, rfl⟩ := hd
  exact h.pureS fun A hx hc k => XT.lsub A hx rfl (hc ▸ hd) rfl k
theorem Go.lmul {x y : Int64} (hd : Dec M pc .lmul 1 pc') (h : Go K M F Lo pc' ls (.long (x * y) :: st) H r) : Go K M F Lo pc ls (.long y :: .long x :: st) H r := by
  obtain ⟨hd, rfl⟩ := hd
  exact h.pureS fun A hx hc k => XT.lmul A hx rfl (hc ▸ hd) rfl k
theorem Go.land {x y : Int64} (hd : Dec M pc .land 1 pc') (h : Go K M F Lo pc' ls (.long (x &&& y) :: st) H r) : Go K M F Lo pc ls (.long y :: .long x :: st) H r := by
  obtain ⟨hd, rfl⟩ := hd
  exact h.pureS fun A hx hc k => XT.land A hx rfl (hc ▸ hd) rfl k
theorem Go.lor {x y : Int64} (hd : Dec M pc .lor 1 pc') (h : Go K M F Lo pc' ls (.long (x ||| y) :: st) H r) : Go K M F Lo pc ls (.long y :: .long x :: st) H r := by
  obtain ⟨hd, rfl⟩ := hd
  exact h.pureS fun A hx hc k => XT.lor A hx rfl (hc ▸ hd) rfl k
theorem Go.lxor {x y : Int64} (hd : Dec M pc .lxor 1 pc') (h : Go K M F Lo pc' ls (.long (x ^^^ y) :: st) H r) : Go K M F Lo pc ls (.long y :: .long x :: st) H r := by
  obtain ⟨hd, rfl⟩ := hd
  exact h.pureS fun A hx hc k => XT.lxor A hx rfl (hc ▸ hd) rfl k
theorem Go.lshl {x : Int64} {y : Int32} (hd : Dec M pc .lshl 1 pc') (h : Go K M F Lo pc' ls (.long (x <<< (y.toInt64 &&& 63)) :: st) H r) : Go K M F Lo pc ls (.int y :: .long x :: st) H r := by
  obtain ⟨hd, rfl⟩ := hd
  exact h.pureS fun A hx hc k => XT.lshl A hx rfl (hc ▸ hd) rfl k
theorem Go.lshr {x : Int64} {y : Int32} (hd : Dec M pc .lshr 1 pc') (h : Go K M F Lo pc' ls (.long (x >>> (y.toInt64 &&& 63)) :: st) H r) : Go K M F Lo pc ls (.int y :: .long x :: st) H r := by
  obtain ⟨hd, rfl⟩ := hd
  exact h.pureS fun A hx hc k => XT.lshr A hx rfl (hc ▸ hd) rfl k
theorem Go.lushr {x : Int64} {y : Int32} (hd : Dec M pc .lushr 1 pc') (h : Go K M F Lo pc' ls (.long (XT.ushrL x y) :: st) H r) : Go K M F Lo pc ls (.int y :: .long x :: st) H r := by
  obtain ⟨hd, rfl⟩ := hd
  exact h.pureS fun A hx hc k => XT.lushr A hx rfl (hc ▸ hd) rfl k
theorem Go.lrem {x y : Int64} (hd : Dec M pc .lrem 1 pc') (hy : y ≠ 0) (h : Go K M F Lo pc' ls (.long (x % y) :: st) H r) : Go K M F Lo pc ls (.long y :: .long x :: st) H r := by
  obtain ⟨hd, rfl⟩ := hd
  exact h.pureS fun A hx hc k => XT.lrem A hx rfl (hc ▸ hd) rfl hy (by rw [lrem_mod]; exact k)
theorem Go.ldiv {x y : Int64} (hd : Dec M pc .ldiv 1 pc') (hy : y ≠ 0) (h : Go K M F Lo pc' ls (.long (x / y) :: st) H r) : Go K M F Lo pc ls (.long y :: .long x :: st) H r := by
  obtain ⟨hd, rfl⟩ := hd
  exact h.pureS fun A hx hc k => XT.ldiv A hx rfl (hc ▸ hd) rfl hy k
theorem Go.lneg {x : Int64} (hd : Dec M pc .lneg 1 pc') (h : Go K M F Lo pc' ls (.long (-x) :: st) H r) : Go K M F Lo pc ls (.long x :: st) H r := by
  obtain ⟨hd, rfl⟩ := hd
  exact h.pureS fun A hx hc k => XT.lneg A hx rfl (hc ▸ hd) rfl k
theorem Go.lcmp {x y : Int64} (hd : Dec M pc .lcmp 1 pc') (h : Go K M F Lo pc' ls (.int (XT.cmpL x y) :: st) H r) : Go K M F Lo pc ls (.long y :: .long x :: st) H r := by
  obtain ⟨hd, rfl⟩ := hd
  exact h.pureS fun A hx hc k => XT.lcmp A hx rfl (hc ▸ hd) rfl k
theorem Go.i2l {x : Int32} (hd : Dec M pc .i2l 1 pc') (h : Go K M F Lo pc' ls (.long x.toInt64 :: st) H r) : Go K M F Lo pc ls (.int x :: st) H r := by
  obtain ⟨hd, rfl⟩ := hd
  exact h.pureS fun A hx hc k => XT.i2l A hx rfl (hc ▸ hd) rfl k
theorem Go.l2i {x : Int64} (hd : Dec M pc .l2i 1 pc') (h : Go K M F Lo pc' ls (.int x.toInt32 :: st) H r) : Go K M F Lo pc ls (.long x :: st) H r := by
  obtain ⟨hd, rfl⟩ := hd
  exact h.pureS fun A hx hc k => XT.l2i A hx rfl (hc ▸ hd) rfl k
theorem Go.i2b {x : Int32} (hd : Dec M pc .i2b 1 pc') (h : Go K M F Lo pc' ls (.int x.toInt8.toInt32 :: st) H r) : Go K M F Lo pc ls (.int x :: st) H r := by
  obtain ⟨hd, rfl⟩ := hd
  exact h.pureS fun A hx hc k => XT.i2b A hx rfl (hc ▸ hd) rfl k
theorem Go.i2c {x : Int32} (hd : Dec M pc .i2c 1 pc') (h : Go K M F Lo pc' ls (.int x.toUInt32.toUInt16.toUInt32.toInt32 :: st) H r) : Go K M F Lo pc ls (.int x :: st) H r := by
  obtain ⟨hd, rfl⟩ := hd
  exact h.pureS fun A hx hc k => XT.i2c A hx rfl (hc ▸ hd) rfl k
theorem Go.i2s {x : Int32} (hd : Dec M pc .i2s 1 pc') (h : Go K M F Lo pc' ls (.int x.toInt16.toInt32 :: st) H r) : Go K M F Lo pc ls (.int x :: st) H r := by
  obtain ⟨hd, rfl⟩ := hd
  exact h.pureS fun A hx hc k => XT.i2s A hx rfl (hc ▸ hd) rfl k
theorem Go.pop {x : Value} (hd : Dec M pc .pop 1 pc') (hx1 : x.category = 1) (h : Go K M F Lo pc' ls st H r) : Go K M F Lo pc ls (x :: st) H r := by
  obtain ⟨hd, rfl⟩ := hd
  exact h.pureS fun A hx hc k => XT.pop A hx rfl (hc ▸ hd) rfl (by rw [sv_cat]; exact hx1) k
theorem Go.dup {x : Value} (hd : Dec M pc .dup 1 pc') (hx1 : x.category = 1) (h : Go K M F Lo pc' ls (x :: x :: st) H r) : Go K M F Lo pc ls (x :: st) H r := by
  obtain ⟨hd, rfl⟩ := hd
  exact h.pureS fun A hx hc k => XS.dup A hx rfl (hc ▸ hd) rfl (by rw [sv_cat]; exact hx1) k
theorem Go.dupX1 {x y : Value} (hd : Dec M pc .dup_x1 1 pc') (hx1 : x.category = 1) (hy1 : y.category = 1) (h : Go K M F Lo pc' ls (x :: y :: x :: st) H r) : Go K M F Lo pc ls (x :: y :: st) H r := by
  obtain ⟨hd, rfl⟩ := hd
  exact h.pureS fun A hx hc k => XT.dupX1 A hx rfl (hc ▸ hd) rfl (by rw [sv_cat]; exact hx1) (by rw [sv_cat]; exact hy1) k
theorem Go.dup2 {x y : Value} (hd : Dec M pc .dup2 1 pc') (hx1 : x.category = 1) (hy1 : y.category = 1) (h : Go K M F Lo pc' ls (x :: y :: x :: y :: st) H r) : Go K M F Lo pc ls (x :: y :: st) H r := by
  obtain ⟨hd, rfl⟩ := hd
  exact h.pureS fun A hx hc k => XT.dup2 A hx rfl (hc ▸ hd) rfl (by rw [sv_cat]; exact hx1) (by rw [sv_cat]; exact hy1) k
theorem Go.dup2L {x : Int64} (hd : Dec M pc .dup2 1 pc') (h : Go K M F Lo pc' ls (.long x :: .long x :: st) H r) : Go K M F Lo pc ls (.long x :: st) H r := by
  obtain ⟨hd, rfl⟩ := hd
  exact h.pureS fun A hx hc k => XT.dup2L A hx rfl (hc ▸ hd) rfl k
theorem hset_self {H : Hp} {i : Nat} {o o' : Obj} (h : H[i]? = some o) : (H.set i o')[i]? = some o' := List.getElem?_set_self (List.getElem?_eq_some_iff.mp h).1
theorem hset_ne {H : Hp} {i j : Nat} {o o' : Obj} (h : H[j]? = some o) (ne : i ≠ j) : (H.set i o')[j]? = some o := (List.getElem?_set_ne ne).trans h
theorem happ {H : Hp} {i : Nat} {o : Obj} (h : H[i]? = some o) (L : Hp) : (H ++ L)[i]? = some o := (List.getElem?_append_left (List.getElem?_eq_some_iff.mp h).1).trans h
theorem happ_last {H : Hp} {i : Nat} {o : Obj} (h : H.length = i) : (H ++ [o])[i]? = some o := by subst h; simp
theorem Go.goto {o : Int} (hd : Dec M pc (.goto o) 3 pc') (hj : Jmp pc o pt) (h : Go K M F Lo pt ls st H r) : Go K M F Lo pc ls st H r :=
  h.pureS fun A hx hc k => XS.goto A hx rfl rfl (hd.at hc) hj.1 hj.2 k
theorem Go.icmpT {cd : ClassFile.Cond} {x y : Int32} {o : Int} (hd : Dec M pc (.if_icmp cd o) 3 pc') (hj : Jmp pc o pt) (hv : if_icmp.holds cd x y = true) (h : Go K M F Lo pt ls st H r) : Go K M F Lo pc ls (.int y :: .int x :: st) H r :=
  h.pureS fun A hx hc k => XS.icmpYes A hx rfl rfl (hd.at hc) rfl hv hj.1 hj.2 k
theorem Go.icmpF {cd : ClassFile.Cond} {x y : Int32} {o : Int} (hd : Dec M pc (.if_icmp cd o) 3 pc') (hv : if_icmp.holds cd x y = false) (h : Go K M F Lo pc' ls st H r) : Go K M F Lo pc ls (.int y :: .int x :: st) H r := by
  obtain ⟨hd, rfl⟩ := hd
  exact h.pureS fun A hx hc k => XS.icmpNo A hx rfl (hc ▸ hd) rfl hv k
theorem Go.ifT {cd : ClassFile.Cond} {x : Int32} {o : Int} (hd : Dec M pc (.ifCond cd o) 3 pc') (hj : Jmp pc o pt) (hv : ifCond.holds cd x = true) (h : Go K M F Lo pt ls st H r) : Go K M F Lo pc ls (.int x :: st) H r :=
  h.pureS fun A hx hc k => XS.ifYes A hx rfl rfl (hd.at hc) rfl hv hj.1 hj.2 k
theorem Go.ifF {cd : ClassFile.Cond} {x : Int32} {o : Int} (hd : Dec M pc (.ifCond cd o) 3 pc') (hv : ifCond.holds cd x = false) (h : Go K M F Lo pc' ls st H r) : Go K M F Lo pc ls (.int x :: st) H r := by
  obtain ⟨hd, rfl⟩ := hd
  exact h.pureS fun A hx hc k => XS.ifNo A hx rfl (hc ▸ hd) rfl hv k
theorem Go.icmp_lt {x y : Int32} {o : Int} (hd : Dec M pc (.if_icmp .lt o) 3 pc') (hj : Jmp pc o pt) (hT : x < y → Go K M F Lo pt ls st H r) (hF : ¬ x < y → Go K M F Lo pc' ls st H r) : Go K M F Lo pc ls (.int y :: .int x :: st) H r := by
  by_cases q : x < y
  · exact Go.icmpT hd hj (XT.ii_lt_t q) (hT q)
  · exact Go.icmpF hd (XT.ii_lt_f q) (hF q)
theorem Go.if_lt {x : Int32} {o : Int} (hd : Dec M pc (.ifCond .lt o) 3 pc') (hj : Jmp pc o pt) (hT : x < 0 → Go K M F Lo pt ls st H r) (hF : ¬ x < 0 → Go K M F Lo pc' ls st H r) : Go K M F Lo pc ls (.int x :: st) H r := by
  by_cases q : x < 0
  · exact Go.ifT hd hj (XT.i0_lt_t q) (hT q)
  · exact Go.ifF hd (XT.i0_lt_f q) (hF q)
theorem Go.lif_lt {x y : Int64} {o : Int} (hd : Dec M pc (.ifCond .lt o) 3 pc') (hj : Jmp pc o pt) (hT : x < y → Go K M F Lo pt ls st H r) (hF : ¬ x < y → Go K M F Lo pc' ls st H r) : Go K M F Lo pc ls (.int (XT.cmpL x y) :: st) H r := by
  by_cases q : x < y
  · exact Go.ifT hd hj (XT.ll_lt_t q) (hT q)
  · exact Go.ifF hd (XT.ll_lt_f q) (hF q)
theorem Go.icmp_ge {x y : Int32} {o : Int} (hd : Dec M pc (.if_icmp .ge o) 3 pc') (hj : Jmp pc o pt) (hT : ¬ x < y → Go K M F Lo pt ls st H r) (hF : x < y → Go K M F Lo pc' ls st H r) : Go K M F Lo pc ls (.int y :: .int x :: st) H r := by
  by_cases q : x < y
  · exact Go.icmpF hd (XT.ii_ge_f q) (hF q)
  · exact Go.icmpT hd hj (XT.ii_ge_t q) (hT q)
theorem Go.if_ge {x : Int32} {o : Int} (hd : Dec M pc (.ifCond .ge o) 3 pc') (hj : Jmp pc o pt) (hT : ¬ x < 0 → Go K M F Lo pt ls st H r) (hF : x < 0 → Go K M F Lo pc' ls st H r) : Go K M F Lo pc ls (.int x :: st) H r := by
  by_cases q : x < 0
  · exact Go.ifF hd (XT.i0_ge_f q) (hF q)
  · exact Go.ifT hd hj (XT.i0_ge_t q) (hT q)
theorem Go.lif_ge {x y : Int64} {o : Int} (hd : Dec M pc (.ifCond .ge o) 3 pc') (hj : Jmp pc o pt) (hT : ¬ x < y → Go K M F Lo pt ls st H r) (hF : x < y → Go K M F Lo pc' ls st H r) : Go K M F Lo pc ls (.int (XT.cmpL x y) :: st) H r := by
  by_cases q : x < y
  · exact Go.ifF hd (XT.ll_ge_f q) (hF q)
  · exact Go.ifT hd hj (XT.ll_ge_t q) (hT q)
theorem Go.icmp_gt {x y : Int32} {o : Int} (hd : Dec M pc (.if_icmp .gt o) 3 pc') (hj : Jmp pc o pt) (hT : y < x → Go K M F Lo pt ls st H r) (hF : ¬ y < x → Go K M F Lo pc' ls st H r) : Go K M F Lo pc ls (.int y :: .int x :: st) H r := by
  by_cases q : y < x
  · exact Go.icmpT hd hj (XT.ii_gt_t q) (hT q)
  · exact Go.icmpF hd (XT.ii_gt_f q) (hF q)
theorem Go.if_gt {x : Int32} {o : Int} (hd : Dec M pc (.ifCond .gt o) 3 pc') (hj : Jmp pc o pt) (hT : 0 < x → Go K M F Lo pt ls st H r) (hF : ¬ 0 < x → Go K M F Lo pc' ls st H r) : Go K M F Lo pc ls (.int x :: st) H r := by
  by_cases q : 0 < x
  · exact Go.ifT hd hj (XT.i0_gt_t q) (hT q)
  · exact Go.ifF hd (XT.i0_gt_f q) (hF q)
theorem Go.lif_gt {x y : Int64} {o : Int} (hd : Dec M pc (.ifCond .gt o) 3 pc') (hj : Jmp pc o pt) (hT : y < x → Go K M F Lo pt ls st H r) (hF : ¬ y < x → Go K M F Lo pc' ls st H r) : Go K M F Lo pc ls (.int (XT.cmpL x y) :: st) H r := by
  by_cases q : y < x
  · exact Go.ifT hd hj (XT.ll_gt_t q) (hT q)
  · exact Go.ifF hd (XT.ll_gt_f q) (hF q)
theorem Go.icmp_le {x y : Int32} {o : Int} (hd : Dec M pc (.if_icmp .le o) 3 pc') (hj : Jmp pc o pt) (hT : ¬ y < x → Go K M F Lo pt ls st H r) (hF : y < x → Go K M F Lo pc' ls st H r) : Go K M F Lo pc ls (.int y :: .int x :: st) H r := by
  by_cases q : y < x
  · exact Go.icmpF hd (XT.ii_le_f q) (hF q)
  · exact Go.icmpT hd hj (XT.ii_le_t q) (hT q)
theorem Go.if_le {x : Int32} {o : Int} (hd : Dec M pc (.ifCond .le o) 3 pc') (hj : Jmp pc o pt) (hT : ¬ 0 < x → Go K M F Lo pt ls st H r) (hF : 0 < x → Go K M F Lo pc' ls st H r) : Go K M F Lo pc ls (.int x :: st) H r := by
  by_cases q : 0 < x
  · exact Go.ifF hd (XT.i0_le_f q) (hF q)
  · exact Go.ifT hd hj (XT.i0_le_t q) (hT q)
theorem Go.lif_le {x y : Int64} {o : Int} (hd : Dec M pc (.ifCond .le o) 3 pc') (hj : Jmp pc o pt) (hT : ¬ y < x → Go K M F Lo pt ls st H r) (hF : y < x → Go K M F Lo pc' ls st H r) : Go K M F Lo pc ls (.int (XT.cmpL x y) :: st) H r := by
  by_cases q : y < x
  · exact Go.ifF hd (XT.ll_le_f q) (hF q)
  · exact Go.ifT hd hj (XT.ll_le_t q) (hT q)
theorem Go.icmp_eq {x y : Int32} {o : Int} (hd : Dec M pc (.if_icmp .eq o) 3 pc') (hj : Jmp pc o pt) (hT : x = y → Go K M F Lo pt ls st H r) (hF : ¬ x = y → Go K M F Lo pc' ls st H r) : Go K M F Lo pc ls (.int y :: .int x :: st) H r := by
  by_cases q : x = y
  · exact Go.icmpT hd hj (XT.ii_eq_t q) (hT q)
  · exact Go.icmpF hd (XT.ii_eq_f q) (hF q)
theorem Go.if_eq {x : Int32} {o : Int} (hd : Dec M pc (.ifCond .eq o) 3 pc') (hj : Jmp pc o pt) (hT : x = 0 → Go K M F Lo pt ls st H r) (hF : ¬ x = 0 → Go K M F Lo pc' ls st H r) : Go K M F Lo pc ls (.int x :: st) H r := by
  by_cases q : x = 0
  · exact Go.ifT hd hj (XT.i0_eq_t q) (hT q)
  · exact Go.ifF hd (XT.i0_eq_f q) (hF q)
theorem Go.lif_eq {x y : Int64} {o : Int} (hd : Dec M pc (.ifCond .eq o) 3 pc') (hj : Jmp pc o pt) (hT : x = y → Go K M F Lo pt ls st H r) (hF : ¬ x = y → Go K M F Lo pc' ls st H r) : Go K M F Lo pc ls (.int (XT.cmpL x y) :: st) H r := by
  by_cases q : x = y
  · exact Go.ifT hd hj (XT.ll_eq_t q) (hT q)
  · exact Go.ifF hd (XT.ll_eq_f q) (hF q)
theorem Go.icmp_ne {x y : Int32} {o : Int} (hd : Dec M pc (.if_icmp .ne o) 3 pc') (hj : Jmp pc o pt) (hT : ¬ x = y → Go K M F Lo pt ls st H r) (hF : x = y → Go K M F Lo pc' ls st H r) : Go K M F Lo pc ls (.int y :: .int x :: st) H r := by
  by_cases q : x = y
  · exact Go.icmpF hd (XT.ii_ne_f q) (hF q)
  · exact Go.icmpT hd hj (XT.ii_ne_t q) (hT q)
theorem Go.if_ne {x : Int32} {o : Int} (hd : Dec M pc (.ifCond .ne o) 3 pc') (hj : Jmp pc o pt) (hT : ¬ x = 0 → Go K M F Lo pt ls st H r) (hF : x = 0 → Go K M F Lo pc' ls st H r) : Go K M F Lo pc ls (.int x :: st) H r := by
  by_cases q : x = 0
  · exact Go.ifF hd (XT.i0_ne_f q) (hF q)
  · exact Go.ifT hd hj (XT.i0_ne_t q) (hT q)
theorem Go.lif_ne {x y : Int64} {o : Int} (hd : Dec M pc (.ifCond .ne o) 3 pc') (hj : Jmp pc o pt) (hT : ¬ x = y → Go K M F Lo pt ls st H r) (hF : x = y → Go K M F Lo pc' ls st H r) : Go K M F Lo pc ls (.int (XT.cmpL x y) :: st) H r := by
  by_cases q : x = y
  · exact Go.ifF hd (XT.ll_ne_f q) (hF q)
  · exact Go.ifT hd hj (XT.ll_ne_t q) (hT q)
theorem Go.ifnullT {o : Int} (hd : Dec M pc (.ifnull o) 3 pc') (hj : Jmp pc o pt) (h : Go K M F Lo pt ls st H r) : Go K M F Lo pc ls (.null :: st) H r :=
  h.pureS fun A hx hc k => XS.ifnullYes A hx rfl rfl (hd.at hc) rfl hj.1 hj.2 k
theorem Go.ifnullF {i : Nat} {o : Int} (hd : Dec M pc (.ifnull o) 3 pc') (h : Go K M F Lo pc' ls st H r) : Go K M F Lo pc ls (.ref i :: st) H r := by
  obtain ⟨hd, rfl⟩ := hd
  exact h.pureS fun A hx hc k => XS.ifnullNo A hx rfl (hc ▸ hd) rfl k
theorem Go.ifnonnullT {i : Nat} {o : Int} (hd : Dec M pc (.ifnonnull o) 3 pc') (hj : Jmp pc o pt) (h : Go K M F Lo pt ls st H r) : Go K M F Lo pc ls (.ref i :: st) H r :=
  h.pureS fun A hx hc k => XT.ifnonnullYes A hx rfl rfl (hd.at hc) rfl hj.1 hj.2 k
theorem Go.ifnonnullF {o : Int} (hd : Dec M pc (.ifnonnull o) 3 pc') (h : Go K M F Lo pc' ls st H r) : Go K M F Lo pc ls (.null :: st) H r := by
  obtain ⟨hd, rfl⟩ := hd
  exact h.pureS fun A hx hc k => XT.ifnonnullNo A hx rfl (hc ▸ hd) rfl k
theorem sv_inj (n0 : Nat) {x y : Value} : sv n0 x = sv n0 y ↔ x = y := by
  cases x <;> cases y <;> simp [sv]
theorem acmp_sv (n0 : Nat) (cd : ClassFile.ACond) (x y : Value) : XT.acmp cd (sv n0 x) (sv n0 y) = XT.acmp cd x y := by
  cases cd <;> simp [XT.acmp, sv_inj]
theorem Go.acmpT {cd : ClassFile.ACond} {x y : Value} {o : Int} (hd : Dec M pc (.if_acmp cd o) 3 pc') (hj : Jmp pc o pt) (h1 : x.isRef = true) (h2 : y.isRef = true) (hv : XT.acmp cd x y = true) (h : Go K M F Lo pt ls st H r) : Go K M F Lo pc ls (y :: x :: st) H r :=
  h.pureS fun A hx hc k => XT.acmpYes A hx rfl rfl (hd.at hc) rfl (by rw [sv_ref]; exact h1) (by rw [sv_ref]; exact h2) (by rw [acmp_sv]; exact hv) hj.1 hj.2 k
theorem Go.acmpF {cd : ClassFile.ACond} {x y : Value} {o : Int} (hd : Dec M pc (.if_acmp cd o) 3 pc') (h1 : x.isRef = true) (h2 : y.isRef = true) (hv : XT.acmp cd x y = false) (h : Go K M F Lo pc' ls st H r) : Go K M F Lo pc ls (y :: x :: st) H r := by
  obtain ⟨hd, rfl⟩ := hd
  exact h.pureS fun A hx hc k => XT.acmpNo A hx rfl (hc ▸ hd) rfl (by rw [sv_ref]; exact h1) (by rw [sv_ref]; exact h2) (by rw [acmp_sv]; exact hv) k
/-! ## 5. constants of the pool -/
theorem Go.ldc {idx : Nat} {v : Int32} (hd : Dec M pc (.ldc idx) 2 pc') (w : (Cond.constant M.1.cls idx v).before K.2.2.1 K.2.1 = true) (h : Go K M F Lo pc' ls (.int v :: st) H r) : Go K M F Lo pc ls st H r := by
  obtain ⟨hd, rfl⟩ := hd
  intro R cells slots p e s m args below meth c T locs a1 a2 a3 a4 b1 b2 b3 b4 b5 b6 b7 b8 X S N
  obtain ⟨s₂, L, q1, q⟩ := h R cells slots p e s m args below meth c T locs a1 a2 a3 a4 b1 b2 b3 b4 b5 b6 b7 b8 X S N
  exact ⟨s₂, L, X.ldcI b1 b7 (mvT b2 w) rfl (b3 ▸ hd) q1, q⟩
theorem Go.ldc2 {idx : Nat} {v : Int64} (hd : Dec M pc (.ldc2_w idx) 3 pc') (w : (Cond.constantLong M.1.cls idx v).before K.2.2.1 K.2.1 = true) (h : Go K M F Lo pc' ls (.long v :: st) H r) : Go K M F Lo pc ls st H r := by
  obtain ⟨hd, rfl⟩ := hd
  intro R cells slots p e s m args below meth c T locs a1 a2 a3 a4 b1 b2 b3 b4 b5 b6 b7 b8 X S N
  obtain ⟨s₂, L, q1, q⟩ := h R cells slots p e s m args below meth c T locs a1 a2 a3 a4 b1 b2 b3 b4 b5 b6 b7 b8 X S N
  exact ⟨s₂, L, X.ldc2J b1 b7 (mvT b2 w) rfl (b3 ▸ hd) q1, q⟩
/-! ## 6. fields -/
theorem Go.getfield {idx i : Nat} (j : Nat) {C n d : String} {fs : List (String × String × Value)} {v : Value} (hd : Dec M pc (.getfield idx) 3 pc') (w : (Cond.fieldLink M.1.cls idx C n d).before K.2.2.1 K.2.1 = true) (hH : H[i]? = some (.inl (C, fs))) (hf : fs[j]? = some (n, d, v))
    (h : Go K M F Lo pc' ls (v :: st) H r) : Go K M F Lo pc ls (.ref i :: st) H r := by
  obtain ⟨hd, rfl⟩ := hd
  intro R cells slots p e s m args below meth c T locs a1 a2 a3 a4 b1 b2 b3 b4 b5 b6 b7 b8 X S N
  have C0 := S.2 i _ hH
  have Fl := (C0.2.2 _ (List.mem_of_getElem? hf)).2.2
  obtain ⟨T', X', e', stp⟩ := getF X b1 b2 b7 (host := "") (Or.inl w) Via.refl rfl Fl (g := mkF m pc (LL K.2.2.2 ls) (SS K.2.2.2 (.ref i :: st))) rfl rfl (b3 ▸ hd)
  obtain ⟨s₂, L, q1, q⟩ := h R cells slots p e s m args below meth c T' locs a1 a2 a3 a4 b1 b2 b3 b4 b5 b6 b7 b8 X' (e' ▸ S) N
  exact ⟨s₂, L, stp _ q1, q⟩
def PutOk (ty : FieldType) (v : Value) : Prop := ∀ n0, narrow ty (sv n0 v) = sv n0 v ∧ fits ty (sv n0 v) = true
theorem names_set {fs : List (String × String × Value)} {j : Nat} {n d : String} {v w : Value} (hf : fs[j]? = some (n, d, w)) : (fs.set j (n, d, v)).map (fun f => f.1) = fs.map (fun f => f.1) := by
  apply List.ext_getElem?
  intro k
  rw [List.getElem?_map, List.getElem?_map]
  by_cases q : j = k
  · subst q
    rw [List.getElem?_set_self (List.getElem?_eq_some_iff.mp hf).1, hf]; rfl
  · rw [List.getElem?_set_ne q]
theorem fields_set {K : Ctx} {h h' : Heap} {a : Addr} {C n d : String} {fs : List (String × String × Value)} {j : Nat} {v old : Value} {ty : FieldType} (Ck : COk K.2.1 K.2.2.1 K.2.2.2 h a (.inl (C, fs))) (hf : fs[j]? = some (n, d, old)) (hty : parseFieldDescriptor d = some ty)
    (L : Laid K.2.1 K.2.2.1 C C n d) (W : Wr h h' a (Jvm.RoadKit.slotOf K.2.1 C n d) (sv K.2.2.2 v)) : COk K.2.1 K.2.2.1 K.2.2.2 h' a (.inl (C, fs.set j (n, d, v))) := by
  obtain ⟨E, nd, al⟩ := Ck
  refine ⟨E.wr W, by rw [names_set hf]; exact nd, fun f hm => ?_⟩
  obtain ⟨k, hk⟩ := List.mem_iff_getElem?.mp hm
  by_cases q : j = k
  · subst q
    rw [List.getElem?_set_self (List.getElem?_eq_some_iff.mp hf).1] at hk
    cases hk
    exact ⟨L, ⟨ty, hty⟩, (al _ (List.mem_of_getElem? hf)).2.2.same W⟩
  · rw [List.getElem?_set_ne q] at hk
    obtain ⟨l1, ⟨t1, p1⟩, f1⟩ := al f (List.mem_of_getElem? hk)
    refine ⟨l1, ⟨t1, p1⟩, f1.other W (Or.inr (slot_ne l1 L ?_ p1 hty))⟩
    intro e
    have h1 : (fs.map (fun f => f.1))[k]? = some f.1 := by rw [List.getElem?_map, hk]; rfl
    have h2 : (fs.map (fun f => f.1))[j]? = some f.1 := by rw [List.getElem?_map, hf, e]; rfl
    exact q ((List.getElem?_inj (List.getElem?_eq_some_iff.mp h2).1 nd).mp (h2.trans h1.symm))
theorem Go.putfield {idx i kk : Nat} (j : Nat) {C n d : String} {ty : FieldType} {fs : List (String × String × Value)} {v old : Value} {H1 : Hp} (hd : Dec M pc (.putfield idx) 3 pc') (w : (Cond.fieldLink M.1.cls idx C n d).before K.2.2.1 K.2.1 = true)
    (wl : (Cond.lays C C n d).before K.2.2.1 K.2.1 = true ∨ ((Cond.laysFinal C C n d).before K.2.2.1 K.2.1 = true ∧ M.1.cls = C ∧ M.1.name = "<init>")) (wi : (Cond.instantiable C kk).before K.2.2.1 K.2.1 = true) (hty : parseFieldDescriptor d = some ty) (hv : PutOk ty v)
    (hH : H[i]? = some (.inl (C, fs))) (hf : fs[j]? = some (n, d, old)) (hH1 : H.set i (.inl (C, fs.set j (n, d, v))) = H1) (h : Go K M F Lo pc' ls st H1 r) : Go K M F Lo pc ls (v :: .ref i :: st) H r := by
  obtain ⟨hd, rfl⟩ := hd
  intro R cells slots p e s m args below meth c T locs a1 a2 a3 a4 b1 b2 b3 b4 b5 b6 b7 b8 X S N
  subst hH1
  have C0 := S.2 i _ hH
  have Fl := (C0.2.2 _ (List.mem_of_getElem? hf)).2.2
  have L0 : Laid K.2.1 K.2.2.1 C C n d := wl.imp id (fun q => q.1)
  obtain ⟨T', h', X', e', W, stp⟩ := putF X b1 b2 b7 (host := "") (Or.inl w) Via.refl rfl Fl C0.1 (wl.imp id (fun q => ⟨q.1, q.2.1, b8.trans q.2.2⟩)) wi hty (hv K.2.2.2).1 (hv K.2.2.2).2 (g := mkF m pc (LL K.2.2.2 ls) (SS K.2.2.2 (v :: .ref i :: st))) rfl rfl (b3 ▸ hd)
  subst e'
  obtain ⟨s₂, L, q1, q⟩ := h R cells slots p e s m args below meth c T' _ a1 a2 a3 a4 b1 b2 b3 b4 b5 b6 b7 b8 X' (S.set W hH (fields_set C0 hf hty L0 W)) (Fr.snoc X' N (Nat.le_add_right _ _))
  exact ⟨s₂, L, stp _ q1, q⟩
/-! ## 7. new -/
theorem sv_dflt (n0 : Nat) (ty : FieldType) : sv n0 (defaultValue ty) = defaultValue ty := by cases ty <;> rfl
theorem Go.new {idx k i : Nat} {C : String} (fs : List (String × String × Value)) {rv : Option Value} {H' : Option Hp} {dct dst : Nat} (hd : Dec M pc (.new idx) 3 pc') (w1 : (Cond.classLink M.1.cls idx C).before K.2.2.1 K.2.1 = true) (w2 : (Cond.instantiable C k).before K.2.2.1 K.2.1 = true) (w3 : (Cond.initialized C).before K.2.2.1 K.2.1 = true)
    (hnd : (fs.map (fun f => f.1)).Nodup) (hfs : ∀ f ∈ fs, Laid K.2.1 K.2.2.1 C C f.1 f.2.1 ∧ ∃ ty, parseFieldDescriptor f.2.1 = some ty ∧ f.2.2 = defaultValue ty) (hi : H.length = i)
    (dc ds : Nat) (hdc : dc + 1 ≤ dct) (hds : ds + k ≤ dst) (h : Go K M F Lo pc' ls (.ref i :: st) (H ++ [.inl (C, fs)]) (rv, H', dc, ds)) : Go K M F Lo pc ls st H (rv, H', dct, dst) := by
  obtain ⟨hd, rfl⟩ := hd
  intro R cells slots p e s m args below meth c T locs a1 a2 a3 a4 b1 b2 b3 b4 b5 b6 b7 b8 X S N
  subst hi
  have a3' : cells + dct ≤ R.cells := a3
  have a4' : slots + dst ≤ R.slots := a4
  obtain ⟨vm', cC, kC, h1, h2, h3, h4, X', stp⟩ := X.newCold b1 b7 (mv b2 w1) (mv b2 w2) (mv b2 w3) (g := mkF m pc (LL K.2.2.2 ls) (SS K.2.2.2 st)) rfl (b3 ▸ hd) (by omega) (by omega)
  rw [b2.alike.findClass] at h1
  obtain ⟨kZ, z1, -⟩ := Vm.findClass_spec h1
  obtain ⟨k', z2, z3⟩ := b2.alike.2.2 _ _ z1
  cases h2.symm.trans z2
  have ei : kC.instanceTypes = kZ.instanceTypes := by rw [z3]
  have hN : (T.heap.push { cls := cC, slots := kC.instanceTypes.map defaultValue, vm := .none })[T.heap.size]? = some { cls := cC, slots := kC.instanceTypes.map defaultValue, vm := .none } := by simp
  have E : Ext T.heap (T.heap.push { cls := cC, slots := kC.instanceTypes.map defaultValue, vm := .none }) := ⟨by simp, fun a c h => by
    rw [Array.getElem?_push_lt (Array.getElem?_eq_some_iff.mp h).1]; exact (Array.getElem?_eq_getElem _).symm.trans h⟩
  have S' : Sim K (T.heap.push { cls := cC, slots := kC.instanceTypes.map defaultValue, vm := .none }) (H ++ [.inl (C, fs)]) := by
    refine S.push E (by simp) ?_
    rw [← S.1]
    refine ⟨⟨_, kZ, hN, h1, z1, rfl, fun _ => by simp [ei]⟩, hnd, fun f hf => ?_⟩
    obtain ⟨Lf, ty, ht, hv⟩ := hfs f hf
    refine ⟨Lf, ⟨ty, ht⟩, ?_⟩
    rw [hv, sv_dflt]
    obtain ⟨c1, k1, cf, kf, i, f', y1, y2, y3, y4, y5, y6, -⟩ := Lf.spec
    cases h1.symm.trans y1
    cases z1.symm.trans y2
    exact ⟨_, cf, kf, i, f', hN, y3, y4, by simp, rfl, y5, by simp [ei, y6, (State.fieldFound?_type y3 ht).2]⟩
  obtain ⟨s₂, L, q1, q2, q3, q4, q5, q6⟩ := h R (cells + 1) (slots + k) p e s m args below meth c _ locs a1 a2 (by show cells + 1 + dc ≤ _; omega) (by show slots + k + ds ≤ _; omega) b1 b2 b3 b4 b5 b6 b7 b8 X' S' N
  refine ⟨s₂, L, stp _ ?_, q2, q3, q4, q5, q6.1, q6.2.1, q6.2.2.mono (by show cells + 1 + dc ≤ cells + dct; omega) (by show slots + k + ds ≤ slots + dst; omega)⟩
  have e : SS K.2.2.2 (.ref H.length :: st) = .ref T.heap.size :: SS K.2.2.2 st := by rw [S.1]; rfl
  rw [e] at q1
  exact q1
theorem Go.newarray {aty : ArrayType} {t : FieldType} {n : Int32} {i : Nat} (cap : Nat) {vs : List Value} {rv : Option Value} {H' : Option Hp} {dct dst : Nat} (hd : Dec M pc (.newarray aty) 2 pc') (w : (Cond.arrayClass (newarray.typeOf aty)).before K.2.2.1 K.2.1 = true) (ht : newarray.typeOf aty = t)
    (hn : ¬ n < 0) (hcap : n.toNatClampNeg ≤ cap) (hb : cap * 8 ≤ 536870912) (hvs : List.replicate n.toNatClampNeg (defaultValue t) = vs) (hi : H.length = i)
    (dc ds : Nat) (hdc : dc + 1 ≤ dct) (hds : ds + cap ≤ dst) (h : Go K M F Lo pc' ls (.ref i :: st) (H ++ [.inr (t, vs)]) (rv, H', dc, ds)) : Go K M F Lo pc ls (.int n :: st) H (rv, H', dct, dst) := by
  obtain ⟨hd, rfl⟩ := hd
  intro R cells slots p e s m args below meth c T locs a1 a2 a3 a4 b1 b2 b3 b4 b5 b6 b7 b8 X S N
  subst hi ht hvs
  have a3' : cells + dct ≤ R.cells := a3
  have a4' : slots + dst ≤ R.slots := a4
  have hcb : componentBytes (newarray.typeOf aty) ≤ 8 := by cases aty <;> decide
  obtain ⟨cA, kA, comp, h1, h2, h3, X', stp⟩ := X.newarrayPrim b1 (mvA b2 w) (g := mkF m pc (LL K.2.2.2 ls) (SS K.2.2.2 (.int n :: st))) rfl (b3 ▸ hd) (n := n) (rest := SS K.2.2.2 st) rfl hn (Nat.le_trans (Nat.mul_le_mul hcap hcb) hb) (by omega) (by omega)
  rw [b2.alike.findClass] at h1
  obtain ⟨kZ, z1, -⟩ := Vm.findClass_spec h1
  obtain ⟨k', z2, z3⟩ := b2.alike.2.2 _ _ z1
  cases h2.symm.trans z2
  have hN : (T.heap.push { cls := cA, slots := Array.replicate n.toNatClampNeg (defaultValue (newarray.typeOf aty)), vm := .none })[T.heap.size]? = some { cls := cA, slots := Array.replicate n.toNatClampNeg (defaultValue (newarray.typeOf aty)), vm := .none } := by simp
  have E : Ext T.heap (T.heap.push { cls := cA, slots := Array.replicate n.toNatClampNeg (defaultValue (newarray.typeOf aty)), vm := .none }) := ⟨by simp, fun a c h => by
    rw [Array.getElem?_push_lt (Array.getElem?_eq_some_iff.mp h).1]; exact (Array.getElem?_eq_getElem _).symm.trans h⟩
  have S' : Sim K (T.heap.push { cls := cA, slots := Array.replicate n.toNatClampNeg (defaultValue (newarray.typeOf aty)), vm := .none }) (H ++ [.inr (newarray.typeOf aty, List.replicate n.toNatClampNeg (defaultValue (newarray.typeOf aty)))]) := by
    refine S.push E (by simp) ?_
    rw [← S.1]
    refine ⟨⟨_, kZ, hN, h1, z1, rfl, fun q => ?_⟩, _, ⟨hN, ⟨by simp, kZ, z1, comp, by rw [← h3, z3]⟩, by simp⟩, ?_⟩
    · have q2 : kZ.kind = .array comp (newarray.typeOf aty) := by rw [← h3, z3]
      rw [q2] at q; cases q
    · simp [sv_dflt]
  obtain ⟨s₂, L, q1, q2, q3, q4, q5, q6⟩ := h R (cells + 1) (slots + cap) p e s m args below meth c _ locs a1 a2 (by show cells + 1 + dc ≤ _; omega) (by show slots + cap + ds ≤ _; omega) b1 b2 b3 b4 b5 b6 b7 b8 (X'.more (Nat.le_refl _) (by omega)) S' N
  refine ⟨s₂, L, stp _ ?_, q2, q3, q4, q5, q6.1, q6.2.1, q6.2.2.mono (by show cells + 1 + dc ≤ cells + dct; omega) (by show slots + cap + ds ≤ slots + dst; omega)⟩
  have e : SS K.2.2.2 (.ref H.length :: st) = .ref T.heap.size :: SS K.2.2.2 st := by rw [S.1]; rfl
  rw [e] at q1
  exact q1
/-! ## 8. arrays -/
theorem Go.arraylength {i : Nat} {t : FieldType} {vs : List Value} {z : Int32} (hd : Dec M pc .arraylength 1 pc') (hH : H[i]? = some (.inr (t, vs))) (hz : vs.length.toInt32 = z) (h : Go K M F Lo pc' ls (.int z :: st) H r) : Go K M F Lo pc ls (.ref i :: st) H r := by
  obtain ⟨hd, rfl⟩ := hd
  intro R cells slots p e s m args below meth c T locs a1 a2 a3 a4 b1 b2 b3 b4 b5 b6 b7 b8 X S N
  obtain ⟨Ex, cl, Ar, hc⟩ := S.2 i _ hH
  obtain ⟨s₂, L, q1, q⟩ := h R cells slots p e s m args below meth c T locs a1 a2 a3 a4 b1 b2 b3 b4 b5 b6 b7 b8 X S N
  refine ⟨s₂, L, X.arraylength b1 Ar.1 (State.isArrayOf_alike b2.alike Ar.2.1) (g := mkF m pc (LL K.2.2.2 ls) (SS K.2.2.2 (.ref i :: st))) rfl (rest := SS K.2.2.2 st) rfl (b3 ▸ hd) _ ?_, q⟩
  have e : cl.slots.size.toInt32 = z := by rw [hc, ← hz]; simp
  rw [e]; exact q1
theorem in_of {cl : Cell} {n0 : Nat} {vs : List Value} {j : Int32} {v : Value} (hc : cl.slots = (vs.map (sv n0)).toArray) (hj : ¬ j < 0) (hv : vs[j.toNatClampNeg]? = some v) : ¬ (j < 0 ∨ cl.slots.size ≤ j.toNatClampNeg) ∧ cl.slots[j.toNatClampNeg]? = some (sv n0 v) := by
  have hl := (List.getElem?_eq_some_iff.mp hv).1
  refine ⟨?_, by rw [hc]; simp [hv]⟩
  rintro (q | q)
  · exact hj q
  · rw [hc] at q; simp at q; omega
theorem Go.iaload {i : Nat} {vs : List Value} {j : Int32} {v : Value} (hd : Dec M pc .iaload 1 pc') (hH : H[i]? = some (.inr (.int, vs))) (hj : ¬ j < 0) (hv : vs[j.toNatClampNeg]? = some v) (h : Go K M F Lo pc' ls (v :: st) H r) : Go K M F Lo pc ls (.int j :: .ref i :: st) H r := by
  obtain ⟨hd, rfl⟩ := hd
  intro R cells slots p e s m args below meth c T locs a1 a2 a3 a4 b1 b2 b3 b4 b5 b6 b7 b8 X S N
  obtain ⟨Ex, cl, Ar, hc⟩ := S.2 i _ hH
  obtain ⟨hin, hat⟩ := in_of hc hj hv
  obtain ⟨s₂, L, q1, q⟩ := h R cells slots p e s m args below meth c T locs a1 a2 a3 a4 b1 b2 b3 b4 b5 b6 b7 b8 X S N
  exact ⟨s₂, L, X.iaload b1 Ar.1 (State.isArrayOf_alike b2.alike Ar.2.1) Ar.2.2 hin hat (g := mkF m pc (LL K.2.2.2 ls) (SS K.2.2.2 (.int j :: .ref i :: st))) rfl (rest := SS K.2.2.2 st) rfl (b3 ▸ hd) _ q1, q⟩
theorem Go.laload {i : Nat} {vs : List Value} {j : Int32} {v : Value} (hd : Dec M pc .laload 1 pc') (hH : H[i]? = some (.inr (.long, vs))) (hj : ¬ j < 0) (hv : vs[j.toNatClampNeg]? = some v) (h : Go K M F Lo pc' ls (v :: st) H r) : Go K M F Lo pc ls (.int j :: .ref i :: st) H r := by
  obtain ⟨hd, rfl⟩ := hd
  intro R cells slots p e s m args below meth c T locs a1 a2 a3 a4 b1 b2 b3 b4 b5 b6 b7 b8 X S N
  obtain ⟨Ex, cl, Ar, hc⟩ := S.2 i _ hH
  obtain ⟨hin, hat⟩ := in_of hc hj hv
  obtain ⟨s₂, L, q1, q⟩ := h R cells slots p e s m args below meth c T locs a1 a2 a3 a4 b1 b2 b3 b4 b5 b6 b7 b8 X S N
  exact ⟨s₂, L, X.laload b1 Ar.1 (State.isArrayOf_alike b2.alike Ar.2.1) Ar.2.2 hin hat (g := mkF m pc (LL K.2.2.2 ls) (SS K.2.2.2 (.int j :: .ref i :: st))) rfl (rest := SS K.2.2.2 st) rfl (b3 ▸ hd) _ q1, q⟩
theorem Go.caload {i : Nat} {vs : List Value} {j : Int32} {v : Value} (hd : Dec M pc .caload 1 pc') (hH : H[i]? = some (.inr (.char, vs))) (hj : ¬ j < 0) (hv : vs[j.toNatClampNeg]? = some v) (h : Go K M F Lo pc' ls (v :: st) H r) : Go K M F Lo pc ls (.int j :: .ref i :: st) H r := by
  obtain ⟨hd, rfl⟩ := hd
  intro R cells slots p e s m args below meth c T locs a1 a2 a3 a4 b1 b2 b3 b4 b5 b6 b7 b8 X S N
  obtain ⟨Ex, cl, Ar, hc⟩ := S.2 i _ hH
  obtain ⟨hin, hat⟩ := in_of hc hj hv
  obtain ⟨s₂, L, q1, q⟩ := h R cells slots p e s m args below meth c T locs a1 a2 a3 a4 b1 b2 b3 b4 b5 b6 b7 b8 X S N
  exact ⟨s₂, L, X.caload b1 Ar.1 (State.isArrayOf_alike b2.alike Ar.2.1) Ar.2.2 hin hat (g := mkF m pc (LL K.2.2.2 ls) (SS K.2.2.2 (.int j :: .ref i :: st))) rfl (rest := SS K.2.2.2 st) rfl (b3 ▸ hd) _ q1, q⟩
theorem Go.baload {i : Nat} {vs : List Value} {j : Int32} {v : Value} (hd : Dec M pc .baload 1 pc') (hH : H[i]? = some (.inr (.byte, vs))) (hj : ¬ j < 0) (hv : vs[j.toNatClampNeg]? = some v) (h : Go K M F Lo pc' ls (v :: st) H r) : Go K M F Lo pc ls (.int j :: .ref i :: st) H r := by
  obtain ⟨hd, rfl⟩ := hd
  intro R cells slots p e s m args below meth c T locs a1 a2 a3 a4 b1 b2 b3 b4 b5 b6 b7 b8 X S N
  obtain ⟨Ex, cl, Ar, hc⟩ := S.2 i _ hH
  obtain ⟨hin, hat⟩ := in_of hc hj hv
  obtain ⟨s₂, L, q1, q⟩ := h R cells slots p e s m args below meth c T locs a1 a2 a3 a4 b1 b2 b3 b4 b5 b6 b7 b8 X S N
  exact ⟨s₂, L, X.baloadBytes b1 Ar.1 (State.isArrayOf_alike b2.alike Ar.2.1) Ar.2.2 hin hat (g := mkF m pc (LL K.2.2.2 ls) (SS K.2.2.2 (.int j :: .ref i :: st))) rfl (rest := SS K.2.2.2 st) rfl (b3 ▸ hd) _ q1, q⟩
theorem arr_set {K : Ctx} {h h' : Heap} {a : Addr} {cl : Cell} {t : FieldType} {vs : List Value} {k : Nat} {v : Value} (Ex : Exa K.2.1 h a ("[" ++ t.toString)) (Ar : Arr K.2.1 h a cl t) (hc : cl.slots = (vs.map (sv K.2.2.2)).toArray) (W : Wr h h' a k (sv K.2.2.2 v)) : COk K.2.1 K.2.2.1 K.2.2.2 h' a (.inr (t, vs.set k v)) :=
  ⟨Ex.wr W, _, Ar.same W, by simp [Cell.setSlot, hc, List.map_set]⟩
theorem Go.iastore {i : Nat} {vs : List Value} {j : Int32} {x : Int32} {H1 : Hp} (hd : Dec M pc .iastore 1 pc') (hH : H[i]? = some (.inr (.int, vs))) (hj : ¬ j < 0) (hl : j.toNatClampNeg < vs.length) (hH1 : H.set i (.inr (.int, vs.set j.toNatClampNeg (.int x))) = H1) (h : Go K M F Lo pc' ls st H1 r) : Go K M F Lo pc ls (.int x :: .int j :: .ref i :: st) H r := by
  obtain ⟨hd, rfl⟩ := hd
  intro R cells slots p e s m args below meth c T locs a1 a2 a3 a4 b1 b2 b3 b4 b5 b6 b7 b8 X S N
  subst hH1
  obtain ⟨Ex, cl, Ar, hc⟩ := S.2 i _ hH
  have hin : ¬ (j < 0 ∨ cl.slots.size ≤ j.toNatClampNeg) := by
    rintro (q | q)
    · exact hj q
    · rw [hc] at q; simp at q; omega
  obtain ⟨T', h', X', e', W, stp⟩ := stI X b1 b2 rfl Ar hin (g := mkF m pc (LL K.2.2.2 ls) (SS K.2.2.2 (.int x :: .int j :: .ref i :: st))) rfl (rest := SS K.2.2.2 st) rfl (b3 ▸ hd)
  subst e'
  obtain ⟨s₂, L, q1, q⟩ := h R cells slots p e s m args below meth c T' _ a1 a2 a3 a4 b1 b2 b3 b4 b5 b6 b7 b8 X' (S.set W hH (arr_set (v := .int x) Ex Ar hc W)) (Fr.snoc X' N (Nat.le_add_right _ _))
  exact ⟨s₂, L, stp _ q1, q⟩
theorem Go.lastore {i : Nat} {vs : List Value} {j : Int32} {x : Int64} {H1 : Hp} (hd : Dec M pc .lastore 1 pc') (hH : H[i]? = some (.inr (.long, vs))) (hj : ¬ j < 0) (hl : j.toNatClampNeg < vs.length) (hH1 : H.set i (.inr (.long, vs.set j.toNatClampNeg (.long x))) = H1) (h : Go K M F Lo pc' ls st H1 r) : Go K M F Lo pc ls (.long x :: .int j :: .ref i :: st) H r := by
  obtain ⟨hd, rfl⟩ := hd
  intro R cells slots p e s m args below meth c T locs a1 a2 a3 a4 b1 b2 b3 b4 b5 b6 b7 b8 X S N
  subst hH1
  obtain ⟨Ex, cl, Ar, hc⟩ := S.2 i _ hH
  have hin : ¬ (j < 0 ∨ cl.slots.size ≤ j.toNatClampNeg) := by
    rintro (q | q)
    · exact hj q
    · rw [hc] at q; simp at q; omega
  obtain ⟨T', h', X', e', W, stp⟩ := stJ X b1 b2 rfl Ar hin (g := mkF m pc (LL K.2.2.2 ls) (SS K.2.2.2 (.long x :: .int j :: .ref i :: st))) rfl (rest := SS K.2.2.2 st) rfl (b3 ▸ hd)
  subst e'
  obtain ⟨s₂, L, q1, q⟩ := h R cells slots p e s m args below meth c T' _ a1 a2 a3 a4 b1 b2 b3 b4 b5 b6 b7 b8 X' (S.set W hH (arr_set (v := .long x) Ex Ar hc W)) (Fr.snoc X' N (Nat.le_add_right _ _))
  exact ⟨s₂, L, stp _ q1, q⟩
theorem Go.castore {i : Nat} {vs : List Value} {j : Int32} {x : Int32} {H1 : Hp} (hd : Dec M pc .castore 1 pc') (hH : H[i]? = some (.inr (.char, vs))) (hj : ¬ j < 0) (hl : j.toNatClampNeg < vs.length) (hH1 : H.set i (.inr (.char, vs.set j.toNatClampNeg (.int (nar .char x)))) = H1) (h : Go K M F Lo pc' ls st H1 r) : Go K M F Lo pc ls (.int x :: .int j :: .ref i :: st) H r := by
  obtain ⟨hd, rfl⟩ := hd
  intro R cells slots p e s m args below meth c T locs a1 a2 a3 a4 b1 b2 b3 b4 b5 b6 b7 b8 X S N
  subst hH1
  obtain ⟨Ex, cl, Ar, hc⟩ := S.2 i _ hH
  have hin : ¬ (j < 0 ∨ cl.slots.size ≤ j.toNatClampNeg) := by
    rintro (q | q)
    · exact hj q
    · rw [hc] at q; simp at q; omega
  obtain ⟨T', h', X', e', W, stp⟩ := stC X b1 b2 rfl Ar hin (g := mkF m pc (LL K.2.2.2 ls) (SS K.2.2.2 (.int x :: .int j :: .ref i :: st))) rfl (rest := SS K.2.2.2 st) rfl (b3 ▸ hd)
  subst e'
  obtain ⟨s₂, L, q1, q⟩ := h R cells slots p e s m args below meth c T' _ a1 a2 a3 a4 b1 b2 b3 b4 b5 b6 b7 b8 X' (S.set W hH (arr_set (v := .int (nar .char x)) Ex Ar hc W)) (Fr.snoc X' N (Nat.le_add_right _ _))
  exact ⟨s₂, L, stp _ q1, q⟩
theorem Go.bastore {i : Nat} {vs : List Value} {j : Int32} {x : Int32} {H1 : Hp} (hd : Dec M pc .bastore 1 pc') (hH : H[i]? = some (.inr (.byte, vs))) (hj : ¬ j < 0) (hl : j.toNatClampNeg < vs.length) (hH1 : H.set i (.inr (.byte, vs.set j.toNatClampNeg (.int (nar .byte x)))) = H1) (h : Go K M F Lo pc' ls st H1 r) : Go K M F Lo pc ls (.int x :: .int j :: .ref i :: st) H r := by
  obtain ⟨hd, rfl⟩ := hd
  intro R cells slots p e s m args below meth c T locs a1 a2 a3 a4 b1 b2 b3 b4 b5 b6 b7 b8 X S N
  subst hH1
  obtain ⟨Ex, cl, Ar, hc⟩ := S.2 i _ hH
  have hin : ¬ (j < 0 ∨ cl.slots.size ≤ j.toNatClampNeg) := by
    rintro (q | q)
    · exact hj q
    · rw [hc] at q; simp at q; omega
  obtain ⟨T', h', X', e', W, stp⟩ := stB X b1 b2 rfl Ar hin (g := mkF m pc (LL K.2.2.2 ls) (SS K.2.2.2 (.int x :: .int j :: .ref i :: st))) rfl (rest := SS K.2.2.2 st) rfl (b3 ▸ hd)
  subst e'
  obtain ⟨s₂, L, q1, q⟩ := h R cells slots p e s m args below meth c T' _ a1 a2 a3 a4 b1 b2 b3 b4 b5 b6 b7 b8 X' (S.set W hH (arr_set (v := .int (nar .byte x)) Ex Ar hc W)) (Fr.snoc X' N (Nat.le_add_right _ _))
  exact ⟨s₂, L, stp _ q1, q⟩
/-! ## 9. returns -/
theorem Go.retW {i : Instr} {v : Value} {t : FieldType} {dc ds : Nat} {H' : Option Hp} (hH : HOk H H') (hd : Dec M pc i 1 pc') (ht : M.2.2.2 = some t) (hn : ∀ n0, narrow t (sv n0 v) = sv n0 v)
    (hi : ∀ n0, (i = .ireturn ∧ (t = .int ∨ t = .boolean ∨ t = .byte ∨ t = .char ∨ t = .short) ∧ ∃ z, sv n0 v = .int z) ∨ (i = .lreturn ∧ t = .long ∧ ∃ z, sv n0 v = .long z) ∨ (i = .dreturn ∧ t = .double ∧ ∃ z, sv n0 v = .double z) ∨ (i = .freturn ∧ t = .float ∧ ∃ z, sv n0 v = .float z) ∨ (i = .areturn ∧ t.isReference = true ∧ (sv n0 v).isRef = true)) : Go K M F Lo pc ls (v :: st) H (some v, H', dc, ds) := by
  intro R cells slots p e s m args below meth c T locs a1 a2 a3 a4 b1 b2 b3 b4 b5 b6 b7 b8 X S N
  obtain ⟨fs, hr, hrun, hended, hW, hsame⟩ := X.leave (v := some (sv K.2.2.2 v)) (fun q => by rw [b5, ht] at q; cases q) b6
  exact ⟨_, locs, retOut X b1 (b5.trans ht) (hn _) (hi _) (b3 ▸ hd.1) hr, hrun, hended, hH.fin S, N, ⟨_, rfl⟩, hW, hsame.mono (Nat.le_add_right _ _) (Nat.le_add_right _ _)⟩
theorem Go.ireturn {v : Int32} {dc ds : Nat} {rv : Option Value} {H' : Option Hp} (hd : Dec M pc .ireturn 1 pc') (ht : M.2.2.2 = some .int) (hv : rv = some (.int v)) (hH : HOk H H') : Go K M F Lo pc ls (.int v :: st) H (rv, H', dc, ds) := by
  subst hv
  exact Go.retW hH hd ht (fun _ => rfl) (fun _ => Or.inl ⟨rfl, Or.inl rfl, _, rfl⟩)
theorem Go.ireturnZ {v : Int32} {dc ds : Nat} {rv : Option Value} {H' : Option Hp} (hd : Dec M pc .ireturn 1 pc') (ht : M.2.2.2 = some .boolean) (h01 : v = 0 ∨ v = 1) (hv : rv = some (.int v)) (hH : HOk H H') : Go K M F Lo pc ls (.int v :: st) H (rv, H', dc, ds) := by
  subst hv
  exact Go.retW hH hd ht (fun _ => by rcases h01 with rfl | rfl <;> rfl) (fun _ => Or.inl ⟨rfl, Or.inr (Or.inl rfl), _, rfl⟩)
theorem Go.lreturn {v : Int64} {dc ds : Nat} {rv : Option Value} {H' : Option Hp} (hd : Dec M pc .lreturn 1 pc') (ht : M.2.2.2 = some .long) (hv : rv = some (.long v)) (hH : HOk H H') : Go K M F Lo pc ls (.long v :: st) H (rv, H', dc, ds) := by
  subst hv
  exact Go.retW hH hd ht (fun _ => rfl) (fun _ => Or.inr (Or.inl ⟨rfl, rfl, _, rfl⟩))
theorem Go.areturn {v : Value} {t : FieldType} {dc ds : Nat} {rv : Option Value} {H' : Option Hp} (hd : Dec M pc .areturn 1 pc') (ht : M.2.2.2 = some t) (htr : t.isReference = true) (hr : v.isRef = true) (hv : rv = some v) (hH : HOk H H') : Go K M F Lo pc ls (v :: st) H (rv, H', dc, ds) := by
  subst hv
  refine Go.retW hH hd ht (fun _ => ?_) (fun _ => Or.inr (Or.inr (Or.inr (Or.inr ⟨rfl, htr, by rw [sv_ref]; exact hr⟩))))
  rcases ref_cases hr with rfl | ⟨a, rfl⟩ <;> cases t <;> first | rfl | (simp [FieldType.isReference] at htr)
theorem Go.ret {dc ds : Nat} {rv : Option Value} {H' : Option Hp} (hd : Dec M pc .return_ 1 pc') (ht : M.2.2.2 = none) (hv : rv = none) (hH : HOk H H') : Go K M F Lo pc ls [] H (rv, H', dc, ds) := by
  subst hv
  intro R cells slots p e s m args below meth c T locs a1 a2 a3 a4 b1 b2 b3 b4 b5 b6 b7 b8 X S N
  obtain ⟨fs, hr, hrun, hended, hW, hsame⟩ := X.leave (v := none) (fun _ => rfl) b6
  exact ⟨_, locs, X.returnOut b1 (b5.trans ht) (b3 ▸ hd.1) hr, hrun, hended, hH.fin S, N, ⟨_, rfl⟩, hW, hsame.mono (Nat.le_add_right _ _) (Nat.le_add_right _ _)⟩
/-! ## 10. a whole invocation; calls -/
def ent (as : List Value) (mx : Nat) : List Slot := Jvm.Sym.laidSlots as ++ List.replicate (mx - (Jvm.Sym.laidSlots as).length) .unset
theorem laid_map (n0 : Nat) (as : List Value) : Jvm.Sym.laidSlots (as.map (sv n0)) = (Jvm.Sym.laidSlots as).map (ss n0) := by
  induction as with
  | nil => rfl
  | cons v r ih =>
    simp only [List.map_cons, Jvm.Sym.laidSlots, sv_cat, ih]
    split <;> rfl
theorem ent_map (n0 : Nat) (as : List Value) (mx : Nat) : Jvm.Sym.laidSlots (as.map (sv n0)) ++ List.replicate (mx - (Jvm.Sym.laidSlots (as.map (sv n0))).length) .unset = (LL n0 (ent as mx)).toList := by
  rw [laid_map, List.length_map, LL, ent, List.map_append, List.map_replicate]
  rfl
theorem Go.met {as : List Value} {ws : List Jvm.Cond} {rm : Room} {h : Heap} {rv : Option Value} {H' : Option Hp} (hpn : plainFor M.1 = true) (S : Sim K h H) (hls : ent as M.2.2.1 = ls) (g : Go K M rm.frames rm.locals 0 ls [] H (rv, H', rm.cells, rm.slots)) :
    MetFree K.1 M.1 (head1 (Jvm.Cond.code M.1 M.2.1 M.2.2.1 M.2.2.2 :: ws) rm) (fun a U => a = (SS K.2.2.2 as).toArray ∧ K.2.1.Warmed39 U.vm ∧ U.heap = h) (fun _ _ _ _ _ => True)
      (fun _ U o U' => ∃ v L, o = .returned v ∧ (v = rv.map (sv K.2.2.2) ∧ FinH K U'.heap H' ∧ Fr K.2.2.2 L) ∧ FrameEnd U o U' L rm.cells rm.slots) := by
  refine MetFree.of_bodySF hpn hisR ?_
  intro p e s m args below meth c s₁ Bd hml0 hP hK
  obtain ⟨rfl, hZ, hh⟩ := hP
  subst hls
  have X0 : Stand p K.1 e rm s m (SS K.2.2.2 as).toArray below meth c s₁ [] 0 0 := Stand.of_body Bd
  have e0 : s₁.heap = h := by rw [← hh, Bd.state]; rfl
  obtain ⟨s₂, L, q1, q2, q3, q4, q5, q6⟩ := g rm 0 0 p e s m _ below meth c s₁ [] (Nat.le_refl _) (Nat.le_refl _) (Nat.le_of_eq (Nat.zero_add _)) (Nat.le_of_eq (Nat.zero_add _)) Bd.exec hZ Bd.bytes hml0 Bd.returns Bd.notSynchronized (findClass_of_methodNamed Bd.named) (name_of_methodNamed Bd.named Bd.method).1 X0 (by rw [e0]; exact S) (Fr.nil _)
  refine ⟨s₂, _, (XT.entry (Ls := LL K.2.2.2 (ent as M.2.2.1)) (by simpa using ent_map K.2.2.2 as M.2.2.1)).trans q1, q2, q3, _, L, rfl, ⟨rfl, q4, q5⟩, ?_⟩
  have e1 : (0 : Nat) + rm.cells = rm.cells := Nat.zero_add _
  have e2 : (0 : Nat) + rm.slots = rm.slots := Nat.zero_add _
  simp only [e1, e2] at q6
  exact q6
def MInfo (M : Mt) (na : Nat) : Prop := plainFor M.1 = true ∧ (M.1.cls ≠ "java/lang/invoke/MethodHandle" ∧ M.1.cls ≠ "java/lang/invoke/VarHandle") ∧ (parseMethodDescriptor M.1.desc).map (fun q => q.parameters.length) = some na
instance (M : Mt) (na : Nat) : Decidable (MInfo M na) := inferInstanceAs (Decidable (_ ∧ _ ∧ _))
theorem MInfo.len {M : Mt} {na : Nat} (mi : MInfo M na) {n0 : Nat} {as : List Value} (h : as.length = na) : ∀ sig, parseMethodDescriptor M.1.desc = some sig → (SS n0 as).length = sig.parameters.length := fun sig hs => by
  have q := mi.2.2
  rw [hs] at q
  rw [List.length_map, h]
  exact (Option.some.inj q).symm
theorem Go.back {M' : Mt} {F' Lo' W dc1 ds1 : Nat} {as : List Value} {ls1 : List Slot} {h : Heap} {rv1 : Option Value} {H1 : Hp} {R : Room} {p : Program} {e : Env} {below : List Frame} {s : State} {sargs : Array Value} (g : Go K M' F' Lo' 0 ls1 [] H (rv1, some H1, dc1, ds1)) (hls : ent as M'.2.2.1 = ls1) (hpn : plainFor M'.1 = true) (S : Sim K h H)
    (hZ : K.2.1.Warmed39 s.vm) (wc : (Jvm.Cond.code M'.1 M'.2.1 M'.2.2.1 M'.2.2.2).before K.2.2.1 K.2.1 = true) (wz : (Jvm.Cond.initialized M'.1.cls).before K.2.2.1 K.2.1 = true) (hf : F' + 1 ≤ R.frames) (hl : W + (M'.2.2.1 + 11) + Lo' ≤ R.locals) :
    Back K.1 R p e below s sargs M'.1 3 W (fun A a => a = (SS K.2.2.2 as).toArray ∧ A.U.heap = h ∧ A.cells + dc1 ≤ R.cells ∧ A.slots + ds1 ≤ R.slots)
      (fun A _ v B => ∃ L, (v = rv1.map (sv K.2.2.2) ∧ FinH K B.U.heap (some H1) ∧ Fr K.2.2.2 L) ∧ B.locs = A.locs ++ L ∧ B.cells = A.cells + dc1 ∧ B.slots = A.slots + ds1) :=
  backOf (rm := ({ frames := F', cells := dc1, slots := ds1, locals := Lo' } : Room)) (Q := fun v hp L => v = rv1.map (sv K.2.2.2) ∧ FinH K hp (some H1) ∧ Fr K.2.2.2 L) (Go.met (ws := []) hpn S hls g) hZ wc wz hf hl
theorem SS_app (n0 : Nat) (as st : List Value) : SS n0 (as.reverse ++ st) = (SS n0 as).reverse ++ SS n0 st := by simp [SS]
theorem SS_ret (n0 : Nat) (rv : Option Value) (st : List Value) : (rv.map (sv n0)).toList ++ SS n0 st = SS n0 (rv.toList ++ st) := by cases rv <;> rfl
theorem Go.callS {idx na W F' Lo' dc1 ds1 dct dst : Nat} {M' : Mt} {as : List Value} {ls1 : List Slot} {st0 : List Value} {rv1 rv : Option Value} {H1 : Hp} {H' : Option Hp} (hd : Dec M pc (.invokestatic idx) 3 pc') (w1 : (Jvm.Cond.methodLink M.1.cls idx M'.1).before K.2.2.1 K.2.1 = true) (w2 : (Jvm.Cond.static M'.1).before K.2.2.1 K.2.1 = true) (w3 : (Jvm.Cond.initialized M'.1.cls).before K.2.2.1 K.2.1 = true) (w4 : (Jvm.Cond.code M'.1 M'.2.1 M'.2.2.1 M'.2.2.2).before K.2.2.1 K.2.1 = true)
    (mi : MInfo M' na) (has : as.length = na) (hsz : ls.length = M.2.2.1) (hst : as.reverse ++ st = st0) (hls : ent as M'.2.2.1 = ls1) (hW : (st.map fun v => v.category).sum = W) (hF : F' + 1 ≤ F) (hLo : W + (M'.2.2.1 + 11) + Lo' ≤ Lo) (g : Go K M' F' Lo' 0 ls1 [] H (rv1, some H1, dc1, ds1))
    (dc ds : Nat) (hdc : dc + dc1 ≤ dct) (hds : ds + ds1 ≤ dst) (h : Go K M F Lo pc' ls (rv1.toList ++ st) H1 (rv, H', dc, ds)) : Go K M F Lo pc ls st0 H (rv, H', dct, dst) := by
  obtain ⟨hd, rfl⟩ := hd
  intro R cells slots p e s m args below meth c T locs a1 a2 a3 a4 b1 b2 b3 b4 b5 b6 b7 b8 X S N
  subst hst
  have a3' : cells + dct ≤ R.cells := a3
  have a4' : slots + dst ≤ R.slots := a4
  obtain ⟨v, vm₁, ⟨T', L1, k1, n1⟩, -, X', ⟨Lc, ⟨hv, S', N'⟩, l1, l2, l3⟩, stp⟩ := Jvm.LawKit.callS X b1 (y := M'.1) b7 (mvT b2 w1) (mvT b2 w2) (mvT b2 w3) (mvT b2 w4) mi.2.1 (g.back (W := W) hls mi.1 S b2 w4 w3 (Nat.le_trans hF a1) (Nat.le_trans hLo a2)) (g := mkF m pc (LL K.2.2.2 ls) (SS K.2.2.2 (as.reverse ++ st))) rfl (by rw [b4, ← hsz]; exact LL_size _ _) (argsL := SS K.2.2.2 as) (rest := SS K.2.2.2 st) (mi.len has) (SS_app _ _ _) (by show 2 * 0 + _ ≤ W; rw [cats, hW]; omega) (b3 ▸ hd) (fun _ _ => ⟨rfl, rfl, by show cells + dc1 ≤ _; omega, by show slots + ds1 ≤ _; omega⟩)
  dsimp only [Pt.U, Pt.locs, Pt.cells, Pt.slots] at X' l1 l2 l3 stp S' hv
  subst l1 l2 l3 hv
  obtain ⟨s₂, L, q1, q2, q3, q4, q5, q6⟩ := h R (cells + dc1) (slots + ds1) p e s m args below meth c T' _ a1 a2 (by show cells + dc1 + dc ≤ _; omega) (by show slots + ds1 + ds ≤ _; omega) b1 b2 b3 b4 b5 b6 b7 b8 X' (S' _ rfl) (N.app N')
  refine ⟨s₂, L, stp _ ?_, q2, q3, q4, q5, q6.1, q6.2.1, q6.2.2.mono (by show cells + dc1 + dc ≤ cells + dct; omega) (by show slots + ds1 + ds ≤ slots + dst; omega)⟩
  rw [← SS_ret] at q1
  exact q1
theorem Go.callI {idx na W F' Lo' dc1 ds1 dct dst i : Nat} {M' : Mt} {as : List Value} {ls1 : List Slot} {st0 : List Value} {rv1 rv : Option Value} {H1 : Hp} {H' : Option Hp} (hd : Dec M pc (.invokespecial idx) 3 pc') (hnm : M'.1.name = "<init>") (hrn : M'.2.2.2 = none) (w1 : (Jvm.Cond.methodLink M.1.cls idx M'.1).before K.2.2.1 K.2.1 = true) (w2 : (Jvm.Cond.instanceMethod M'.1).before K.2.2.1 K.2.1 = true) (w3 : (Jvm.Cond.initialized M'.1.cls).before K.2.2.1 K.2.1 = true) (w4 : (Jvm.Cond.code M'.1 M'.2.1 M'.2.2.1 M'.2.2.2).before K.2.2.1 K.2.1 = true)
    (mi : MInfo M' na) (has : as.length = na) (hsz : ls.length = M.2.2.1) (hst : as.reverse ++ .ref i :: st = st0) (hls : ent (.ref i :: as) M'.2.2.1 = ls1) (hW : (st.map fun v => v.category).sum = W) (hF : F' + 1 ≤ F) (hLo : W + (M'.2.2.1 + 11) + Lo' ≤ Lo) (g : Go K M' F' Lo' 0 ls1 [] H (rv1, some H1, dc1, ds1))
    (dc ds : Nat) (hdc : dc + dc1 ≤ dct) (hds : ds + ds1 ≤ dst) (h : Go K M F Lo pc' ls (rv1.toList ++ st) H1 (rv, H', dc, ds)) : Go K M F Lo pc ls st0 H (rv, H', dct, dst) := by
  obtain ⟨hd, rfl⟩ := hd
  intro R cells slots p e s m args below meth c T locs a1 a2 a3 a4 b1 b2 b3 b4 b5 b6 b7 b8 X S N
  subst hst
  have a3' : cells + dct ≤ R.cells := a3
  have a4' : slots + dst ≤ R.slots := a4
  have hstk : SS K.2.2.2 (as.reverse ++ .ref i :: st) = (SS K.2.2.2 as).reverse ++ .ref (K.2.2.2 + i) :: SS K.2.2.2 st := SS_app _ _ _
  obtain ⟨v, vm₁, ⟨T', L1, k1, n1⟩, -, X', ⟨Lc, ⟨hv, S', N'⟩, l1, l2, l3⟩, stp⟩ := X.specialBack b1 (y := M'.1) hnm b7 (mvT b2 w1) (mvT b2 w2) (mvT b2 (hrn ▸ w4)) mi.2.1 (g.back (as := .ref i :: as) (W := W) hls mi.1 S b2 w4 w3 (Nat.le_trans hF a1) (Nat.le_trans hLo a2)) (g := mkF m pc (LL K.2.2.2 ls) (SS K.2.2.2 (as.reverse ++ .ref i :: st))) rfl (by rw [b4, ← hsz]; exact LL_size _ _) (Steps.refl _) (a := K.2.2.2 + i) (argsL := SS K.2.2.2 as) (rest := SS K.2.2.2 st) (mi.len has) hstk (by show 2 * 0 + _ ≤ W; rw [cats, hW]; omega) (b3 ▸ hd) (fun _ _ => ⟨rfl, rfl, by show cells + dc1 ≤ _; omega, by show slots + ds1 ≤ _; omega⟩)
  dsimp only [Pt.U, Pt.locs, Pt.cells, Pt.slots] at X' l1 l2 l3 stp S' hv
  subst l1 l2 l3 hv
  obtain ⟨s₂, L, q1, q2, q3, q4, q5, q6⟩ := h R (cells + dc1) (slots + ds1) p e s m args below meth c T' _ a1 a2 (by show cells + dc1 + dc ≤ _; omega) (by show slots + ds1 + ds ≤ _; omega) b1 b2 b3 b4 b5 b6 b7 b8 X' (S' _ rfl) (N.app N')
  refine ⟨s₂, L, stp.trans ?_, q2, q3, q4, q5, q6.1, q6.2.1, q6.2.2.mono (by show cells + dc1 + dc ≤ cells + dct; omega) (by show slots + ds1 + ds ≤ slots + dst; omega)⟩
  rw [← SS_ret] at q1
  exact q1
theorem Go.callV {idx na W F' Lo' dc1 ds1 dct dst i : Nat} {M' : Mt} {as : List Value} {ls1 : List Slot} {st0 : List Value} {rv1 rv : Option Value} {H1 : Hp} {H' : Option Hp} {fs : List (String × String × Value)} (hd : Dec M pc (.invokevirtual idx) 3 pc') (hH : H[i]? = some (.inl (M'.1.cls, fs))) (w1 : (Jvm.Cond.methodLink M.1.cls idx M'.1).before K.2.2.1 K.2.1 = true) (w2 : (Jvm.Cond.instanceMethod M'.1).before K.2.2.1 K.2.1 = true) (w3 : (Jvm.Cond.initialized M'.1.cls).before K.2.2.1 K.2.1 = true) (w5 : (Jvm.Cond.declares M'.1).before K.2.2.1 K.2.1 = true) (w6 : (Jvm.Cond.selects M'.1.cls M'.1 M'.1).before K.2.2.1 K.2.1 = true) (w4 : (Jvm.Cond.code M'.1 M'.2.1 M'.2.2.1 M'.2.2.2).before K.2.2.1 K.2.1 = true)
    (mi : MInfo M' na) (has : as.length = na) (hsz : ls.length = M.2.2.1) (hst : as.reverse ++ .ref i :: st = st0) (hls : ent (.ref i :: as) M'.2.2.1 = ls1) (hW : (st.map fun v => v.category).sum = W) (hF : F' + 1 ≤ F) (hLo : W + (M'.2.2.1 + 11) + Lo' ≤ Lo) (g : Go K M' F' Lo' 0 ls1 [] H (rv1, some H1, dc1, ds1))
    (dc ds : Nat) (hdc : dc + dc1 ≤ dct) (hds : ds + ds1 ≤ dst) (h : Go K M F Lo pc' ls (rv1.toList ++ st) H1 (rv, H', dc, ds)) : Go K M F Lo pc ls st0 H (rv, H', dct, dst) := by
  obtain ⟨hd, rfl⟩ := hd
  intro R cells slots p e s m args below meth c T locs a1 a2 a3 a4 b1 b2 b3 b4 b5 b6 b7 b8 X S N
  subst hst
  have a3' : cells + dct ≤ R.cells := a3
  have a4' : slots + dst ≤ R.slots := a4
  have hstk : SS K.2.2.2 (as.reverse ++ .ref i :: st) = (SS K.2.2.2 as).reverse ++ .ref (K.2.2.2 + i) :: SS K.2.2.2 st := SS_app _ _ _
  obtain ⟨cq, kq, qa, qb, qc⟩ := isOf b2 rfl (S.2 i _ hH).1
  obtain ⟨v, vm₁, ⟨T', L1, k1, n1⟩, -, X', ⟨Lc, ⟨hv, S', N'⟩, l1, l2, l3⟩, stp⟩ := X.virtualBack b1 (y := M'.1) (z := M'.1) b7 (mvT b2 w1) (mvT b2 w5) (notFace_of_selects (args := #[]) (mvT b2 w6)) (mvT b2 w6) (mvT b2 w2) mi.2.1 (g.back (as := .ref i :: as) (W := W) hls mi.1 S b2 w4 w3 (Nat.le_trans hF a1) (Nat.le_trans hLo a2)) qa qc (g := mkF m pc (LL K.2.2.2 ls) (SS K.2.2.2 (as.reverse ++ .ref i :: st))) rfl (by rw [b4, ← hsz]; exact LL_size _ _) (Steps.refl _) (argsL := SS K.2.2.2 as) (rest := SS K.2.2.2 st) (mi.len has) hstk (by show 2 * 0 + _ ≤ W; rw [cats, hW]; omega) (b3 ▸ hd) (fun _ _ => ⟨rfl, rfl, by show cells + dc1 ≤ _; omega, by show slots + ds1 ≤ _; omega⟩)
  dsimp only [Pt.U, Pt.locs, Pt.cells, Pt.slots] at X' l1 l2 l3 stp S' hv
  subst l1 l2 l3 hv
  obtain ⟨s₂, L, q1, q2, q3, q4, q5, q6⟩ := h R (cells + dc1) (slots + ds1) p e s m args below meth c T' _ a1 a2 (by show cells + dc1 + dc ≤ _; omega) (by show slots + ds1 + ds ≤ _; omega) b1 b2 b3 b4 b5 b6 b7 b8 X' (S' _ rfl) (N.app N')
  refine ⟨s₂, L, stp.trans ?_, q2, q3, q4, q5, q6.1, q6.2.1, q6.2.2.mono (by show cells + dc1 + dc ≤ cells + dct; omega) (by show slots + ds1 + ds ≤ slots + dst; omega)⟩
  rw [← SS_ret] at q1
  exact q1
theorem Go.callP {idx na W F' Lo' dc1 ds1 dct dst i : Nat} {M' : Mt} {as : List Value} {ls1 : List Slot} {st0 : List Value} {rv1 rv : Option Value} {H1 : Hp} {H' : Option Hp} {kk : Nat} {fs : List (String × String × Value)} (hd : Dec M pc (.invokevirtual idx) 3 pc') (hH : H[i]? = some (.inl (M'.1.cls, fs))) (w1 : (Jvm.Cond.methodLink M.1.cls idx M'.1).before K.2.2.1 K.2.1 = true) (w2 : (Jvm.Cond.instanceMethod M'.1).before K.2.2.1 K.2.1 = true) (w3 : (Jvm.Cond.initialized M'.1.cls).before K.2.2.1 K.2.1 = true) (w5 : (Jvm.Cond.privateMethod M'.1).before K.2.2.1 K.2.1 = true) (w6 : (Jvm.Cond.instantiable M'.1.cls kk).before K.2.2.1 K.2.1 = true) (w4 : (Jvm.Cond.code M'.1 M'.2.1 M'.2.2.1 M'.2.2.2).before K.2.2.1 K.2.1 = true)
    (mi : MInfo M' na) (has : as.length = na) (hsz : ls.length = M.2.2.1) (hst : as.reverse ++ .ref i :: st = st0) (hls : ent (.ref i :: as) M'.2.2.1 = ls1) (hW : (st.map fun v => v.category).sum = W) (hF : F' + 1 ≤ F) (hLo : W + (M'.2.2.1 + 11) + Lo' ≤ Lo) (g : Go K M' F' Lo' 0 ls1 [] H (rv1, some H1, dc1, ds1))
    (dc ds : Nat) (hdc : dc + dc1 ≤ dct) (hds : ds + ds1 ≤ dst) (h : Go K M F Lo pc' ls (rv1.toList ++ st) H1 (rv, H', dc, ds)) : Go K M F Lo pc ls st0 H (rv, H', dct, dst) := by
  obtain ⟨hd, rfl⟩ := hd
  intro R cells slots p e s m args below meth c T locs a1 a2 a3 a4 b1 b2 b3 b4 b5 b6 b7 b8 X S N
  subst hst
  have a3' : cells + dct ≤ R.cells := a3
  have a4' : slots + dst ≤ R.slots := a4
  have hstk : SS K.2.2.2 (as.reverse ++ .ref i :: st) = (SS K.2.2.2 as).reverse ++ .ref (K.2.2.2 + i) :: SS K.2.2.2 st := SS_app _ _ _
  obtain ⟨cq, qa, qb⟩ := (S.2 i _ hH).1.cell
  have hpr : s.PrivateAt M'.1 := Cond.privateMethod_at (mvP b2 w5 (args := #[]))
  have hsel : (Jvm.Cond.selects M'.1.cls M'.1 M'.1).before args s = true := by
    obtain ⟨c9, k9, z1, z2, z3, z4, -⟩ := Cond.instantiable_spec (mvT (args := args) b2 w6)
    refine selects_self_of_private z1 z2 ?_ hpr (mvT b2 w2) mi.2.1
    simp only [Bool.or_eq_false_iff] at z4
    exact z4.1
  obtain ⟨v, vm₁, ⟨T', L1, k1, n1⟩, -, X', ⟨Lc, ⟨hv, S', N'⟩, l1, l2, l3⟩, stp⟩ := X.privateBack b1 (y := M'.1) b7 (mvT b2 w1) (mvT b2 w2) hsel hpr (mvT b2 w4) mi.2.1 (g.back (as := .ref i :: as) (W := W) hls mi.1 S b2 w4 w3 (Nat.le_trans hF a1) (Nat.le_trans hLo a2)) (g := mkF m pc (LL K.2.2.2 ls) (SS K.2.2.2 (as.reverse ++ .ref i :: st))) rfl (by rw [b4, ← hsz]; exact LL_size _ _) (Steps.refl _) (a := K.2.2.2 + i) qa qb (argsL := SS K.2.2.2 as) (rest := SS K.2.2.2 st) (mi.len has) hstk (by show 2 * 0 + _ ≤ W; rw [cats, hW]; omega) (b3 ▸ hd) (fun _ _ => ⟨rfl, rfl, by show cells + dc1 ≤ _; omega, by show slots + ds1 ≤ _; omega⟩)
  dsimp only [Pt.U, Pt.locs, Pt.cells, Pt.slots] at X' l1 l2 l3 stp S' hv
  subst l1 l2 l3 hv
  obtain ⟨s₂, L, q1, q2, q3, q4, q5, q6⟩ := h R (cells + dc1) (slots + ds1) p e s m args below meth c T' _ a1 a2 (by show cells + dc1 + dc ≤ _; omega) (by show slots + ds1 + ds ≤ _; omega) b1 b2 b3 b4 b5 b6 b7 b8 X' (S' _ rfl) (N.app N')
  refine ⟨s₂, L, stp.trans ?_, q2, q3, q4, q5, q6.1, q6.2.1, q6.2.2.mono (by show cells + dc1 + dc ≤ cells + dct; omega) (by show slots + ds1 + ds ≤ slots + dst; omega)⟩
  rw [← SS_ret] at q1
  exact q1
theorem Go.initObj {idx i W : Nat} (hd : Dec M pc (.invokespecial idx) 3 pc') (w1 : (Jvm.Cond.methodLink M.1.cls idx Lib.objectInit).before K.2.2.1 K.2.1 = true) (w2 : (Jvm.Cond.instanceMethod Lib.objectInit).before K.2.2.1 K.2.1 = true) (w3 : (Jvm.Cond.code Lib.objectInit ⟨#[0xb1]⟩ 1 none).before K.2.2.1 K.2.1 = true)
    (hsz : ls.length = M.2.2.1) (hW : (st.map fun v => v.category).sum = W) (hF : 1 ≤ F) (hLo : W + 12 ≤ Lo) (h : Go K M F Lo pc' ls st H r) : Go K M F Lo pc ls (.ref i :: st) H r := by
  obtain ⟨hd, rfl⟩ := hd
  intro R cells slots p e s m args below meth c T locs a1 a2 a3 a4 b1 b2 b3 b4 b5 b6 b7 b8 X S N
  obtain ⟨T', X', e', stp⟩ := initO X b1 b2 b7 w1 w2 w3 rfl (g := mkF m pc (LL K.2.2.2 ls) (SS K.2.2.2 (.ref i :: st))) rfl (by rw [b4, ← hsz]; exact LL_size _ _) (rest := SS K.2.2.2 st) rfl (b3 ▸ hd) (Nat.le_trans hF a1) (W := W) (by show 2 * 0 + _ ≤ W; rw [cats, hW]; omega) (Nat.le_trans hLo a2)
  obtain ⟨s₂, L, q1, q⟩ := h R cells slots p e s m args below meth c T' locs a1 a2 a3 a4 b1 b2 b3 b4 b5 b6 b7 b8 X' (e' ▸ S) N
  exact ⟨s₂, L, stp _ q1, q⟩
theorem Go.cloneArr {idx i j W : Nat} {t : FieldType} {vs : List Value} {ad : String} (cap : Nat) {rv : Option Value} {H' : Option Hp} {dct dst : Nat} (hd : Dec M pc (.invokevirtual idx) 3 pc') (w1 : (Jvm.Cond.methodLink M.1.cls idx ⟨ad, "clone", "()Ljava/lang/Object;"⟩).before K.2.2.1 K.2.1 = true) (w2 : (Jvm.Cond.sameMethod ad "java/lang/Object" "clone" "()Ljava/lang/Object;").before K.2.2.1 K.2.1 = true) (w3 : (Jvm.Cond.native ⟨"java/lang/Object", "clone", "()Ljava/lang/Object;"⟩).before K.2.2.1 K.2.1 = true)
    (w4 : (Jvm.Cond.instanceMethod ⟨"java/lang/Object", "clone", "()Ljava/lang/Object;"⟩).before K.2.2.1 K.2.1 = true) (w5 : (Jvm.Cond.selects ad ⟨ad, "clone", "()Ljava/lang/Object;"⟩ ⟨"java/lang/Object", "clone", "()Ljava/lang/Object;"⟩).before K.2.2.1 K.2.1 = true) (w6 : (Jvm.Cond.castable ad "java/lang/Cloneable").before K.2.2.1 K.2.1 = true)
    (had : "[" ++ t.toString = ad) (hH : H[i]? = some (.inr (t, vs))) (hfit : ∀ v ∈ vs, ∀ n0, fits t (sv n0 v) = true) (hcap : vs.length ≤ cap) (hj : H.length = j) (hsz : ls.length = M.2.2.1) (hW : (st.map fun v => v.category).sum = W) (hF : 1 ≤ F) (hLo : W + 14 ≤ Lo)
    (dc ds : Nat) (hdc : dc + 1 ≤ dct) (hds : ds + cap ≤ dst) (h : Go K M F Lo pc' ls (.ref j :: st) (H ++ [.inr (t, vs)]) (rv, H', dc, ds)) : Go K M F Lo pc ls (.ref i :: st) H (rv, H', dct, dst) := by
  obtain ⟨hd, rfl⟩ := hd
  intro R cells slots p e s m args below meth c T locs a1 a2 a3 a4 b1 b2 b3 b4 b5 b6 b7 b8 X S N
  subst hj had
  have a3' : cells + dct ≤ R.cells := a3
  have a4' : slots + dst ≤ R.slots := a4
  obtain ⟨Ex, cl, Ar, hcl⟩ := S.2 i _ hH
  have hlen : cl.slots.size = vs.length := by rw [hcl]; simp
  have Fc : FitC K.2.1 cl := fitC_of Ar fun k hk v hv => by
    rw [hcl] at hv
    simp only [List.getElem?_toArray, List.getElem?_map] at hv
    cases hq : vs[k]? with
    | none => rw [hq] at hv; cases hv
    | some w => rw [hq] at hv; cases hv; exact hfit w (List.mem_of_getElem? hq) _
  obtain ⟨c2, k, e1, e2, e3, e4, e5⟩ := Ex
  cases Ar.1.symm.trans e1
  obtain ⟨c1, cC, g1, g2, g3⟩ := Cond.castable_spec w6
  cases e2.symm.trans g1
  have hal : K.2.1.vm.Alike T.vm := b2.alike.trans X.warmed.alike
  obtain ⟨vm', X', stp⟩ := X.cloneArray b1 b7 (mv b2 w1) (mv b2 w2) (mv b2 w3) (mv b2 w4) (mv b2 w5) (a := K.2.2.2 + i) Ar.1 Ar.2.1.1 Ar.2.2 (by rw [b2.alike.findClass]; exact e2) (by rw [b2.alike.findClass]; exact g2) (by rw [b2.alike.assignable]; exact g3)
    (fun i v hv => by have q := Fc i v hv; rw [← State.fitsSlot_setVm hal] at q; exact q) (g := mkF m pc (LL K.2.2.2 ls) (SS K.2.2.2 (.ref i :: st))) rfl (by rw [b4, ← hsz]; exact LL_size _ _) (rest := SS K.2.2.2 st) rfl (b3 ▸ hd) (Nat.le_trans hF a1) (by show 2 * 0 + _ + 14 ≤ _; rw [cats, hW]; omega) (by omega) (by omega)
    (by obtain ⟨-, k2, hk2, comp, hkind⟩ := Ar.2.1; rw [b2.alike.clonesLoader]; exact Vm.clonesLoader_of_array hk2 hkind)
  have hN : (T.heap.push (cloneOf cl))[T.heap.size]? = some (cloneOf cl) := by simp
  have S' : Sim K (T.heap.push (cloneOf cl)) (H ++ [.inr (t, vs)]) := by
    refine S.push (ext_of fun a q => Array.getElem?_push_lt q |>.trans (Array.getElem?_eq_getElem q).symm) (by simp) ?_
    rw [← S.1]
    exact ⟨⟨_, k, hN, e2, e3, rfl, e5⟩, _, ⟨hN, ⟨fun _ z => (by cases z), Ar.2.1.2⟩, fun z => (by cases z)⟩, hcl⟩
  obtain ⟨s₂, L, q1, q2, q3, q4, q5, q6⟩ := h R (cells + 1) (slots + cap) p e s m args below meth c _ locs a1 a2 (by show cells + 1 + dc ≤ _; omega) (by show slots + cap + ds ≤ _; omega) b1 b2 b3 b4 b5 b6 b7 b8 (X'.more (Nat.le_refl _) (by omega)) S' N
  refine ⟨s₂, L, stp _ ?_, q2, q3, q4, q5, q6.1, q6.2.1, q6.2.2.mono (by show cells + 1 + dc ≤ cells + dct; omega) (by show slots + cap + ds ≤ slots + dst; omega)⟩
  have e : SS K.2.2.2 (.ref H.length :: st) = .ref T.heap.size :: SS K.2.2.2 st := by rw [S.1]; rfl
  rw [e] at q1
  exact q1
theorem Go.checkcastArr {idx i : Nat} {t : FieldType} {vs : List Value} {C : String} (hd : Dec M pc (.checkcast idx) 3 pc') (w : (Jvm.Cond.classLink M.1.cls idx C).before K.2.2.1 K.2.1 = true) (hC : "[" ++ t.toString = C) (hH : H[i]? = some (.inr (t, vs))) (h : Go K M F Lo pc' ls (.ref i :: st) H r) : Go K M F Lo pc ls (.ref i :: st) H r := by
  obtain ⟨hd, rfl⟩ := hd
  intro R cells slots p e s m args below meth c T locs a1 a2 a3 a4 b1 b2 b3 b4 b5 b6 b7 b8 X S N
  subst hC
  obtain ⟨T', X', e', stp⟩ := castY X b1 b2 b7 w rfl (Ins.self (S.2 i _ hH).1) (g := mkF m pc (LL K.2.2.2 ls) (SS K.2.2.2 (.ref i :: st))) rfl (rest := SS K.2.2.2 st) rfl (b3 ▸ hd)
  obtain ⟨s₂, L, q1, q⟩ := h R cells slots p e s m args below meth c T' locs a1 a2 a3 a4 b1 b2 b3 b4 b5 b6 b7 b8 X' (e' ▸ S) N
  exact ⟨s₂, L, stp _ q1, q⟩
end G
end Jvm.OwnGo
namespace Jvm.Pilot.@@N@@
open Jvm Jvm.ClassFile Sem Op Lib Jvm.Free Jvm.Stand Jvm.LawKit Jvm.RoadKit Bundle Jvm.Pilot.@@N@@.Jvm.D Jvm.OwnGo
abbrev m0 : Mt := (x, code, maxLocals, ret)
theorem mi0 : MInfo m0 3 := by decide +kernel
theorem d0_0 : Dec m0 0 (.iconst 1) 1 1 := by decide +kernel
theorem d0_1 : Dec m0 1 (.iload_n 0) 1 2 := by decide +kernel
theorem d0_2 : Dec m0 2 (.iconst 3) 1 3 := by decide +kernel
theorem d0_3 : Dec m0 3 (.iand) 1 4 := by decide +kernel
theorem d0_4 : Dec m0 4 (.iadd) 1 5 := by decide +kernel
theorem d0_5 : Dec m0 5 (.istore_n 3) 1 6 := by decide +kernel
theorem d0_6 : Dec m0 6 (.iconst 4) 1 7 := by decide +kernel
theorem d0_7 : Dec m0 7 (.newarray .long) 2 9 := by decide +kernel
theorem d0_9 : Dec m0 9 (.astore 4) 2 11 := by decide +kernel
theorem d0_11 : Dec m0 11 (.new 7) 3 14 := by decide +kernel
theorem d0_14 : Dec m0 14 (.dup) 1 15 := by decide +kernel
theorem d0_15 : Dec m0 15 (.iload_n 3) 1 16 := by decide +kernel
theorem d0_16 : Dec m0 16 (.invokespecial 9) 3 19 := by decide +kernel
theorem d0_19 : Dec m0 19 (.astore 5) 2 21 := by decide +kernel
theorem d0_21 : Dec m0 21 (.aload 5) 2 23 := by decide +kernel
theorem d0_23 : Dec m0 23 (.invokevirtual 12) 3 26 := by decide +kernel
theorem d0_26 : Dec m0 26 (.istore 6) 2 28 := by decide +kernel
theorem d0_28 : Dec m0 28 (.iload 6) 2 30 := by decide +kernel
theorem d0_30 : Dec m0 30 (.aload 4) 2 32 := by decide +kernel
theorem d0_32 : Dec m0 32 (.iload_n 3) 1 33 := by decide +kernel
theorem d0_33 : Dec m0 33 (.invokestatic 16) 3 36 := by decide +kernel
theorem d0_36 : Dec m0 36 (.if_icmp .ne 7) 3 39 := by decide +kernel
theorem j0_36 : Jmp 36 (7) 43 := by decide
theorem d0_39 : Dec m0 39 (.iconst 1) 1 40 := by decide +kernel
theorem d0_40 : Dec m0 40 (.goto 4) 3 43 := by decide +kernel
theorem j0_40 : Jmp 40 (4) 44 := by decide
theorem d0_43 : Dec m0 43 (.iconst 0) 1 44 := by decide +kernel
theorem d0_44 : Dec m0 44 (.istore 7) 2 46 := by decide +kernel
theorem d0_46 : Dec m0 46 (.aload 5) 2 48 := by decide +kernel
theorem d0_48 : Dec m0 48 (.aload 4) 2 50 := by decide +kernel
theorem d0_50 : Dec m0 50 (.iload_n 1) 1 51 := by decide +kernel
theorem d0_51 : Dec m0 51 (.iload_n 3) 1 52 := by decide +kernel
theorem d0_52 : Dec m0 52 (.invokestatic 22) 3 55 := by decide +kernel
theorem d0_55 : Dec m0 55 (.aload 5) 2 57 := by decide +kernel
theorem d0_57 : Dec m0 57 (.aload 4) 2 59 := by decide +kernel
theorem d0_59 : Dec m0 59 (.iload_n 1) 1 60 := by decide +kernel
theorem d0_60 : Dec m0 60 (.iconst 3) 1 61 := by decide +kernel
theorem d0_61 : Dec m0 61 (.iushr) 1 62 := by decide +kernel
theorem d0_62 : Dec m0 62 (.iload_n 3) 1 63 := by decide +kernel
theorem d0_63 : Dec m0 63 (.invokestatic 22) 3 66 := by decide +kernel
theorem d0_66 : Dec m0 66 (.aload 5) 2 68 := by decide +kernel
theorem d0_68 : Dec m0 68 (.aload 4) 2 70 := by decide +kernel
theorem d0_70 : Dec m0 70 (.iload_n 1) 1 71 := by decide +kernel
theorem d0_71 : Dec m0 71 (.bipush 6) 2 73 := by decide +kernel
theorem d0_73 : Dec m0 73 (.iushr) 1 74 := by decide +kernel
theorem d0_74 : Dec m0 74 (.iload_n 3) 1 75 := by decide +kernel
theorem d0_75 : Dec m0 75 (.invokestatic 22) 3 78 := by decide +kernel
theorem d0_78 : Dec m0 78 (.aload 5) 2 80 := by decide +kernel
theorem d0_80 : Dec m0 80 (.invokevirtual 12) 3 83 := by decide +kernel
theorem d0_83 : Dec m0 83 (.istore 8) 2 85 := by decide +kernel
theorem d0_85 : Dec m0 85 (.iload 8) 2 87 := by decide +kernel
theorem d0_87 : Dec m0 87 (.aload 4) 2 89 := by decide +kernel
theorem d0_89 : Dec m0 89 (.iload_n 3) 1 90 := by decide +kernel
theorem d0_90 : Dec m0 90 (.invokestatic 16) 3 93 := by decide +kernel
theorem d0_93 : Dec m0 93 (.if_icmp .ne 7) 3 96 := by decide +kernel
theorem j0_93 : Jmp 93 (7) 100 := by decide
theorem d0_96 : Dec m0 96 (.iconst 1) 1 97 := by decide +kernel
theorem d0_97 : Dec m0 97 (.goto 4) 3 100 := by decide +kernel
theorem j0_97 : Jmp 97 (4) 101 := by decide
theorem d0_100 : Dec m0 100 (.iconst 0) 1 101 := by decide +kernel
theorem d0_101 : Dec m0 101 (.istore 9) 2 103 := by decide +kernel
theorem d0_103 : Dec m0 103 (.aload 5) 2 105 := by decide +kernel
theorem d0_105 : Dec m0 105 (.aload 4) 2 107 := by decide +kernel
theorem d0_107 : Dec m0 107 (.iload_n 2) 1 108 := by decide +kernel
theorem d0_108 : Dec m0 108 (.iload_n 3) 1 109 := by decide +kernel
theorem d0_109 : Dec m0 109 (.invokestatic 22) 3 112 := by decide +kernel
theorem d0_112 : Dec m0 112 (.aload 5) 2 114 := by decide +kernel
theorem d0_114 : Dec m0 114 (.aload 4) 2 116 := by decide +kernel
theorem d0_116 : Dec m0 116 (.iload_n 2) 1 117 := by decide +kernel
theorem d0_117 : Dec m0 117 (.iconst 3) 1 118 := by decide +kernel
theorem d0_118 : Dec m0 118 (.iushr) 1 119 := by decide +kernel
theorem d0_119 : Dec m0 119 (.iload_n 3) 1 120 := by decide +kernel
theorem d0_120 : Dec m0 120 (.invokestatic 22) 3 123 := by decide +kernel
theorem d0_123 : Dec m0 123 (.aload 5) 2 125 := by decide +kernel
theorem d0_125 : Dec m0 125 (.aload 4) 2 127 := by decide +kernel
theorem d0_127 : Dec m0 127 (.iload_n 2) 1 128 := by decide +kernel
theorem d0_128 : Dec m0 128 (.bipush 6) 2 130 := by decide +kernel
theorem d0_130 : Dec m0 130 (.iushr) 1 131 := by decide +kernel
theorem d0_131 : Dec m0 131 (.iload_n 3) 1 132 := by decide +kernel
theorem d0_132 : Dec m0 132 (.invokestatic 22) 3 135 := by decide +kernel
theorem d0_135 : Dec m0 135 (.aload 5) 2 137 := by decide +kernel
theorem d0_137 : Dec m0 137 (.invokevirtual 12) 3 140 := by decide +kernel
theorem d0_140 : Dec m0 140 (.istore 10) 2 142 := by decide +kernel
theorem d0_142 : Dec m0 142 (.iload 10) 2 144 := by decide +kernel
theorem d0_144 : Dec m0 144 (.aload 4) 2 146 := by decide +kernel
theorem d0_146 : Dec m0 146 (.iload_n 3) 1 147 := by decide +kernel
theorem d0_147 : Dec m0 147 (.invokestatic 16) 3 150 := by decide +kernel
theorem d0_150 : Dec m0 150 (.if_icmp .ne 7) 3 153 := by decide +kernel
theorem j0_150 : Jmp 150 (7) 157 := by decide
theorem d0_153 : Dec m0 153 (.iconst 1) 1 154 := by decide +kernel
theorem d0_154 : Dec m0 154 (.goto 4) 3 157 := by decide +kernel
theorem j0_154 : Jmp 154 (4) 158 := by decide
theorem d0_157 : Dec m0 157 (.iconst 0) 1 158 := by decide +kernel
theorem d0_158 : Dec m0 158 (.istore 11) 2 160 := by decide +kernel
theorem d0_160 : Dec m0 160 (.iload 7) 2 162 := by decide +kernel
theorem d0_162 : Dec m0 162 (.ifCond .eq 17) 3 165 := by decide +kernel
theorem j0_162 : Jmp 162 (17) 179 := by decide
theorem d0_165 : Dec m0 165 (.iload 9) 2 167 := by decide +kernel
theorem d0_167 : Dec m0 167 (.ifCond .eq 12) 3 170 := by decide +kernel
theorem j0_167 : Jmp 167 (12) 179 := by decide
theorem d0_170 : Dec m0 170 (.iload 11) 2 172 := by decide +kernel
theorem d0_172 : Dec m0 172 (.ifCond .eq 7) 3 175 := by decide +kernel
theorem j0_172 : Jmp 172 (7) 179 := by decide
theorem d0_175 : Dec m0 175 (.iconst 1) 1 176 := by decide +kernel
theorem d0_176 : Dec m0 176 (.goto 4) 3 179 := by decide +kernel
theorem j0_176 : Jmp 176 (4) 180 := by decide
theorem d0_179 : Dec m0 179 (.iconst 0) 1 180 := by decide +kernel
theorem d0_180 : Dec m0 180 (.ireturn) 1 181 := by decide +kernel
abbrev m1 : Mt := (⟨"com/example/skew/skew/SourceLoad", "<init>", "(I)V"⟩, prog_30_method_1_code, 2, none)
theorem mi1 : MInfo m1 1 := by decide +kernel
theorem d1_0 : Dec m1 0 (.aload_n 0) 1 1 := by decide +kernel
theorem d1_1 : Dec m1 1 (.invokespecial 1) 3 4 := by decide +kernel
theorem d1_4 : Dec m1 4 (.aload_n 0) 1 5 := by decide +kernel
theorem d1_5 : Dec m1 5 (.iload_n 1) 1 6 := by decide +kernel
theorem d1_6 : Dec m1 6 (.invokestatic 7) 3 9 := by decide +kernel
theorem d1_9 : Dec m1 9 (.newarray .long) 2 11 := by decide +kernel
theorem d1_11 : Dec m1 11 (.putfield 13) 3 14 := by decide +kernel
theorem d1_14 : Dec m1 14 (.return_) 1 15 := by decide +kernel
abbrev m3 : Mt := (⟨"com/example/skew/skew/Workers", "checked", "(I)I"⟩, prog_34_method_2_code, 1, some .int)
theorem mi3 : MInfo m3 1 := by decide +kernel
theorem d3_0 : Dec m3 0 (.iload_n 0) 1 1 := by decide +kernel
theorem d3_1 : Dec m3 1 (.iconst 1) 1 2 := by decide +kernel
theorem d3_2 : Dec m3 2 (.if_icmp .ge 17) 3 5 := by decide +kernel
theorem j3_2 : Jmp 2 (17) 19 := by decide
theorem d3_5 : Dec m3 5 (.new 7) 3 8 := by decide +kernel
theorem d3_8 : Dec m3 8 (.dup) 1 9 := by decide +kernel
theorem d3_9 : Dec m3 9 (.iload_n 0) 1 10 := by decide +kernel
theorem d3_15 : Dec m3 15 (.invokespecial 13) 3 18 := by decide +kernel
theorem d3_19 : Dec m3 19 (.iload_n 0) 1 20 := by decide +kernel
theorem d3_20 : Dec m3 20 (.ireturn) 1 21 := by decide +kernel
abbrev m4 : Mt := (⟨"com/example/skew/skew/SourceLoad", "leastLoadedWorker", "()I"⟩, prog_30_method_5_code, 1, some .int)
theorem mi4 : MInfo m4 0 := by decide +kernel
theorem d4_0 : Dec m4 0 (.aload_n 0) 1 1 := by decide +kernel
theorem d4_1 : Dec m4 1 (.getfield 13) 3 4 := by decide +kernel
theorem d4_4 : Dec m4 4 (.aload_n 0) 1 5 := by decide +kernel
theorem d4_5 : Dec m4 5 (.getfield 29) 3 8 := by decide +kernel
theorem d4_8 : Dec m4 8 (.laload) 1 9 := by decide +kernel
theorem d4_9 : Dec m4 9 (.aload_n 0) 1 10 := by decide +kernel
theorem d4_10 : Dec m4 10 (.getfield 33) 3 13 := by decide +kernel
theorem d4_13 : Dec m4 13 (.lcmp) 1 14 := by decide +kernel
theorem d4_14 : Dec m4 14 (.ifCond .le 43) 3 17 := by decide +kernel
theorem j4_14 : Jmp 14 (43) 57 := by decide
theorem d4_17 : Dec m4 17 (.aload_n 0) 1 18 := by decide +kernel
theorem d4_18 : Dec m4 18 (.dup) 1 19 := by decide +kernel
theorem d4_19 : Dec m4 19 (.getfield 29) 3 22 := by decide +kernel
theorem d4_22 : Dec m4 22 (.iconst 1) 1 23 := by decide +kernel
theorem d4_23 : Dec m4 23 (.iadd) 1 24 := by decide +kernel
theorem d4_24 : Dec m4 24 (.putfield 29) 3 27 := by decide +kernel
theorem d4_27 : Dec m4 27 (.aload_n 0) 1 28 := by decide +kernel
theorem d4_28 : Dec m4 28 (.getfield 29) 3 31 := by decide +kernel
theorem d4_31 : Dec m4 31 (.aload_n 0) 1 32 := by decide +kernel
theorem d4_32 : Dec m4 32 (.getfield 13) 3 35 := by decide +kernel
theorem d4_35 : Dec m4 35 (.arraylength) 1 36 := by decide +kernel
theorem d4_36 : Dec m4 36 (.if_icmp .ne (-36)) 3 39 := by decide +kernel
theorem j4_36 : Jmp 36 (-36) 0 := by decide
theorem d4_39 : Dec m4 39 (.aload_n 0) 1 40 := by decide +kernel
theorem d4_40 : Dec m4 40 (.iconst 0) 1 41 := by decide +kernel
theorem d4_41 : Dec m4 41 (.putfield 29) 3 44 := by decide +kernel
theorem d4_44 : Dec m4 44 (.aload_n 0) 1 45 := by decide +kernel
theorem d4_45 : Dec m4 45 (.dup) 1 46 := by decide +kernel
theorem d4_46 : Dec m4 46 (.getfield 33) 3 49 := by decide +kernel
theorem d4_49 : Dec m4 49 (.lconst 1) 1 50 := by decide +kernel
theorem d4_50 : Dec m4 50 (.ladd) 1 51 := by decide +kernel
theorem d4_51 : Dec m4 51 (.putfield 33) 3 54 := by decide +kernel
theorem d4_54 : Dec m4 54 (.goto (-54)) 3 57 := by decide +kernel
theorem j4_54 : Jmp 54 (-54) 0 := by decide
theorem d4_57 : Dec m4 57 (.aload_n 0) 1 58 := by decide +kernel
theorem d4_58 : Dec m4 58 (.getfield 29) 3 61 := by decide +kernel
theorem d4_61 : Dec m4 61 (.ireturn) 1 62 := by decide +kernel
abbrev m5 : Mt := (⟨"com/example/skew/skew/SourceLoadLeastLoadedWorkerPinLaw", "argmin", "([JI)I"⟩, method_4_code, 3, some .int)
theorem mi5 : MInfo m5 2 := by decide +kernel
theorem d5_0 : Dec m5 0 (.iconst 0) 1 1 := by decide +kernel
theorem d5_1 : Dec m5 1 (.istore_n 2) 1 2 := by decide +kernel
theorem d5_2 : Dec m5 2 (.iload_n 1) 1 3 := by decide +kernel
theorem d5_3 : Dec m5 3 (.iconst 1) 1 4 := by decide +kernel
theorem d5_4 : Dec m5 4 (.if_icmp .le 15) 3 7 := by decide +kernel
theorem j5_4 : Jmp 4 (15) 19 := by decide
theorem d5_7 : Dec m5 7 (.aload_n 0) 1 8 := by decide +kernel
theorem d5_8 : Dec m5 8 (.iconst 1) 1 9 := by decide +kernel
theorem d5_9 : Dec m5 9 (.laload) 1 10 := by decide +kernel
theorem d5_10 : Dec m5 10 (.aload_n 0) 1 11 := by decide +kernel
theorem d5_11 : Dec m5 11 (.iload_n 2) 1 12 := by decide +kernel
theorem d5_12 : Dec m5 12 (.laload) 1 13 := by decide +kernel
theorem d5_13 : Dec m5 13 (.lcmp) 1 14 := by decide +kernel
theorem d5_14 : Dec m5 14 (.ifCond .ge 5) 3 17 := by decide +kernel
theorem j5_14 : Jmp 14 (5) 19 := by decide
theorem d5_17 : Dec m5 17 (.iconst 1) 1 18 := by decide +kernel
theorem d5_18 : Dec m5 18 (.istore_n 2) 1 19 := by decide +kernel
theorem d5_19 : Dec m5 19 (.iload_n 1) 1 20 := by decide +kernel
theorem d5_20 : Dec m5 20 (.iconst 2) 1 21 := by decide +kernel
theorem d5_21 : Dec m5 21 (.if_icmp .le 15) 3 24 := by decide +kernel
theorem j5_21 : Jmp 21 (15) 36 := by decide
theorem d5_24 : Dec m5 24 (.aload_n 0) 1 25 := by decide +kernel
theorem d5_25 : Dec m5 25 (.iconst 2) 1 26 := by decide +kernel
theorem d5_26 : Dec m5 26 (.laload) 1 27 := by decide +kernel
theorem d5_27 : Dec m5 27 (.aload_n 0) 1 28 := by decide +kernel
theorem d5_28 : Dec m5 28 (.iload_n 2) 1 29 := by decide +kernel
theorem d5_29 : Dec m5 29 (.laload) 1 30 := by decide +kernel
theorem d5_30 : Dec m5 30 (.lcmp) 1 31 := by decide +kernel
theorem d5_31 : Dec m5 31 (.ifCond .ge 5) 3 34 := by decide +kernel
theorem j5_31 : Jmp 31 (5) 36 := by decide
theorem d5_34 : Dec m5 34 (.iconst 2) 1 35 := by decide +kernel
theorem d5_35 : Dec m5 35 (.istore_n 2) 1 36 := by decide +kernel
theorem d5_36 : Dec m5 36 (.iload_n 1) 1 37 := by decide +kernel
theorem d5_37 : Dec m5 37 (.iconst 3) 1 38 := by decide +kernel
theorem d5_38 : Dec m5 38 (.if_icmp .le 15) 3 41 := by decide +kernel
theorem j5_38 : Jmp 38 (15) 53 := by decide
theorem d5_41 : Dec m5 41 (.aload_n 0) 1 42 := by decide +kernel
theorem d5_42 : Dec m5 42 (.iconst 3) 1 43 := by decide +kernel
theorem d5_43 : Dec m5 43 (.laload) 1 44 := by decide +kernel
theorem d5_44 : Dec m5 44 (.aload_n 0) 1 45 := by decide +kernel
theorem d5_45 : Dec m5 45 (.iload_n 2) 1 46 := by decide +kernel
theorem d5_46 : Dec m5 46 (.laload) 1 47 := by decide +kernel
theorem d5_47 : Dec m5 47 (.lcmp) 1 48 := by decide +kernel
theorem d5_48 : Dec m5 48 (.ifCond .ge 5) 3 51 := by decide +kernel
theorem j5_48 : Jmp 48 (5) 53 := by decide
theorem d5_51 : Dec m5 51 (.iconst 3) 1 52 := by decide +kernel
theorem d5_52 : Dec m5 52 (.istore_n 2) 1 53 := by decide +kernel
theorem d5_53 : Dec m5 53 (.iload_n 2) 1 54 := by decide +kernel
theorem d5_54 : Dec m5 54 (.ireturn) 1 55 := by decide +kernel
abbrev m6 : Mt := (⟨"com/example/skew/skew/SourceLoadLeastLoadedWorkerPinLaw", "step", "(Lcom/example/skew/skew/SourceLoad;[JII)V"⟩, method_3_code, 5, none)
theorem mi6 : MInfo m6 4 := by decide +kernel
theorem d6_0 : Dec m6 0 (.iload_n 2) 1 1 := by decide +kernel
theorem d6_1 : Dec m6 1 (.iconst 4) 1 2 := by decide +kernel
theorem d6_2 : Dec m6 2 (.iand) 1 3 := by decide +kernel
theorem d6_3 : Dec m6 3 (.ifCond .eq 4) 3 6 := by decide +kernel
theorem j6_3 : Jmp 3 (4) 7 := by decide
theorem d6_6 : Dec m6 6 (.return_) 1 7 := by decide +kernel
theorem d6_7 : Dec m6 7 (.iload_n 2) 1 8 := by decide +kernel
theorem d6_8 : Dec m6 8 (.iconst 3) 1 9 := by decide +kernel
theorem d6_9 : Dec m6 9 (.iand) 1 10 := by decide +kernel
theorem d6_10 : Dec m6 10 (.iload_n 3) 1 11 := by decide +kernel
theorem d6_11 : Dec m6 11 (.irem) 1 12 := by decide +kernel
theorem d6_12 : Dec m6 12 (.istore 4) 2 14 := by decide +kernel
theorem d6_14 : Dec m6 14 (.aload_n 1) 1 15 := by decide +kernel
theorem d6_15 : Dec m6 15 (.iload 4) 2 17 := by decide +kernel
theorem d6_17 : Dec m6 17 (.dup2) 1 18 := by decide +kernel
theorem d6_18 : Dec m6 18 (.laload) 1 19 := by decide +kernel
theorem d6_19 : Dec m6 19 (.lconst 1) 1 20 := by decide +kernel
theorem d6_20 : Dec m6 20 (.ladd) 1 21 := by decide +kernel
theorem d6_21 : Dec m6 21 (.lastore) 1 22 := by decide +kernel
theorem d6_22 : Dec m6 22 (.aload_n 0) 1 23 := by decide +kernel
theorem d6_23 : Dec m6 23 (.iload 4) 2 25 := by decide +kernel
theorem d6_25 : Dec m6 25 (.invokevirtual 26) 3 28 := by decide +kernel
theorem d6_28 : Dec m6 28 (.pop) 1 29 := by decide +kernel
theorem d6_29 : Dec m6 29 (.return_) 1 30 := by decide +kernel
abbrev m7 : Mt := (⟨"com/example/skew/skew/SourceLoad", "send", "(I)I"⟩, prog_30_method_7_code, 2, some .int)
theorem mi7 : MInfo m7 1 := by decide +kernel
theorem d7_0 : Dec m7 0 (.aload_n 0) 1 1 := by decide +kernel
theorem d7_1 : Dec m7 1 (.getfield 13) 3 4 := by decide +kernel
theorem d7_4 : Dec m7 4 (.iload_n 1) 1 5 := by decide +kernel
theorem d7_5 : Dec m7 5 (.dup2) 1 6 := by decide +kernel
theorem d7_6 : Dec m7 6 (.laload) 1 7 := by decide +kernel
theorem d7_7 : Dec m7 7 (.lconst 1) 1 8 := by decide +kernel
theorem d7_8 : Dec m7 8 (.ladd) 1 9 := by decide +kernel
theorem d7_9 : Dec m7 9 (.lastore) 1 10 := by decide +kernel
theorem d7_10 : Dec m7 10 (.aload_n 0) 1 11 := by decide +kernel
theorem d7_11 : Dec m7 11 (.aload_n 0) 1 12 := by decide +kernel
theorem d7_12 : Dec m7 12 (.getfield 37) 3 15 := by decide +kernel
theorem d7_15 : Dec m7 15 (.aload_n 0) 1 16 := by decide +kernel
theorem d7_16 : Dec m7 16 (.getfield 13) 3 19 := by decide +kernel
theorem d7_19 : Dec m7 19 (.iload_n 1) 1 20 := by decide +kernel
theorem d7_20 : Dec m7 20 (.laload) 1 21 := by decide +kernel
theorem d7_21 : Dec m7 21 (.invokestatic 40) 3 24 := by decide +kernel
theorem d7_24 : Dec m7 24 (.putfield 37) 3 27 := by decide +kernel
theorem d7_27 : Dec m7 27 (.iload_n 1) 1 28 := by decide +kernel
theorem d7_28 : Dec m7 28 (.ireturn) 1 29 := by decide +kernel
abbrev m8 : Mt := (⟨"java/lang/Math", "max", "(JJ)J"⟩, jdk_29_method_66_code, 4, some .long)
theorem mi8 : MInfo m8 2 := by decide +kernel
theorem d8_0 : Dec m8 0 (.lload_n 0) 1 1 := by decide +kernel
theorem d8_1 : Dec m8 1 (.lload_n 2) 1 2 := by decide +kernel
theorem d8_2 : Dec m8 2 (.lcmp) 1 3 := by decide +kernel
theorem d8_3 : Dec m8 3 (.ifCond .lt 7) 3 6 := by decide +kernel
theorem j8_3 : Jmp 3 (7) 10 := by decide
theorem d8_6 : Dec m8 6 (.lload_n 0) 1 7 := by decide +kernel
theorem d8_7 : Dec m8 7 (.goto 4) 3 10 := by decide +kernel
theorem j8_7 : Jmp 7 (4) 11 := by decide
theorem d8_10 : Dec m8 10 (.lload_n 2) 1 11 := by decide +kernel
theorem d8_11 : Dec m8 11 (.lreturn) 1 12 := by decide +kernel
def own_max (x0 : Int64) (x1 : Int64) : Int64 := (if x0 < x1 then x1 else x0)
theorem go_own_max (K : Ctx) (hw : ∀ d ∈ tables_1, d.before K.2.2.1 K.2.1 = true) (x0 : Int64) (x1 : Int64) (H : Hp) : Go K m8 0 0 0 [.val (.long x0), .second, .val (.long x1), .second] [] H (some (.long (own_max x0 x1)), some H, 0, 0) := by
  refine Go.lloadN d8_0 rfl ?_
  refine Go.lloadN d8_1 rfl ?_
  refine Go.lcmp d8_2 ?_
  refine Go.lif_lt d8_3 j8_3 (fun h3 => ?_) (fun h3 => ?_)
  · -- pc 3 taken
    refine Go.lloadN d8_10 rfl ?_
    exact Go.lreturn d8_11 rfl (by rw [own_max, if_pos h3]) (HOk.eq rfl)
  · -- pc 3 not taken
    refine Go.lloadN d8_6 rfl ?_
    refine Go.goto d8_7 j8_7 ?_
    exact Go.lreturn d8_11 rfl (by rw [own_max, if_neg h3]) (HOk.eq rfl)
theorem go_chk (K : Ctx) (hw : ∀ d ∈ tables_1, d.before K.2.2.1 K.2.1 = true) (w : Int32) (H : Hp) (h1 : ¬ w < 1) : Go K m3 0 0 0 [.val (.int w)] [] H (some (.int w), some H, 0, 0) := by
  refine Go.iloadN d3_0 rfl ?_
  refine Go.iconst d3_1 (v := 1) rfl ?_
  refine Go.icmpT d3_2 j3_2 (XT.ii_ge_t h1) ?_
  refine Go.iloadN d3_19 rfl ?_
  exact Go.ireturn d3_20 rfl rfl (HOk.eq rfl)
theorem go_ctor1 (K : Ctx) (hw : ∀ d ∈ tables_1, d.before K.2.2.1 K.2.1 = true)  : Go K m1 1 14 0 [.val (.ref 1), .val (.int 1)] [] [.inr (.long, [.long 0, .long 0, .long 0, .long 0]), .inl ("com/example/skew/skew/SourceLoad", [("sent", "[J", .null), ("floor", "J", .long 0), ("cursor", "I", .int 0), ("most", "J", .long 0)])] (none, some [.inr (.long, [.long 0, .long 0, .long 0, .long 0]), .inl ("com/example/skew/skew/SourceLoad", [("sent", "[J", .ref 2), ("floor", "J", .long 0), ("cursor", "I", .int 0), ("most", "J", .long 0)]), .inr (.long, [.long 0])], 1, 1) := by
  refine Go.aloadN d1_0 rfl rfl ?_
  refine Go.initObj d1_1 (hw _ (List.mem_of_getElem? (i := 7) rfl)) (hw _ (List.mem_of_getElem? (i := 8) rfl)) (hw _ (List.mem_of_getElem? (i := 9) rfl)) rfl (W := 0) rfl (by decide) (by decide) ?_
  refine Go.aloadN d1_4 rfl rfl ?_
  refine Go.iloadN d1_5 rfl ?_
  refine Go.callS (M' := m3) d1_6 (hw _ (List.mem_of_getElem? (i := 10) rfl)) (hw _ (List.mem_of_getElem? (i := 11) rfl)) (hw _ (List.mem_of_getElem? (i := 12) rfl)) (hw _ (List.mem_of_getElem? (i := 13) rfl)) mi3 (as := [.int 1]) rfl rfl (st := [.ref 1]) rfl (ls1 := [.val (.int 1)]) rfl (W := 1) rfl (by decide) (by decide) (go_chk K hw 1 _ (by decide)) 1 1 (by decide) (by decide) ?_
  show Go _ _ _ _ 9 [.val (.ref 1), .val (.int 1)] [.int 1, .ref 1] [.inr (.long, [.long 0, .long 0, .long 0, .long 0]), .inl ("com/example/skew/skew/SourceLoad", [("sent", "[J", .null), ("floor", "J", .long 0), ("cursor", "I", .int 0), ("most", "J", .long 0)])] _
  refine Go.newarray 1 d1_9 (hw _ (List.mem_of_getElem? (i := 0) rfl)) (t := .long) rfl (by decide) (by decide) (by decide) (vs := [.long 0]) rfl (i := 2) rfl 0 0 (by decide) (by decide) ?_
  show Go _ _ _ _ 11 [.val (.ref 1), .val (.int 1)] [.ref 2, .ref 1] [.inr (.long, [.long 0, .long 0, .long 0, .long 0]), .inl ("com/example/skew/skew/SourceLoad", [("sent", "[J", .null), ("floor", "J", .long 0), ("cursor", "I", .int 0), ("most", "J", .long 0)]), .inr (.long, [.long 0])] _
  refine Go.putfield 0 d1_11 (hw _ (List.mem_of_getElem? (i := 14) rfl)) (Or.inr ⟨(hw _ (List.mem_of_getElem? (i := 15) rfl)), rfl, rfl⟩) (hw _ (List.mem_of_getElem? (i := 2) rfl)) (ty := (.array .long)) (by decide) (fun _ => ⟨rfl, rfl⟩) rfl rfl (H1 := [.inr (.long, [.long 0, .long 0, .long 0, .long 0]), .inl ("com/example/skew/skew/SourceLoad", [("sent", "[J", .ref 2), ("floor", "J", .long 0), ("cursor", "I", .int 0), ("most", "J", .long 0)]), .inr (.long, [.long 0])]) rfl ?_
  exact Go.ret d1_14 rfl rfl (HOk.eq rfl)
theorem go_ctor2 (K : Ctx) (hw : ∀ d ∈ tables_1, d.before K.2.2.1 K.2.1 = true)  : Go K m1 1 14 0 [.val (.ref 1), .val (.int 2)] [] [.inr (.long, [.long 0, .long 0, .long 0, .long 0]), .inl ("com/example/skew/skew/SourceLoad", [("sent", "[J", .null), ("floor", "J", .long 0), ("cursor", "I", .int 0), ("most", "J", .long 0)])] (none, some [.inr (.long, [.long 0, .long 0, .long 0, .long 0]), .inl ("com/example/skew/skew/SourceLoad", [("sent", "[J", .ref 2), ("floor", "J", .long 0), ("cursor", "I", .int 0), ("most", "J", .long 0)]), .inr (.long, [.long 0, .long 0])], 1, 2) := by
  refine Go.aloadN d1_0 rfl rfl ?_
  refine Go.initObj d1_1 (hw _ (List.mem_of_getElem? (i := 7) rfl)) (hw _ (List.mem_of_getElem? (i := 8) rfl)) (hw _ (List.mem_of_getElem? (i := 9) rfl)) rfl (W := 0) rfl (by decide) (by decide) ?_
  refine Go.aloadN d1_4 rfl rfl ?_
  refine Go.iloadN d1_5 rfl ?_
  refine Go.callS (M' := m3) d1_6 (hw _ (List.mem_of_getElem? (i := 10) rfl)) (hw _ (List.mem_of_getElem? (i := 11) rfl)) (hw _ (List.mem_of_getElem? (i := 12) rfl)) (hw _ (List.mem_of_getElem? (i := 13) rfl)) mi3 (as := [.int 2]) rfl rfl (st := [.ref 1]) rfl (ls1 := [.val (.int 2)]) rfl (W := 1) rfl (by decide) (by decide) (go_chk K hw 2 _ (by decide)) 1 2 (by decide) (by decide) ?_
  show Go _ _ _ _ 9 [.val (.ref 1), .val (.int 2)] [.int 2, .ref 1] [.inr (.long, [.long 0, .long 0, .long 0, .long 0]), .inl ("com/example/skew/skew/SourceLoad", [("sent", "[J", .null), ("floor", "J", .long 0), ("cursor", "I", .int 0), ("most", "J", .long 0)])] _
  refine Go.newarray 2 d1_9 (hw _ (List.mem_of_getElem? (i := 0) rfl)) (t := .long) rfl (by decide) (by decide) (by decide) (vs := [.long 0, .long 0]) rfl (i := 2) rfl 0 0 (by decide) (by decide) ?_
  show Go _ _ _ _ 11 [.val (.ref 1), .val (.int 2)] [.ref 2, .ref 1] [.inr (.long, [.long 0, .long 0, .long 0, .long 0]), .inl ("com/example/skew/skew/SourceLoad", [("sent", "[J", .null), ("floor", "J", .long 0), ("cursor", "I", .int 0), ("most", "J", .long 0)]), .inr (.long, [.long 0, .long 0])] _
  refine Go.putfield 0 d1_11 (hw _ (List.mem_of_getElem? (i := 14) rfl)) (Or.inr ⟨(hw _ (List.mem_of_getElem? (i := 15) rfl)), rfl, rfl⟩) (hw _ (List.mem_of_getElem? (i := 2) rfl)) (ty := (.array .long)) (by decide) (fun _ => ⟨rfl, rfl⟩) rfl rfl (H1 := [.inr (.long, [.long 0, .long 0, .long 0, .long 0]), .inl ("com/example/skew/skew/SourceLoad", [("sent", "[J", .ref 2), ("floor", "J", .long 0), ("cursor", "I", .int 0), ("most", "J", .long 0)]), .inr (.long, [.long 0, .long 0])]) rfl ?_
  exact Go.ret d1_14 rfl rfl (HOk.eq rfl)
theorem go_ctor3 (K : Ctx) (hw : ∀ d ∈ tables_1, d.before K.2.2.1 K.2.1 = true)  : Go K m1 1 14 0 [.val (.ref 1), .val (.int 3)] [] [.inr (.long, [.long 0, .long 0, .long 0, .long 0]), .inl ("com/example/skew/skew/SourceLoad", [("sent", "[J", .null), ("floor", "J", .long 0), ("cursor", "I", .int 0), ("most", "J", .long 0)])] (none, some [.inr (.long, [.long 0, .long 0, .long 0, .long 0]), .inl ("com/example/skew/skew/SourceLoad", [("sent", "[J", .ref 2), ("floor", "J", .long 0), ("cursor", "I", .int 0), ("most", "J", .long 0)]), .inr (.long, [.long 0, .long 0, .long 0])], 1, 3) := by
  refine Go.aloadN d1_0 rfl rfl ?_
  refine Go.initObj d1_1 (hw _ (List.mem_of_getElem? (i := 7) rfl)) (hw _ (List.mem_of_getElem? (i := 8) rfl)) (hw _ (List.mem_of_getElem? (i := 9) rfl)) rfl (W := 0) rfl (by decide) (by decide) ?_
  refine Go.aloadN d1_4 rfl rfl ?_
  refine Go.iloadN d1_5 rfl ?_
  refine Go.callS (M' := m3) d1_6 (hw _ (List.mem_of_getElem? (i := 10) rfl)) (hw _ (List.mem_of_getElem? (i := 11) rfl)) (hw _ (List.mem_of_getElem? (i := 12) rfl)) (hw _ (List.mem_of_getElem? (i := 13) rfl)) mi3 (as := [.int 3]) rfl rfl (st := [.ref 1]) rfl (ls1 := [.val (.int 3)]) rfl (W := 1) rfl (by decide) (by decide) (go_chk K hw 3 _ (by decide)) 1 3 (by decide) (by decide) ?_
  show Go _ _ _ _ 9 [.val (.ref 1), .val (.int 3)] [.int 3, .ref 1] [.inr (.long, [.long 0, .long 0, .long 0, .long 0]), .inl ("com/example/skew/skew/SourceLoad", [("sent", "[J", .null), ("floor", "J", .long 0), ("cursor", "I", .int 0), ("most", "J", .long 0)])] _
  refine Go.newarray 3 d1_9 (hw _ (List.mem_of_getElem? (i := 0) rfl)) (t := .long) rfl (by decide) (by decide) (by decide) (vs := [.long 0, .long 0, .long 0]) rfl (i := 2) rfl 0 0 (by decide) (by decide) ?_
  show Go _ _ _ _ 11 [.val (.ref 1), .val (.int 3)] [.ref 2, .ref 1] [.inr (.long, [.long 0, .long 0, .long 0, .long 0]), .inl ("com/example/skew/skew/SourceLoad", [("sent", "[J", .null), ("floor", "J", .long 0), ("cursor", "I", .int 0), ("most", "J", .long 0)]), .inr (.long, [.long 0, .long 0, .long 0])] _
  refine Go.putfield 0 d1_11 (hw _ (List.mem_of_getElem? (i := 14) rfl)) (Or.inr ⟨(hw _ (List.mem_of_getElem? (i := 15) rfl)), rfl, rfl⟩) (hw _ (List.mem_of_getElem? (i := 2) rfl)) (ty := (.array .long)) (by decide) (fun _ => ⟨rfl, rfl⟩) rfl rfl (H1 := [.inr (.long, [.long 0, .long 0, .long 0, .long 0]), .inl ("com/example/skew/skew/SourceLoad", [("sent", "[J", .ref 2), ("floor", "J", .long 0), ("cursor", "I", .int 0), ("most", "J", .long 0)]), .inr (.long, [.long 0, .long 0, .long 0])]) rfl ?_
  exact Go.ret d1_14 rfl rfl (HOk.eq rfl)
theorem go_ctor4 (K : Ctx) (hw : ∀ d ∈ tables_1, d.before K.2.2.1 K.2.1 = true)  : Go K m1 1 14 0 [.val (.ref 1), .val (.int 4)] [] [.inr (.long, [.long 0, .long 0, .long 0, .long 0]), .inl ("com/example/skew/skew/SourceLoad", [("sent", "[J", .null), ("floor", "J", .long 0), ("cursor", "I", .int 0), ("most", "J", .long 0)])] (none, some [.inr (.long, [.long 0, .long 0, .long 0, .long 0]), .inl ("com/example/skew/skew/SourceLoad", [("sent", "[J", .ref 2), ("floor", "J", .long 0), ("cursor", "I", .int 0), ("most", "J", .long 0)]), .inr (.long, [.long 0, .long 0, .long 0, .long 0])], 1, 4) := by
  refine Go.aloadN d1_0 rfl rfl ?_
  refine Go.initObj d1_1 (hw _ (List.mem_of_getElem? (i := 7) rfl)) (hw _ (List.mem_of_getElem? (i := 8) rfl)) (hw _ (List.mem_of_getElem? (i := 9) rfl)) rfl (W := 0) rfl (by decide) (by decide) ?_
  refine Go.aloadN d1_4 rfl rfl ?_
  refine Go.iloadN d1_5 rfl ?_
  refine Go.callS (M' := m3) d1_6 (hw _ (List.mem_of_getElem? (i := 10) rfl)) (hw _ (List.mem_of_getElem? (i := 11) rfl)) (hw _ (List.mem_of_getElem? (i := 12) rfl)) (hw _ (List.mem_of_getElem? (i := 13) rfl)) mi3 (as := [.int 4]) rfl rfl (st := [.ref 1]) rfl (ls1 := [.val (.int 4)]) rfl (W := 1) rfl (by decide) (by decide) (go_chk K hw 4 _ (by decide)) 1 4 (by decide) (by decide) ?_
  show Go _ _ _ _ 9 [.val (.ref 1), .val (.int 4)] [.int 4, .ref 1] [.inr (.long, [.long 0, .long 0, .long 0, .long 0]), .inl ("com/example/skew/skew/SourceLoad", [("sent", "[J", .null), ("floor", "J", .long 0), ("cursor", "I", .int 0), ("most", "J", .long 0)])] _
  refine Go.newarray 4 d1_9 (hw _ (List.mem_of_getElem? (i := 0) rfl)) (t := .long) rfl (by decide) (by decide) (by decide) (vs := [.long 0, .long 0, .long 0, .long 0]) rfl (i := 2) rfl 0 0 (by decide) (by decide) ?_
  show Go _ _ _ _ 11 [.val (.ref 1), .val (.int 4)] [.ref 2, .ref 1] [.inr (.long, [.long 0, .long 0, .long 0, .long 0]), .inl ("com/example/skew/skew/SourceLoad", [("sent", "[J", .null), ("floor", "J", .long 0), ("cursor", "I", .int 0), ("most", "J", .long 0)]), .inr (.long, [.long 0, .long 0, .long 0, .long 0])] _
  refine Go.putfield 0 d1_11 (hw _ (List.mem_of_getElem? (i := 14) rfl)) (Or.inr ⟨(hw _ (List.mem_of_getElem? (i := 15) rfl)), rfl, rfl⟩) (hw _ (List.mem_of_getElem? (i := 2) rfl)) (ty := (.array .long)) (by decide) (fun _ => ⟨rfl, rfl⟩) rfl rfl (H1 := [.inr (.long, [.long 0, .long 0, .long 0, .long 0]), .inl ("com/example/skew/skew/SourceLoad", [("sent", "[J", .ref 2), ("floor", "J", .long 0), ("cursor", "I", .int 0), ("most", "J", .long 0)]), .inr (.long, [.long 0, .long 0, .long 0, .long 0])]) rfl ?_
  exact Go.ret d1_14 rfl rfl (HOk.eq rfl)
theorem go_lw_a (K : Ctx) (hw : ∀ d ∈ tables_1, d.before K.2.2.1 K.2.1 = true) (c s : List Value) (f mo v : Int64) (k z : Int32) (hz : s.length.toInt32 = z) (hj : ¬ k < 0) (hv : s[k.toNatClampNeg]? = some (.long v)) (hlt : f < v) (hne : ¬ (k + 1) = z) (rv : Option Value) (Hr : Option Hp) (h : Go K m4 0 0 0 [.val (.ref 1)] [] [.inr (.long, c), .inl ("com/example/skew/skew/SourceLoad", [("sent", "[J", .ref 2), ("floor", "J", .long f), ("cursor", "I", .int (k + 1)), ("most", "J", .long mo)]), .inr (.long, s)] (rv, Hr, 0, 0)) : Go K m4 0 0 0 [.val (.ref 1)] [] [.inr (.long, c), .inl ("com/example/skew/skew/SourceLoad", [("sent", "[J", .ref 2), ("floor", "J", .long f), ("cursor", "I", .int k), ("most", "J", .long mo)]), .inr (.long, s)] (rv, Hr, 0, 0) := by
  refine Go.aloadN d4_0 rfl rfl ?_
  refine Go.getfield 0 d4_1 (hw _ (List.mem_of_getElem? (i := 14) rfl)) rfl rfl ?_
  refine Go.aloadN d4_4 rfl rfl ?_
  refine Go.getfield 2 d4_5 (hw _ (List.mem_of_getElem? (i := 21) rfl)) rfl rfl ?_
  refine Go.laload d4_8 rfl hj hv ?_
  refine Go.aloadN d4_9 rfl rfl ?_
  refine Go.getfield 1 d4_10 (hw _ (List.mem_of_getElem? (i := 23) rfl)) rfl rfl ?_
  refine Go.lcmp d4_13 ?_
  refine Go.ifF d4_14 (XT.ll_le_f hlt) ?_
  refine Go.aloadN d4_17 rfl rfl ?_
  refine Go.dup d4_18 rfl ?_
  refine Go.getfield 2 d4_19 (hw _ (List.mem_of_getElem? (i := 21) rfl)) rfl rfl ?_
  refine Go.iconst d4_22 (v := 1) rfl ?_
  refine Go.iadd d4_23 ?_
  refine Go.putfield 2 d4_24 (hw _ (List.mem_of_getElem? (i := 21) rfl)) (Or.inl (hw _ (List.mem_of_getElem? (i := 22) rfl))) (hw _ (List.mem_of_getElem? (i := 2) rfl)) (ty := .int) (by decide) (fun _ => ⟨rfl, rfl⟩) rfl rfl (H1 := [.inr (.long, c), .inl ("com/example/skew/skew/SourceLoad", [("sent", "[J", .ref 2), ("floor", "J", .long f), ("cursor", "I", .int (k + 1)), ("most", "J", .long mo)]), .inr (.long, s)]) rfl ?_
  refine Go.aloadN d4_27 rfl rfl ?_
  refine Go.getfield 2 d4_28 (hw _ (List.mem_of_getElem? (i := 21) rfl)) rfl rfl ?_
  refine Go.aloadN d4_31 rfl rfl ?_
  refine Go.getfield 0 d4_32 (hw _ (List.mem_of_getElem? (i := 14) rfl)) rfl rfl ?_
  refine Go.arraylength d4_35 rfl (z := z) hz ?_
  refine Go.icmpT d4_36 j4_36 (XT.ii_ne_t hne) ?_
  exact h
theorem go_lw_b (K : Ctx) (hw : ∀ d ∈ tables_1, d.before K.2.2.1 K.2.1 = true) (c s : List Value) (f mo v : Int64) (k z : Int32) (hz : s.length.toInt32 = z) (hj : ¬ k < 0) (hv : s[k.toNatClampNeg]? = some (.long v)) (hlt : f < v) (heq : (k + 1) = z) (rv : Option Value) (Hr : Option Hp) (h : Go K m4 0 0 0 [.val (.ref 1)] [] [.inr (.long, c), .inl ("com/example/skew/skew/SourceLoad", [("sent", "[J", .ref 2), ("floor", "J", .long (f + 1)), ("cursor", "I", .int 0), ("most", "J", .long mo)]), .inr (.long, s)] (rv, Hr, 0, 0)) : Go K m4 0 0 0 [.val (.ref 1)] [] [.inr (.long, c), .inl ("com/example/skew/skew/SourceLoad", [("sent", "[J", .ref 2), ("floor", "J", .long f), ("cursor", "I", .int k), ("most", "J", .long mo)]), .inr (.long, s)] (rv, Hr, 0, 0) := by
  refine Go.aloadN d4_0 rfl rfl ?_
  refine Go.getfield 0 d4_1 (hw _ (List.mem_of_getElem? (i := 14) rfl)) rfl rfl ?_
  refine Go.aloadN d4_4 rfl rfl ?_
  refine Go.getfield 2 d4_5 (hw _ (List.mem_of_getElem? (i := 21) rfl)) rfl rfl ?_
  refine Go.laload d4_8 rfl hj hv ?_
  refine Go.aloadN d4_9 rfl rfl ?_
  refine Go.getfield 1 d4_10 (hw _ (List.mem_of_getElem? (i := 23) rfl)) rfl rfl ?_
  refine Go.lcmp d4_13 ?_
  refine Go.ifF d4_14 (XT.ll_le_f hlt) ?_
  refine Go.aloadN d4_17 rfl rfl ?_
  refine Go.dup d4_18 rfl ?_
  refine Go.getfield 2 d4_19 (hw _ (List.mem_of_getElem? (i := 21) rfl)) rfl rfl ?_
  refine Go.iconst d4_22 (v := 1) rfl ?_
  refine Go.iadd d4_23 ?_
  refine Go.putfield 2 d4_24 (hw _ (List.mem_of_getElem? (i := 21) rfl)) (Or.inl (hw _ (List.mem_of_getElem? (i := 22) rfl))) (hw _ (List.mem_of_getElem? (i := 2) rfl)) (ty := .int) (by decide) (fun _ => ⟨rfl, rfl⟩) rfl rfl (H1 := [.inr (.long, c), .inl ("com/example/skew/skew/SourceLoad", [("sent", "[J", .ref 2), ("floor", "J", .long f), ("cursor", "I", .int (k + 1)), ("most", "J", .long mo)]), .inr (.long, s)]) rfl ?_
  refine Go.aloadN d4_27 rfl rfl ?_
  refine Go.getfield 2 d4_28 (hw _ (List.mem_of_getElem? (i := 21) rfl)) rfl rfl ?_
  refine Go.aloadN d4_31 rfl rfl ?_
  refine Go.getfield 0 d4_32 (hw _ (List.mem_of_getElem? (i := 14) rfl)) rfl rfl ?_
  refine Go.arraylength d4_35 rfl (z := z) hz ?_
  refine Go.icmpF d4_36 (XT.ii_ne_f heq) ?_
  refine Go.aloadN d4_39 rfl rfl ?_
  refine Go.iconst d4_40 (v := 0) rfl ?_
  refine Go.putfield 2 d4_41 (hw _ (List.mem_of_getElem? (i := 21) rfl)) (Or.inl (hw _ (List.mem_of_getElem? (i := 22) rfl))) (hw _ (List.mem_of_getElem? (i := 2) rfl)) (ty := .int) (by decide) (fun _ => ⟨rfl, rfl⟩) rfl rfl (H1 := [.inr (.long, c), .inl ("com/example/skew/skew/SourceLoad", [("sent", "[J", .ref 2), ("floor", "J", .long f), ("cursor", "I", .int 0), ("most", "J", .long mo)]), .inr (.long, s)]) rfl ?_
  refine Go.aloadN d4_44 rfl rfl ?_
  refine Go.dup d4_45 rfl ?_
  refine Go.getfield 1 d4_46 (hw _ (List.mem_of_getElem? (i := 23) rfl)) rfl rfl ?_
  refine Go.lconst d4_49 (v := 1) rfl ?_
  refine Go.ladd d4_50 ?_
  refine Go.putfield 1 d4_51 (hw _ (List.mem_of_getElem? (i := 23) rfl)) (Or.inl (hw _ (List.mem_of_getElem? (i := 24) rfl))) (hw _ (List.mem_of_getElem? (i := 2) rfl)) (ty := .long) (by decide) (fun _ => ⟨rfl, rfl⟩) rfl rfl (H1 := [.inr (.long, c), .inl ("com/example/skew/skew/SourceLoad", [("sent", "[J", .ref 2), ("floor", "J", .long (f + 1)), ("cursor", "I", .int 0), ("most", "J", .long mo)]), .inr (.long, s)]) rfl ?_
  refine Go.goto d4_54 j4_54 ?_
  exact h
theorem go_lw_c (K : Ctx) (hw : ∀ d ∈ tables_1, d.before K.2.2.1 K.2.1 = true) (c s : List Value) (f mo v : Int64) (k z : Int32) (hz : s.length.toInt32 = z) (hj : ¬ k < 0) (hv : s[k.toNatClampNeg]? = some (.long v)) (hge : ¬ f < v) : Go K m4 0 0 0 [.val (.ref 1)] [] [.inr (.long, c), .inl ("com/example/skew/skew/SourceLoad", [("sent", "[J", .ref 2), ("floor", "J", .long f), ("cursor", "I", .int k), ("most", "J", .long mo)]), .inr (.long, s)] (some (.int k), some [.inr (.long, c), .inl ("com/example/skew/skew/SourceLoad", [("sent", "[J", .ref 2), ("floor", "J", .long f), ("cursor", "I", .int k), ("most", "J", .long mo)]), .inr (.long, s)], 0, 0) := by
  refine Go.aloadN d4_0 rfl rfl ?_
  refine Go.getfield 0 d4_1 (hw _ (List.mem_of_getElem? (i := 14) rfl)) rfl rfl ?_
  refine Go.aloadN d4_4 rfl rfl ?_
  refine Go.getfield 2 d4_5 (hw _ (List.mem_of_getElem? (i := 21) rfl)) rfl rfl ?_
  refine Go.laload d4_8 rfl hj hv ?_
  refine Go.aloadN d4_9 rfl rfl ?_
  refine Go.getfield 1 d4_10 (hw _ (List.mem_of_getElem? (i := 23) rfl)) rfl rfl ?_
  refine Go.lcmp d4_13 ?_
  refine Go.ifT d4_14 j4_14 (XT.ll_le_t hge) ?_
  refine Go.aloadN d4_57 rfl rfl ?_
  refine Go.getfield 2 d4_58 (hw _ (List.mem_of_getElem? (i := 21) rfl)) rfl rfl ?_
  exact Go.ireturn d4_61 rfl rfl (HOk.eq rfl)
def own_vals (cs : List Nat) : List Value := cs.map (fun n => Value.long (Int64.ofNat n))
theorem own_vlen (cs : List Nat) : (own_vals cs).length = cs.length := by simp [own_vals]
theorem own_vget {cs : List Nat} {i n : Nat} (h : cs[i]? = some n) : (own_vals cs)[i]? = some (.long (Int64.ofNat n)) := by simp [own_vals, h]
theorem own_vset (cs : List Nat) (i n : Nat) : (own_vals cs).set i (.long (Int64.ofNat n)) = own_vals (cs.set i n) := by simp [own_vals, List.map_set]
/-- the workers' counts; no count is below f; those below k lie above f -/
def own_Inv (cs : List Nat) (f k : Nat) : Prop := k < cs.length ∧ cs.length ≤ 4 ∧ ∀ i n, cs[i]? = some n → n ≤ 1000 ∧ f ≤ n ∧ (i < k → f < n)
def own_AM (cs : List Nat) (r : Nat) : Prop := ∃ m, cs[r]? = some m ∧ ∀ i n, cs[i]? = some n → m ≤ n ∧ (i < r → m < n)
theorem own_AM_uniq {cs : List Nat} {r q : Nat} (h1 : own_AM cs r) (h2 : own_AM cs q) : r = q := by
  obtain ⟨m, a, b⟩ := h1
  obtain ⟨p, c, d⟩ := h2
  have e1 := b _ _ c
  have e2 := d _ _ a
  rcases Nat.lt_trichotomy r q with h | h | h
  · have := e2.2 h; omega
  · exact h
  · have := e1.2 h; omega
theorem own_lt64 {a b : Nat} (ha : a ≤ 1000) (hb : b ≤ 1000) : Int64.ofNat a < Int64.ofNat b ↔ a < b := by
  rw [Int64.lt_iff_toInt_lt, Int64.toInt_ofNat_of_lt (by omega), Int64.toInt_ofNat_of_lt (by omega)]; omega
theorem own_i32 {n : Nat} (h : n ≤ 1000) : (Int32.ofNat n).toInt = n := Int32.toInt_ofNat_of_lt (by omega)
theorem own_nneg {n : Nat} (h : n ≤ 1000) : ¬ Int32.ofNat n < 0 := by
  rw [Int32.lt_iff_toInt_lt, own_i32 h]; show ¬ (n : Int) < 0; omega
theorem own_clamp {n : Nat} (h : n ≤ 1000) : (Int32.ofNat n).toNatClampNeg = n := Int32.toNatClampNeg_ofNat_of_lt (by omega)
theorem own_inj32 {a b : Nat} (ha : a ≤ 1000) (hb : b ≤ 1000) : Int32.ofNat a = Int32.ofNat b ↔ a = b := by
  rw [← Int32.toInt_inj, own_i32 ha, own_i32 hb]; omega
theorem go_llw (K : Ctx) (hw : ∀ d ∈ tables_1, d.before K.2.2.1 K.2.1 = true) (cs : List Nat) (c : List Value) (mo : Int64) (n0 : Nat) (hn0 : cs[0]? = some n0) : ∀ (m f k : Nat), own_Inv cs f k → (n0 - f) * cs.length + (cs.length - k) ≤ m →
    ∃ f' k', own_Inv cs f' k' ∧ own_AM cs k' ∧ Go K m4 0 0 0 [.val (.ref 1)] [] [.inr (.long, c), .inl ("com/example/skew/skew/SourceLoad", [("sent", "[J", .ref 2), ("floor", "J", .long (Int64.ofNat f)), ("cursor", "I", .int (Int32.ofNat k)), ("most", "J", .long mo)]), .inr (.long, (own_vals cs))] (some (.int (Int32.ofNat k')), some [.inr (.long, c), .inl ("com/example/skew/skew/SourceLoad", [("sent", "[J", .ref 2), ("floor", "J", .long (Int64.ofNat f')), ("cursor", "I", .int (Int32.ofNat k')), ("most", "J", .long mo)]), .inr (.long, (own_vals cs))], 0, 0) := by
  intro m
  induction m with
  | zero => intro f k hI hm; exact absurd hI.1 (by omega)
  | succ m ih =>
    intro f k hI hm
    obtain ⟨hk, h4, hall⟩ := hI
    have hv : cs[k]? = some cs[k] := List.getElem?_eq_getElem hk
    generalize cs[k] = v at hv
    have hkv := hall k v hv
    have hj := own_nneg (n := k) (by omega)
    have hget : (own_vals cs)[(Int32.ofNat k).toNatClampNeg]? = some (.long (Int64.ofNat v)) := by rw [own_clamp (by omega)]; exact own_vget hv
    have hz : (own_vals cs).length.toInt32 = Int32.ofNat cs.length := congrArg Nat.toInt32 (own_vlen cs)
    by_cases q : f < v
    · have q' : Int64.ofNat f < Int64.ofNat v := (own_lt64 (by omega) (by omega)).mpr q
      have e1 : Int32.ofNat k + 1 = Int32.ofNat (k + 1) := (Int32.ofNat_add k 1).symm
      by_cases w : k + 1 = cs.length
      · have hI' : own_Inv cs (f + 1) 0 := by
          refine ⟨by omega, h4, fun i n hi => ?_⟩
          have hh := hall i n hi
          have hil := (List.getElem?_eq_some_iff.mp hi).1
          refine ⟨hh.1, ?_, fun z => absurd z (Nat.not_lt_zero _)⟩
          by_cases ik : i < k
          · exact hh.2.2 ik
          · obtain rfl : i = k := by omega
            rw [hv] at hi; cases hi; exact q
        have h0 := hall 0 n0 hn0
        have h0' : f < n0 := by
          by_cases ik : 0 < k
          · exact h0.2.2 ik
          · obtain rfl : k = 0 := by omega
            rw [hv] at hn0; cases hn0; exact q
        have hmul : (n0 - f) * cs.length = (n0 - (f + 1)) * cs.length + cs.length := by
          rw [show n0 - f = (n0 - (f + 1)) + 1 by omega, Nat.add_mul, Nat.one_mul]
        obtain ⟨f', k', i1, i2, g⟩ := ih (f + 1) 0 hI' (by omega)
        refine ⟨f', k', i1, i2, go_lw_b K hw c (own_vals cs) (Int64.ofNat f) mo (Int64.ofNat v) (Int32.ofNat k) (Int32.ofNat cs.length) hz hj hget q' (by rw [e1, w]) _ _ ?_⟩
        rw [show Int64.ofNat f + 1 = Int64.ofNat (f + 1) from (Int64.ofNat_add f 1).symm]
        exact g
      · have hI' : own_Inv cs f (k + 1) := by
          refine ⟨by omega, h4, fun i n hi => ?_⟩
          have hh := hall i n hi
          refine ⟨hh.1, hh.2.1, fun z => ?_⟩
          by_cases ik : i < k
          · exact hh.2.2 ik
          · obtain rfl : i = k := by omega
            rw [hv] at hi; cases hi; exact q
        obtain ⟨f', k', i1, i2, g⟩ := ih f (k + 1) hI' (by omega)
        refine ⟨f', k', i1, i2, go_lw_a K hw c (own_vals cs) (Int64.ofNat f) mo (Int64.ofNat v) (Int32.ofNat k) (Int32.ofNat cs.length) hz hj hget q' (by rw [e1, own_inj32 (by omega) (by omega)]; exact w) _ _ ?_⟩
        rw [e1]
        exact g
    · have q' : ¬ Int64.ofNat f < Int64.ofNat v := fun z => q ((own_lt64 (by omega) (by omega)).mp z)
      refine ⟨f, k, ⟨hk, h4, hall⟩, ⟨v, hv, fun i n hi => ?_⟩, go_lw_c K hw c (own_vals cs) (Int64.ofNat f) mo (Int64.ofNat v) (Int32.ofNat k) (Int32.ofNat cs.length) hz hj hget q'⟩
      have hh := hall i n hi
      exact ⟨by omega, fun z => by have := hh.2.2 z; omega⟩
def own_am1 (v0 v1 v2 v3 : Int64) : Int32 := 0
theorem go_own_am1 (K : Ctx) (hw : ∀ d ∈ tables_1, d.before K.2.2.1 K.2.1 = true) (H : Hp) (v0 v1 v2 v3 : Int64) (hH : H[0]? = some (.inr (.long, [.long v0, .long v1, .long v2, .long v3]))) : Go K m5 0 0 0 [.val (.ref 0), .val (.int 1), .unset] [] H (some (.int (own_am1 v0 v1 v2 v3)), some H, 0, 0) := by
  refine Go.iconst d5_0 (v := 0) rfl ?_
  refine Go.istoreN d5_1 (ls' := [.val (.ref 0), .val (.int 1), .val (.int 0)]) rfl ?_
  refine Go.iloadN d5_2 rfl ?_
  refine Go.iconst d5_3 (v := 1) rfl ?_
  refine Go.icmpT d5_4 j5_4 (XT.ii_le_t (by decide)) ?_
  refine Go.iloadN d5_19 rfl ?_
  refine Go.iconst d5_20 (v := 2) rfl ?_
  refine Go.icmpT d5_21 j5_21 (XT.ii_le_t (by decide)) ?_
  refine Go.iloadN d5_36 rfl ?_
  refine Go.iconst d5_37 (v := 3) rfl ?_
  refine Go.icmpT d5_38 j5_38 (XT.ii_le_t (by decide)) ?_
  refine Go.iloadN d5_53 rfl ?_
  exact Go.ireturn d5_54 rfl (by rw [own_am1]) (HOk.eq rfl)
def own_am2 (v0 v1 v2 v3 : Int64) : Int32 := (if v1 < v0 then 1 else 0)
theorem go_own_am2 (K : Ctx) (hw : ∀ d ∈ tables_1, d.before K.2.2.1 K.2.1 = true) (H : Hp) (v0 v1 v2 v3 : Int64) (hH : H[0]? = some (.inr (.long, [.long v0, .long v1, .long v2, .long v3]))) : Go K m5 0 0 0 [.val (.ref 0), .val (.int 2), .unset] [] H (some (.int (own_am2 v0 v1 v2 v3)), some H, 0, 0) := by
  refine Go.iconst d5_0 (v := 0) rfl ?_
  refine Go.istoreN d5_1 (ls' := [.val (.ref 0), .val (.int 2), .val (.int 0)]) rfl ?_
  refine Go.iloadN d5_2 rfl ?_
  refine Go.iconst d5_3 (v := 1) rfl ?_
  refine Go.icmpF d5_4 (XT.ii_le_f (by decide)) ?_
  refine Go.aloadN d5_7 rfl rfl ?_
  refine Go.iconst d5_8 (v := 1) rfl ?_
  refine Go.laload d5_9 hH (by decide) rfl ?_
  refine Go.aloadN d5_10 rfl rfl ?_
  refine Go.iloadN d5_11 rfl ?_
  refine Go.laload d5_12 hH (by decide) rfl ?_
  refine Go.lcmp d5_13 ?_
  refine Go.lif_ge d5_14 j5_14 (fun h14 => ?_) (fun h14 => ?_)
  · -- pc 14 taken
    refine Go.iloadN d5_19 rfl ?_
    refine Go.iconst d5_20 (v := 2) rfl ?_
    refine Go.icmpT d5_21 j5_21 (XT.ii_le_t (by decide)) ?_
    refine Go.iloadN d5_36 rfl ?_
    refine Go.iconst d5_37 (v := 3) rfl ?_
    refine Go.icmpT d5_38 j5_38 (XT.ii_le_t (by decide)) ?_
    refine Go.iloadN d5_53 rfl ?_
    exact Go.ireturn d5_54 rfl (by rw [own_am2, if_neg h14]) (HOk.eq rfl)
  · -- pc 14 not taken
    refine Go.iconst d5_17 (v := 1) rfl ?_
    refine Go.istoreN d5_18 (ls' := [.val (.ref 0), .val (.int 2), .val (.int 1)]) rfl ?_
    refine Go.iloadN d5_19 rfl ?_
    refine Go.iconst d5_20 (v := 2) rfl ?_
    refine Go.icmpT d5_21 j5_21 (XT.ii_le_t (by decide)) ?_
    refine Go.iloadN d5_36 rfl ?_
    refine Go.iconst d5_37 (v := 3) rfl ?_
    refine Go.icmpT d5_38 j5_38 (XT.ii_le_t (by decide)) ?_
    refine Go.iloadN d5_53 rfl ?_
    exact Go.ireturn d5_54 rfl (by rw [own_am2, if_pos h14]) (HOk.eq rfl)
def own_am3 (v0 v1 v2 v3 : Int64) : Int32 := (if v1 < v0 then (if v2 < v1 then 2 else 1) else (if v2 < v0 then 2 else 0))
theorem go_own_am3 (K : Ctx) (hw : ∀ d ∈ tables_1, d.before K.2.2.1 K.2.1 = true) (H : Hp) (v0 v1 v2 v3 : Int64) (hH : H[0]? = some (.inr (.long, [.long v0, .long v1, .long v2, .long v3]))) : Go K m5 0 0 0 [.val (.ref 0), .val (.int 3), .unset] [] H (some (.int (own_am3 v0 v1 v2 v3)), some H, 0, 0) := by
  refine Go.iconst d5_0 (v := 0) rfl ?_
  refine Go.istoreN d5_1 (ls' := [.val (.ref 0), .val (.int 3), .val (.int 0)]) rfl ?_
  refine Go.iloadN d5_2 rfl ?_
  refine Go.iconst d5_3 (v := 1) rfl ?_
  refine Go.icmpF d5_4 (XT.ii_le_f (by decide)) ?_
  refine Go.aloadN d5_7 rfl rfl ?_
  refine Go.iconst d5_8 (v := 1) rfl ?_
  refine Go.laload d5_9 hH (by decide) rfl ?_
  refine Go.aloadN d5_10 rfl rfl ?_
  refine Go.iloadN d5_11 rfl ?_
  refine Go.laload d5_12 hH (by decide) rfl ?_
  refine Go.lcmp d5_13 ?_
  refine Go.lif_ge d5_14 j5_14 (fun h14 => ?_) (fun h14 => ?_)
  · -- pc 14 taken
    refine Go.iloadN d5_19 rfl ?_
    refine Go.iconst d5_20 (v := 2) rfl ?_
    refine Go.icmpF d5_21 (XT.ii_le_f (by decide)) ?_
    refine Go.aloadN d5_24 rfl rfl ?_
    refine Go.iconst d5_25 (v := 2) rfl ?_
    refine Go.laload d5_26 hH (by decide) rfl ?_
    refine Go.aloadN d5_27 rfl rfl ?_
    refine Go.iloadN d5_28 rfl ?_
    refine Go.laload d5_29 hH (by decide) rfl ?_
    refine Go.lcmp d5_30 ?_
    refine Go.lif_ge d5_31 j5_31 (fun h31 => ?_) (fun h31 => ?_)
    · -- pc 31 taken
      refine Go.iloadN d5_36 rfl ?_
      refine Go.iconst d5_37 (v := 3) rfl ?_
      refine Go.icmpT d5_38 j5_38 (XT.ii_le_t (by decide)) ?_
      refine Go.iloadN d5_53 rfl ?_
      exact Go.ireturn d5_54 rfl (by rw [own_am3, if_neg h14, if_neg h31]) (HOk.eq rfl)
    · -- pc 31 not taken
      refine Go.iconst d5_34 (v := 2) rfl ?_
      refine Go.istoreN d5_35 (ls' := [.val (.ref 0), .val (.int 3), .val (.int 2)]) rfl ?_
      refine Go.iloadN d5_36 rfl ?_
      refine Go.iconst d5_37 (v := 3) rfl ?_
      refine Go.icmpT d5_38 j5_38 (XT.ii_le_t (by decide)) ?_
      refine Go.iloadN d5_53 rfl ?_
      exact Go.ireturn d5_54 rfl (by rw [own_am3, if_neg h14, if_pos h31]) (HOk.eq rfl)
  · -- pc 14 not taken
    refine Go.iconst d5_17 (v := 1) rfl ?_
    refine Go.istoreN d5_18 (ls' := [.val (.ref 0), .val (.int 3), .val (.int 1)]) rfl ?_
    refine Go.iloadN d5_19 rfl ?_
    refine Go.iconst d5_20 (v := 2) rfl ?_
    refine Go.icmpF d5_21 (XT.ii_le_f (by decide)) ?_
    refine Go.aloadN d5_24 rfl rfl ?_
    refine Go.iconst d5_25 (v := 2) rfl ?_
    refine Go.laload d5_26 hH (by decide) rfl ?_
    refine Go.aloadN d5_27 rfl rfl ?_
    refine Go.iloadN d5_28 rfl ?_
    refine Go.laload d5_29 hH (by decide) rfl ?_
    refine Go.lcmp d5_30 ?_
    refine Go.lif_ge d5_31 j5_31 (fun h31 => ?_) (fun h31 => ?_)
    · -- pc 31 taken
      refine Go.iloadN d5_36 rfl ?_
      refine Go.iconst d5_37 (v := 3) rfl ?_
      refine Go.icmpT d5_38 j5_38 (XT.ii_le_t (by decide)) ?_
      refine Go.iloadN d5_53 rfl ?_
      exact Go.ireturn d5_54 rfl (by rw [own_am3, if_pos h14, if_neg h31]) (HOk.eq rfl)
    · -- pc 31 not taken
      refine Go.iconst d5_34 (v := 2) rfl ?_
      refine Go.istoreN d5_35 (ls' := [.val (.ref 0), .val (.int 3), .val (.int 2)]) rfl ?_
      refine Go.iloadN d5_36 rfl ?_
      refine Go.iconst d5_37 (v := 3) rfl ?_
      refine Go.icmpT d5_38 j5_38 (XT.ii_le_t (by decide)) ?_
      refine Go.iloadN d5_53 rfl ?_
      exact Go.ireturn d5_54 rfl (by rw [own_am3, if_pos h14, if_pos h31]) (HOk.eq rfl)
def own_am4 (v0 v1 v2 v3 : Int64) : Int32 := (if v1 < v0 then (if v2 < v1 then (if v3 < v2 then 3 else 2) else (if v3 < v1 then 3 else 1)) else (if v2 < v0 then (if v3 < v2 then 3 else 2) else (if v3 < v0 then 3 else 0)))
theorem go_own_am4 (K : Ctx) (hw : ∀ d ∈ tables_1, d.before K.2.2.1 K.2.1 = true) (H : Hp) (v0 v1 v2 v3 : Int64) (hH : H[0]? = some (.inr (.long, [.long v0, .long v1, .long v2, .long v3]))) : Go K m5 0 0 0 [.val (.ref 0), .val (.int 4), .unset] [] H (some (.int (own_am4 v0 v1 v2 v3)), some H, 0, 0) := by
  refine Go.iconst d5_0 (v := 0) rfl ?_
  refine Go.istoreN d5_1 (ls' := [.val (.ref 0), .val (.int 4), .val (.int 0)]) rfl ?_
  refine Go.iloadN d5_2 rfl ?_
  refine Go.iconst d5_3 (v := 1) rfl ?_
  refine Go.icmpF d5_4 (XT.ii_le_f (by decide)) ?_
  refine Go.aloadN d5_7 rfl rfl ?_
  refine Go.iconst d5_8 (v := 1) rfl ?_
  refine Go.laload d5_9 hH (by decide) rfl ?_
  refine Go.aloadN d5_10 rfl rfl ?_
  refine Go.iloadN d5_11 rfl ?_
  refine Go.laload d5_12 hH (by decide) rfl ?_
  refine Go.lcmp d5_13 ?_
  refine Go.lif_ge d5_14 j5_14 (fun h14 => ?_) (fun h14 => ?_)
  · -- pc 14 taken
    refine Go.iloadN d5_19 rfl ?_
    refine Go.iconst d5_20 (v := 2) rfl ?_
    refine Go.icmpF d5_21 (XT.ii_le_f (by decide)) ?_
    refine Go.aloadN d5_24 rfl rfl ?_
    refine Go.iconst d5_25 (v := 2) rfl ?_
    refine Go.laload d5_26 hH (by decide) rfl ?_
    refine Go.aloadN d5_27 rfl rfl ?_
    refine Go.iloadN d5_28 rfl ?_
    refine Go.laload d5_29 hH (by decide) rfl ?_
    refine Go.lcmp d5_30 ?_
    refine Go.lif_ge d5_31 j5_31 (fun h31 => ?_) (fun h31 => ?_)
    · -- pc 31 taken
      refine Go.iloadN d5_36 rfl ?_
      refine Go.iconst d5_37 (v := 3) rfl ?_
      refine Go.icmpF d5_38 (XT.ii_le_f (by decide)) ?_
      refine Go.aloadN d5_41 rfl rfl ?_
      refine Go.iconst d5_42 (v := 3) rfl ?_
      refine Go.laload d5_43 hH (by decide) rfl ?_
      refine Go.aloadN d5_44 rfl rfl ?_
      refine Go.iloadN d5_45 rfl ?_
      refine Go.laload d5_46 hH (by decide) rfl ?_
      refine Go.lcmp d5_47 ?_
      refine Go.lif_ge d5_48 j5_48 (fun h48 => ?_) (fun h48 => ?_)
      · -- pc 48 taken
        refine Go.iloadN d5_53 rfl ?_
        exact Go.ireturn d5_54 rfl (by rw [own_am4, if_neg h14, if_neg h31, if_neg h48]) (HOk.eq rfl)
      · -- pc 48 not taken
        refine Go.iconst d5_51 (v := 3) rfl ?_
        refine Go.istoreN d5_52 (ls' := [.val (.ref 0), .val (.int 4), .val (.int 3)]) rfl ?_
        refine Go.iloadN d5_53 rfl ?_
        exact Go.ireturn d5_54 rfl (by rw [own_am4, if_neg h14, if_neg h31, if_pos h48]) (HOk.eq rfl)
    · -- pc 31 not taken
      refine Go.iconst d5_34 (v := 2) rfl ?_
      refine Go.istoreN d5_35 (ls' := [.val (.ref 0), .val (.int 4), .val (.int 2)]) rfl ?_
      refine Go.iloadN d5_36 rfl ?_
      refine Go.iconst d5_37 (v := 3) rfl ?_
      refine Go.icmpF d5_38 (XT.ii_le_f (by decide)) ?_
      refine Go.aloadN d5_41 rfl rfl ?_
      refine Go.iconst d5_42 (v := 3) rfl ?_
      refine Go.laload d5_43 hH (by decide) rfl ?_
      refine Go.aloadN d5_44 rfl rfl ?_
      refine Go.iloadN d5_45 rfl ?_
      refine Go.laload d5_46 hH (by decide) rfl ?_
      refine Go.lcmp d5_47 ?_
      refine Go.lif_ge d5_48 j5_48 (fun h48 => ?_) (fun h48 => ?_)
      · -- pc 48 taken
        refine Go.iloadN d5_53 rfl ?_
        exact Go.ireturn d5_54 rfl (by rw [own_am4, if_neg h14, if_pos h31, if_neg h48]) (HOk.eq rfl)
      · -- pc 48 not taken
        refine Go.iconst d5_51 (v := 3) rfl ?_
        refine Go.istoreN d5_52 (ls' := [.val (.ref 0), .val (.int 4), .val (.int 3)]) rfl ?_
        refine Go.iloadN d5_53 rfl ?_
        exact Go.ireturn d5_54 rfl (by rw [own_am4, if_neg h14, if_pos h31, if_pos h48]) (HOk.eq rfl)
  · -- pc 14 not taken
    refine Go.iconst d5_17 (v := 1) rfl ?_
    refine Go.istoreN d5_18 (ls' := [.val (.ref 0), .val (.int 4), .val (.int 1)]) rfl ?_
    refine Go.iloadN d5_19 rfl ?_
    refine Go.iconst d5_20 (v := 2) rfl ?_
    refine Go.icmpF d5_21 (XT.ii_le_f (by decide)) ?_
    refine Go.aloadN d5_24 rfl rfl ?_
    refine Go.iconst d5_25 (v := 2) rfl ?_
    refine Go.laload d5_26 hH (by decide) rfl ?_
    refine Go.aloadN d5_27 rfl rfl ?_
    refine Go.iloadN d5_28 rfl ?_
    refine Go.laload d5_29 hH (by decide) rfl ?_
    refine Go.lcmp d5_30 ?_
    refine Go.lif_ge d5_31 j5_31 (fun h31 => ?_) (fun h31 => ?_)
    · -- pc 31 taken
      refine Go.iloadN d5_36 rfl ?_
      refine Go.iconst d5_37 (v := 3) rfl ?_
      refine Go.icmpF d5_38 (XT.ii_le_f (by decide)) ?_
      refine Go.aloadN d5_41 rfl rfl ?_
      refine Go.iconst d5_42 (v := 3) rfl ?_
      refine Go.laload d5_43 hH (by decide) rfl ?_
      refine Go.aloadN d5_44 rfl rfl ?_
      refine Go.iloadN d5_45 rfl ?_
      refine Go.laload d5_46 hH (by decide) rfl ?_
      refine Go.lcmp d5_47 ?_
      refine Go.lif_ge d5_48 j5_48 (fun h48 => ?_) (fun h48 => ?_)
      · -- pc 48 taken
        refine Go.iloadN d5_53 rfl ?_
        exact Go.ireturn d5_54 rfl (by rw [own_am4, if_pos h14, if_neg h31, if_neg h48]) (HOk.eq rfl)
      · -- pc 48 not taken
        refine Go.iconst d5_51 (v := 3) rfl ?_
        refine Go.istoreN d5_52 (ls' := [.val (.ref 0), .val (.int 4), .val (.int 3)]) rfl ?_
        refine Go.iloadN d5_53 rfl ?_
        exact Go.ireturn d5_54 rfl (by rw [own_am4, if_pos h14, if_neg h31, if_pos h48]) (HOk.eq rfl)
    · -- pc 31 not taken
      refine Go.iconst d5_34 (v := 2) rfl ?_
      refine Go.istoreN d5_35 (ls' := [.val (.ref 0), .val (.int 4), .val (.int 2)]) rfl ?_
      refine Go.iloadN d5_36 rfl ?_
      refine Go.iconst d5_37 (v := 3) rfl ?_
      refine Go.icmpF d5_38 (XT.ii_le_f (by decide)) ?_
      refine Go.aloadN d5_41 rfl rfl ?_
      refine Go.iconst d5_42 (v := 3) rfl ?_
      refine Go.laload d5_43 hH (by decide) rfl ?_
      refine Go.aloadN d5_44 rfl rfl ?_
      refine Go.iloadN d5_45 rfl ?_
      refine Go.laload d5_46 hH (by decide) rfl ?_
      refine Go.lcmp d5_47 ?_
      refine Go.lif_ge d5_48 j5_48 (fun h48 => ?_) (fun h48 => ?_)
      · -- pc 48 taken
        refine Go.iloadN d5_53 rfl ?_
        exact Go.ireturn d5_54 rfl (by rw [own_am4, if_pos h14, if_pos h31, if_neg h48]) (HOk.eq rfl)
      · -- pc 48 not taken
        refine Go.iconst d5_51 (v := 3) rfl ?_
        refine Go.istoreN d5_52 (ls' := [.val (.ref 0), .val (.int 4), .val (.int 3)]) rfl ?_
        refine Go.iloadN d5_53 rfl ?_
        exact Go.ireturn d5_54 rfl (by rw [own_am4, if_pos h14, if_pos h31, if_pos h48]) (HOk.eq rfl)
theorem go_send (K : Ctx) (hw : ∀ d ∈ tables_1, d.before K.2.2.1 K.2.1 = true) (c s : List Value) (f mo y : Int64) (k t : Int32) (hj : ¬ t < 0) (hy : s[t.toNatClampNeg]? = some (.long y)) : Go K m7 1 16 0 [.val (.ref 1), .val (.int t)] [] [.inr (.long, c), .inl ("com/example/skew/skew/SourceLoad", [("sent", "[J", .ref 2), ("floor", "J", .long f), ("cursor", "I", .int k), ("most", "J", .long mo)]), .inr (.long, s)] (some (.int t), some [.inr (.long, c), .inl ("com/example/skew/skew/SourceLoad", [("sent", "[J", .ref 2), ("floor", "J", .long f), ("cursor", "I", .int k), ("most", "J", .long (own_max mo (y + 1)))]), .inr (.long, (s.set t.toNatClampNeg (.long (y + 1))))], 0, 0) := by
  refine Go.aloadN d7_0 rfl rfl ?_
  refine Go.getfield 0 d7_1 (hw _ (List.mem_of_getElem? (i := 14) rfl)) rfl rfl ?_
  refine Go.iloadN d7_4 rfl ?_
  refine Go.dup2 d7_5 rfl rfl ?_
  refine Go.laload d7_6 rfl hj hy ?_
  refine Go.lconst d7_7 (v := 1) rfl ?_
  refine Go.ladd d7_8 ?_
  refine Go.lastore d7_9 rfl hj (List.getElem?_eq_some_iff.mp hy).1 (H1 := [.inr (.long, c), .inl ("com/example/skew/skew/SourceLoad", [("sent", "[J", .ref 2), ("floor", "J", .long f), ("cursor", "I", .int k), ("most", "J", .long mo)]), .inr (.long, (s.set t.toNatClampNeg (.long (y + 1))))]) rfl ?_
  refine Go.aloadN d7_10 rfl rfl ?_
  refine Go.aloadN d7_11 rfl rfl ?_
  refine Go.getfield 3 d7_12 (hw _ (List.mem_of_getElem? (i := 37) rfl)) rfl rfl ?_
  refine Go.aloadN d7_15 rfl rfl ?_
  refine Go.getfield 0 d7_16 (hw _ (List.mem_of_getElem? (i := 14) rfl)) rfl rfl ?_
  refine Go.iloadN d7_19 rfl ?_
  refine Go.laload d7_20 rfl hj (List.getElem?_set_self (List.getElem?_eq_some_iff.mp hy).1) ?_
  refine Go.callS (M' := m8) d7_21 (hw _ (List.mem_of_getElem? (i := 39) rfl)) (hw _ (List.mem_of_getElem? (i := 40) rfl)) (hw _ (List.mem_of_getElem? (i := 41) rfl)) (hw _ (List.mem_of_getElem? (i := 42) rfl)) mi8 (as := [.long mo, .long (y + 1)]) rfl rfl (st := [.ref 1]) rfl (ls1 := [.val (.long mo), .second, .val (.long (y + 1)), .second]) rfl (W := 1) rfl (by decide) (by decide) (go_own_max K hw mo (y + 1) _) 0 0 (by decide) (by decide) ?_
  show Go _ _ _ _ 24 [.val (.ref 1), .val (.int t)] [.long (own_max mo (y + 1)), .ref 1] [.inr (.long, c), .inl ("com/example/skew/skew/SourceLoad", [("sent", "[J", .ref 2), ("floor", "J", .long f), ("cursor", "I", .int k), ("most", "J", .long mo)]), .inr (.long, (s.set t.toNatClampNeg (.long (y + 1))))] _
  refine Go.putfield 3 d7_24 (hw _ (List.mem_of_getElem? (i := 37) rfl)) (Or.inl (hw _ (List.mem_of_getElem? (i := 38) rfl))) (hw _ (List.mem_of_getElem? (i := 2) rfl)) (ty := .long) (by decide) (fun _ => ⟨rfl, rfl⟩) rfl rfl (H1 := [.inr (.long, c), .inl ("com/example/skew/skew/SourceLoad", [("sent", "[J", .ref 2), ("floor", "J", .long f), ("cursor", "I", .int k), ("most", "J", .long (own_max mo (y + 1)))]), .inr (.long, (s.set t.toNatClampNeg (.long (y + 1))))]) rfl ?_
  refine Go.iloadN d7_27 rfl ?_
  exact Go.ireturn d7_28 rfl rfl (HOk.eq rfl)
theorem go_stepN (K : Ctx) (hw : ∀ d ∈ tables_1, d.before K.2.2.1 K.2.1 = true) (H : Hp) (cd n : Int32) (h4 : ¬ (cd &&& 4) = 0) : Go K m6 2 40 0 [.val (.ref 1), .val (.ref 0), .val (.int cd), .val (.int n), .unset] [] H (none, some H, 0, 0) := by
  refine Go.iloadN d6_0 rfl ?_
  refine Go.iconst d6_1 (v := 4) rfl ?_
  refine Go.iand d6_2 ?_
  refine Go.ifF d6_3 (XT.i0_eq_f h4) ?_
  exact Go.ret d6_6 rfl rfl (HOk.eq rfl)
theorem go_stepY (K : Ctx) (hw : ∀ d ∈ tables_1, d.before K.2.2.1 K.2.1 = true) (c s : List Value) (f mo x y : Int64) (k cd n t : Int32) (h4 : (cd &&& 4) = 0) (hn : n ≠ 0) (ht : (cd &&& 3) % n = t) (hj : ¬ t < 0) (hx : c[t.toNatClampNeg]? = some (.long x)) (hy : s[t.toNatClampNeg]? = some (.long y)) : Go K m6 2 40 0 [.val (.ref 1), .val (.ref 0), .val (.int cd), .val (.int n), .unset] [] [.inr (.long, c), .inl ("com/example/skew/skew/SourceLoad", [("sent", "[J", .ref 2), ("floor", "J", .long f), ("cursor", "I", .int k), ("most", "J", .long mo)]), .inr (.long, s)] (none, some [.inr (.long, (c.set t.toNatClampNeg (.long (x + 1)))), .inl ("com/example/skew/skew/SourceLoad", [("sent", "[J", .ref 2), ("floor", "J", .long f), ("cursor", "I", .int k), ("most", "J", .long (own_max mo (y + 1)))]), .inr (.long, (s.set t.toNatClampNeg (.long (y + 1))))], 0, 0) := by
  refine Go.iloadN d6_0 rfl ?_
  refine Go.iconst d6_1 (v := 4) rfl ?_
  refine Go.iand d6_2 ?_
  refine Go.ifT d6_3 j6_3 (XT.i0_eq_t h4) ?_
  refine Go.iloadN d6_7 rfl ?_
  refine Go.iconst d6_8 (v := 3) rfl ?_
  refine Go.iand d6_9 ?_
  refine Go.iloadN d6_10 rfl ?_
  refine Go.irem d6_11 hn ?_
  rw [ht]
  refine Go.istore d6_12 (ls' := [.val (.ref 1), .val (.ref 0), .val (.int cd), .val (.int n), .val (.int t)]) rfl ?_
  refine Go.aloadN d6_14 rfl rfl ?_
  refine Go.iload d6_15 rfl ?_
  refine Go.dup2 d6_17 rfl rfl ?_
  refine Go.laload d6_18 rfl hj hx ?_
  refine Go.lconst d6_19 (v := 1) rfl ?_
  refine Go.ladd d6_20 ?_
  refine Go.lastore d6_21 rfl hj (List.getElem?_eq_some_iff.mp hx).1 (H1 := [.inr (.long, (c.set t.toNatClampNeg (.long (x + 1)))), .inl ("com/example/skew/skew/SourceLoad", [("sent", "[J", .ref 2), ("floor", "J", .long f), ("cursor", "I", .int k), ("most", "J", .long mo)]), .inr (.long, s)]) rfl ?_
  refine Go.aloadN d6_22 rfl rfl ?_
  refine Go.iload d6_23 rfl ?_
  refine Go.callV (M' := m7) (i := 1) d6_25 rfl (hw _ (List.mem_of_getElem? (i := 32) rfl)) (hw _ (List.mem_of_getElem? (i := 34) rfl)) (hw _ (List.mem_of_getElem? (i := 3) rfl)) (hw _ (List.mem_of_getElem? (i := 33) rfl)) (hw _ (List.mem_of_getElem? (i := 35) rfl)) (hw _ (List.mem_of_getElem? (i := 36) rfl)) mi7 (as := [.int t]) rfl rfl (st := []) rfl (ls1 := [.val (.ref 1), .val (.int t)]) rfl (W := 0) rfl (by decide) (by decide) (go_send K hw _ _ _ _ _ _ _ hj hy) 0 0 (by decide) (by decide) ?_
  show Go _ _ _ _ 28 [.val (.ref 1), .val (.ref 0), .val (.int cd), .val (.int n), .val (.int t)] [.int t] [.inr (.long, (c.set t.toNatClampNeg (.long (x + 1)))), .inl ("com/example/skew/skew/SourceLoad", [("sent", "[J", .ref 2), ("floor", "J", .long f), ("cursor", "I", .int k), ("most", "J", .long (own_max mo (y + 1)))]), .inr (.long, (s.set t.toNatClampNeg (.long (y + 1))))] _
  refine Go.pop d6_28 rfl ?_
  exact Go.ret d6_29 rfl rfl (HOk.eq rfl)
theorem own_pad_get {cs : List Nat} {i n : Nat} (p : Nat) (h : cs[i]? = some n) : (cs ++ List.replicate p 0)[i]? = some n := (List.getElem?_append_left (List.getElem?_eq_some_iff.mp h).1).trans h
theorem own_pad_set {cs : List Nat} {i : Nat} (p n : Nat) (h : i < cs.length) : (cs ++ List.replicate p 0).set i n = cs.set i n ++ List.replicate p 0 := List.set_append_left _ _ h
theorem own_Inv_up {cs : List Nat} {f k t n : Nat} (h : own_Inv cs f k) (ht : cs[t]? = some n) (hn : n + 1 ≤ 1000) : own_Inv (cs.set t (n + 1)) f k := by
  refine ⟨by rw [List.length_set]; exact h.1, by rw [List.length_set]; exact h.2.1, fun i m hi => ?_⟩
  by_cases q : t = i
  · subst q
    rw [List.getElem?_set_self (List.getElem?_eq_some_iff.mp ht).1] at hi
    cases hi
    have := h.2.2 t n ht
    exact ⟨hn, by omega, fun z => by have := this.2.2 z; omega⟩
  · rw [List.getElem?_set_ne q] at hi
    exact h.2.2 i m hi
def own_max1 (cs : List Nat) (b : Nat) : Prop := ∀ (i n : Nat), cs[i]? = some n → n ≤ b
theorem own_max1_up {cs : List Nat} {t n b : Nat} (h : own_max1 cs b) (ht : cs[t]? = some n) : own_max1 (cs.set t (n + 1)) (b + 1) := fun i m hi => by
  by_cases q : t = i
  · subst q
    rw [List.getElem?_set_self (List.getElem?_eq_some_iff.mp ht).1] at hi
    cases hi
    have := h t n ht
    omega
  · rw [List.getElem?_set_ne q] at hi
    have := h i m hi
    omega
/-- one step: the counts grow at one place, or nothing happens -/
theorem go_step (K : Ctx) (hw : ∀ d ∈ tables_1, d.before K.2.2.1 K.2.1 = true) (cs : List Nat) (p f k b : Nat) (mo : Int64) (cd n : Int32) (hn : n.toInt = cs.length) (hI : own_Inv cs f k) (hb : own_max1 cs b) (hb2 : b ≤ 900) :
    ∃ cs' mo', cs'.length = cs.length ∧ own_Inv cs' f k ∧ own_max1 cs' (b + 1) ∧ Go K m6 2 40 0 [.val (.ref 1), .val (.ref 0), .val (.int cd), .val (.int n), .unset] [] [.inr (.long, (own_vals (cs ++ List.replicate p 0))), .inl ("com/example/skew/skew/SourceLoad", [("sent", "[J", .ref 2), ("floor", "J", .long (Int64.ofNat f)), ("cursor", "I", .int (Int32.ofNat k)), ("most", "J", .long mo)]), .inr (.long, (own_vals cs))] (none, some [.inr (.long, (own_vals (cs' ++ List.replicate p 0))), .inl ("com/example/skew/skew/SourceLoad", [("sent", "[J", .ref 2), ("floor", "J", .long (Int64.ofNat f)), ("cursor", "I", .int (Int32.ofNat k)), ("most", "J", .long mo')]), .inr (.long, (own_vals cs'))], 0, 0) := by
  by_cases h4 : (cd &&& 4) = 0
  · have hl := hI.1
    have hl4 := hI.2.1
    have hn0 : n ≠ 0 := fun e => by rw [e] at hn; have : (0 : Int32).toInt = 0 := rfl; omega
    have h3 := Jvm.Kit.i32_mask cd 3 (k := 2) (by decide) (by decide)
    have hr := Jvm.Kit.i32_rem_nonneg (x := cd &&& 3) (y := n) (by omega)
    have hp1 := Int.emod_nonneg (cd &&& 3).toInt (by omega : n.toInt ≠ 0)
    have hp2 := Int.emod_lt_of_pos (cd &&& 3).toInt (by omega : 0 < n.toInt)
    obtain ⟨t, ht⟩ : ∃ t : Nat, ((cd &&& 3) % n).toInt = t := ⟨((cd &&& 3) % n).toInt.toNat, by omega⟩
    have htl : t < cs.length := by omega
    have e : (cd &&& 3) % n = Int32.ofNat t := Int32.toInt_inj.mp (by rw [own_i32 (by omega), ht])
    have hv : cs[t]? = some cs[t] := List.getElem?_eq_getElem htl
    generalize cs[t] = v at hv
    have hbv := hb t v hv
    have cl := own_clamp (n := t) (by omega)
    have g := go_stepY K hw (own_vals (cs ++ List.replicate p 0)) (own_vals cs) (Int64.ofNat f) mo (Int64.ofNat v) (Int64.ofNat v) (Int32.ofNat k) cd n (Int32.ofNat t) h4 hn0 e (own_nneg (by omega)) (by rw [cl]; exact own_vget (own_pad_get p hv)) (by rw [cl]; exact own_vget hv)
    refine ⟨cs.set t (v + 1), own_max mo (Int64.ofNat (v + 1)), by rw [List.length_set], own_Inv_up hI hv (by omega), own_max1_up hb hv, ?_⟩
    rw [cl, show Int64.ofNat v + 1 = Int64.ofNat (v + 1) from (Int64.ofNat_add v 1).symm, own_vset, own_vset, own_pad_set _ _ htl] at g
    exact g
  · exact ⟨cs, mo, rfl, hI, fun i m hi => by have := hb i m hi; omega, go_stepN K hw _ cd n h4⟩
theorem own_four {v0 v1 v2 v3 : Nat} : own_vals [v0, v1, v2, v3] = [.long (Int64.ofNat v0), .long (Int64.ofNat v1), .long (Int64.ofNat v2), .long (Int64.ofNat v3)] := rfl
theorem own_mem1 {a0 : Nat} {i m : Nat} (h : [a0][i]? = some m) : (0 = i ∧ a0 = m) := by
  match i, h with
  | 0, h => simp at h; simp [h]
  | i + 1, h => simp at h
theorem own_amv1 (a0 : Nat) (h0 : a0 ≤ 1000) : ∃ r, r ≤ 1000 ∧ own_am1 (Int64.ofNat a0) (Int64.ofNat 0) (Int64.ofNat 0) (Int64.ofNat 0) = Int32.ofNat r ∧ own_AM [a0] r := by
  simp only [own_am1]
  (repeat' split)
  all_goals first
    | refine ⟨0, by decide, rfl, a0, rfl, fun i m hi => ?_⟩; rcases own_mem1 hi with ⟨rfl, rfl⟩ <;> omega
theorem go_argmin1 (K : Ctx) (hw : ∀ d ∈ tables_1, d.before K.2.2.1 K.2.1 = true) (cs : List Nat) (hl : cs.length = 1) (hb : own_max1 cs 1000) (H : Hp) (hH : H[0]? = some (.inr (.long, own_vals (cs ++ List.replicate 3 0)))) : ∃ r, r ≤ 1000 ∧ own_AM cs r ∧ Go K m5 0 0 0 [.val (.ref 0), .val (.int 1), .unset] [] H (some (.int (Int32.ofNat r)), some H, 0, 0) := by
  match cs, hl with
  | [a0], _ =>
    have b0 := hb 0 a0 rfl
    have g := go_own_am1 K hw H (Int64.ofNat a0) (Int64.ofNat 0) (Int64.ofNat 0) (Int64.ofNat 0) hH
    obtain ⟨r, hr, e, m⟩ := own_amv1 a0 (by omega)
    refine ⟨r, hr, m, ?_⟩
    rw [← e]
    exact g
theorem own_mem2 {a0 a1 : Nat} {i m : Nat} (h : [a0, a1][i]? = some m) : (0 = i ∧ a0 = m) ∨ (1 = i ∧ a1 = m) := by
  match i, h with
  | 0, h => simp at h; simp [h]
  | 1, h => simp at h; simp [h]
  | i + 2, h => simp at h
theorem own_amv2 (a0 a1 : Nat) (h0 : a0 ≤ 1000) (h1 : a1 ≤ 1000) : ∃ r, r ≤ 1000 ∧ own_am2 (Int64.ofNat a0) (Int64.ofNat a1) (Int64.ofNat 0) (Int64.ofNat 0) = Int32.ofNat r ∧ own_AM [a0, a1] r := by
  have l01 := own_lt64 h0 h1
  have l10 := own_lt64 h1 h0
  simp only [own_am2, l01, l10]
  (repeat' split)
  all_goals first
    | refine ⟨0, by decide, rfl, a0, rfl, fun i m hi => ?_⟩; rcases own_mem2 hi with ⟨rfl, rfl⟩ | ⟨rfl, rfl⟩ <;> omega
    | refine ⟨1, by decide, rfl, a1, rfl, fun i m hi => ?_⟩; rcases own_mem2 hi with ⟨rfl, rfl⟩ | ⟨rfl, rfl⟩ <;> omega
theorem go_argmin2 (K : Ctx) (hw : ∀ d ∈ tables_1, d.before K.2.2.1 K.2.1 = true) (cs : List Nat) (hl : cs.length = 2) (hb : own_max1 cs 1000) (H : Hp) (hH : H[0]? = some (.inr (.long, own_vals (cs ++ List.replicate 2 0)))) : ∃ r, r ≤ 1000 ∧ own_AM cs r ∧ Go K m5 0 0 0 [.val (.ref 0), .val (.int 2), .unset] [] H (some (.int (Int32.ofNat r)), some H, 0, 0) := by
  match cs, hl with
  | [a0, a1], _ =>
    have b0 := hb 0 a0 rfl
    have b1 := hb 1 a1 rfl
    have g := go_own_am2 K hw H (Int64.ofNat a0) (Int64.ofNat a1) (Int64.ofNat 0) (Int64.ofNat 0) hH
    obtain ⟨r, hr, e, m⟩ := own_amv2 a0 a1 (by omega) (by omega)
    refine ⟨r, hr, m, ?_⟩
    rw [← e]
    exact g
theorem own_mem3 {a0 a1 a2 : Nat} {i m : Nat} (h : [a0, a1, a2][i]? = some m) : (0 = i ∧ a0 = m) ∨ (1 = i ∧ a1 = m) ∨ (2 = i ∧ a2 = m) := by
  match i, h with
  | 0, h => simp at h; simp [h]
  | 1, h => simp at h; simp [h]
  | 2, h => simp at h; simp [h]
  | i + 3, h => simp at h
theorem own_amv3 (a0 a1 a2 : Nat) (h0 : a0 ≤ 1000) (h1 : a1 ≤ 1000) (h2 : a2 ≤ 1000) : ∃ r, r ≤ 1000 ∧ own_am3 (Int64.ofNat a0) (Int64.ofNat a1) (Int64.ofNat a2) (Int64.ofNat 0) = Int32.ofNat r ∧ own_AM [a0, a1, a2] r := by
  have l01 := own_lt64 h0 h1
  have l02 := own_lt64 h0 h2
  have l10 := own_lt64 h1 h0
  have l12 := own_lt64 h1 h2
  have l20 := own_lt64 h2 h0
  have l21 := own_lt64 h2 h1
  simp only [own_am3, l01, l02, l10, l12, l20, l21]
  (repeat' split)
  all_goals first
    | refine ⟨0, by decide, rfl, a0, rfl, fun i m hi => ?_⟩; rcases own_mem3 hi with ⟨rfl, rfl⟩ | ⟨rfl, rfl⟩ | ⟨rfl, rfl⟩ <;> omega
    | refine ⟨1, by decide, rfl, a1, rfl, fun i m hi => ?_⟩; rcases own_mem3 hi with ⟨rfl, rfl⟩ | ⟨rfl, rfl⟩ | ⟨rfl, rfl⟩ <;> omega
    | refine ⟨2, by decide, rfl, a2, rfl, fun i m hi => ?_⟩; rcases own_mem3 hi with ⟨rfl, rfl⟩ | ⟨rfl, rfl⟩ | ⟨rfl, rfl⟩ <;> omega
theorem go_argmin3 (K : Ctx) (hw : ∀ d ∈ tables_1, d.before K.2.2.1 K.2.1 = true) (cs : List Nat) (hl : cs.length = 3) (hb : own_max1 cs 1000) (H : Hp) (hH : H[0]? = some (.inr (.long, own_vals (cs ++ List.replicate 1 0)))) : ∃ r, r ≤ 1000 ∧ own_AM cs r ∧ Go K m5 0 0 0 [.val (.ref 0), .val (.int 3), .unset] [] H (some (.int (Int32.ofNat r)), some H, 0, 0) := by
  match cs, hl with
  | [a0, a1, a2], _ =>
    have b0 := hb 0 a0 rfl
    have b1 := hb 1 a1 rfl
    have b2 := hb 2 a2 rfl
    have g := go_own_am3 K hw H (Int64.ofNat a0) (Int64.ofNat a1) (Int64.ofNat a2) (Int64.ofNat 0) hH
    obtain ⟨r, hr, e, m⟩ := own_amv3 a0 a1 a2 (by omega) (by omega) (by omega)
    refine ⟨r, hr, m, ?_⟩
    rw [← e]
    exact g
theorem own_mem4 {a0 a1 a2 a3 : Nat} {i m : Nat} (h : [a0, a1, a2, a3][i]? = some m) : (0 = i ∧ a0 = m) ∨ (1 = i ∧ a1 = m) ∨ (2 = i ∧ a2 = m) ∨ (3 = i ∧ a3 = m) := by
  match i, h with
  | 0, h => simp at h; simp [h]
  | 1, h => simp at h; simp [h]
  | 2, h => simp at h; simp [h]
  | 3, h => simp at h; simp [h]
  | i + 4, h => simp at h
theorem own_amv4 (a0 a1 a2 a3 : Nat) (h0 : a0 ≤ 1000) (h1 : a1 ≤ 1000) (h2 : a2 ≤ 1000) (h3 : a3 ≤ 1000) : ∃ r, r ≤ 1000 ∧ own_am4 (Int64.ofNat a0) (Int64.ofNat a1) (Int64.ofNat a2) (Int64.ofNat a3) = Int32.ofNat r ∧ own_AM [a0, a1, a2, a3] r := by
  have l01 := own_lt64 h0 h1
  have l02 := own_lt64 h0 h2
  have l03 := own_lt64 h0 h3
  have l10 := own_lt64 h1 h0
  have l12 := own_lt64 h1 h2
  have l13 := own_lt64 h1 h3
  have l20 := own_lt64 h2 h0
  have l21 := own_lt64 h2 h1
  have l23 := own_lt64 h2 h3
  have l30 := own_lt64 h3 h0
  have l31 := own_lt64 h3 h1
  have l32 := own_lt64 h3 h2
  simp only [own_am4, l01, l02, l03, l10, l12, l13, l20, l21, l23, l30, l31, l32]
  (repeat' split)
  all_goals first
    | refine ⟨0, by decide, rfl, a0, rfl, fun i m hi => ?_⟩; rcases own_mem4 hi with ⟨rfl, rfl⟩ | ⟨rfl, rfl⟩ | ⟨rfl, rfl⟩ | ⟨rfl, rfl⟩ <;> omega
    | refine ⟨1, by decide, rfl, a1, rfl, fun i m hi => ?_⟩; rcases own_mem4 hi with ⟨rfl, rfl⟩ | ⟨rfl, rfl⟩ | ⟨rfl, rfl⟩ | ⟨rfl, rfl⟩ <;> omega
    | refine ⟨2, by decide, rfl, a2, rfl, fun i m hi => ?_⟩; rcases own_mem4 hi with ⟨rfl, rfl⟩ | ⟨rfl, rfl⟩ | ⟨rfl, rfl⟩ | ⟨rfl, rfl⟩ <;> omega
    | refine ⟨3, by decide, rfl, a3, rfl, fun i m hi => ?_⟩; rcases own_mem4 hi with ⟨rfl, rfl⟩ | ⟨rfl, rfl⟩ | ⟨rfl, rfl⟩ | ⟨rfl, rfl⟩ <;> omega
theorem go_argmin4 (K : Ctx) (hw : ∀ d ∈ tables_1, d.before K.2.2.1 K.2.1 = true) (cs : List Nat) (hl : cs.length = 4) (hb : own_max1 cs 1000) (H : Hp) (hH : H[0]? = some (.inr (.long, own_vals (cs ++ List.replicate 0 0)))) : ∃ r, r ≤ 1000 ∧ own_AM cs r ∧ Go K m5 0 0 0 [.val (.ref 0), .val (.int 4), .unset] [] H (some (.int (Int32.ofNat r)), some H, 0, 0) := by
  match cs, hl with
  | [a0, a1, a2, a3], _ =>
    have b0 := hb 0 a0 rfl
    have b1 := hb 1 a1 rfl
    have b2 := hb 2 a2 rfl
    have b3 := hb 3 a3 rfl
    have g := go_own_am4 K hw H (Int64.ofNat a0) (Int64.ofNat a1) (Int64.ofNat a2) (Int64.ofNat a3) hH
    obtain ⟨r, hr, e, m⟩ := own_amv4 a0 a1 a2 a3 (by omega) (by omega) (by omega) (by omega)
    refine ⟨r, hr, m, ?_⟩
    rw [← e]
    exact g
theorem own_hd {cs : List Nat} {n : Nat} (h : cs.length = n) (hn : 0 < n) : cs[0]? = some (cs[0]'(by omega)) := List.getElem?_eq_getElem (by omega)
theorem own_Inv0 {cs : List Nat} (h1 : 0 < cs.length) (h2 : cs.length ≤ 4) (h : ∀ n ∈ cs, n = 0) : own_Inv cs 0 0 := ⟨h1, h2, fun i n hi => by
  have := h n (List.mem_of_getElem? hi)
  exact ⟨by omega, by omega, fun z => absurd z (Nat.not_lt_zero _)⟩⟩
theorem own_max0 {cs : List Nat} (h : ∀ n ∈ cs, n = 0) : own_max1 cs 0 := fun i n hi => by
  have := h n (List.mem_of_getElem? hi)
  omega
theorem own_m3 (z : Int32) : (1 + (z &&& 3)) = 1 ∨ (1 + (z &&& 3)) = 2 ∨ (1 + (z &&& 3)) = 3 ∨ (1 + (z &&& 3)) = 4 := by
  have h := Jvm.Kit.i32_mask z 3 (k := 2) (by decide) (by decide)
  rcases (by omega : (z &&& 3).toInt = 0 ∨ (z &&& 3).toInt = 1 ∨ (z &&& 3).toInt = 2 ∨ (z &&& 3).toInt = 3) with q | q | q | q
  · rw [show z &&& 3 = 0 from Int32.toInt_inj.mp q]; exact Or.inl rfl
  · rw [show z &&& 3 = 1 from Int32.toInt_inj.mp q]; exact Or.inr (Or.inl rfl)
  · rw [show z &&& 3 = 2 from Int32.toInt_inj.mp q]; exact Or.inr (Or.inr (Or.inl rfl))
  · rw [show z &&& 3 = 3 from Int32.toInt_inj.mp q]; exact Or.inr (Or.inr (Or.inr rfl))
theorem go_t6_1 (K : Ctx) (hw : ∀ d ∈ tables_1, d.before K.2.2.1 K.2.1 = true) (x0 x1 x2 : Int32) : Go K m0 6 144 6 [.val (.int x0), .val (.int x1), .val (.int x2), .val (.int 1), .unset, .unset, .unset, .unset, .unset, .unset, .unset, .unset] [] [] (some (.int 1), none, 16, 128) := by
  refine Go.iconst d0_6 (v := 4) rfl ?_
  refine Go.newarray 4 d0_7 (hw _ (List.mem_of_getElem? (i := 0) rfl)) (t := .long) rfl (by decide) (by decide) (by decide) (vs := [.long 0, .long 0, .long 0, .long 0]) rfl (i := 0) rfl 15 124 (by decide) (by decide) ?_
  show Go _ _ _ _ 9 [.val (.int x0), .val (.int x1), .val (.int x2), .val (.int 1), .unset, .unset, .unset, .unset, .unset, .unset, .unset, .unset] [.ref 0] [.inr (.long, [.long 0, .long 0, .long 0, .long 0])] _
  refine Go.astore d0_9 (ls' := [.val (.int x0), .val (.int x1), .val (.int x2), .val (.int 1), .val (.ref 0), .unset, .unset, .unset, .unset, .unset, .unset, .unset]) rfl rfl ?_
  refine Go.new [("sent", "[J", .null), ("floor", "J", .long 0), ("cursor", "I", .int 0), ("most", "J", .long 0)] d0_11 (hw _ (List.mem_of_getElem? (i := 1) rfl)) (hw _ (List.mem_of_getElem? (i := 2) rfl)) (hw _ (List.mem_of_getElem? (i := 3) rfl)) (by decide) (fun f hf => ?_) (i := 1) rfl 14 120 (by decide) (by decide) ?_
  · simp only [List.mem_cons, List.not_mem_nil, or_false] at hf
    rcases hf with rfl | rfl | rfl | rfl
    · exact ⟨Or.inr (hw _ (List.mem_of_getElem? (i := 15) rfl)), _, (by decide : parseFieldDescriptor "[J" = some (.array .long)), rfl⟩
    · exact ⟨Or.inl (hw _ (List.mem_of_getElem? (i := 24) rfl)), _, (by decide : parseFieldDescriptor "J" = some .long), rfl⟩
    · exact ⟨Or.inl (hw _ (List.mem_of_getElem? (i := 22) rfl)), _, (by decide : parseFieldDescriptor "I" = some .int), rfl⟩
    · exact ⟨Or.inl (hw _ (List.mem_of_getElem? (i := 38) rfl)), _, (by decide : parseFieldDescriptor "J" = some .long), rfl⟩
  show Go _ _ _ _ 14 [.val (.int x0), .val (.int x1), .val (.int x2), .val (.int 1), .val (.ref 0), .unset, .unset, .unset, .unset, .unset, .unset, .unset] [.ref 1] [.inr (.long, [.long 0, .long 0, .long 0, .long 0]), .inl ("com/example/skew/skew/SourceLoad", [("sent", "[J", .null), ("floor", "J", .long 0), ("cursor", "I", .int 0), ("most", "J", .long 0)])] _
  refine Go.dup d0_14 rfl ?_
  refine Go.iloadN d0_15 rfl ?_
  refine Go.callI (M' := m1) (i := 1) d0_16 rfl rfl (hw _ (List.mem_of_getElem? (i := 4) rfl)) (hw _ (List.mem_of_getElem? (i := 5) rfl)) (hw _ (List.mem_of_getElem? (i := 3) rfl)) (hw _ (List.mem_of_getElem? (i := 6) rfl)) mi1 (as := [.int 1]) rfl rfl (st := [.ref 1]) rfl (ls1 := [.val (.ref 1), .val (.int 1)]) rfl (W := 1) rfl (by decide) (by decide) (go_ctor1 K hw) 13 119 (by decide) (by decide) ?_
  show Go _ _ _ _ 19 [.val (.int x0), .val (.int x1), .val (.int x2), .val (.int 1), .val (.ref 0), .unset, .unset, .unset, .unset, .unset, .unset, .unset] [.ref 1] [.inr (.long, [.long 0, .long 0, .long 0, .long 0]), .inl ("com/example/skew/skew/SourceLoad", [("sent", "[J", .ref 2), ("floor", "J", .long 0), ("cursor", "I", .int 0), ("most", "J", .long 0)]), .inr (.long, [.long 0])] _
  refine Go.astore d0_19 (ls' := [.val (.int x0), .val (.int x1), .val (.int x2), .val (.int 1), .val (.ref 0), .val (.ref 1), .unset, .unset, .unset, .unset, .unset, .unset]) rfl rfl ?_
  obtain ⟨cs0, hc0⟩ : ∃ cs0 : List Nat, cs0 = [0] := ⟨_, rfl⟩
  have hL0 : cs0.length = 1 := by rw [hc0]; rfl
  have hJ0 : own_Inv cs0 0 0 := by rw [hc0]; exact own_Inv0 (by decide) (by decide) (by simp)
  have hb0 : own_max1 cs0 0 := by rw [hc0]; exact own_max0 (by simp)
  have hH0 : ([.inr (.long, [.long 0, .long 0, .long 0, .long 0]), .inl ("com/example/skew/skew/SourceLoad", [("sent", "[J", .ref 2), ("floor", "J", .long 0), ("cursor", "I", .int 0), ("most", "J", .long 0)]), .inr (.long, [.long 0])] : Hp) = [.inr (.long, (own_vals (cs0 ++ List.replicate 3 0))), .inl ("com/example/skew/skew/SourceLoad", [("sent", "[J", .ref 2), ("floor", "J", .long (Int64.ofNat 0)), ("cursor", "I", .int (Int32.ofNat 0)), ("most", "J", .long 0)]), .inr (.long, (own_vals cs0))] := by rw [hc0]; rfl
  rw [hH0]
  refine Go.aload d0_21 rfl rfl ?_
  obtain ⟨f0, k0, hI0, hA0, g0⟩ := go_llw K hw cs0 _ 0 _ (own_hd hL0 (by decide)) _ _ _ hJ0 (Nat.le_refl _)
  refine Go.callV (M' := m4) (i := 1) d0_23 rfl (hw _ (List.mem_of_getElem? (i := 16) rfl)) (hw _ (List.mem_of_getElem? (i := 18) rfl)) (hw _ (List.mem_of_getElem? (i := 3) rfl)) (hw _ (List.mem_of_getElem? (i := 17) rfl)) (hw _ (List.mem_of_getElem? (i := 19) rfl)) (hw _ (List.mem_of_getElem? (i := 20) rfl)) mi4 (as := []) rfl rfl (st := []) rfl (ls1 := [.val (.ref 1)]) rfl (W := 0) rfl (by decide) (by decide) g0 13 119 (by decide) (by decide) ?_
  show Go _ _ _ _ 26 [.val (.int x0), .val (.int x1), .val (.int x2), .val (.int 1), .val (.ref 0), .val (.ref 1), .unset, .unset, .unset, .unset, .unset, .unset] [.int (Int32.ofNat k0)] [.inr (.long, (own_vals (cs0 ++ List.replicate 3 0))), .inl ("com/example/skew/skew/SourceLoad", [("sent", "[J", .ref 2), ("floor", "J", .long (Int64.ofNat f0)), ("cursor", "I", .int (Int32.ofNat k0)), ("most", "J", .long 0)]), .inr (.long, (own_vals cs0))] _
  refine Go.istore d0_26 (ls' := [.val (.int x0), .val (.int x1), .val (.int x2), .val (.int 1), .val (.ref 0), .val (.ref 1), .val (.int (Int32.ofNat k0)), .unset, .unset, .unset, .unset, .unset]) rfl ?_
  refine Go.iload d0_28 rfl ?_
  refine Go.aload d0_30 rfl rfl ?_
  refine Go.iloadN d0_32 rfl ?_
  obtain ⟨r0, hr0, hB0, ga0⟩ := go_argmin1 K hw cs0 hL0 (fun i m hi => by have := hb0 i m hi; omega) [.inr (.long, (own_vals (cs0 ++ List.replicate 3 0))), .inl ("com/example/skew/skew/SourceLoad", [("sent", "[J", .ref 2), ("floor", "J", .long (Int64.ofNat f0)), ("cursor", "I", .int (Int32.ofNat k0)), ("most", "J", .long 0)]), .inr (.long, (own_vals cs0))] rfl
  refine Go.callS (M' := m5) d0_33 (hw _ (List.mem_of_getElem? (i := 25) rfl)) (hw _ (List.mem_of_getElem? (i := 26) rfl)) (hw _ (List.mem_of_getElem? (i := 27) rfl)) (hw _ (List.mem_of_getElem? (i := 28) rfl)) mi5 (as := [.ref 0, .int 1]) rfl rfl (st := [.int (Int32.ofNat k0)]) rfl (ls1 := [.val (.ref 0), .val (.int 1), .unset]) rfl (W := 1) rfl (by decide) (by decide) ga0 13 119 (by decide) (by decide) ?_
  show Go _ _ _ _ 36 [.val (.int x0), .val (.int x1), .val (.int x2), .val (.int 1), .val (.ref 0), .val (.ref 1), .val (.int (Int32.ofNat k0)), .unset, .unset, .unset, .unset, .unset] [.int (Int32.ofNat r0), .int (Int32.ofNat k0)] [.inr (.long, (own_vals (cs0 ++ List.replicate 3 0))), .inl ("com/example/skew/skew/SourceLoad", [("sent", "[J", .ref 2), ("floor", "J", .long (Int64.ofNat f0)), ("cursor", "I", .int (Int32.ofNat k0)), ("most", "J", .long 0)]), .inr (.long, (own_vals cs0))] _
  refine Go.icmpF d0_36 (XT.ii_ne_f (congrArg Int32.ofNat (own_AM_uniq hA0 hB0))) ?_
  refine Go.iconst d0_39 (v := 1) rfl ?_
  refine Go.goto d0_40 j0_40 ?_
  refine Go.istore d0_44 (ls' := [.val (.int x0), .val (.int x1), .val (.int x2), .val (.int 1), .val (.ref 0), .val (.ref 1), .val (.int (Int32.ofNat k0)), .val (.int 1), .unset, .unset, .unset, .unset]) rfl ?_
  refine Go.aload d0_46 rfl rfl ?_
  refine Go.aload d0_48 rfl rfl ?_
  refine Go.iloadN d0_50 rfl ?_
  refine Go.iloadN d0_51 rfl ?_
  obtain ⟨cs1, mo1, hl1, hJ1, hb1, gs1⟩ := go_step K hw cs0 3 _ _ _ 0 x1 1 (by rw [hL0]; decide) hI0 hb0 (by omega)
  have hL1 : cs1.length = 1 := hl1.trans hL0
  refine Go.callS (M' := m6) d0_52 (hw _ (List.mem_of_getElem? (i := 29) rfl)) (hw _ (List.mem_of_getElem? (i := 30) rfl)) (hw _ (List.mem_of_getElem? (i := 27) rfl)) (hw _ (List.mem_of_getElem? (i := 31) rfl)) mi6 (as := [.ref 1, .ref 0, .int x1, .int 1]) rfl rfl (st := []) rfl (ls1 := [.val (.ref 1), .val (.ref 0), .val (.int x1), .val (.int 1), .unset]) rfl (W := 0) rfl (by decide) (by decide) gs1 13 119 (by decide) (by decide) ?_
  show Go _ _ _ _ 55 [.val (.int x0), .val (.int x1), .val (.int x2), .val (.int 1), .val (.ref 0), .val (.ref 1), .val (.int (Int32.ofNat k0)), .val (.int 1), .unset, .unset, .unset, .unset] [] [.inr (.long, (own_vals (cs1 ++ List.replicate 3 0))), .inl ("com/example/skew/skew/SourceLoad", [("sent", "[J", .ref 2), ("floor", "J", .long (Int64.ofNat f0)), ("cursor", "I", .int (Int32.ofNat k0)), ("most", "J", .long mo1)]), .inr (.long, (own_vals cs1))] _
  refine Go.aload d0_55 rfl rfl ?_
  refine Go.aload d0_57 rfl rfl ?_
  refine Go.iloadN d0_59 rfl ?_
  refine Go.iconst d0_60 (v := 3) rfl ?_
  refine Go.iushr d0_61 ?_
  refine Go.iloadN d0_62 rfl ?_
  obtain ⟨cs2, mo2, hl2, hJ2, hb2, gs2⟩ := go_step K hw cs1 3 _ _ _ mo1 (XT.ushr x1 3) 1 (by rw [hL1]; decide) hJ1 hb1 (by omega)
  have hL2 : cs2.length = 1 := hl2.trans hL1
  refine Go.callS (M' := m6) d0_63 (hw _ (List.mem_of_getElem? (i := 29) rfl)) (hw _ (List.mem_of_getElem? (i := 30) rfl)) (hw _ (List.mem_of_getElem? (i := 27) rfl)) (hw _ (List.mem_of_getElem? (i := 31) rfl)) mi6 (as := [.ref 1, .ref 0, .int (XT.ushr x1 3), .int 1]) rfl rfl (st := []) rfl (ls1 := [.val (.ref 1), .val (.ref 0), .val (.int (XT.ushr x1 3)), .val (.int 1), .unset]) rfl (W := 0) rfl (by decide) (by decide) gs2 13 119 (by decide) (by decide) ?_
  show Go _ _ _ _ 66 [.val (.int x0), .val (.int x1), .val (.int x2), .val (.int 1), .val (.ref 0), .val (.ref 1), .val (.int (Int32.ofNat k0)), .val (.int 1), .unset, .unset, .unset, .unset] [] [.inr (.long, (own_vals (cs2 ++ List.replicate 3 0))), .inl ("com/example/skew/skew/SourceLoad", [("sent", "[J", .ref 2), ("floor", "J", .long (Int64.ofNat f0)), ("cursor", "I", .int (Int32.ofNat k0)), ("most", "J", .long mo2)]), .inr (.long, (own_vals cs2))] _
  refine Go.aload d0_66 rfl rfl ?_
  refine Go.aload d0_68 rfl rfl ?_
  refine Go.iloadN d0_70 rfl ?_
  refine Go.bipush d0_71 (v := 6) rfl ?_
  refine Go.iushr d0_73 ?_
  refine Go.iloadN d0_74 rfl ?_
  obtain ⟨cs3, mo3, hl3, hJ3, hb3, gs3⟩ := go_step K hw cs2 3 _ _ _ mo2 (XT.ushr x1 6) 1 (by rw [hL2]; decide) hJ2 hb2 (by omega)
  have hL3 : cs3.length = 1 := hl3.trans hL2
  refine Go.callS (M' := m6) d0_75 (hw _ (List.mem_of_getElem? (i := 29) rfl)) (hw _ (List.mem_of_getElem? (i := 30) rfl)) (hw _ (List.mem_of_getElem? (i := 27) rfl)) (hw _ (List.mem_of_getElem? (i := 31) rfl)) mi6 (as := [.ref 1, .ref 0, .int (XT.ushr x1 6), .int 1]) rfl rfl (st := []) rfl (ls1 := [.val (.ref 1), .val (.ref 0), .val (.int (XT.ushr x1 6)), .val (.int 1), .unset]) rfl (W := 0) rfl (by decide) (by decide) gs3 13 119 (by decide) (by decide) ?_
  show Go _ _ _ _ 78 [.val (.int x0), .val (.int x1), .val (.int x2), .val (.int 1), .val (.ref 0), .val (.ref 1), .val (.int (Int32.ofNat k0)), .val (.int 1), .unset, .unset, .unset, .unset] [] [.inr (.long, (own_vals (cs3 ++ List.replicate 3 0))), .inl ("com/example/skew/skew/SourceLoad", [("sent", "[J", .ref 2), ("floor", "J", .long (Int64.ofNat f0)), ("cursor", "I", .int (Int32.ofNat k0)), ("most", "J", .long mo3)]), .inr (.long, (own_vals cs3))] _
  refine Go.aload d0_78 rfl rfl ?_
  obtain ⟨f1, k1, hI1, hA1, g1⟩ := go_llw K hw cs3 _ mo3 _ (own_hd hL3 (by decide)) _ _ _ hJ3 (Nat.le_refl _)
  refine Go.callV (M' := m4) (i := 1) d0_80 rfl (hw _ (List.mem_of_getElem? (i := 16) rfl)) (hw _ (List.mem_of_getElem? (i := 18) rfl)) (hw _ (List.mem_of_getElem? (i := 3) rfl)) (hw _ (List.mem_of_getElem? (i := 17) rfl)) (hw _ (List.mem_of_getElem? (i := 19) rfl)) (hw _ (List.mem_of_getElem? (i := 20) rfl)) mi4 (as := []) rfl rfl (st := []) rfl (ls1 := [.val (.ref 1)]) rfl (W := 0) rfl (by decide) (by decide) g1 13 119 (by decide) (by decide) ?_
  show Go _ _ _ _ 83 [.val (.int x0), .val (.int x1), .val (.int x2), .val (.int 1), .val (.ref 0), .val (.ref 1), .val (.int (Int32.ofNat k0)), .val (.int 1), .unset, .unset, .unset, .unset] [.int (Int32.ofNat k1)] [.inr (.long, (own_vals (cs3 ++ List.replicate 3 0))), .inl ("com/example/skew/skew/SourceLoad", [("sent", "[J", .ref 2), ("floor", "J", .long (Int64.ofNat f1)), ("cursor", "I", .int (Int32.ofNat k1)), ("most", "J", .long mo3)]), .inr (.long, (own_vals cs3))] _
  refine Go.istore d0_83 (ls' := [.val (.int x0), .val (.int x1), .val (.int x2), .val (.int 1), .val (.ref 0), .val (.ref 1), .val (.int (Int32.ofNat k0)), .val (.int 1), .val (.int (Int32.ofNat k1)), .unset, .unset, .unset]) rfl ?_
  refine Go.iload d0_85 rfl ?_
  refine Go.aload d0_87 rfl rfl ?_
  refine Go.iloadN d0_89 rfl ?_
  obtain ⟨r1, hr1, hB1, ga1⟩ := go_argmin1 K hw cs3 hL3 (fun i m hi => by have := hb3 i m hi; omega) [.inr (.long, (own_vals (cs3 ++ List.replicate 3 0))), .inl ("com/example/skew/skew/SourceLoad", [("sent", "[J", .ref 2), ("floor", "J", .long (Int64.ofNat f1)), ("cursor", "I", .int (Int32.ofNat k1)), ("most", "J", .long mo3)]), .inr (.long, (own_vals cs3))] rfl
  refine Go.callS (M' := m5) d0_90 (hw _ (List.mem_of_getElem? (i := 25) rfl)) (hw _ (List.mem_of_getElem? (i := 26) rfl)) (hw _ (List.mem_of_getElem? (i := 27) rfl)) (hw _ (List.mem_of_getElem? (i := 28) rfl)) mi5 (as := [.ref 0, .int 1]) rfl rfl (st := [.int (Int32.ofNat k1)]) rfl (ls1 := [.val (.ref 0), .val (.int 1), .unset]) rfl (W := 1) rfl (by decide) (by decide) ga1 13 119 (by decide) (by decide) ?_
  show Go _ _ _ _ 93 [.val (.int x0), .val (.int x1), .val (.int x2), .val (.int 1), .val (.ref 0), .val (.ref 1), .val (.int (Int32.ofNat k0)), .val (.int 1), .val (.int (Int32.ofNat k1)), .unset, .unset, .unset] [.int (Int32.ofNat r1), .int (Int32.ofNat k1)] [.inr (.long, (own_vals (cs3 ++ List.replicate 3 0))), .inl ("com/example/skew/skew/SourceLoad", [("sent", "[J", .ref 2), ("floor", "J", .long (Int64.ofNat f1)), ("cursor", "I", .int (Int32.ofNat k1)), ("most", "J", .long mo3)]), .inr (.long, (own_vals cs3))] _
  refine Go.icmpF d0_93 (XT.ii_ne_f (congrArg Int32.ofNat (own_AM_uniq hA1 hB1))) ?_
  refine Go.iconst d0_96 (v := 1) rfl ?_
  refine Go.goto d0_97 j0_97 ?_
  refine Go.istore d0_101 (ls' := [.val (.int x0), .val (.int x1), .val (.int x2), .val (.int 1), .val (.ref 0), .val (.ref 1), .val (.int (Int32.ofNat k0)), .val (.int 1), .val (.int (Int32.ofNat k1)), .val (.int 1), .unset, .unset]) rfl ?_
  refine Go.aload d0_103 rfl rfl ?_
  refine Go.aload d0_105 rfl rfl ?_
  refine Go.iloadN d0_107 rfl ?_
  refine Go.iloadN d0_108 rfl ?_
  obtain ⟨cs4, mo4, hl4, hJ4, hb4, gs4⟩ := go_step K hw cs3 3 _ _ _ mo3 x2 1 (by rw [hL3]; decide) hI1 hb3 (by omega)
  have hL4 : cs4.length = 1 := hl4.trans hL3
  refine Go.callS (M' := m6) d0_109 (hw _ (List.mem_of_getElem? (i := 29) rfl)) (hw _ (List.mem_of_getElem? (i := 30) rfl)) (hw _ (List.mem_of_getElem? (i := 27) rfl)) (hw _ (List.mem_of_getElem? (i := 31) rfl)) mi6 (as := [.ref 1, .ref 0, .int x2, .int 1]) rfl rfl (st := []) rfl (ls1 := [.val (.ref 1), .val (.ref 0), .val (.int x2), .val (.int 1), .unset]) rfl (W := 0) rfl (by decide) (by decide) gs4 13 119 (by decide) (by decide) ?_
  show Go _ _ _ _ 112 [.val (.int x0), .val (.int x1), .val (.int x2), .val (.int 1), .val (.ref 0), .val (.ref 1), .val (.int (Int32.ofNat k0)), .val (.int 1), .val (.int (Int32.ofNat k1)), .val (.int 1), .unset, .unset] [] [.inr (.long, (own_vals (cs4 ++ List.replicate 3 0))), .inl ("com/example/skew/skew/SourceLoad", [("sent", "[J", .ref 2), ("floor", "J", .long (Int64.ofNat f1)), ("cursor", "I", .int (Int32.ofNat k1)), ("most", "J", .long mo4)]), .inr (.long, (own_vals cs4))] _
  refine Go.aload d0_112 rfl rfl ?_
  refine Go.aload d0_114 rfl rfl ?_
  refine Go.iloadN d0_116 rfl ?_
  refine Go.iconst d0_117 (v := 3) rfl ?_
  refine Go.iushr d0_118 ?_
  refine Go.iloadN d0_119 rfl ?_
  obtain ⟨cs5, mo5, hl5, hJ5, hb5, gs5⟩ := go_step K hw cs4 3 _ _ _ mo4 (XT.ushr x2 3) 1 (by rw [hL4]; decide) hJ4 hb4 (by omega)
  have hL5 : cs5.length = 1 := hl5.trans hL4
  refine Go.callS (M' := m6) d0_120 (hw _ (List.mem_of_getElem? (i := 29) rfl)) (hw _ (List.mem_of_getElem? (i := 30) rfl)) (hw _ (List.mem_of_getElem? (i := 27) rfl)) (hw _ (List.mem_of_getElem? (i := 31) rfl)) mi6 (as := [.ref 1, .ref 0, .int (XT.ushr x2 3), .int 1]) rfl rfl (st := []) rfl (ls1 := [.val (.ref 1), .val (.ref 0), .val (.int (XT.ushr x2 3)), .val (.int 1), .unset]) rfl (W := 0) rfl (by decide) (by decide) gs5 13 119 (by decide) (by decide) ?_
  show Go _ _ _ _ 123 [.val (.int x0), .val (.int x1), .val (.int x2), .val (.int 1), .val (.ref 0), .val (.ref 1), .val (.int (Int32.ofNat k0)), .val (.int 1), .val (.int (Int32.ofNat k1)), .val (.int 1), .unset, .unset] [] [.inr (.long, (own_vals (cs5 ++ List.replicate 3 0))), .inl ("com/example/skew/skew/SourceLoad", [("sent", "[J", .ref 2), ("floor", "J", .long (Int64.ofNat f1)), ("cursor", "I", .int (Int32.ofNat k1)), ("most", "J", .long mo5)]), .inr (.long, (own_vals cs5))] _
  refine Go.aload d0_123 rfl rfl ?_
  refine Go.aload d0_125 rfl rfl ?_
  refine Go.iloadN d0_127 rfl ?_
  refine Go.bipush d0_128 (v := 6) rfl ?_
  refine Go.iushr d0_130 ?_
  refine Go.iloadN d0_131 rfl ?_
  obtain ⟨cs6, mo6, hl6, hJ6, hb6, gs6⟩ := go_step K hw cs5 3 _ _ _ mo5 (XT.ushr x2 6) 1 (by rw [hL5]; decide) hJ5 hb5 (by omega)
  have hL6 : cs6.length = 1 := hl6.trans hL5
  refine Go.callS (M' := m6) d0_132 (hw _ (List.mem_of_getElem? (i := 29) rfl)) (hw _ (List.mem_of_getElem? (i := 30) rfl)) (hw _ (List.mem_of_getElem? (i := 27) rfl)) (hw _ (List.mem_of_getElem? (i := 31) rfl)) mi6 (as := [.ref 1, .ref 0, .int (XT.ushr x2 6), .int 1]) rfl rfl (st := []) rfl (ls1 := [.val (.ref 1), .val (.ref 0), .val (.int (XT.ushr x2 6)), .val (.int 1), .unset]) rfl (W := 0) rfl (by decide) (by decide) gs6 13 119 (by decide) (by decide) ?_
  show Go _ _ _ _ 135 [.val (.int x0), .val (.int x1), .val (.int x2), .val (.int 1), .val (.ref 0), .val (.ref 1), .val (.int (Int32.ofNat k0)), .val (.int 1), .val (.int (Int32.ofNat k1)), .val (.int 1), .unset, .unset] [] [.inr (.long, (own_vals (cs6 ++ List.replicate 3 0))), .inl ("com/example/skew/skew/SourceLoad", [("sent", "[J", .ref 2), ("floor", "J", .long (Int64.ofNat f1)), ("cursor", "I", .int (Int32.ofNat k1)), ("most", "J", .long mo6)]), .inr (.long, (own_vals cs6))] _
  refine Go.aload d0_135 rfl rfl ?_
  obtain ⟨f2, k2, hI2, hA2, g2⟩ := go_llw K hw cs6 _ mo6 _ (own_hd hL6 (by decide)) _ _ _ hJ6 (Nat.le_refl _)
  refine Go.callV (M' := m4) (i := 1) d0_137 rfl (hw _ (List.mem_of_getElem? (i := 16) rfl)) (hw _ (List.mem_of_getElem? (i := 18) rfl)) (hw _ (List.mem_of_getElem? (i := 3) rfl)) (hw _ (List.mem_of_getElem? (i := 17) rfl)) (hw _ (List.mem_of_getElem? (i := 19) rfl)) (hw _ (List.mem_of_getElem? (i := 20) rfl)) mi4 (as := []) rfl rfl (st := []) rfl (ls1 := [.val (.ref 1)]) rfl (W := 0) rfl (by decide) (by decide) g2 13 119 (by decide) (by decide) ?_
  show Go _ _ _ _ 140 [.val (.int x0), .val (.int x1), .val (.int x2), .val (.int 1), .val (.ref 0), .val (.ref 1), .val (.int (Int32.ofNat k0)), .val (.int 1), .val (.int (Int32.ofNat k1)), .val (.int 1), .unset, .unset] [.int (Int32.ofNat k2)] [.inr (.long, (own_vals (cs6 ++ List.replicate 3 0))), .inl ("com/example/skew/skew/SourceLoad", [("sent", "[J", .ref 2), ("floor", "J", .long (Int64.ofNat f2)), ("cursor", "I", .int (Int32.ofNat k2)), ("most", "J", .long mo6)]), .inr (.long, (own_vals cs6))] _
  refine Go.istore d0_140 (ls' := [.val (.int x0), .val (.int x1), .val (.int x2), .val (.int 1), .val (.ref 0), .val (.ref 1), .val (.int (Int32.ofNat k0)), .val (.int 1), .val (.int (Int32.ofNat k1)), .val (.int 1), .val (.int (Int32.ofNat k2)), .unset]) rfl ?_
  refine Go.iload d0_142 rfl ?_
  refine Go.aload d0_144 rfl rfl ?_
  refine Go.iloadN d0_146 rfl ?_
  obtain ⟨r2, hr2, hB2, ga2⟩ := go_argmin1 K hw cs6 hL6 (fun i m hi => by have := hb6 i m hi; omega) [.inr (.long, (own_vals (cs6 ++ List.replicate 3 0))), .inl ("com/example/skew/skew/SourceLoad", [("sent", "[J", .ref 2), ("floor", "J", .long (Int64.ofNat f2)), ("cursor", "I", .int (Int32.ofNat k2)), ("most", "J", .long mo6)]), .inr (.long, (own_vals cs6))] rfl
  refine Go.callS (M' := m5) d0_147 (hw _ (List.mem_of_getElem? (i := 25) rfl)) (hw _ (List.mem_of_getElem? (i := 26) rfl)) (hw _ (List.mem_of_getElem? (i := 27) rfl)) (hw _ (List.mem_of_getElem? (i := 28) rfl)) mi5 (as := [.ref 0, .int 1]) rfl rfl (st := [.int (Int32.ofNat k2)]) rfl (ls1 := [.val (.ref 0), .val (.int 1), .unset]) rfl (W := 1) rfl (by decide) (by decide) ga2 13 119 (by decide) (by decide) ?_
  show Go _ _ _ _ 150 [.val (.int x0), .val (.int x1), .val (.int x2), .val (.int 1), .val (.ref 0), .val (.ref 1), .val (.int (Int32.ofNat k0)), .val (.int 1), .val (.int (Int32.ofNat k1)), .val (.int 1), .val (.int (Int32.ofNat k2)), .unset] [.int (Int32.ofNat r2), .int (Int32.ofNat k2)] [.inr (.long, (own_vals (cs6 ++ List.replicate 3 0))), .inl ("com/example/skew/skew/SourceLoad", [("sent", "[J", .ref 2), ("floor", "J", .long (Int64.ofNat f2)), ("cursor", "I", .int (Int32.ofNat k2)), ("most", "J", .long mo6)]), .inr (.long, (own_vals cs6))] _
  refine Go.icmpF d0_150 (XT.ii_ne_f (congrArg Int32.ofNat (own_AM_uniq hA2 hB2))) ?_
  refine Go.iconst d0_153 (v := 1) rfl ?_
  refine Go.goto d0_154 j0_154 ?_
  refine Go.istore d0_158 (ls' := [.val (.int x0), .val (.int x1), .val (.int x2), .val (.int 1), .val (.ref 0), .val (.ref 1), .val (.int (Int32.ofNat k0)), .val (.int 1), .val (.int (Int32.ofNat k1)), .val (.int 1), .val (.int (Int32.ofNat k2)), .val (.int 1)]) rfl ?_
  refine Go.iload d0_160 rfl ?_
  refine Go.ifF d0_162 (XT.i0_eq_f (by decide)) ?_
  refine Go.iload d0_165 rfl ?_
  refine Go.ifF d0_167 (XT.i0_eq_f (by decide)) ?_
  refine Go.iload d0_170 rfl ?_
  refine Go.ifF d0_172 (XT.i0_eq_f (by decide)) ?_
  refine Go.iconst d0_175 (v := 1) rfl ?_
  refine Go.goto d0_176 j0_176 ?_
  exact Go.ireturnZ d0_180 rfl (by decide) rfl HOk.any
theorem go_t6_2 (K : Ctx) (hw : ∀ d ∈ tables_1, d.before K.2.2.1 K.2.1 = true) (x0 x1 x2 : Int32) : Go K m0 6 144 6 [.val (.int x0), .val (.int x1), .val (.int x2), .val (.int 2), .unset, .unset, .unset, .unset, .unset, .unset, .unset, .unset] [] [] (some (.int 1), none, 16, 128) := by
  refine Go.iconst d0_6 (v := 4) rfl ?_
  refine Go.newarray 4 d0_7 (hw _ (List.mem_of_getElem? (i := 0) rfl)) (t := .long) rfl (by decide) (by decide) (by decide) (vs := [.long 0, .long 0, .long 0, .long 0]) rfl (i := 0) rfl 15 124 (by decide) (by decide) ?_
  show Go _ _ _ _ 9 [.val (.int x0), .val (.int x1), .val (.int x2), .val (.int 2), .unset, .unset, .unset, .unset, .unset, .unset, .unset, .unset] [.ref 0] [.inr (.long, [.long 0, .long 0, .long 0, .long 0])] _
  refine Go.astore d0_9 (ls' := [.val (.int x0), .val (.int x1), .val (.int x2), .val (.int 2), .val (.ref 0), .unset, .unset, .unset, .unset, .unset, .unset, .unset]) rfl rfl ?_
  refine Go.new [("sent", "[J", .null), ("floor", "J", .long 0), ("cursor", "I", .int 0), ("most", "J", .long 0)] d0_11 (hw _ (List.mem_of_getElem? (i := 1) rfl)) (hw _ (List.mem_of_getElem? (i := 2) rfl)) (hw _ (List.mem_of_getElem? (i := 3) rfl)) (by decide) (fun f hf => ?_) (i := 1) rfl 14 120 (by decide) (by decide) ?_
  · simp only [List.mem_cons, List.not_mem_nil, or_false] at hf
    rcases hf with rfl | rfl | rfl | rfl
    · exact ⟨Or.inr (hw _ (List.mem_of_getElem? (i := 15) rfl)), _, (by decide : parseFieldDescriptor "[J" = some (.array .long)), rfl⟩
    · exact ⟨Or.inl (hw _ (List.mem_of_getElem? (i := 24) rfl)), _, (by decide : parseFieldDescriptor "J" = some .long), rfl⟩
    · exact ⟨Or.inl (hw _ (List.mem_of_getElem? (i := 22) rfl)), _, (by decide : parseFieldDescriptor "I" = some .int), rfl⟩
    · exact ⟨Or.inl (hw _ (List.mem_of_getElem? (i := 38) rfl)), _, (by decide : parseFieldDescriptor "J" = some .long), rfl⟩
  show Go _ _ _ _ 14 [.val (.int x0), .val (.int x1), .val (.int x2), .val (.int 2), .val (.ref 0), .unset, .unset, .unset, .unset, .unset, .unset, .unset] [.ref 1] [.inr (.long, [.long 0, .long 0, .long 0, .long 0]), .inl ("com/example/skew/skew/SourceLoad", [("sent", "[J", .null), ("floor", "J", .long 0), ("cursor", "I", .int 0), ("most", "J", .long 0)])] _
  refine Go.dup d0_14 rfl ?_
  refine Go.iloadN d0_15 rfl ?_
  refine Go.callI (M' := m1) (i := 1) d0_16 rfl rfl (hw _ (List.mem_of_getElem? (i := 4) rfl)) (hw _ (List.mem_of_getElem? (i := 5) rfl)) (hw _ (List.mem_of_getElem? (i := 3) rfl)) (hw _ (List.mem_of_getElem? (i := 6) rfl)) mi1 (as := [.int 2]) rfl rfl (st := [.ref 1]) rfl (ls1 := [.val (.ref 1), .val (.int 2)]) rfl (W := 1) rfl (by decide) (by decide) (go_ctor2 K hw) 13 118 (by decide) (by decide) ?_
  show Go _ _ _ _ 19 [.val (.int x0), .val (.int x1), .val (.int x2), .val (.int 2), .val (.ref 0), .unset, .unset, .unset, .unset, .unset, .unset, .unset] [.ref 1] [.inr (.long, [.long 0, .long 0, .long 0, .long 0]), .inl ("com/example/skew/skew/SourceLoad", [("sent", "[J", .ref 2), ("floor", "J", .long 0), ("cursor", "I", .int 0), ("most", "J", .long 0)]), .inr (.long, [.long 0, .long 0])] _
  refine Go.astore d0_19 (ls' := [.val (.int x0), .val (.int x1), .val (.int x2), .val (.int 2), .val (.ref 0), .val (.ref 1), .unset, .unset, .unset, .unset, .unset, .unset]) rfl rfl ?_
  obtain ⟨cs0, hc0⟩ : ∃ cs0 : List Nat, cs0 = [0, 0] := ⟨_, rfl⟩
  have hL0 : cs0.length = 2 := by rw [hc0]; rfl
  have hJ0 : own_Inv cs0 0 0 := by rw [hc0]; exact own_Inv0 (by decide) (by decide) (by simp)
  have hb0 : own_max1 cs0 0 := by rw [hc0]; exact own_max0 (by simp)
  have hH0 : ([.inr (.long, [.long 0, .long 0, .long 0, .long 0]), .inl ("com/example/skew/skew/SourceLoad", [("sent", "[J", .ref 2), ("floor", "J", .long 0), ("cursor", "I", .int 0), ("most", "J", .long 0)]), .inr (.long, [.long 0, .long 0])] : Hp) = [.inr (.long, (own_vals (cs0 ++ List.replicate 2 0))), .inl ("com/example/skew/skew/SourceLoad", [("sent", "[J", .ref 2), ("floor", "J", .long (Int64.ofNat 0)), ("cursor", "I", .int (Int32.ofNat 0)), ("most", "J", .long 0)]), .inr (.long, (own_vals cs0))] := by rw [hc0]; rfl
  rw [hH0]
  refine Go.aload d0_21 rfl rfl ?_
  obtain ⟨f0, k0, hI0, hA0, g0⟩ := go_llw K hw cs0 _ 0 _ (own_hd hL0 (by decide)) _ _ _ hJ0 (Nat.le_refl _)
  refine Go.callV (M' := m4) (i := 1) d0_23 rfl (hw _ (List.mem_of_getElem? (i := 16) rfl)) (hw _ (List.mem_of_getElem? (i := 18) rfl)) (hw _ (List.mem_of_getElem? (i := 3) rfl)) (hw _ (List.mem_of_getElem? (i := 17) rfl)) (hw _ (List.mem_of_getElem? (i := 19) rfl)) (hw _ (List.mem_of_getElem? (i := 20) rfl)) mi4 (as := []) rfl rfl (st := []) rfl (ls1 := [.val (.ref 1)]) rfl (W := 0) rfl (by decide) (by decide) g0 13 118 (by decide) (by decide) ?_
  show Go _ _ _ _ 26 [.val (.int x0), .val (.int x1), .val (.int x2), .val (.int 2), .val (.ref 0), .val (.ref 1), .unset, .unset, .unset, .unset, .unset, .unset] [.int (Int32.ofNat k0)] [.inr (.long, (own_vals (cs0 ++ List.replicate 2 0))), .inl ("com/example/skew/skew/SourceLoad", [("sent", "[J", .ref 2), ("floor", "J", .long (Int64.ofNat f0)), ("cursor", "I", .int (Int32.ofNat k0)), ("most", "J", .long 0)]), .inr (.long, (own_vals cs0))] _
  refine Go.istore d0_26 (ls' := [.val (.int x0), .val (.int x1), .val (.int x2), .val (.int 2), .val (.ref 0), .val (.ref 1), .val (.int (Int32.ofNat k0)), .unset, .unset, .unset, .unset, .unset]) rfl ?_
  refine Go.iload d0_28 rfl ?_
  refine Go.aload d0_30 rfl rfl ?_
  refine Go.iloadN d0_32 rfl ?_
  obtain ⟨r0, hr0, hB0, ga0⟩ := go_argmin2 K hw cs0 hL0 (fun i m hi => by have := hb0 i m hi; omega) [.inr (.long, (own_vals (cs0 ++ List.replicate 2 0))), .inl ("com/example/skew/skew/SourceLoad", [("sent", "[J", .ref 2), ("floor", "J", .long (Int64.ofNat f0)), ("cursor", "I", .int (Int32.ofNat k0)), ("most", "J", .long 0)]), .inr (.long, (own_vals cs0))] rfl
  refine Go.callS (M' := m5) d0_33 (hw _ (List.mem_of_getElem? (i := 25) rfl)) (hw _ (List.mem_of_getElem? (i := 26) rfl)) (hw _ (List.mem_of_getElem? (i := 27) rfl)) (hw _ (List.mem_of_getElem? (i := 28) rfl)) mi5 (as := [.ref 0, .int 2]) rfl rfl (st := [.int (Int32.ofNat k0)]) rfl (ls1 := [.val (.ref 0), .val (.int 2), .unset]) rfl (W := 1) rfl (by decide) (by decide) ga0 13 118 (by decide) (by decide) ?_
  show Go _ _ _ _ 36 [.val (.int x0), .val (.int x1), .val (.int x2), .val (.int 2), .val (.ref 0), .val (.ref 1), .val (.int (Int32.ofNat k0)), .unset, .unset, .unset, .unset, .unset] [.int (Int32.ofNat r0), .int (Int32.ofNat k0)] [.inr (.long, (own_vals (cs0 ++ List.replicate 2 0))), .inl ("com/example/skew/skew/SourceLoad", [("sent", "[J", .ref 2), ("floor", "J", .long (Int64.ofNat f0)), ("cursor", "I", .int (Int32.ofNat k0)), ("most", "J", .long 0)]), .inr (.long, (own_vals cs0))] _
  refine Go.icmpF d0_36 (XT.ii_ne_f (congrArg Int32.ofNat (own_AM_uniq hA0 hB0))) ?_
  refine Go.iconst d0_39 (v := 1) rfl ?_
  refine Go.goto d0_40 j0_40 ?_
  refine Go.istore d0_44 (ls' := [.val (.int x0), .val (.int x1), .val (.int x2), .val (.int 2), .val (.ref 0), .val (.ref 1), .val (.int (Int32.ofNat k0)), .val (.int 1), .unset, .unset, .unset, .unset]) rfl ?_
  refine Go.aload d0_46 rfl rfl ?_
  refine Go.aload d0_48 rfl rfl ?_
  refine Go.iloadN d0_50 rfl ?_
  refine Go.iloadN d0_51 rfl ?_
  obtain ⟨cs1, mo1, hl1, hJ1, hb1, gs1⟩ := go_step K hw cs0 2 _ _ _ 0 x1 2 (by rw [hL0]; decide) hI0 hb0 (by omega)
  have hL1 : cs1.length = 2 := hl1.trans hL0
  refine Go.callS (M' := m6) d0_52 (hw _ (List.mem_of_getElem? (i := 29) rfl)) (hw _ (List.mem_of_getElem? (i := 30) rfl)) (hw _ (List.mem_of_getElem? (i := 27) rfl)) (hw _ (List.mem_of_getElem? (i := 31) rfl)) mi6 (as := [.ref 1, .ref 0, .int x1, .int 2]) rfl rfl (st := []) rfl (ls1 := [.val (.ref 1), .val (.ref 0), .val (.int x1), .val (.int 2), .unset]) rfl (W := 0) rfl (by decide) (by decide) gs1 13 118 (by decide) (by decide) ?_
  show Go _ _ _ _ 55 [.val (.int x0), .val (.int x1), .val (.int x2), .val (.int 2), .val (.ref 0), .val (.ref 1), .val (.int (Int32.ofNat k0)), .val (.int 1), .unset, .unset, .unset, .unset] [] [.inr (.long, (own_vals (cs1 ++ List.replicate 2 0))), .inl ("com/example/skew/skew/SourceLoad", [("sent", "[J", .ref 2), ("floor", "J", .long (Int64.ofNat f0)), ("cursor", "I", .int (Int32.ofNat k0)), ("most", "J", .long mo1)]), .inr (.long, (own_vals cs1))] _
  refine Go.aload d0_55 rfl rfl ?_
  refine Go.aload d0_57 rfl rfl ?_
  refine Go.iloadN d0_59 rfl ?_
  refine Go.iconst d0_60 (v := 3) rfl ?_
  refine Go.iushr d0_61 ?_
  refine Go.iloadN d0_62 rfl ?_
  obtain ⟨cs2, mo2, hl2, hJ2, hb2, gs2⟩ := go_step K hw cs1 2 _ _ _ mo1 (XT.ushr x1 3) 2 (by rw [hL1]; decide) hJ1 hb1 (by omega)
  have hL2 : cs2.length = 2 := hl2.trans hL1
  refine Go.callS (M' := m6) d0_63 (hw _ (List.mem_of_getElem? (i := 29) rfl)) (hw _ (List.mem_of_getElem? (i := 30) rfl)) (hw _ (List.mem_of_getElem? (i := 27) rfl)) (hw _ (List.mem_of_getElem? (i := 31) rfl)) mi6 (as := [.ref 1, .ref 0, .int (XT.ushr x1 3), .int 2]) rfl rfl (st := []) rfl (ls1 := [.val (.ref 1), .val (.ref 0), .val (.int (XT.ushr x1 3)), .val (.int 2), .unset]) rfl (W := 0) rfl (by decide) (by decide) gs2 13 118 (by decide) (by decide) ?_
  show Go _ _ _ _ 66 [.val (.int x0), .val (.int x1), .val (.int x2), .val (.int 2), .val (.ref 0), .val (.ref 1), .val (.int (Int32.ofNat k0)), .val (.int 1), .unset, .unset, .unset, .unset] [] [.inr (.long, (own_vals (cs2 ++ List.replicate 2 0))), .inl ("com/example/skew/skew/SourceLoad", [("sent", "[J", .ref 2), ("floor", "J", .long (Int64.ofNat f0)), ("cursor", "I", .int (Int32.ofNat k0)), ("most", "J", .long mo2)]), .inr (.long, (own_vals cs2))] _
  refine Go.aload d0_66 rfl rfl ?_
  refine Go.aload d0_68 rfl rfl ?_
  refine Go.iloadN d0_70 rfl ?_
  refine Go.bipush d0_71 (v := 6) rfl ?_
  refine Go.iushr d0_73 ?_
  refine Go.iloadN d0_74 rfl ?_
  obtain ⟨cs3, mo3, hl3, hJ3, hb3, gs3⟩ := go_step K hw cs2 2 _ _ _ mo2 (XT.ushr x1 6) 2 (by rw [hL2]; decide) hJ2 hb2 (by omega)
  have hL3 : cs3.length = 2 := hl3.trans hL2
  refine Go.callS (M' := m6) d0_75 (hw _ (List.mem_of_getElem? (i := 29) rfl)) (hw _ (List.mem_of_getElem? (i := 30) rfl)) (hw _ (List.mem_of_getElem? (i := 27) rfl)) (hw _ (List.mem_of_getElem? (i := 31) rfl)) mi6 (as := [.ref 1, .ref 0, .int (XT.ushr x1 6), .int 2]) rfl rfl (st := []) rfl (ls1 := [.val (.ref 1), .val (.ref 0), .val (.int (XT.ushr x1 6)), .val (.int 2), .unset]) rfl (W := 0) rfl (by decide) (by decide) gs3 13 118 (by decide) (by decide) ?_
  show Go _ _ _ _ 78 [.val (.int x0), .val (.int x1), .val (.int x2), .val (.int 2), .val (.ref 0), .val (.ref 1), .val (.int (Int32.ofNat k0)), .val (.int 1), .unset, .unset, .unset, .unset] [] [.inr (.long, (own_vals (cs3 ++ List.replicate 2 0))), .inl ("com/example/skew/skew/SourceLoad", [("sent", "[J", .ref 2), ("floor", "J", .long (Int64.ofNat f0)), ("cursor", "I", .int (Int32.ofNat k0)), ("most", "J", .long mo3)]), .inr (.long, (own_vals cs3))] _
  refine Go.aload d0_78 rfl rfl ?_
  obtain ⟨f1, k1, hI1, hA1, g1⟩ := go_llw K hw cs3 _ mo3 _ (own_hd hL3 (by decide)) _ _ _ hJ3 (Nat.le_refl _)
  refine Go.callV (M' := m4) (i := 1) d0_80 rfl (hw _ (List.mem_of_getElem? (i := 16) rfl)) (hw _ (List.mem_of_getElem? (i := 18) rfl)) (hw _ (List.mem_of_getElem? (i := 3) rfl)) (hw _ (List.mem_of_getElem? (i := 17) rfl)) (hw _ (List.mem_of_getElem? (i := 19) rfl)) (hw _ (List.mem_of_getElem? (i := 20) rfl)) mi4 (as := []) rfl rfl (st := []) rfl (ls1 := [.val (.ref 1)]) rfl (W := 0) rfl (by decide) (by decide) g1 13 118 (by decide) (by decide) ?_
  show Go _ _ _ _ 83 [.val (.int x0), .val (.int x1), .val (.int x2), .val (.int 2), .val (.ref 0), .val (.ref 1), .val (.int (Int32.ofNat k0)), .val (.int 1), .unset, .unset, .unset, .unset] [.int (Int32.ofNat k1)] [.inr (.long, (own_vals (cs3 ++ List.replicate 2 0))), .inl ("com/example/skew/skew/SourceLoad", [("sent", "[J", .ref 2), ("floor", "J", .long (Int64.ofNat f1)), ("cursor", "I", .int (Int32.ofNat k1)), ("most", "J", .long mo3)]), .inr (.long, (own_vals cs3))] _
  refine Go.istore d0_83 (ls' := [.val (.int x0), .val (.int x1), .val (.int x2), .val (.int 2), .val (.ref 0), .val (.ref 1), .val (.int (Int32.ofNat k0)), .val (.int 1), .val (.int (Int32.ofNat k1)), .unset, .unset, .unset]) rfl ?_
  refine Go.iload d0_85 rfl ?_
  refine Go.aload d0_87 rfl rfl ?_
  refine Go.iloadN d0_89 rfl ?_
  obtain ⟨r1, hr1, hB1, ga1⟩ := go_argmin2 K hw cs3 hL3 (fun i m hi => by have := hb3 i m hi; omega) [.inr (.long, (own_vals (cs3 ++ List.replicate 2 0))), .inl ("com/example/skew/skew/SourceLoad", [("sent", "[J", .ref 2), ("floor", "J", .long (Int64.ofNat f1)), ("cursor", "I", .int (Int32.ofNat k1)), ("most", "J", .long mo3)]), .inr (.long, (own_vals cs3))] rfl
  refine Go.callS (M' := m5) d0_90 (hw _ (List.mem_of_getElem? (i := 25) rfl)) (hw _ (List.mem_of_getElem? (i := 26) rfl)) (hw _ (List.mem_of_getElem? (i := 27) rfl)) (hw _ (List.mem_of_getElem? (i := 28) rfl)) mi5 (as := [.ref 0, .int 2]) rfl rfl (st := [.int (Int32.ofNat k1)]) rfl (ls1 := [.val (.ref 0), .val (.int 2), .unset]) rfl (W := 1) rfl (by decide) (by decide) ga1 13 118 (by decide) (by decide) ?_
  show Go _ _ _ _ 93 [.val (.int x0), .val (.int x1), .val (.int x2), .val (.int 2), .val (.ref 0), .val (.ref 1), .val (.int (Int32.ofNat k0)), .val (.int 1), .val (.int (Int32.ofNat k1)), .unset, .unset, .unset] [.int (Int32.ofNat r1), .int (Int32.ofNat k1)] [.inr (.long, (own_vals (cs3 ++ List.replicate 2 0))), .inl ("com/example/skew/skew/SourceLoad", [("sent", "[J", .ref 2), ("floor", "J", .long (Int64.ofNat f1)), ("cursor", "I", .int (Int32.ofNat k1)), ("most", "J", .long mo3)]), .inr (.long, (own_vals cs3))] _
  refine Go.icmpF d0_93 (XT.ii_ne_f (congrArg Int32.ofNat (own_AM_uniq hA1 hB1))) ?_
  refine Go.iconst d0_96 (v := 1) rfl ?_
  refine Go.goto d0_97 j0_97 ?_
  refine Go.istore d0_101 (ls' := [.val (.int x0), .val (.int x1), .val (.int x2), .val (.int 2), .val (.ref 0), .val (.ref 1), .val (.int (Int32.ofNat k0)), .val (.int 1), .val (.int (Int32.ofNat k1)), .val (.int 1), .unset, .unset]) rfl ?_
  refine Go.aload d0_103 rfl rfl ?_
  refine Go.aload d0_105 rfl rfl ?_
  refine Go.iloadN d0_107 rfl ?_
  refine Go.iloadN d0_108 rfl ?_
  obtain ⟨cs4, mo4, hl4, hJ4, hb4, gs4⟩ := go_step K hw cs3 2 _ _ _ mo3 x2 2 (by rw [hL3]; decide) hI1 hb3 (by omega)
  have hL4 : cs4.length = 2 := hl4.trans hL3
  refine Go.callS (M' := m6) d0_109 (hw _ (List.mem_of_getElem? (i := 29) rfl)) (hw _ (List.mem_of_getElem? (i := 30) rfl)) (hw _ (List.mem_of_getElem? (i := 27) rfl)) (hw _ (List.mem_of_getElem? (i := 31) rfl)) mi6 (as := [.ref 1, .ref 0, .int x2, .int 2]) rfl rfl (st := []) rfl (ls1 := [.val (.ref 1), .val (.ref 0), .val (.int x2), .val (.int 2), .unset]) rfl (W := 0) rfl (by decide) (by decide) gs4 13 118 (by decide) (by decide) ?_
  show Go _ _ _ _ 112 [.val (.int x0), .val (.int x1), .val (.int x2), .val (.int 2), .val (.ref 0), .val (.ref 1), .val (.int (Int32.ofNat k0)), .val (.int 1), .val (.int (Int32.ofNat k1)), .val (.int 1), .unset, .unset] [] [.inr (.long, (own_vals (cs4 ++ List.replicate 2 0))), .inl ("com/example/skew/skew/SourceLoad", [("sent", "[J", .ref 2), ("floor", "J", .long (Int64.ofNat f1)), ("cursor", "I", .int (Int32.ofNat k1)), ("most", "J", .long mo4)]), .inr (.long, (own_vals cs4))] _
  refine Go.aload d0_112 rfl rfl ?_
  refine Go.aload d0_114 rfl rfl ?_
  refine Go.iloadN d0_116 rfl ?_
  refine Go.iconst d0_117 (v := 3) rfl ?_
  refine Go.iushr d0_118 ?_
  refine Go.iloadN d0_119 rfl ?_
  obtain ⟨cs5, mo5, hl5, hJ5, hb5, gs5⟩ := go_step K hw cs4 2 _ _ _ mo4 (XT.ushr x2 3) 2 (by rw [hL4]; decide) hJ4 hb4 (by omega)
  have hL5 : cs5.length = 2 := hl5.trans hL4
  refine Go.callS (M' := m6) d0_120 (hw _ (List.mem_of_getElem? (i := 29) rfl)) (hw _ (List.mem_of_getElem? (i := 30) rfl)) (hw _ (List.mem_of_getElem? (i := 27) rfl)) (hw _ (List.mem_of_getElem? (i := 31) rfl)) mi6 (as := [.ref 1, .ref 0, .int (XT.ushr x2 3), .int 2]) rfl rfl (st := []) rfl (ls1 := [.val (.ref 1), .val (.ref 0), .val (.int (XT.ushr x2 3)), .val (.int 2), .unset]) rfl (W := 0) rfl (by decide) (by decide) gs5 13 118 (by decide) (by decide) ?_
  show Go _ _ _ _ 123 [.val (.int x0), .val (.int x1), .val (.int x2), .val (.int 2), .val (.ref 0), .val (.ref 1), .val (.int (Int32.ofNat k0)), .val (.int 1), .val (.int (Int32.ofNat k1)), .val (.int 1), .unset, .unset] [] [.inr (.long, (own_vals (cs5 ++ List.replicate 2 0))), .inl ("com/example/skew/skew/SourceLoad", [("sent", "[J", .ref 2), ("floor", "J", .long (Int64.ofNat f1)), ("cursor", "I", .int (Int32.ofNat k1)), ("most", "J", .long mo5)]), .inr (.long, (own_vals cs5))] _
  refine Go.aload d0_123 rfl rfl ?_
  refine Go.aload d0_125 rfl rfl ?_
  refine Go.iloadN d0_127 rfl ?_
  refine Go.bipush d0_128 (v := 6) rfl ?_
  refine Go.iushr d0_130 ?_
  refine Go.iloadN d0_131 rfl ?_
  obtain ⟨cs6, mo6, hl6, hJ6, hb6, gs6⟩ := go_step K hw cs5 2 _ _ _ mo5 (XT.ushr x2 6) 2 (by rw [hL5]; decide) hJ5 hb5 (by omega)
  have hL6 : cs6.length = 2 := hl6.trans hL5
  refine Go.callS (M' := m6) d0_132 (hw _ (List.mem_of_getElem? (i := 29) rfl)) (hw _ (List.mem_of_getElem? (i := 30) rfl)) (hw _ (List.mem_of_getElem? (i := 27) rfl)) (hw _ (List.mem_of_getElem? (i := 31) rfl)) mi6 (as := [.ref 1, .ref 0, .int (XT.ushr x2 6), .int 2]) rfl rfl (st := []) rfl (ls1 := [.val (.ref 1), .val (.ref 0), .val (.int (XT.ushr x2 6)), .val (.int 2), .unset]) rfl (W := 0) rfl (by decide) (by decide) gs6 13 118 (by decide) (by decide) ?_
  show Go _ _ _ _ 135 [.val (.int x0), .val (.int x1), .val (.int x2), .val (.int 2), .val (.ref 0), .val (.ref 1), .val (.int (Int32.ofNat k0)), .val (.int 1), .val (.int (Int32.ofNat k1)), .val (.int 1), .unset, .unset] [] [.inr (.long, (own_vals (cs6 ++ List.replicate 2 0))), .inl ("com/example/skew/skew/SourceLoad", [("sent", "[J", .ref 2), ("floor", "J", .long (Int64.ofNat f1)), ("cursor", "I", .int (Int32.ofNat k1)), ("most", "J", .long mo6)]), .inr (.long, (own_vals cs6))] _
  refine Go.aload d0_135 rfl rfl ?_
  obtain ⟨f2, k2, hI2, hA2, g2⟩ := go_llw K hw cs6 _ mo6 _ (own_hd hL6 (by decide)) _ _ _ hJ6 (Nat.le_refl _)
  refine Go.callV (M' := m4) (i := 1) d0_137 rfl (hw _ (List.mem_of_getElem? (i := 16) rfl)) (hw _ (List.mem_of_getElem? (i := 18) rfl)) (hw _ (List.mem_of_getElem? (i := 3) rfl)) (hw _ (List.mem_of_getElem? (i := 17) rfl)) (hw _ (List.mem_of_getElem? (i := 19) rfl)) (hw _ (List.mem_of_getElem? (i := 20) rfl)) mi4 (as := []) rfl rfl (st := []) rfl (ls1 := [.val (.ref 1)]) rfl (W := 0) rfl (by decide) (by decide) g2 13 118 (by decide) (by decide) ?_
  show Go _ _ _ _ 140 [.val (.int x0), .val (.int x1), .val (.int x2), .val (.int 2), .val (.ref 0), .val (.ref 1), .val (.int (Int32.ofNat k0)), .val (.int 1), .val (.int (Int32.ofNat k1)), .val (.int 1), .unset, .unset] [.int (Int32.ofNat k2)] [.inr (.long, (own_vals (cs6 ++ List.replicate 2 0))), .inl ("com/example/skew/skew/SourceLoad", [("sent", "[J", .ref 2), ("floor", "J", .long (Int64.ofNat f2)), ("cursor", "I", .int (Int32.ofNat k2)), ("most", "J", .long mo6)]), .inr (.long, (own_vals cs6))] _
  refine Go.istore d0_140 (ls' := [.val (.int x0), .val (.int x1), .val (.int x2), .val (.int 2), .val (.ref 0), .val (.ref 1), .val (.int (Int32.ofNat k0)), .val (.int 1), .val (.int (Int32.ofNat k1)), .val (.int 1), .val (.int (Int32.ofNat k2)), .unset]) rfl ?_
  refine Go.iload d0_142 rfl ?_
  refine Go.aload d0_144 rfl rfl ?_
  refine Go.iloadN d0_146 rfl ?_
  obtain ⟨r2, hr2, hB2, ga2⟩ := go_argmin2 K hw cs6 hL6 (fun i m hi => by have := hb6 i m hi; omega) [.inr (.long, (own_vals (cs6 ++ List.replicate 2 0))), .inl ("com/example/skew/skew/SourceLoad", [("sent", "[J", .ref 2), ("floor", "J", .long (Int64.ofNat f2)), ("cursor", "I", .int (Int32.ofNat k2)), ("most", "J", .long mo6)]), .inr (.long, (own_vals cs6))] rfl
  refine Go.callS (M' := m5) d0_147 (hw _ (List.mem_of_getElem? (i := 25) rfl)) (hw _ (List.mem_of_getElem? (i := 26) rfl)) (hw _ (List.mem_of_getElem? (i := 27) rfl)) (hw _ (List.mem_of_getElem? (i := 28) rfl)) mi5 (as := [.ref 0, .int 2]) rfl rfl (st := [.int (Int32.ofNat k2)]) rfl (ls1 := [.val (.ref 0), .val (.int 2), .unset]) rfl (W := 1) rfl (by decide) (by decide) ga2 13 118 (by decide) (by decide) ?_
  show Go _ _ _ _ 150 [.val (.int x0), .val (.int x1), .val (.int x2), .val (.int 2), .val (.ref 0), .val (.ref 1), .val (.int (Int32.ofNat k0)), .val (.int 1), .val (.int (Int32.ofNat k1)), .val (.int 1), .val (.int (Int32.ofNat k2)), .unset] [.int (Int32.ofNat r2), .int (Int32.ofNat k2)] [.inr (.long, (own_vals (cs6 ++ List.replicate 2 0))), .inl ("com/example/skew/skew/SourceLoad", [("sent", "[J", .ref 2), ("floor", "J", .long (Int64.ofNat f2)), ("cursor", "I", .int (Int32.ofNat k2)), ("most", "J", .long mo6)]), .inr (.long, (own_vals cs6))] _
  refine Go.icmpF d0_150 (XT.ii_ne_f (congrArg Int32.ofNat (own_AM_uniq hA2 hB2))) ?_
  refine Go.iconst d0_153 (v := 1) rfl ?_
  refine Go.goto d0_154 j0_154 ?_
  refine Go.istore d0_158 (ls' := [.val (.int x0), .val (.int x1), .val (.int x2), .val (.int 2), .val (.ref 0), .val (.ref 1), .val (.int (Int32.ofNat k0)), .val (.int 1), .val (.int (Int32.ofNat k1)), .val (.int 1), .val (.int (Int32.ofNat k2)), .val (.int 1)]) rfl ?_
  refine Go.iload d0_160 rfl ?_
  refine Go.ifF d0_162 (XT.i0_eq_f (by decide)) ?_
  refine Go.iload d0_165 rfl ?_
  refine Go.ifF d0_167 (XT.i0_eq_f (by decide)) ?_
  refine Go.iload d0_170 rfl ?_
  refine Go.ifF d0_172 (XT.i0_eq_f (by decide)) ?_
  refine Go.iconst d0_175 (v := 1) rfl ?_
  refine Go.goto d0_176 j0_176 ?_
  exact Go.ireturnZ d0_180 rfl (by decide) rfl HOk.any
theorem go_t6_3 (K : Ctx) (hw : ∀ d ∈ tables_1, d.before K.2.2.1 K.2.1 = true) (x0 x1 x2 : Int32) : Go K m0 6 144 6 [.val (.int x0), .val (.int x1), .val (.int x2), .val (.int 3), .unset, .unset, .unset, .unset, .unset, .unset, .unset, .unset] [] [] (some (.int 1), none, 16, 128) := by
  refine Go.iconst d0_6 (v := 4) rfl ?_
  refine Go.newarray 4 d0_7 (hw _ (List.mem_of_getElem? (i := 0) rfl)) (t := .long) rfl (by decide) (by decide) (by decide) (vs := [.long 0, .long 0, .long 0, .long 0]) rfl (i := 0) rfl 15 124 (by decide) (by decide) ?_
  show Go _ _ _ _ 9 [.val (.int x0), .val (.int x1), .val (.int x2), .val (.int 3), .unset, .unset, .unset, .unset, .unset, .unset, .unset, .unset] [.ref 0] [.inr (.long, [.long 0, .long 0, .long 0, .long 0])] _
  refine Go.astore d0_9 (ls' := [.val (.int x0), .val (.int x1), .val (.int x2), .val (.int 3), .val (.ref 0), .unset, .unset, .unset, .unset, .unset, .unset, .unset]) rfl rfl ?_
  refine Go.new [("sent", "[J", .null), ("floor", "J", .long 0), ("cursor", "I", .int 0), ("most", "J", .long 0)] d0_11 (hw _ (List.mem_of_getElem? (i := 1) rfl)) (hw _ (List.mem_of_getElem? (i := 2) rfl)) (hw _ (List.mem_of_getElem? (i := 3) rfl)) (by decide) (fun f hf => ?_) (i := 1) rfl 14 120 (by decide) (by decide) ?_
  · simp only [List.mem_cons, List.not_mem_nil, or_false] at hf
    rcases hf with rfl | rfl | rfl | rfl
    · exact ⟨Or.inr (hw _ (List.mem_of_getElem? (i := 15) rfl)), _, (by decide : parseFieldDescriptor "[J" = some (.array .long)), rfl⟩
    · exact ⟨Or.inl (hw _ (List.mem_of_getElem? (i := 24) rfl)), _, (by decide : parseFieldDescriptor "J" = some .long), rfl⟩
    · exact ⟨Or.inl (hw _ (List.mem_of_getElem? (i := 22) rfl)), _, (by decide : parseFieldDescriptor "I" = some .int), rfl⟩
    · exact ⟨Or.inl (hw _ (List.mem_of_getElem? (i := 38) rfl)), _, (by decide : parseFieldDescriptor "J" = some .long), rfl⟩
  show Go _ _ _ _ 14 [.val (.int x0), .val (.int x1), .val (.int x2), .val (.int 3), .val (.ref 0), .unset, .unset, .unset, .unset, .unset, .unset, .unset] [.ref 1] [.inr (.long, [.long 0, .long 0, .long 0, .long 0]), .inl ("com/example/skew/skew/SourceLoad", [("sent", "[J", .null), ("floor", "J", .long 0), ("cursor", "I", .int 0), ("most", "J", .long 0)])] _
  refine Go.dup d0_14 rfl ?_
  refine Go.iloadN d0_15 rfl ?_
  refine Go.callI (M' := m1) (i := 1) d0_16 rfl rfl (hw _ (List.mem_of_getElem? (i := 4) rfl)) (hw _ (List.mem_of_getElem? (i := 5) rfl)) (hw _ (List.mem_of_getElem? (i := 3) rfl)) (hw _ (List.mem_of_getElem? (i := 6) rfl)) mi1 (as := [.int 3]) rfl rfl (st := [.ref 1]) rfl (ls1 := [.val (.ref 1), .val (.int 3)]) rfl (W := 1) rfl (by decide) (by decide) (go_ctor3 K hw) 13 117 (by decide) (by decide) ?_
  show Go _ _ _ _ 19 [.val (.int x0), .val (.int x1), .val (.int x2), .val (.int 3), .val (.ref 0), .unset, .unset, .unset, .unset, .unset, .unset, .unset] [.ref 1] [.inr (.long, [.long 0, .long 0, .long 0, .long 0]), .inl ("com/example/skew/skew/SourceLoad", [("sent", "[J", .ref 2), ("floor", "J", .long 0), ("cursor", "I", .int 0), ("most", "J", .long 0)]), .inr (.long, [.long 0, .long 0, .long 0])] _
  refine Go.astore d0_19 (ls' := [.val (.int x0), .val (.int x1), .val (.int x2), .val (.int 3), .val (.ref 0), .val (.ref 1), .unset, .unset, .unset, .unset, .unset, .unset]) rfl rfl ?_
  obtain ⟨cs0, hc0⟩ : ∃ cs0 : List Nat, cs0 = [0, 0, 0] := ⟨_, rfl⟩
  have hL0 : cs0.length = 3 := by rw [hc0]; rfl
  have hJ0 : own_Inv cs0 0 0 := by rw [hc0]; exact own_Inv0 (by decide) (by decide) (by simp)
  have hb0 : own_max1 cs0 0 := by rw [hc0]; exact own_max0 (by simp)
  have hH0 : ([.inr (.long, [.long 0, .long 0, .long 0, .long 0]), .inl ("com/example/skew/skew/SourceLoad", [("sent", "[J", .ref 2), ("floor", "J", .long 0), ("cursor", "I", .int 0), ("most", "J", .long 0)]), .inr (.long, [.long 0, .long 0, .long 0])] : Hp) = [.inr (.long, (own_vals (cs0 ++ List.replicate 1 0))), .inl ("com/example/skew/skew/SourceLoad", [("sent", "[J", .ref 2), ("floor", "J", .long (Int64.ofNat 0)), ("cursor", "I", .int (Int32.ofNat 0)), ("most", "J", .long 0)]), .inr (.long, (own_vals cs0))] := by rw [hc0]; rfl
  rw [hH0]
  refine Go.aload d0_21 rfl rfl ?_
  obtain ⟨f0, k0, hI0, hA0, g0⟩ := go_llw K hw cs0 _ 0 _ (own_hd hL0 (by decide)) _ _ _ hJ0 (Nat.le_refl _)
  refine Go.callV (M' := m4) (i := 1) d0_23 rfl (hw _ (List.mem_of_getElem? (i := 16) rfl)) (hw _ (List.mem_of_getElem? (i := 18) rfl)) (hw _ (List.mem_of_getElem? (i := 3) rfl)) (hw _ (List.mem_of_getElem? (i := 17) rfl)) (hw _ (List.mem_of_getElem? (i := 19) rfl)) (hw _ (List.mem_of_getElem? (i := 20) rfl)) mi4 (as := []) rfl rfl (st := []) rfl (ls1 := [.val (.ref 1)]) rfl (W := 0) rfl (by decide) (by decide) g0 13 117 (by decide) (by decide) ?_
  show Go _ _ _ _ 26 [.val (.int x0), .val (.int x1), .val (.int x2), .val (.int 3), .val (.ref 0), .val (.ref 1), .unset, .unset, .unset, .unset, .unset, .unset] [.int (Int32.ofNat k0)] [.inr (.long, (own_vals (cs0 ++ List.replicate 1 0))), .inl ("com/example/skew/skew/SourceLoad", [("sent", "[J", .ref 2), ("floor", "J", .long (Int64.ofNat f0)), ("cursor", "I", .int (Int32.ofNat k0)), ("most", "J", .long 0)]), .inr (.long, (own_vals cs0))] _
  refine Go.istore d0_26 (ls' := [.val (.int x0), .val (.int x1), .val (.int x2), .val (.int 3), .val (.ref 0), .val (.ref 1), .val (.int (Int32.ofNat k0)), .unset, .unset, .unset, .unset, .unset]) rfl ?_
  refine Go.iload d0_28 rfl ?_
  refine Go.aload d0_30 rfl rfl ?_
  refine Go.iloadN d0_32 rfl ?_
  obtain ⟨r0, hr0, hB0, ga0⟩ := go_argmin3 K hw cs0 hL0 (fun i m hi => by have := hb0 i m hi; omega) [.inr (.long, (own_vals (cs0 ++ List.replicate 1 0))), .inl ("com/example/skew/skew/SourceLoad", [("sent", "[J", .ref 2), ("floor", "J", .long (Int64.ofNat f0)), ("cursor", "I", .int (Int32.ofNat k0)), ("most", "J", .long 0)]), .inr (.long, (own_vals cs0))] rfl
  refine Go.callS (M' := m5) d0_33 (hw _ (List.mem_of_getElem? (i := 25) rfl)) (hw _ (List.mem_of_getElem? (i := 26) rfl)) (hw _ (List.mem_of_getElem? (i := 27) rfl)) (hw _ (List.mem_of_getElem? (i := 28) rfl)) mi5 (as := [.ref 0, .int 3]) rfl rfl (st := [.int (Int32.ofNat k0)]) rfl (ls1 := [.val (.ref 0), .val (.int 3), .unset]) rfl (W := 1) rfl (by decide) (by decide) ga0 13 117 (by decide) (by decide) ?_
  show Go _ _ _ _ 36 [.val (.int x0), .val (.int x1), .val (.int x2), .val (.int 3), .val (.ref 0), .val (.ref 1), .val (.int (Int32.ofNat k0)), .unset, .unset, .unset, .unset, .unset] [.int (Int32.ofNat r0), .int (Int32.ofNat k0)] [.inr (.long, (own_vals (cs0 ++ List.replicate 1 0))), .inl ("com/example/skew/skew/SourceLoad", [("sent", "[J", .ref 2), ("floor", "J", .long (Int64.ofNat f0)), ("cursor", "I", .int (Int32.ofNat k0)), ("most", "J", .long 0)]), .inr (.long, (own_vals cs0))] _
  refine Go.icmpF d0_36 (XT.ii_ne_f (congrArg Int32.ofNat (own_AM_uniq hA0 hB0))) ?_
  refine Go.iconst d0_39 (v := 1) rfl ?_
  refine Go.goto d0_40 j0_40 ?_
  refine Go.istore d0_44 (ls' := [.val (.int x0), .val (.int x1), .val (.int x2), .val (.int 3), .val (.ref 0), .val (.ref 1), .val (.int (Int32.ofNat k0)), .val (.int 1), .unset, .unset, .unset, .unset]) rfl ?_
  refine Go.aload d0_46 rfl rfl ?_
  refine Go.aload d0_48 rfl rfl ?_
  refine Go.iloadN d0_50 rfl ?_
  refine Go.iloadN d0_51 rfl ?_
  obtain ⟨cs1, mo1, hl1, hJ1, hb1, gs1⟩ := go_step K hw cs0 1 _ _ _ 0 x1 3 (by rw [hL0]; decide) hI0 hb0 (by omega)
  have hL1 : cs1.length = 3 := hl1.trans hL0
  refine Go.callS (M' := m6) d0_52 (hw _ (List.mem_of_getElem? (i := 29) rfl)) (hw _ (List.mem_of_getElem? (i := 30) rfl)) (hw _ (List.mem_of_getElem? (i := 27) rfl)) (hw _ (List.mem_of_getElem? (i := 31) rfl)) mi6 (as := [.ref 1, .ref 0, .int x1, .int 3]) rfl rfl (st := []) rfl (ls1 := [.val (.ref 1), .val (.ref 0), .val (.int x1), .val (.int 3), .unset]) rfl (W := 0) rfl (by decide) (by decide) gs1 13 117 (by decide) (by decide) ?_
  show Go _ _ _ _ 55 [.val (.int x0), .val (.int x1), .val (.int x2), .val (.int 3), .val (.ref 0), .val (.ref 1), .val (.int (Int32.ofNat k0)), .val (.int 1), .unset, .unset, .unset, .unset] [] [.inr (.long, (own_vals (cs1 ++ List.replicate 1 0))), .inl ("com/example/skew/skew/SourceLoad", [("sent", "[J", .ref 2), ("floor", "J", .long (Int64.ofNat f0)), ("cursor", "I", .int (Int32.ofNat k0)), ("most", "J", .long mo1)]), .inr (.long, (own_vals cs1))] _
  refine Go.aload d0_55 rfl rfl ?_
  refine Go.aload d0_57 rfl rfl ?_
  refine Go.iloadN d0_59 rfl ?_
  refine Go.iconst d0_60 (v := 3) rfl ?_
  refine Go.iushr d0_61 ?_
  refine Go.iloadN d0_62 rfl ?_
  obtain ⟨cs2, mo2, hl2, hJ2, hb2, gs2⟩ := go_step K hw cs1 1 _ _ _ mo1 (XT.ushr x1 3) 3 (by rw [hL1]; decide) hJ1 hb1 (by omega)
  have hL2 : cs2.length = 3 := hl2.trans hL1
  refine Go.callS (M' := m6) d0_63 (hw _ (List.mem_of_getElem? (i := 29) rfl)) (hw _ (List.mem_of_getElem? (i := 30) rfl)) (hw _ (List.mem_of_getElem? (i := 27) rfl)) (hw _ (List.mem_of_getElem? (i := 31) rfl)) mi6 (as := [.ref 1, .ref 0, .int (XT.ushr x1 3), .int 3]) rfl rfl (st := []) rfl (ls1 := [.val (.ref 1), .val (.ref 0), .val (.int (XT.ushr x1 3)), .val (.int 3), .unset]) rfl (W := 0) rfl (by decide) (by decide) gs2 13 117 (by decide) (by decide) ?_
  show Go _ _ _ _ 66 [.val (.int x0), .val (.int x1), .val (.int x2), .val (.int 3), .val (.ref 0), .val (.ref 1), .val (.int (Int32.ofNat k0)), .val (.int 1), .unset, .unset, .unset, .unset] [] [.inr (.long, (own_vals (cs2 ++ List.replicate 1 0))), .inl ("com/example/skew/skew/SourceLoad", [("sent", "[J", .ref 2), ("floor", "J", .long (Int64.ofNat f0)), ("cursor", "I", .int (Int32.ofNat k0)), ("most", "J", .long mo2)]), .inr (.long, (own_vals cs2))] _
  refine Go.aload d0_66 rfl rfl ?_
  refine Go.aload d0_68 rfl rfl ?_
  refine Go.iloadN d0_70 rfl ?_
  refine Go.bipush d0_71 (v := 6) rfl ?_
  refine Go.iushr d0_73 ?_
  refine Go.iloadN d0_74 rfl ?_
  obtain ⟨cs3, mo3, hl3, hJ3, hb3, gs3⟩ := go_step K hw cs2 1 _ _ _ mo2 (XT.ushr x1 6) 3 (by rw [hL2]; decide) hJ2 hb2 (by omega)
  have hL3 : cs3.length = 3 := hl3.trans hL2
  refine Go.callS (M' := m6) d0_75 (hw _ (List.mem_of_getElem? (i := 29) rfl)) (hw _ (List.mem_of_getElem? (i := 30) rfl)) (hw _ (List.mem_of_getElem? (i := 27) rfl)) (hw _ (List.mem_of_getElem? (i := 31) rfl)) mi6 (as := [.ref 1, .ref 0, .int (XT.ushr x1 6), .int 3]) rfl rfl (st := []) rfl (ls1 := [.val (.ref 1), .val (.ref 0), .val (.int (XT.ushr x1 6)), .val (.int 3), .unset]) rfl (W := 0) rfl (by decide) (by decide) gs3 13 117 (by decide) (by decide) ?_
  show Go _ _ _ _ 78 [.val (.int x0), .val (.int x1), .val (.int x2), .val (.int 3), .val (.ref 0), .val (.ref 1), .val (.int (Int32.ofNat k0)), .val (.int 1), .unset, .unset, .unset, .unset] [] [.inr (.long, (own_vals (cs3 ++ List.replicate 1 0))), .inl ("com/example/skew/skew/SourceLoad", [("sent", "[J", .ref 2), ("floor", "J", .long (Int64.ofNat f0)), ("cursor", "I", .int (Int32.ofNat k0)), ("most", "J", .long mo3)]), .inr (.long, (own_vals cs3))] _
  refine Go.aload d0_78 rfl rfl ?_
  obtain ⟨f1, k1, hI1, hA1, g1⟩ := go_llw K hw cs3 _ mo3 _ (own_hd hL3 (by decide)) _ _ _ hJ3 (Nat.le_refl _)
  refine Go.callV (M' := m4) (i := 1) d0_80 rfl (hw _ (List.mem_of_getElem? (i := 16) rfl)) (hw _ (List.mem_of_getElem? (i := 18) rfl)) (hw _ (List.mem_of_getElem? (i := 3) rfl)) (hw _ (List.mem_of_getElem? (i := 17) rfl)) (hw _ (List.mem_of_getElem? (i := 19) rfl)) (hw _ (List.mem_of_getElem? (i := 20) rfl)) mi4 (as := []) rfl rfl (st := []) rfl (ls1 := [.val (.ref 1)]) rfl (W := 0) rfl (by decide) (by decide) g1 13 117 (by decide) (by decide) ?_
  show Go _ _ _ _ 83 [.val (.int x0), .val (.int x1), .val (.int x2), .val (.int 3), .val (.ref 0), .val (.ref 1), .val (.int (Int32.ofNat k0)), .val (.int 1), .unset, .unset, .unset, .unset] [.int (Int32.ofNat k1)] [.inr (.long, (own_vals (cs3 ++ List.replicate 1 0))), .inl ("com/example/skew/skew/SourceLoad", [("sent", "[J", .ref 2), ("floor", "J", .long (Int64.ofNat f1)), ("cursor", "I", .int (Int32.ofNat k1)), ("most", "J", .long mo3)]), .inr (.long, (own_vals cs3))] _
  refine Go.istore d0_83 (ls' := [.val (.int x0), .val (.int x1), .val (.int x2), .val (.int 3), .val (.ref 0), .val (.ref 1), .val (.int (Int32.ofNat k0)), .val (.int 1), .val (.int (Int32.ofNat k1)), .unset, .unset, .unset]) rfl ?_
  refine Go.iload d0_85 rfl ?_
  refine Go.aload d0_87 rfl rfl ?_
  refine Go.iloadN d0_89 rfl ?_
  obtain ⟨r1, hr1, hB1, ga1⟩ := go_argmin3 K hw cs3 hL3 (fun i m hi => by have := hb3 i m hi; omega) [.inr (.long, (own_vals (cs3 ++ List.replicate 1 0))), .inl ("com/example/skew/skew/SourceLoad", [("sent", "[J", .ref 2), ("floor", "J", .long (Int64.ofNat f1)), ("cursor", "I", .int (Int32.ofNat k1)), ("most", "J", .long mo3)]), .inr (.long, (own_vals cs3))] rfl
  refine Go.callS (M' := m5) d0_90 (hw _ (List.mem_of_getElem? (i := 25) rfl)) (hw _ (List.mem_of_getElem? (i := 26) rfl)) (hw _ (List.mem_of_getElem? (i := 27) rfl)) (hw _ (List.mem_of_getElem? (i := 28) rfl)) mi5 (as := [.ref 0, .int 3]) rfl rfl (st := [.int (Int32.ofNat k1)]) rfl (ls1 := [.val (.ref 0), .val (.int 3), .unset]) rfl (W := 1) rfl (by decide) (by decide) ga1 13 117 (by decide) (by decide) ?_
  show Go _ _ _ _ 93 [.val (.int x0), .val (.int x1), .val (.int x2), .val (.int 3), .val (.ref 0), .val (.ref 1), .val (.int (Int32.ofNat k0)), .val (.int 1), .val (.int (Int32.ofNat k1)), .unset, .unset, .unset] [.int (Int32.ofNat r1), .int (Int32.ofNat k1)] [.inr (.long, (own_vals (cs3 ++ List.replicate 1 0))), .inl ("com/example/skew/skew/SourceLoad", [("sent", "[J", .ref 2), ("floor", "J", .long (Int64.ofNat f1)), ("cursor", "I", .int (Int32.ofNat k1)), ("most", "J", .long mo3)]), .inr (.long, (own_vals cs3))] _
  refine Go.icmpF d0_93 (XT.ii_ne_f (congrArg Int32.ofNat (own_AM_uniq hA1 hB1))) ?_
  refine Go.iconst d0_96 (v := 1) rfl ?_
  refine Go.goto d0_97 j0_97 ?_
  refine Go.istore d0_101 (ls' := [.val (.int x0), .val (.int x1), .val (.int x2), .val (.int 3), .val (.ref 0), .val (.ref 1), .val (.int (Int32.ofNat k0)), .val (.int 1), .val (.int (Int32.ofNat k1)), .val (.int 1), .unset, .unset]) rfl ?_
  refine Go.aload d0_103 rfl rfl ?_
  refine Go.aload d0_105 rfl rfl ?_
  refine Go.iloadN d0_107 rfl ?_
  refine Go.iloadN d0_108 rfl ?_
  obtain ⟨cs4, mo4, hl4, hJ4, hb4, gs4⟩ := go_step K hw cs3 1 _ _ _ mo3 x2 3 (by rw [hL3]; decide) hI1 hb3 (by omega)
  have hL4 : cs4.length = 3 := hl4.trans hL3
  refine Go.callS (M' := m6) d0_109 (hw _ (List.mem_of_getElem? (i := 29) rfl)) (hw _ (List.mem_of_getElem? (i := 30) rfl)) (hw _ (List.mem_of_getElem? (i := 27) rfl)) (hw _ (List.mem_of_getElem? (i := 31) rfl)) mi6 (as := [.ref 1, .ref 0, .int x2, .int 3]) rfl rfl (st := []) rfl (ls1 := [.val (.ref 1), .val (.ref 0), .val (.int x2), .val (.int 3), .unset]) rfl (W := 0) rfl (by decide) (by decide) gs4 13 117 (by decide) (by decide) ?_
  show Go _ _ _ _ 112 [.val (.int x0), .val (.int x1), .val (.int x2), .val (.int 3), .val (.ref 0), .val (.ref 1), .val (.int (Int32.ofNat k0)), .val (.int 1), .val (.int (Int32.ofNat k1)), .val (.int 1), .unset, .unset] [] [.inr (.long, (own_vals (cs4 ++ List.replicate 1 0))), .inl ("com/example/skew/skew/SourceLoad", [("sent", "[J", .ref 2), ("floor", "J", .long (Int64.ofNat f1)), ("cursor", "I", .int (Int32.ofNat k1)), ("most", "J", .long mo4)]), .inr (.long, (own_vals cs4))] _
  refine Go.aload d0_112 rfl rfl ?_
  refine Go.aload d0_114 rfl rfl ?_
  refine Go.iloadN d0_116 rfl ?_
  refine Go.iconst d0_117 (v := 3) rfl ?_
  refine Go.iushr d0_118 ?_
  refine Go.iloadN d0_119 rfl ?_
  obtain ⟨cs5, mo5, hl5, hJ5, hb5, gs5⟩ := go_step K hw cs4 1 _ _ _ mo4 (XT.ushr x2 3) 3 (by rw [hL4]; decide) hJ4 hb4 (by omega)
  have hL5 : cs5.length = 3 := hl5.trans hL4
  refine Go.callS (M' := m6) d0_120 (hw _ (List.mem_of_getElem? (i := 29) rfl)) (hw _ (List.mem_of_getElem? (i := 30) rfl)) (hw _ (List.mem_of_getElem? (i := 27) rfl)) (hw _ (List.mem_of_getElem? (i := 31) rfl)) mi6 (as := [.ref 1, .ref 0, .int (XT.ushr x2 3), .int 3]) rfl rfl (st := []) rfl (ls1 := [.val (.ref 1), .val (.ref 0), .val (.int (XT.ushr x2 3)), .val (.int 3), .unset]) rfl (W := 0) rfl (by decide) (by decide) gs5 13 117 (by decide) (by decide) ?_
  show Go _ _ _ _ 123 [.val (.int x0), .val (.int x1), .val (.int x2), .val (.int 3), .val (.ref 0), .val (.ref 1), .val (.int (Int32.ofNat k0)), .val (.int 1), .val (.int (Int32.ofNat k1)), .val (.int 1), .unset, .unset] [] [.inr (.long, (own_vals (cs5 ++ List.replicate 1 0))), .inl ("com/example/skew/skew/SourceLoad", [("sent", "[J", .ref 2), ("floor", "J", .long (Int64.ofNat f1)), ("cursor", "I", .int (Int32.ofNat k1)), ("most", "J", .long mo5)]), .inr (.long, (own_vals cs5))] _
  refine Go.aload d0_123 rfl rfl ?_
  refine Go.aload d0_125 rfl rfl ?_
  refine Go.iloadN d0_127 rfl ?_
  refine Go.bipush d0_128 (v := 6) rfl ?_
  refine Go.iushr d0_130 ?_
  refine Go.iloadN d0_131 rfl ?_
  obtain ⟨cs6, mo6, hl6, hJ6, hb6, gs6⟩ := go_step K hw cs5 1 _ _ _ mo5 (XT.ushr x2 6) 3 (by rw [hL5]; decide) hJ5 hb5 (by omega)
  have hL6 : cs6.length = 3 := hl6.trans hL5
  refine Go.callS (M' := m6) d0_132 (hw _ (List.mem_of_getElem? (i := 29) rfl)) (hw _ (List.mem_of_getElem? (i := 30) rfl)) (hw _ (List.mem_of_getElem? (i := 27) rfl)) (hw _ (List.mem_of_getElem? (i := 31) rfl)) mi6 (as := [.ref 1, .ref 0, .int (XT.ushr x2 6), .int 3]) rfl rfl (st := []) rfl (ls1 := [.val (.ref 1), .val (.ref 0), .val (.int (XT.ushr x2 6)), .val (.int 3), .unset]) rfl (W := 0) rfl (by decide) (by decide) gs6 13 117 (by decide) (by decide) ?_
  show Go _ _ _ _ 135 [.val (.int x0), .val (.int x1), .val (.int x2), .val (.int 3), .val (.ref 0), .val (.ref 1), .val (.int (Int32.ofNat k0)), .val (.int 1), .val (.int (Int32.ofNat k1)), .val (.int 1), .unset, .unset] [] [.inr (.long, (own_vals (cs6 ++ List.replicate 1 0))), .inl ("com/example/skew/skew/SourceLoad", [("sent", "[J", .ref 2), ("floor", "J", .long (Int64.ofNat f1)), ("cursor", "I", .int (Int32.ofNat k1)), ("most", "J", .long mo6)]), .inr (.long, (own_vals cs6))] _
  refine Go.aload d0_135 rfl rfl ?_
  obtain ⟨f2, k2, hI2, hA2, g2⟩ := go_llw K hw cs6 _ mo6 _ (own_hd hL6 (by decide)) _ _ _ hJ6 (Nat.le_refl _)
  refine Go.callV (M' := m4) (i := 1) d0_137 rfl (hw _ (List.mem_of_getElem? (i := 16) rfl)) (hw _ (List.mem_of_getElem? (i := 18) rfl)) (hw _ (List.mem_of_getElem? (i := 3) rfl)) (hw _ (List.mem_of_getElem? (i := 17) rfl)) (hw _ (List.mem_of_getElem? (i := 19) rfl)) (hw _ (List.mem_of_getElem? (i := 20) rfl)) mi4 (as := []) rfl rfl (st := []) rfl (ls1 := [.val (.ref 1)]) rfl (W := 0) rfl (by decide) (by decide) g2 13 117 (by decide) (by decide) ?_
  show Go _ _ _ _ 140 [.val (.int x0), .val (.int x1), .val (.int x2), .val (.int 3), .val (.ref 0), .val (.ref 1), .val (.int (Int32.ofNat k0)), .val (.int 1), .val (.int (Int32.ofNat k1)), .val (.int 1), .unset, .unset] [.int (Int32.ofNat k2)] [.inr (.long, (own_vals (cs6 ++ List.replicate 1 0))), .inl ("com/example/skew/skew/SourceLoad", [("sent", "[J", .ref 2), ("floor", "J", .long (Int64.ofNat f2)), ("cursor", "I", .int (Int32.ofNat k2)), ("most", "J", .long mo6)]), .inr (.long, (own_vals cs6))] _
  refine Go.istore d0_140 (ls' := [.val (.int x0), .val (.int x1), .val (.int x2), .val (.int 3), .val (.ref 0), .val (.ref 1), .val (.int (Int32.ofNat k0)), .val (.int 1), .val (.int (Int32.ofNat k1)), .val (.int 1), .val (.int (Int32.ofNat k2)), .unset]) rfl ?_
  refine Go.iload d0_142 rfl ?_
  refine Go.aload d0_144 rfl rfl ?_
  refine Go.iloadN d0_146 rfl ?_
  obtain ⟨r2, hr2, hB2, ga2⟩ := go_argmin3 K hw cs6 hL6 (fun i m hi => by have := hb6 i m hi; omega) [.inr (.long, (own_vals (cs6 ++ List.replicate 1 0))), .inl ("com/example/skew/skew/SourceLoad", [("sent", "[J", .ref 2), ("floor", "J", .long (Int64.ofNat f2)), ("cursor", "I", .int (Int32.ofNat k2)), ("most", "J", .long mo6)]), .inr (.long, (own_vals cs6))] rfl
  refine Go.callS (M' := m5) d0_147 (hw _ (List.mem_of_getElem? (i := 25) rfl)) (hw _ (List.mem_of_getElem? (i := 26) rfl)) (hw _ (List.mem_of_getElem? (i := 27) rfl)) (hw _ (List.mem_of_getElem? (i := 28) rfl)) mi5 (as := [.ref 0, .int 3]) rfl rfl (st := [.int (Int32.ofNat k2)]) rfl (ls1 := [.val (.ref 0), .val (.int 3), .unset]) rfl (W := 1) rfl (by decide) (by decide) ga2 13 117 (by decide) (by decide) ?_
  show Go _ _ _ _ 150 [.val (.int x0), .val (.int x1), .val (.int x2), .val (.int 3), .val (.ref 0), .val (.ref 1), .val (.int (Int32.ofNat k0)), .val (.int 1), .val (.int (Int32.ofNat k1)), .val (.int 1), .val (.int (Int32.ofNat k2)), .unset] [.int (Int32.ofNat r2), .int (Int32.ofNat k2)] [.inr (.long, (own_vals (cs6 ++ List.replicate 1 0))), .inl ("com/example/skew/skew/SourceLoad", [("sent", "[J", .ref 2), ("floor", "J", .long (Int64.ofNat f2)), ("cursor", "I", .int (Int32.ofNat k2)), ("most", "J", .long mo6)]), .inr (.long, (own_vals cs6))] _
  refine Go.icmpF d0_150 (XT.ii_ne_f (congrArg Int32.ofNat (own_AM_uniq hA2 hB2))) ?_
  refine Go.iconst d0_153 (v := 1) rfl ?_
  refine Go.goto d0_154 j0_154 ?_
  refine Go.istore d0_158 (ls' := [.val (.int x0), .val (.int x1), .val (.int x2), .val (.int 3), .val (.ref 0), .val (.ref 1), .val (.int (Int32.ofNat k0)), .val (.int 1), .val (.int (Int32.ofNat k1)), .val (.int 1), .val (.int (Int32.ofNat k2)), .val (.int 1)]) rfl ?_
  refine Go.iload d0_160 rfl ?_
  refine Go.ifF d0_162 (XT.i0_eq_f (by decide)) ?_
  refine Go.iload d0_165 rfl ?_
  refine Go.ifF d0_167 (XT.i0_eq_f (by decide)) ?_
  refine Go.iload d0_170 rfl ?_
  refine Go.ifF d0_172 (XT.i0_eq_f (by decide)) ?_
  refine Go.iconst d0_175 (v := 1) rfl ?_
  refine Go.goto d0_176 j0_176 ?_
  exact Go.ireturnZ d0_180 rfl (by decide) rfl HOk.any
theorem go_t6_4 (K : Ctx) (hw : ∀ d ∈ tables_1, d.before K.2.2.1 K.2.1 = true) (x0 x1 x2 : Int32) : Go K m0 6 144 6 [.val (.int x0), .val (.int x1), .val (.int x2), .val (.int 4), .unset, .unset, .unset, .unset, .unset, .unset, .unset, .unset] [] [] (some (.int 1), none, 16, 128) := by
  refine Go.iconst d0_6 (v := 4) rfl ?_
  refine Go.newarray 4 d0_7 (hw _ (List.mem_of_getElem? (i := 0) rfl)) (t := .long) rfl (by decide) (by decide) (by decide) (vs := [.long 0, .long 0, .long 0, .long 0]) rfl (i := 0) rfl 15 124 (by decide) (by decide) ?_
  show Go _ _ _ _ 9 [.val (.int x0), .val (.int x1), .val (.int x2), .val (.int 4), .unset, .unset, .unset, .unset, .unset, .unset, .unset, .unset] [.ref 0] [.inr (.long, [.long 0, .long 0, .long 0, .long 0])] _
  refine Go.astore d0_9 (ls' := [.val (.int x0), .val (.int x1), .val (.int x2), .val (.int 4), .val (.ref 0), .unset, .unset, .unset, .unset, .unset, .unset, .unset]) rfl rfl ?_
  refine Go.new [("sent", "[J", .null), ("floor", "J", .long 0), ("cursor", "I", .int 0), ("most", "J", .long 0)] d0_11 (hw _ (List.mem_of_getElem? (i := 1) rfl)) (hw _ (List.mem_of_getElem? (i := 2) rfl)) (hw _ (List.mem_of_getElem? (i := 3) rfl)) (by decide) (fun f hf => ?_) (i := 1) rfl 14 120 (by decide) (by decide) ?_
  · simp only [List.mem_cons, List.not_mem_nil, or_false] at hf
    rcases hf with rfl | rfl | rfl | rfl
    · exact ⟨Or.inr (hw _ (List.mem_of_getElem? (i := 15) rfl)), _, (by decide : parseFieldDescriptor "[J" = some (.array .long)), rfl⟩
    · exact ⟨Or.inl (hw _ (List.mem_of_getElem? (i := 24) rfl)), _, (by decide : parseFieldDescriptor "J" = some .long), rfl⟩
    · exact ⟨Or.inl (hw _ (List.mem_of_getElem? (i := 22) rfl)), _, (by decide : parseFieldDescriptor "I" = some .int), rfl⟩
    · exact ⟨Or.inl (hw _ (List.mem_of_getElem? (i := 38) rfl)), _, (by decide : parseFieldDescriptor "J" = some .long), rfl⟩
  show Go _ _ _ _ 14 [.val (.int x0), .val (.int x1), .val (.int x2), .val (.int 4), .val (.ref 0), .unset, .unset, .unset, .unset, .unset, .unset, .unset] [.ref 1] [.inr (.long, [.long 0, .long 0, .long 0, .long 0]), .inl ("com/example/skew/skew/SourceLoad", [("sent", "[J", .null), ("floor", "J", .long 0), ("cursor", "I", .int 0), ("most", "J", .long 0)])] _
  refine Go.dup d0_14 rfl ?_
  refine Go.iloadN d0_15 rfl ?_
  refine Go.callI (M' := m1) (i := 1) d0_16 rfl rfl (hw _ (List.mem_of_getElem? (i := 4) rfl)) (hw _ (List.mem_of_getElem? (i := 5) rfl)) (hw _ (List.mem_of_getElem? (i := 3) rfl)) (hw _ (List.mem_of_getElem? (i := 6) rfl)) mi1 (as := [.int 4]) rfl rfl (st := [.ref 1]) rfl (ls1 := [.val (.ref 1), .val (.int 4)]) rfl (W := 1) rfl (by decide) (by decide) (go_ctor4 K hw) 13 116 (by decide) (by decide) ?_
  show Go _ _ _ _ 19 [.val (.int x0), .val (.int x1), .val (.int x2), .val (.int 4), .val (.ref 0), .unset, .unset, .unset, .unset, .unset, .unset, .unset] [.ref 1] [.inr (.long, [.long 0, .long 0, .long 0, .long 0]), .inl ("com/example/skew/skew/SourceLoad", [("sent", "[J", .ref 2), ("floor", "J", .long 0), ("cursor", "I", .int 0), ("most", "J", .long 0)]), .inr (.long, [.long 0, .long 0, .long 0, .long 0])] _
  refine Go.astore d0_19 (ls' := [.val (.int x0), .val (.int x1), .val (.int x2), .val (.int 4), .val (.ref 0), .val (.ref 1), .unset, .unset, .unset, .unset, .unset, .unset]) rfl rfl ?_
  obtain ⟨cs0, hc0⟩ : ∃ cs0 : List Nat, cs0 = [0, 0, 0, 0] := ⟨_, rfl⟩
  have hL0 : cs0.length = 4 := by rw [hc0]; rfl
  have hJ0 : own_Inv cs0 0 0 := by rw [hc0]; exact own_Inv0 (by decide) (by decide) (by simp)
  have hb0 : own_max1 cs0 0 := by rw [hc0]; exact own_max0 (by simp)
  have hH0 : ([.inr (.long, [.long 0, .long 0, .long 0, .long 0]), .inl ("com/example/skew/skew/SourceLoad", [("sent", "[J", .ref 2), ("floor", "J", .long 0), ("cursor", "I", .int 0), ("most", "J", .long 0)]), .inr (.long, [.long 0, .long 0, .long 0, .long 0])] : Hp) = [.inr (.long, (own_vals (cs0 ++ List.replicate 0 0))), .inl ("com/example/skew/skew/SourceLoad", [("sent", "[J", .ref 2), ("floor", "J", .long (Int64.ofNat 0)), ("cursor", "I", .int (Int32.ofNat 0)), ("most", "J", .long 0)]), .inr (.long, (own_vals cs0))] := by rw [hc0]; rfl
  rw [hH0]
  refine Go.aload d0_21 rfl rfl ?_
  obtain ⟨f0, k0, hI0, hA0, g0⟩ := go_llw K hw cs0 _ 0 _ (own_hd hL0 (by decide)) _ _ _ hJ0 (Nat.le_refl _)
  refine Go.callV (M' := m4) (i := 1) d0_23 rfl (hw _ (List.mem_of_getElem? (i := 16) rfl)) (hw _ (List.mem_of_getElem? (i := 18) rfl)) (hw _ (List.mem_of_getElem? (i := 3) rfl)) (hw _ (List.mem_of_getElem? (i := 17) rfl)) (hw _ (List.mem_of_getElem? (i := 19) rfl)) (hw _ (List.mem_of_getElem? (i := 20) rfl)) mi4 (as := []) rfl rfl (st := []) rfl (ls1 := [.val (.ref 1)]) rfl (W := 0) rfl (by decide) (by decide) g0 13 116 (by decide) (by decide) ?_
  show Go _ _ _ _ 26 [.val (.int x0), .val (.int x1), .val (.int x2), .val (.int 4), .val (.ref 0), .val (.ref 1), .unset, .unset, .unset, .unset, .unset, .unset] [.int (Int32.ofNat k0)] [.inr (.long, (own_vals (cs0 ++ List.replicate 0 0))), .inl ("com/example/skew/skew/SourceLoad", [("sent", "[J", .ref 2), ("floor", "J", .long (Int64.ofNat f0)), ("cursor", "I", .int (Int32.ofNat k0)), ("most", "J", .long 0)]), .inr (.long, (own_vals cs0))] _
  refine Go.istore d0_26 (ls' := [.val (.int x0), .val (.int x1), .val (.int x2), .val (.int 4), .val (.ref 0), .val (.ref 1), .val (.int (Int32.ofNat k0)), .unset, .unset, .unset, .unset, .unset]) rfl ?_
  refine Go.iload d0_28 rfl ?_
  refine Go.aload d0_30 rfl rfl ?_
  refine Go.iloadN d0_32 rfl ?_
  obtain ⟨r0, hr0, hB0, ga0⟩ := go_argmin4 K hw cs0 hL0 (fun i m hi => by have := hb0 i m hi; omega) [.inr (.long, (own_vals (cs0 ++ List.replicate 0 0))), .inl ("com/example/skew/skew/SourceLoad", [("sent", "[J", .ref 2), ("floor", "J", .long (Int64.ofNat f0)), ("cursor", "I", .int (Int32.ofNat k0)), ("most", "J", .long 0)]), .inr (.long, (own_vals cs0))] rfl
  refine Go.callS (M' := m5) d0_33 (hw _ (List.mem_of_getElem? (i := 25) rfl)) (hw _ (List.mem_of_getElem? (i := 26) rfl)) (hw _ (List.mem_of_getElem? (i := 27) rfl)) (hw _ (List.mem_of_getElem? (i := 28) rfl)) mi5 (as := [.ref 0, .int 4]) rfl rfl (st := [.int (Int32.ofNat k0)]) rfl (ls1 := [.val (.ref 0), .val (.int 4), .unset]) rfl (W := 1) rfl (by decide) (by decide) ga0 13 116 (by decide) (by decide) ?_
  show Go _ _ _ _ 36 [.val (.int x0), .val (.int x1), .val (.int x2), .val (.int 4), .val (.ref 0), .val (.ref 1), .val (.int (Int32.ofNat k0)), .unset, .unset, .unset, .unset, .unset] [.int (Int32.ofNat r0), .int (Int32.ofNat k0)] [.inr (.long, (own_vals (cs0 ++ List.replicate 0 0))), .inl ("com/example/skew/skew/SourceLoad", [("sent", "[J", .ref 2), ("floor", "J", .long (Int64.ofNat f0)), ("cursor", "I", .int (Int32.ofNat k0)), ("most", "J", .long 0)]), .inr (.long, (own_vals cs0))] _
  refine Go.icmpF d0_36 (XT.ii_ne_f (congrArg Int32.ofNat (own_AM_uniq hA0 hB0))) ?_
  refine Go.iconst d0_39 (v := 1) rfl ?_
  refine Go.goto d0_40 j0_40 ?_
  refine Go.istore d0_44 (ls' := [.val (.int x0), .val (.int x1), .val (.int x2), .val (.int 4), .val (.ref 0), .val (.ref 1), .val (.int (Int32.ofNat k0)), .val (.int 1), .unset, .unset, .unset, .unset]) rfl ?_
  refine Go.aload d0_46 rfl rfl ?_
  refine Go.aload d0_48 rfl rfl ?_
  refine Go.iloadN d0_50 rfl ?_
  refine Go.iloadN d0_51 rfl ?_
  obtain ⟨cs1, mo1, hl1, hJ1, hb1, gs1⟩ := go_step K hw cs0 0 _ _ _ 0 x1 4 (by rw [hL0]; decide) hI0 hb0 (by omega)
  have hL1 : cs1.length = 4 := hl1.trans hL0
  refine Go.callS (M' := m6) d0_52 (hw _ (List.mem_of_getElem? (i := 29) rfl)) (hw _ (List.mem_of_getElem? (i := 30) rfl)) (hw _ (List.mem_of_getElem? (i := 27) rfl)) (hw _ (List.mem_of_getElem? (i := 31) rfl)) mi6 (as := [.ref 1, .ref 0, .int x1, .int 4]) rfl rfl (st := []) rfl (ls1 := [.val (.ref 1), .val (.ref 0), .val (.int x1), .val (.int 4), .unset]) rfl (W := 0) rfl (by decide) (by decide) gs1 13 116 (by decide) (by decide) ?_
  show Go _ _ _ _ 55 [.val (.int x0), .val (.int x1), .val (.int x2), .val (.int 4), .val (.ref 0), .val (.ref 1), .val (.int (Int32.ofNat k0)), .val (.int 1), .unset, .unset, .unset, .unset] [] [.inr (.long, (own_vals (cs1 ++ List.replicate 0 0))), .inl ("com/example/skew/skew/SourceLoad", [("sent", "[J", .ref 2), ("floor", "J", .long (Int64.ofNat f0)), ("cursor", "I", .int (Int32.ofNat k0)), ("most", "J", .long mo1)]), .inr (.long, (own_vals cs1))] _
  refine Go.aload d0_55 rfl rfl ?_
  refine Go.aload d0_57 rfl rfl ?_
  refine Go.iloadN d0_59 rfl ?_
  refine Go.iconst d0_60 (v := 3) rfl ?_
  refine Go.iushr d0_61 ?_
  refine Go.iloadN d0_62 rfl ?_
  obtain ⟨cs2, mo2, hl2, hJ2, hb2, gs2⟩ := go_step K hw cs1 0 _ _ _ mo1 (XT.ushr x1 3) 4 (by rw [hL1]; decide) hJ1 hb1 (by omega)
  have hL2 : cs2.length = 4 := hl2.trans hL1
  refine Go.callS (M' := m6) d0_63 (hw _ (List.mem_of_getElem? (i := 29) rfl)) (hw _ (List.mem_of_getElem? (i := 30) rfl)) (hw _ (List.mem_of_getElem? (i := 27) rfl)) (hw _ (List.mem_of_getElem? (i := 31) rfl)) mi6 (as := [.ref 1, .ref 0, .int (XT.ushr x1 3), .int 4]) rfl rfl (st := []) rfl (ls1 := [.val (.ref 1), .val (.ref 0), .val (.int (XT.ushr x1 3)), .val (.int 4), .unset]) rfl (W := 0) rfl (by decide) (by decide) gs2 13 116 (by decide) (by decide) ?_
  show Go _ _ _ _ 66 [.val (.int x0), .val (.int x1), .val (.int x2), .val (.int 4), .val (.ref 0), .val (.ref 1), .val (.int (Int32.ofNat k0)), .val (.int 1), .unset, .unset, .unset, .unset] [] [.inr (.long, (own_vals (cs2 ++ List.replicate 0 0))), .inl ("com/example/skew/skew/SourceLoad", [("sent", "[J", .ref 2), ("floor", "J", .long (Int64.ofNat f0)), ("cursor", "I", .int (Int32.ofNat k0)), ("most", "J", .long mo2)]), .inr (.long, (own_vals cs2))] _
  refine Go.aload d0_66 rfl rfl ?_
  refine Go.aload d0_68 rfl rfl ?_
  refine Go.iloadN d0_70 rfl ?_
  refine Go.bipush d0_71 (v := 6) rfl ?_
  refine Go.iushr d0_73 ?_
  refine Go.iloadN d0_74 rfl ?_
  obtain ⟨cs3, mo3, hl3, hJ3, hb3, gs3⟩ := go_step K hw cs2 0 _ _ _ mo2 (XT.ushr x1 6) 4 (by rw [hL2]; decide) hJ2 hb2 (by omega)
  have hL3 : cs3.length = 4 := hl3.trans hL2
  refine Go.callS (M' := m6) d0_75 (hw _ (List.mem_of_getElem? (i := 29) rfl)) (hw _ (List.mem_of_getElem? (i := 30) rfl)) (hw _ (List.mem_of_getElem? (i := 27) rfl)) (hw _ (List.mem_of_getElem? (i := 31) rfl)) mi6 (as := [.ref 1, .ref 0, .int (XT.ushr x1 6), .int 4]) rfl rfl (st := []) rfl (ls1 := [.val (.ref 1), .val (.ref 0), .val (.int (XT.ushr x1 6)), .val (.int 4), .unset]) rfl (W := 0) rfl (by decide) (by decide) gs3 13 116 (by decide) (by decide) ?_
  show Go _ _ _ _ 78 [.val (.int x0), .val (.int x1), .val (.int x2), .val (.int 4), .val (.ref 0), .val (.ref 1), .val (.int (Int32.ofNat k0)), .val (.int 1), .unset, .unset, .unset, .unset] [] [.inr (.long, (own_vals (cs3 ++ List.replicate 0 0))), .inl ("com/example/skew/skew/SourceLoad", [("sent", "[J", .ref 2), ("floor", "J", .long (Int64.ofNat f0)), ("cursor", "I", .int (Int32.ofNat k0)), ("most", "J", .long mo3)]), .inr (.long, (own_vals cs3))] _
  refine Go.aload d0_78 rfl rfl ?_
  obtain ⟨f1, k1, hI1, hA1, g1⟩ := go_llw K hw cs3 _ mo3 _ (own_hd hL3 (by decide)) _ _ _ hJ3 (Nat.le_refl _)
  refine Go.callV (M' := m4) (i := 1) d0_80 rfl (hw _ (List.mem_of_getElem? (i := 16) rfl)) (hw _ (List.mem_of_getElem? (i := 18) rfl)) (hw _ (List.mem_of_getElem? (i := 3) rfl)) (hw _ (List.mem_of_getElem? (i := 17) rfl)) (hw _ (List.mem_of_getElem? (i := 19) rfl)) (hw _ (List.mem_of_getElem? (i := 20) rfl)) mi4 (as := []) rfl rfl (st := []) rfl (ls1 := [.val (.ref 1)]) rfl (W := 0) rfl (by decide) (by decide) g1 13 116 (by decide) (by decide) ?_
  show Go _ _ _ _ 83 [.val (.int x0), .val (.int x1), .val (.int x2), .val (.int 4), .val (.ref 0), .val (.ref 1), .val (.int (Int32.ofNat k0)), .val (.int 1), .unset, .unset, .unset, .unset] [.int (Int32.ofNat k1)] [.inr (.long, (own_vals (cs3 ++ List.replicate 0 0))), .inl ("com/example/skew/skew/SourceLoad", [("sent", "[J", .ref 2), ("floor", "J", .long (Int64.ofNat f1)), ("cursor", "I", .int (Int32.ofNat k1)), ("most", "J", .long mo3)]), .inr (.long, (own_vals cs3))] _
  refine Go.istore d0_83 (ls' := [.val (.int x0), .val (.int x1), .val (.int x2), .val (.int 4), .val (.ref 0), .val (.ref 1), .val (.int (Int32.ofNat k0)), .val (.int 1), .val (.int (Int32.ofNat k1)), .unset, .unset, .unset]) rfl ?_
  refine Go.iload d0_85 rfl ?_
  refine Go.aload d0_87 rfl rfl ?_
  refine Go.iloadN d0_89 rfl ?_
  obtain ⟨r1, hr1, hB1, ga1⟩ := go_argmin4 K hw cs3 hL3 (fun i m hi => by have := hb3 i m hi; omega) [.inr (.long, (own_vals (cs3 ++ List.replicate 0 0))), .inl ("com/example/skew/skew/SourceLoad", [("sent", "[J", .ref 2), ("floor", "J", .long (Int64.ofNat f1)), ("cursor", "I", .int (Int32.ofNat k1)), ("most", "J", .long mo3)]), .inr (.long, (own_vals cs3))] rfl
  refine Go.callS (M' := m5) d0_90 (hw _ (List.mem_of_getElem? (i := 25) rfl)) (hw _ (List.mem_of_getElem? (i := 26) rfl)) (hw _ (List.mem_of_getElem? (i := 27) rfl)) (hw _ (List.mem_of_getElem? (i := 28) rfl)) mi5 (as := [.ref 0, .int 4]) rfl rfl (st := [.int (Int32.ofNat k1)]) rfl (ls1 := [.val (.ref 0), .val (.int 4), .unset]) rfl (W := 1) rfl (by decide) (by decide) ga1 13 116 (by decide) (by decide) ?_
  show Go _ _ _ _ 93 [.val (.int x0), .val (.int x1), .val (.int x2), .val (.int 4), .val (.ref 0), .val (.ref 1), .val (.int (Int32.ofNat k0)), .val (.int 1), .val (.int (Int32.ofNat k1)), .unset, .unset, .unset] [.int (Int32.ofNat r1), .int (Int32.ofNat k1)] [.inr (.long, (own_vals (cs3 ++ List.replicate 0 0))), .inl ("com/example/skew/skew/SourceLoad", [("sent", "[J", .ref 2), ("floor", "J", .long (Int64.ofNat f1)), ("cursor", "I", .int (Int32.ofNat k1)), ("most", "J", .long mo3)]), .inr (.long, (own_vals cs3))] _
  refine Go.icmpF d0_93 (XT.ii_ne_f (congrArg Int32.ofNat (own_AM_uniq hA1 hB1))) ?_
  refine Go.iconst d0_96 (v := 1) rfl ?_
  refine Go.goto d0_97 j0_97 ?_
  refine Go.istore d0_101 (ls' := [.val (.int x0), .val (.int x1), .val (.int x2), .val (.int 4), .val (.ref 0), .val (.ref 1), .val (.int (Int32.ofNat k0)), .val (.int 1), .val (.int (Int32.ofNat k1)), .val (.int 1), .unset, .unset]) rfl ?_
  refine Go.aload d0_103 rfl rfl ?_
  refine Go.aload d0_105 rfl rfl ?_
  refine Go.iloadN d0_107 rfl ?_
  refine Go.iloadN d0_108 rfl ?_
  obtain ⟨cs4, mo4, hl4, hJ4, hb4, gs4⟩ := go_step K hw cs3 0 _ _ _ mo3 x2 4 (by rw [hL3]; decide) hI1 hb3 (by omega)
  have hL4 : cs4.length = 4 := hl4.trans hL3
  refine Go.callS (M' := m6) d0_109 (hw _ (List.mem_of_getElem? (i := 29) rfl)) (hw _ (List.mem_of_getElem? (i := 30) rfl)) (hw _ (List.mem_of_getElem? (i := 27) rfl)) (hw _ (List.mem_of_getElem? (i := 31) rfl)) mi6 (as := [.ref 1, .ref 0, .int x2, .int 4]) rfl rfl (st := []) rfl (ls1 := [.val (.ref 1), .val (.ref 0), .val (.int x2), .val (.int 4), .unset]) rfl (W := 0) rfl (by decide) (by decide) gs4 13 116 (by decide) (by decide) ?_
  show Go _ _ _ _ 112 [.val (.int x0), .val (.int x1), .val (.int x2), .val (.int 4), .val (.ref 0), .val (.ref 1), .val (.int (Int32.ofNat k0)), .val (.int 1), .val (.int (Int32.ofNat k1)), .val (.int 1), .unset, .unset] [] [.inr (.long, (own_vals (cs4 ++ List.replicate 0 0))), .inl ("com/example/skew/skew/SourceLoad", [("sent", "[J", .ref 2), ("floor", "J", .long (Int64.ofNat f1)), ("cursor", "I", .int (Int32.ofNat k1)), ("most", "J", .long mo4)]), .inr (.long, (own_vals cs4))] _
  refine Go.aload d0_112 rfl rfl ?_
  refine Go.aload d0_114 rfl rfl ?_
  refine Go.iloadN d0_116 rfl ?_
  refine Go.iconst d0_117 (v := 3) rfl ?_
  refine Go.iushr d0_118 ?_
  refine Go.iloadN d0_119 rfl ?_
  obtain ⟨cs5, mo5, hl5, hJ5, hb5, gs5⟩ := go_step K hw cs4 0 _ _ _ mo4 (XT.ushr x2 3) 4 (by rw [hL4]; decide) hJ4 hb4 (by omega)
  have hL5 : cs5.length = 4 := hl5.trans hL4
  refine Go.callS (M' := m6) d0_120 (hw _ (List.mem_of_getElem? (i := 29) rfl)) (hw _ (List.mem_of_getElem? (i := 30) rfl)) (hw _ (List.mem_of_getElem? (i := 27) rfl)) (hw _ (List.mem_of_getElem? (i := 31) rfl)) mi6 (as := [.ref 1, .ref 0, .int (XT.ushr x2 3), .int 4]) rfl rfl (st := []) rfl (ls1 := [.val (.ref 1), .val (.ref 0), .val (.int (XT.ushr x2 3)), .val (.int 4), .unset]) rfl (W := 0) rfl (by decide) (by decide) gs5 13 116 (by decide) (by decide) ?_
  show Go _ _ _ _ 123 [.val (.int x0), .val (.int x1), .val (.int x2), .val (.int 4), .val (.ref 0), .val (.ref 1), .val (.int (Int32.ofNat k0)), .val (.int 1), .val (.int (Int32.ofNat k1)), .val (.int 1), .unset, .unset] [] [.inr (.long, (own_vals (cs5 ++ List.replicate 0 0))), .inl ("com/example/skew/skew/SourceLoad", [("sent", "[J", .ref 2), ("floor", "J", .long (Int64.ofNat f1)), ("cursor", "I", .int (Int32.ofNat k1)), ("most", "J", .long mo5)]), .inr (.long, (own_vals cs5))] _
  refine Go.aload d0_123 rfl rfl ?_
  refine Go.aload d0_125 rfl rfl ?_
  refine Go.iloadN d0_127 rfl ?_
  refine Go.bipush d0_128 (v := 6) rfl ?_
  refine Go.iushr d0_130 ?_
  refine Go.iloadN d0_131 rfl ?_
  obtain ⟨cs6, mo6, hl6, hJ6, hb6, gs6⟩ := go_step K hw cs5 0 _ _ _ mo5 (XT.ushr x2 6) 4 (by rw [hL5]; decide) hJ5 hb5 (by omega)
  have hL6 : cs6.length = 4 := hl6.trans hL5
  refine Go.callS (M' := m6) d0_132 (hw _ (List.mem_of_getElem? (i := 29) rfl)) (hw _ (List.mem_of_getElem? (i := 30) rfl)) (hw _ (List.mem_of_getElem? (i := 27) rfl)) (hw _ (List.mem_of_getElem? (i := 31) rfl)) mi6 (as := [.ref 1, .ref 0, .int (XT.ushr x2 6), .int 4]) rfl rfl (st := []) rfl (ls1 := [.val (.ref 1), .val (.ref 0), .val (.int (XT.ushr x2 6)), .val (.int 4), .unset]) rfl (W := 0) rfl (by decide) (by decide) gs6 13 116 (by decide) (by decide) ?_
  show Go _ _ _ _ 135 [.val (.int x0), .val (.int x1), .val (.int x2), .val (.int 4), .val (.ref 0), .val (.ref 1), .val (.int (Int32.ofNat k0)), .val (.int 1), .val (.int (Int32.ofNat k1)), .val (.int 1), .unset, .unset] [] [.inr (.long, (own_vals (cs6 ++ List.replicate 0 0))), .inl ("com/example/skew/skew/SourceLoad", [("sent", "[J", .ref 2), ("floor", "J", .long (Int64.ofNat f1)), ("cursor", "I", .int (Int32.ofNat k1)), ("most", "J", .long mo6)]), .inr (.long, (own_vals cs6))] _
  refine Go.aload d0_135 rfl rfl ?_
  obtain ⟨f2, k2, hI2, hA2, g2⟩ := go_llw K hw cs6 _ mo6 _ (own_hd hL6 (by decide)) _ _ _ hJ6 (Nat.le_refl _)
  refine Go.callV (M' := m4) (i := 1) d0_137 rfl (hw _ (List.mem_of_getElem? (i := 16) rfl)) (hw _ (List.mem_of_getElem? (i := 18) rfl)) (hw _ (List.mem_of_getElem? (i := 3) rfl)) (hw _ (List.mem_of_getElem? (i := 17) rfl)) (hw _ (List.mem_of_getElem? (i := 19) rfl)) (hw _ (List.mem_of_getElem? (i := 20) rfl)) mi4 (as := []) rfl rfl (st := []) rfl (ls1 := [.val (.ref 1)]) rfl (W := 0) rfl (by decide) (by decide) g2 13 116 (by decide) (by decide) ?_
  show Go _ _ _ _ 140 [.val (.int x0), .val (.int x1), .val (.int x2), .val (.int 4), .val (.ref 0), .val (.ref 1), .val (.int (Int32.ofNat k0)), .val (.int 1), .val (.int (Int32.ofNat k1)), .val (.int 1), .unset, .unset] [.int (Int32.ofNat k2)] [.inr (.long, (own_vals (cs6 ++ List.replicate 0 0))), .inl ("com/example/skew/skew/SourceLoad", [("sent", "[J", .ref 2), ("floor", "J", .long (Int64.ofNat f2)), ("cursor", "I", .int (Int32.ofNat k2)), ("most", "J", .long mo6)]), .inr (.long, (own_vals cs6))] _
  refine Go.istore d0_140 (ls' := [.val (.int x0), .val (.int x1), .val (.int x2), .val (.int 4), .val (.ref 0), .val (.ref 1), .val (.int (Int32.ofNat k0)), .val (.int 1), .val (.int (Int32.ofNat k1)), .val (.int 1), .val (.int (Int32.ofNat k2)), .unset]) rfl ?_
  refine Go.iload d0_142 rfl ?_
  refine Go.aload d0_144 rfl rfl ?_
  refine Go.iloadN d0_146 rfl ?_
  obtain ⟨r2, hr2, hB2, ga2⟩ := go_argmin4 K hw cs6 hL6 (fun i m hi => by have := hb6 i m hi; omega) [.inr (.long, (own_vals (cs6 ++ List.replicate 0 0))), .inl ("com/example/skew/skew/SourceLoad", [("sent", "[J", .ref 2), ("floor", "J", .long (Int64.ofNat f2)), ("cursor", "I", .int (Int32.ofNat k2)), ("most", "J", .long mo6)]), .inr (.long, (own_vals cs6))] rfl
  refine Go.callS (M' := m5) d0_147 (hw _ (List.mem_of_getElem? (i := 25) rfl)) (hw _ (List.mem_of_getElem? (i := 26) rfl)) (hw _ (List.mem_of_getElem? (i := 27) rfl)) (hw _ (List.mem_of_getElem? (i := 28) rfl)) mi5 (as := [.ref 0, .int 4]) rfl rfl (st := [.int (Int32.ofNat k2)]) rfl (ls1 := [.val (.ref 0), .val (.int 4), .unset]) rfl (W := 1) rfl (by decide) (by decide) ga2 13 116 (by decide) (by decide) ?_
  show Go _ _ _ _ 150 [.val (.int x0), .val (.int x1), .val (.int x2), .val (.int 4), .val (.ref 0), .val (.ref 1), .val (.int (Int32.ofNat k0)), .val (.int 1), .val (.int (Int32.ofNat k1)), .val (.int 1), .val (.int (Int32.ofNat k2)), .unset] [.int (Int32.ofNat r2), .int (Int32.ofNat k2)] [.inr (.long, (own_vals (cs6 ++ List.replicate 0 0))), .inl ("com/example/skew/skew/SourceLoad", [("sent", "[J", .ref 2), ("floor", "J", .long (Int64.ofNat f2)), ("cursor", "I", .int (Int32.ofNat k2)), ("most", "J", .long mo6)]), .inr (.long, (own_vals cs6))] _
  refine Go.icmpF d0_150 (XT.ii_ne_f (congrArg Int32.ofNat (own_AM_uniq hA2 hB2))) ?_
  refine Go.iconst d0_153 (v := 1) rfl ?_
  refine Go.goto d0_154 j0_154 ?_
  refine Go.istore d0_158 (ls' := [.val (.int x0), .val (.int x1), .val (.int x2), .val (.int 4), .val (.ref 0), .val (.ref 1), .val (.int (Int32.ofNat k0)), .val (.int 1), .val (.int (Int32.ofNat k1)), .val (.int 1), .val (.int (Int32.ofNat k2)), .val (.int 1)]) rfl ?_
  refine Go.iload d0_160 rfl ?_
  refine Go.ifF d0_162 (XT.i0_eq_f (by decide)) ?_
  refine Go.iload d0_165 rfl ?_
  refine Go.ifF d0_167 (XT.i0_eq_f (by decide)) ?_
  refine Go.iload d0_170 rfl ?_
  refine Go.ifF d0_172 (XT.i0_eq_f (by decide)) ?_
  refine Go.iconst d0_175 (v := 1) rfl ?_
  refine Go.goto d0_176 j0_176 ?_
  exact Go.ireturnZ d0_180 rfl (by decide) rfl HOk.any
theorem go_law (K : Ctx) (hw : ∀ d ∈ tables_1, d.before K.2.2.1 K.2.1 = true) (x0 : Int32) (x1 : Int32) (x2 : Int32) : Go K m0 6 144 0 [.val (.int x0), .val (.int x1), .val (.int x2), .unset, .unset, .unset, .unset, .unset, .unset, .unset, .unset, .unset] [] [] (some (.int 1), none, 16, 128) := by
  refine Go.iconst d0_0 (v := 1) rfl ?_
  refine Go.iloadN d0_1 rfl ?_
  refine Go.iconst d0_2 (v := 3) rfl ?_
  refine Go.iand d0_3 ?_
  refine Go.iadd d0_4 ?_
  refine Go.istoreN d0_5 (ls' := [.val (.int x0), .val (.int x1), .val (.int x2), .val (.int (1 + (x0 &&& 3))), .unset, .unset, .unset, .unset, .unset, .unset, .unset, .unset]) rfl ?_
  rcases own_m3 x0 with h | h | h | h <;> rw [h]
  · exact go_t6_1 K hw _ _ _
  · exact go_t6_2 K hw _ _ _
  · exact go_t6_3 K hw _ _ _
  · exact go_t6_4 K hw _ _ _
set_option maxRecDepth 65536 in
set_option maxHeartbeats 40000000 in
theorem comes_1 {Post : Tables → Env → Array Value → State → Outcome → State → Prop} (hpost : ∀ tb e args s v u, (limb_1_1.after args s (.returned v) u = true ∧ limb_1_2.after args s (.returned v) u = true ∧ True) → FrameEnd s (.returned v) u (Jvm.fieldLocs frame_1_writes args s ++ Jvm.arrayLocs frame_1_arrays args s ++ Jvm.staticLocs frame_1_statics s) 16 128 → Post tb e args s (.returned v) u) :
    ArmFor flags0 classFile x code maxLocals ret World_1 tables_1 room_1 Calls_1 rest_1 Pre_1 Post := by
  intro l hfl _ _ p e ha hc hk s m args below hf hA hF happ hP
  obtain ⟨hcalls, hrest, hpre⟩ := hP
  obtain ⟨-, -, -, hnamed, -, -, -, hat⟩ := (Spec.applies_iff hf).mp happ
  obtain ⟨hg, hn⟩ := and_e (Cond.before_iff.mp (show (Jvm.Cond.and given_1 narrow_1).before args s = true from hpre))
  obtain ⟨h1, g0⟩ := and_e hg
  obtain ⟨w0, w1, w2, rfl⟩ : ∃ w0 w1 w2 : Value, args = #[w0, w1, w2] := by
    have hs : args.size = 3 := by simpa [Cond.value, given_1] using h1
    obtain ⟨L⟩ := args
    match L, hs with
    | [w0, w1, w2], _ => exact ⟨w0, w1, w2, rfl⟩
  have hw := fun d (hd : d ∈ tables_1) => atoms_spec (ws := Jvm.Cond.code x code maxLocals ret :: tables_1) hat d (List.mem_cons_of_mem _ hd)
  obtain ⟨q0, g1⟩ := and_e g0
  obtain ⟨i0, e0⟩ := is_v q0
  obtain rfl : w0 = (.int i0) := Option.some.inj e0
  obtain ⟨q1, g2⟩ := and_e g1
  obtain ⟨i1, e1⟩ := is_v q1
  obtain rfl : w1 = (.int i1) := Option.some.inj e1
  obtain ⟨i2, e2⟩ := is_v g2
  obtain rfl : w2 = (.int i2) := Option.some.inj e2
  have gl := go_law (l, s, _, s.heap.size) hw i0 i1 i2
  obtain ⟨n, o, h1, h2, h3, _, L, rfl, ⟨rfl, -, N⟩, hq⟩ := Go.met (K := (l, s, _, s.heap.size)) (M := m0) (as := [.int i0, .int i1, .int i2]) (ws := tables_1) (rm := room_1) (rv := some (.int 1)) (h := s.heap) (H := []) (by decide +kernel) ⟨rfl, fun i o h => by simp at h⟩ rfl gl p e ha hc hk s m _ below hf ((Spec.applies_iff_loose hf).mp happ).1 ⟨rfl, State.Warmed39.refl s, rfl⟩ trivial
  refine ⟨n, _, h1, h2, h3, hpost _ _ _ _ _ _ ⟨Cond.after_iff.mpr rfl, Cond.after_iff.mpr (eq_i res_at (Term.int_eval (1)) rfl), trivial⟩ ⟨hq.1, hq.2.1, (hq.2.2.sift fun y hy => Or.inr (N y hy)).mono (by decide) (by decide)⟩⟩
theorem main_1_1 : Claimed_1_1 := comes_1 fun _ _ _ _ _ _ h hF => ⟨h.1, hF⟩
theorem main_1_2 : Claimed_1_2 := comes_1 fun _ _ _ _ _ _ h hF => ⟨h.2.1, hF⟩
end Jvm.Pilot.@@N@@
namespace Jvm.Pilot.@@N@@
open Jvm Jvm.ClassFile Sem Op Lib Jvm.Free Jvm.Stand Jvm.Pilot.@@N@@.Jvm.D
/-! MADE BY PROGRAM (witnessworld.py) out of the Statement's table words and the real class files: 13 classes; the members and pool entries that the words name. The judged class is class 1, her method 1. -/
namespace start1
open Jvm.ClassFile
def u (s : String) : CpInfo := .utf8 (stringToUtf16 s)
/-- a pool by its gaps: so many unusable entries, then the entry; so many at the end -/
def gap : Nat → List CpInfo → List CpInfo
  | 0, r => r
  | n + 1, r => .unusable :: gap n r
def poolList (es : List (Nat × CpInfo)) (last : Nat) : List CpInfo := es.foldr (fun e r => gap e.1 (e.2 :: r)) (gap last [])
def pool (es : List (Nat × CpInfo)) (last : Nat) : Array CpInfo := ⟨poolList es last⟩
def fileOf (pool : Array CpInfo) (this : Nat) (attrs : Array Attribute := #[]) (ms : Array MethodInfo := #[]) (fl : Nat := 33) (sup : Nat := 0) (ifs : Array Nat := #[]) (fds : Array FieldInfo := #[]) : ClassFile where
  minorVersion := 0
  majorVersion := 65
  constantPool := pool
  accessFlags := fl
  thisClass := this
  superClass := sup
  interfaces := ifs
  fields := fds
  methods := ms
  attributes := attrs
def plain (name : String) (sup : Option ClassId) : Class where
  name := name
  kind := .ordinary
  loader := none
  accessFlags := 33
  super := sup
  interfaces := #[]
  cf := none
  fields := #[]
  methods := #[]
  instanceTypes := #[]
  staticTypes := #[]
  resolved := #[]
  callSites := []
  init := .initialized
  statics := none
  mirror := none

def pool0 : Array CpInfo := pool [(5, u "<init>"), (0, u "()V"), (1, .class_ 10), (1, u "java/lang/Object")] 113

def k0c0 : Code := { maxStack := 0, maxLocals := 1, code := object_method_1_code, exceptionTable := #[], attributes := #[] }
def k0m0 : Method := { name := "<init>", desc := "()V", sig := { parameters := [], returnType := none }, accessFlags := 1, code := some k0c0 }
/-- java/lang/Object -/
def k0 : Class := { plain "java/lang/Object" none with
  accessFlags := 33
  interfaces := #[]
  cf := some (fileOf pool0 8 #[] #[{ accessFlags := 1, nameIndex := 5, descriptorIndex := 6, attributes := #[] }] 33 0 #[] #[])
  fields := #[]
  methods := #[k0m0]
  instanceTypes := #[]
  staticTypes := #[]
  resolved := Array.replicate 124 none
  statics := none }

def pool1 : Array CpInfo := pool [(2, .class_ 4), (1, u "java/lang/Object"), (0, u "<init>"), (0, u "()V"), (0, .class_ 8), (0, u "com/example/skew/skew/SourceLoad"), (0, .methodref 7 10), (0, .nameAndType 5 11), (0, u "(I)V"), (0, .methodref 7 13), (0, .nameAndType 14 15), (0, u "leastLoadedWorker"), (0, u "()I"), (0, .methodref 17 18), (0, .class_ 19), (0, .nameAndType 20 21), (0, u "com/example/skew/skew/SourceLoadLeastLoadedWorkerPinLaw"), (0, u "argmin"), (0, u "([JI)I"), (0, .methodref 17 23), (0, .nameAndType 24 25), (0, u "step"), (0, u "(Lcom/example/skew/skew/SourceLoad;[JII)V"), (0, .methodref 7 27), (0, .nameAndType 28 29), (0, u "send"), (0, u "(I)I"), (2, u "law"), (0, u "(III)Z")] 5

def k1m0 : Method := { name := "<init>", desc := "()V", sig := { parameters := [], returnType := none }, accessFlags := 2, code := none }
def k1c1 : Code := { maxStack := 4, maxLocals := 12, code := code, exceptionTable := #[], attributes := #[] }
def k1m1 : Method := { name := "law", desc := "(III)Z", sig := { parameters := [.int, .int, .int], returnType := some .boolean }, accessFlags := 9, code := some k1c1 }
def k1c2 : Code := { maxStack := 6, maxLocals := 5, code := method_3_code, exceptionTable := #[], attributes := #[] }
def k1m2 : Method := { name := "step", desc := "(Lcom/example/skew/skew/SourceLoad;[JII)V", sig := { parameters := [(.object "com/example/skew/skew/SourceLoad"), (.array .long), .int, .int], returnType := none }, accessFlags := 10, code := some k1c2 }
def k1c3 : Code := { maxStack := 4, maxLocals := 3, code := method_4_code, exceptionTable := #[], attributes := #[] }
def k1m3 : Method := { name := "argmin", desc := "([JI)I", sig := { parameters := [(.array .long), .int], returnType := some .int }, accessFlags := 10, code := some k1c3 }
/-- com/example/skew/skew/SourceLoadLeastLoadedWorkerPinLaw -/
def k1 : Class := { plain "com/example/skew/skew/SourceLoadLeastLoadedWorkerPinLaw" (some 0) with
  accessFlags := 49
  interfaces := #[]
  cf := some (fileOf pool1 17 #[] #[{ accessFlags := 2, nameIndex := 5, descriptorIndex := 6, attributes := #[] }, { accessFlags := 9, nameIndex := 32, descriptorIndex := 33, attributes := #[] }, { accessFlags := 10, nameIndex := 24, descriptorIndex := 25, attributes := #[] }, { accessFlags := 10, nameIndex := 20, descriptorIndex := 21, attributes := #[] }] 49 2 #[] #[])
  fields := #[]
  methods := #[k1m0, k1m1, k1m2, k1m3]
  instanceTypes := #[]
  staticTypes := #[]
  resolved := Array.replicate 39 none
  statics := none }

def pool2 : Array CpInfo := pool [(1, .methodref 2 3), (0, .class_ 4), (0, .nameAndType 5 6), (0, u "java/lang/Object"), (0, u "<init>"), (0, u "()V"), (0, .methodref 8 9), (0, .class_ 10), (0, .nameAndType 11 12), (0, u "com/example/skew/skew/Workers"), (0, u "checked"), (0, u "(I)I"), (0, .fieldref 14 15), (0, .class_ 16), (0, .nameAndType 17 18), (0, u "com/example/skew/skew/SourceLoad"), (0, u "sent"), (0, u "[J"), (10, .fieldref 14 30), (0, .nameAndType 31 32), (0, u "cursor"), (0, u "I"), (0, .fieldref 14 34), (0, .nameAndType 35 36), (0, u "floor"), (0, u "J"), (0, .fieldref 14 38), (0, .nameAndType 39 36), (0, u "most"), (0, .methodref 41 42), (0, .class_ 43), (0, .nameAndType 44 45), (0, u "java/lang/Math"), (0, u "max"), (0, u "(JJ)J"), (0, u "(I)V"), (3, u "()I"), (3, u "leastLoadedWorker"), (2, u "send")] 2

def k2c0 : Code := { maxStack := 2, maxLocals := 2, code := prog_30_method_1_code, exceptionTable := #[], attributes := #[] }
def k2m0 : Method := { name := "<init>", desc := "(I)V", sig := { parameters := [.int], returnType := none }, accessFlags := 0, code := some k2c0 }
def k2c1 : Code := { maxStack := 5, maxLocals := 1, code := prog_30_method_5_code, exceptionTable := #[], attributes := #[] }
def k2m1 : Method := { name := "leastLoadedWorker", desc := "()I", sig := { parameters := [], returnType := some .int }, accessFlags := 0, code := some k2c1 }
def k2c2 : Code := { maxStack := 6, maxLocals := 2, code := prog_30_method_7_code, exceptionTable := #[], attributes := #[] }
def k2m2 : Method := { name := "send", desc := "(I)I", sig := { parameters := [.int], returnType := some .int }, accessFlags := 0, code := some k2c2 }
/-- com/example/skew/skew/SourceLoad -/
def k2 : Class := { plain "com/example/skew/skew/SourceLoad" (some 0) with
  accessFlags := 48
  interfaces := #[]
  cf := some (fileOf pool2 14 #[] #[{ accessFlags := 0, nameIndex := 5, descriptorIndex := 46, attributes := #[] }, { accessFlags := 0, nameIndex := 54, descriptorIndex := 50, attributes := #[] }, { accessFlags := 0, nameIndex := 57, descriptorIndex := 12, attributes := #[] }] 48 2 #[] #[{ accessFlags := 18, nameIndex := 17, descriptorIndex := 18, attributes := #[] }, { accessFlags := 2, nameIndex := 35, descriptorIndex := 36, attributes := #[] }, { accessFlags := 2, nameIndex := 31, descriptorIndex := 32, attributes := #[] }, { accessFlags := 2, nameIndex := 39, descriptorIndex := 36, attributes := #[] }])
  fields := #[{ name := "sent", type := (.array .long), accessFlags := 18, slot := 0, constantValue := 0 }, { name := "floor", type := .long, accessFlags := 2, slot := 1, constantValue := 0 }, { name := "cursor", type := .int, accessFlags := 2, slot := 2, constantValue := 0 }, { name := "most", type := .long, accessFlags := 2, slot := 3, constantValue := 0 }]
  methods := #[k2m0, k2m1, k2m2]
  instanceTypes := #[(.array .long), .long, .int, .long]
  staticTypes := #[]
  resolved := Array.replicate 60 none
  statics := none }

def pool3 : Array CpInfo := pool [(2, .class_ 4), (1, u "java/lang/Object"), (0, u "<init>"), (0, u "()V"), (12, .class_ 20), (0, u "com/example/skew/skew/Workers"), (2, u "checked"), (0, u "(I)I")] 22

def k3m0 : Method := { name := "<init>", desc := "()V", sig := { parameters := [], returnType := none }, accessFlags := 2, code := none }
def k3c1 : Code := { maxStack := 3, maxLocals := 1, code := prog_34_method_2_code, exceptionTable := #[], attributes := #[] }
def k3m1 : Method := { name := "checked", desc := "(I)I", sig := { parameters := [.int], returnType := some .int }, accessFlags := 8, code := some k3c1 }
/-- com/example/skew/skew/Workers -/
def k3 : Class := { plain "com/example/skew/skew/Workers" (some 0) with
  accessFlags := 48
  interfaces := #[]
  cf := some (fileOf pool3 19 #[] #[{ accessFlags := 2, nameIndex := 5, descriptorIndex := 6, attributes := #[] }, { accessFlags := 8, nameIndex := 23, descriptorIndex := 24, attributes := #[] }] 48 2 #[] #[])
  fields := #[]
  methods := #[k3m0, k3m1]
  instanceTypes := #[]
  staticTypes := #[]
  resolved := Array.replicate 47 none
  statics := none }

def pool4 : Array CpInfo := pool [(1, .class_ 2), (0, u "java/lang/Math"), (1, .class_ 6), (1, u "java/lang/Object"), (0, u "<init>"), (0, u "()V"), (89, .class_ 100), (1, u "java/lang/Math$RandomNumberGeneratorHolder"), (20, u "(JJ)J"), (50, u "negativeZeroFloatBits"), (0, u "J"), (2, u "negativeZeroDoubleBits"), (21, u "max"), (46, u "$assertionsDisabled"), (0, u "Z"), (91, u "twoToTheDoubleScaleDown"), (0, u "D"), (4, u "twoToTheDoubleScaleUp"), (9, u "E"), (3, u "PI"), (2, u "TAU"), (2, u "DEGREES_TO_RADIANS"), (0, u "RADIANS_TO_DEGREES")] 94

def k4m0 : Method := { name := "<init>", desc := "()V", sig := { parameters := [], returnType := none }, accessFlags := 2, code := none }
def k4c1 : Code := { maxStack := 4, maxLocals := 4, code := jdk_29_method_66_code, exceptionTable := #[], attributes := #[] }
def k4m1 : Method := { name := "max", desc := "(JJ)J", sig := { parameters := [.long, .long], returnType := some .long }, accessFlags := 9, code := some k4c1 }
/-- java/lang/Math -/
def k4 : Class := { plain "java/lang/Math" (some 0) with
  accessFlags := 49
  interfaces := #[]
  cf := some (fileOf pool4 1 #[.nestMembers #[98]] #[{ accessFlags := 2, nameIndex := 7, descriptorIndex := 8, attributes := #[] }, { accessFlags := 9, nameIndex := 198, descriptorIndex := 121, attributes := #[] }] 49 4 #[] #[{ accessFlags := 25, nameIndex := 354, descriptorIndex := 339, attributes := #[] }, { accessFlags := 25, nameIndex := 358, descriptorIndex := 339, attributes := #[] }, { accessFlags := 25, nameIndex := 361, descriptorIndex := 339, attributes := #[] }, { accessFlags := 26, nameIndex := 364, descriptorIndex := 339, attributes := #[] }, { accessFlags := 26, nameIndex := 365, descriptorIndex := 339, attributes := #[] }, { accessFlags := 26, nameIndex := 172, descriptorIndex := 173, attributes := #[] }, { accessFlags := 26, nameIndex := 176, descriptorIndex := 173, attributes := #[] }, { accessFlags := 8, nameIndex := 344, descriptorIndex := 339, attributes := #[] }, { accessFlags := 8, nameIndex := 338, descriptorIndex := 339, attributes := #[] }, { accessFlags := 4120, nameIndex := 245, descriptorIndex := 246, attributes := #[] }])
  fields := #[{ name := "E", type := .double, accessFlags := 25, slot := 0, constantValue := 0 }, { name := "PI", type := .double, accessFlags := 25, slot := 1, constantValue := 0 }, { name := "TAU", type := .double, accessFlags := 25, slot := 2, constantValue := 0 }, { name := "DEGREES_TO_RADIANS", type := .double, accessFlags := 26, slot := 3, constantValue := 0 }, { name := "RADIANS_TO_DEGREES", type := .double, accessFlags := 26, slot := 4, constantValue := 0 }, { name := "negativeZeroFloatBits", type := .long, accessFlags := 26, slot := 5, constantValue := 0 }, { name := "negativeZeroDoubleBits", type := .long, accessFlags := 26, slot := 6, constantValue := 0 }, { name := "twoToTheDoubleScaleUp", type := .double, accessFlags := 8, slot := 7, constantValue := 0 }, { name := "twoToTheDoubleScaleDown", type := .double, accessFlags := 8, slot := 8, constantValue := 0 }, { name := "$assertionsDisabled", type := .boolean, accessFlags := 4120, slot := 9, constantValue := 0 }]
  methods := #[k4m0, k4m1]
  instanceTypes := #[]
  staticTypes := #[.double, .double, .double, .double, .double, .long, .long, .double, .double, .boolean]
  resolved := Array.replicate 460 none
  statics := none }

def pool5 : Array CpInfo := pool [(1, u "java/lang/Cloneable"), (0, .class_ 1), (0, u "java/lang/Object"), (0, .class_ 3)] 3

/-- java/lang/Cloneable -/
def k5 : Class := { plain "java/lang/Cloneable" (some 0) with
  accessFlags := 1537
  interfaces := #[]
  cf := some (fileOf pool5 2 #[] #[] 1537 4 #[] #[])
  fields := #[]
  methods := #[]
  instanceTypes := #[]
  staticTypes := #[]
  resolved := Array.replicate 8 none
  statics := none }

def pool6 : Array CpInfo := pool [(1, u "java/io/Serializable"), (0, .class_ 1), (0, u "java/lang/Object"), (0, .class_ 3)] 3

/-- java/io/Serializable -/
def k6 : Class := { plain "java/io/Serializable" (some 0) with
  accessFlags := 1537
  interfaces := #[]
  cf := some (fileOf pool6 2 #[] #[] 1537 4 #[] #[])
  fields := #[]
  methods := #[]
  instanceTypes := #[]
  staticTypes := #[]
  resolved := Array.replicate 8 none
  statics := none }

/-- the primitive byte -/
def k7 : Class := { plain "byte" none with kind := .primitive 'B', accessFlags := 0x411 }
/-- [B -/
def k8 : Class := { plain "[B" (some 0) with kind := .array 7 .byte, interfaces := #[5, 6], accessFlags := 1041 }

/-- the primitive int -/
def k9 : Class := { plain "int" none with kind := .primitive 'I', accessFlags := 0x411 }
/-- [I -/
def k10 : Class := { plain "[I" (some 0) with kind := .array 9 .int, interfaces := #[5, 6], accessFlags := 1041 }

/-- the primitive long -/
def k11 : Class := { plain "long" none with kind := .primitive 'J', accessFlags := 0x411 }
/-- [J -/
def k12 : Class := { plain "[J" (some 0) with kind := .array 11 .long, interfaces := #[5, 6], accessFlags := 1041 }

def heap : Heap := #[]
def classes : Array Class := #[k0, k1, k2, k3, k4, k5, k6, k7, k8, k9, k10, k11, k12]
def interned : List (Array UInt16 × Addr) := []
def slotsUsed : Nat := 0
def theMethod : MethodId := ⟨1, 1⟩
def args0 : Array Value := #[.int 5, .int 7, .int 6]
def aboutOver (below : List Frame) : State where
  vm := { classes := classes, interned := interned.toArray }
  heap := heap
  slotsUsed := slotsUsed
  threads := #[{ frames := .invoking theMethod args0 :: below }]
def below0 : List Frame := [.native { method := ⟨0, 0⟩, args := #[] }]
def about1 : State := aboutOver below0
def p0 : Program := .bare "" "" ""
def e0 : Env := launch0.env 0 0 0
theorem w_frames : about1.frames = Frame.invoking theMethod args0 :: below0 := rfl
set_option maxRecDepth 65536 in
theorem w_args : argsFit about1.vm theMethod args0 = true := by decide +kernel
set_option maxRecDepth 65536 in
theorem w_heap : heapFits about1 = true := by decide +kernel
set_option maxRecDepth 65536 in
theorem w_runnable : about1.curStatus? = some .runnable := by decide +kernel
set_option maxRecDepth 65536 in
theorem w_alone : about1.alone = true := by decide +kernel
set_option maxRecDepth 65536 in
theorem w_named : about1.methodNamed? x = some theMethod := by decide +kernel
set_option maxRecDepth 65536 in
theorem w_hears : about1.hears theMethod below0 = true := by decide +kernel
set_option maxRecDepth 65536 in
theorem w_ripe : about1.ripe theMethod args0 below0 = true := by decide +kernel
theorem w_running : about1.status = .running := rfl
set_option maxRecDepth 65536 in
theorem w_room : about1.hasRoom e0.platform room_1 = true :=
  launch0.hasRoom_least _ room_1 (by decide +kernel) (by decide +kernel) (by decide +kernel) (by decide +kernel) (by decide +kernel) (by decide +kernel)
theorem allAtoms_all (ts : List Jvm.Cond) (a : Array Jvm.Value) (st : Jvm.State) : (allAtoms ts).before a st = ts.all (fun c => c.before a st) := by
  induction ts with
  | nil => rfl
  | cons c t ih =>
    show (Jvm.Cond.and c (allAtoms t)).before a st = _
    rw [Jvm.Cond.before_and, ih, List.all_cons]
def words1 : List Jvm.Cond := Jvm.Cond.code x code maxLocals ret :: tables_1
/-- a 'code' word, met by the world's own term for the bytes: nothing is compared byte by byte -/
theorem code_word {y : MethodName} {bytes : ByteArray} {mx : Nat} {rt : Option FieldType} {a : Array Value} {s : State} {m : MethodId} {meth : Method} {c : Code} (h1 : s.methodNamed? y = some m) (h2 : s.vm.method? m = some meth) (h3 : meth.code = some c) (h4 : c.code = bytes)
    (h5 : (c.maxLocals == mx && c.exceptionTable.isEmpty && decide (c.maxStack ≤ mostOperands) && decide (meth.sig.returnType = rt) && !meth.locks && decide (parseMethodDescriptor y.desc = some meth.sig)) = true) : (Jvm.Cond.code y bytes mx rt).before a s = true := by
  simp only [Bool.and_eq_true, beq_iff_eq, Bool.not_eq_true', decide_eq_true_eq] at h5
  obtain ⟨⟨⟨⟨⟨g1, g2⟩, g3⟩, g4⟩, g5⟩, g6⟩ := h5
  simp [Cond.before, Cond.holds, Cond.value, h1, h2, h3, h4, g1, g2, g3, g4, g5, g6]
def isCode : Jvm.Cond → Bool
  | .code _ _ _ _ => true
  | _ => false
theorem all_split {L : List Jvm.Cond} {P : Jvm.Cond → Bool} (h1 : L.all (fun c => isCode c || P c) = true) (h2 : ∀ c ∈ L.filter isCode, P c = true) : L.all P = true := by
  refine List.all_eq_true.mpr fun c hc => ?_
  have h := List.all_eq_true.mp h1 c hc
  rcases Bool.eq_false_or_eq_true (isCode c) with hi | hi
  · exact h2 c (List.mem_filter.mpr ⟨hc, hi⟩)
  · simpa [hi] using h
set_option maxRecDepth 65536 in
theorem w_c0 : (Jvm.Cond.code x code maxLocals ret).before args0 about1 = true := code_word (m := ⟨1, 1⟩) (meth := k1m1) (c := k1c1) (by decide +kernel) rfl rfl rfl (by decide +kernel)
set_option maxRecDepth 65536 in
theorem w_c1 : (Jvm.Cond.code ({ cls := "com/example/skew/skew/SourceLoad", name := "<init>", desc := "(I)V" } : Jvm.MethodName) prog_30_method_1_code (2 : Nat) (Option.none : Option Jvm.ClassFile.FieldType)).before args0 about1 = true := code_word (m := ⟨2, 0⟩) (meth := k2m0) (c := k2c0) (by decide +kernel) rfl rfl rfl (by decide +kernel)
set_option maxRecDepth 65536 in
theorem w_c2 : (Jvm.Cond.code ({ cls := "java/lang/Object", name := "<init>", desc := "()V" } : Jvm.MethodName) object_method_1_code (1 : Nat) (Option.none : Option Jvm.ClassFile.FieldType)).before args0 about1 = true := code_word (m := ⟨0, 0⟩) (meth := k0m0) (c := k0c0) (by decide +kernel) rfl rfl rfl (by decide +kernel)
set_option maxRecDepth 65536 in
theorem w_c3 : (Jvm.Cond.code ({ cls := "com/example/skew/skew/Workers", name := "checked", desc := "(I)I" } : Jvm.MethodName) prog_34_method_2_code (1 : Nat) (Option.some Jvm.ClassFile.FieldType.int)).before args0 about1 = true := code_word (m := ⟨3, 1⟩) (meth := k3m1) (c := k3c1) (by decide +kernel) rfl rfl rfl (by decide +kernel)
set_option maxRecDepth 65536 in
theorem w_c4 : (Jvm.Cond.code ({ cls := "com/example/skew/skew/SourceLoad", name := "leastLoadedWorker", desc := "()I" } : Jvm.MethodName) prog_30_method_5_code (1 : Nat) (Option.some Jvm.ClassFile.FieldType.int)).before args0 about1 = true := code_word (m := ⟨2, 1⟩) (meth := k2m1) (c := k2c1) (by decide +kernel) rfl rfl rfl (by decide +kernel)
set_option maxRecDepth 65536 in
theorem w_c5 : (Jvm.Cond.code ({ cls := "com/example/skew/skew/SourceLoadLeastLoadedWorkerPinLaw", name := "argmin", desc := "([JI)I" } : Jvm.MethodName) method_4_code (3 : Nat) (Option.some Jvm.ClassFile.FieldType.int)).before args0 about1 = true := code_word (m := ⟨1, 3⟩) (meth := k1m3) (c := k1c3) (by decide +kernel) rfl rfl rfl (by decide +kernel)
set_option maxRecDepth 65536 in
theorem w_c6 : (Jvm.Cond.code ({ cls := "com/example/skew/skew/SourceLoadLeastLoadedWorkerPinLaw", name := "step", desc := "(Lcom/example/skew/skew/SourceLoad;[JII)V" } : Jvm.MethodName) method_3_code (5 : Nat) (Option.none : Option Jvm.ClassFile.FieldType)).before args0 about1 = true := code_word (m := ⟨1, 2⟩) (meth := k1m2) (c := k1c2) (by decide +kernel) rfl rfl rfl (by decide +kernel)
set_option maxRecDepth 65536 in
theorem w_c7 : (Jvm.Cond.code ({ cls := "com/example/skew/skew/SourceLoad", name := "send", desc := "(I)I" } : Jvm.MethodName) prog_30_method_7_code (2 : Nat) (Option.some Jvm.ClassFile.FieldType.int)).before args0 about1 = true := code_word (m := ⟨2, 2⟩) (meth := k2m2) (c := k2c2) (by decide +kernel) rfl rfl rfl (by decide +kernel)
set_option maxRecDepth 65536 in
theorem w_c8 : (Jvm.Cond.code ({ cls := "java/lang/Math", name := "max", desc := "(JJ)J" } : Jvm.MethodName) jdk_29_method_66_code (4 : Nat) (Option.some Jvm.ClassFile.FieldType.long)).before args0 about1 = true := code_word (m := ⟨4, 1⟩) (meth := k4m1) (c := k4c1) (by decide +kernel) rfl rfl rfl (by decide +kernel)
def codes1 : List Jvm.Cond := [Jvm.Cond.code x code maxLocals ret, Jvm.Cond.code ({ cls := "com/example/skew/skew/SourceLoad", name := "<init>", desc := "(I)V" } : Jvm.MethodName) prog_30_method_1_code (2 : Nat) (Option.none : Option Jvm.ClassFile.FieldType), Jvm.Cond.code ({ cls := "java/lang/Object", name := "<init>", desc := "()V" } : Jvm.MethodName) object_method_1_code (1 : Nat) (Option.none : Option Jvm.ClassFile.FieldType), Jvm.Cond.code ({ cls := "com/example/skew/skew/Workers", name := "checked", desc := "(I)I" } : Jvm.MethodName) prog_34_method_2_code (1 : Nat) (Option.some Jvm.ClassFile.FieldType.int), Jvm.Cond.code ({ cls := "com/example/skew/skew/SourceLoad", name := "leastLoadedWorker", desc := "()I" } : Jvm.MethodName) prog_30_method_5_code (1 : Nat) (Option.some Jvm.ClassFile.FieldType.int), Jvm.Cond.code ({ cls := "com/example/skew/skew/SourceLoadLeastLoadedWorkerPinLaw", name := "argmin", desc := "([JI)I" } : Jvm.MethodName) method_4_code (3 : Nat) (Option.some Jvm.ClassFile.FieldType.int), Jvm.Cond.code ({ cls := "com/example/skew/skew/SourceLoadLeastLoadedWorkerPinLaw", name := "step", desc := "(Lcom/example/skew/skew/SourceLoad;[JII)V" } : Jvm.MethodName) method_3_code (5 : Nat) (Option.none : Option Jvm.ClassFile.FieldType), Jvm.Cond.code ({ cls := "com/example/skew/skew/SourceLoad", name := "send", desc := "(I)I" } : Jvm.MethodName) prog_30_method_7_code (2 : Nat) (Option.some Jvm.ClassFile.FieldType.int), Jvm.Cond.code ({ cls := "java/lang/Math", name := "max", desc := "(JJ)J" } : Jvm.MethodName) jdk_29_method_66_code (4 : Nat) (Option.some Jvm.ClassFile.FieldType.long)]
set_option maxRecDepth 65536 in
theorem codes_eq : words1.filter isCode = codes1 := rfl
theorem w_codes : ∀ c ∈ words1.filter isCode, c.before args0 about1 = true := by
  rw [codes_eq]
  intro c hc
  simp only [codes1, List.mem_cons, List.not_mem_nil, or_false] at hc
  rcases hc with rfl | rfl | rfl | rfl | rfl | rfl | rfl | rfl | rfl
  · exact w_c0
  · exact w_c1
  · exact w_c2
  · exact w_c3
  · exact w_c4
  · exact w_c5
  · exact w_c6
  · exact w_c7
  · exact w_c8
set_option maxRecDepth 65536 in
theorem w_t1 : (words1.take 24).all (fun c => isCode c || c.before args0 about1) = true := by decide +kernel
set_option maxRecDepth 65536 in
theorem w_t2 : (words1.drop 24).all (fun c => isCode c || c.before args0 about1) = true := by decide +kernel
theorem w_tables : (allAtoms (Jvm.Cond.code x code maxLocals ret :: tables_1)).before args0 about1 = true := by
  rw [allAtoms_all]
  show words1.all (fun c => c.before args0 about1) = true
  refine all_split ?_ w_codes
  rw [← List.take_append_drop 24 words1, List.all_append, w_t1, w_t2]
  rfl
set_option maxRecDepth 65536 in
theorem w_case : (Jvm.Cond.and given_1 narrow_1).before args0 about1 = true := by decide +kernel
theorem w_applies : (headSpec (Jvm.Cond.code x code maxLocals ret :: tables_1) room_1).applies x e0.platform about1 = true :=
  (Spec.applies_iff w_frames).mpr ⟨w_running, w_runnable, w_alone, w_named, w_hears, w_ripe, w_room, w_tables⟩
theorem atStart : AtStart classFile x code maxLocals ret World_1 tables_1 room_1 Calls_1 rest_1 Pre_1 launch0 p0 e0 about1 theMethod args0 below0 :=
  ⟨lists_1, trivial, launch0.admits_env _ _ _, launch0.least_env, fairChoices_fair.cas, fairChoices_fair.clock, w_frames, w_args, w_heap, w_applies, trivial, trivial, w_case⟩
end start1
theorem witness_1 : WitnessClaimed_1 := ⟨start1.p0, start1.e0, start1.about1, start1.theMethod, start1.args0, start1.below0, start1.atStart⟩
end Jvm.Pilot.@@N@@
