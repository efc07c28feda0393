import JvmDerived
import JvmDerived.Pilot.@@N@@Statement
import JvmDerived.Pilot.@@N@@Code
set_option linter.unusedVariables false
set_option linter.unusedSimpArgs false
@@BLOCK:NumsL.lean.txt@@
namespace Jvm.OwnGo
open Jvm Sem ClassFile Op Lib Jvm.Stand Jvm.Free Jvm.LawKit Jvm.RoadKit
/-! ## 1. plain values: a reference is a place in the list of the objects that the law has made -/
def sv (n0 : Nat) : Value → Value
  | .ref a => .ref (n0 + a)
  | .int x => .int x
  | .long x => .long x
  | .null => .null
  | .float x => .float x
  | .double x => .double x
  | .retAddr x => .retAddr x
def ss (n0 : Nat) : Slot → Slot
  | .val v => .val (sv n0 v)
  | .unset => .unset
  | .second => .second
abbrev Obj := (String × List (String × String × Value)) ⊕ (FieldType × List Value)
abbrev Hp := List Obj
abbrev Ctx := Launch × State × Array Value × Nat
abbrev Mt := MethodName × ByteArray × Nat × Option FieldType
abbrev Res := Option Value × Option Hp × Nat × Nat
abbrev LL (n0 : Nat) (ls : List Slot) : Array Slot := (ls.map (ss n0)).toArray
abbrev SS (n0 : Nat) (st : List Value) : List Value := st.map (sv n0)
theorem sv_cat (n0 : Nat) (v : Value) : (sv n0 v).category = v.category := by cases v <;> rfl
theorem sv_ref (n0 : Nat) (v : Value) : (sv n0 v).isRef = v.isRef := by cases v <;> rfl
theorem LL_get {n0 : Nat} {ls : List Slot} {k : Nat} {x : Slot} (h : ls[k]? = some x) : (LL n0 ls)[k]? = some (ss n0 x) := by simp [LL, h]
theorem LL_size (n0 : Nat) (ls : List Slot) : (LL n0 ls).size = ls.length := by simp [LL]
theorem cats (n0 : Nat) (st : List Value) : ((SS n0 st).map fun v => v.category).sum = (st.map fun v => v.category).sum := by
  induction st with
  | nil => rfl
  | cons v r ih => simp only [SS, List.map_cons, List.sum_cons, sv_cat] at ih ⊢; rw [ih]
/-! ## 2. what an object of the list is in the heap -/
def COk (Z : State) (a0 : Array Value) (n0 : Nat) (h : Heap) (a : Addr) : Obj → Prop
  | .inl o => Exa Z h a o.1 ∧ (o.2.map (fun f => f.1)).Nodup ∧ ∀ f ∈ o.2, Laid Z a0 o.1 o.1 f.1 f.2.1 ∧ (∃ ty, parseFieldDescriptor f.2.1 = some ty) ∧ Fld Z h a o.1 f.1 f.2.1 (sv n0 f.2.2)
  | .inr o => Exa Z h a ("[" ++ o.1.toString) ∧ ∃ c : Cell, Arr Z h a c o.1 ∧ c.slots = (o.2.map (sv n0)).toArray
def Sim (K : Ctx) (h : Heap) (H : Hp) : Prop := h.size = K.2.2.2 + H.length ∧ ∀ (i : Nat) (o : Obj), H[i]? = some o → COk K.2.1 K.2.2.1 K.2.2.2 h (K.2.2.2 + i) o
theorem COk.ext {Z : State} {a0 : Array Value} {n0 : Nat} {h h' : Heap} {a : Addr} {o : Obj} (E : Ext h h') (C : COk Z a0 n0 h a o) : COk Z a0 n0 h' a o := by
  cases o with
  | inl o => exact ⟨C.1.ext E, C.2.1, fun f hf => ⟨(C.2.2 f hf).1, (C.2.2 f hf).2.1, (C.2.2 f hf).2.2.ext E⟩⟩
  | inr o => obtain ⟨e0, c, A, q⟩ := C; exact ⟨e0.ext E, c, A.ext E, q⟩
theorem COk.other {Z : State} {a0 : Array Value} {n0 : Nat} {h h' : Heap} {a b : Addr} {o : Obj} {sl : Nat} {v : Value} (W : Wr h h' b sl v) (ne : a ≠ b) (C : COk Z a0 n0 h a o) : COk Z a0 n0 h' a o := by
  cases o with
  | inl o => exact ⟨C.1.wr W, C.2.1, fun f hf => ⟨(C.2.2 f hf).1, (C.2.2 f hf).2.1, (C.2.2 f hf).2.2.other W (Or.inl ne)⟩⟩
  | inr o => obtain ⟨e0, c, A, q⟩ := C; exact ⟨e0.wr W, c, A.other W ne, q⟩
theorem Sim.push {K : Ctx} {h h' : Heap} {H : Hp} {o : Obj} (S : Sim K h H) (E : Ext h h') (hs : h'.size = h.size + 1) (C : COk K.2.1 K.2.2.1 K.2.2.2 h' (K.2.2.2 + H.length) o) : Sim K h' (H ++ [o]) := by
  refine ⟨by rw [hs, S.1, List.length_append]; rfl, fun i o' hi => ?_⟩
  by_cases q : i < H.length
  · rw [List.getElem?_append_left q] at hi
    exact (S.2 i o' hi).ext E
  · have hl := (List.getElem?_eq_some_iff.mp hi).1
    rw [List.length_append, List.length_singleton] at hl
    obtain rfl : i = H.length := by omega
    rw [List.getElem?_append_right (Nat.le_refl _), Nat.sub_self] at hi
    cases hi
    exact C
theorem Sim.set {K : Ctx} {h h' : Heap} {H : Hp} {o o' : Obj} {i sl : Nat} {v : Value} (S : Sim K h H) (W : Wr h h' (K.2.2.2 + i) sl v) (hi : H[i]? = some o) (C : COk K.2.1 K.2.2.1 K.2.2.2 h' (K.2.2.2 + i) o') : Sim K h' (H.set i o') := by
  refine ⟨by rw [W.size, S.1, List.length_set], fun j u hj => ?_⟩
  by_cases q : j = i
  · subst q
    rw [List.getElem?_set_self (List.getElem?_eq_some_iff.mp hi).1] at hj
    cases hj
    exact C
  · rw [List.getElem?_set_ne (Ne.symm q)] at hj
    exact (S.2 j u hj).other W (fun z => q (Nat.add_left_cancel z))
/-! ## 3. 'Go': from here the invocation comes to its end with r: the value, the objects, at the most so many cells and slots made -/
def FinH (K : Ctx) (h : Heap) (o : Option Hp) : Prop := ∀ H', o = some H' → Sim K h H'
def HOk (H : Hp) (o : Option Hp) : Prop := ∀ H', o = some H' → H = H'
theorem HOk.any {H : Hp} : HOk H none := fun _ h => nomatch h
theorem HOk.eq {H H' : Hp} (h : H = H') : HOk H (some H') := fun _ e => h.trans (Option.some.inj e)
theorem HOk.fin {K : Ctx} {h : Heap} {H : Hp} {o : Option Hp} (q : HOk H o) (S : Sim K h H) : FinH K h o := fun H' e => q H' e ▸ S
def Go (K : Ctx) (M : Mt) (F Lo : Nat) (pc : Nat) (ls : List Slot) (st : List Value) (H : Hp) (r : Res) : Prop :=
  ∀ (R : Room) (cells slots : Nat) (p : Program) (e : Env) (s : State) (m : MethodId) (args : Array Value) (below : List Frame) (meth : Method) (c : Code) (T : State) (locs : List Loc),
    F ≤ R.frames → Lo ≤ R.locals → cells + r.2.2.1 ≤ R.cells → slots + r.2.2.2 ≤ R.slots → p.tables.exec = Jvm.exec → K.2.1.Warmed39 s.vm → c.code = M.2.1 → c.maxLocals = M.2.2.1 → meth.sig.returnType = M.2.2.2 → meth.locks = false → s.vm.findClass M.1.cls = some m.cls → meth.name = M.1.name →
    Stand p K.1 e R s m args below meth c T locs cells slots → Sim K T.heap H → Fr K.2.2.2 locs →
    ∃ (s₂ : State) (L : List Loc), Steps p.tables e below (T.setTop (mkF m pc (LL K.2.2.2 ls) (SS K.2.2.2 st))) s₂ ∧ s₂.status = .running ∧ Ended s₂ below (.returned (r.1.map (sv K.2.2.2))) ∧ FinH K s₂.heap r.2.1 ∧ Fr K.2.2.2 L ∧ FrameEnd s (.returned (r.1.map (sv K.2.2.2))) s₂ L (cells + r.2.2.1) (slots + r.2.2.2)
def Dec (M : Mt) (pc : Nat) (i : Instr) (n pc' : Nat) : Prop := decode M.2.1 pc = .ok (i, n) ∧ pc + n = pc'
def Jmp (pc : Nat) (o : Int) (pc' : Nat) : Prop := 0 ≤ (pc : Int) + o ∧ ((pc : Int) + o).toNat = pc'
instance (M : Mt) (pc : Nat) (i : Instr) (n pc' : Nat) : Decidable (Dec M pc i n pc') := inferInstanceAs (Decidable (_ ∧ _))
instance (pc : Nat) (o : Int) (pc' : Nat) : Decidable (Jmp pc o pc') := inferInstanceAs (Decidable (_ ∧ _))
section G
variable {K : Ctx} {M : Mt} {F Lo pc pc' pt : Nat} {ls ls' : List Slot} {st st' : List Value} {H : Hp} {r : Res}
theorem Go.mono {F' Lo' : Nat} {rv : Option Value} {H' : Option Hp} {dc ds dc' ds' : Nat} (h : Go K M F Lo pc ls st H (rv, H', dc, ds)) (h1 : F ≤ F') (h2 : Lo ≤ Lo') (h3 : dc ≤ dc') (h4 : ds ≤ ds') : Go K M F' Lo' pc ls st H (rv, H', dc', ds') := by
  intro R cells slots p e s m args below meth c T locs a1 a2 a3 a4 b1 b2 b3 b4 b5 b6 b7 b8 X S N
  obtain ⟨s₂, L, q1, q2, q3, q4, q5, q6⟩ := h R cells slots p e s m args below meth c T locs (Nat.le_trans h1 a1) (Nat.le_trans h2 a2) (Nat.le_trans (Nat.add_le_add_left h3 _) a3) (Nat.le_trans (Nat.add_le_add_left h4 _) a4) b1 b2 b3 b4 b5 b6 b7 b8 X S N
  exact ⟨s₂, L, q1, q2, q3, q4, q5, q6.1, q6.2.1, q6.2.2.mono (Nat.add_le_add_left h3 _) (Nat.add_le_add_left h4 _)⟩
theorem Go.cast {r' : Res} (h : Go K M F Lo pc ls st H r) (e : r = r') : Go K M F Lo pc ls st H r' := e ▸ h
theorem Go.pureS (hs : ∀ {p : Program} {e : Env} {below : List Frame} {T target : State} {m : MethodId} {c : Code}, At T m c below → p.tables.exec = Jvm.exec → c.code = M.2.1 → Steps p.tables e below (T.setTop (mkF m pc' (LL K.2.2.2 ls') (SS K.2.2.2 st'))) target → Steps p.tables e below (T.setTop (mkF m pc (LL K.2.2.2 ls) (SS K.2.2.2 st))) target)
    (h : Go K M F Lo pc' ls' st' H r) : Go K M F Lo pc ls st H r := by
  intro R cells slots p e s m args below meth c T locs a1 a2 a3 a4 b1 b2 b3 b4 b5 b6 b7 b8 X S N
  obtain ⟨s₂, L, q1, q⟩ := h R cells slots p e s m args below meth c T locs a1 a2 a3 a4 b1 b2 b3 b4 b5 b6 b7 b8 X S N
  exact ⟨s₂, L, hs X.here b1 b3 q1, q⟩
theorem Dec.at {M : Mt} {pc n pc' : Nat} {i : Instr} (d : Dec M pc i n pc') {c : Code} (hc : c.code = M.2.1) : decode c.code pc = .ok (i, n) := hc ▸ d.1
/-! ## 4. one law a plain instruction -/
theorem rem_mod (x y : Int32) : x - (x / y) * y = x % y := irem_eq_mod x y
def setM (n0 : Nat) (A : Array Slot) : Array Slot := A.map (ss n0)
theorem setAt_map (n0 : Nat) (A : Array Slot) (i : Nat) (x : Slot) : setAt (setM n0 A) i (ss n0 x) = (setAt A i x).map (setM n0) := by
  simp only [setAt, setM, Array.size_map]
  split
  · show some ((A.map (ss n0)).setIfInBounds i (ss n0 x)) = some ((A.setIfInBounds i x).map (ss n0))
    rw [Array.map_setIfInBounds]
  · rfl
theorem setM_get (n0 : Nat) (A : Array Slot) (i : Nat) : (setM n0 A)[i]? = (A[i]?).map (ss n0) := by simp [setM]
theorem storeSelf_map (n0 : Nat) (A : Array Slot) (i : Nat) (v : Value) : storeSelf (setM n0 A) i (sv n0 v) = (storeSelf A i v).map (setM n0) := by
  have e0 : setAt (setM n0 A) i (.val (sv n0 v)) = (setAt A i (.val v)).map (setM n0) := setAt_map n0 A i (.val v)
  have eu : ∀ B j, setAt (setM n0 B) j .unset = (setAt B j .unset).map (setM n0) := fun B j => setAt_map n0 B j .unset
  have es : ∀ B j, setAt (setM n0 B) j .second = (setAt B j .second).map (setM n0) := fun B j => setAt_map n0 B j .second
  simp only [storeSelf, e0, sv_cat]
  cases setAt A i (.val v) with
  | none => rfl
  | some B =>
    simp only [Option.map_some, Option.bind_eq_bind, Option.bind_some, setM_get]
    split
    · cases B[i + 1]? with
      | none => rfl
      | some x =>
        cases x with
        | unset => simp only [Option.map_some, Option.bind_some, ss, es]
        | second => simp only [Option.map_some, Option.bind_some, ss, es]
        | val w =>
          simp only [Option.map_some, Option.bind_some, ss, sv_cat]
          split
          · rw [eu]
            cases setAt B (i + 2) .unset with
            | none => rfl
            | some D => simp only [Option.map_some, Option.bind_some, es]
          · rw [es]
    · rfl
theorem storeLocals_map (n0 : Nat) (A : Array Slot) (i : Nat) (v : Value) : storeLocals (setM n0 A) i (sv n0 v) = (storeLocals A i v).map (setM n0) := by
  have eu : ∀ B j, setAt (setM n0 B) j .unset = (setAt B j .unset).map (setM n0) := fun B j => setAt_map n0 B j .unset
  simp only [storeLocals, setM_get, Option.bind_eq_bind]
  cases A[i]? with
  | none => rfl
  | some x =>
    cases x with
    | unset => simp only [Option.map_some, Option.bind_some, ss, storeSelf_map]
    | second =>
      simp only [Option.map_some, Option.bind_some, ss, eu]
      cases setAt A (i - 1) .unset with
      | none => rfl
      | some D => simp only [Option.map_some, Option.bind_some, storeSelf_map]
    | val w =>
      simp only [Option.map_some, Option.bind_some, ss, sv_cat]
      split
      · rw [eu]
        cases setAt A (i + 1) .unset with
        | none => rfl
        | some D => simp only [Option.map_some, Option.bind_some, storeSelf_map]
      · rw [storeSelf_map]
def stl (ls : List Slot) (k : Nat) (v : Value) : Option (List Slot) := (storeLocals ls.toArray k v).map Array.toList
theorem stl_ok {n0 : Nat} {ls ls' : List Slot} {k : Nat} {v : Value} (h : stl ls k v = some ls') : storeLocals (LL n0 ls) k (sv n0 v) = some (LL n0 ls') := by
  have e : LL n0 ls = setM n0 ls.toArray := by simp [LL, setM]
  rw [e, storeLocals_map]
  simp only [stl] at h
  cases hq : storeLocals ls.toArray k v with
  | none => rw [hq] at h; cases h
  | some B =>
    rw [hq] at h
    cases h
    show some (setM n0 B) = some (LL n0 B.toList)
    congr 1
    apply Array.toList_inj.mp
    simp [LL, setM]
theorem Go.iloadN {k : Fin 4} {v : Int32} (hd : Dec M pc (.iload_n k) 1 pc') (hl : ls[k.val]? = some (.val (.int v))) (h : Go K M F Lo pc' ls (.int v :: st) H r) : Go K M F Lo pc ls st H r := by
  obtain ⟨hd, rfl⟩ := hd
  exact h.pureS fun A hx hc k => XS.iloadN A hx rfl (hc ▸ hd) (LL_get hl) k
theorem Go.iload {k : Nat} {v : Int32} (hd : Dec M pc (.iload k) 2 pc') (hl : ls[k]? = some (.val (.int v))) (h : Go K M F Lo pc' ls (.int v :: st) H r) : Go K M F Lo pc ls st H r := by
  obtain ⟨hd, rfl⟩ := hd
  exact h.pureS fun A hx hc k => XS.iload A hx rfl (hc ▸ hd) (LL_get hl) k
theorem Go.istoreN {k : Fin 4} {v : Int32} (hd : Dec M pc (.istore_n k) 1 pc') (hl : stl ls k.val (.int v) = some ls') (h : Go K M F Lo pc' ls' st H r) : Go K M F Lo pc ls (.int v :: st) H r := by
  obtain ⟨hd, rfl⟩ := hd
  exact h.pureS fun A hx hc k => XS.istoreN A hx rfl (hc ▸ hd) rfl (stl_ok (n0 := K.2.2.2) hl) k
theorem Go.istore {k : Nat} {v : Int32} (hd : Dec M pc (.istore k) 2 pc') (hl : stl ls k (.int v) = some ls') (h : Go K M F Lo pc' ls' st H r) : Go K M F Lo pc ls (.int v :: st) H r := by
  obtain ⟨hd, rfl⟩ := hd
  exact h.pureS fun A hx hc k => XS.istore A hx rfl (hc ▸ hd) rfl (stl_ok (n0 := K.2.2.2) hl) k
theorem Go.lloadN {k : Fin 4} {v : Int64} (hd : Dec M pc (.lload_n k) 1 pc') (hl : ls[k.val]? = some (.val (.long v))) (h : Go K M F Lo pc' ls (.long v :: st) H r) : Go K M F Lo pc ls st H r := by
  obtain ⟨hd, rfl⟩ := hd
  exact h.pureS fun A hx hc k => XT.lloadN A hx rfl (hc ▸ hd) (LL_get hl) k
theorem Go.lload {k : Nat} {v : Int64} (hd : Dec M pc (.lload k) 2 pc') (hl : ls[k]? = some (.val (.long v))) (h : Go K M F Lo pc' ls (.long v :: st) H r) : Go K M F Lo pc ls st H r := by
  obtain ⟨hd, rfl⟩ := hd
  exact h.pureS fun A hx hc k => XT.lload A hx rfl (hc ▸ hd) (LL_get hl) k
theorem Go.lstoreN {k : Fin 4} {v : Int64} (hd : Dec M pc (.lstore_n k) 1 pc') (hl : stl ls k.val (.long v) = some ls') (h : Go K M F Lo pc' ls' st H r) : Go K M F Lo pc ls (.long v :: st) H r := by
  obtain ⟨hd, rfl⟩ := hd
  exact h.pureS fun A hx hc k => XT.lstoreN A hx rfl (hc ▸ hd) rfl (stl_ok (n0 := K.2.2.2) hl) k
theorem Go.lstore {k : Nat} {v : Int64} (hd : Dec M pc (.lstore k) 2 pc') (hl : stl ls k (.long v) = some ls') (h : Go K M F Lo pc' ls' st H r) : Go K M F Lo pc ls (.long v :: st) H r := by
  obtain ⟨hd, rfl⟩ := hd
  exact h.pureS fun A hx hc k => XT.lstore A hx rfl (hc ▸ hd) rfl (stl_ok (n0 := K.2.2.2) hl) k
theorem Go.aloadN {k : Fin 4} {v : Value} (hd : Dec M pc (.aload_n k) 1 pc') (hl : ls[k.val]? = some (.val v)) (hv : v.isRef = true) (h : Go K M F Lo pc' ls (v :: st) H r) : Go K M F Lo pc ls st H r := by
  obtain ⟨hd, rfl⟩ := hd
  exact h.pureS fun A hx hc k => XS.aloadN A hx rfl (hc ▸ hd) (LL_get hl) (by rw [sv_ref]; exact hv) k
theorem Go.aload {k : Nat} {v : Value} (hd : Dec M pc (.aload k) 2 pc') (hl : ls[k]? = some (.val v)) (hv : v.isRef = true) (h : Go K M F Lo pc' ls (v :: st) H r) : Go K M F Lo pc ls st H r := by
  obtain ⟨hd, rfl⟩ := hd
  exact h.pureS fun A hx hc k => XS.aload A hx rfl (hc ▸ hd) (LL_get hl) (by rw [sv_ref]; exact hv) k
theorem Go.astoreN {k : Fin 4} {v : Value} (hd : Dec M pc (.astore_n k) 1 pc') (hl : stl ls k.val v = some ls') (hv : v.isRef = true) (h : Go K M F Lo pc' ls' st H r) : Go K M F Lo pc ls (v :: st) H r := by
  obtain ⟨hd, rfl⟩ := hd
  exact h.pureS fun A hx hc k => XS.astoreN A hx rfl (hc ▸ hd) rfl (by rw [sv_ref]; exact hv) (stl_ok (n0 := K.2.2.2) hl) k
theorem Go.astore {k : Nat} {v : Value} (hd : Dec M pc (.astore k) 2 pc') (hl : stl ls k v = some ls') (hv : v.isRef = true) (h : Go K M F Lo pc' ls' st H r) : Go K M F Lo pc ls (v :: st) H r := by
  obtain ⟨hd, rfl⟩ := hd
  exact h.pureS fun A hx hc k => XS.astore A hx rfl (hc ▸ hd) rfl (by rw [sv_ref]; exact hv) (stl_ok (n0 := K.2.2.2) hl) k
theorem Go.iconst {i : Int} {v : Int32} (hd : Dec M pc (.iconst i) 1 pc') (hv : Int32.ofInt i = v) (h : Go K M F Lo pc' ls (.int v :: st) H r) : Go K M F Lo pc ls st H r := by
  obtain ⟨hd, rfl⟩ := hd
  exact h.pureS fun A hx hc k => XT.iconstV A hx rfl v (hc ▸ hd) hv k
theorem Go.bipush {i : Int} {v : Int32} (hd : Dec M pc (.bipush i) 2 pc') (hv : (Int8.ofInt i).toInt32 = v) (h : Go K M F Lo pc' ls (.int v :: st) H r) : Go K M F Lo pc ls st H r := by
  obtain ⟨hd, rfl⟩ := hd
  exact h.pureS fun A hx hc k => XT.bipushV A hx rfl v (hc ▸ hd) hv k
theorem Go.sipush {i : Int} {v : Int32} (hd : Dec M pc (.sipush i) 3 pc') (hv : (Int16.ofInt i).toInt32 = v) (h : Go K M F Lo pc' ls (.int v :: st) H r) : Go K M F Lo pc ls st H r := by
  obtain ⟨hd, rfl⟩ := hd
  exact h.pureS fun A hx hc k => XT.sipushV A hx rfl v (hc ▸ hd) hv k
theorem Go.lconst {i : Fin 2} {v : Int64} (hd : Dec M pc (.lconst i) 1 pc') (hv : Int64.ofNat i = v) (h : Go K M F Lo pc' ls (.long v :: st) H r) : Go K M F Lo pc ls st H r := by
  obtain ⟨hd, rfl⟩ := hd
  exact h.pureS fun A hx hc k => XT.lconstV A hx rfl v (hc ▸ hd) hv k
theorem Go.aconstNull  (hd : Dec M pc .aconst_null 1 pc') (h : Go K M F Lo pc' ls (.null :: st) H r) : Go K M F Lo pc ls st H r := by
  obtain ⟨hd, rfl⟩ := hd
  exact h.pureS fun A hx hc k => XS.aconstNull A hx rfl (hc ▸ hd) k
theorem Go.iadd {x y : Int32} (hd : Dec M pc .iadd 1 pc') (h : Go K M F Lo pc' ls (.int (x + y) :: st) H r) : Go K M F Lo pc ls (.int y :: .int x :: st) H r := by
  obtain ⟨hd, rfl⟩ := hd
  exact h.pureS fun A hx hc k => XS.iadd A hx rfl (hc ▸ hd) rfl k
theorem Go.isub {x y : Int32} (hd : Dec M pc .isub 1 pc') (h : Go K M F Lo pc' ls (.int (x - y) :: st) H r) : Go K M F Lo pc ls (.int y :: .int x :: st) H r := by
  obtain ⟨hd, rfl⟩ := hd
  exact h.pureS fun A hx hc k => XS.isub A hx rfl (hc ▸ hd) rfl k
theorem Go.imul {x y : Int32} (hd : Dec M pc .imul 1 pc') (h : Go K M F Lo pc' ls (.int (x * y) :: st) H r) : Go K M F Lo pc ls (.int y :: .int x :: st) H r := by
  obtain ⟨hd, rfl⟩ := hd
  exact h.pureS fun A hx hc k => XS.imul A hx rfl (hc ▸ hd) rfl k
theorem Go.iand {x y : Int32} (hd : Dec M pc .iand 1 pc') (h : Go K M F Lo pc' ls (.int (x &&& y) :: st) H r) : Go K M F Lo pc ls (.int y :: .int x :: st) H r := by
  obtain ⟨hd, rfl⟩ := hd
  exact h.pureS fun A hx hc k => XS.iand A hx rfl (hc ▸ hd) rfl k
theorem Go.ior {x y : Int32} (hd : Dec M pc .ior 1 pc') (h : Go K M F Lo pc' ls (.int (x ||| y) :: st) H r) : Go K M F Lo pc ls (.int y :: .int x :: st) H r := by
  obtain ⟨hd, rfl⟩ := hd
  exact h.pureS fun A hx hc k => XT.ior A hx rfl (hc ▸ hd) rfl k
theorem Go.ixor {x y : Int32} (hd : Dec M pc .ixor 1 pc') (h : Go K M F Lo pc' ls (.int (x ^^^ y) :: st) H r) : Go K M F Lo pc ls (.int y :: .int x :: st) H r := by
  obtain ⟨hd, rfl⟩ := hd
  exact h.pureS fun A hx hc k => XT.ixor A hx rfl (hc ▸ hd) rfl k
theorem Go.ishl {x y : Int32} (hd : Dec M pc .ishl 1 pc') (h : Go K M F Lo pc' ls (.int (x <<< (y &&& 31)) :: st) H r) : Go K M F Lo pc ls (.int y :: .int x :: st) H r := by
  obtain ⟨hd, rfl⟩ := hd
  exact h.pureS fun A hx hc k => XT.ishl A hx rfl (hc ▸ hd) rfl k
theorem Go.ishr {x y : Int32} (hd : Dec M pc .ishr 1 pc') (h : Go K M F Lo pc' ls (.int (x >>> (y &&& 31)) :: st) H r) : Go K M F Lo pc ls (.int y :: .int x :: st) H r := by
  obtain ⟨hd, rfl⟩ := hd
  exact h.pureS fun A hx hc k => XT.ishr A hx rfl (hc ▸ hd) rfl k
theorem Go.iushr {x y : Int32} (hd : Dec M pc .iushr 1 pc') (h : Go K M F Lo pc' ls (.int (XT.ushr x y) :: st) H r) : Go K M F Lo pc ls (.int y :: .int x :: st) H r := by
  obtain ⟨hd, rfl⟩ := hd
  exact h.pureS fun A hx hc k => XT.iushr A hx rfl (hc ▸ hd) rfl k
theorem Go.irem {x y : Int32} (hd : Dec M pc .irem 1 pc') (hy : y ≠ 0) (h : Go K M F Lo pc' ls (.int (x % y) :: st) H r) : Go K M F Lo pc ls (.int y :: .int x :: st) H r := by
  obtain ⟨hd, rfl⟩ := hd
  exact h.pureS fun A hx hc k => XS.irem A hx rfl (hc ▸ hd) rfl hy (by rw [rem_mod]; exact k)
theorem Go.idiv {x y : Int32} (hd : Dec M pc .idiv 1 pc') (hy : y ≠ 0) (h : Go K M F Lo pc' ls (.int (x / y) :: st) H r) : Go K M F Lo pc ls (.int y :: .int x :: st) H r := by
  obtain ⟨hd, rfl⟩ := hd
  exact h.pureS fun A hx hc k => XS.idiv A hx rfl (hc ▸ hd) rfl hy k
theorem Go.ineg {x : Int32} (hd : Dec M pc .ineg 1 pc') (h : Go K M F Lo pc' ls (.int (-x) :: st) H r) : Go K M F Lo pc ls (.int x :: st) H r := by
  obtain ⟨hd, rfl⟩ := hd
  exact h.pureS fun A hx hc k => XS.ineg A hx rfl (hc ▸ hd) rfl k
theorem Go.iinc {i : Nat} {cst : Int} {v x : Int32} (hd : Dec M pc (.iinc i cst) 3 pc') (hv : Int32.ofInt cst = v) (hl : ls[i]? = some (.val (.int x))) (hl' : stl ls i (.int (x + v)) = some ls') (h : Go K M F Lo pc' ls' st H r) : Go K M F Lo pc ls st H r := by
  obtain ⟨hd, rfl⟩ := hd
  exact h.pureS fun A hx hc k => XT.iincV A hx rfl v (hc ▸ hd) hv (LL_get hl) (stl_ok (n0 := K.2.2.2) hl') k
theorem Go.ladd {x y : Int64} (hd : Dec M pc .ladd 1 pc') (h : Go K M F Lo pc' ls (.long (x + y) :: st) H r) : Go K M F Lo pc ls (.long y :: .long x :: st) H r := by
  obtain ⟨hd, rfl⟩ := hd
  exact h.pureS fun A hx hc k => XT.ladd A hx rfl (hc ▸ hd) rfl k
theorem Go.lsub {x y : Int64} (hd : Dec M pc .lsub 1 pc') (h : Go K M F Lo pc' ls (.long (x - y) :: st) H r) : Go K M F Lo pc ls (.long y :: .long x :: st) H r := by
  obtain ⟨hd, rfl⟩ := hd
  exact h.pureS fun A hx hc k => XT.lsub A hx rfl (hc ▸ hd) rfl k
theorem Go.lmul {x y : Int64} (hd : Dec M pc .lmul 1 pc') (h : Go K M F Lo pc' ls (.long (x * y) :: st) H r) : Go K M F Lo pc ls (.long y :: .long x :: st) H r := by
  obtain ⟨hd, rfl⟩ := hd
  exact h.pureS fun A hx hc k => XT.lmul A hx rfl (hc ▸ hd) rfl k
theorem Go.land {x y : Int64} (hd : Dec M pc .land 1 pc') (h : Go K M F Lo pc' ls (.long (x &&& y) :: st) H r) : Go K M F Lo pc ls (.long y :: .long x :: st) H r := by
  obtain ⟨hd, rfl⟩ := hd
  exact h.pureS fun A hx hc k => XT.land A hx rfl (hc ▸ hd) rfl k
theorem Go.lor {x y : Int64} (hd : Dec M pc .lor 1 pc') (h : Go K M F Lo pc' ls (.long (x ||| y) :: st) H r) : Go K M F Lo pc ls (.long y :: .long x :: st) H r := by
  obtain ⟨hd, rfl⟩ := hd
  exact h.pureS fun A hx hc k => XT.lor A hx rfl (hc ▸ hd) rfl k
theorem Go.lxor {x y : Int64} (hd : Dec M pc .lxor 1 pc') (h : Go K M F Lo pc' ls (.long (x ^^^ y) :: st) H r) : Go K M F Lo pc ls (.long y :: .long x :: st) H r := by
  obtain ⟨hd, rfl⟩ := hd
  exact h.pureS fun A hx hc k => XT.lxor A hx rfl (hc ▸ hd) rfl k
theorem Go.lshl {x : Int64} {y : Int32} (hd : Dec M pc .lshl 1 pc') (h : Go K M F Lo pc' ls (.long (x <<< (y.toInt64 &&& 63)) :: st) H r) : Go K M F Lo pc ls (.int y :: .long x :: st) H r := by
  obtain ⟨hd, rfl⟩ := hd
  exact h.pureS fun A hx hc k => XT.lshl A hx rfl (hc ▸ hd) rfl k
theorem Go.lshr {x : Int64} {y : Int32} (hd : Dec M pc .lshr 1 pc') (h : Go K M F Lo pc' ls (.long (x >>> (y.toInt64 &&& 63)) :: st) H r) : Go K M F Lo pc ls (.int y :: .long x :: st) H r := by
  obtain ⟨hd, rfl⟩ := hd
  exact h.pureS fun A hx hc k => XT.lshr A hx rfl (hc ▸ hd) rfl k
theorem Go.lushr {x : Int64} {y : Int32} (hd : Dec M pc .lushr 1 pc') (h : Go K M F Lo pc' ls (.long (XT.ushrL x y) :: st) H r) : Go K M F Lo pc ls (.int y :: .long x :: st) H r := by
  obtain ⟨hd, rfl⟩ := hd
  exact h.pureS fun A hx hc k => XT.lushr A hx rfl (hc ▸ hd) rfl k
theorem Go.lrem {x y : Int64} (hd : Dec M pc .lrem 1 pc') (hy : y ≠ 0) (h : Go K M F Lo pc' ls (.long (x % y) :: st) H r) : Go K M F Lo pc ls (.long y :: .long x :: st) H r := by
  obtain ⟨hd, rfl⟩ := hd
  exact h.pureS fun A hx hc k => XT.lrem A hx rfl (hc ▸ hd) rfl hy (by rw [lrem_mod]; exact k)
theorem Go.ldiv {x y : Int64} (hd : Dec M pc .ldiv 1 pc') (hy : y ≠ 0) (h : Go K M F Lo pc' ls (.long (x / y) :: st) H r) : Go K M F Lo pc ls (.long y :: .long x :: st) H r := by
  obtain ⟨hd, rfl⟩ := hd
  exact h.pureS fun A hx hc k => XT.ldiv A hx rfl (hc ▸ hd) rfl hy k
theorem Go.lneg {x : Int64} (hd : Dec M pc .lneg 1 pc') (h : Go K M F Lo pc' ls (.long (-x) :: st) H r) : Go K M F Lo pc ls (.long x :: st) H r := by
  obtain ⟨hd, rfl⟩ := hd
  exact h.pureS fun A hx hc k => XT.lneg A hx rfl (hc ▸ hd) rfl k
theorem Go.lcmp {x y : Int64} (hd : Dec M pc .lcmp 1 pc') (h : Go K M F Lo pc' ls (.int (XT.cmpL x y) :: st) H r) : Go K M F Lo pc ls (.long y :: .long x :: st) H r := by
  obtain ⟨hd, rfl⟩ := hd
  exact h.pureS fun A hx hc k => XT.lcmp A hx rfl (hc ▸ hd) rfl k
theorem Go.i2l {x : Int32} (hd : Dec M pc .i2l 1 pc') (h : Go K M F Lo pc' ls (.long x.toInt64 :: st) H r) : Go K M F Lo pc ls (.int x :: st) H r := by
  obtain ⟨hd, rfl⟩ := hd
  exact h.pureS fun A hx hc k => XT.i2l A hx rfl (hc ▸ hd) rfl k
theorem Go.l2i {x : Int64} (hd : Dec M pc .l2i 1 pc') (h : Go K M F Lo pc' ls (.int x.toInt32 :: st) H r) : Go K M F Lo pc ls (.long x :: st) H r := by
  obtain ⟨hd, rfl⟩ := hd
  exact h.pureS fun A hx hc k => XT.l2i A hx rfl (hc ▸ hd) rfl k
theorem Go.i2b {x : Int32} (hd : Dec M pc .i2b 1 pc') (h : Go K M F Lo pc' ls (.int x.toInt8.toInt32 :: st) H r) : Go K M F Lo pc ls (.int x :: st) H r := by
  obtain ⟨hd, rfl⟩ := hd
  exact h.pureS fun A hx hc k => XT.i2b A hx rfl (hc ▸ hd) rfl k
theorem Go.i2c {x : Int32} (hd : Dec M pc .i2c 1 pc') (h : Go K M F Lo pc' ls (.int x.toUInt32.toUInt16.toUInt32.toInt32 :: st) H r) : Go K M F Lo pc ls (.int x :: st) H r := by
  obtain ⟨hd, rfl⟩ := hd
  exact h.pureS fun A hx hc k => XT.i2c A hx rfl (hc ▸ hd) rfl k
theorem Go.i2s {x : Int32} (hd : Dec M pc .i2s 1 pc') (h : Go K M F Lo pc' ls (.int x.toInt16.toInt32 :: st) H r) : Go K M F Lo pc ls (.int x :: st) H r := by
  obtain ⟨hd, rfl⟩ := hd
  exact h.pureS fun A hx hc k => XT.i2s A hx rfl (hc ▸ hd) rfl k
theorem Go.pop {x : Value} (hd : Dec M pc .pop 1 pc') (hx1 : x.category = 1) (h : Go K M F Lo pc' ls st H r) : Go K M F Lo pc ls (x :: st) H r := by
  obtain ⟨hd, rfl⟩ := hd
  exact h.pureS fun A hx hc k => XT.pop A hx rfl (hc ▸ hd) rfl (by rw [sv_cat]; exact hx1) k
theorem Go.dup {x : Value} (hd : Dec M pc .dup 1 pc') (hx1 : x.category = 1) (h : Go K M F Lo pc' ls (x :: x :: st) H r) : Go K M F Lo pc ls (x :: st) H r := by
  obtain ⟨hd, rfl⟩ := hd
  exact h.pureS fun A hx hc k => XS.dup A hx rfl (hc ▸ hd) rfl (by rw [sv_cat]; exact hx1) k
theorem Go.dupX1 {x y : Value} (hd : Dec M pc .dup_x1 1 pc') (hx1 : x.category = 1) (hy1 : y.category = 1) (h : Go K M F Lo pc' ls (x :: y :: x :: st) H r) : Go K M F Lo pc ls (x :: y :: st) H r := by
  obtain ⟨hd, rfl⟩ := hd
  exact h.pureS fun A hx hc k => XT.dupX1 A hx rfl (hc ▸ hd) rfl (by rw [sv_cat]; exact hx1) (by rw [sv_cat]; exact hy1) k
theorem Go.dup2 {x y : Value} (hd : Dec M pc .dup2 1 pc') (hx1 : x.category = 1) (hy1 : y.category = 1) (h : Go K M F Lo pc' ls (x :: y :: x :: y :: st) H r) : Go K M F Lo pc ls (x :: y :: st) H r := by
  obtain ⟨hd, rfl⟩ := hd
  exact h.pureS fun A hx hc k => XT.dup2 A hx rfl (hc ▸ hd) rfl (by rw [sv_cat]; exact hx1) (by rw [sv_cat]; exact hy1) k
theorem Go.dup2L {x : Int64} (hd : Dec M pc .dup2 1 pc') (h : Go K M F Lo pc' ls (.long x :: .long x :: st) H r) : Go K M F Lo pc ls (.long x :: st) H r := by
  obtain ⟨hd, rfl⟩ := hd
  exact h.pureS fun A hx hc k => XT.dup2L A hx rfl (hc ▸ hd) rfl k
theorem hset_self {H : Hp} {i : Nat} {o o' : Obj} (h : H[i]? = some o) : (H.set i o')[i]? = some o' := List.getElem?_set_self (List.getElem?_eq_some_iff.mp h).1
theorem hset_ne {H : Hp} {i j : Nat} {o o' : Obj} (h : H[j]? = some o) (ne : i ≠ j) : (H.set i o')[j]? = some o := (List.getElem?_set_ne ne).trans h
theorem happ {H : Hp} {i : Nat} {o : Obj} (h : H[i]? = some o) (L : Hp) : (H ++ L)[i]? = some o := (List.getElem?_append_left (List.getElem?_eq_some_iff.mp h).1).trans h
theorem happ_last {H : Hp} {i : Nat} {o : Obj} (h : H.length = i) : (H ++ [o])[i]? = some o := by subst h; simp
theorem Go.goto {o : Int} (hd : Dec M pc (.goto o) 3 pc') (hj : Jmp pc o pt) (h : Go K M F Lo pt ls st H r) : Go K M F Lo pc ls st H r :=
  h.pureS fun A hx hc k => XS.goto A hx rfl rfl (hd.at hc) hj.1 hj.2 k
theorem Go.icmpT {cd : ClassFile.Cond} {x y : Int32} {o : Int} (hd : Dec M pc (.if_icmp cd o) 3 pc') (hj : Jmp pc o pt) (hv : if_icmp.holds cd x y = true) (h : Go K M F Lo pt ls st H r) : Go K M F Lo pc ls (.int y :: .int x :: st) H r :=
  h.pureS fun A hx hc k => XS.icmpYes A hx rfl rfl (hd.at hc) rfl hv hj.1 hj.2 k
theorem Go.icmpF {cd : ClassFile.Cond} {x y : Int32} {o : Int} (hd : Dec M pc (.if_icmp cd o) 3 pc') (hv : if_icmp.holds cd x y = false) (h : Go K M F Lo pc' ls st H r) : Go K M F Lo pc ls (.int y :: .int x :: st) H r := by
  obtain ⟨hd, rfl⟩ := hd
  exact h.pureS fun A hx hc k => XS.icmpNo A hx rfl (hc ▸ hd) rfl hv k
theorem Go.ifT {cd : ClassFile.Cond} {x : Int32} {o : Int} (hd : Dec M pc (.ifCond cd o) 3 pc') (hj : Jmp pc o pt) (hv : ifCond.holds cd x = true) (h : Go K M F Lo pt ls st H r) : Go K M F Lo pc ls (.int x :: st) H r :=
  h.pureS fun A hx hc k => XS.ifYes A hx rfl rfl (hd.at hc) rfl hv hj.1 hj.2 k
theorem Go.ifF {cd : ClassFile.Cond} {x : Int32} {o : Int} (hd : Dec M pc (.ifCond cd o) 3 pc') (hv : ifCond.holds cd x = false) (h : Go K M F Lo pc' ls st H r) : Go K M F Lo pc ls (.int x :: st) H r := by
  obtain ⟨hd, rfl⟩ := hd
  exact h.pureS fun A hx hc k => XS.ifNo A hx rfl (hc ▸ hd) rfl hv k
theorem Go.icmp_lt {x y : Int32} {o : Int} (hd : Dec M pc (.if_icmp .lt o) 3 pc') (hj : Jmp pc o pt) (hT : x < y → Go K M F Lo pt ls st H r) (hF : ¬ x < y → Go K M F Lo pc' ls st H r) : Go K M F Lo pc ls (.int y :: .int x :: st) H r := by
  by_cases q : x < y
  · exact Go.icmpT hd hj (XT.ii_lt_t q) (hT q)
  · exact Go.icmpF hd (XT.ii_lt_f q) (hF q)
theorem Go.if_lt {x : Int32} {o : Int} (hd : Dec M pc (.ifCond .lt o) 3 pc') (hj : Jmp pc o pt) (hT : x < 0 → Go K M F Lo pt ls st H r) (hF : ¬ x < 0 → Go K M F Lo pc' ls st H r) : Go K M F Lo pc ls (.int x :: st) H r := by
  by_cases q : x < 0
  · exact Go.ifT hd hj (XT.i0_lt_t q) (hT q)
  · exact Go.ifF hd (XT.i0_lt_f q) (hF q)
theorem Go.lif_lt {x y : Int64} {o : Int} (hd : Dec M pc (.ifCond .lt o) 3 pc') (hj : Jmp pc o pt) (hT : x < y → Go K M F Lo pt ls st H r) (hF : ¬ x < y → Go K M F Lo pc' ls st H r) : Go K M F Lo pc ls (.int (XT.cmpL x y) :: st) H r := by
  by_cases q : x < y
  · exact Go.ifT hd hj (XT.ll_lt_t q) (hT q)
  · exact Go.ifF hd (XT.ll_lt_f q) (hF q)
theorem Go.icmp_ge {x y : Int32} {o : Int} (hd : Dec M pc (.if_icmp .ge o) 3 pc') (hj : Jmp pc o pt) (hT : ¬ x < y → Go K M F Lo pt ls st H r) (hF : x < y → Go K M F Lo pc' ls st H r) : Go K M F Lo pc ls (.int y :: .int x :: st) H r := by
  by_cases q : x < y
  · exact Go.icmpF hd (XT.ii_ge_f q) (hF q)
  · exact Go.icmpT hd hj (XT.ii_ge_t q) (hT q)
theorem Go.if_ge {x : Int32} {o : Int} (hd : Dec M pc (.ifCond .ge o) 3 pc') (hj : Jmp pc o pt) (hT : ¬ x < 0 → Go K M F Lo pt ls st H r) (hF : x < 0 → Go K M F Lo pc' ls st H r) : Go K M F Lo pc ls (.int x :: st) H r := by
  by_cases q : x < 0
  · exact Go.ifF hd (XT.i0_ge_f q) (hF q)
  · exact Go.ifT hd hj (XT.i0_ge_t q) (hT q)
theorem Go.lif_ge {x y : Int64} {o : Int} (hd : Dec M pc (.ifCond .ge o) 3 pc') (hj : Jmp pc o pt) (hT : ¬ x < y → Go K M F Lo pt ls st H r) (hF : x < y → Go K M F Lo pc' ls st H r) : Go K M F Lo pc ls (.int (XT.cmpL x y) :: st) H r := by
  by_cases q : x < y
  · exact Go.ifF hd (XT.ll_ge_f q) (hF q)
  · exact Go.ifT hd hj (XT.ll_ge_t q) (hT q)
theorem Go.icmp_gt {x y : Int32} {o : Int} (hd : Dec M pc (.if_icmp .gt o) 3 pc') (hj : Jmp pc o pt) (hT : y < x → Go K M F Lo pt ls st H r) (hF : ¬ y < x → Go K M F Lo pc' ls st H r) : Go K M F Lo pc ls (.int y :: .int x :: st) H r := by
  by_cases q : y < x
  · exact Go.icmpT hd hj (XT.ii_gt_t q) (hT q)
  · exact Go.icmpF hd (XT.ii_gt_f q) (hF q)
theorem Go.if_gt {x : Int32} {o : Int} (hd : Dec M pc (.ifCond .gt o) 3 pc') (hj : Jmp pc o pt) (hT : 0 < x → Go K M F Lo pt ls st H r) (hF : ¬ 0 < x → Go K M F Lo pc' ls st H r) : Go K M F Lo pc ls (.int x :: st) H r := by
  by_cases q : 0 < x
  · exact Go.ifT hd hj (XT.i0_gt_t q) (hT q)
  · exact Go.ifF hd (XT.i0_gt_f q) (hF q)
theorem Go.lif_gt {x y : Int64} {o : Int} (hd : Dec M pc (.ifCond .gt o) 3 pc') (hj : Jmp pc o pt) (hT : y < x → Go K M F Lo pt ls st H r) (hF : ¬ y < x → Go K M F Lo pc' ls st H r) : Go K M F Lo pc ls (.int (XT.cmpL x y) :: st) H r := by
  by_cases q : y < x
  · exact Go.ifT hd hj (XT.ll_gt_t q) (hT q)
  · exact Go.ifF hd (XT.ll_gt_f q) (hF q)
theorem Go.icmp_le {x y : Int32} {o : Int} (hd : Dec M pc (.if_icmp .le o) 3 pc') (hj : Jmp pc o pt) (hT : ¬ y < x → Go K M F Lo pt ls st H r) (hF : y < x → Go K M F Lo pc' ls st H r) : Go K M F Lo pc ls (.int y :: .int x :: st) H r := by
  by_cases q : y < x
  · exact Go.icmpF hd (XT.ii_le_f q) (hF q)
  · exact Go.icmpT hd hj (XT.ii_le_t q) (hT q)
theorem Go.if_le {x : Int32} {o : Int} (hd : Dec M pc (.ifCond .le o) 3 pc') (hj : Jmp pc o pt) (hT : ¬ 0 < x → Go K M F Lo pt ls st H r) (hF : 0 < x → Go K M F Lo pc' ls st H r) : Go K M F Lo pc ls (.int x :: st) H r := by
  by_cases q : 0 < x
  · exact Go.ifF hd (XT.i0_le_f q) (hF q)
  · exact Go.ifT hd hj (XT.i0_le_t q) (hT q)
theorem Go.lif_le {x y : Int64} {o : Int} (hd : Dec M pc (.ifCond .le o) 3 pc') (hj : Jmp pc o pt) (hT : ¬ y < x → Go K M F Lo pt ls st H r) (hF : y < x → Go K M F Lo pc' ls st H r) : Go K M F Lo pc ls (.int (XT.cmpL x y) :: st) H r := by
  by_cases q : y < x
  · exact Go.ifF hd (XT.ll_le_f q) (hF q)
  · exact Go.ifT hd hj (XT.ll_le_t q) (hT q)
theorem Go.icmp_eq {x y : Int32} {o : Int} (hd : Dec M pc (.if_icmp .eq o) 3 pc') (hj : Jmp pc o pt) (hT : x = y → Go K M F Lo pt ls st H r) (hF : ¬ x = y → Go K M F Lo pc' ls st H r) : Go K M F Lo pc ls (.int y :: .int x :: st) H r := by
  by_cases q : x = y
  · exact Go.icmpT hd hj (XT.ii_eq_t q) (hT q)
  · exact Go.icmpF hd (XT.ii_eq_f q) (hF q)
theorem Go.if_eq {x : Int32} {o : Int} (hd : Dec M pc (.ifCond .eq o) 3 pc') (hj : Jmp pc o pt) (hT : x = 0 → Go K M F Lo pt ls st H r) (hF : ¬ x = 0 → Go K M F Lo pc' ls st H r) : Go K M F Lo pc ls (.int x :: st) H r := by
  by_cases q : x = 0
  · exact Go.ifT hd hj (XT.i0_eq_t q) (hT q)
  · exact Go.ifF hd (XT.i0_eq_f q) (hF q)
theorem Go.lif_eq {x y : Int64} {o : Int} (hd : Dec M pc (.ifCond .eq o) 3 pc') (hj : Jmp pc o pt) (hT : x = y → Go K M F Lo pt ls st H r) (hF : ¬ x = y → Go K M F Lo pc' ls st H r) : Go K M F Lo pc ls (.int (XT.cmpL x y) :: st) H r := by
  by_cases q : x = y
  · exact Go.ifT hd hj (XT.ll_eq_t q) (hT q)
  · exact Go.ifF hd (XT.ll_eq_f q) (hF q)
theorem Go.icmp_ne {x y : Int32} {o : Int} (hd : Dec M pc (.if_icmp .ne o) 3 pc') (hj : Jmp pc o pt) (hT : ¬ x = y → Go K M F Lo pt ls st H r) (hF : x = y → Go K M F Lo pc' ls st H r) : Go K M F Lo pc ls (.int y :: .int x :: st) H r := by
  by_cases q : x = y
  · exact Go.icmpF hd (XT.ii_ne_f q) (hF q)
  · exact Go.icmpT hd hj (XT.ii_ne_t q) (hT q)
theorem Go.if_ne {x : Int32} {o : Int} (hd : Dec M pc (.ifCond .ne o) 3 pc') (hj : Jmp pc o pt) (hT : ¬ x = 0 → Go K M F Lo pt ls st H r) (hF : x = 0 → Go K M F Lo pc' ls st H r) : Go K M F Lo pc ls (.int x :: st) H r := by
  by_cases q : x = 0
  · exact Go.ifF hd (XT.i0_ne_f q) (hF q)
  · exact Go.ifT hd hj (XT.i0_ne_t q) (hT q)
theorem Go.lif_ne {x y : Int64} {o : Int} (hd : Dec M pc (.ifCond .ne o) 3 pc') (hj : Jmp pc o pt) (hT : ¬ x = y → Go K M F Lo pt ls st H r) (hF : x = y → Go K M F Lo pc' ls st H r) : Go K M F Lo pc ls (.int (XT.cmpL x y) :: st) H r := by
  by_cases q : x = y
  · exact Go.ifF hd (XT.ll_ne_f q) (hF q)
  · exact Go.ifT hd hj (XT.ll_ne_t q) (hT q)
theorem Go.ifnullT {o : Int} (hd : Dec M pc (.ifnull o) 3 pc') (hj : Jmp pc o pt) (h : Go K M F Lo pt ls st H r) : Go K M F Lo pc ls (.null :: st) H r :=
  h.pureS fun A hx hc k => XS.ifnullYes A hx rfl rfl (hd.at hc) rfl hj.1 hj.2 k
theorem Go.ifnullF {i : Nat} {o : Int} (hd : Dec M pc (.ifnull o) 3 pc') (h : Go K M F Lo pc' ls st H r) : Go K M F Lo pc ls (.ref i :: st) H r := by
  obtain ⟨hd, rfl⟩ := hd
  exact h.pureS fun A hx hc k => XS.ifnullNo A hx rfl (hc ▸ hd) rfl k
theorem Go.ifnonnullT {i : Nat} {o : Int} (hd : Dec M pc (.ifnonnull o) 3 pc') (hj : Jmp pc o pt) (h : Go K M F Lo pt ls st H r) : Go K M F Lo pc ls (.ref i :: st) H r :=
  h.pureS fun A hx hc k => XT.ifnonnullYes A hx rfl rfl (hd.at hc) rfl hj.1 hj.2 k
theorem Go.ifnonnullF {o : Int} (hd : Dec M pc (.ifnonnull o) 3 pc') (h : Go K M F Lo pc' ls st H r) : Go K M F Lo pc ls (.null :: st) H r := by
  obtain ⟨hd, rfl⟩ := hd
  exact h.pureS fun A hx hc k => XT.ifnonnullNo A hx rfl (hc ▸ hd) rfl k
theorem sv_inj (n0 : Nat) {x y : Value} : sv n0 x = sv n0 y ↔ x = y := by
  cases x <;> cases y <;> simp [sv]
theorem acmp_sv (n0 : Nat) (cd : ClassFile.ACond) (x y : Value) : XT.acmp cd (sv n0 x) (sv n0 y) = XT.acmp cd x y := by
  cases cd <;> simp [XT.acmp, sv_inj]
theorem Go.acmpT {cd : ClassFile.ACond} {x y : Value} {o : Int} (hd : Dec M pc (.if_acmp cd o) 3 pc') (hj : Jmp pc o pt) (h1 : x.isRef = true) (h2 : y.isRef = true) (hv : XT.acmp cd x y = true) (h : Go K M F Lo pt ls st H r) : Go K M F Lo pc ls (y :: x :: st) H r :=
  h.pureS fun A hx hc k => XT.acmpYes A hx rfl rfl (hd.at hc) rfl (by rw [sv_ref]; exact h1) (by rw [sv_ref]; exact h2) (by rw [acmp_sv]; exact hv) hj.1 hj.2 k
theorem Go.acmpF {cd : ClassFile.ACond} {x y : Value} {o : Int} (hd : Dec M pc (.if_acmp cd o) 3 pc') (h1 : x.isRef = true) (h2 : y.isRef = true) (hv : XT.acmp cd x y = false) (h : Go K M F Lo pc' ls st H r) : Go K M F Lo pc ls (y :: x :: st) H r := by
  obtain ⟨hd, rfl⟩ := hd
  exact h.pureS fun A hx hc k => XT.acmpNo A hx rfl (hc ▸ hd) rfl (by rw [sv_ref]; exact h1) (by rw [sv_ref]; exact h2) (by rw [acmp_sv]; exact hv) k
/-! ## 5. constants of the pool -/
theorem Go.ldc {idx : Nat} {v : Int32} (hd : Dec M pc (.ldc idx) 2 pc') (w : (Cond.constant M.1.cls idx v).before K.2.2.1 K.2.1 = true) (h : Go K M F Lo pc' ls (.int v :: st) H r) : Go K M F Lo pc ls st H r := by
  obtain ⟨hd, rfl⟩ := hd
  intro R cells slots p e s m args below meth c T locs a1 a2 a3 a4 b1 b2 b3 b4 b5 b6 b7 b8 X S N
  obtain ⟨s₂, L, q1, q⟩ := h R cells slots p e s m args below meth c T locs a1 a2 a3 a4 b1 b2 b3 b4 b5 b6 b7 b8 X S N
  exact ⟨s₂, L, X.ldcI b1 b7 (mvT b2 w) rfl (b3 ▸ hd) q1, q⟩
theorem Go.ldc2 {idx : Nat} {v : Int64} (hd : Dec M pc (.ldc2_w idx) 3 pc') (w : (Cond.constantLong M.1.cls idx v).before K.2.2.1 K.2.1 = true) (h : Go K M F Lo pc' ls (.long v :: st) H r) : Go K M F Lo pc ls st H r := by
  obtain ⟨hd, rfl⟩ := hd
  intro R cells slots p e s m args below meth c T locs a1 a2 a3 a4 b1 b2 b3 b4 b5 b6 b7 b8 X S N
  obtain ⟨s₂, L, q1, q⟩ := h R cells slots p e s m args below meth c T locs a1 a2 a3 a4 b1 b2 b3 b4 b5 b6 b7 b8 X S N
  exact ⟨s₂, L, X.ldc2J b1 b7 (mvT b2 w) rfl (b3 ▸ hd) q1, q⟩
/-! ## 6. fields -/
theorem Go.getfield {idx i : Nat} (j : Nat) {C n d : String} {fs : List (String × String × Value)} {v : Value} (hd : Dec M pc (.getfield idx) 3 pc') (w : (Cond.fieldLink M.1.cls idx C n d).before K.2.2.1 K.2.1 = true) (hH : H[i]? = some (.inl (C, fs))) (hf : fs[j]? = some (n, d, v))
    (h : Go K M F Lo pc' ls (v :: st) H r) : Go K M F Lo pc ls (.ref i :: st) H r := by
  obtain ⟨hd, rfl⟩ := hd
  intro R cells slots p e s m args below meth c T locs a1 a2 a3 a4 b1 b2 b3 b4 b5 b6 b7 b8 X S N
  have C0 := S.2 i _ hH
  have Fl := (C0.2.2 _ (List.mem_of_getElem? hf)).2.2
  obtain ⟨T', X', e', stp⟩ := getF X b1 b2 b7 (host := "") (Or.inl w) Via.refl rfl Fl (g := mkF m pc (LL K.2.2.2 ls) (SS K.2.2.2 (.ref i :: st))) rfl rfl (b3 ▸ hd)
  obtain ⟨s₂, L, q1, q⟩ := h R cells slots p e s m args below meth c T' locs a1 a2 a3 a4 b1 b2 b3 b4 b5 b6 b7 b8 X' (e' ▸ S) N
  exact ⟨s₂, L, stp _ q1, q⟩
def PutOk (ty : FieldType) (v : Value) : Prop := ∀ n0, narrow ty (sv n0 v) = sv n0 v ∧ fits ty (sv n0 v) = true
theorem names_set {fs : List (String × String × Value)} {j : Nat} {n d : String} {v w : Value} (hf : fs[j]? = some (n, d, w)) : (fs.set j (n, d, v)).map (fun f => f.1) = fs.map (fun f => f.1) := by
  apply List.ext_getElem?
  intro k
  rw [List.getElem?_map, List.getElem?_map]
  by_cases q : j = k
  · subst q
    rw [List.getElem?_set_self (List.getElem?_eq_some_iff.mp hf).1, hf]; rfl
  · rw [List.getElem?_set_ne q]
theorem fields_set {K : Ctx} {h h' : Heap} {a : Addr} {C n d : String} {fs : List (String × String × Value)} {j : Nat} {v old : Value} {ty : FieldType} (Ck : COk K.2.1 K.2.2.1 K.2.2.2 h a (.inl (C, fs))) (hf : fs[j]? = some (n, d, old)) (hty : parseFieldDescriptor d = some ty)
    (L : Laid K.2.1 K.2.2.1 C C n d) (W : Wr h h' a (Jvm.RoadKit.slotOf K.2.1 C n d) (sv K.2.2.2 v)) : COk K.2.1 K.2.2.1 K.2.2.2 h' a (.inl (C, fs.set j (n, d, v))) := by
  obtain ⟨E, nd, al⟩ := Ck
  refine ⟨E.wr W, by rw [names_set hf]; exact nd, fun f hm => ?_⟩
  obtain ⟨k, hk⟩ := List.mem_iff_getElem?.mp hm
  by_cases q : j = k
  · subst q
    rw [List.getElem?_set_self (List.getElem?_eq_some_iff.mp hf).1] at hk
    cases hk
    exact ⟨L, ⟨ty, hty⟩, (al _ (List.mem_of_getElem? hf)).2.2.same W⟩
  · rw [List.getElem?_set_ne q] at hk
    obtain ⟨l1, ⟨t1, p1⟩, f1⟩ := al f (List.mem_of_getElem? hk)
    refine ⟨l1, ⟨t1, p1⟩, f1.other W (Or.inr (slot_ne l1 L ?_ p1 hty))⟩
    intro e
    have h1 : (fs.map (fun f => f.1))[k]? = some f.1 := by rw [List.getElem?_map, hk]; rfl
    have h2 : (fs.map (fun f => f.1))[j]? = some f.1 := by rw [List.getElem?_map, hf, e]; rfl
    exact q ((List.getElem?_inj (List.getElem?_eq_some_iff.mp h2).1 nd).mp (h2.trans h1.symm))
theorem Go.putfield {idx i kk : Nat} (j : Nat) {C n d : String} {ty : FieldType} {fs : List (String × String × Value)} {v old : Value} {H1 : Hp} (hd : Dec M pc (.putfield idx) 3 pc') (w : (Cond.fieldLink M.1.cls idx C n d).before K.2.2.1 K.2.1 = true)
    (wl : (Cond.lays C C n d).before K.2.2.1 K.2.1 = true ∨ ((Cond.laysFinal C C n d).before K.2.2.1 K.2.1 = true ∧ M.1.cls = C ∧ M.1.name = "<init>")) (wi : (Cond.instantiable C kk).before K.2.2.1 K.2.1 = true) (hty : parseFieldDescriptor d = some ty) (hv : PutOk ty v)
    (hH : H[i]? = some (.inl (C, fs))) (hf : fs[j]? = some (n, d, old)) (hH1 : H.set i (.inl (C, fs.set j (n, d, v))) = H1) (h : Go K M F Lo pc' ls st H1 r) : Go K M F Lo pc ls (v :: .ref i :: st) H r := by
  obtain ⟨hd, rfl⟩ := hd
  intro R cells slots p e s m args below meth c T locs a1 a2 a3 a4 b1 b2 b3 b4 b5 b6 b7 b8 X S N
  subst hH1
  have C0 := S.2 i _ hH
  have Fl := (C0.2.2 _ (List.mem_of_getElem? hf)).2.2
  have L0 : Laid K.2.1 K.2.2.1 C C n d := wl.imp id (fun q => q.1)
  obtain ⟨T', h', X', e', W, stp⟩ := putF X b1 b2 b7 (host := "") (Or.inl w) Via.refl rfl Fl C0.1 (wl.imp id (fun q => ⟨q.1, q.2.1, b8.trans q.2.2⟩)) wi hty (hv K.2.2.2).1 (hv K.2.2.2).2 (g := mkF m pc (LL K.2.2.2 ls) (SS K.2.2.2 (v :: .ref i :: st))) rfl rfl (b3 ▸ hd)
  subst e'
  obtain ⟨s₂, L, q1, q⟩ := h R cells slots p e s m args below meth c T' _ a1 a2 a3 a4 b1 b2 b3 b4 b5 b6 b7 b8 X' (S.set W hH (fields_set C0 hf hty L0 W)) (Fr.snoc X' N (Nat.le_add_right _ _))
  exact ⟨s₂, L, stp _ q1, q⟩
/-! ## 7. new -/
theorem sv_dflt (n0 : Nat) (ty : FieldType) : sv n0 (defaultValue ty) = defaultValue ty := by cases ty <;> rfl
theorem Go.new {idx k i : Nat} {C : String} (fs : List (String × String × Value)) {rv : Option Value} {H' : Option Hp} {dct dst : Nat} (hd : Dec M pc (.new idx) 3 pc') (w1 : (Cond.classLink M.1.cls idx C).before K.2.2.1 K.2.1 = true) (w2 : (Cond.instantiable C k).before K.2.2.1 K.2.1 = true) (w3 : (Cond.initialized C).before K.2.2.1 K.2.1 = true)
    (hnd : (fs.map (fun f => f.1)).Nodup) (hfs : ∀ f ∈ fs, Laid K.2.1 K.2.2.1 C C f.1 f.2.1 ∧ ∃ ty, parseFieldDescriptor f.2.1 = some ty ∧ f.2.2 = defaultValue ty) (hi : H.length = i)
    (dc ds : Nat) (hdc : dc + 1 ≤ dct) (hds : ds + k ≤ dst) (h : Go K M F Lo pc' ls (.ref i :: st) (H ++ [.inl (C, fs)]) (rv, H', dc, ds)) : Go K M F Lo pc ls st H (rv, H', dct, dst) := by
  obtain ⟨hd, rfl⟩ := hd
  intro R cells slots p e s m args below meth c T locs a1 a2 a3 a4 b1 b2 b3 b4 b5 b6 b7 b8 X S N
  subst hi
  have a3' : cells + dct ≤ R.cells := a3
  have a4' : slots + dst ≤ R.slots := a4
  obtain ⟨vm', cC, kC, h1, h2, h3, h4, X', stp⟩ := X.newCold b1 b7 (mv b2 w1) (mv b2 w2) (mv b2 w3) (g := mkF m pc (LL K.2.2.2 ls) (SS K.2.2.2 st)) rfl (b3 ▸ hd) (by omega) (by omega)
  rw [b2.alike.findClass] at h1
  obtain ⟨kZ, z1, -⟩ := Vm.findClass_spec h1
  obtain ⟨k', z2, z3⟩ := b2.alike.2.2 _ _ z1
  cases h2.symm.trans z2
  have ei : kC.instanceTypes = kZ.instanceTypes := by rw [z3]
  have hN : (T.heap.push { cls := cC, slots := kC.instanceTypes.map defaultValue, vm := .none })[T.heap.size]? = some { cls := cC, slots := kC.instanceTypes.map defaultValue, vm := .none } := by simp
  have E : Ext T.heap (T.heap.push { cls := cC, slots := kC.instanceTypes.map defaultValue, vm := .none }) := ⟨by simp, fun a c h => by
    rw [Array.getElem?_push_lt (Array.getElem?_eq_some_iff.mp h).1]; exact (Array.getElem?_eq_getElem _).symm.trans h⟩
  have S' : Sim K (T.heap.push { cls := cC, slots := kC.instanceTypes.map defaultValue, vm := .none }) (H ++ [.inl (C, fs)]) := by
    refine S.push E (by simp) ?_
    rw [← S.1]
    refine ⟨⟨_, kZ, hN, h1, z1, rfl, fun _ => by simp [ei]⟩, hnd, fun f hf => ?_⟩
    obtain ⟨Lf, ty, ht, hv⟩ := hfs f hf
    refine ⟨Lf, ⟨ty, ht⟩, ?_⟩
    rw [hv, sv_dflt]
    obtain ⟨c1, k1, cf, kf, i, f', y1, y2, y3, y4, y5, y6, -⟩ := Lf.spec
    cases h1.symm.trans y1
    cases z1.symm.trans y2
    exact ⟨_, cf, kf, i, f', hN, y3, y4, by simp, rfl, y5, by simp [ei, y6, (State.fieldFound?_type y3 ht).2]⟩
  obtain ⟨s₂, L, q1, q2, q3, q4, q5, q6⟩ := h R (cells + 1) (slots + k) p e s m args below meth c _ locs a1 a2 (by show cells + 1 + dc ≤ _; omega) (by show slots + k + ds ≤ _; omega) b1 b2 b3 b4 b5 b6 b7 b8 X' S' N
  refine ⟨s₂, L, stp _ ?_, q2, q3, q4, q5, q6.1, q6.2.1, q6.2.2.mono (by show cells + 1 + dc ≤ cells + dct; omega) (by show slots + k + ds ≤ slots + dst; omega)⟩
  have e : SS K.2.2.2 (.ref H.length :: st) = .ref T.heap.size :: SS K.2.2.2 st := by rw [S.1]; rfl
  rw [e] at q1
  exact q1
theorem Go.newarray {aty : ArrayType} {t : FieldType} {n : Int32} {i : Nat} (cap : Nat) {vs : List Value} {rv : Option Value} {H' : Option Hp} {dct dst : Nat} (hd : Dec M pc (.newarray aty) 2 pc') (w : (Cond.arrayClass (newarray.typeOf aty)).before K.2.2.1 K.2.1 = true) (ht : newarray.typeOf aty = t)
    (hn : ¬ n < 0) (hcap : n.toNatClampNeg ≤ cap) (hb : cap * 8 ≤ 536870912) (hvs : List.replicate n.toNatClampNeg (defaultValue t) = vs) (hi : H.length = i)
    (dc ds : Nat) (hdc : dc + 1 ≤ dct) (hds : ds + cap ≤ dst) (h : Go K M F Lo pc' ls (.ref i :: st) (H ++ [.inr (t, vs)]) (rv, H', dc, ds)) : Go K M F Lo pc ls (.int n :: st) H (rv, H', dct, dst) := by
  obtain ⟨hd, rfl⟩ := hd
  intro R cells slots p e s m args below meth c T locs a1 a2 a3 a4 b1 b2 b3 b4 b5 b6 b7 b8 X S N
  subst hi ht hvs
  have a3' : cells + dct ≤ R.cells := a3
  have a4' : slots + dst ≤ R.slots := a4
  have hcb : componentBytes (newarray.typeOf aty) ≤ 8 := by cases aty <;> decide
  obtain ⟨cA, kA, comp, h1, h2, h3, X', stp⟩ := X.newarrayPrim b1 (mvA b2 w) (g := mkF m pc (LL K.2.2.2 ls) (SS K.2.2.2 (.int n :: st))) rfl (b3 ▸ hd) (n := n) (rest := SS K.2.2.2 st) rfl hn (Nat.le_trans (Nat.mul_le_mul hcap hcb) hb) (by omega) (by omega)
  rw [b2.alike.findClass] at h1
  obtain ⟨kZ, z1, -⟩ := Vm.findClass_spec h1
  obtain ⟨k', z2, z3⟩ := b2.alike.2.2 _ _ z1
  cases h2.symm.trans z2
  have hN : (T.heap.push { cls := cA, slots := Array.replicate n.toNatClampNeg (defaultValue (newarray.typeOf aty)), vm := .none })[T.heap.size]? = some { cls := cA, slots := Array.replicate n.toNatClampNeg (defaultValue (newarray.typeOf aty)), vm := .none } := by simp
  have E : Ext T.heap (T.heap.push { cls := cA, slots := Array.replicate n.toNatClampNeg (defaultValue (newarray.typeOf aty)), vm := .none }) := ⟨by simp, fun a c h => by
    rw [Array.getElem?_push_lt (Array.getElem?_eq_some_iff.mp h).1]; exact (Array.getElem?_eq_getElem _).symm.trans h⟩
  have S' : Sim K (T.heap.push { cls := cA, slots := Array.replicate n.toNatClampNeg (defaultValue (newarray.typeOf aty)), vm := .none }) (H ++ [.inr (newarray.typeOf aty, List.replicate n.toNatClampNeg (defaultValue (newarray.typeOf aty)))]) := by
    refine S.push E (by simp) ?_
    rw [← S.1]
    refine ⟨⟨_, kZ, hN, h1, z1, rfl, fun q => ?_⟩, _, ⟨hN, ⟨by simp, kZ, z1, comp, by rw [← h3, z3]⟩, by simp⟩, ?_⟩
    · have q2 : kZ.kind = .array comp (newarray.typeOf aty) := by rw [← h3, z3]
      rw [q2] at q; cases q
    · simp [sv_dflt]
  obtain ⟨s₂, L, q1, q2, q3, q4, q5, q6⟩ := h R (cells + 1) (slots + cap) p e s m args below meth c _ locs a1 a2 (by show cells + 1 + dc ≤ _; omega) (by show slots + cap + ds ≤ _; omega) b1 b2 b3 b4 b5 b6 b7 b8 (X'.more (Nat.le_refl _) (by omega)) S' N
  refine ⟨s₂, L, stp _ ?_, q2, q3, q4, q5, q6.1, q6.2.1, q6.2.2.mono (by show cells + 1 + dc ≤ cells + dct; omega) (by show slots + cap + ds ≤ slots + dst; omega)⟩
  have e : SS K.2.2.2 (.ref H.length :: st) = .ref T.heap.size :: SS K.2.2.2 st := by rw [S.1]; rfl
  rw [e] at q1
  exact q1
/-! ## 8. arrays -/
theorem Go.arraylength {i : Nat} {t : FieldType} {vs : List Value} {z : Int32} (hd : Dec M pc .arraylength 1 pc') (hH : H[i]? = some (.inr (t, vs))) (hz : vs.length.toInt32 = z) (h : Go K M F Lo pc' ls (.int z :: st) H r) : Go K M F Lo pc ls (.ref i :: st) H r := by
  obtain ⟨hd, rfl⟩ := hd
  intro R cells slots p e s m args below meth c T locs a1 a2 a3 a4 b1 b2 b3 b4 b5 b6 b7 b8 X S N
  obtain ⟨Ex, cl, Ar, hc⟩ := S.2 i _ hH
  obtain ⟨s₂, L, q1, q⟩ := h R cells slots p e s m args below meth c T locs a1 a2 a3 a4 b1 b2 b3 b4 b5 b6 b7 b8 X S N
  refine ⟨s₂, L, X.arraylength b1 Ar.1 (State.isArrayOf_alike b2.alike Ar.2.1) (g := mkF m pc (LL K.2.2.2 ls) (SS K.2.2.2 (.ref i :: st))) rfl (rest := SS K.2.2.2 st) rfl (b3 ▸ hd) _ ?_, q⟩
  have e : cl.slots.size.toInt32 = z := by rw [hc, ← hz]; simp
  rw [e]; exact q1
theorem in_of {cl : Cell} {n0 : Nat} {vs : List Value} {j : Int32} {v : Value} (hc : cl.slots = (vs.map (sv n0)).toArray) (hj : ¬ j < 0) (hv : vs[j.toNatClampNeg]? = some v) : ¬ (j < 0 ∨ cl.slots.size ≤ j.toNatClampNeg) ∧ cl.slots[j.toNatClampNeg]? = some (sv n0 v) := by
  have hl := (List.getElem?_eq_some_iff.mp hv).1
  refine ⟨?_, by rw [hc]; simp [hv]⟩
  rintro (q | q)
  · exact hj q
  · rw [hc] at q; simp at q; omega
theorem Go.iaload {i : Nat} {vs : List Value} {j : Int32} {v : Value} (hd : Dec M pc .iaload 1 pc') (hH : H[i]? = some (.inr (.int, vs))) (hj : ¬ j < 0) (hv : vs[j.toNatClampNeg]? = some v) (h : Go K M F Lo pc' ls (v :: st) H r) : Go K M F Lo pc ls (.int j :: .ref i :: st) H r := by
  obtain ⟨hd, rfl⟩ := hd
  intro R cells slots p e s m args below meth c T locs a1 a2 a3 a4 b1 b2 b3 b4 b5 b6 b7 b8 X S N
  obtain ⟨Ex, cl, Ar, hc⟩ := S.2 i _ hH
  obtain ⟨hin, hat⟩ := in_of hc hj hv
  obtain ⟨s₂, L, q1, q⟩ := h R cells slots p e s m args below meth c T locs a1 a2 a3 a4 b1 b2 b3 b4 b5 b6 b7 b8 X S N
  exact ⟨s₂, L, X.iaload b1 Ar.1 (State.isArrayOf_alike b2.alike Ar.2.1) Ar.2.2 hin hat (g := mkF m pc (LL K.2.2.2 ls) (SS K.2.2.2 (.int j :: .ref i :: st))) rfl (rest := SS K.2.2.2 st) rfl (b3 ▸ hd) _ q1, q⟩
theorem Go.laload {i : Nat} {vs : List Value} {j : Int32} {v : Value} (hd : Dec M pc .laload 1 pc') (hH : H[i]? = some (.inr (.long, vs))) (hj : ¬ j < 0) (hv : vs[j.toNatClampNeg]? = some v) (h : Go K M F Lo pc' ls (v :: st) H r) : Go K M F Lo pc ls (.int j :: .ref i :: st) H r := by
  obtain ⟨hd, rfl⟩ := hd
  intro R cells slots p e s m args below meth c T locs a1 a2 a3 a4 b1 b2 b3 b4 b5 b6 b7 b8 X S N
  obtain ⟨Ex, cl, Ar, hc⟩ := S.2 i _ hH
  obtain ⟨hin, hat⟩ := in_of hc hj hv
  obtain ⟨s₂, L, q1, q⟩ := h R cells slots p e s m args below meth c T locs a1 a2 a3 a4 b1 b2 b3 b4 b5 b6 b7 b8 X S N
  exact ⟨s₂, L, X.laload b1 Ar.1 (State.isArrayOf_alike b2.alike Ar.2.1) Ar.2.2 hin hat (g := mkF m pc (LL K.2.2.2 ls) (SS K.2.2.2 (.int j :: .ref i :: st))) rfl (rest := SS K.2.2.2 st) rfl (b3 ▸ hd) _ q1, q⟩
theorem Go.caload {i : Nat} {vs : List Value} {j : Int32} {v : Value} (hd : Dec M pc .caload 1 pc') (hH : H[i]? = some (.inr (.char, vs))) (hj : ¬ j < 0) (hv : vs[j.toNatClampNeg]? = some v) (h : Go K M F Lo pc' ls (v :: st) H r) : Go K M F Lo pc ls (.int j :: .ref i :: st) H r := by
  obtain ⟨hd, rfl⟩ := hd
  intro R cells slots p e s m args below meth c T locs a1 a2 a3 a4 b1 b2 b3 b4 b5 b6 b7 b8 X S N
  obtain ⟨Ex, cl, Ar, hc⟩ := S.2 i _ hH
  obtain ⟨hin, hat⟩ := in_of hc hj hv
  obtain ⟨s₂, L, q1, q⟩ := h R cells slots p e s m args below meth c T locs a1 a2 a3 a4 b1 b2 b3 b4 b5 b6 b7 b8 X S N
  exact ⟨s₂, L, X.caload b1 Ar.1 (State.isArrayOf_alike b2.alike Ar.2.1) Ar.2.2 hin hat (g := mkF m pc (LL K.2.2.2 ls) (SS K.2.2.2 (.int j :: .ref i :: st))) rfl (rest := SS K.2.2.2 st) rfl (b3 ▸ hd) _ q1, q⟩
theorem Go.baload {i : Nat} {vs : List Value} {j : Int32} {v : Value} (hd : Dec M pc .baload 1 pc') (hH : H[i]? = some (.inr (.byte, vs))) (hj : ¬ j < 0) (hv : vs[j.toNatClampNeg]? = some v) (h : Go K M F Lo pc' ls (v :: st) H r) : Go K M F Lo pc ls (.int j :: .ref i :: st) H r := by
  obtain ⟨hd, rfl⟩ := hd
  intro R cells slots p e s m args below meth c T locs a1 a2 a3 a4 b1 b2 b3 b4 b5 b6 b7 b8 X S N
  obtain ⟨Ex, cl, Ar, hc⟩ := S.2 i _ hH
  obtain ⟨hin, hat⟩ := in_of hc hj hv
  obtain ⟨s₂, L, q1, q⟩ := h R cells slots p e s m args below meth c T locs a1 a2 a3 a4 b1 b2 b3 b4 b5 b6 b7 b8 X S N
  exact ⟨s₂, L, X.baloadBytes b1 Ar.1 (State.isArrayOf_alike b2.alike Ar.2.1) Ar.2.2 hin hat (g := mkF m pc (LL K.2.2.2 ls) (SS K.2.2.2 (.int j :: .ref i :: st))) rfl (rest := SS K.2.2.2 st) rfl (b3 ▸ hd) _ q1, q⟩
theorem arr_set {K : Ctx} {h h' : Heap} {a : Addr} {cl : Cell} {t : FieldType} {vs : List Value} {k : Nat} {v : Value} (Ex : Exa K.2.1 h a ("[" ++ t.toString)) (Ar : Arr K.2.1 h a cl t) (hc : cl.slots = (vs.map (sv K.2.2.2)).toArray) (W : Wr h h' a k (sv K.2.2.2 v)) : COk K.2.1 K.2.2.1 K.2.2.2 h' a (.inr (t, vs.set k v)) :=
  ⟨Ex.wr W, _, Ar.same W, by simp [Cell.setSlot, hc, List.map_set]⟩
theorem Go.iastore {i : Nat} {vs : List Value} {j : Int32} {x : Int32} {H1 : Hp} (hd : Dec M pc .iastore 1 pc') (hH : H[i]? = some (.inr (.int, vs))) (hj : ¬ j < 0) (hl : j.toNatClampNeg < vs.length) (hH1 : H.set i (.inr (.int, vs.set j.toNatClampNeg (.int x))) = H1) (h : Go K M F Lo pc' ls st H1 r) : Go K M F Lo pc ls (.int x :: .int j :: .ref i :: st) H r := by
  obtain ⟨hd, rfl⟩ := hd
  intro R cells slots p e s m args below meth c T locs a1 a2 a3 a4 b1 b2 b3 b4 b5 b6 b7 b8 X S N
  subst hH1
  obtain ⟨Ex, cl, Ar, hc⟩ := S.2 i _ hH
  have hin : ¬ (j < 0 ∨ cl.slots.size ≤ j.toNatClampNeg) := by
    rintro (q | q)
    · exact hj q
    · rw [hc] at q; simp at q; omega
  obtain ⟨T', h', X', e', W, stp⟩ := stI X b1 b2 rfl Ar hin (g := mkF m pc (LL K.2.2.2 ls) (SS K.2.2.2 (.int x :: .int j :: .ref i :: st))) rfl (rest := SS K.2.2.2 st) rfl (b3 ▸ hd)
  subst e'
  obtain ⟨s₂, L, q1, q⟩ := h R cells slots p e s m args below meth c T' _ a1 a2 a3 a4 b1 b2 b3 b4 b5 b6 b7 b8 X' (S.set W hH (arr_set (v := .int x) Ex Ar hc W)) (Fr.snoc X' N (Nat.le_add_right _ _))
  exact ⟨s₂, L, stp _ q1, q⟩
theorem Go.lastore {i : Nat} {vs : List Value} {j : Int32} {x : Int64} {H1 : Hp} (hd : Dec M pc .lastore 1 pc') (hH : H[i]? = some (.inr (.long, vs))) (hj : ¬ j < 0) (hl : j.toNatClampNeg < vs.length) (hH1 : H.set i (.inr (.long, vs.set j.toNatClampNeg (.long x))) = H1) (h : Go K M F Lo pc' ls st H1 r) : Go K M F Lo pc ls (.long x :: .int j :: .ref i :: st) H r := by
  obtain ⟨hd, rfl⟩ := hd
  intro R cells slots p e s m args below meth c T locs a1 a2 a3 a4 b1 b2 b3 b4 b5 b6 b7 b8 X S N
  subst hH1
  obtain ⟨Ex, cl, Ar, hc⟩ := S.2 i _ hH
  have hin : ¬ (j < 0 ∨ cl.slots.size ≤ j.toNatClampNeg) := by
    rintro (q | q)
    · exact hj q
    · rw [hc] at q; simp at q; omega
  obtain ⟨T', h', X', e', W, stp⟩ := stJ X b1 b2 rfl Ar hin (g := mkF m pc (LL K.2.2.2 ls) (SS K.2.2.2 (.long x :: .int j :: .ref i :: st))) rfl (rest := SS K.2.2.2 st) rfl (b3 ▸ hd)
  subst e'
  obtain ⟨s₂, L, q1, q⟩ := h R cells slots p e s m args below meth c T' _ a1 a2 a3 a4 b1 b2 b3 b4 b5 b6 b7 b8 X' (S.set W hH (arr_set (v := .long x) Ex Ar hc W)) (Fr.snoc X' N (Nat.le_add_right _ _))
  exact ⟨s₂, L, stp _ q1, q⟩
theorem Go.castore {i : Nat} {vs : List Value} {j : Int32} {x : Int32} {H1 : Hp} (hd : Dec M pc .castore 1 pc') (hH : H[i]? = some (.inr (.char, vs))) (hj : ¬ j < 0) (hl : j.toNatClampNeg < vs.length) (hH1 : H.set i (.inr (.char, vs.set j.toNatClampNeg (.int (nar .char x)))) = H1) (h : Go K M F Lo pc' ls st H1 r) : Go K M F Lo pc ls (.int x :: .int j :: .ref i :: st) H r := by
  obtain ⟨hd, rfl⟩ := hd
  intro R cells slots p e s m args below meth c T locs a1 a2 a3 a4 b1 b2 b3 b4 b5 b6 b7 b8 X S N
  subst hH1
  obtain ⟨Ex, cl, Ar, hc⟩ := S.2 i _ hH
  have hin : ¬ (j < 0 ∨ cl.slots.size ≤ j.toNatClampNeg) := by
    rintro (q | q)
    · exact hj q
    · rw [hc] at q; simp at q; omega
  obtain ⟨T', h', X', e', W, stp⟩ := stC X b1 b2 rfl Ar hin (g := mkF m pc (LL K.2.2.2 ls) (SS K.2.2.2 (.int x :: .int j :: .ref i :: st))) rfl (rest := SS K.2.2.2 st) rfl (b3 ▸ hd)
  subst e'
  obtain ⟨s₂, L, q1, q⟩ := h R cells slots p e s m args below meth c T' _ a1 a2 a3 a4 b1 b2 b3 b4 b5 b6 b7 b8 X' (S.set W hH (arr_set (v := .int (nar .char x)) Ex Ar hc W)) (Fr.snoc X' N (Nat.le_add_right _ _))
  exact ⟨s₂, L, stp _ q1, q⟩
theorem Go.bastore {i : Nat} {vs : List Value} {j : Int32} {x : Int32} {H1 : Hp} (hd : Dec M pc .bastore 1 pc') (hH : H[i]? = some (.inr (.byte, vs))) (hj : ¬ j < 0) (hl : j.toNatClampNeg < vs.length) (hH1 : H.set i (.inr (.byte, vs.set j.toNatClampNeg (.int (nar .byte x)))) = H1) (h : Go K M F Lo pc' ls st H1 r) : Go K M F Lo pc ls (.int x :: .int j :: .ref i :: st) H r := by
  obtain ⟨hd, rfl⟩ := hd
  intro R cells slots p e s m args below meth c T locs a1 a2 a3 a4 b1 b2 b3 b4 b5 b6 b7 b8 X S N
  subst hH1
  obtain ⟨Ex, cl, Ar, hc⟩ := S.2 i _ hH
  have hin : ¬ (j < 0 ∨ cl.slots.size ≤ j.toNatClampNeg) := by
    rintro (q | q)
    · exact hj q
    · rw [hc] at q; simp at q; omega
  obtain ⟨T', h', X', e', W, stp⟩ := stB X b1 b2 rfl Ar hin (g := mkF m pc (LL K.2.2.2 ls) (SS K.2.2.2 (.int x :: .int j :: .ref i :: st))) rfl (rest := SS K.2.2.2 st) rfl (b3 ▸ hd)
  subst e'
  obtain ⟨s₂, L, q1, q⟩ := h R cells slots p e s m args below meth c T' _ a1 a2 a3 a4 b1 b2 b3 b4 b5 b6 b7 b8 X' (S.set W hH (arr_set (v := .int (nar .byte x)) Ex Ar hc W)) (Fr.snoc X' N (Nat.le_add_right _ _))
  exact ⟨s₂, L, stp _ q1, q⟩
/-! ## 9. returns -/
theorem Go.retW {i : Instr} {v : Value} {t : FieldType} {dc ds : Nat} {H' : Option Hp} (hH : HOk H H') (hd : Dec M pc i 1 pc') (ht : M.2.2.2 = some t) (hn : ∀ n0, narrow t (sv n0 v) = sv n0 v)
    (hi : ∀ n0, (i = .ireturn ∧ (t = .int ∨ t = .boolean ∨ t = .byte ∨ t = .char ∨ t = .short) ∧ ∃ z, sv n0 v = .int z) ∨ (i = .lreturn ∧ t = .long ∧ ∃ z, sv n0 v = .long z) ∨ (i = .dreturn ∧ t = .double ∧ ∃ z, sv n0 v = .double z) ∨ (i = .freturn ∧ t = .float ∧ ∃ z, sv n0 v = .float z) ∨ (i = .areturn ∧ t.isReference = true ∧ (sv n0 v).isRef = true)) : Go K M F Lo pc ls (v :: st) H (some v, H', dc, ds) := by
  intro R cells slots p e s m args below meth c T locs a1 a2 a3 a4 b1 b2 b3 b4 b5 b6 b7 b8 X S N
  obtain ⟨fs, hr, hrun, hended, hW, hsame⟩ := X.leave (v := some (sv K.2.2.2 v)) (fun q => by rw [b5, ht] at q; cases q) b6
  exact ⟨_, locs, retOut X b1 (b5.trans ht) (hn _) (hi _) (b3 ▸ hd.1) hr, hrun, hended, hH.fin S, N, ⟨_, rfl⟩, hW, hsame.mono (Nat.le_add_right _ _) (Nat.le_add_right _ _)⟩
theorem Go.ireturn {v : Int32} {dc ds : Nat} {rv : Option Value} {H' : Option Hp} (hd : Dec M pc .ireturn 1 pc') (ht : M.2.2.2 = some .int) (hv : rv = some (.int v)) (hH : HOk H H') : Go K M F Lo pc ls (.int v :: st) H (rv, H', dc, ds) := by
  subst hv
  exact Go.retW hH hd ht (fun _ => rfl) (fun _ => Or.inl ⟨rfl, Or.inl rfl, _, rfl⟩)
theorem Go.ireturnZ {v : Int32} {dc ds : Nat} {rv : Option Value} {H' : Option Hp} (hd : Dec M pc .ireturn 1 pc') (ht : M.2.2.2 = some .boolean) (h01 : v = 0 ∨ v = 1) (hv : rv = some (.int v)) (hH : HOk H H') : Go K M F Lo pc ls (.int v :: st) H (rv, H', dc, ds) := by
  subst hv
  exact Go.retW hH hd ht (fun _ => by rcases h01 with rfl | rfl <;> rfl) (fun _ => Or.inl ⟨rfl, Or.inr (Or.inl rfl), _, rfl⟩)
theorem Go.lreturn {v : Int64} {dc ds : Nat} {rv : Option Value} {H' : Option Hp} (hd : Dec M pc .lreturn 1 pc') (ht : M.2.2.2 = some .long) (hv : rv = some (.long v)) (hH : HOk H H') : Go K M F Lo pc ls (.long v :: st) H (rv, H', dc, ds) := by
  subst hv
  exact Go.retW hH hd ht (fun _ => rfl) (fun _ => Or.inr (Or.inl ⟨rfl, rfl, _, rfl⟩))
theorem Go.areturn {v : Value} {t : FieldType} {dc ds : Nat} {rv : Option Value} {H' : Option Hp} (hd : Dec M pc .areturn 1 pc') (ht : M.2.2.2 = some t) (htr : t.isReference = true) (hr : v.isRef = true) (hv : rv = some v) (hH : HOk H H') : Go K M F Lo pc ls (v :: st) H (rv, H', dc, ds) := by
  subst hv
  refine Go.retW hH hd ht (fun _ => ?_) (fun _ => Or.inr (Or.inr (Or.inr (Or.inr ⟨rfl, htr, by rw [sv_ref]; exact hr⟩))))
  rcases ref_cases hr with rfl | ⟨a, rfl⟩ <;> cases t <;> first | rfl | (simp [FieldType.isReference] at htr)
theorem Go.ret {dc ds : Nat} {rv : Option Value} {H' : Option Hp} (hd : Dec M pc .return_ 1 pc') (ht : M.2.2.2 = none) (hv : rv = none) (hH : HOk H H') : Go K M F Lo pc ls [] H (rv, H', dc, ds) := by
  subst hv
  intro R cells slots p e s m args below meth c T locs a1 a2 a3 a4 b1 b2 b3 b4 b5 b6 b7 b8 X S N
  obtain ⟨fs, hr, hrun, hended, hW, hsame⟩ := X.leave (v := none) (fun _ => rfl) b6
  exact ⟨_, locs, X.returnOut b1 (b5.trans ht) (b3 ▸ hd.1) hr, hrun, hended, hH.fin S, N, ⟨_, rfl⟩, hW, hsame.mono (Nat.le_add_right _ _) (Nat.le_add_right _ _)⟩
/-! ## 10. a whole invocation; calls -/
def ent (as : List Value) (mx : Nat) : List Slot := Jvm.Sym.laidSlots as ++ List.replicate (mx - (Jvm.Sym.laidSlots as).length) .unset
theorem laid_map (n0 : Nat) (as : List Value) : Jvm.Sym.laidSlots (as.map (sv n0)) = (Jvm.Sym.laidSlots as).map (ss n0) := by
  induction as with
  | nil => rfl
  | cons v r ih =>
    simp only [List.map_cons, Jvm.Sym.laidSlots, sv_cat, ih]
    split <;> rfl
theorem ent_map (n0 : Nat) (as : List Value) (mx : Nat) : Jvm.Sym.laidSlots (as.map (sv n0)) ++ List.replicate (mx - (Jvm.Sym.laidSlots (as.map (sv n0))).length) .unset = (LL n0 (ent as mx)).toList := by
  rw [laid_map, List.length_map, LL, ent, List.map_append, List.map_replicate]
  rfl
theorem Go.met {as : List Value} {ws : List Jvm.Cond} {rm : Room} {h : Heap} {rv : Option Value} {H' : Option Hp} (hpn : plainFor M.1 = true) (S : Sim K h H) (hls : ent as M.2.2.1 = ls) (g : Go K M rm.frames rm.locals 0 ls [] H (rv, H', rm.cells, rm.slots)) :
    MetFree K.1 M.1 (head1 (Jvm.Cond.code M.1 M.2.1 M.2.2.1 M.2.2.2 :: ws) rm) (fun a U => a = (SS K.2.2.2 as).toArray ∧ K.2.1.Warmed39 U.vm ∧ U.heap = h) (fun _ _ _ _ _ => True)
      (fun _ U o U' => ∃ v L, o = .returned v ∧ (v = rv.map (sv K.2.2.2) ∧ FinH K U'.heap H' ∧ Fr K.2.2.2 L) ∧ FrameEnd U o U' L rm.cells rm.slots) := by
  refine MetFree.of_bodySF hpn hisR ?_
  intro p e s m args below meth c s₁ Bd hml0 hP hK
  obtain ⟨rfl, hZ, hh⟩ := hP
  subst hls
  have X0 : Stand p K.1 e rm s m (SS K.2.2.2 as).toArray below meth c s₁ [] 0 0 := Stand.of_body Bd
  have e0 : s₁.heap = h := by rw [← hh, Bd.state]; rfl
  obtain ⟨s₂, L, q1, q2, q3, q4, q5, q6⟩ := g rm 0 0 p e s m _ below meth c s₁ [] (Nat.le_refl _) (Nat.le_refl _) (Nat.le_of_eq (Nat.zero_add _)) (Nat.le_of_eq (Nat.zero_add _)) Bd.exec hZ Bd.bytes hml0 Bd.returns Bd.notSynchronized (findClass_of_methodNamed Bd.named) (name_of_methodNamed Bd.named Bd.method).1 X0 (by rw [e0]; exact S) (Fr.nil _)
  refine ⟨s₂, _, (XT.entry (Ls := LL K.2.2.2 (ent as M.2.2.1)) (by simpa using ent_map K.2.2.2 as M.2.2.1)).trans q1, q2, q3, _, L, rfl, ⟨rfl, q4, q5⟩, ?_⟩
  have e1 : (0 : Nat) + rm.cells = rm.cells := Nat.zero_add _
  have e2 : (0 : Nat) + rm.slots = rm.slots := Nat.zero_add _
  simp only [e1, e2] at q6
  exact q6
def MInfo (M : Mt) (na : Nat) : Prop := plainFor M.1 = true ∧ (M.1.cls ≠ "java/lang/invoke/MethodHandle" ∧ M.1.cls ≠ "java/lang/invoke/VarHandle") ∧ (parseMethodDescriptor M.1.desc).map (fun q => q.parameters.length) = some na
instance (M : Mt) (na : Nat) : Decidable (MInfo M na) := inferInstanceAs (Decidable (_ ∧ _ ∧ _))
theorem MInfo.len {M : Mt} {na : Nat} (mi : MInfo M na) {n0 : Nat} {as : List Value} (h : as.length = na) : ∀ sig, parseMethodDescriptor M.1.desc = some sig → (SS n0 as).length = sig.parameters.length := fun sig hs => by
  have q := mi.2.2
  rw [hs] at q
  rw [List.length_map, h]
  exact (Option.some.inj q).symm
theorem Go.back {M' : Mt} {F' Lo' W dc1 ds1 : Nat} {as : List Value} {ls1 : List Slot} {h : Heap} {rv1 : Option Value} {H1 : Hp} {R : Room} {p : Program} {e : Env} {below : List Frame} {s : State} {sargs : Array Value} (g : Go K M' F' Lo' 0 ls1 [] H (rv1, some H1, dc1, ds1)) (hls : ent as M'.2.2.1 = ls1) (hpn : plainFor M'.1 = true) (S : Sim K h H)
    (hZ : K.2.1.Warmed39 s.vm) (wc : (Jvm.Cond.code M'.1 M'.2.1 M'.2.2.1 M'.2.2.2).before K.2.2.1 K.2.1 = true) (wz : (Jvm.Cond.initialized M'.1.cls).before K.2.2.1 K.2.1 = true) (hf : F' + 1 ≤ R.frames) (hl : W + (M'.2.2.1 + 11) + Lo' ≤ R.locals) :
    Back K.1 R p e below s sargs M'.1 3 W (fun A a => a = (SS K.2.2.2 as).toArray ∧ A.U.heap = h ∧ A.cells + dc1 ≤ R.cells ∧ A.slots + ds1 ≤ R.slots)
      (fun A _ v B => ∃ L, (v = rv1.map (sv K.2.2.2) ∧ FinH K B.U.heap (some H1) ∧ Fr K.2.2.2 L) ∧ B.locs = A.locs ++ L ∧ B.cells = A.cells + dc1 ∧ B.slots = A.slots + ds1) :=
  backOf (rm := ({ frames := F', cells := dc1, slots := ds1, locals := Lo' } : Room)) (Q := fun v hp L => v = rv1.map (sv K.2.2.2) ∧ FinH K hp (some H1) ∧ Fr K.2.2.2 L) (Go.met (ws := []) hpn S hls g) hZ wc wz hf hl
theorem SS_app (n0 : Nat) (as st : List Value) : SS n0 (as.reverse ++ st) = (SS n0 as).reverse ++ SS n0 st := by simp [SS]
theorem SS_ret (n0 : Nat) (rv : Option Value) (st : List Value) : (rv.map (sv n0)).toList ++ SS n0 st = SS n0 (rv.toList ++ st) := by cases rv <;> rfl
theorem Go.callS {idx na W F' Lo' dc1 ds1 dct dst : Nat} {M' : Mt} {as : List Value} {ls1 : List Slot} {st0 : List Value} {rv1 rv : Option Value} {H1 : Hp} {H' : Option Hp} (hd : Dec M pc (.invokestatic idx) 3 pc') (w1 : (Jvm.Cond.methodLink M.1.cls idx M'.1).before K.2.2.1 K.2.1 = true) (w2 : (Jvm.Cond.static M'.1).before K.2.2.1 K.2.1 = true) (w3 : (Jvm.Cond.initialized M'.1.cls).before K.2.2.1 K.2.1 = true) (w4 : (Jvm.Cond.code M'.1 M'.2.1 M'.2.2.1 M'.2.2.2).before K.2.2.1 K.2.1 = true)
    (mi : MInfo M' na) (has : as.length = na) (hsz : ls.length = M.2.2.1) (hst : as.reverse ++ st = st0) (hls : ent as M'.2.2.1 = ls1) (hW : (st.map fun v => v.category).sum = W) (hF : F' + 1 ≤ F) (hLo : W + (M'.2.2.1 + 11) + Lo' ≤ Lo) (g : Go K M' F' Lo' 0 ls1 [] H (rv1, some H1, dc1, ds1))
    (dc ds : Nat) (hdc : dc + dc1 ≤ dct) (hds : ds + ds1 ≤ dst) (h : Go K M F Lo pc' ls (rv1.toList ++ st) H1 (rv, H', dc, ds)) : Go K M F Lo pc ls st0 H (rv, H', dct, dst) := by
  obtain ⟨hd, rfl⟩ := hd
  intro R cells slots p e s m args below meth c T locs a1 a2 a3 a4 b1 b2 b3 b4 b5 b6 b7 b8 X S N
  subst hst
  have a3' : cells + dct ≤ R.cells := a3
  have a4' : slots + dst ≤ R.slots := a4
  obtain ⟨v, vm₁, ⟨T', L1, k1, n1⟩, -, X', ⟨Lc, ⟨hv, S', N'⟩, l1, l2, l3⟩, stp⟩ := Jvm.LawKit.callS X b1 (y := M'.1) b7 (mvT b2 w1) (mvT b2 w2) (mvT b2 w3) (mvT b2 w4) mi.2.1 (g.back (W := W) hls mi.1 S b2 w4 w3 (Nat.le_trans hF a1) (Nat.le_trans hLo a2)) (g := mkF m pc (LL K.2.2.2 ls) (SS K.2.2.2 (as.reverse ++ st))) rfl (by rw [b4, ← hsz]; exact LL_size _ _) (argsL := SS K.2.2.2 as) (rest := SS K.2.2.2 st) (mi.len has) (SS_app _ _ _) (by show 2 * 0 + _ ≤ W; rw [cats, hW]; omega) (b3 ▸ hd) (fun _ _ => ⟨rfl, rfl, by show cells + dc1 ≤ _; omega, by show slots + ds1 ≤ _; omega⟩)
  dsimp only [Pt.U, Pt.locs, Pt.cells, Pt.slots] at X' l1 l2 l3 stp S' hv
  subst l1 l2 l3 hv
  obtain ⟨s₂, L, q1, q2, q3, q4, q5, q6⟩ := h R (cells + dc1) (slots + ds1) p e s m args below meth c T' _ a1 a2 (by show cells + dc1 + dc ≤ _; omega) (by show slots + ds1 + ds ≤ _; omega) b1 b2 b3 b4 b5 b6 b7 b8 X' (S' _ rfl) (N.app N')
  refine ⟨s₂, L, stp _ ?_, q2, q3, q4, q5, q6.1, q6.2.1, q6.2.2.mono (by show cells + dc1 + dc ≤ cells + dct; omega) (by show slots + ds1 + ds ≤ slots + dst; omega)⟩
  rw [← SS_ret] at q1
  exact q1
theorem Go.callI {idx na W F' Lo' dc1 ds1 dct dst i : Nat} {M' : Mt} {as : List Value} {ls1 : List Slot} {st0 : List Value} {rv1 rv : Option Value} {H1 : Hp} {H' : Option Hp} (hd : Dec M pc (.invokespecial idx) 3 pc') (hnm : M'.1.name = "<init>") (hrn : M'.2.2.2 = none) (w1 : (Jvm.Cond.methodLink M.1.cls idx M'.1).before K.2.2.1 K.2.1 = true) (w2 : (Jvm.Cond.instanceMethod M'.1).before K.2.2.1 K.2.1 = true) (w3 : (Jvm.Cond.initialized M'.1.cls).before K.2.2.1 K.2.1 = true) (w4 : (Jvm.Cond.code M'.1 M'.2.1 M'.2.2.1 M'.2.2.2).before K.2.2.1 K.2.1 = true)
    (mi : MInfo M' na) (has : as.length = na) (hsz : ls.length = M.2.2.1) (hst : as.reverse ++ .ref i :: st = st0) (hls : ent (.ref i :: as) M'.2.2.1 = ls1) (hW : (st.map fun v => v.category).sum = W) (hF : F' + 1 ≤ F) (hLo : W + (M'.2.2.1 + 11) + Lo' ≤ Lo) (g : Go K M' F' Lo' 0 ls1 [] H (rv1, some H1, dc1, ds1))
    (dc ds : Nat) (hdc : dc + dc1 ≤ dct) (hds : ds + ds1 ≤ dst) (h : Go K M F Lo pc' ls (rv1.toList ++ st) H1 (rv, H', dc, ds)) : Go K M F Lo pc ls st0 H (rv, H', dct, dst) := by
  obtain ⟨hd, rfl⟩ := hd
  intro R cells slots p e s m args below meth c T locs a1 a2 a3 a4 b1 b2 b3 b4 b5 b6 b7 b8 X S N
  subst hst
  have a3' : cells + dct ≤ R.cells := a3
  have a4' : slots + dst ≤ R.slots := a4
  have hstk : SS K.2.2.2 (as.reverse ++ .ref i :: st) = (SS K.2.2.2 as).reverse ++ .ref (K.2.2.2 + i) :: SS K.2.2.2 st := SS_app _ _ _
  obtain ⟨v, vm₁, ⟨T', L1, k1, n1⟩, -, X', ⟨Lc, ⟨hv, S', N'⟩, l1, l2, l3⟩, stp⟩ := X.specialBack b1 (y := M'.1) hnm b7 (mvT b2 w1) (mvT b2 w2) (mvT b2 (hrn ▸ w4)) mi.2.1 (g.back (as := .ref i :: as) (W := W) hls mi.1 S b2 w4 w3 (Nat.le_trans hF a1) (Nat.le_trans hLo a2)) (g := mkF m pc (LL K.2.2.2 ls) (SS K.2.2.2 (as.reverse ++ .ref i :: st))) rfl (by rw [b4, ← hsz]; exact LL_size _ _) (Steps.refl _) (a := K.2.2.2 + i) (argsL := SS K.2.2.2 as) (rest := SS K.2.2.2 st) (mi.len has) hstk (by show 2 * 0 + _ ≤ W; rw [cats, hW]; omega) (b3 ▸ hd) (fun _ _ => ⟨rfl, rfl, by show cells + dc1 ≤ _; omega, by show slots + ds1 ≤ _; omega⟩)
  dsimp only [Pt.U, Pt.locs, Pt.cells, Pt.slots] at X' l1 l2 l3 stp S' hv
  subst l1 l2 l3 hv
  obtain ⟨s₂, L, q1, q2, q3, q4, q5, q6⟩ := h R (cells + dc1) (slots + ds1) p e s m args below meth c T' _ a1 a2 (by show cells + dc1 + dc ≤ _; omega) (by show slots + ds1 + ds ≤ _; omega) b1 b2 b3 b4 b5 b6 b7 b8 X' (S' _ rfl) (N.app N')
  refine ⟨s₂, L, stp.trans ?_, q2, q3, q4, q5, q6.1, q6.2.1, q6.2.2.mono (by show cells + dc1 + dc ≤ cells + dct; omega) (by show slots + ds1 + ds ≤ slots + dst; omega)⟩
  rw [← SS_ret] at q1
  exact q1
theorem Go.callV {idx na W F' Lo' dc1 ds1 dct dst i : Nat} {M' : Mt} {as : List Value} {ls1 : List Slot} {st0 : List Value} {rv1 rv : Option Value} {H1 : Hp} {H' : Option Hp} {fs : List (String × String × Value)} (hd : Dec M pc (.invokevirtual idx) 3 pc') (hH : H[i]? = some (.inl (M'.1.cls, fs))) (w1 : (Jvm.Cond.methodLink M.1.cls idx M'.1).before K.2.2.1 K.2.1 = true) (w2 : (Jvm.Cond.instanceMethod M'.1).before K.2.2.1 K.2.1 = true) (w3 : (Jvm.Cond.initialized M'.1.cls).before K.2.2.1 K.2.1 = true) (w5 : (Jvm.Cond.declares M'.1).before K.2.2.1 K.2.1 = true) (w6 : (Jvm.Cond.selects M'.1.cls M'.1 M'.1).before K.2.2.1 K.2.1 = true) (w4 : (Jvm.Cond.code M'.1 M'.2.1 M'.2.2.1 M'.2.2.2).before K.2.2.1 K.2.1 = true)
    (mi : MInfo M' na) (has : as.length = na) (hsz : ls.length = M.2.2.1) (hst : as.reverse ++ .ref i :: st = st0) (hls : ent (.ref i :: as) M'.2.2.1 = ls1) (hW : (st.map fun v => v.category).sum = W) (hF : F' + 1 ≤ F) (hLo : W + (M'.2.2.1 + 11) + Lo' ≤ Lo) (g : Go K M' F' Lo' 0 ls1 [] H (rv1, some H1, dc1, ds1))
    (dc ds : Nat) (hdc : dc + dc1 ≤ dct) (hds : ds + ds1 ≤ dst) (h : Go K M F Lo pc' ls (rv1.toList ++ st) H1 (rv, H', dc, ds)) : Go K M F Lo pc ls st0 H (rv, H', dct, dst) := by
  obtain ⟨hd, rfl⟩ := hd
  intro R cells slots p e s m args below meth c T locs a1 a2 a3 a4 b1 b2 b3 b4 b5 b6 b7 b8 X S N
  subst hst
  have a3' : cells + dct ≤ R.cells := a3
  have a4' : slots + dst ≤ R.slots := a4
  have hstk : SS K.2.2.2 (as.reverse ++ .ref i :: st) = (SS K.2.2.2 as).reverse ++ .ref (K.2.2.2 + i) :: SS K.2.2.2 st := SS_app _ _ _
  obtain ⟨cq, kq, qa, qb, qc⟩ := isOf b2 rfl (S.2 i _ hH).1
  obtain ⟨v, vm₁, ⟨T', L1, k1, n1⟩, -, X', ⟨Lc, ⟨hv, S', N'⟩, l1, l2, l3⟩, stp⟩ := X.virtualBack b1 (y := M'.1) (z := M'.1) b7 (mvT b2 w1) (mvT b2 w5) (notFace_of_selects (args := #[]) (mvT b2 w6)) (mvT b2 w6) (mvT b2 w2) mi.2.1 (g.back (as := .ref i :: as) (W := W) hls mi.1 S b2 w4 w3 (Nat.le_trans hF a1) (Nat.le_trans hLo a2)) qa qc (g := mkF m pc (LL K.2.2.2 ls) (SS K.2.2.2 (as.reverse ++ .ref i :: st))) rfl (by rw [b4, ← hsz]; exact LL_size _ _) (Steps.refl _) (argsL := SS K.2.2.2 as) (rest := SS K.2.2.2 st) (mi.len has) hstk (by show 2 * 0 + _ ≤ W; rw [cats, hW]; omega) (b3 ▸ hd) (fun _ _ => ⟨rfl, rfl, by show cells + dc1 ≤ _; omega, by show slots + ds1 ≤ _; omega⟩)
  dsimp only [Pt.U, Pt.locs, Pt.cells, Pt.slots] at X' l1 l2 l3 stp S' hv
  subst l1 l2 l3 hv
  obtain ⟨s₂, L, q1, q2, q3, q4, q5, q6⟩ := h R (cells + dc1) (slots + ds1) p e s m args below meth c T' _ a1 a2 (by show cells + dc1 + dc ≤ _; omega) (by show slots + ds1 + ds ≤ _; omega) b1 b2 b3 b4 b5 b6 b7 b8 X' (S' _ rfl) (N.app N')
  refine ⟨s₂, L, stp.trans ?_, q2, q3, q4, q5, q6.1, q6.2.1, q6.2.2.mono (by show cells + dc1 + dc ≤ cells + dct; omega) (by show slots + ds1 + ds ≤ slots + dst; omega)⟩
  rw [← SS_ret] at q1
  exact q1
theorem Go.callP {idx na W F' Lo' dc1 ds1 dct dst i : Nat} {M' : Mt} {as : List Value} {ls1 : List Slot} {st0 : List Value} {rv1 rv : Option Value} {H1 : Hp} {H' : Option Hp} {kk : Nat} {fs : List (String × String × Value)} (hd : Dec M pc (.invokevirtual idx) 3 pc') (hH : H[i]? = some (.inl (M'.1.cls, fs))) (w1 : (Jvm.Cond.methodLink M.1.cls idx M'.1).before K.2.2.1 K.2.1 = true) (w2 : (Jvm.Cond.instanceMethod M'.1).before K.2.2.1 K.2.1 = true) (w3 : (Jvm.Cond.initialized M'.1.cls).before K.2.2.1 K.2.1 = true) (w5 : (Jvm.Cond.privateMethod M'.1).before K.2.2.1 K.2.1 = true) (w6 : (Jvm.Cond.instantiable M'.1.cls kk).before K.2.2.1 K.2.1 = true) (w4 : (Jvm.Cond.code M'.1 M'.2.1 M'.2.2.1 M'.2.2.2).before K.2.2.1 K.2.1 = true)
    (mi : MInfo M' na) (has : as.length = na) (hsz : ls.length = M.2.2.1) (hst : as.reverse ++ .ref i :: st = st0) (hls : ent (.ref i :: as) M'.2.2.1 = ls1) (hW : (st.map fun v => v.category).sum = W) (hF : F' + 1 ≤ F) (hLo : W + (M'.2.2.1 + 11) + Lo' ≤ Lo) (g : Go K M' F' Lo' 0 ls1 [] H (rv1, some H1, dc1, ds1))
    (dc ds : Nat) (hdc : dc + dc1 ≤ dct) (hds : ds + ds1 ≤ dst) (h : Go K M F Lo pc' ls (rv1.toList ++ st) H1 (rv, H', dc, ds)) : Go K M F Lo pc ls st0 H (rv, H', dct, dst) := by
  obtain ⟨hd, rfl⟩ := hd
  intro R cells slots p e s m args below meth c T locs a1 a2 a3 a4 b1 b2 b3 b4 b5 b6 b7 b8 X S N
  subst hst
  have a3' : cells + dct ≤ R.cells := a3
  have a4' : slots + dst ≤ R.slots := a4
  have hstk : SS K.2.2.2 (as.reverse ++ .ref i :: st) = (SS K.2.2.2 as).reverse ++ .ref (K.2.2.2 + i) :: SS K.2.2.2 st := SS_app _ _ _
  obtain ⟨cq, qa, qb⟩ := (S.2 i _ hH).1.cell
  have hpr : s.PrivateAt M'.1 := Cond.privateMethod_at (mvP b2 w5 (args := #[]))
  have hsel : (Jvm.Cond.selects M'.1.cls M'.1 M'.1).before args s = true := by
    obtain ⟨c9, k9, z1, z2, z3, z4, -⟩ := Cond.instantiable_spec (mvT (args := args) b2 w6)
    refine selects_self_of_private z1 z2 ?_ hpr (mvT b2 w2) mi.2.1
    simp only [Bool.or_eq_false_iff] at z4
    exact z4.1
  obtain ⟨v, vm₁, ⟨T', L1, k1, n1⟩, -, X', ⟨Lc, ⟨hv, S', N'⟩, l1, l2, l3⟩, stp⟩ := X.privateBack b1 (y := M'.1) b7 (mvT b2 w1) (mvT b2 w2) hsel hpr (mvT b2 w4) mi.2.1 (g.back (as := .ref i :: as) (W := W) hls mi.1 S b2 w4 w3 (Nat.le_trans hF a1) (Nat.le_trans hLo a2)) (g := mkF m pc (LL K.2.2.2 ls) (SS K.2.2.2 (as.reverse ++ .ref i :: st))) rfl (by rw [b4, ← hsz]; exact LL_size _ _) (Steps.refl _) (a := K.2.2.2 + i) qa qb (argsL := SS K.2.2.2 as) (rest := SS K.2.2.2 st) (mi.len has) hstk (by show 2 * 0 + _ ≤ W; rw [cats, hW]; omega) (b3 ▸ hd) (fun _ _ => ⟨rfl, rfl, by show cells + dc1 ≤ _; omega, by show slots + ds1 ≤ _; omega⟩)
  dsimp only [Pt.U, Pt.locs, Pt.cells, Pt.slots] at X' l1 l2 l3 stp S' hv
  subst l1 l2 l3 hv
  obtain ⟨s₂, L, q1, q2, q3, q4, q5, q6⟩ := h R (cells + dc1) (slots + ds1) p e s m args below meth c T' _ a1 a2 (by show cells + dc1 + dc ≤ _; omega) (by show slots + ds1 + ds ≤ _; omega) b1 b2 b3 b4 b5 b6 b7 b8 X' (S' _ rfl) (N.app N')
  refine ⟨s₂, L, stp.trans ?_, q2, q3, q4, q5, q6.1, q6.2.1, q6.2.2.mono (by show cells + dc1 + dc ≤ cells + dct; omega) (by show slots + ds1 + ds ≤ slots + dst; omega)⟩
  rw [← SS_ret] at q1
  exact q1
theorem Go.initObj {idx i W : Nat} (hd : Dec M pc (.invokespecial idx) 3 pc') (w1 : (Jvm.Cond.methodLink M.1.cls idx Lib.objectInit).before K.2.2.1 K.2.1 = true) (w2 : (Jvm.Cond.instanceMethod Lib.objectInit).before K.2.2.1 K.2.1 = true) (w3 : (Jvm.Cond.code Lib.objectInit ⟨#[0xb1]⟩ 1 none).before K.2.2.1 K.2.1 = true)
    (hsz : ls.length = M.2.2.1) (hW : (st.map fun v => v.category).sum = W) (hF : 1 ≤ F) (hLo : W + 12 ≤ Lo) (h : Go K M F Lo pc' ls st H r) : Go K M F Lo pc ls (.ref i :: st) H r := by
  obtain ⟨hd, rfl⟩ := hd
  intro R cells slots p e s m args below meth c T locs a1 a2 a3 a4 b1 b2 b3 b4 b5 b6 b7 b8 X S N
  obtain ⟨T', X', e', stp⟩ := initO X b1 b2 b7 w1 w2 w3 rfl (g := mkF m pc (LL K.2.2.2 ls) (SS K.2.2.2 (.ref i :: st))) rfl (by rw [b4, ← hsz]; exact LL_size _ _) (rest := SS K.2.2.2 st) rfl (b3 ▸ hd) (Nat.le_trans hF a1) (W := W) (by show 2 * 0 + _ ≤ W; rw [cats, hW]; omega) (Nat.le_trans hLo a2)
  obtain ⟨s₂, L, q1, q⟩ := h R cells slots p e s m args below meth c T' locs a1 a2 a3 a4 b1 b2 b3 b4 b5 b6 b7 b8 X' (e' ▸ S) N
  exact ⟨s₂, L, stp _ q1, q⟩
theorem Go.cloneArr {idx i j W : Nat} {t : FieldType} {vs : List Value} {ad : String} (cap : Nat) {rv : Option Value} {H' : Option Hp} {dct dst : Nat} (hd : Dec M pc (.invokevirtual idx) 3 pc') (w1 : (Jvm.Cond.methodLink M.1.cls idx ⟨ad, "clone", "()Ljava/lang/Object;"⟩).before K.2.2.1 K.2.1 = true) (w2 : (Jvm.Cond.sameMethod ad "java/lang/Object" "clone" "()Ljava/lang/Object;").before K.2.2.1 K.2.1 = true) (w3 : (Jvm.Cond.native ⟨"java/lang/Object", "clone", "()Ljava/lang/Object;"⟩).before K.2.2.1 K.2.1 = true)
    (w4 : (Jvm.Cond.instanceMethod ⟨"java/lang/Object", "clone", "()Ljava/lang/Object;"⟩).before K.2.2.1 K.2.1 = true) (w5 : (Jvm.Cond.selects ad ⟨ad, "clone", "()Ljava/lang/Object;"⟩ ⟨"java/lang/Object", "clone", "()Ljava/lang/Object;"⟩).before K.2.2.1 K.2.1 = true) (w6 : (Jvm.Cond.castable ad "java/lang/Cloneable").before K.2.2.1 K.2.1 = true)
    (had : "[" ++ t.toString = ad) (hH : H[i]? = some (.inr (t, vs))) (hfit : ∀ v ∈ vs, ∀ n0, fits t (sv n0 v) = true) (hcap : vs.length ≤ cap) (hj : H.length = j) (hsz : ls.length = M.2.2.1) (hW : (st.map fun v => v.category).sum = W) (hF : 1 ≤ F) (hLo : W + 14 ≤ Lo)
    (dc ds : Nat) (hdc : dc + 1 ≤ dct) (hds : ds + cap ≤ dst) (h : Go K M F Lo pc' ls (.ref j :: st) (H ++ [.inr (t, vs)]) (rv, H', dc, ds)) : Go K M F Lo pc ls (.ref i :: st) H (rv, H', dct, dst) := by
  obtain ⟨hd, rfl⟩ := hd
  intro R cells slots p e s m args below meth c T locs a1 a2 a3 a4 b1 b2 b3 b4 b5 b6 b7 b8 X S N
  subst hj had
  have a3' : cells + dct ≤ R.cells := a3
  have a4' : slots + dst ≤ R.slots := a4
  obtain ⟨Ex, cl, Ar, hcl⟩ := S.2 i _ hH
  have hlen : cl.slots.size = vs.length := by rw [hcl]; simp
  have Fc : FitC K.2.1 cl := fitC_of Ar fun k hk v hv => by
    rw [hcl] at hv
    simp only [List.getElem?_toArray, List.getElem?_map] at hv
    cases hq : vs[k]? with
    | none => rw [hq] at hv; cases hv
    | some w => rw [hq] at hv; cases hv; exact hfit w (List.mem_of_getElem? hq) _
  obtain ⟨c2, k, e1, e2, e3, e4, e5⟩ := Ex
  cases Ar.1.symm.trans e1
  obtain ⟨c1, cC, g1, g2, g3⟩ := Cond.castable_spec w6
  cases e2.symm.trans g1
  have hal : K.2.1.vm.Alike T.vm := b2.alike.trans X.warmed.alike
  obtain ⟨vm', X', stp⟩ := X.cloneArray b1 b7 (mv b2 w1) (mv b2 w2) (mv b2 w3) (mv b2 w4) (mv b2 w5) (a := K.2.2.2 + i) Ar.1 Ar.2.1.1 Ar.2.2 (by rw [b2.alike.findClass]; exact e2) (by rw [b2.alike.findClass]; exact g2) (by rw [b2.alike.assignable]; exact g3)
    (fun i v hv => by have q := Fc i v hv; rw [← State.fitsSlot_setVm hal] at q; exact q) (g := mkF m pc (LL K.2.2.2 ls) (SS K.2.2.2 (.ref i :: st))) rfl (by rw [b4, ← hsz]; exact LL_size _ _) (rest := SS K.2.2.2 st) rfl (b3 ▸ hd) (Nat.le_trans hF a1) (by show 2 * 0 + _ + 14 ≤ _; rw [cats, hW]; omega) (by omega) (by omega)
    (by obtain ⟨-, k2, hk2, comp, hkind⟩ := Ar.2.1; rw [b2.alike.clonesLoader]; exact Vm.clonesLoader_of_array hk2 hkind)
  have hN : (T.heap.push (cloneOf cl))[T.heap.size]? = some (cloneOf cl) := by simp
  have S' : Sim K (T.heap.push (cloneOf cl)) (H ++ [.inr (t, vs)]) := by
    refine S.push (ext_of fun a q => Array.getElem?_push_lt q |>.trans (Array.getElem?_eq_getElem q).symm) (by simp) ?_
    rw [← S.1]
    exact ⟨⟨_, k, hN, e2, e3, rfl, e5⟩, _, ⟨hN, ⟨fun _ z => (by cases z), Ar.2.1.2⟩, fun z => (by cases z)⟩, hcl⟩
  obtain ⟨s₂, L, q1, q2, q3, q4, q5, q6⟩ := h R (cells + 1) (slots + cap) p e s m args below meth c _ locs a1 a2 (by show cells + 1 + dc ≤ _; omega) (by show slots + cap + ds ≤ _; omega) b1 b2 b3 b4 b5 b6 b7 b8 (X'.more (Nat.le_refl _) (by omega)) S' N
  refine ⟨s₂, L, stp _ ?_, q2, q3, q4, q5, q6.1, q6.2.1, q6.2.2.mono (by show cells + 1 + dc ≤ cells + dct; omega) (by show slots + cap + ds ≤ slots + dst; omega)⟩
  have e : SS K.2.2.2 (.ref H.length :: st) = .ref T.heap.size :: SS K.2.2.2 st := by rw [S.1]; rfl
  rw [e] at q1
  exact q1
theorem Go.checkcastArr {idx i : Nat} {t : FieldType} {vs : List Value} {C : String} (hd : Dec M pc (.checkcast idx) 3 pc') (w : (Jvm.Cond.classLink M.1.cls idx C).before K.2.2.1 K.2.1 = true) (hC : "[" ++ t.toString = C) (hH : H[i]? = some (.inr (t, vs))) (h : Go K M F Lo pc' ls (.ref i :: st) H r) : Go K M F Lo pc ls (.ref i :: st) H r := by
  obtain ⟨hd, rfl⟩ := hd
  intro R cells slots p e s m args below meth c T locs a1 a2 a3 a4 b1 b2 b3 b4 b5 b6 b7 b8 X S N
  subst hC
  obtain ⟨T', X', e', stp⟩ := castY X b1 b2 b7 w rfl (Ins.self (S.2 i _ hH).1) (g := mkF m pc (LL K.2.2.2 ls) (SS K.2.2.2 (.ref i :: st))) rfl (rest := SS K.2.2.2 st) rfl (b3 ▸ hd)
  obtain ⟨s₂, L, q1, q⟩ := h R cells slots p e s m args below meth c T' locs a1 a2 a3 a4 b1 b2 b3 b4 b5 b6 b7 b8 X' (e' ▸ S) N
  exact ⟨s₂, L, stp _ q1, q⟩
end G
end Jvm.OwnGo
namespace Jvm.Pilot.@@N@@
open Jvm Jvm.ClassFile Sem Op Lib Jvm.Free Jvm.Stand Jvm.LawKit Jvm.RoadKit Bundle Jvm.Pilot.@@N@@.Jvm.D Jvm.OwnGo
abbrev m0 : Mt := (x, code, maxLocals, ret)
theorem mi0 : MInfo m0 5 := by decide +kernel
theorem d0_0 : Dec m0 0 (.iload_n 0) 1 1 := by decide +kernel
theorem d0_1 : Dec m0 1 (.ldc 7) 2 3 := by decide +kernel
theorem d0_3 : Dec m0 3 (.iand) 1 4 := by decide +kernel
theorem d0_4 : Dec m0 4 (.bipush 7) 2 6 := by decide +kernel
theorem d0_6 : Dec m0 6 (.irem) 1 7 := by decide +kernel
theorem d0_7 : Dec m0 7 (.istore 5) 2 9 := by decide +kernel
theorem d0_9 : Dec m0 9 (.iload_n 2) 1 10 := by decide +kernel
theorem d0_10 : Dec m0 10 (.ldc 8) 2 12 := by decide +kernel
theorem d0_12 : Dec m0 12 (.iand) 1 13 := by decide +kernel
theorem d0_13 : Dec m0 13 (.istore 6) 2 15 := by decide +kernel
theorem d0_15 : Dec m0 15 (.iload_n 3) 1 16 := by decide +kernel
theorem d0_16 : Dec m0 16 (.ldc 8) 2 18 := by decide +kernel
theorem d0_18 : Dec m0 18 (.iand) 1 19 := by decide +kernel
theorem d0_19 : Dec m0 19 (.istore 7) 2 21 := by decide +kernel
theorem d0_21 : Dec m0 21 (.iload 4) 2 23 := by decide +kernel
theorem d0_23 : Dec m0 23 (.ldc 8) 2 25 := by decide +kernel
theorem d0_25 : Dec m0 25 (.iand) 1 26 := by decide +kernel
theorem d0_26 : Dec m0 26 (.istore 8) 2 28 := by decide +kernel
theorem d0_28 : Dec m0 28 (.iload 5) 2 30 := by decide +kernel
theorem d0_30 : Dec m0 30 (.newarray .int) 2 32 := by decide +kernel
theorem d0_32 : Dec m0 32 (.astore 9) 2 34 := by decide +kernel
theorem d0_34 : Dec m0 34 (.iload 5) 2 36 := by decide +kernel
theorem d0_36 : Dec m0 36 (.ifCond .le 18) 3 39 := by decide +kernel
theorem j0_36 : Jmp 36 (18) 54 := by decide
theorem d0_39 : Dec m0 39 (.aload 9) 2 41 := by decide +kernel
theorem d0_41 : Dec m0 41 (.iconst 0) 1 42 := by decide +kernel
theorem d0_42 : Dec m0 42 (.iload_n 1) 1 43 := by decide +kernel
theorem d0_43 : Dec m0 43 (.iconst 0) 1 44 := by decide +kernel
theorem d0_44 : Dec m0 44 (.iload 6) 2 46 := by decide +kernel
theorem d0_46 : Dec m0 46 (.iload 7) 2 48 := by decide +kernel
theorem d0_48 : Dec m0 48 (.iload 8) 2 50 := by decide +kernel
theorem d0_50 : Dec m0 50 (.invokestatic 9) 3 53 := by decide +kernel
theorem d0_53 : Dec m0 53 (.iastore) 1 54 := by decide +kernel
theorem d0_54 : Dec m0 54 (.iload 5) 2 56 := by decide +kernel
theorem d0_56 : Dec m0 56 (.iconst 1) 1 57 := by decide +kernel
theorem d0_57 : Dec m0 57 (.if_icmp .le 18) 3 60 := by decide +kernel
theorem j0_57 : Jmp 57 (18) 75 := by decide
theorem d0_60 : Dec m0 60 (.aload 9) 2 62 := by decide +kernel
theorem d0_62 : Dec m0 62 (.iconst 1) 1 63 := by decide +kernel
theorem d0_63 : Dec m0 63 (.iload_n 1) 1 64 := by decide +kernel
theorem d0_64 : Dec m0 64 (.iconst 1) 1 65 := by decide +kernel
theorem d0_65 : Dec m0 65 (.iload 6) 2 67 := by decide +kernel
theorem d0_67 : Dec m0 67 (.iload 7) 2 69 := by decide +kernel
theorem d0_69 : Dec m0 69 (.iload 8) 2 71 := by decide +kernel
theorem d0_71 : Dec m0 71 (.invokestatic 9) 3 74 := by decide +kernel
theorem d0_74 : Dec m0 74 (.iastore) 1 75 := by decide +kernel
theorem d0_75 : Dec m0 75 (.iload 5) 2 77 := by decide +kernel
theorem d0_77 : Dec m0 77 (.iconst 2) 1 78 := by decide +kernel
theorem d0_78 : Dec m0 78 (.if_icmp .le 18) 3 81 := by decide +kernel
theorem j0_78 : Jmp 78 (18) 96 := by decide
theorem d0_81 : Dec m0 81 (.aload 9) 2 83 := by decide +kernel
theorem d0_83 : Dec m0 83 (.iconst 2) 1 84 := by decide +kernel
theorem d0_84 : Dec m0 84 (.iload_n 1) 1 85 := by decide +kernel
theorem d0_85 : Dec m0 85 (.iconst 2) 1 86 := by decide +kernel
theorem d0_86 : Dec m0 86 (.iload 6) 2 88 := by decide +kernel
theorem d0_88 : Dec m0 88 (.iload 7) 2 90 := by decide +kernel
theorem d0_90 : Dec m0 90 (.iload 8) 2 92 := by decide +kernel
theorem d0_92 : Dec m0 92 (.invokestatic 9) 3 95 := by decide +kernel
theorem d0_95 : Dec m0 95 (.iastore) 1 96 := by decide +kernel
theorem d0_96 : Dec m0 96 (.iload 5) 2 98 := by decide +kernel
theorem d0_98 : Dec m0 98 (.iconst 3) 1 99 := by decide +kernel
theorem d0_99 : Dec m0 99 (.if_icmp .le 18) 3 102 := by decide +kernel
theorem j0_99 : Jmp 99 (18) 117 := by decide
theorem d0_102 : Dec m0 102 (.aload 9) 2 104 := by decide +kernel
theorem d0_104 : Dec m0 104 (.iconst 3) 1 105 := by decide +kernel
theorem d0_105 : Dec m0 105 (.iload_n 1) 1 106 := by decide +kernel
theorem d0_106 : Dec m0 106 (.iconst 3) 1 107 := by decide +kernel
theorem d0_107 : Dec m0 107 (.iload 6) 2 109 := by decide +kernel
theorem d0_109 : Dec m0 109 (.iload 7) 2 111 := by decide +kernel
theorem d0_111 : Dec m0 111 (.iload 8) 2 113 := by decide +kernel
theorem d0_113 : Dec m0 113 (.invokestatic 9) 3 116 := by decide +kernel
theorem d0_116 : Dec m0 116 (.iastore) 1 117 := by decide +kernel
theorem d0_117 : Dec m0 117 (.iload 5) 2 119 := by decide +kernel
theorem d0_119 : Dec m0 119 (.iconst 4) 1 120 := by decide +kernel
theorem d0_120 : Dec m0 120 (.if_icmp .le 18) 3 123 := by decide +kernel
theorem j0_120 : Jmp 120 (18) 138 := by decide
theorem d0_123 : Dec m0 123 (.aload 9) 2 125 := by decide +kernel
theorem d0_125 : Dec m0 125 (.iconst 4) 1 126 := by decide +kernel
theorem d0_126 : Dec m0 126 (.iload_n 1) 1 127 := by decide +kernel
theorem d0_127 : Dec m0 127 (.iconst 4) 1 128 := by decide +kernel
theorem d0_128 : Dec m0 128 (.iload 6) 2 130 := by decide +kernel
theorem d0_130 : Dec m0 130 (.iload 7) 2 132 := by decide +kernel
theorem d0_132 : Dec m0 132 (.iload 8) 2 134 := by decide +kernel
theorem d0_134 : Dec m0 134 (.invokestatic 9) 3 137 := by decide +kernel
theorem d0_137 : Dec m0 137 (.iastore) 1 138 := by decide +kernel
theorem d0_138 : Dec m0 138 (.iload 5) 2 140 := by decide +kernel
theorem d0_140 : Dec m0 140 (.iconst 5) 1 141 := by decide +kernel
theorem d0_141 : Dec m0 141 (.if_icmp .le 18) 3 144 := by decide +kernel
theorem j0_141 : Jmp 141 (18) 159 := by decide
theorem d0_144 : Dec m0 144 (.aload 9) 2 146 := by decide +kernel
theorem d0_146 : Dec m0 146 (.iconst 5) 1 147 := by decide +kernel
theorem d0_147 : Dec m0 147 (.iload_n 1) 1 148 := by decide +kernel
theorem d0_148 : Dec m0 148 (.iconst 5) 1 149 := by decide +kernel
theorem d0_149 : Dec m0 149 (.iload 6) 2 151 := by decide +kernel
theorem d0_151 : Dec m0 151 (.iload 7) 2 153 := by decide +kernel
theorem d0_153 : Dec m0 153 (.iload 8) 2 155 := by decide +kernel
theorem d0_155 : Dec m0 155 (.invokestatic 9) 3 158 := by decide +kernel
theorem d0_158 : Dec m0 158 (.iastore) 1 159 := by decide +kernel
theorem d0_159 : Dec m0 159 (.aload 9) 2 161 := by decide +kernel
theorem d0_161 : Dec m0 161 (.invokestatic 15) 3 164 := by decide +kernel
theorem d0_164 : Dec m0 164 (.astore 10) 2 166 := by decide +kernel
theorem d0_166 : Dec m0 166 (.aload 10) 2 168 := by decide +kernel
theorem d0_168 : Dec m0 168 (.ifnull 18) 3 171 := by decide +kernel
theorem j0_168 : Jmp 168 (18) 186 := by decide
theorem d0_171 : Dec m0 171 (.aload 10) 2 173 := by decide +kernel
theorem d0_173 : Dec m0 173 (.aload 9) 2 175 := by decide +kernel
theorem d0_175 : Dec m0 175 (.if_acmp .eq 11) 3 178 := by decide +kernel
theorem j0_175 : Jmp 175 (11) 186 := by decide
theorem d0_178 : Dec m0 178 (.aload 10) 2 180 := by decide +kernel
theorem d0_180 : Dec m0 180 (.arraylength) 1 181 := by decide +kernel
theorem d0_181 : Dec m0 181 (.iload 5) 2 183 := by decide +kernel
theorem d0_183 : Dec m0 183 (.if_icmp .eq 5) 3 186 := by decide +kernel
theorem j0_183 : Jmp 183 (5) 188 := by decide
theorem d0_186 : Dec m0 186 (.iconst 0) 1 187 := by decide +kernel
theorem d0_187 : Dec m0 187 (.ireturn) 1 188 := by decide +kernel
theorem d0_188 : Dec m0 188 (.aload 10) 2 190 := by decide +kernel
theorem d0_190 : Dec m0 190 (.aload 9) 2 192 := by decide +kernel
theorem d0_192 : Dec m0 192 (.iconst 0) 1 193 := by decide +kernel
theorem d0_193 : Dec m0 193 (.iload 5) 2 195 := by decide +kernel
theorem d0_195 : Dec m0 195 (.invokestatic 21) 3 198 := by decide +kernel
theorem d0_198 : Dec m0 198 (.istore 11) 2 200 := by decide +kernel
theorem d0_200 : Dec m0 200 (.iload 11) 2 202 := by decide +kernel
theorem d0_202 : Dec m0 202 (.ifCond .eq 20) 3 205 := by decide +kernel
theorem j0_202 : Jmp 202 (20) 222 := by decide
theorem d0_205 : Dec m0 205 (.aload 10) 2 207 := by decide +kernel
theorem d0_207 : Dec m0 207 (.aload 9) 2 209 := by decide +kernel
theorem d0_209 : Dec m0 209 (.iconst 1) 1 210 := by decide +kernel
theorem d0_210 : Dec m0 210 (.iload 5) 2 212 := by decide +kernel
theorem d0_212 : Dec m0 212 (.invokestatic 21) 3 215 := by decide +kernel
theorem d0_215 : Dec m0 215 (.ifCond .eq 7) 3 218 := by decide +kernel
theorem j0_215 : Jmp 215 (7) 222 := by decide
theorem d0_218 : Dec m0 218 (.iconst 1) 1 219 := by decide +kernel
theorem d0_219 : Dec m0 219 (.goto 4) 3 222 := by decide +kernel
theorem j0_219 : Jmp 219 (4) 223 := by decide
theorem d0_222 : Dec m0 222 (.iconst 0) 1 223 := by decide +kernel
theorem d0_223 : Dec m0 223 (.istore 11) 2 225 := by decide +kernel
theorem d0_225 : Dec m0 225 (.iload 11) 2 227 := by decide +kernel
theorem d0_227 : Dec m0 227 (.ifCond .eq 20) 3 230 := by decide +kernel
theorem j0_227 : Jmp 227 (20) 247 := by decide
theorem d0_230 : Dec m0 230 (.aload 10) 2 232 := by decide +kernel
theorem d0_232 : Dec m0 232 (.aload 9) 2 234 := by decide +kernel
theorem d0_234 : Dec m0 234 (.iconst 2) 1 235 := by decide +kernel
theorem d0_235 : Dec m0 235 (.iload 5) 2 237 := by decide +kernel
theorem d0_237 : Dec m0 237 (.invokestatic 21) 3 240 := by decide +kernel
theorem d0_240 : Dec m0 240 (.ifCond .eq 7) 3 243 := by decide +kernel
theorem j0_240 : Jmp 240 (7) 247 := by decide
theorem d0_243 : Dec m0 243 (.iconst 1) 1 244 := by decide +kernel
theorem d0_244 : Dec m0 244 (.goto 4) 3 247 := by decide +kernel
theorem j0_244 : Jmp 244 (4) 248 := by decide
theorem d0_247 : Dec m0 247 (.iconst 0) 1 248 := by decide +kernel
theorem d0_248 : Dec m0 248 (.istore 11) 2 250 := by decide +kernel
theorem d0_250 : Dec m0 250 (.iload 11) 2 252 := by decide +kernel
theorem d0_252 : Dec m0 252 (.ifCond .eq 20) 3 255 := by decide +kernel
theorem j0_252 : Jmp 252 (20) 272 := by decide
theorem d0_255 : Dec m0 255 (.aload 10) 2 257 := by decide +kernel
theorem d0_257 : Dec m0 257 (.aload 9) 2 259 := by decide +kernel
theorem d0_259 : Dec m0 259 (.iconst 3) 1 260 := by decide +kernel
theorem d0_260 : Dec m0 260 (.iload 5) 2 262 := by decide +kernel
theorem d0_262 : Dec m0 262 (.invokestatic 21) 3 265 := by decide +kernel
theorem d0_265 : Dec m0 265 (.ifCond .eq 7) 3 268 := by decide +kernel
theorem j0_265 : Jmp 265 (7) 272 := by decide
theorem d0_268 : Dec m0 268 (.iconst 1) 1 269 := by decide +kernel
theorem d0_269 : Dec m0 269 (.goto 4) 3 272 := by decide +kernel
theorem j0_269 : Jmp 269 (4) 273 := by decide
theorem d0_272 : Dec m0 272 (.iconst 0) 1 273 := by decide +kernel
theorem d0_273 : Dec m0 273 (.istore 11) 2 275 := by decide +kernel
theorem d0_275 : Dec m0 275 (.iload 11) 2 277 := by decide +kernel
theorem d0_277 : Dec m0 277 (.ifCond .eq 20) 3 280 := by decide +kernel
theorem j0_277 : Jmp 277 (20) 297 := by decide
theorem d0_280 : Dec m0 280 (.aload 10) 2 282 := by decide +kernel
theorem d0_282 : Dec m0 282 (.aload 9) 2 284 := by decide +kernel
theorem d0_284 : Dec m0 284 (.iconst 4) 1 285 := by decide +kernel
theorem d0_285 : Dec m0 285 (.iload 5) 2 287 := by decide +kernel
theorem d0_287 : Dec m0 287 (.invokestatic 21) 3 290 := by decide +kernel
theorem d0_290 : Dec m0 290 (.ifCond .eq 7) 3 293 := by decide +kernel
theorem j0_290 : Jmp 290 (7) 297 := by decide
theorem d0_293 : Dec m0 293 (.iconst 1) 1 294 := by decide +kernel
theorem d0_294 : Dec m0 294 (.goto 4) 3 297 := by decide +kernel
theorem j0_294 : Jmp 294 (4) 298 := by decide
theorem d0_297 : Dec m0 297 (.iconst 0) 1 298 := by decide +kernel
theorem d0_298 : Dec m0 298 (.istore 11) 2 300 := by decide +kernel
theorem d0_300 : Dec m0 300 (.iload 11) 2 302 := by decide +kernel
theorem d0_302 : Dec m0 302 (.ifCond .eq 20) 3 305 := by decide +kernel
theorem j0_302 : Jmp 302 (20) 322 := by decide
theorem d0_305 : Dec m0 305 (.aload 10) 2 307 := by decide +kernel
theorem d0_307 : Dec m0 307 (.aload 9) 2 309 := by decide +kernel
theorem d0_309 : Dec m0 309 (.iconst 5) 1 310 := by decide +kernel
theorem d0_310 : Dec m0 310 (.iload 5) 2 312 := by decide +kernel
theorem d0_312 : Dec m0 312 (.invokestatic 21) 3 315 := by decide +kernel
theorem d0_315 : Dec m0 315 (.ifCond .eq 7) 3 318 := by decide +kernel
theorem j0_315 : Jmp 315 (7) 322 := by decide
theorem d0_318 : Dec m0 318 (.iconst 1) 1 319 := by decide +kernel
theorem d0_319 : Dec m0 319 (.goto 4) 3 322 := by decide +kernel
theorem j0_319 : Jmp 319 (4) 323 := by decide
theorem d0_322 : Dec m0 322 (.iconst 0) 1 323 := by decide +kernel
theorem d0_323 : Dec m0 323 (.istore 11) 2 325 := by decide +kernel
theorem d0_325 : Dec m0 325 (.iload 11) 2 327 := by decide +kernel
theorem d0_327 : Dec m0 327 (.ireturn) 1 328 := by decide +kernel
abbrev m1 : Mt := (⟨"com/example/skipstitch/skipstitch/core/BorderTable", "of", "([I)[I"⟩, prog_41_method_2_code, 4, some (.array .int))
theorem mi1 : MInfo m1 1 := by decide +kernel
theorem d1_0 : Dec m1 0 (.aload_n 0) 1 1 := by decide +kernel
theorem d1_1 : Dec m1 1 (.arraylength) 1 2 := by decide +kernel
theorem d1_2 : Dec m1 2 (.newarray .int) 2 4 := by decide +kernel
theorem d1_4 : Dec m1 4 (.astore_n 1) 1 5 := by decide +kernel
theorem d1_5 : Dec m1 5 (.iconst 0) 1 6 := by decide +kernel
theorem d1_6 : Dec m1 6 (.istore_n 2) 1 7 := by decide +kernel
theorem d1_7 : Dec m1 7 (.iconst 1) 1 8 := by decide +kernel
theorem d1_8 : Dec m1 8 (.istore_n 3) 1 9 := by decide +kernel
theorem d1_9 : Dec m1 9 (.iload_n 3) 1 10 := by decide +kernel
theorem d1_10 : Dec m1 10 (.aload_n 0) 1 11 := by decide +kernel
theorem d1_11 : Dec m1 11 (.arraylength) 1 12 := by decide +kernel
theorem d1_12 : Dec m1 12 (.if_icmp .ge 47) 3 15 := by decide +kernel
theorem j1_12 : Jmp 12 (47) 59 := by decide
theorem d1_15 : Dec m1 15 (.iload_n 2) 1 16 := by decide +kernel
theorem d1_16 : Dec m1 16 (.ifCond .le 21) 3 19 := by decide +kernel
theorem j1_16 : Jmp 16 (21) 37 := by decide
theorem d1_19 : Dec m1 19 (.aload_n 0) 1 20 := by decide +kernel
theorem d1_20 : Dec m1 20 (.iload_n 3) 1 21 := by decide +kernel
theorem d1_21 : Dec m1 21 (.iaload) 1 22 := by decide +kernel
theorem d1_22 : Dec m1 22 (.aload_n 0) 1 23 := by decide +kernel
theorem d1_23 : Dec m1 23 (.iload_n 2) 1 24 := by decide +kernel
theorem d1_24 : Dec m1 24 (.iaload) 1 25 := by decide +kernel
theorem d1_25 : Dec m1 25 (.if_icmp .eq 12) 3 28 := by decide +kernel
theorem j1_25 : Jmp 25 (12) 37 := by decide
theorem d1_28 : Dec m1 28 (.aload_n 1) 1 29 := by decide +kernel
theorem d1_29 : Dec m1 29 (.iload_n 2) 1 30 := by decide +kernel
theorem d1_30 : Dec m1 30 (.iconst 1) 1 31 := by decide +kernel
theorem d1_31 : Dec m1 31 (.isub) 1 32 := by decide +kernel
theorem d1_32 : Dec m1 32 (.iaload) 1 33 := by decide +kernel
theorem d1_33 : Dec m1 33 (.istore_n 2) 1 34 := by decide +kernel
theorem d1_34 : Dec m1 34 (.goto (-19)) 3 37 := by decide +kernel
theorem j1_34 : Jmp 34 (-19) 15 := by decide
theorem d1_37 : Dec m1 37 (.aload_n 0) 1 38 := by decide +kernel
theorem d1_38 : Dec m1 38 (.iload_n 3) 1 39 := by decide +kernel
theorem d1_39 : Dec m1 39 (.iaload) 1 40 := by decide +kernel
theorem d1_40 : Dec m1 40 (.aload_n 0) 1 41 := by decide +kernel
theorem d1_41 : Dec m1 41 (.iload_n 2) 1 42 := by decide +kernel
theorem d1_42 : Dec m1 42 (.iaload) 1 43 := by decide +kernel
theorem d1_43 : Dec m1 43 (.if_icmp .ne 6) 3 46 := by decide +kernel
theorem j1_43 : Jmp 43 (6) 49 := by decide
theorem d1_46 : Dec m1 46 (.iinc 2 1) 3 49 := by decide +kernel
theorem d1_49 : Dec m1 49 (.aload_n 1) 1 50 := by decide +kernel
theorem d1_50 : Dec m1 50 (.iload_n 3) 1 51 := by decide +kernel
theorem d1_51 : Dec m1 51 (.iload_n 2) 1 52 := by decide +kernel
theorem d1_52 : Dec m1 52 (.iastore) 1 53 := by decide +kernel
theorem d1_53 : Dec m1 53 (.iinc 3 1) 3 56 := by decide +kernel
theorem d1_56 : Dec m1 56 (.goto (-47)) 3 59 := by decide +kernel
theorem j1_56 : Jmp 56 (-47) 9 := by decide
theorem d1_59 : Dec m1 59 (.aload_n 1) 1 60 := by decide +kernel
theorem d1_60 : Dec m1 60 (.areturn) 1 61 := by decide +kernel
abbrev m2 : Mt := (⟨"com/example/skipstitch/skipstitch/core/BorderTableOfPinLaw", "entry", "([I[III)Z"⟩, method_4_code, 4, some .boolean)
theorem mi2 : MInfo m2 4 := by decide +kernel
theorem d2_0 : Dec m2 0 (.iload_n 2) 1 1 := by decide +kernel
theorem d2_1 : Dec m2 1 (.iload_n 3) 1 2 := by decide +kernel
theorem d2_2 : Dec m2 2 (.if_icmp .lt 5) 3 5 := by decide +kernel
theorem j2_2 : Jmp 2 (5) 7 := by decide
theorem d2_5 : Dec m2 5 (.iconst 1) 1 6 := by decide +kernel
theorem d2_6 : Dec m2 6 (.ireturn) 1 7 := by decide +kernel
theorem d2_7 : Dec m2 7 (.aload_n 0) 1 8 := by decide +kernel
theorem d2_8 : Dec m2 8 (.iload_n 2) 1 9 := by decide +kernel
theorem d2_9 : Dec m2 9 (.iaload) 1 10 := by decide +kernel
theorem d2_10 : Dec m2 10 (.aload_n 1) 1 11 := by decide +kernel
theorem d2_11 : Dec m2 11 (.iload_n 2) 1 12 := by decide +kernel
theorem d2_12 : Dec m2 12 (.iconst 1) 1 13 := by decide +kernel
theorem d2_13 : Dec m2 13 (.iadd) 1 14 := by decide +kernel
theorem d2_14 : Dec m2 14 (.invokestatic 25) 3 17 := by decide +kernel
theorem d2_17 : Dec m2 17 (.if_icmp .ne 7) 3 20 := by decide +kernel
theorem j2_17 : Jmp 17 (7) 24 := by decide
theorem d2_20 : Dec m2 20 (.iconst 1) 1 21 := by decide +kernel
theorem d2_21 : Dec m2 21 (.goto 4) 3 24 := by decide +kernel
theorem j2_21 : Jmp 21 (4) 25 := by decide
theorem d2_24 : Dec m2 24 (.iconst 0) 1 25 := by decide +kernel
theorem d2_25 : Dec m2 25 (.ireturn) 1 26 := by decide +kernel
abbrev m3 : Mt := (⟨"com/example/skipstitch/skipstitch/core/BorderTableOfPinLaw", "sym", "(IIIII)I"⟩, method_3_code, 6, some .int)
theorem mi3 : MInfo m3 5 := by decide +kernel
theorem d3_0 : Dec m3 0 (.iload_n 0) 1 1 := by decide +kernel
theorem d3_1 : Dec m3 1 (.iconst 2) 1 2 := by decide +kernel
theorem d3_2 : Dec m3 2 (.iload_n 1) 1 3 := by decide +kernel
theorem d3_3 : Dec m3 3 (.imul) 1 4 := by decide +kernel
theorem d3_4 : Dec m3 4 (.iushr) 1 5 := by decide +kernel
theorem d3_5 : Dec m3 5 (.iconst 3) 1 6 := by decide +kernel
theorem d3_6 : Dec m3 6 (.iand) 1 7 := by decide +kernel
theorem d3_7 : Dec m3 7 (.istore 5) 2 9 := by decide +kernel
theorem d3_9 : Dec m3 9 (.iload 5) 2 11 := by decide +kernel
theorem d3_11 : Dec m3 11 (.iconst 1) 1 12 := by decide +kernel
theorem d3_12 : Dec m3 12 (.if_icmp .ne 5) 3 15 := by decide +kernel
theorem j3_12 : Jmp 12 (5) 17 := by decide
theorem d3_15 : Dec m3 15 (.iload_n 3) 1 16 := by decide +kernel
theorem d3_16 : Dec m3 16 (.ireturn) 1 17 := by decide +kernel
theorem d3_17 : Dec m3 17 (.iload 5) 2 19 := by decide +kernel
theorem d3_19 : Dec m3 19 (.iconst 2) 1 20 := by decide +kernel
theorem d3_20 : Dec m3 20 (.if_icmp .ne 6) 3 23 := by decide +kernel
theorem j3_20 : Jmp 20 (6) 26 := by decide
theorem d3_23 : Dec m3 23 (.iload 4) 2 25 := by decide +kernel
theorem d3_25 : Dec m3 25 (.ireturn) 1 26 := by decide +kernel
theorem d3_26 : Dec m3 26 (.iload_n 2) 1 27 := by decide +kernel
theorem d3_27 : Dec m3 27 (.ireturn) 1 28 := by decide +kernel
abbrev m4 : Mt := (⟨"com/example/skipstitch/skipstitch/core/BorderTableOfPinLaw", "border", "([II)I"⟩, method_5_code, 2, some .int)
theorem mi4 : MInfo m4 2 := by decide +kernel
theorem d4_0 : Dec m4 0 (.iconst 5) 1 1 := by decide +kernel
theorem d4_1 : Dec m4 1 (.iload_n 1) 1 2 := by decide +kernel
theorem d4_2 : Dec m4 2 (.if_icmp .ge 14) 3 5 := by decide +kernel
theorem j4_2 : Jmp 2 (14) 16 := by decide
theorem d4_5 : Dec m4 5 (.aload_n 0) 1 6 := by decide +kernel
theorem d4_6 : Dec m4 6 (.iconst 5) 1 7 := by decide +kernel
theorem d4_7 : Dec m4 7 (.iload_n 1) 1 8 := by decide +kernel
theorem d4_8 : Dec m4 8 (.invokestatic 29) 3 11 := by decide +kernel
theorem d4_11 : Dec m4 11 (.ifCond .eq 5) 3 14 := by decide +kernel
theorem j4_11 : Jmp 11 (5) 16 := by decide
theorem d4_14 : Dec m4 14 (.iconst 5) 1 15 := by decide +kernel
theorem d4_15 : Dec m4 15 (.ireturn) 1 16 := by decide +kernel
theorem d4_16 : Dec m4 16 (.iconst 4) 1 17 := by decide +kernel
theorem d4_17 : Dec m4 17 (.iload_n 1) 1 18 := by decide +kernel
theorem d4_18 : Dec m4 18 (.if_icmp .ge 14) 3 21 := by decide +kernel
theorem j4_18 : Jmp 18 (14) 32 := by decide
theorem d4_21 : Dec m4 21 (.aload_n 0) 1 22 := by decide +kernel
theorem d4_22 : Dec m4 22 (.iconst 4) 1 23 := by decide +kernel
theorem d4_23 : Dec m4 23 (.iload_n 1) 1 24 := by decide +kernel
theorem d4_24 : Dec m4 24 (.invokestatic 29) 3 27 := by decide +kernel
theorem d4_27 : Dec m4 27 (.ifCond .eq 5) 3 30 := by decide +kernel
theorem j4_27 : Jmp 27 (5) 32 := by decide
theorem d4_30 : Dec m4 30 (.iconst 4) 1 31 := by decide +kernel
theorem d4_31 : Dec m4 31 (.ireturn) 1 32 := by decide +kernel
theorem d4_32 : Dec m4 32 (.iconst 3) 1 33 := by decide +kernel
theorem d4_33 : Dec m4 33 (.iload_n 1) 1 34 := by decide +kernel
theorem d4_34 : Dec m4 34 (.if_icmp .ge 14) 3 37 := by decide +kernel
theorem j4_34 : Jmp 34 (14) 48 := by decide
theorem d4_37 : Dec m4 37 (.aload_n 0) 1 38 := by decide +kernel
theorem d4_38 : Dec m4 38 (.iconst 3) 1 39 := by decide +kernel
theorem d4_39 : Dec m4 39 (.iload_n 1) 1 40 := by decide +kernel
theorem d4_40 : Dec m4 40 (.invokestatic 29) 3 43 := by decide +kernel
theorem d4_43 : Dec m4 43 (.ifCond .eq 5) 3 46 := by decide +kernel
theorem j4_43 : Jmp 43 (5) 48 := by decide
theorem d4_46 : Dec m4 46 (.iconst 3) 1 47 := by decide +kernel
theorem d4_47 : Dec m4 47 (.ireturn) 1 48 := by decide +kernel
theorem d4_48 : Dec m4 48 (.iconst 2) 1 49 := by decide +kernel
theorem d4_49 : Dec m4 49 (.iload_n 1) 1 50 := by decide +kernel
theorem d4_50 : Dec m4 50 (.if_icmp .ge 14) 3 53 := by decide +kernel
theorem j4_50 : Jmp 50 (14) 64 := by decide
theorem d4_53 : Dec m4 53 (.aload_n 0) 1 54 := by decide +kernel
theorem d4_54 : Dec m4 54 (.iconst 2) 1 55 := by decide +kernel
theorem d4_55 : Dec m4 55 (.iload_n 1) 1 56 := by decide +kernel
theorem d4_56 : Dec m4 56 (.invokestatic 29) 3 59 := by decide +kernel
theorem d4_59 : Dec m4 59 (.ifCond .eq 5) 3 62 := by decide +kernel
theorem j4_59 : Jmp 59 (5) 64 := by decide
theorem d4_62 : Dec m4 62 (.iconst 2) 1 63 := by decide +kernel
theorem d4_63 : Dec m4 63 (.ireturn) 1 64 := by decide +kernel
theorem d4_64 : Dec m4 64 (.iconst 1) 1 65 := by decide +kernel
theorem d4_65 : Dec m4 65 (.iload_n 1) 1 66 := by decide +kernel
theorem d4_66 : Dec m4 66 (.if_icmp .ge 14) 3 69 := by decide +kernel
theorem j4_66 : Jmp 66 (14) 80 := by decide
theorem d4_69 : Dec m4 69 (.aload_n 0) 1 70 := by decide +kernel
theorem d4_70 : Dec m4 70 (.iconst 1) 1 71 := by decide +kernel
theorem d4_71 : Dec m4 71 (.iload_n 1) 1 72 := by decide +kernel
theorem d4_72 : Dec m4 72 (.invokestatic 29) 3 75 := by decide +kernel
theorem d4_75 : Dec m4 75 (.ifCond .eq 5) 3 78 := by decide +kernel
theorem j4_75 : Jmp 75 (5) 80 := by decide
theorem d4_78 : Dec m4 78 (.iconst 1) 1 79 := by decide +kernel
theorem d4_79 : Dec m4 79 (.ireturn) 1 80 := by decide +kernel
theorem d4_80 : Dec m4 80 (.iconst 0) 1 81 := by decide +kernel
theorem d4_81 : Dec m4 81 (.ireturn) 1 82 := by decide +kernel
abbrev m5 : Mt := (⟨"com/example/skipstitch/skipstitch/core/BorderTableOfPinLaw", "matches", "([III)Z"⟩, method_6_code, 5, some .boolean)
theorem mi5 : MInfo m5 3 := by decide +kernel
theorem d5_0 : Dec m5 0 (.iload_n 2) 1 1 := by decide +kernel
theorem d5_1 : Dec m5 1 (.iload_n 1) 1 2 := by decide +kernel
theorem d5_2 : Dec m5 2 (.isub) 1 3 := by decide +kernel
theorem d5_3 : Dec m5 3 (.istore_n 3) 1 4 := by decide +kernel
theorem d5_4 : Dec m5 4 (.iconst 1) 1 5 := by decide +kernel
theorem d5_5 : Dec m5 5 (.istore 4) 2 7 := by decide +kernel
theorem d5_7 : Dec m5 7 (.iload_n 1) 1 8 := by decide +kernel
theorem d5_8 : Dec m5 8 (.ifCond .le 24) 3 11 := by decide +kernel
theorem j5_8 : Jmp 8 (24) 32 := by decide
theorem d5_11 : Dec m5 11 (.iload 4) 2 13 := by decide +kernel
theorem d5_13 : Dec m5 13 (.ifCond .eq 16) 3 16 := by decide +kernel
theorem j5_13 : Jmp 13 (16) 29 := by decide
theorem d5_16 : Dec m5 16 (.aload_n 0) 1 17 := by decide +kernel
theorem d5_17 : Dec m5 17 (.iconst 0) 1 18 := by decide +kernel
theorem d5_18 : Dec m5 18 (.iaload) 1 19 := by decide +kernel
theorem d5_19 : Dec m5 19 (.aload_n 0) 1 20 := by decide +kernel
theorem d5_20 : Dec m5 20 (.iload_n 3) 1 21 := by decide +kernel
theorem d5_21 : Dec m5 21 (.iaload) 1 22 := by decide +kernel
theorem d5_22 : Dec m5 22 (.if_icmp .ne 7) 3 25 := by decide +kernel
theorem j5_22 : Jmp 22 (7) 29 := by decide
theorem d5_25 : Dec m5 25 (.iconst 1) 1 26 := by decide +kernel
theorem d5_26 : Dec m5 26 (.goto 4) 3 29 := by decide +kernel
theorem j5_26 : Jmp 26 (4) 30 := by decide
theorem d5_29 : Dec m5 29 (.iconst 0) 1 30 := by decide +kernel
theorem d5_30 : Dec m5 30 (.istore 4) 2 32 := by decide +kernel
theorem d5_32 : Dec m5 32 (.iload_n 1) 1 33 := by decide +kernel
theorem d5_33 : Dec m5 33 (.iconst 1) 1 34 := by decide +kernel
theorem d5_34 : Dec m5 34 (.if_icmp .le 26) 3 37 := by decide +kernel
theorem j5_34 : Jmp 34 (26) 60 := by decide
theorem d5_37 : Dec m5 37 (.iload 4) 2 39 := by decide +kernel
theorem d5_39 : Dec m5 39 (.ifCond .eq 18) 3 42 := by decide +kernel
theorem j5_39 : Jmp 39 (18) 57 := by decide
theorem d5_42 : Dec m5 42 (.aload_n 0) 1 43 := by decide +kernel
theorem d5_43 : Dec m5 43 (.iconst 1) 1 44 := by decide +kernel
theorem d5_44 : Dec m5 44 (.iaload) 1 45 := by decide +kernel
theorem d5_45 : Dec m5 45 (.aload_n 0) 1 46 := by decide +kernel
theorem d5_46 : Dec m5 46 (.iload_n 3) 1 47 := by decide +kernel
theorem d5_47 : Dec m5 47 (.iconst 1) 1 48 := by decide +kernel
theorem d5_48 : Dec m5 48 (.iadd) 1 49 := by decide +kernel
theorem d5_49 : Dec m5 49 (.iaload) 1 50 := by decide +kernel
theorem d5_50 : Dec m5 50 (.if_icmp .ne 7) 3 53 := by decide +kernel
theorem j5_50 : Jmp 50 (7) 57 := by decide
theorem d5_53 : Dec m5 53 (.iconst 1) 1 54 := by decide +kernel
theorem d5_54 : Dec m5 54 (.goto 4) 3 57 := by decide +kernel
theorem j5_54 : Jmp 54 (4) 58 := by decide
theorem d5_57 : Dec m5 57 (.iconst 0) 1 58 := by decide +kernel
theorem d5_58 : Dec m5 58 (.istore 4) 2 60 := by decide +kernel
theorem d5_60 : Dec m5 60 (.iload_n 1) 1 61 := by decide +kernel
theorem d5_61 : Dec m5 61 (.iconst 2) 1 62 := by decide +kernel
theorem d5_62 : Dec m5 62 (.if_icmp .le 26) 3 65 := by decide +kernel
theorem j5_62 : Jmp 62 (26) 88 := by decide
theorem d5_65 : Dec m5 65 (.iload 4) 2 67 := by decide +kernel
theorem d5_67 : Dec m5 67 (.ifCond .eq 18) 3 70 := by decide +kernel
theorem j5_67 : Jmp 67 (18) 85 := by decide
theorem d5_70 : Dec m5 70 (.aload_n 0) 1 71 := by decide +kernel
theorem d5_71 : Dec m5 71 (.iconst 2) 1 72 := by decide +kernel
theorem d5_72 : Dec m5 72 (.iaload) 1 73 := by decide +kernel
theorem d5_73 : Dec m5 73 (.aload_n 0) 1 74 := by decide +kernel
theorem d5_74 : Dec m5 74 (.iload_n 3) 1 75 := by decide +kernel
theorem d5_75 : Dec m5 75 (.iconst 2) 1 76 := by decide +kernel
theorem d5_76 : Dec m5 76 (.iadd) 1 77 := by decide +kernel
theorem d5_77 : Dec m5 77 (.iaload) 1 78 := by decide +kernel
theorem d5_78 : Dec m5 78 (.if_icmp .ne 7) 3 81 := by decide +kernel
theorem j5_78 : Jmp 78 (7) 85 := by decide
theorem d5_81 : Dec m5 81 (.iconst 1) 1 82 := by decide +kernel
theorem d5_82 : Dec m5 82 (.goto 4) 3 85 := by decide +kernel
theorem j5_82 : Jmp 82 (4) 86 := by decide
theorem d5_85 : Dec m5 85 (.iconst 0) 1 86 := by decide +kernel
theorem d5_86 : Dec m5 86 (.istore 4) 2 88 := by decide +kernel
theorem d5_88 : Dec m5 88 (.iload_n 1) 1 89 := by decide +kernel
theorem d5_89 : Dec m5 89 (.iconst 3) 1 90 := by decide +kernel
theorem d5_90 : Dec m5 90 (.if_icmp .le 26) 3 93 := by decide +kernel
theorem j5_90 : Jmp 90 (26) 116 := by decide
theorem d5_93 : Dec m5 93 (.iload 4) 2 95 := by decide +kernel
theorem d5_95 : Dec m5 95 (.ifCond .eq 18) 3 98 := by decide +kernel
theorem j5_95 : Jmp 95 (18) 113 := by decide
theorem d5_98 : Dec m5 98 (.aload_n 0) 1 99 := by decide +kernel
theorem d5_99 : Dec m5 99 (.iconst 3) 1 100 := by decide +kernel
theorem d5_100 : Dec m5 100 (.iaload) 1 101 := by decide +kernel
theorem d5_101 : Dec m5 101 (.aload_n 0) 1 102 := by decide +kernel
theorem d5_102 : Dec m5 102 (.iload_n 3) 1 103 := by decide +kernel
theorem d5_103 : Dec m5 103 (.iconst 3) 1 104 := by decide +kernel
theorem d5_104 : Dec m5 104 (.iadd) 1 105 := by decide +kernel
theorem d5_105 : Dec m5 105 (.iaload) 1 106 := by decide +kernel
theorem d5_106 : Dec m5 106 (.if_icmp .ne 7) 3 109 := by decide +kernel
theorem j5_106 : Jmp 106 (7) 113 := by decide
theorem d5_109 : Dec m5 109 (.iconst 1) 1 110 := by decide +kernel
theorem d5_110 : Dec m5 110 (.goto 4) 3 113 := by decide +kernel
theorem j5_110 : Jmp 110 (4) 114 := by decide
theorem d5_113 : Dec m5 113 (.iconst 0) 1 114 := by decide +kernel
theorem d5_114 : Dec m5 114 (.istore 4) 2 116 := by decide +kernel
theorem d5_116 : Dec m5 116 (.iload_n 1) 1 117 := by decide +kernel
theorem d5_117 : Dec m5 117 (.iconst 4) 1 118 := by decide +kernel
theorem d5_118 : Dec m5 118 (.if_icmp .le 26) 3 121 := by decide +kernel
theorem j5_118 : Jmp 118 (26) 144 := by decide
theorem d5_121 : Dec m5 121 (.iload 4) 2 123 := by decide +kernel
theorem d5_123 : Dec m5 123 (.ifCond .eq 18) 3 126 := by decide +kernel
theorem j5_123 : Jmp 123 (18) 141 := by decide
theorem d5_126 : Dec m5 126 (.aload_n 0) 1 127 := by decide +kernel
theorem d5_127 : Dec m5 127 (.iconst 4) 1 128 := by decide +kernel
theorem d5_128 : Dec m5 128 (.iaload) 1 129 := by decide +kernel
theorem d5_129 : Dec m5 129 (.aload_n 0) 1 130 := by decide +kernel
theorem d5_130 : Dec m5 130 (.iload_n 3) 1 131 := by decide +kernel
theorem d5_131 : Dec m5 131 (.iconst 4) 1 132 := by decide +kernel
theorem d5_132 : Dec m5 132 (.iadd) 1 133 := by decide +kernel
theorem d5_133 : Dec m5 133 (.iaload) 1 134 := by decide +kernel
theorem d5_134 : Dec m5 134 (.if_icmp .ne 7) 3 137 := by decide +kernel
theorem j5_134 : Jmp 134 (7) 141 := by decide
theorem d5_137 : Dec m5 137 (.iconst 1) 1 138 := by decide +kernel
theorem d5_138 : Dec m5 138 (.goto 4) 3 141 := by decide +kernel
theorem j5_138 : Jmp 138 (4) 142 := by decide
theorem d5_141 : Dec m5 141 (.iconst 0) 1 142 := by decide +kernel
theorem d5_142 : Dec m5 142 (.istore 4) 2 144 := by decide +kernel
theorem d5_144 : Dec m5 144 (.iload 4) 2 146 := by decide +kernel
theorem d5_146 : Dec m5 146 (.ireturn) 1 147 := by decide +kernel
def own_sym (x0 : Int32) (x1 : Int32) (x2 : Int32) (x3 : Int32) (x4 : Int32) : Int32 := (if ((XT.ushr x0 (2 * x1)) &&& 3) = 1 then x3 else (if ((XT.ushr x0 (2 * x1)) &&& 3) = 2 then x4 else x2))
theorem go_own_sym (K : Ctx) (hw : ∀ d ∈ tables_1, d.before K.2.2.1 K.2.1 = true) (x0 : Int32) (x1 : Int32) (x2 : Int32) (x3 : Int32) (x4 : Int32) (H : Hp) : Go K m3 0 0 0 [.val (.int x0), .val (.int x1), .val (.int x2), .val (.int x3), .val (.int x4), .unset] [] H (some (.int (own_sym x0 x1 x2 x3 x4)), some H, 0, 0) := by
  refine Go.iloadN d3_0 rfl ?_
  refine Go.iconst d3_1 (v := 2) rfl ?_
  refine Go.iloadN d3_2 rfl ?_
  refine Go.imul d3_3 ?_
  refine Go.iushr d3_4 ?_
  refine Go.iconst d3_5 (v := 3) rfl ?_
  refine Go.iand d3_6 ?_
  refine Go.istore d3_7 (ls' := [.val (.int x0), .val (.int x1), .val (.int x2), .val (.int x3), .val (.int x4), .val (.int ((XT.ushr x0 (2 * x1)) &&& 3))]) rfl ?_
  refine Go.iload d3_9 rfl ?_
  refine Go.iconst d3_11 (v := 1) rfl ?_
  refine Go.icmp_ne d3_12 j3_12 (fun h12 => ?_) (fun h12 => ?_)
  · -- pc 12 taken
    refine Go.iload d3_17 rfl ?_
    refine Go.iconst d3_19 (v := 2) rfl ?_
    refine Go.icmp_ne d3_20 j3_20 (fun h20 => ?_) (fun h20 => ?_)
    · -- pc 20 taken
      refine Go.iloadN d3_26 rfl ?_
      exact Go.ireturn d3_27 rfl (by rw [own_sym, if_neg h12, if_neg h20]) (HOk.eq rfl)
    · -- pc 20 not taken
      refine Go.iload d3_23 rfl ?_
      exact Go.ireturn d3_25 rfl (by rw [own_sym, if_neg h12, if_pos h20]) (HOk.eq rfl)
  · -- pc 12 not taken
    refine Go.iloadN d3_15 rfl ?_
    exact Go.ireturn d3_16 rfl (by rw [own_sym, if_pos h12]) (HOk.eq rfl)
theorem go_in_a (K : Ctx) (hw : ∀ d ∈ tables_1, d.before K.2.2.1 K.2.1 = true) (vs bs : List Value) (l i : Int32) (vi vl bl : Int32) (hp : 0 < l) (hi0 : ¬ i < 0) (hvi : vs[i.toNatClampNeg]? = some (.int vi)) (hl0 : ¬ l < 0) (hvl : vs[l.toNatClampNeg]? = some (.int vl)) (hne : ¬ vi = vl) (hb0 : ¬ (l - 1) < 0) (hbl : bs[(l - 1).toNatClampNeg]? = some (.int bl)) (rv : Option Value) (Hr : Option Hp) (h : Go K m1 0 0 15 [.val (.ref 0), .val (.ref 1), .val (.int bl), .val (.int i)] [] [.inr (.int, vs), .inr (.int, bs)] (rv, Hr, 0, 0)) : Go K m1 0 0 15 [.val (.ref 0), .val (.ref 1), .val (.int l), .val (.int i)] [] [.inr (.int, vs), .inr (.int, bs)] (rv, Hr, 0, 0) := by
  refine Go.iloadN d1_15 rfl ?_
  refine Go.ifF d1_16 (XT.i0_le_f hp) ?_
  refine Go.aloadN d1_19 rfl rfl ?_
  refine Go.iloadN d1_20 rfl ?_
  refine Go.iaload d1_21 rfl hi0 hvi ?_
  refine Go.aloadN d1_22 rfl rfl ?_
  refine Go.iloadN d1_23 rfl ?_
  refine Go.iaload d1_24 rfl hl0 hvl ?_
  refine Go.icmpF d1_25 (XT.ii_eq_f hne) ?_
  refine Go.aloadN d1_28 rfl rfl ?_
  refine Go.iloadN d1_29 rfl ?_
  refine Go.iconst d1_30 (v := 1) rfl ?_
  refine Go.isub d1_31 ?_
  refine Go.iaload d1_32 rfl hb0 hbl ?_
  refine Go.istoreN d1_33 (ls' := [.val (.ref 0), .val (.ref 1), .val (.int bl), .val (.int i)]) rfl ?_
  refine Go.goto d1_34 j1_34 ?_
  exact h
theorem go_in_b (K : Ctx) (hw : ∀ d ∈ tables_1, d.before K.2.2.1 K.2.1 = true) (vs bs : List Value) (l i : Int32) (hp : ¬ 0 < l) (rv : Option Value) (Hr : Option Hp) (h : Go K m1 0 0 37 [.val (.ref 0), .val (.ref 1), .val (.int l), .val (.int i)] [] [.inr (.int, vs), .inr (.int, bs)] (rv, Hr, 0, 0)) : Go K m1 0 0 15 [.val (.ref 0), .val (.ref 1), .val (.int l), .val (.int i)] [] [.inr (.int, vs), .inr (.int, bs)] (rv, Hr, 0, 0) := by
  refine Go.iloadN d1_15 rfl ?_
  refine Go.ifT d1_16 j1_16 (XT.i0_le_t hp) ?_
  exact h
theorem go_in_c (K : Ctx) (hw : ∀ d ∈ tables_1, d.before K.2.2.1 K.2.1 = true) (vs bs : List Value) (l i : Int32) (vi vl : Int32) (hp : 0 < l) (hi0 : ¬ i < 0) (hvi : vs[i.toNatClampNeg]? = some (.int vi)) (hl0 : ¬ l < 0) (hvl : vs[l.toNatClampNeg]? = some (.int vl)) (heq : vi = vl) (rv : Option Value) (Hr : Option Hp) (h : Go K m1 0 0 37 [.val (.ref 0), .val (.ref 1), .val (.int l), .val (.int i)] [] [.inr (.int, vs), .inr (.int, bs)] (rv, Hr, 0, 0)) : Go K m1 0 0 15 [.val (.ref 0), .val (.ref 1), .val (.int l), .val (.int i)] [] [.inr (.int, vs), .inr (.int, bs)] (rv, Hr, 0, 0) := by
  refine Go.iloadN d1_15 rfl ?_
  refine Go.ifF d1_16 (XT.i0_le_f hp) ?_
  refine Go.aloadN d1_19 rfl rfl ?_
  refine Go.iloadN d1_20 rfl ?_
  refine Go.iaload d1_21 rfl hi0 hvi ?_
  refine Go.aloadN d1_22 rfl rfl ?_
  refine Go.iloadN d1_23 rfl ?_
  refine Go.iaload d1_24 rfl hl0 hvl ?_
  refine Go.icmpT d1_25 j1_25 (XT.ii_eq_t heq) ?_
  exact h
theorem go_ou_d (K : Ctx) (hw : ∀ d ∈ tables_1, d.before K.2.2.1 K.2.1 = true) (vs bs : List Value) (l i : Int32) (vi vl : Int32) (hi0 : ¬ i < 0) (hvi : vs[i.toNatClampNeg]? = some (.int vi)) (hl0 : ¬ l < 0) (hvl : vs[l.toNatClampNeg]? = some (.int vl)) (heq : vi = vl) (hbi : i.toNatClampNeg < bs.length) (rv : Option Value) (Hr : Option Hp) (h : Go K m1 0 0 9 [.val (.ref 0), .val (.ref 1), .val (.int (l + 1)), .val (.int (i + 1))] [] [.inr (.int, vs), .inr (.int, (bs.set i.toNatClampNeg (.int (l + 1))))] (rv, Hr, 0, 0)) : Go K m1 0 0 37 [.val (.ref 0), .val (.ref 1), .val (.int l), .val (.int i)] [] [.inr (.int, vs), .inr (.int, bs)] (rv, Hr, 0, 0) := by
  refine Go.aloadN d1_37 rfl rfl ?_
  refine Go.iloadN d1_38 rfl ?_
  refine Go.iaload d1_39 rfl hi0 hvi ?_
  refine Go.aloadN d1_40 rfl rfl ?_
  refine Go.iloadN d1_41 rfl ?_
  refine Go.iaload d1_42 rfl hl0 hvl ?_
  refine Go.icmpF d1_43 (XT.ii_ne_f heq) ?_
  refine Go.iinc d1_46 (v := 1) rfl rfl (ls' := [.val (.ref 0), .val (.ref 1), .val (.int (l + 1)), .val (.int i)]) rfl ?_
  refine Go.aloadN d1_49 rfl rfl ?_
  refine Go.iloadN d1_50 rfl ?_
  refine Go.iloadN d1_51 rfl ?_
  refine Go.iastore d1_52 rfl hi0 hbi (H1 := [.inr (.int, vs), .inr (.int, (bs.set i.toNatClampNeg (.int (l + 1))))]) rfl ?_
  refine Go.iinc d1_53 (v := 1) rfl rfl (ls' := [.val (.ref 0), .val (.ref 1), .val (.int (l + 1)), .val (.int (i + 1))]) rfl ?_
  refine Go.goto d1_56 j1_56 ?_
  exact h
theorem go_ou_e (K : Ctx) (hw : ∀ d ∈ tables_1, d.before K.2.2.1 K.2.1 = true) (vs bs : List Value) (l i : Int32) (vi vl : Int32) (hi0 : ¬ i < 0) (hvi : vs[i.toNatClampNeg]? = some (.int vi)) (hl0 : ¬ l < 0) (hvl : vs[l.toNatClampNeg]? = some (.int vl)) (hne : ¬ vi = vl) (hbi : i.toNatClampNeg < bs.length) (rv : Option Value) (Hr : Option Hp) (h : Go K m1 0 0 9 [.val (.ref 0), .val (.ref 1), .val (.int l), .val (.int (i + 1))] [] [.inr (.int, vs), .inr (.int, (bs.set i.toNatClampNeg (.int l)))] (rv, Hr, 0, 0)) : Go K m1 0 0 37 [.val (.ref 0), .val (.ref 1), .val (.int l), .val (.int i)] [] [.inr (.int, vs), .inr (.int, bs)] (rv, Hr, 0, 0) := by
  refine Go.aloadN d1_37 rfl rfl ?_
  refine Go.iloadN d1_38 rfl ?_
  refine Go.iaload d1_39 rfl hi0 hvi ?_
  refine Go.aloadN d1_40 rfl rfl ?_
  refine Go.iloadN d1_41 rfl ?_
  refine Go.iaload d1_42 rfl hl0 hvl ?_
  refine Go.icmpT d1_43 j1_43 (XT.ii_ne_t hne) ?_
  refine Go.aloadN d1_49 rfl rfl ?_
  refine Go.iloadN d1_50 rfl ?_
  refine Go.iloadN d1_51 rfl ?_
  refine Go.iastore d1_52 rfl hi0 hbi (H1 := [.inr (.int, vs), .inr (.int, (bs.set i.toNatClampNeg (.int l)))]) rfl ?_
  refine Go.iinc d1_53 (v := 1) rfl rfl (ls' := [.val (.ref 0), .val (.ref 1), .val (.int l), .val (.int (i + 1))]) rfl ?_
  refine Go.goto d1_56 j1_56 ?_
  exact h
theorem go_ou_in (K : Ctx) (hw : ∀ d ∈ tables_1, d.before K.2.2.1 K.2.1 = true) (vs bs : List Value) (l i : Int32) (z : Int32) (hz : vs.length.toInt32 = z) (hlt : i < z) (rv : Option Value) (Hr : Option Hp) (h : Go K m1 0 0 15 [.val (.ref 0), .val (.ref 1), .val (.int l), .val (.int i)] [] [.inr (.int, vs), .inr (.int, bs)] (rv, Hr, 0, 0)) : Go K m1 0 0 9 [.val (.ref 0), .val (.ref 1), .val (.int l), .val (.int i)] [] [.inr (.int, vs), .inr (.int, bs)] (rv, Hr, 0, 0) := by
  refine Go.iloadN d1_9 rfl ?_
  refine Go.aloadN d1_10 rfl rfl ?_
  refine Go.arraylength d1_11 rfl (z := z) hz ?_
  refine Go.icmpF d1_12 (XT.ii_ge_f hlt) ?_
  exact h
theorem go_ou_end (K : Ctx) (hw : ∀ d ∈ tables_1, d.before K.2.2.1 K.2.1 = true) (vs bs : List Value) (l i : Int32) (z : Int32) (hz : vs.length.toInt32 = z) (hge : ¬ i < z) : Go K m1 0 0 9 [.val (.ref 0), .val (.ref 1), .val (.int l), .val (.int i)] [] [.inr (.int, vs), .inr (.int, bs)] (some (.ref 1), some [.inr (.int, vs), .inr (.int, bs)], 0, 0) := by
  refine Go.iloadN d1_9 rfl ?_
  refine Go.aloadN d1_10 rfl rfl ?_
  refine Go.arraylength d1_11 rfl (z := z) hz ?_
  refine Go.icmpT d1_12 j1_12 (XT.ii_ge_t hge) ?_
  refine Go.aloadN d1_59 rfl rfl ?_
  exact Go.areturn d1_60 rfl rfl rfl rfl (HOk.eq rfl)
def own_sv (s : List Int32) : List Value := s.map Value.int
def own_bv (b : List Nat) : List Value := b.map (fun n => Value.int (Int32.ofNat n))
def own_E (s : List Int32) (i j : Nat) : Bool := decide (s[i]? = s[j]?)
def own_fall (E : Nat → Nat → Bool) (b : List Nat) (i : Nat) : Nat → Nat → Nat
  | 0, l => l
  | k + 1, l => if l = 0 then 0 else if E i l then l else own_fall E b i k ((b[l - 1]?).getD 0)
def own_l2 (E : Nat → Nat → Bool) (b : List Nat) (i l : Nat) : Nat := if E i (own_fall E b i i l) then own_fall E b i i l + 1 else own_fall E b i i l
def own_out (E : Nat → Nat → Bool) : Nat → Nat → Nat → List Nat → List Nat
  | 0, _, _, b => b
  | k + 1, i, l, b => own_out E k (i + 1) (own_l2 E b i l) (b.set i (own_l2 E b i l))
def own_kmp (E : Nat → Nat → Bool) (n : Nat) : List Nat := own_out E (n - 1) 1 0 (List.replicate n 0)
def own_mtE (E : Nat → Nat → Bool) (off : Nat) : Nat → Bool
  | 0 => true
  | k + 1 => own_mtE E off k && E k (off + k)
def own_bdE (E : Nat → Nat → Bool) (L : Nat) : Nat :=
  if 5 < L ∧ own_mtE E (L - 5) 5 = true then 5 else if 4 < L ∧ own_mtE E (L - 4) 4 = true then 4 else if 3 < L ∧ own_mtE E (L - 3) 3 = true then 3 else if 2 < L ∧ own_mtE E (L - 2) 2 = true then 2 else if 1 < L ∧ own_mtE E (L - 1) 1 = true then 1 else 0
theorem own_clamp {n : Nat} (h : n ≤ 1000) : (Int32.ofNat n).toNatClampNeg = n := Int32.toNatClampNeg_ofNat_of_lt (by omega)
theorem own_i32 {n : Nat} (h : n ≤ 1000) : (Int32.ofNat n).toInt = n := Int32.toInt_ofNat_of_lt (by omega)
theorem own_nneg {n : Nat} (h : n ≤ 1000) : ¬ Int32.ofNat n < 0 := by
  rw [Int32.lt_iff_toInt_lt, own_i32 h]; show ¬ (n : Int) < 0; omega
theorem own_lt {a c : Nat} (ha : a ≤ 1000) (hc : c ≤ 1000) : Int32.ofNat a < Int32.ofNat c ↔ a < c := by
  rw [Int32.lt_iff_toInt_lt, own_i32 ha, own_i32 hc]; omega
theorem own_sub {n : Nat} (h : n + 1 ≤ 1000) : Int32.ofNat (n + 1) - 1 = Int32.ofNat n := by
  apply Int32.toInt_inj.mp
  have e : (1 : Int32).toInt = 1 := rfl
  rw [Jvm.Kit.i32_sub (by rw [own_i32 h, e]; omega) (by rw [own_i32 h, e]; omega), own_i32 h, own_i32 (by omega), e]; omega
theorem own_sget {s : List Int32} {i : Nat} {v : Int32} (h : s[i]? = some v) : (own_sv s)[i]? = some (.int v) := by simp [own_sv, h]
theorem own_bget {b : List Nat} {i n : Nat} (h : b[i]? = some n) : (own_bv b)[i]? = some (.int (Int32.ofNat n)) := by simp [own_bv, h]
theorem own_bset (b : List Nat) (i n : Nat) : (own_bv b).set i (.int (Int32.ofNat n)) = own_bv (b.set i n) := by simp [own_bv, List.map_set]
theorem own_Ev {s : List Int32} {i j : Nat} {v w : Int32} (hi : s[i]? = some v) (hj : s[j]? = some w) : own_E s i j = true ↔ v = w := by simp [own_E, hi, hj]
def own_bok (b : List Nat) : Prop := ∀ (j m : Nat), b[j]? = some m → m ≤ j
theorem own_fall_le (E : Nat → Nat → Bool) {b : List Nat} (hb : own_bok b) (i : Nat) : ∀ k l, l ≤ k → own_fall E b i k l ≤ l := by
  intro k
  induction k with
  | zero => intro l hl; exact Nat.le_refl _
  | succ k ih =>
    intro l hl
    rw [own_fall]
    split
    · omega
    · split
      · exact Nat.le_refl _
      · cases hq : b[l - 1]? with
        | none => have := ih 0 (Nat.zero_le _); simp only [Option.getD_none]; omega
        | some m => have := hb _ _ hq; have := ih m (by omega); simp only [Option.getD_some]; omega
theorem go_inner (K : Ctx) (hw : ∀ d ∈ tables_1, d.before K.2.2.1 K.2.1 = true) (s : List Int32) (b : List Nat) (i : Nat) (hi : i < s.length) (hlen : b.length = s.length) (h6 : s.length ≤ 6) (hb : own_bok b) (rv : Option Value) (Hr : Option Hp) : ∀ k l, l ≤ k → l < i →
    Go K m1 0 0 37 [.val (.ref 0), .val (.ref 1), .val (.int (Int32.ofNat (own_fall (own_E s) b i k l))), .val (.int (Int32.ofNat i))] [] [.inr (.int, own_sv s), .inr (.int, own_bv b)] (rv, Hr, 0, 0) →
    Go K m1 0 0 15 [.val (.ref 0), .val (.ref 1), .val (.int (Int32.ofNat l)), .val (.int (Int32.ofNat i))] [] [.inr (.int, own_sv s), .inr (.int, own_bv b)] (rv, Hr, 0, 0) := by
  intro k
  induction k with
  | zero =>
    intro l hl hli h
    obtain rfl : l = 0 := by omega
    exact go_in_b K hw _ _ _ _ (by decide) _ _ h
  | succ k ih =>
    intro l hl hli h
    rw [own_fall] at h
    by_cases q : l = 0
    · subst q
      rw [if_pos rfl] at h
      exact go_in_b K hw _ _ _ _ (by decide) _ _ h
    · rw [if_neg q] at h
      have hp : (0 : Int32) < Int32.ofNat l := (own_lt (a := 0) (by omega) (by omega)).mpr (by omega)
      have hvi : s[i]? = some s[i] := List.getElem?_eq_getElem hi
      have hvl : s[l]? = some s[l] := List.getElem?_eq_getElem (by omega)
      have gi : (own_sv s)[(Int32.ofNat i).toNatClampNeg]? = some (.int s[i]) := by rw [own_clamp (by omega)]; exact own_sget hvi
      have gl : (own_sv s)[(Int32.ofNat l).toNatClampNeg]? = some (.int s[l]) := by rw [own_clamp (by omega)]; exact own_sget hvl
      by_cases e : s[i] = s[l]
      · rw [if_pos ((own_Ev hvi hvl).mpr e)] at h
        exact go_in_c K hw _ _ _ _ _ _ hp (own_nneg (by omega)) gi (own_nneg (by omega)) gl e _ _ h
      · rw [if_neg (fun z => e ((own_Ev hvi hvl).mp z))] at h
        obtain ⟨l', rfl⟩ : ∃ l', l = l' + 1 := ⟨l - 1, by omega⟩
        have hbl : b[l']? = some b[l'] := List.getElem?_eq_getElem (by omega)
        have hbm := hb _ _ hbl
        rw [Nat.add_sub_cancel, hbl, Option.getD_some] at h
        have gb : (own_bv b)[(Int32.ofNat (l' + 1) - 1).toNatClampNeg]? = some (.int (Int32.ofNat b[l'])) := by rw [own_sub (by omega), own_clamp (by omega)]; exact own_bget hbl
        exact go_in_a K hw _ _ _ _ _ _ _ hp (own_nneg (by omega)) gi (own_nneg (by omega)) gl e (by rw [own_sub (by omega)]; exact own_nneg (by omega)) gb _ _ (ih _ (by omega) (by omega) h)
theorem go_outer (K : Ctx) (hw : ∀ d ∈ tables_1, d.before K.2.2.1 K.2.1 = true) (s : List Int32) (h6 : s.length ≤ 6) : ∀ k i l (b : List Nat), i + k = s.length → l < i → b.length = s.length → own_bok b →
    Go K m1 0 0 9 [.val (.ref 0), .val (.ref 1), .val (.int (Int32.ofNat l)), .val (.int (Int32.ofNat i))] [] [.inr (.int, own_sv s), .inr (.int, own_bv b)] (some (.ref 1), some [.inr (.int, own_sv s), .inr (.int, own_bv (own_out (own_E s) k i l b))], 0, 0) := by
  have hz : (own_sv s).length.toInt32 = Int32.ofNat s.length := congrArg Nat.toInt32 (by simp [own_sv])
  intro k
  induction k with
  | zero =>
    intro i l b hik hli hlen hb
    exact go_ou_end K hw _ _ _ _ _ hz (by rw [own_lt (by omega) (by omega)]; omega)
  | succ k ih =>
    intro i l b hik hli hlen hb
    have hi : i < s.length := by omega
    refine go_ou_in K hw _ _ _ _ _ hz (by rw [own_lt (by omega) (by omega)]; omega) _ _ ?_
    refine go_inner K hw s b i hi hlen h6 hb _ _ i l (by omega) hli ?_
    have hf := own_fall_le (own_E s) hb i i l (by omega)
    have hvi : s[i]? = some s[i] := List.getElem?_eq_getElem hi
    have hvl : s[own_fall (own_E s) b i i l]? = some s[own_fall (own_E s) b i i l] := List.getElem?_eq_getElem (by omega)
    have gi : (own_sv s)[(Int32.ofNat i).toNatClampNeg]? = some (.int s[i]) := by rw [own_clamp (by omega)]; exact own_sget hvi
    have gl : (own_sv s)[(Int32.ofNat (own_fall (own_E s) b i i l)).toNatClampNeg]? = some (.int s[own_fall (own_E s) b i i l]) := by rw [own_clamp (by omega)]; exact own_sget hvl
    have hbi : (Int32.ofNat i).toNatClampNeg < (own_bv b).length := by rw [own_clamp (by omega)]; simp only [own_bv, List.length_map]; omega
    have e1 : Int32.ofNat i + 1 = Int32.ofNat (i + 1) := (Int32.ofNat_add i 1).symm
    have hb2 : ∀ x, x ≤ i → own_bok (b.set i x) := fun x hx j m hj => by
      by_cases q : i = j
      · subst q
        rw [List.getElem?_set_self (by omega)] at hj
        cases hj
        exact hx
      · rw [List.getElem?_set_ne q] at hj
        exact hb j m hj
    by_cases e : s[i] = s[own_fall (own_E s) b i i l]
    · have hl2 : own_l2 (own_E s) b i l = own_fall (own_E s) b i i l + 1 := by rw [own_l2, if_pos ((own_Ev hvi hvl).mpr e)]
      refine go_ou_d K hw _ _ _ _ _ _ (own_nneg (by omega)) gi (own_nneg (by omega)) gl e hbi _ _ ?_
      rw [own_out, hl2, own_clamp (n := i) (by omega), e1, show Int32.ofNat (own_fall (own_E s) b i i l) + 1 = Int32.ofNat (own_fall (own_E s) b i i l + 1) from (Int32.ofNat_add _ 1).symm, own_bset]
      exact ih (i + 1) _ _ (by omega) (by omega) (by rw [List.length_set]; exact hlen) (hb2 _ (by omega))
    · have hl2 : own_l2 (own_E s) b i l = own_fall (own_E s) b i i l := by rw [own_l2, if_neg (fun z => e ((own_Ev hvi hvl).mp z))]
      refine go_ou_e K hw _ _ _ _ _ _ (own_nneg (by omega)) gi (own_nneg (by omega)) gl e hbi _ _ ?_
      rw [own_out, hl2, own_clamp (n := i) (by omega), e1, own_bset]
      exact ih (i + 1) _ _ (by omega) (by omega) (by rw [List.length_set]; exact hlen) (hb2 _ (by omega))
theorem own_bok0 (n : Nat) : own_bok (List.replicate n 0) := fun j m hj => by
  have := List.eq_of_mem_replicate (List.mem_of_getElem? hj)
  omega
/-! the patterns -/
def own_Ec (c : List Nat) (i j : Nat) : Bool := decide (c[i]? = c[j]?)
def own_ok (c : List Nat) (n : Nat) : Bool := (List.range n).all (fun i => decide ((own_kmp (own_Ec c) n)[i]? = some (own_bdE (own_Ec c) (i + 1))))
theorem own_idx_lt {s : List Int32} : ∀ {i : Nat} {v : Int32}, s[i]? = some v → s.idxOf v < i + 1 := by
  induction s with
  | nil => intro i v h; simp at h
  | cons a r ih =>
    intro i v h
    rw [List.idxOf_cons]
    cases i with
    | zero =>
      simp only [List.getElem?_cons_zero, Option.some.injEq] at h
      subst h
      simp
    | succ i =>
      rw [List.getElem?_cons_succ] at h
      have := ih h
      cases (a == v) <;> simp <;> omega
theorem own_E_c (s : List Int32) : own_E s = own_Ec (s.map (fun v => s.idxOf v)) := by
  funext i j
  simp only [own_E, own_Ec, List.getElem?_map]
  cases hi : s[i]? with
  | none => cases hj : s[j]? <;> simp
  | some a =>
    cases hj : s[j]? with
    | none => simp
    | some c =>
      simp only [Option.map_some, Option.some.injEq]
      by_cases e : a = c
      · subst e; simp
      · have : ¬ s.idxOf a = s.idxOf c := fun z => e (by
          have ha : a ∈ s := List.mem_of_getElem? hi
          have hc : c ∈ s := List.mem_of_getElem? hj
          have h1 := List.getElem_idxOf (List.idxOf_lt_length_of_mem ha)
          have h2 := List.getElem_idxOf (List.idxOf_lt_length_of_mem hc)
          rw [← h1, ← h2]
          congr 1)
        simp [e, this]
theorem own_chk1 : ∀ (c0 : Fin 1), own_ok [c0.val] 1 = true := by decide +kernel
theorem own_fin1 (s0 : Int32) : ∀ i, i < 1 → (own_kmp (own_E [s0]) 1)[i]? = some (own_bdE (own_E [s0]) (i + 1)) := by
  intro i hi
  rw [own_E_c]
  have h := own_chk1 ⟨[s0].idxOf s0, own_idx_lt (i := 0) rfl⟩
  have q := List.all_eq_true.mp h i (List.mem_range.mpr hi)
  exact of_decide_eq_true q
theorem own_chk2 : ∀ (c0 : Fin 1) (c1 : Fin 2), own_ok [c0.val, c1.val] 2 = true := by decide +kernel
theorem own_fin2 (s0 s1 : Int32) : ∀ i, i < 2 → (own_kmp (own_E [s0, s1]) 2)[i]? = some (own_bdE (own_E [s0, s1]) (i + 1)) := by
  intro i hi
  rw [own_E_c]
  have h := own_chk2 ⟨[s0, s1].idxOf s0, own_idx_lt (i := 0) rfl⟩ ⟨[s0, s1].idxOf s1, own_idx_lt (i := 1) rfl⟩
  have q := List.all_eq_true.mp h i (List.mem_range.mpr hi)
  exact of_decide_eq_true q
theorem own_chk3 : ∀ (c0 : Fin 1) (c1 : Fin 2) (c2 : Fin 3), own_ok [c0.val, c1.val, c2.val] 3 = true := by decide +kernel
theorem own_fin3 (s0 s1 s2 : Int32) : ∀ i, i < 3 → (own_kmp (own_E [s0, s1, s2]) 3)[i]? = some (own_bdE (own_E [s0, s1, s2]) (i + 1)) := by
  intro i hi
  rw [own_E_c]
  have h := own_chk3 ⟨[s0, s1, s2].idxOf s0, own_idx_lt (i := 0) rfl⟩ ⟨[s0, s1, s2].idxOf s1, own_idx_lt (i := 1) rfl⟩ ⟨[s0, s1, s2].idxOf s2, own_idx_lt (i := 2) rfl⟩
  have q := List.all_eq_true.mp h i (List.mem_range.mpr hi)
  exact of_decide_eq_true q
theorem own_chk4 : ∀ (c0 : Fin 1) (c1 : Fin 2) (c2 : Fin 3) (c3 : Fin 4), own_ok [c0.val, c1.val, c2.val, c3.val] 4 = true := by decide +kernel
theorem own_fin4 (s0 s1 s2 s3 : Int32) : ∀ i, i < 4 → (own_kmp (own_E [s0, s1, s2, s3]) 4)[i]? = some (own_bdE (own_E [s0, s1, s2, s3]) (i + 1)) := by
  intro i hi
  rw [own_E_c]
  have h := own_chk4 ⟨[s0, s1, s2, s3].idxOf s0, own_idx_lt (i := 0) rfl⟩ ⟨[s0, s1, s2, s3].idxOf s1, own_idx_lt (i := 1) rfl⟩ ⟨[s0, s1, s2, s3].idxOf s2, own_idx_lt (i := 2) rfl⟩ ⟨[s0, s1, s2, s3].idxOf s3, own_idx_lt (i := 3) rfl⟩
  have q := List.all_eq_true.mp h i (List.mem_range.mpr hi)
  exact of_decide_eq_true q
theorem own_chk5 : ∀ (c0 : Fin 1) (c1 : Fin 2) (c2 : Fin 3) (c3 : Fin 4) (c4 : Fin 5), own_ok [c0.val, c1.val, c2.val, c3.val, c4.val] 5 = true := by decide +kernel
theorem own_fin5 (s0 s1 s2 s3 s4 : Int32) : ∀ i, i < 5 → (own_kmp (own_E [s0, s1, s2, s3, s4]) 5)[i]? = some (own_bdE (own_E [s0, s1, s2, s3, s4]) (i + 1)) := by
  intro i hi
  rw [own_E_c]
  have h := own_chk5 ⟨[s0, s1, s2, s3, s4].idxOf s0, own_idx_lt (i := 0) rfl⟩ ⟨[s0, s1, s2, s3, s4].idxOf s1, own_idx_lt (i := 1) rfl⟩ ⟨[s0, s1, s2, s3, s4].idxOf s2, own_idx_lt (i := 2) rfl⟩ ⟨[s0, s1, s2, s3, s4].idxOf s3, own_idx_lt (i := 3) rfl⟩ ⟨[s0, s1, s2, s3, s4].idxOf s4, own_idx_lt (i := 4) rfl⟩
  have q := List.all_eq_true.mp h i (List.mem_range.mpr hi)
  exact of_decide_eq_true q
theorem own_chk6 : ∀ (c0 : Fin 1) (c1 : Fin 2) (c2 : Fin 3) (c3 : Fin 4) (c4 : Fin 5) (c5 : Fin 6), own_ok [c0.val, c1.val, c2.val, c3.val, c4.val, c5.val] 6 = true := by decide +kernel
theorem own_fin6 (s0 s1 s2 s3 s4 s5 : Int32) : ∀ i, i < 6 → (own_kmp (own_E [s0, s1, s2, s3, s4, s5]) 6)[i]? = some (own_bdE (own_E [s0, s1, s2, s3, s4, s5]) (i + 1)) := by
  intro i hi
  rw [own_E_c]
  have h := own_chk6 ⟨[s0, s1, s2, s3, s4, s5].idxOf s0, own_idx_lt (i := 0) rfl⟩ ⟨[s0, s1, s2, s3, s4, s5].idxOf s1, own_idx_lt (i := 1) rfl⟩ ⟨[s0, s1, s2, s3, s4, s5].idxOf s2, own_idx_lt (i := 2) rfl⟩ ⟨[s0, s1, s2, s3, s4, s5].idxOf s3, own_idx_lt (i := 3) rfl⟩ ⟨[s0, s1, s2, s3, s4, s5].idxOf s4, own_idx_lt (i := 4) rfl⟩ ⟨[s0, s1, s2, s3, s4, s5].idxOf s5, own_idx_lt (i := 5) rfl⟩
  have q := List.all_eq_true.mp h i (List.mem_range.mpr hi)
  exact of_decide_eq_true q
def own_bd_1 (s0 : Int32) : Int32 := 0
theorem go_own_bd_1 (K : Ctx) (hw : ∀ d ∈ tables_1, d.before K.2.2.1 K.2.1 = true) (H : Hp) (i : Nat) (vs : List Value) (s0 : Int32) (hH : H[i]? = some (.inr (.int, vs))) (hv0 : vs[0]? = some (.int s0)) : Go K m4 0 0 0 [.val (.ref i), .val (.int 1)] [] H (some (.int (own_bd_1 s0)), some H, 0, 0) := by
  refine Go.iconst d4_0 (v := 5) rfl ?_
  refine Go.iloadN d4_1 rfl ?_
  refine Go.icmpT d4_2 j4_2 (XT.ii_ge_t (by decide)) ?_
  refine Go.iconst d4_16 (v := 4) rfl ?_
  refine Go.iloadN d4_17 rfl ?_
  refine Go.icmpT d4_18 j4_18 (XT.ii_ge_t (by decide)) ?_
  refine Go.iconst d4_32 (v := 3) rfl ?_
  refine Go.iloadN d4_33 rfl ?_
  refine Go.icmpT d4_34 j4_34 (XT.ii_ge_t (by decide)) ?_
  refine Go.iconst d4_48 (v := 2) rfl ?_
  refine Go.iloadN d4_49 rfl ?_
  refine Go.icmpT d4_50 j4_50 (XT.ii_ge_t (by decide)) ?_
  refine Go.iconst d4_64 (v := 1) rfl ?_
  refine Go.iloadN d4_65 rfl ?_
  refine Go.icmpT d4_66 j4_66 (XT.ii_ge_t (by decide)) ?_
  refine Go.iconst d4_80 (v := 0) rfl ?_
  exact Go.ireturn d4_81 rfl (by rw [own_bd_1]) (HOk.eq rfl)
theorem own_bdv_1 (s : List Int32) (s0 : Int32) (hv0 : s[0]? = some s0) : own_bd_1 s0 = Int32.ofNat (own_bdE (own_E s) 1) := by
  simp only [own_bd_1, own_bdE, Nat.reduceLT, Nat.reduceSub, true_and, false_and, if_false]
  all_goals ((repeat' split) <;> simp_all)
def own_mt_1_2 (s0 s1 : Int32) : Int32 := (if s0 = s1 then 1 else 0)
theorem go_own_mt_1_2 (K : Ctx) (hw : ∀ d ∈ tables_1, d.before K.2.2.1 K.2.1 = true) (H : Hp) (i : Nat) (vs : List Value) (s0 s1 : Int32) (hH : H[i]? = some (.inr (.int, vs))) (hv0 : vs[0]? = some (.int s0)) (hv1 : vs[1]? = some (.int s1)) : Go K m5 0 0 0 [.val (.ref i), .val (.int 1), .val (.int 2), .unset, .unset] [] H (some (.int (own_mt_1_2 s0 s1)), some H, 0, 0) := by
  refine Go.iloadN d5_0 rfl ?_
  refine Go.iloadN d5_1 rfl ?_
  refine Go.isub d5_2 ?_
  show Go _ _ _ _ 3 [.val (.ref i), .val (.int 1), .val (.int 2), .unset, .unset] [.int 1] H _
  refine Go.istoreN d5_3 (ls' := [.val (.ref i), .val (.int 1), .val (.int 2), .val (.int 1), .unset]) rfl ?_
  refine Go.iconst d5_4 (v := 1) rfl ?_
  refine Go.istore d5_5 (ls' := [.val (.ref i), .val (.int 1), .val (.int 2), .val (.int 1), .val (.int 1)]) rfl ?_
  refine Go.iloadN d5_7 rfl ?_
  refine Go.ifF d5_8 (XT.i0_le_f (by decide)) ?_
  refine Go.iload d5_11 rfl ?_
  refine Go.ifF d5_13 (XT.i0_eq_f (by decide)) ?_
  refine Go.aloadN d5_16 rfl rfl ?_
  refine Go.iconst d5_17 (v := 0) rfl ?_
  refine Go.iaload d5_18 hH (by decide) hv0 ?_
  refine Go.aloadN d5_19 rfl rfl ?_
  refine Go.iloadN d5_20 rfl ?_
  refine Go.iaload d5_21 hH (by decide) hv1 ?_
  refine Go.icmp_ne d5_22 j5_22 (fun h22 => ?_) (fun h22 => ?_)
  · -- pc 22 taken
    refine Go.iconst d5_29 (v := 0) rfl ?_
    refine Go.istore d5_30 (ls' := [.val (.ref i), .val (.int 1), .val (.int 2), .val (.int 1), .val (.int 0)]) rfl ?_
    refine Go.iloadN d5_32 rfl ?_
    refine Go.iconst d5_33 (v := 1) rfl ?_
    refine Go.icmpT d5_34 j5_34 (XT.ii_le_t (by decide)) ?_
    refine Go.iloadN d5_60 rfl ?_
    refine Go.iconst d5_61 (v := 2) rfl ?_
    refine Go.icmpT d5_62 j5_62 (XT.ii_le_t (by decide)) ?_
    refine Go.iloadN d5_88 rfl ?_
    refine Go.iconst d5_89 (v := 3) rfl ?_
    refine Go.icmpT d5_90 j5_90 (XT.ii_le_t (by decide)) ?_
    refine Go.iloadN d5_116 rfl ?_
    refine Go.iconst d5_117 (v := 4) rfl ?_
    refine Go.icmpT d5_118 j5_118 (XT.ii_le_t (by decide)) ?_
    refine Go.iload d5_144 rfl ?_
    exact Go.ireturnZ d5_146 rfl (by decide) (by rw [own_mt_1_2, if_neg h22]) (HOk.eq rfl)
  · -- pc 22 not taken
    refine Go.iconst d5_25 (v := 1) rfl ?_
    refine Go.goto d5_26 j5_26 ?_
    refine Go.istore d5_30 (ls' := [.val (.ref i), .val (.int 1), .val (.int 2), .val (.int 1), .val (.int 1)]) rfl ?_
    refine Go.iloadN d5_32 rfl ?_
    refine Go.iconst d5_33 (v := 1) rfl ?_
    refine Go.icmpT d5_34 j5_34 (XT.ii_le_t (by decide)) ?_
    refine Go.iloadN d5_60 rfl ?_
    refine Go.iconst d5_61 (v := 2) rfl ?_
    refine Go.icmpT d5_62 j5_62 (XT.ii_le_t (by decide)) ?_
    refine Go.iloadN d5_88 rfl ?_
    refine Go.iconst d5_89 (v := 3) rfl ?_
    refine Go.icmpT d5_90 j5_90 (XT.ii_le_t (by decide)) ?_
    refine Go.iloadN d5_116 rfl ?_
    refine Go.iconst d5_117 (v := 4) rfl ?_
    refine Go.icmpT d5_118 j5_118 (XT.ii_le_t (by decide)) ?_
    refine Go.iload d5_144 rfl ?_
    exact Go.ireturnZ d5_146 rfl (by decide) (by rw [own_mt_1_2, if_pos h22]) (HOk.eq rfl)
theorem own_mtv_1_2 (s : List Int32) (s0 s1 : Int32) (hv0 : s[0]? = some s0) (hv1 : s[1]? = some s1) : own_mt_1_2 s0 s1 = if own_mtE (own_E s) 1 1 = true then 1 else 0 := by
  simp only [own_mt_1_2, own_mtE, own_E, Nat.reduceAdd, hv0, hv1, Option.some.injEq, Bool.true_and, Bool.and_eq_true, decide_eq_true_eq]
  all_goals ((repeat' split) <;> simp_all)
def own_bd_2 (s0 s1 : Int32) : Int32 := (if (own_mt_1_2 s0 s1) = 0 then 0 else 1)
theorem go_own_bd_2 (K : Ctx) (hw : ∀ d ∈ tables_1, d.before K.2.2.1 K.2.1 = true) (H : Hp) (i : Nat) (vs : List Value) (s0 s1 : Int32) (hH : H[i]? = some (.inr (.int, vs))) (hv0 : vs[0]? = some (.int s0)) (hv1 : vs[1]? = some (.int s1)) : Go K m4 1 16 0 [.val (.ref i), .val (.int 2)] [] H (some (.int (own_bd_2 s0 s1)), some H, 0, 0) := by
  refine Go.iconst d4_0 (v := 5) rfl ?_
  refine Go.iloadN d4_1 rfl ?_
  refine Go.icmpT d4_2 j4_2 (XT.ii_ge_t (by decide)) ?_
  refine Go.iconst d4_16 (v := 4) rfl ?_
  refine Go.iloadN d4_17 rfl ?_
  refine Go.icmpT d4_18 j4_18 (XT.ii_ge_t (by decide)) ?_
  refine Go.iconst d4_32 (v := 3) rfl ?_
  refine Go.iloadN d4_33 rfl ?_
  refine Go.icmpT d4_34 j4_34 (XT.ii_ge_t (by decide)) ?_
  refine Go.iconst d4_48 (v := 2) rfl ?_
  refine Go.iloadN d4_49 rfl ?_
  refine Go.icmpT d4_50 j4_50 (XT.ii_ge_t (by decide)) ?_
  refine Go.iconst d4_64 (v := 1) rfl ?_
  refine Go.iloadN d4_65 rfl ?_
  refine Go.icmpF d4_66 (XT.ii_ge_f (by decide)) ?_
  refine Go.aloadN d4_69 rfl rfl ?_
  refine Go.iconst d4_70 (v := 1) rfl ?_
  refine Go.iloadN d4_71 rfl ?_
  refine Go.callS (M' := m5) d4_72 (hw _ (List.mem_of_getElem? (i := 17) rfl)) (hw _ (List.mem_of_getElem? (i := 18) rfl)) (hw _ (List.mem_of_getElem? (i := 9) rfl)) (hw _ (List.mem_of_getElem? (i := 19) rfl)) mi5 (as := [.ref i, .int 1, .int 2]) rfl rfl (st := []) rfl (ls1 := [.val (.ref i), .val (.int 1), .val (.int 2), .unset, .unset]) rfl (W := 0) rfl (by decide) (by decide) (go_own_mt_1_2 K hw H i vs s0 s1 hH hv0 hv1) 0 0 (by decide) (by decide) ?_
  show Go _ _ _ _ 75 [.val (.ref i), .val (.int 2)] [.int (own_mt_1_2 s0 s1)] H _
  refine Go.if_eq d4_75 j4_75 (fun h75 => ?_) (fun h75 => ?_)
  · -- pc 75 taken
    refine Go.iconst d4_80 (v := 0) rfl ?_
    exact Go.ireturn d4_81 rfl (by rw [own_bd_2, if_pos h75]) (HOk.eq rfl)
  · -- pc 75 not taken
    refine Go.iconst d4_78 (v := 1) rfl ?_
    exact Go.ireturn d4_79 rfl (by rw [own_bd_2, if_neg h75]) (HOk.eq rfl)
theorem own_bdv_2 (s : List Int32) (s0 s1 : Int32) (hv0 : s[0]? = some s0) (hv1 : s[1]? = some s1) : own_bd_2 s0 s1 = Int32.ofNat (own_bdE (own_E s) 2) := by
  simp only [own_bd_2, own_bdE, own_mtv_1_2 s s0 s1 hv0 hv1, Nat.reduceLT, Nat.reduceSub, true_and, false_and, if_false]
  all_goals ((repeat' split) <;> simp_all)
def own_mt_1_3 (s0 s1 s2 : Int32) : Int32 := (if s0 = s2 then 1 else 0)
theorem go_own_mt_1_3 (K : Ctx) (hw : ∀ d ∈ tables_1, d.before K.2.2.1 K.2.1 = true) (H : Hp) (i : Nat) (vs : List Value) (s0 s1 s2 : Int32) (hH : H[i]? = some (.inr (.int, vs))) (hv0 : vs[0]? = some (.int s0)) (hv1 : vs[1]? = some (.int s1)) (hv2 : vs[2]? = some (.int s2)) : Go K m5 0 0 0 [.val (.ref i), .val (.int 1), .val (.int 3), .unset, .unset] [] H (some (.int (own_mt_1_3 s0 s1 s2)), some H, 0, 0) := by
  refine Go.iloadN d5_0 rfl ?_
  refine Go.iloadN d5_1 rfl ?_
  refine Go.isub d5_2 ?_
  show Go _ _ _ _ 3 [.val (.ref i), .val (.int 1), .val (.int 3), .unset, .unset] [.int 2] H _
  refine Go.istoreN d5_3 (ls' := [.val (.ref i), .val (.int 1), .val (.int 3), .val (.int 2), .unset]) rfl ?_
  refine Go.iconst d5_4 (v := 1) rfl ?_
  refine Go.istore d5_5 (ls' := [.val (.ref i), .val (.int 1), .val (.int 3), .val (.int 2), .val (.int 1)]) rfl ?_
  refine Go.iloadN d5_7 rfl ?_
  refine Go.ifF d5_8 (XT.i0_le_f (by decide)) ?_
  refine Go.iload d5_11 rfl ?_
  refine Go.ifF d5_13 (XT.i0_eq_f (by decide)) ?_
  refine Go.aloadN d5_16 rfl rfl ?_
  refine Go.iconst d5_17 (v := 0) rfl ?_
  refine Go.iaload d5_18 hH (by decide) hv0 ?_
  refine Go.aloadN d5_19 rfl rfl ?_
  refine Go.iloadN d5_20 rfl ?_
  refine Go.iaload d5_21 hH (by decide) hv2 ?_
  refine Go.icmp_ne d5_22 j5_22 (fun h22 => ?_) (fun h22 => ?_)
  · -- pc 22 taken
    refine Go.iconst d5_29 (v := 0) rfl ?_
    refine Go.istore d5_30 (ls' := [.val (.ref i), .val (.int 1), .val (.int 3), .val (.int 2), .val (.int 0)]) rfl ?_
    refine Go.iloadN d5_32 rfl ?_
    refine Go.iconst d5_33 (v := 1) rfl ?_
    refine Go.icmpT d5_34 j5_34 (XT.ii_le_t (by decide)) ?_
    refine Go.iloadN d5_60 rfl ?_
    refine Go.iconst d5_61 (v := 2) rfl ?_
    refine Go.icmpT d5_62 j5_62 (XT.ii_le_t (by decide)) ?_
    refine Go.iloadN d5_88 rfl ?_
    refine Go.iconst d5_89 (v := 3) rfl ?_
    refine Go.icmpT d5_90 j5_90 (XT.ii_le_t (by decide)) ?_
    refine Go.iloadN d5_116 rfl ?_
    refine Go.iconst d5_117 (v := 4) rfl ?_
    refine Go.icmpT d5_118 j5_118 (XT.ii_le_t (by decide)) ?_
    refine Go.iload d5_144 rfl ?_
    exact Go.ireturnZ d5_146 rfl (by decide) (by rw [own_mt_1_3, if_neg h22]) (HOk.eq rfl)
  · -- pc 22 not taken
    refine Go.iconst d5_25 (v := 1) rfl ?_
    refine Go.goto d5_26 j5_26 ?_
    refine Go.istore d5_30 (ls' := [.val (.ref i), .val (.int 1), .val (.int 3), .val (.int 2), .val (.int 1)]) rfl ?_
    refine Go.iloadN d5_32 rfl ?_
    refine Go.iconst d5_33 (v := 1) rfl ?_
    refine Go.icmpT d5_34 j5_34 (XT.ii_le_t (by decide)) ?_
    refine Go.iloadN d5_60 rfl ?_
    refine Go.iconst d5_61 (v := 2) rfl ?_
    refine Go.icmpT d5_62 j5_62 (XT.ii_le_t (by decide)) ?_
    refine Go.iloadN d5_88 rfl ?_
    refine Go.iconst d5_89 (v := 3) rfl ?_
    refine Go.icmpT d5_90 j5_90 (XT.ii_le_t (by decide)) ?_
    refine Go.iloadN d5_116 rfl ?_
    refine Go.iconst d5_117 (v := 4) rfl ?_
    refine Go.icmpT d5_118 j5_118 (XT.ii_le_t (by decide)) ?_
    refine Go.iload d5_144 rfl ?_
    exact Go.ireturnZ d5_146 rfl (by decide) (by rw [own_mt_1_3, if_pos h22]) (HOk.eq rfl)
theorem own_mtv_1_3 (s : List Int32) (s0 s1 s2 : Int32) (hv0 : s[0]? = some s0) (hv1 : s[1]? = some s1) (hv2 : s[2]? = some s2) : own_mt_1_3 s0 s1 s2 = if own_mtE (own_E s) 2 1 = true then 1 else 0 := by
  simp only [own_mt_1_3, own_mtE, own_E, Nat.reduceAdd, hv0, hv1, hv2, Option.some.injEq, Bool.true_and, Bool.and_eq_true, decide_eq_true_eq]
  all_goals ((repeat' split) <;> simp_all)
def own_mt_2_3 (s0 s1 s2 : Int32) : Int32 := (if s0 = s1 then (if s1 = s2 then 1 else 0) else 0)
theorem go_own_mt_2_3 (K : Ctx) (hw : ∀ d ∈ tables_1, d.before K.2.2.1 K.2.1 = true) (H : Hp) (i : Nat) (vs : List Value) (s0 s1 s2 : Int32) (hH : H[i]? = some (.inr (.int, vs))) (hv0 : vs[0]? = some (.int s0)) (hv1 : vs[1]? = some (.int s1)) (hv2 : vs[2]? = some (.int s2)) : Go K m5 0 0 0 [.val (.ref i), .val (.int 2), .val (.int 3), .unset, .unset] [] H (some (.int (own_mt_2_3 s0 s1 s2)), some H, 0, 0) := by
  refine Go.iloadN d5_0 rfl ?_
  refine Go.iloadN d5_1 rfl ?_
  refine Go.isub d5_2 ?_
  show Go _ _ _ _ 3 [.val (.ref i), .val (.int 2), .val (.int 3), .unset, .unset] [.int 1] H _
  refine Go.istoreN d5_3 (ls' := [.val (.ref i), .val (.int 2), .val (.int 3), .val (.int 1), .unset]) rfl ?_
  refine Go.iconst d5_4 (v := 1) rfl ?_
  refine Go.istore d5_5 (ls' := [.val (.ref i), .val (.int 2), .val (.int 3), .val (.int 1), .val (.int 1)]) rfl ?_
  refine Go.iloadN d5_7 rfl ?_
  refine Go.ifF d5_8 (XT.i0_le_f (by decide)) ?_
  refine Go.iload d5_11 rfl ?_
  refine Go.ifF d5_13 (XT.i0_eq_f (by decide)) ?_
  refine Go.aloadN d5_16 rfl rfl ?_
  refine Go.iconst d5_17 (v := 0) rfl ?_
  refine Go.iaload d5_18 hH (by decide) hv0 ?_
  refine Go.aloadN d5_19 rfl rfl ?_
  refine Go.iloadN d5_20 rfl ?_
  refine Go.iaload d5_21 hH (by decide) hv1 ?_
  refine Go.icmp_ne d5_22 j5_22 (fun h22 => ?_) (fun h22 => ?_)
  · -- pc 22 taken
    refine Go.iconst d5_29 (v := 0) rfl ?_
    refine Go.istore d5_30 (ls' := [.val (.ref i), .val (.int 2), .val (.int 3), .val (.int 1), .val (.int 0)]) rfl ?_
    refine Go.iloadN d5_32 rfl ?_
    refine Go.iconst d5_33 (v := 1) rfl ?_
    refine Go.icmpF d5_34 (XT.ii_le_f (by decide)) ?_
    refine Go.iload d5_37 rfl ?_
    refine Go.ifT d5_39 j5_39 (XT.i0_eq_t (by decide)) ?_
    refine Go.iconst d5_57 (v := 0) rfl ?_
    refine Go.istore d5_58 (ls' := [.val (.ref i), .val (.int 2), .val (.int 3), .val (.int 1), .val (.int 0)]) rfl ?_
    refine Go.iloadN d5_60 rfl ?_
    refine Go.iconst d5_61 (v := 2) rfl ?_
    refine Go.icmpT d5_62 j5_62 (XT.ii_le_t (by decide)) ?_
    refine Go.iloadN d5_88 rfl ?_
    refine Go.iconst d5_89 (v := 3) rfl ?_
    refine Go.icmpT d5_90 j5_90 (XT.ii_le_t (by decide)) ?_
    refine Go.iloadN d5_116 rfl ?_
    refine Go.iconst d5_117 (v := 4) rfl ?_
    refine Go.icmpT d5_118 j5_118 (XT.ii_le_t (by decide)) ?_
    refine Go.iload d5_144 rfl ?_
    exact Go.ireturnZ d5_146 rfl (by decide) (by rw [own_mt_2_3, if_neg h22]) (HOk.eq rfl)
  · -- pc 22 not taken
    refine Go.iconst d5_25 (v := 1) rfl ?_
    refine Go.goto d5_26 j5_26 ?_
    refine Go.istore d5_30 (ls' := [.val (.ref i), .val (.int 2), .val (.int 3), .val (.int 1), .val (.int 1)]) rfl ?_
    refine Go.iloadN d5_32 rfl ?_
    refine Go.iconst d5_33 (v := 1) rfl ?_
    refine Go.icmpF d5_34 (XT.ii_le_f (by decide)) ?_
    refine Go.iload d5_37 rfl ?_
    refine Go.ifF d5_39 (XT.i0_eq_f (by decide)) ?_
    refine Go.aloadN d5_42 rfl rfl ?_
    refine Go.iconst d5_43 (v := 1) rfl ?_
    refine Go.iaload d5_44 hH (by decide) hv1 ?_
    refine Go.aloadN d5_45 rfl rfl ?_
    refine Go.iloadN d5_46 rfl ?_
    refine Go.iconst d5_47 (v := 1) rfl ?_
    refine Go.iadd d5_48 ?_
    show Go _ _ _ _ 49 [.val (.ref i), .val (.int 2), .val (.int 3), .val (.int 1), .val (.int 1)] [.int 2, .ref i, .int s1] H _
    refine Go.iaload d5_49 hH (by decide) hv2 ?_
    refine Go.icmp_ne d5_50 j5_50 (fun h50 => ?_) (fun h50 => ?_)
    · -- pc 50 taken
      refine Go.iconst d5_57 (v := 0) rfl ?_
      refine Go.istore d5_58 (ls' := [.val (.ref i), .val (.int 2), .val (.int 3), .val (.int 1), .val (.int 0)]) rfl ?_
      refine Go.iloadN d5_60 rfl ?_
      refine Go.iconst d5_61 (v := 2) rfl ?_
      refine Go.icmpT d5_62 j5_62 (XT.ii_le_t (by decide)) ?_
      refine Go.iloadN d5_88 rfl ?_
      refine Go.iconst d5_89 (v := 3) rfl ?_
      refine Go.icmpT d5_90 j5_90 (XT.ii_le_t (by decide)) ?_
      refine Go.iloadN d5_116 rfl ?_
      refine Go.iconst d5_117 (v := 4) rfl ?_
      refine Go.icmpT d5_118 j5_118 (XT.ii_le_t (by decide)) ?_
      refine Go.iload d5_144 rfl ?_
      exact Go.ireturnZ d5_146 rfl (by decide) (by rw [own_mt_2_3, if_pos h22, if_neg h50]) (HOk.eq rfl)
    · -- pc 50 not taken
      refine Go.iconst d5_53 (v := 1) rfl ?_
      refine Go.goto d5_54 j5_54 ?_
      refine Go.istore d5_58 (ls' := [.val (.ref i), .val (.int 2), .val (.int 3), .val (.int 1), .val (.int 1)]) rfl ?_
      refine Go.iloadN d5_60 rfl ?_
      refine Go.iconst d5_61 (v := 2) rfl ?_
      refine Go.icmpT d5_62 j5_62 (XT.ii_le_t (by decide)) ?_
      refine Go.iloadN d5_88 rfl ?_
      refine Go.iconst d5_89 (v := 3) rfl ?_
      refine Go.icmpT d5_90 j5_90 (XT.ii_le_t (by decide)) ?_
      refine Go.iloadN d5_116 rfl ?_
      refine Go.iconst d5_117 (v := 4) rfl ?_
      refine Go.icmpT d5_118 j5_118 (XT.ii_le_t (by decide)) ?_
      refine Go.iload d5_144 rfl ?_
      exact Go.ireturnZ d5_146 rfl (by decide) (by rw [own_mt_2_3, if_pos h22, if_pos h50]) (HOk.eq rfl)
theorem own_mtv_2_3 (s : List Int32) (s0 s1 s2 : Int32) (hv0 : s[0]? = some s0) (hv1 : s[1]? = some s1) (hv2 : s[2]? = some s2) : own_mt_2_3 s0 s1 s2 = if own_mtE (own_E s) 1 2 = true then 1 else 0 := by
  simp only [own_mt_2_3, own_mtE, own_E, Nat.reduceAdd, hv0, hv1, hv2, Option.some.injEq, Bool.true_and, Bool.and_eq_true, decide_eq_true_eq]
  all_goals ((repeat' split) <;> simp_all)
def own_bd_3 (s0 s1 s2 : Int32) : Int32 := (if (own_mt_2_3 s0 s1 s2) = 0 then (if (own_mt_1_3 s0 s1 s2) = 0 then 0 else 1) else 2)
theorem go_own_bd_3 (K : Ctx) (hw : ∀ d ∈ tables_1, d.before K.2.2.1 K.2.1 = true) (H : Hp) (i : Nat) (vs : List Value) (s0 s1 s2 : Int32) (hH : H[i]? = some (.inr (.int, vs))) (hv0 : vs[0]? = some (.int s0)) (hv1 : vs[1]? = some (.int s1)) (hv2 : vs[2]? = some (.int s2)) : Go K m4 1 16 0 [.val (.ref i), .val (.int 3)] [] H (some (.int (own_bd_3 s0 s1 s2)), some H, 0, 0) := by
  refine Go.iconst d4_0 (v := 5) rfl ?_
  refine Go.iloadN d4_1 rfl ?_
  refine Go.icmpT d4_2 j4_2 (XT.ii_ge_t (by decide)) ?_
  refine Go.iconst d4_16 (v := 4) rfl ?_
  refine Go.iloadN d4_17 rfl ?_
  refine Go.icmpT d4_18 j4_18 (XT.ii_ge_t (by decide)) ?_
  refine Go.iconst d4_32 (v := 3) rfl ?_
  refine Go.iloadN d4_33 rfl ?_
  refine Go.icmpT d4_34 j4_34 (XT.ii_ge_t (by decide)) ?_
  refine Go.iconst d4_48 (v := 2) rfl ?_
  refine Go.iloadN d4_49 rfl ?_
  refine Go.icmpF d4_50 (XT.ii_ge_f (by decide)) ?_
  refine Go.aloadN d4_53 rfl rfl ?_
  refine Go.iconst d4_54 (v := 2) rfl ?_
  refine Go.iloadN d4_55 rfl ?_
  refine Go.callS (M' := m5) d4_56 (hw _ (List.mem_of_getElem? (i := 17) rfl)) (hw _ (List.mem_of_getElem? (i := 18) rfl)) (hw _ (List.mem_of_getElem? (i := 9) rfl)) (hw _ (List.mem_of_getElem? (i := 19) rfl)) mi5 (as := [.ref i, .int 2, .int 3]) rfl rfl (st := []) rfl (ls1 := [.val (.ref i), .val (.int 2), .val (.int 3), .unset, .unset]) rfl (W := 0) rfl (by decide) (by decide) (go_own_mt_2_3 K hw H i vs s0 s1 s2 hH hv0 hv1 hv2) 0 0 (by decide) (by decide) ?_
  show Go _ _ _ _ 59 [.val (.ref i), .val (.int 3)] [.int (own_mt_2_3 s0 s1 s2)] H _
  refine Go.if_eq d4_59 j4_59 (fun h59 => ?_) (fun h59 => ?_)
  · -- pc 59 taken
    refine Go.iconst d4_64 (v := 1) rfl ?_
    refine Go.iloadN d4_65 rfl ?_
    refine Go.icmpF d4_66 (XT.ii_ge_f (by decide)) ?_
    refine Go.aloadN d4_69 rfl rfl ?_
    refine Go.iconst d4_70 (v := 1) rfl ?_
    refine Go.iloadN d4_71 rfl ?_
    refine Go.callS (M' := m5) d4_72 (hw _ (List.mem_of_getElem? (i := 17) rfl)) (hw _ (List.mem_of_getElem? (i := 18) rfl)) (hw _ (List.mem_of_getElem? (i := 9) rfl)) (hw _ (List.mem_of_getElem? (i := 19) rfl)) mi5 (as := [.ref i, .int 1, .int 3]) rfl rfl (st := []) rfl (ls1 := [.val (.ref i), .val (.int 1), .val (.int 3), .unset, .unset]) rfl (W := 0) rfl (by decide) (by decide) (go_own_mt_1_3 K hw H i vs s0 s1 s2 hH hv0 hv1 hv2) 0 0 (by decide) (by decide) ?_
    show Go _ _ _ _ 75 [.val (.ref i), .val (.int 3)] [.int (own_mt_1_3 s0 s1 s2)] H _
    refine Go.if_eq d4_75 j4_75 (fun h75 => ?_) (fun h75 => ?_)
    · -- pc 75 taken
      refine Go.iconst d4_80 (v := 0) rfl ?_
      exact Go.ireturn d4_81 rfl (by rw [own_bd_3, if_pos h59, if_pos h75]) (HOk.eq rfl)
    · -- pc 75 not taken
      refine Go.iconst d4_78 (v := 1) rfl ?_
      exact Go.ireturn d4_79 rfl (by rw [own_bd_3, if_pos h59, if_neg h75]) (HOk.eq rfl)
  · -- pc 59 not taken
    refine Go.iconst d4_62 (v := 2) rfl ?_
    exact Go.ireturn d4_63 rfl (by rw [own_bd_3, if_neg h59]) (HOk.eq rfl)
theorem own_bdv_3 (s : List Int32) (s0 s1 s2 : Int32) (hv0 : s[0]? = some s0) (hv1 : s[1]? = some s1) (hv2 : s[2]? = some s2) : own_bd_3 s0 s1 s2 = Int32.ofNat (own_bdE (own_E s) 3) := by
  simp only [own_bd_3, own_bdE, own_mtv_1_3 s s0 s1 s2 hv0 hv1 hv2, own_mtv_2_3 s s0 s1 s2 hv0 hv1 hv2, Nat.reduceLT, Nat.reduceSub, true_and, false_and, if_false]
  all_goals ((repeat' split) <;> simp_all)
def own_mt_1_4 (s0 s1 s2 s3 : Int32) : Int32 := (if s0 = s3 then 1 else 0)
theorem go_own_mt_1_4 (K : Ctx) (hw : ∀ d ∈ tables_1, d.before K.2.2.1 K.2.1 = true) (H : Hp) (i : Nat) (vs : List Value) (s0 s1 s2 s3 : Int32) (hH : H[i]? = some (.inr (.int, vs))) (hv0 : vs[0]? = some (.int s0)) (hv1 : vs[1]? = some (.int s1)) (hv2 : vs[2]? = some (.int s2)) (hv3 : vs[3]? = some (.int s3)) : Go K m5 0 0 0 [.val (.ref i), .val (.int 1), .val (.int 4), .unset, .unset] [] H (some (.int (own_mt_1_4 s0 s1 s2 s3)), some H, 0, 0) := by
  refine Go.iloadN d5_0 rfl ?_
  refine Go.iloadN d5_1 rfl ?_
  refine Go.isub d5_2 ?_
  show Go _ _ _ _ 3 [.val (.ref i), .val (.int 1), .val (.int 4), .unset, .unset] [.int 3] H _
  refine Go.istoreN d5_3 (ls' := [.val (.ref i), .val (.int 1), .val (.int 4), .val (.int 3), .unset]) rfl ?_
  refine Go.iconst d5_4 (v := 1) rfl ?_
  refine Go.istore d5_5 (ls' := [.val (.ref i), .val (.int 1), .val (.int 4), .val (.int 3), .val (.int 1)]) rfl ?_
  refine Go.iloadN d5_7 rfl ?_
  refine Go.ifF d5_8 (XT.i0_le_f (by decide)) ?_
  refine Go.iload d5_11 rfl ?_
  refine Go.ifF d5_13 (XT.i0_eq_f (by decide)) ?_
  refine Go.aloadN d5_16 rfl rfl ?_
  refine Go.iconst d5_17 (v := 0) rfl ?_
  refine Go.iaload d5_18 hH (by decide) hv0 ?_
  refine Go.aloadN d5_19 rfl rfl ?_
  refine Go.iloadN d5_20 rfl ?_
  refine Go.iaload d5_21 hH (by decide) hv3 ?_
  refine Go.icmp_ne d5_22 j5_22 (fun h22 => ?_) (fun h22 => ?_)
  · -- pc 22 taken
    refine Go.iconst d5_29 (v := 0) rfl ?_
    refine Go.istore d5_30 (ls' := [.val (.ref i), .val (.int 1), .val (.int 4), .val (.int 3), .val (.int 0)]) rfl ?_
    refine Go.iloadN d5_32 rfl ?_
    refine Go.iconst d5_33 (v := 1) rfl ?_
    refine Go.icmpT d5_34 j5_34 (XT.ii_le_t (by decide)) ?_
    refine Go.iloadN d5_60 rfl ?_
    refine Go.iconst d5_61 (v := 2) rfl ?_
    refine Go.icmpT d5_62 j5_62 (XT.ii_le_t (by decide)) ?_
    refine Go.iloadN d5_88 rfl ?_
    refine Go.iconst d5_89 (v := 3) rfl ?_
    refine Go.icmpT d5_90 j5_90 (XT.ii_le_t (by decide)) ?_
    refine Go.iloadN d5_116 rfl ?_
    refine Go.iconst d5_117 (v := 4) rfl ?_
    refine Go.icmpT d5_118 j5_118 (XT.ii_le_t (by decide)) ?_
    refine Go.iload d5_144 rfl ?_
    exact Go.ireturnZ d5_146 rfl (by decide) (by rw [own_mt_1_4, if_neg h22]) (HOk.eq rfl)
  · -- pc 22 not taken
    refine Go.iconst d5_25 (v := 1) rfl ?_
    refine Go.goto d5_26 j5_26 ?_
    refine Go.istore d5_30 (ls' := [.val (.ref i), .val (.int 1), .val (.int 4), .val (.int 3), .val (.int 1)]) rfl ?_
    refine Go.iloadN d5_32 rfl ?_
    refine Go.iconst d5_33 (v := 1) rfl ?_
    refine Go.icmpT d5_34 j5_34 (XT.ii_le_t (by decide)) ?_
    refine Go.iloadN d5_60 rfl ?_
    refine Go.iconst d5_61 (v := 2) rfl ?_
    refine Go.icmpT d5_62 j5_62 (XT.ii_le_t (by decide)) ?_
    refine Go.iloadN d5_88 rfl ?_
    refine Go.iconst d5_89 (v := 3) rfl ?_
    refine Go.icmpT d5_90 j5_90 (XT.ii_le_t (by decide)) ?_
    refine Go.iloadN d5_116 rfl ?_
    refine Go.iconst d5_117 (v := 4) rfl ?_
    refine Go.icmpT d5_118 j5_118 (XT.ii_le_t (by decide)) ?_
    refine Go.iload d5_144 rfl ?_
    exact Go.ireturnZ d5_146 rfl (by decide) (by rw [own_mt_1_4, if_pos h22]) (HOk.eq rfl)
theorem own_mtv_1_4 (s : List Int32) (s0 s1 s2 s3 : Int32) (hv0 : s[0]? = some s0) (hv1 : s[1]? = some s1) (hv2 : s[2]? = some s2) (hv3 : s[3]? = some s3) : own_mt_1_4 s0 s1 s2 s3 = if own_mtE (own_E s) 3 1 = true then 1 else 0 := by
  simp only [own_mt_1_4, own_mtE, own_E, Nat.reduceAdd, hv0, hv1, hv2, hv3, Option.some.injEq, Bool.true_and, Bool.and_eq_true, decide_eq_true_eq]
  all_goals ((repeat' split) <;> simp_all)
def own_mt_2_4 (s0 s1 s2 s3 : Int32) : Int32 := (if s0 = s2 then (if s1 = s3 then 1 else 0) else 0)
theorem go_own_mt_2_4 (K : Ctx) (hw : ∀ d ∈ tables_1, d.before K.2.2.1 K.2.1 = true) (H : Hp) (i : Nat) (vs : List Value) (s0 s1 s2 s3 : Int32) (hH : H[i]? = some (.inr (.int, vs))) (hv0 : vs[0]? = some (.int s0)) (hv1 : vs[1]? = some (.int s1)) (hv2 : vs[2]? = some (.int s2)) (hv3 : vs[3]? = some (.int s3)) : Go K m5 0 0 0 [.val (.ref i), .val (.int 2), .val (.int 4), .unset, .unset] [] H (some (.int (own_mt_2_4 s0 s1 s2 s3)), some H, 0, 0) := by
  refine Go.iloadN d5_0 rfl ?_
  refine Go.iloadN d5_1 rfl ?_
  refine Go.isub d5_2 ?_
  show Go _ _ _ _ 3 [.val (.ref i), .val (.int 2), .val (.int 4), .unset, .unset] [.int 2] H _
  refine Go.istoreN d5_3 (ls' := [.val (.ref i), .val (.int 2), .val (.int 4), .val (.int 2), .unset]) rfl ?_
  refine Go.iconst d5_4 (v := 1) rfl ?_
  refine Go.istore d5_5 (ls' := [.val (.ref i), .val (.int 2), .val (.int 4), .val (.int 2), .val (.int 1)]) rfl ?_
  refine Go.iloadN d5_7 rfl ?_
  refine Go.ifF d5_8 (XT.i0_le_f (by decide)) ?_
  refine Go.iload d5_11 rfl ?_
  refine Go.ifF d5_13 (XT.i0_eq_f (by decide)) ?_
  refine Go.aloadN d5_16 rfl rfl ?_
  refine Go.iconst d5_17 (v := 0) rfl ?_
  refine Go.iaload d5_18 hH (by decide) hv0 ?_
  refine Go.aloadN d5_19 rfl rfl ?_
  refine Go.iloadN d5_20 rfl ?_
  refine Go.iaload d5_21 hH (by decide) hv2 ?_
  refine Go.icmp_ne d5_22 j5_22 (fun h22 => ?_) (fun h22 => ?_)
  · -- pc 22 taken
    refine Go.iconst d5_29 (v := 0) rfl ?_
    refine Go.istore d5_30 (ls' := [.val (.ref i), .val (.int 2), .val (.int 4), .val (.int 2), .val (.int 0)]) rfl ?_
    refine Go.iloadN d5_32 rfl ?_
    refine Go.iconst d5_33 (v := 1) rfl ?_
    refine Go.icmpF d5_34 (XT.ii_le_f (by decide)) ?_
    refine Go.iload d5_37 rfl ?_
    refine Go.ifT d5_39 j5_39 (XT.i0_eq_t (by decide)) ?_
    refine Go.iconst d5_57 (v := 0) rfl ?_
    refine Go.istore d5_58 (ls' := [.val (.ref i), .val (.int 2), .val (.int 4), .val (.int 2), .val (.int 0)]) rfl ?_
    refine Go.iloadN d5_60 rfl ?_
    refine Go.iconst d5_61 (v := 2) rfl ?_
    refine Go.icmpT d5_62 j5_62 (XT.ii_le_t (by decide)) ?_
    refine Go.iloadN d5_88 rfl ?_
    refine Go.iconst d5_89 (v := 3) rfl ?_
    refine Go.icmpT d5_90 j5_90 (XT.ii_le_t (by decide)) ?_
    refine Go.iloadN d5_116 rfl ?_
    refine Go.iconst d5_117 (v := 4) rfl ?_
    refine Go.icmpT d5_118 j5_118 (XT.ii_le_t (by decide)) ?_
    refine Go.iload d5_144 rfl ?_
    exact Go.ireturnZ d5_146 rfl (by decide) (by rw [own_mt_2_4, if_neg h22]) (HOk.eq rfl)
  · -- pc 22 not taken
    refine Go.iconst d5_25 (v := 1) rfl ?_
    refine Go.goto d5_26 j5_26 ?_
    refine Go.istore d5_30 (ls' := [.val (.ref i), .val (.int 2), .val (.int 4), .val (.int 2), .val (.int 1)]) rfl ?_
    refine Go.iloadN d5_32 rfl ?_
    refine Go.iconst d5_33 (v := 1) rfl ?_
    refine Go.icmpF d5_34 (XT.ii_le_f (by decide)) ?_
    refine Go.iload d5_37 rfl ?_
    refine Go.ifF d5_39 (XT.i0_eq_f (by decide)) ?_
    refine Go.aloadN d5_42 rfl rfl ?_
    refine Go.iconst d5_43 (v := 1) rfl ?_
    refine Go.iaload d5_44 hH (by decide) hv1 ?_
    refine Go.aloadN d5_45 rfl rfl ?_
    refine Go.iloadN d5_46 rfl ?_
    refine Go.iconst d5_47 (v := 1) rfl ?_
    refine Go.iadd d5_48 ?_
    show Go _ _ _ _ 49 [.val (.ref i), .val (.int 2), .val (.int 4), .val (.int 2), .val (.int 1)] [.int 3, .ref i, .int s1] H _
    refine Go.iaload d5_49 hH (by decide) hv3 ?_
    refine Go.icmp_ne d5_50 j5_50 (fun h50 => ?_) (fun h50 => ?_)
    · -- pc 50 taken
      refine Go.iconst d5_57 (v := 0) rfl ?_
      refine Go.istore d5_58 (ls' := [.val (.ref i), .val (.int 2), .val (.int 4), .val (.int 2), .val (.int 0)]) rfl ?_
      refine Go.iloadN d5_60 rfl ?_
      refine Go.iconst d5_61 (v := 2) rfl ?_
      refine Go.icmpT d5_62 j5_62 (XT.ii_le_t (by decide)) ?_
      refine Go.iloadN d5_88 rfl ?_
      refine Go.iconst d5_89 (v := 3) rfl ?_
      refine Go.icmpT d5_90 j5_90 (XT.ii_le_t (by decide)) ?_
      refine Go.iloadN d5_116 rfl ?_
      refine Go.iconst d5_117 (v := 4) rfl ?_
      refine Go.icmpT d5_118 j5_118 (XT.ii_le_t (by decide)) ?_
      refine Go.iload d5_144 rfl ?_
      exact Go.ireturnZ d5_146 rfl (by decide) (by rw [own_mt_2_4, if_pos h22, if_neg h50]) (HOk.eq rfl)
    · -- pc 50 not taken
      refine Go.iconst d5_53 (v := 1) rfl ?_
      refine Go.goto d5_54 j5_54 ?_
      refine Go.istore d5_58 (ls' := [.val (.ref i), .val (.int 2), .val (.int 4), .val (.int 2), .val (.int 1)]) rfl ?_
      refine Go.iloadN d5_60 rfl ?_
      refine Go.iconst d5_61 (v := 2) rfl ?_
      refine Go.icmpT d5_62 j5_62 (XT.ii_le_t (by decide)) ?_
      refine Go.iloadN d5_88 rfl ?_
      refine Go.iconst d5_89 (v := 3) rfl ?_
      refine Go.icmpT d5_90 j5_90 (XT.ii_le_t (by decide)) ?_
      refine Go.iloadN d5_116 rfl ?_
      refine Go.iconst d5_117 (v := 4) rfl ?_
      refine Go.icmpT d5_118 j5_118 (XT.ii_le_t (by decide)) ?_
      refine Go.iload d5_144 rfl ?_
      exact Go.ireturnZ d5_146 rfl (by decide) (by rw [own_mt_2_4, if_pos h22, if_pos h50]) (HOk.eq rfl)
theorem own_mtv_2_4 (s : List Int32) (s0 s1 s2 s3 : Int32) (hv0 : s[0]? = some s0) (hv1 : s[1]? = some s1) (hv2 : s[2]? = some s2) (hv3 : s[3]? = some s3) : own_mt_2_4 s0 s1 s2 s3 = if own_mtE (own_E s) 2 2 = true then 1 else 0 := by
  simp only [own_mt_2_4, own_mtE, own_E, Nat.reduceAdd, hv0, hv1, hv2, hv3, Option.some.injEq, Bool.true_and, Bool.and_eq_true, decide_eq_true_eq]
  all_goals ((repeat' split) <;> simp_all)
def own_mt_3_4 (s0 s1 s2 s3 : Int32) : Int32 := (if s0 = s1 then (if s1 = s2 then (if s2 = s3 then 1 else 0) else 0) else 0)
theorem go_own_mt_3_4 (K : Ctx) (hw : ∀ d ∈ tables_1, d.before K.2.2.1 K.2.1 = true) (H : Hp) (i : Nat) (vs : List Value) (s0 s1 s2 s3 : Int32) (hH : H[i]? = some (.inr (.int, vs))) (hv0 : vs[0]? = some (.int s0)) (hv1 : vs[1]? = some (.int s1)) (hv2 : vs[2]? = some (.int s2)) (hv3 : vs[3]? = some (.int s3)) : Go K m5 0 0 0 [.val (.ref i), .val (.int 3), .val (.int 4), .unset, .unset] [] H (some (.int (own_mt_3_4 s0 s1 s2 s3)), some H, 0, 0) := by
  refine Go.iloadN d5_0 rfl ?_
  refine Go.iloadN d5_1 rfl ?_
  refine Go.isub d5_2 ?_
  show Go _ _ _ _ 3 [.val (.ref i), .val (.int 3), .val (.int 4), .unset, .unset] [.int 1] H _
  refine Go.istoreN d5_3 (ls' := [.val (.ref i), .val (.int 3), .val (.int 4), .val (.int 1), .unset]) rfl ?_
  refine Go.iconst d5_4 (v := 1) rfl ?_
  refine Go.istore d5_5 (ls' := [.val (.ref i), .val (.int 3), .val (.int 4), .val (.int 1), .val (.int 1)]) rfl ?_
  refine Go.iloadN d5_7 rfl ?_
  refine Go.ifF d5_8 (XT.i0_le_f (by decide)) ?_
  refine Go.iload d5_11 rfl ?_
  refine Go.ifF d5_13 (XT.i0_eq_f (by decide)) ?_
  refine Go.aloadN d5_16 rfl rfl ?_
  refine Go.iconst d5_17 (v := 0) rfl ?_
  refine Go.iaload d5_18 hH (by decide) hv0 ?_
  refine Go.aloadN d5_19 rfl rfl ?_
  refine Go.iloadN d5_20 rfl ?_
  refine Go.iaload d5_21 hH (by decide) hv1 ?_
  refine Go.icmp_ne d5_22 j5_22 (fun h22 => ?_) (fun h22 => ?_)
  · -- pc 22 taken
    refine Go.iconst d5_29 (v := 0) rfl ?_
    refine Go.istore d5_30 (ls' := [.val (.ref i), .val (.int 3), .val (.int 4), .val (.int 1), .val (.int 0)]) rfl ?_
    refine Go.iloadN d5_32 rfl ?_
    refine Go.iconst d5_33 (v := 1) rfl ?_
    refine Go.icmpF d5_34 (XT.ii_le_f (by decide)) ?_
    refine Go.iload d5_37 rfl ?_
    refine Go.ifT d5_39 j5_39 (XT.i0_eq_t (by decide)) ?_
    refine Go.iconst d5_57 (v := 0) rfl ?_
    refine Go.istore d5_58 (ls' := [.val (.ref i), .val (.int 3), .val (.int 4), .val (.int 1), .val (.int 0)]) rfl ?_
    refine Go.iloadN d5_60 rfl ?_
    refine Go.iconst d5_61 (v := 2) rfl ?_
    refine Go.icmpF d5_62 (XT.ii_le_f (by decide)) ?_
    refine Go.iload d5_65 rfl ?_
    refine Go.ifT d5_67 j5_67 (XT.i0_eq_t (by decide)) ?_
    refine Go.iconst d5_85 (v := 0) rfl ?_
    refine Go.istore d5_86 (ls' := [.val (.ref i), .val (.int 3), .val (.int 4), .val (.int 1), .val (.int 0)]) rfl ?_
    refine Go.iloadN d5_88 rfl ?_
    refine Go.iconst d5_89 (v := 3) rfl ?_
    refine Go.icmpT d5_90 j5_90 (XT.ii_le_t (by decide)) ?_
    refine Go.iloadN d5_116 rfl ?_
    refine Go.iconst d5_117 (v := 4) rfl ?_
    refine Go.icmpT d5_118 j5_118 (XT.ii_le_t (by decide)) ?_
    refine Go.iload d5_144 rfl ?_
    exact Go.ireturnZ d5_146 rfl (by decide) (by rw [own_mt_3_4, if_neg h22]) (HOk.eq rfl)
  · -- pc 22 not taken
    refine Go.iconst d5_25 (v := 1) rfl ?_
    refine Go.goto d5_26 j5_26 ?_
    refine Go.istore d5_30 (ls' := [.val (.ref i), .val (.int 3), .val (.int 4), .val (.int 1), .val (.int 1)]) rfl ?_
    refine Go.iloadN d5_32 rfl ?_
    refine Go.iconst d5_33 (v := 1) rfl ?_
    refine Go.icmpF d5_34 (XT.ii_le_f (by decide)) ?_
    refine Go.iload d5_37 rfl ?_
    refine Go.ifF d5_39 (XT.i0_eq_f (by decide)) ?_
    refine Go.aloadN d5_42 rfl rfl ?_
    refine Go.iconst d5_43 (v := 1) rfl ?_
    refine Go.iaload d5_44 hH (by decide) hv1 ?_
    refine Go.aloadN d5_45 rfl rfl ?_
    refine Go.iloadN d5_46 rfl ?_
    refine Go.iconst d5_47 (v := 1) rfl ?_
    refine Go.iadd d5_48 ?_
    show Go _ _ _ _ 49 [.val (.ref i), .val (.int 3), .val (.int 4), .val (.int 1), .val (.int 1)] [.int 2, .ref i, .int s1] H _
    refine Go.iaload d5_49 hH (by decide) hv2 ?_
    refine Go.icmp_ne d5_50 j5_50 (fun h50 => ?_) (fun h50 => ?_)
    · -- pc 50 taken
      refine Go.iconst d5_57 (v := 0) rfl ?_
      refine Go.istore d5_58 (ls' := [.val (.ref i), .val (.int 3), .val (.int 4), .val (.int 1), .val (.int 0)]) rfl ?_
      refine Go.iloadN d5_60 rfl ?_
      refine Go.iconst d5_61 (v := 2) rfl ?_
      refine Go.icmpF d5_62 (XT.ii_le_f (by decide)) ?_
      refine Go.iload d5_65 rfl ?_
      refine Go.ifT d5_67 j5_67 (XT.i0_eq_t (by decide)) ?_
      refine Go.iconst d5_85 (v := 0) rfl ?_
      refine Go.istore d5_86 (ls' := [.val (.ref i), .val (.int 3), .val (.int 4), .val (.int 1), .val (.int 0)]) rfl ?_
      refine Go.iloadN d5_88 rfl ?_
      refine Go.iconst d5_89 (v := 3) rfl ?_
      refine Go.icmpT d5_90 j5_90 (XT.ii_le_t (by decide)) ?_
      refine Go.iloadN d5_116 rfl ?_
      refine Go.iconst d5_117 (v := 4) rfl ?_
      refine Go.icmpT d5_118 j5_118 (XT.ii_le_t (by decide)) ?_
      refine Go.iload d5_144 rfl ?_
      exact Go.ireturnZ d5_146 rfl (by decide) (by rw [own_mt_3_4, if_pos h22, if_neg h50]) (HOk.eq rfl)
    · -- pc 50 not taken
      refine Go.iconst d5_53 (v := 1) rfl ?_
      refine Go.goto d5_54 j5_54 ?_
      refine Go.istore d5_58 (ls' := [.val (.ref i), .val (.int 3), .val (.int 4), .val (.int 1), .val (.int 1)]) rfl ?_
      refine Go.iloadN d5_60 rfl ?_
      refine Go.iconst d5_61 (v := 2) rfl ?_
      refine Go.icmpF d5_62 (XT.ii_le_f (by decide)) ?_
      refine Go.iload d5_65 rfl ?_
      refine Go.ifF d5_67 (XT.i0_eq_f (by decide)) ?_
      refine Go.aloadN d5_70 rfl rfl ?_
      refine Go.iconst d5_71 (v := 2) rfl ?_
      refine Go.iaload d5_72 hH (by decide) hv2 ?_
      refine Go.aloadN d5_73 rfl rfl ?_
      refine Go.iloadN d5_74 rfl ?_
      refine Go.iconst d5_75 (v := 2) rfl ?_
      refine Go.iadd d5_76 ?_
      show Go _ _ _ _ 77 [.val (.ref i), .val (.int 3), .val (.int 4), .val (.int 1), .val (.int 1)] [.int 3, .ref i, .int s2] H _
      refine Go.iaload d5_77 hH (by decide) hv3 ?_
      refine Go.icmp_ne d5_78 j5_78 (fun h78 => ?_) (fun h78 => ?_)
      · -- pc 78 taken
        refine Go.iconst d5_85 (v := 0) rfl ?_
        refine Go.istore d5_86 (ls' := [.val (.ref i), .val (.int 3), .val (.int 4), .val (.int 1), .val (.int 0)]) rfl ?_
        refine Go.iloadN d5_88 rfl ?_
        refine Go.iconst d5_89 (v := 3) rfl ?_
        refine Go.icmpT d5_90 j5_90 (XT.ii_le_t (by decide)) ?_
        refine Go.iloadN d5_116 rfl ?_
        refine Go.iconst d5_117 (v := 4) rfl ?_
        refine Go.icmpT d5_118 j5_118 (XT.ii_le_t (by decide)) ?_
        refine Go.iload d5_144 rfl ?_
        exact Go.ireturnZ d5_146 rfl (by decide) (by rw [own_mt_3_4, if_pos h22, if_pos h50, if_neg h78]) (HOk.eq rfl)
      · -- pc 78 not taken
        refine Go.iconst d5_81 (v := 1) rfl ?_
        refine Go.goto d5_82 j5_82 ?_
        refine Go.istore d5_86 (ls' := [.val (.ref i), .val (.int 3), .val (.int 4), .val (.int 1), .val (.int 1)]) rfl ?_
        refine Go.iloadN d5_88 rfl ?_
        refine Go.iconst d5_89 (v := 3) rfl ?_
        refine Go.icmpT d5_90 j5_90 (XT.ii_le_t (by decide)) ?_
        refine Go.iloadN d5_116 rfl ?_
        refine Go.iconst d5_117 (v := 4) rfl ?_
        refine Go.icmpT d5_118 j5_118 (XT.ii_le_t (by decide)) ?_
        refine Go.iload d5_144 rfl ?_
        exact Go.ireturnZ d5_146 rfl (by decide) (by rw [own_mt_3_4, if_pos h22, if_pos h50, if_pos h78]) (HOk.eq rfl)
theorem own_mtv_3_4 (s : List Int32) (s0 s1 s2 s3 : Int32) (hv0 : s[0]? = some s0) (hv1 : s[1]? = some s1) (hv2 : s[2]? = some s2) (hv3 : s[3]? = some s3) : own_mt_3_4 s0 s1 s2 s3 = if own_mtE (own_E s) 1 3 = true then 1 else 0 := by
  simp only [own_mt_3_4, own_mtE, own_E, Nat.reduceAdd, hv0, hv1, hv2, hv3, Option.some.injEq, Bool.true_and, Bool.and_eq_true, decide_eq_true_eq]
  all_goals ((repeat' split) <;> simp_all)
def own_bd_4 (s0 s1 s2 s3 : Int32) : Int32 := (if (own_mt_3_4 s0 s1 s2 s3) = 0 then (if (own_mt_2_4 s0 s1 s2 s3) = 0 then (if (own_mt_1_4 s0 s1 s2 s3) = 0 then 0 else 1) else 2) else 3)
theorem go_own_bd_4 (K : Ctx) (hw : ∀ d ∈ tables_1, d.before K.2.2.1 K.2.1 = true) (H : Hp) (i : Nat) (vs : List Value) (s0 s1 s2 s3 : Int32) (hH : H[i]? = some (.inr (.int, vs))) (hv0 : vs[0]? = some (.int s0)) (hv1 : vs[1]? = some (.int s1)) (hv2 : vs[2]? = some (.int s2)) (hv3 : vs[3]? = some (.int s3)) : Go K m4 1 16 0 [.val (.ref i), .val (.int 4)] [] H (some (.int (own_bd_4 s0 s1 s2 s3)), some H, 0, 0) := by
  refine Go.iconst d4_0 (v := 5) rfl ?_
  refine Go.iloadN d4_1 rfl ?_
  refine Go.icmpT d4_2 j4_2 (XT.ii_ge_t (by decide)) ?_
  refine Go.iconst d4_16 (v := 4) rfl ?_
  refine Go.iloadN d4_17 rfl ?_
  refine Go.icmpT d4_18 j4_18 (XT.ii_ge_t (by decide)) ?_
  refine Go.iconst d4_32 (v := 3) rfl ?_
  refine Go.iloadN d4_33 rfl ?_
  refine Go.icmpF d4_34 (XT.ii_ge_f (by decide)) ?_
  refine Go.aloadN d4_37 rfl rfl ?_
  refine Go.iconst d4_38 (v := 3) rfl ?_
  refine Go.iloadN d4_39 rfl ?_
  refine Go.callS (M' := m5) d4_40 (hw _ (List.mem_of_getElem? (i := 17) rfl)) (hw _ (List.mem_of_getElem? (i := 18) rfl)) (hw _ (List.mem_of_getElem? (i := 9) rfl)) (hw _ (List.mem_of_getElem? (i := 19) rfl)) mi5 (as := [.ref i, .int 3, .int 4]) rfl rfl (st := []) rfl (ls1 := [.val (.ref i), .val (.int 3), .val (.int 4), .unset, .unset]) rfl (W := 0) rfl (by decide) (by decide) (go_own_mt_3_4 K hw H i vs s0 s1 s2 s3 hH hv0 hv1 hv2 hv3) 0 0 (by decide) (by decide) ?_
  show Go _ _ _ _ 43 [.val (.ref i), .val (.int 4)] [.int (own_mt_3_4 s0 s1 s2 s3)] H _
  refine Go.if_eq d4_43 j4_43 (fun h43 => ?_) (fun h43 => ?_)
  · -- pc 43 taken
    refine Go.iconst d4_48 (v := 2) rfl ?_
    refine Go.iloadN d4_49 rfl ?_
    refine Go.icmpF d4_50 (XT.ii_ge_f (by decide)) ?_
    refine Go.aloadN d4_53 rfl rfl ?_
    refine Go.iconst d4_54 (v := 2) rfl ?_
    refine Go.iloadN d4_55 rfl ?_
    refine Go.callS (M' := m5) d4_56 (hw _ (List.mem_of_getElem? (i := 17) rfl)) (hw _ (List.mem_of_getElem? (i := 18) rfl)) (hw _ (List.mem_of_getElem? (i := 9) rfl)) (hw _ (List.mem_of_getElem? (i := 19) rfl)) mi5 (as := [.ref i, .int 2, .int 4]) rfl rfl (st := []) rfl (ls1 := [.val (.ref i), .val (.int 2), .val (.int 4), .unset, .unset]) rfl (W := 0) rfl (by decide) (by decide) (go_own_mt_2_4 K hw H i vs s0 s1 s2 s3 hH hv0 hv1 hv2 hv3) 0 0 (by decide) (by decide) ?_
    show Go _ _ _ _ 59 [.val (.ref i), .val (.int 4)] [.int (own_mt_2_4 s0 s1 s2 s3)] H _
    refine Go.if_eq d4_59 j4_59 (fun h59 => ?_) (fun h59 => ?_)
    · -- pc 59 taken
      refine Go.iconst d4_64 (v := 1) rfl ?_
      refine Go.iloadN d4_65 rfl ?_
      refine Go.icmpF d4_66 (XT.ii_ge_f (by decide)) ?_
      refine Go.aloadN d4_69 rfl rfl ?_
      refine Go.iconst d4_70 (v := 1) rfl ?_
      refine Go.iloadN d4_71 rfl ?_
      refine Go.callS (M' := m5) d4_72 (hw _ (List.mem_of_getElem? (i := 17) rfl)) (hw _ (List.mem_of_getElem? (i := 18) rfl)) (hw _ (List.mem_of_getElem? (i := 9) rfl)) (hw _ (List.mem_of_getElem? (i := 19) rfl)) mi5 (as := [.ref i, .int 1, .int 4]) rfl rfl (st := []) rfl (ls1 := [.val (.ref i), .val (.int 1), .val (.int 4), .unset, .unset]) rfl (W := 0) rfl (by decide) (by decide) (go_own_mt_1_4 K hw H i vs s0 s1 s2 s3 hH hv0 hv1 hv2 hv3) 0 0 (by decide) (by decide) ?_
      show Go _ _ _ _ 75 [.val (.ref i), .val (.int 4)] [.int (own_mt_1_4 s0 s1 s2 s3)] H _
      refine Go.if_eq d4_75 j4_75 (fun h75 => ?_) (fun h75 => ?_)
      · -- pc 75 taken
        refine Go.iconst d4_80 (v := 0) rfl ?_
        exact Go.ireturn d4_81 rfl (by rw [own_bd_4, if_pos h43, if_pos h59, if_pos h75]) (HOk.eq rfl)
      · -- pc 75 not taken
        refine Go.iconst d4_78 (v := 1) rfl ?_
        exact Go.ireturn d4_79 rfl (by rw [own_bd_4, if_pos h43, if_pos h59, if_neg h75]) (HOk.eq rfl)
    · -- pc 59 not taken
      refine Go.iconst d4_62 (v := 2) rfl ?_
      exact Go.ireturn d4_63 rfl (by rw [own_bd_4, if_pos h43, if_neg h59]) (HOk.eq rfl)
  · -- pc 43 not taken
    refine Go.iconst d4_46 (v := 3) rfl ?_
    exact Go.ireturn d4_47 rfl (by rw [own_bd_4, if_neg h43]) (HOk.eq rfl)
theorem own_bdv_4 (s : List Int32) (s0 s1 s2 s3 : Int32) (hv0 : s[0]? = some s0) (hv1 : s[1]? = some s1) (hv2 : s[2]? = some s2) (hv3 : s[3]? = some s3) : own_bd_4 s0 s1 s2 s3 = Int32.ofNat (own_bdE (own_E s) 4) := by
  simp only [own_bd_4, own_bdE, own_mtv_1_4 s s0 s1 s2 s3 hv0 hv1 hv2 hv3, own_mtv_2_4 s s0 s1 s2 s3 hv0 hv1 hv2 hv3, own_mtv_3_4 s s0 s1 s2 s3 hv0 hv1 hv2 hv3, Nat.reduceLT, Nat.reduceSub, true_and, false_and, if_false]
  all_goals ((repeat' split) <;> simp_all)
def own_mt_1_5 (s0 s1 s2 s3 s4 : Int32) : Int32 := (if s0 = s4 then 1 else 0)
theorem go_own_mt_1_5 (K : Ctx) (hw : ∀ d ∈ tables_1, d.before K.2.2.1 K.2.1 = true) (H : Hp) (i : Nat) (vs : List Value) (s0 s1 s2 s3 s4 : Int32) (hH : H[i]? = some (.inr (.int, vs))) (hv0 : vs[0]? = some (.int s0)) (hv1 : vs[1]? = some (.int s1)) (hv2 : vs[2]? = some (.int s2)) (hv3 : vs[3]? = some (.int s3)) (hv4 : vs[4]? = some (.int s4)) : Go K m5 0 0 0 [.val (.ref i), .val (.int 1), .val (.int 5), .unset, .unset] [] H (some (.int (own_mt_1_5 s0 s1 s2 s3 s4)), some H, 0, 0) := by
  refine Go.iloadN d5_0 rfl ?_
  refine Go.iloadN d5_1 rfl ?_
  refine Go.isub d5_2 ?_
  show Go _ _ _ _ 3 [.val (.ref i), .val (.int 1), .val (.int 5), .unset, .unset] [.int 4] H _
  refine Go.istoreN d5_3 (ls' := [.val (.ref i), .val (.int 1), .val (.int 5), .val (.int 4), .unset]) rfl ?_
  refine Go.iconst d5_4 (v := 1) rfl ?_
  refine Go.istore d5_5 (ls' := [.val (.ref i), .val (.int 1), .val (.int 5), .val (.int 4), .val (.int 1)]) rfl ?_
  refine Go.iloadN d5_7 rfl ?_
  refine Go.ifF d5_8 (XT.i0_le_f (by decide)) ?_
  refine Go.iload d5_11 rfl ?_
  refine Go.ifF d5_13 (XT.i0_eq_f (by decide)) ?_
  refine Go.aloadN d5_16 rfl rfl ?_
  refine Go.iconst d5_17 (v := 0) rfl ?_
  refine Go.iaload d5_18 hH (by decide) hv0 ?_
  refine Go.aloadN d5_19 rfl rfl ?_
  refine Go.iloadN d5_20 rfl ?_
  refine Go.iaload d5_21 hH (by decide) hv4 ?_
  refine Go.icmp_ne d5_22 j5_22 (fun h22 => ?_) (fun h22 => ?_)
  · -- pc 22 taken
    refine Go.iconst d5_29 (v := 0) rfl ?_
    refine Go.istore d5_30 (ls' := [.val (.ref i), .val (.int 1), .val (.int 5), .val (.int 4), .val (.int 0)]) rfl ?_
    refine Go.iloadN d5_32 rfl ?_
    refine Go.iconst d5_33 (v := 1) rfl ?_
    refine Go.icmpT d5_34 j5_34 (XT.ii_le_t (by decide)) ?_
    refine Go.iloadN d5_60 rfl ?_
    refine Go.iconst d5_61 (v := 2) rfl ?_
    refine Go.icmpT d5_62 j5_62 (XT.ii_le_t (by decide)) ?_
    refine Go.iloadN d5_88 rfl ?_
    refine Go.iconst d5_89 (v := 3) rfl ?_
    refine Go.icmpT d5_90 j5_90 (XT.ii_le_t (by decide)) ?_
    refine Go.iloadN d5_116 rfl ?_
    refine Go.iconst d5_117 (v := 4) rfl ?_
    refine Go.icmpT d5_118 j5_118 (XT.ii_le_t (by decide)) ?_
    refine Go.iload d5_144 rfl ?_
    exact Go.ireturnZ d5_146 rfl (by decide) (by rw [own_mt_1_5, if_neg h22]) (HOk.eq rfl)
  · -- pc 22 not taken
    refine Go.iconst d5_25 (v := 1) rfl ?_
    refine Go.goto d5_26 j5_26 ?_
    refine Go.istore d5_30 (ls' := [.val (.ref i), .val (.int 1), .val (.int 5), .val (.int 4), .val (.int 1)]) rfl ?_
    refine Go.iloadN d5_32 rfl ?_
    refine Go.iconst d5_33 (v := 1) rfl ?_
    refine Go.icmpT d5_34 j5_34 (XT.ii_le_t (by decide)) ?_
    refine Go.iloadN d5_60 rfl ?_
    refine Go.iconst d5_61 (v := 2) rfl ?_
    refine Go.icmpT d5_62 j5_62 (XT.ii_le_t (by decide)) ?_
    refine Go.iloadN d5_88 rfl ?_
    refine Go.iconst d5_89 (v := 3) rfl ?_
    refine Go.icmpT d5_90 j5_90 (XT.ii_le_t (by decide)) ?_
    refine Go.iloadN d5_116 rfl ?_
    refine Go.iconst d5_117 (v := 4) rfl ?_
    refine Go.icmpT d5_118 j5_118 (XT.ii_le_t (by decide)) ?_
    refine Go.iload d5_144 rfl ?_
    exact Go.ireturnZ d5_146 rfl (by decide) (by rw [own_mt_1_5, if_pos h22]) (HOk.eq rfl)
theorem own_mtv_1_5 (s : List Int32) (s0 s1 s2 s3 s4 : Int32) (hv0 : s[0]? = some s0) (hv1 : s[1]? = some s1) (hv2 : s[2]? = some s2) (hv3 : s[3]? = some s3) (hv4 : s[4]? = some s4) : own_mt_1_5 s0 s1 s2 s3 s4 = if own_mtE (own_E s) 4 1 = true then 1 else 0 := by
  simp only [own_mt_1_5, own_mtE, own_E, Nat.reduceAdd, hv0, hv1, hv2, hv3, hv4, Option.some.injEq, Bool.true_and, Bool.and_eq_true, decide_eq_true_eq]
  all_goals ((repeat' split) <;> simp_all)
def own_mt_2_5 (s0 s1 s2 s3 s4 : Int32) : Int32 := (if s0 = s3 then (if s1 = s4 then 1 else 0) else 0)
theorem go_own_mt_2_5 (K : Ctx) (hw : ∀ d ∈ tables_1, d.before K.2.2.1 K.2.1 = true) (H : Hp) (i : Nat) (vs : List Value) (s0 s1 s2 s3 s4 : Int32) (hH : H[i]? = some (.inr (.int, vs))) (hv0 : vs[0]? = some (.int s0)) (hv1 : vs[1]? = some (.int s1)) (hv2 : vs[2]? = some (.int s2)) (hv3 : vs[3]? = some (.int s3)) (hv4 : vs[4]? = some (.int s4)) : Go K m5 0 0 0 [.val (.ref i), .val (.int 2), .val (.int 5), .unset, .unset] [] H (some (.int (own_mt_2_5 s0 s1 s2 s3 s4)), some H, 0, 0) := by
  refine Go.iloadN d5_0 rfl ?_
  refine Go.iloadN d5_1 rfl ?_
  refine Go.isub d5_2 ?_
  show Go _ _ _ _ 3 [.val (.ref i), .val (.int 2), .val (.int 5), .unset, .unset] [.int 3] H _
  refine Go.istoreN d5_3 (ls' := [.val (.ref i), .val (.int 2), .val (.int 5), .val (.int 3), .unset]) rfl ?_
  refine Go.iconst d5_4 (v := 1) rfl ?_
  refine Go.istore d5_5 (ls' := [.val (.ref i), .val (.int 2), .val (.int 5), .val (.int 3), .val (.int 1)]) rfl ?_
  refine Go.iloadN d5_7 rfl ?_
  refine Go.ifF d5_8 (XT.i0_le_f (by decide)) ?_
  refine Go.iload d5_11 rfl ?_
  refine Go.ifF d5_13 (XT.i0_eq_f (by decide)) ?_
  refine Go.aloadN d5_16 rfl rfl ?_
  refine Go.iconst d5_17 (v := 0) rfl ?_
  refine Go.iaload d5_18 hH (by decide) hv0 ?_
  refine Go.aloadN d5_19 rfl rfl ?_
  refine Go.iloadN d5_20 rfl ?_
  refine Go.iaload d5_21 hH (by decide) hv3 ?_
  refine Go.icmp_ne d5_22 j5_22 (fun h22 => ?_) (fun h22 => ?_)
  · -- pc 22 taken
    refine Go.iconst d5_29 (v := 0) rfl ?_
    refine Go.istore d5_30 (ls' := [.val (.ref i), .val (.int 2), .val (.int 5), .val (.int 3), .val (.int 0)]) rfl ?_
    refine Go.iloadN d5_32 rfl ?_
    refine Go.iconst d5_33 (v := 1) rfl ?_
    refine Go.icmpF d5_34 (XT.ii_le_f (by decide)) ?_
    refine Go.iload d5_37 rfl ?_
    refine Go.ifT d5_39 j5_39 (XT.i0_eq_t (by decide)) ?_
    refine Go.iconst d5_57 (v := 0) rfl ?_
    refine Go.istore d5_58 (ls' := [.val (.ref i), .val (.int 2), .val (.int 5), .val (.int 3), .val (.int 0)]) rfl ?_
    refine Go.iloadN d5_60 rfl ?_
    refine Go.iconst d5_61 (v := 2) rfl ?_
    refine Go.icmpT d5_62 j5_62 (XT.ii_le_t (by decide)) ?_
    refine Go.iloadN d5_88 rfl ?_
    refine Go.iconst d5_89 (v := 3) rfl ?_
    refine Go.icmpT d5_90 j5_90 (XT.ii_le_t (by decide)) ?_
    refine Go.iloadN d5_116 rfl ?_
    refine Go.iconst d5_117 (v := 4) rfl ?_
    refine Go.icmpT d5_118 j5_118 (XT.ii_le_t (by decide)) ?_
    refine Go.iload d5_144 rfl ?_
    exact Go.ireturnZ d5_146 rfl (by decide) (by rw [own_mt_2_5, if_neg h22]) (HOk.eq rfl)
  · -- pc 22 not taken
    refine Go.iconst d5_25 (v := 1) rfl ?_
    refine Go.goto d5_26 j5_26 ?_
    refine Go.istore d5_30 (ls' := [.val (.ref i), .val (.int 2), .val (.int 5), .val (.int 3), .val (.int 1)]) rfl ?_
    refine Go.iloadN d5_32 rfl ?_
    refine Go.iconst d5_33 (v := 1) rfl ?_
    refine Go.icmpF d5_34 (XT.ii_le_f (by decide)) ?_
    refine Go.iload d5_37 rfl ?_
    refine Go.ifF d5_39 (XT.i0_eq_f (by decide)) ?_
    refine Go.aloadN d5_42 rfl rfl ?_
    refine Go.iconst d5_43 (v := 1) rfl ?_
    refine Go.iaload d5_44 hH (by decide) hv1 ?_
    refine Go.aloadN d5_45 rfl rfl ?_
    refine Go.iloadN d5_46 rfl ?_
    refine Go.iconst d5_47 (v := 1) rfl ?_
    refine Go.iadd d5_48 ?_
    show Go _ _ _ _ 49 [.val (.ref i), .val (.int 2), .val (.int 5), .val (.int 3), .val (.int 1)] [.int 4, .ref i, .int s1] H _
    refine Go.iaload d5_49 hH (by decide) hv4 ?_
    refine Go.icmp_ne d5_50 j5_50 (fun h50 => ?_) (fun h50 => ?_)
    · -- pc 50 taken
      refine Go.iconst d5_57 (v := 0) rfl ?_
      refine Go.istore d5_58 (ls' := [.val (.ref i), .val (.int 2), .val (.int 5), .val (.int 3), .val (.int 0)]) rfl ?_
      refine Go.iloadN d5_60 rfl ?_
      refine Go.iconst d5_61 (v := 2) rfl ?_
      refine Go.icmpT d5_62 j5_62 (XT.ii_le_t (by decide)) ?_
      refine Go.iloadN d5_88 rfl ?_
      refine Go.iconst d5_89 (v := 3) rfl ?_
      refine Go.icmpT d5_90 j5_90 (XT.ii_le_t (by decide)) ?_
      refine Go.iloadN d5_116 rfl ?_
      refine Go.iconst d5_117 (v := 4) rfl ?_
      refine Go.icmpT d5_118 j5_118 (XT.ii_le_t (by decide)) ?_
      refine Go.iload d5_144 rfl ?_
      exact Go.ireturnZ d5_146 rfl (by decide) (by rw [own_mt_2_5, if_pos h22, if_neg h50]) (HOk.eq rfl)
    · -- pc 50 not taken
      refine Go.iconst d5_53 (v := 1) rfl ?_
      refine Go.goto d5_54 j5_54 ?_
      refine Go.istore d5_58 (ls' := [.val (.ref i), .val (.int 2), .val (.int 5), .val (.int 3), .val (.int 1)]) rfl ?_
      refine Go.iloadN d5_60 rfl ?_
      refine Go.iconst d5_61 (v := 2) rfl ?_
      refine Go.icmpT d5_62 j5_62 (XT.ii_le_t (by decide)) ?_
      refine Go.iloadN d5_88 rfl ?_
      refine Go.iconst d5_89 (v := 3) rfl ?_
      refine Go.icmpT d5_90 j5_90 (XT.ii_le_t (by decide)) ?_
      refine Go.iloadN d5_116 rfl ?_
      refine Go.iconst d5_117 (v := 4) rfl ?_
      refine Go.icmpT d5_118 j5_118 (XT.ii_le_t (by decide)) ?_
      refine Go.iload d5_144 rfl ?_
      exact Go.ireturnZ d5_146 rfl (by decide) (by rw [own_mt_2_5, if_pos h22, if_pos h50]) (HOk.eq rfl)
theorem own_mtv_2_5 (s : List Int32) (s0 s1 s2 s3 s4 : Int32) (hv0 : s[0]? = some s0) (hv1 : s[1]? = some s1) (hv2 : s[2]? = some s2) (hv3 : s[3]? = some s3) (hv4 : s[4]? = some s4) : own_mt_2_5 s0 s1 s2 s3 s4 = if own_mtE (own_E s) 3 2 = true then 1 else 0 := by
  simp only [own_mt_2_5, own_mtE, own_E, Nat.reduceAdd, hv0, hv1, hv2, hv3, hv4, Option.some.injEq, Bool.true_and, Bool.and_eq_true, decide_eq_true_eq]
  all_goals ((repeat' split) <;> simp_all)
def own_mt_3_5 (s0 s1 s2 s3 s4 : Int32) : Int32 := (if s0 = s2 then (if s1 = s3 then (if s2 = s4 then 1 else 0) else 0) else 0)
theorem go_own_mt_3_5 (K : Ctx) (hw : ∀ d ∈ tables_1, d.before K.2.2.1 K.2.1 = true) (H : Hp) (i : Nat) (vs : List Value) (s0 s1 s2 s3 s4 : Int32) (hH : H[i]? = some (.inr (.int, vs))) (hv0 : vs[0]? = some (.int s0)) (hv1 : vs[1]? = some (.int s1)) (hv2 : vs[2]? = some (.int s2)) (hv3 : vs[3]? = some (.int s3)) (hv4 : vs[4]? = some (.int s4)) : Go K m5 0 0 0 [.val (.ref i), .val (.int 3), .val (.int 5), .unset, .unset] [] H (some (.int (own_mt_3_5 s0 s1 s2 s3 s4)), some H, 0, 0) := by
  refine Go.iloadN d5_0 rfl ?_
  refine Go.iloadN d5_1 rfl ?_
  refine Go.isub d5_2 ?_
  show Go _ _ _ _ 3 [.val (.ref i), .val (.int 3), .val (.int 5), .unset, .unset] [.int 2] H _
  refine Go.istoreN d5_3 (ls' := [.val (.ref i), .val (.int 3), .val (.int 5), .val (.int 2), .unset]) rfl ?_
  refine Go.iconst d5_4 (v := 1) rfl ?_
  refine Go.istore d5_5 (ls' := [.val (.ref i), .val (.int 3), .val (.int 5), .val (.int 2), .val (.int 1)]) rfl ?_
  refine Go.iloadN d5_7 rfl ?_
  refine Go.ifF d5_8 (XT.i0_le_f (by decide)) ?_
  refine Go.iload d5_11 rfl ?_
  refine Go.ifF d5_13 (XT.i0_eq_f (by decide)) ?_
  refine Go.aloadN d5_16 rfl rfl ?_
  refine Go.iconst d5_17 (v := 0) rfl ?_
  refine Go.iaload d5_18 hH (by decide) hv0 ?_
  refine Go.aloadN d5_19 rfl rfl ?_
  refine Go.iloadN d5_20 rfl ?_
  refine Go.iaload d5_21 hH (by decide) hv2 ?_
  refine Go.icmp_ne d5_22 j5_22 (fun h22 => ?_) (fun h22 => ?_)
  · -- pc 22 taken
    refine Go.iconst d5_29 (v := 0) rfl ?_
    refine Go.istore d5_30 (ls' := [.val (.ref i), .val (.int 3), .val (.int 5), .val (.int 2), .val (.int 0)]) rfl ?_
    refine Go.iloadN d5_32 rfl ?_
    refine Go.iconst d5_33 (v := 1) rfl ?_
    refine Go.icmpF d5_34 (XT.ii_le_f (by decide)) ?_
    refine Go.iload d5_37 rfl ?_
    refine Go.ifT d5_39 j5_39 (XT.i0_eq_t (by decide)) ?_
    refine Go.iconst d5_57 (v := 0) rfl ?_
    refine Go.istore d5_58 (ls' := [.val (.ref i), .val (.int 3), .val (.int 5), .val (.int 2), .val (.int 0)]) rfl ?_
    refine Go.iloadN d5_60 rfl ?_
    refine Go.iconst d5_61 (v := 2) rfl ?_
    refine Go.icmpF d5_62 (XT.ii_le_f (by decide)) ?_
    refine Go.iload d5_65 rfl ?_
    refine Go.ifT d5_67 j5_67 (XT.i0_eq_t (by decide)) ?_
    refine Go.iconst d5_85 (v := 0) rfl ?_
    refine Go.istore d5_86 (ls' := [.val (.ref i), .val (.int 3), .val (.int 5), .val (.int 2), .val (.int 0)]) rfl ?_
    refine Go.iloadN d5_88 rfl ?_
    refine Go.iconst d5_89 (v := 3) rfl ?_
    refine Go.icmpT d5_90 j5_90 (XT.ii_le_t (by decide)) ?_
    refine Go.iloadN d5_116 rfl ?_
    refine Go.iconst d5_117 (v := 4) rfl ?_
    refine Go.icmpT d5_118 j5_118 (XT.ii_le_t (by decide)) ?_
    refine Go.iload d5_144 rfl ?_
    exact Go.ireturnZ d5_146 rfl (by decide) (by rw [own_mt_3_5, if_neg h22]) (HOk.eq rfl)
  · -- pc 22 not taken
    refine Go.iconst d5_25 (v := 1) rfl ?_
    refine Go.goto d5_26 j5_26 ?_
    refine Go.istore d5_30 (ls' := [.val (.ref i), .val (.int 3), .val (.int 5), .val (.int 2), .val (.int 1)]) rfl ?_
    refine Go.iloadN d5_32 rfl ?_
    refine Go.iconst d5_33 (v := 1) rfl ?_
    refine Go.icmpF d5_34 (XT.ii_le_f (by decide)) ?_
    refine Go.iload d5_37 rfl ?_
    refine Go.ifF d5_39 (XT.i0_eq_f (by decide)) ?_
    refine Go.aloadN d5_42 rfl rfl ?_
    refine Go.iconst d5_43 (v := 1) rfl ?_
    refine Go.iaload d5_44 hH (by decide) hv1 ?_
    refine Go.aloadN d5_45 rfl rfl ?_
    refine Go.iloadN d5_46 rfl ?_
    refine Go.iconst d5_47 (v := 1) rfl ?_
    refine Go.iadd d5_48 ?_
    show Go _ _ _ _ 49 [.val (.ref i), .val (.int 3), .val (.int 5), .val (.int 2), .val (.int 1)] [.int 3, .ref i, .int s1] H _
    refine Go.iaload d5_49 hH (by decide) hv3 ?_
    refine Go.icmp_ne d5_50 j5_50 (fun h50 => ?_) (fun h50 => ?_)
    · -- pc 50 taken
      refine Go.iconst d5_57 (v := 0) rfl ?_
      refine Go.istore d5_58 (ls' := [.val (.ref i), .val (.int 3), .val (.int 5), .val (.int 2), .val (.int 0)]) rfl ?_
      refine Go.iloadN d5_60 rfl ?_
      refine Go.iconst d5_61 (v := 2) rfl ?_
      refine Go.icmpF d5_62 (XT.ii_le_f (by decide)) ?_
      refine Go.iload d5_65 rfl ?_
      refine Go.ifT d5_67 j5_67 (XT.i0_eq_t (by decide)) ?_
      refine Go.iconst d5_85 (v := 0) rfl ?_
      refine Go.istore d5_86 (ls' := [.val (.ref i), .val (.int 3), .val (.int 5), .val (.int 2), .val (.int 0)]) rfl ?_
      refine Go.iloadN d5_88 rfl ?_
      refine Go.iconst d5_89 (v := 3) rfl ?_
      refine Go.icmpT d5_90 j5_90 (XT.ii_le_t (by decide)) ?_
      refine Go.iloadN d5_116 rfl ?_
      refine Go.iconst d5_117 (v := 4) rfl ?_
      refine Go.icmpT d5_118 j5_118 (XT.ii_le_t (by decide)) ?_
      refine Go.iload d5_144 rfl ?_
      exact Go.ireturnZ d5_146 rfl (by decide) (by rw [own_mt_3_5, if_pos h22, if_neg h50]) (HOk.eq rfl)
    · -- pc 50 not taken
      refine Go.iconst d5_53 (v := 1) rfl ?_
      refine Go.goto d5_54 j5_54 ?_
      refine Go.istore d5_58 (ls' := [.val (.ref i), .val (.int 3), .val (.int 5), .val (.int 2), .val (.int 1)]) rfl ?_
      refine Go.iloadN d5_60 rfl ?_
      refine Go.iconst d5_61 (v := 2) rfl ?_
      refine Go.icmpF d5_62 (XT.ii_le_f (by decide)) ?_
      refine Go.iload d5_65 rfl ?_
      refine Go.ifF d5_67 (XT.i0_eq_f (by decide)) ?_
      refine Go.aloadN d5_70 rfl rfl ?_
      refine Go.iconst d5_71 (v := 2) rfl ?_
      refine Go.iaload d5_72 hH (by decide) hv2 ?_
      refine Go.aloadN d5_73 rfl rfl ?_
      refine Go.iloadN d5_74 rfl ?_
      refine Go.iconst d5_75 (v := 2) rfl ?_
      refine Go.iadd d5_76 ?_
      show Go _ _ _ _ 77 [.val (.ref i), .val (.int 3), .val (.int 5), .val (.int 2), .val (.int 1)] [.int 4, .ref i, .int s2] H _
      refine Go.iaload d5_77 hH (by decide) hv4 ?_
      refine Go.icmp_ne d5_78 j5_78 (fun h78 => ?_) (fun h78 => ?_)
      · -- pc 78 taken
        refine Go.iconst d5_85 (v := 0) rfl ?_
        refine Go.istore d5_86 (ls' := [.val (.ref i), .val (.int 3), .val (.int 5), .val (.int 2), .val (.int 0)]) rfl ?_
        refine Go.iloadN d5_88 rfl ?_
        refine Go.iconst d5_89 (v := 3) rfl ?_
        refine Go.icmpT d5_90 j5_90 (XT.ii_le_t (by decide)) ?_
        refine Go.iloadN d5_116 rfl ?_
        refine Go.iconst d5_117 (v := 4) rfl ?_
        refine Go.icmpT d5_118 j5_118 (XT.ii_le_t (by decide)) ?_
        refine Go.iload d5_144 rfl ?_
        exact Go.ireturnZ d5_146 rfl (by decide) (by rw [own_mt_3_5, if_pos h22, if_pos h50, if_neg h78]) (HOk.eq rfl)
      · -- pc 78 not taken
        refine Go.iconst d5_81 (v := 1) rfl ?_
        refine Go.goto d5_82 j5_82 ?_
        refine Go.istore d5_86 (ls' := [.val (.ref i), .val (.int 3), .val (.int 5), .val (.int 2), .val (.int 1)]) rfl ?_
        refine Go.iloadN d5_88 rfl ?_
        refine Go.iconst d5_89 (v := 3) rfl ?_
        refine Go.icmpT d5_90 j5_90 (XT.ii_le_t (by decide)) ?_
        refine Go.iloadN d5_116 rfl ?_
        refine Go.iconst d5_117 (v := 4) rfl ?_
        refine Go.icmpT d5_118 j5_118 (XT.ii_le_t (by decide)) ?_
        refine Go.iload d5_144 rfl ?_
        exact Go.ireturnZ d5_146 rfl (by decide) (by rw [own_mt_3_5, if_pos h22, if_pos h50, if_pos h78]) (HOk.eq rfl)
theorem own_mtv_3_5 (s : List Int32) (s0 s1 s2 s3 s4 : Int32) (hv0 : s[0]? = some s0) (hv1 : s[1]? = some s1) (hv2 : s[2]? = some s2) (hv3 : s[3]? = some s3) (hv4 : s[4]? = some s4) : own_mt_3_5 s0 s1 s2 s3 s4 = if own_mtE (own_E s) 2 3 = true then 1 else 0 := by
  simp only [own_mt_3_5, own_mtE, own_E, Nat.reduceAdd, hv0, hv1, hv2, hv3, hv4, Option.some.injEq, Bool.true_and, Bool.and_eq_true, decide_eq_true_eq]
  all_goals ((repeat' split) <;> simp_all)
def own_mt_4_5 (s0 s1 s2 s3 s4 : Int32) : Int32 := (if s0 = s1 then (if s1 = s2 then (if s2 = s3 then (if s3 = s4 then 1 else 0) else 0) else 0) else 0)
theorem go_own_mt_4_5 (K : Ctx) (hw : ∀ d ∈ tables_1, d.before K.2.2.1 K.2.1 = true) (H : Hp) (i : Nat) (vs : List Value) (s0 s1 s2 s3 s4 : Int32) (hH : H[i]? = some (.inr (.int, vs))) (hv0 : vs[0]? = some (.int s0)) (hv1 : vs[1]? = some (.int s1)) (hv2 : vs[2]? = some (.int s2)) (hv3 : vs[3]? = some (.int s3)) (hv4 : vs[4]? = some (.int s4)) : Go K m5 0 0 0 [.val (.ref i), .val (.int 4), .val (.int 5), .unset, .unset] [] H (some (.int (own_mt_4_5 s0 s1 s2 s3 s4)), some H, 0, 0) := by
  refine Go.iloadN d5_0 rfl ?_
  refine Go.iloadN d5_1 rfl ?_
  refine Go.isub d5_2 ?_
  show Go _ _ _ _ 3 [.val (.ref i), .val (.int 4), .val (.int 5), .unset, .unset] [.int 1] H _
  refine Go.istoreN d5_3 (ls' := [.val (.ref i), .val (.int 4), .val (.int 5), .val (.int 1), .unset]) rfl ?_
  refine Go.iconst d5_4 (v := 1) rfl ?_
  refine Go.istore d5_5 (ls' := [.val (.ref i), .val (.int 4), .val (.int 5), .val (.int 1), .val (.int 1)]) rfl ?_
  refine Go.iloadN d5_7 rfl ?_
  refine Go.ifF d5_8 (XT.i0_le_f (by decide)) ?_
  refine Go.iload d5_11 rfl ?_
  refine Go.ifF d5_13 (XT.i0_eq_f (by decide)) ?_
  refine Go.aloadN d5_16 rfl rfl ?_
  refine Go.iconst d5_17 (v := 0) rfl ?_
  refine Go.iaload d5_18 hH (by decide) hv0 ?_
  refine Go.aloadN d5_19 rfl rfl ?_
  refine Go.iloadN d5_20 rfl ?_
  refine Go.iaload d5_21 hH (by decide) hv1 ?_
  refine Go.icmp_ne d5_22 j5_22 (fun h22 => ?_) (fun h22 => ?_)
  · -- pc 22 taken
    refine Go.iconst d5_29 (v := 0) rfl ?_
    refine Go.istore d5_30 (ls' := [.val (.ref i), .val (.int 4), .val (.int 5), .val (.int 1), .val (.int 0)]) rfl ?_
    refine Go.iloadN d5_32 rfl ?_
    refine Go.iconst d5_33 (v := 1) rfl ?_
    refine Go.icmpF d5_34 (XT.ii_le_f (by decide)) ?_
    refine Go.iload d5_37 rfl ?_
    refine Go.ifT d5_39 j5_39 (XT.i0_eq_t (by decide)) ?_
    refine Go.iconst d5_57 (v := 0) rfl ?_
    refine Go.istore d5_58 (ls' := [.val (.ref i), .val (.int 4), .val (.int 5), .val (.int 1), .val (.int 0)]) rfl ?_
    refine Go.iloadN d5_60 rfl ?_
    refine Go.iconst d5_61 (v := 2) rfl ?_
    refine Go.icmpF d5_62 (XT.ii_le_f (by decide)) ?_
    refine Go.iload d5_65 rfl ?_
    refine Go.ifT d5_67 j5_67 (XT.i0_eq_t (by decide)) ?_
    refine Go.iconst d5_85 (v := 0) rfl ?_
    refine Go.istore d5_86 (ls' := [.val (.ref i), .val (.int 4), .val (.int 5), .val (.int 1), .val (.int 0)]) rfl ?_
    refine Go.iloadN d5_88 rfl ?_
    refine Go.iconst d5_89 (v := 3) rfl ?_
    refine Go.icmpF d5_90 (XT.ii_le_f (by decide)) ?_
    refine Go.iload d5_93 rfl ?_
    refine Go.ifT d5_95 j5_95 (XT.i0_eq_t (by decide)) ?_
    refine Go.iconst d5_113 (v := 0) rfl ?_
    refine Go.istore d5_114 (ls' := [.val (.ref i), .val (.int 4), .val (.int 5), .val (.int 1), .val (.int 0)]) rfl ?_
    refine Go.iloadN d5_116 rfl ?_
    refine Go.iconst d5_117 (v := 4) rfl ?_
    refine Go.icmpT d5_118 j5_118 (XT.ii_le_t (by decide)) ?_
    refine Go.iload d5_144 rfl ?_
    exact Go.ireturnZ d5_146 rfl (by decide) (by rw [own_mt_4_5, if_neg h22]) (HOk.eq rfl)
  · -- pc 22 not taken
    refine Go.iconst d5_25 (v := 1) rfl ?_
    refine Go.goto d5_26 j5_26 ?_
    refine Go.istore d5_30 (ls' := [.val (.ref i), .val (.int 4), .val (.int 5), .val (.int 1), .val (.int 1)]) rfl ?_
    refine Go.iloadN d5_32 rfl ?_
    refine Go.iconst d5_33 (v := 1) rfl ?_
    refine Go.icmpF d5_34 (XT.ii_le_f (by decide)) ?_
    refine Go.iload d5_37 rfl ?_
    refine Go.ifF d5_39 (XT.i0_eq_f (by decide)) ?_
    refine Go.aloadN d5_42 rfl rfl ?_
    refine Go.iconst d5_43 (v := 1) rfl ?_
    refine Go.iaload d5_44 hH (by decide) hv1 ?_
    refine Go.aloadN d5_45 rfl rfl ?_
    refine Go.iloadN d5_46 rfl ?_
    refine Go.iconst d5_47 (v := 1) rfl ?_
    refine Go.iadd d5_48 ?_
    show Go _ _ _ _ 49 [.val (.ref i), .val (.int 4), .val (.int 5), .val (.int 1), .val (.int 1)] [.int 2, .ref i, .int s1] H _
    refine Go.iaload d5_49 hH (by decide) hv2 ?_
    refine Go.icmp_ne d5_50 j5_50 (fun h50 => ?_) (fun h50 => ?_)
    · -- pc 50 taken
      refine Go.iconst d5_57 (v := 0) rfl ?_
      refine Go.istore d5_58 (ls' := [.val (.ref i), .val (.int 4), .val (.int 5), .val (.int 1), .val (.int 0)]) rfl ?_
      refine Go.iloadN d5_60 rfl ?_
      refine Go.iconst d5_61 (v := 2) rfl ?_
      refine Go.icmpF d5_62 (XT.ii_le_f (by decide)) ?_
      refine Go.iload d5_65 rfl ?_
      refine Go.ifT d5_67 j5_67 (XT.i0_eq_t (by decide)) ?_
      refine Go.iconst d5_85 (v := 0) rfl ?_
      refine Go.istore d5_86 (ls' := [.val (.ref i), .val (.int 4), .val (.int 5), .val (.int 1), .val (.int 0)]) rfl ?_
      refine Go.iloadN d5_88 rfl ?_
      refine Go.iconst d5_89 (v := 3) rfl ?_
      refine Go.icmpF d5_90 (XT.ii_le_f (by decide)) ?_
      refine Go.iload d5_93 rfl ?_
      refine Go.ifT d5_95 j5_95 (XT.i0_eq_t (by decide)) ?_
      refine Go.iconst d5_113 (v := 0) rfl ?_
      refine Go.istore d5_114 (ls' := [.val (.ref i), .val (.int 4), .val (.int 5), .val (.int 1), .val (.int 0)]) rfl ?_
      refine Go.iloadN d5_116 rfl ?_
      refine Go.iconst d5_117 (v := 4) rfl ?_
      refine Go.icmpT d5_118 j5_118 (XT.ii_le_t (by decide)) ?_
      refine Go.iload d5_144 rfl ?_
      exact Go.ireturnZ d5_146 rfl (by decide) (by rw [own_mt_4_5, if_pos h22, if_neg h50]) (HOk.eq rfl)
    · -- pc 50 not taken
      refine Go.iconst d5_53 (v := 1) rfl ?_
      refine Go.goto d5_54 j5_54 ?_
      refine Go.istore d5_58 (ls' := [.val (.ref i), .val (.int 4), .val (.int 5), .val (.int 1), .val (.int 1)]) rfl ?_
      refine Go.iloadN d5_60 rfl ?_
      refine Go.iconst d5_61 (v := 2) rfl ?_
      refine Go.icmpF d5_62 (XT.ii_le_f (by decide)) ?_
      refine Go.iload d5_65 rfl ?_
      refine Go.ifF d5_67 (XT.i0_eq_f (by decide)) ?_
      refine Go.aloadN d5_70 rfl rfl ?_
      refine Go.iconst d5_71 (v := 2) rfl ?_
      refine Go.iaload d5_72 hH (by decide) hv2 ?_
      refine Go.aloadN d5_73 rfl rfl ?_
      refine Go.iloadN d5_74 rfl ?_
      refine Go.iconst d5_75 (v := 2) rfl ?_
      refine Go.iadd d5_76 ?_
      show Go _ _ _ _ 77 [.val (.ref i), .val (.int 4), .val (.int 5), .val (.int 1), .val (.int 1)] [.int 3, .ref i, .int s2] H _
      refine Go.iaload d5_77 hH (by decide) hv3 ?_
      refine Go.icmp_ne d5_78 j5_78 (fun h78 => ?_) (fun h78 => ?_)
      · -- pc 78 taken
        refine Go.iconst d5_85 (v := 0) rfl ?_
        refine Go.istore d5_86 (ls' := [.val (.ref i), .val (.int 4), .val (.int 5), .val (.int 1), .val (.int 0)]) rfl ?_
        refine Go.iloadN d5_88 rfl ?_
        refine Go.iconst d5_89 (v := 3) rfl ?_
        refine Go.icmpF d5_90 (XT.ii_le_f (by decide)) ?_
        refine Go.iload d5_93 rfl ?_
        refine Go.ifT d5_95 j5_95 (XT.i0_eq_t (by decide)) ?_
        refine Go.iconst d5_113 (v := 0) rfl ?_
        refine Go.istore d5_114 (ls' := [.val (.ref i), .val (.int 4), .val (.int 5), .val (.int 1), .val (.int 0)]) rfl ?_
        refine Go.iloadN d5_116 rfl ?_
        refine Go.iconst d5_117 (v := 4) rfl ?_
        refine Go.icmpT d5_118 j5_118 (XT.ii_le_t (by decide)) ?_
        refine Go.iload d5_144 rfl ?_
        exact Go.ireturnZ d5_146 rfl (by decide) (by rw [own_mt_4_5, if_pos h22, if_pos h50, if_neg h78]) (HOk.eq rfl)
      · -- pc 78 not taken
        refine Go.iconst d5_81 (v := 1) rfl ?_
        refine Go.goto d5_82 j5_82 ?_
        refine Go.istore d5_86 (ls' := [.val (.ref i), .val (.int 4), .val (.int 5), .val (.int 1), .val (.int 1)]) rfl ?_
        refine Go.iloadN d5_88 rfl ?_
        refine Go.iconst d5_89 (v := 3) rfl ?_
        refine Go.icmpF d5_90 (XT.ii_le_f (by decide)) ?_
        refine Go.iload d5_93 rfl ?_
        refine Go.ifF d5_95 (XT.i0_eq_f (by decide)) ?_
        refine Go.aloadN d5_98 rfl rfl ?_
        refine Go.iconst d5_99 (v := 3) rfl ?_
        refine Go.iaload d5_100 hH (by decide) hv3 ?_
        refine Go.aloadN d5_101 rfl rfl ?_
        refine Go.iloadN d5_102 rfl ?_
        refine Go.iconst d5_103 (v := 3) rfl ?_
        refine Go.iadd d5_104 ?_
        show Go _ _ _ _ 105 [.val (.ref i), .val (.int 4), .val (.int 5), .val (.int 1), .val (.int 1)] [.int 4, .ref i, .int s3] H _
        refine Go.iaload d5_105 hH (by decide) hv4 ?_
        refine Go.icmp_ne d5_106 j5_106 (fun h106 => ?_) (fun h106 => ?_)
        · -- pc 106 taken
          refine Go.iconst d5_113 (v := 0) rfl ?_
          refine Go.istore d5_114 (ls' := [.val (.ref i), .val (.int 4), .val (.int 5), .val (.int 1), .val (.int 0)]) rfl ?_
          refine Go.iloadN d5_116 rfl ?_
          refine Go.iconst d5_117 (v := 4) rfl ?_
          refine Go.icmpT d5_118 j5_118 (XT.ii_le_t (by decide)) ?_
          refine Go.iload d5_144 rfl ?_
          exact Go.ireturnZ d5_146 rfl (by decide) (by rw [own_mt_4_5, if_pos h22, if_pos h50, if_pos h78, if_neg h106]) (HOk.eq rfl)
        · -- pc 106 not taken
          refine Go.iconst d5_109 (v := 1) rfl ?_
          refine Go.goto d5_110 j5_110 ?_
          refine Go.istore d5_114 (ls' := [.val (.ref i), .val (.int 4), .val (.int 5), .val (.int 1), .val (.int 1)]) rfl ?_
          refine Go.iloadN d5_116 rfl ?_
          refine Go.iconst d5_117 (v := 4) rfl ?_
          refine Go.icmpT d5_118 j5_118 (XT.ii_le_t (by decide)) ?_
          refine Go.iload d5_144 rfl ?_
          exact Go.ireturnZ d5_146 rfl (by decide) (by rw [own_mt_4_5, if_pos h22, if_pos h50, if_pos h78, if_pos h106]) (HOk.eq rfl)
theorem own_mtv_4_5 (s : List Int32) (s0 s1 s2 s3 s4 : Int32) (hv0 : s[0]? = some s0) (hv1 : s[1]? = some s1) (hv2 : s[2]? = some s2) (hv3 : s[3]? = some s3) (hv4 : s[4]? = some s4) : own_mt_4_5 s0 s1 s2 s3 s4 = if own_mtE (own_E s) 1 4 = true then 1 else 0 := by
  simp only [own_mt_4_5, own_mtE, own_E, Nat.reduceAdd, hv0, hv1, hv2, hv3, hv4, Option.some.injEq, Bool.true_and, Bool.and_eq_true, decide_eq_true_eq]
  all_goals ((repeat' split) <;> simp_all)
def own_bd_5 (s0 s1 s2 s3 s4 : Int32) : Int32 := (if (own_mt_4_5 s0 s1 s2 s3 s4) = 0 then (if (own_mt_3_5 s0 s1 s2 s3 s4) = 0 then (if (own_mt_2_5 s0 s1 s2 s3 s4) = 0 then (if (own_mt_1_5 s0 s1 s2 s3 s4) = 0 then 0 else 1) else 2) else 3) else 4)
theorem go_own_bd_5 (K : Ctx) (hw : ∀ d ∈ tables_1, d.before K.2.2.1 K.2.1 = true) (H : Hp) (i : Nat) (vs : List Value) (s0 s1 s2 s3 s4 : Int32) (hH : H[i]? = some (.inr (.int, vs))) (hv0 : vs[0]? = some (.int s0)) (hv1 : vs[1]? = some (.int s1)) (hv2 : vs[2]? = some (.int s2)) (hv3 : vs[3]? = some (.int s3)) (hv4 : vs[4]? = some (.int s4)) : Go K m4 1 16 0 [.val (.ref i), .val (.int 5)] [] H (some (.int (own_bd_5 s0 s1 s2 s3 s4)), some H, 0, 0) := by
  refine Go.iconst d4_0 (v := 5) rfl ?_
  refine Go.iloadN d4_1 rfl ?_
  refine Go.icmpT d4_2 j4_2 (XT.ii_ge_t (by decide)) ?_
  refine Go.iconst d4_16 (v := 4) rfl ?_
  refine Go.iloadN d4_17 rfl ?_
  refine Go.icmpF d4_18 (XT.ii_ge_f (by decide)) ?_
  refine Go.aloadN d4_21 rfl rfl ?_
  refine Go.iconst d4_22 (v := 4) rfl ?_
  refine Go.iloadN d4_23 rfl ?_
  refine Go.callS (M' := m5) d4_24 (hw _ (List.mem_of_getElem? (i := 17) rfl)) (hw _ (List.mem_of_getElem? (i := 18) rfl)) (hw _ (List.mem_of_getElem? (i := 9) rfl)) (hw _ (List.mem_of_getElem? (i := 19) rfl)) mi5 (as := [.ref i, .int 4, .int 5]) rfl rfl (st := []) rfl (ls1 := [.val (.ref i), .val (.int 4), .val (.int 5), .unset, .unset]) rfl (W := 0) rfl (by decide) (by decide) (go_own_mt_4_5 K hw H i vs s0 s1 s2 s3 s4 hH hv0 hv1 hv2 hv3 hv4) 0 0 (by decide) (by decide) ?_
  show Go _ _ _ _ 27 [.val (.ref i), .val (.int 5)] [.int (own_mt_4_5 s0 s1 s2 s3 s4)] H _
  refine Go.if_eq d4_27 j4_27 (fun h27 => ?_) (fun h27 => ?_)
  · -- pc 27 taken
    refine Go.iconst d4_32 (v := 3) rfl ?_
    refine Go.iloadN d4_33 rfl ?_
    refine Go.icmpF d4_34 (XT.ii_ge_f (by decide)) ?_
    refine Go.aloadN d4_37 rfl rfl ?_
    refine Go.iconst d4_38 (v := 3) rfl ?_
    refine Go.iloadN d4_39 rfl ?_
    refine Go.callS (M' := m5) d4_40 (hw _ (List.mem_of_getElem? (i := 17) rfl)) (hw _ (List.mem_of_getElem? (i := 18) rfl)) (hw _ (List.mem_of_getElem? (i := 9) rfl)) (hw _ (List.mem_of_getElem? (i := 19) rfl)) mi5 (as := [.ref i, .int 3, .int 5]) rfl rfl (st := []) rfl (ls1 := [.val (.ref i), .val (.int 3), .val (.int 5), .unset, .unset]) rfl (W := 0) rfl (by decide) (by decide) (go_own_mt_3_5 K hw H i vs s0 s1 s2 s3 s4 hH hv0 hv1 hv2 hv3 hv4) 0 0 (by decide) (by decide) ?_
    show Go _ _ _ _ 43 [.val (.ref i), .val (.int 5)] [.int (own_mt_3_5 s0 s1 s2 s3 s4)] H _
    refine Go.if_eq d4_43 j4_43 (fun h43 => ?_) (fun h43 => ?_)
    · -- pc 43 taken
      refine Go.iconst d4_48 (v := 2) rfl ?_
      refine Go.iloadN d4_49 rfl ?_
      refine Go.icmpF d4_50 (XT.ii_ge_f (by decide)) ?_
      refine Go.aloadN d4_53 rfl rfl ?_
      refine Go.iconst d4_54 (v := 2) rfl ?_
      refine Go.iloadN d4_55 rfl ?_
      refine Go.callS (M' := m5) d4_56 (hw _ (List.mem_of_getElem? (i := 17) rfl)) (hw _ (List.mem_of_getElem? (i := 18) rfl)) (hw _ (List.mem_of_getElem? (i := 9) rfl)) (hw _ (List.mem_of_getElem? (i := 19) rfl)) mi5 (as := [.ref i, .int 2, .int 5]) rfl rfl (st := []) rfl (ls1 := [.val (.ref i), .val (.int 2), .val (.int 5), .unset, .unset]) rfl (W := 0) rfl (by decide) (by decide) (go_own_mt_2_5 K hw H i vs s0 s1 s2 s3 s4 hH hv0 hv1 hv2 hv3 hv4) 0 0 (by decide) (by decide) ?_
      show Go _ _ _ _ 59 [.val (.ref i), .val (.int 5)] [.int (own_mt_2_5 s0 s1 s2 s3 s4)] H _
      refine Go.if_eq d4_59 j4_59 (fun h59 => ?_) (fun h59 => ?_)
      · -- pc 59 taken
        refine Go.iconst d4_64 (v := 1) rfl ?_
        refine Go.iloadN d4_65 rfl ?_
        refine Go.icmpF d4_66 (XT.ii_ge_f (by decide)) ?_
        refine Go.aloadN d4_69 rfl rfl ?_
        refine Go.iconst d4_70 (v := 1) rfl ?_
        refine Go.iloadN d4_71 rfl ?_
        refine Go.callS (M' := m5) d4_72 (hw _ (List.mem_of_getElem? (i := 17) rfl)) (hw _ (List.mem_of_getElem? (i := 18) rfl)) (hw _ (List.mem_of_getElem? (i := 9) rfl)) (hw _ (List.mem_of_getElem? (i := 19) rfl)) mi5 (as := [.ref i, .int 1, .int 5]) rfl rfl (st := []) rfl (ls1 := [.val (.ref i), .val (.int 1), .val (.int 5), .unset, .unset]) rfl (W := 0) rfl (by decide) (by decide) (go_own_mt_1_5 K hw H i vs s0 s1 s2 s3 s4 hH hv0 hv1 hv2 hv3 hv4) 0 0 (by decide) (by decide) ?_
        show Go _ _ _ _ 75 [.val (.ref i), .val (.int 5)] [.int (own_mt_1_5 s0 s1 s2 s3 s4)] H _
        refine Go.if_eq d4_75 j4_75 (fun h75 => ?_) (fun h75 => ?_)
        · -- pc 75 taken
          refine Go.iconst d4_80 (v := 0) rfl ?_
          exact Go.ireturn d4_81 rfl (by rw [own_bd_5, if_pos h27, if_pos h43, if_pos h59, if_pos h75]) (HOk.eq rfl)
        · -- pc 75 not taken
          refine Go.iconst d4_78 (v := 1) rfl ?_
          exact Go.ireturn d4_79 rfl (by rw [own_bd_5, if_pos h27, if_pos h43, if_pos h59, if_neg h75]) (HOk.eq rfl)
      · -- pc 59 not taken
        refine Go.iconst d4_62 (v := 2) rfl ?_
        exact Go.ireturn d4_63 rfl (by rw [own_bd_5, if_pos h27, if_pos h43, if_neg h59]) (HOk.eq rfl)
    · -- pc 43 not taken
      refine Go.iconst d4_46 (v := 3) rfl ?_
      exact Go.ireturn d4_47 rfl (by rw [own_bd_5, if_pos h27, if_neg h43]) (HOk.eq rfl)
  · -- pc 27 not taken
    refine Go.iconst d4_30 (v := 4) rfl ?_
    exact Go.ireturn d4_31 rfl (by rw [own_bd_5, if_neg h27]) (HOk.eq rfl)
theorem own_bdv_5 (s : List Int32) (s0 s1 s2 s3 s4 : Int32) (hv0 : s[0]? = some s0) (hv1 : s[1]? = some s1) (hv2 : s[2]? = some s2) (hv3 : s[3]? = some s3) (hv4 : s[4]? = some s4) : own_bd_5 s0 s1 s2 s3 s4 = Int32.ofNat (own_bdE (own_E s) 5) := by
  simp only [own_bd_5, own_bdE, own_mtv_1_5 s s0 s1 s2 s3 s4 hv0 hv1 hv2 hv3 hv4, own_mtv_2_5 s s0 s1 s2 s3 s4 hv0 hv1 hv2 hv3 hv4, own_mtv_3_5 s s0 s1 s2 s3 s4 hv0 hv1 hv2 hv3 hv4, own_mtv_4_5 s s0 s1 s2 s3 s4 hv0 hv1 hv2 hv3 hv4, Nat.reduceLT, Nat.reduceSub, true_and, false_and, if_false]
  all_goals ((repeat' split) <;> simp_all)
def own_mt_1_6 (s0 s1 s2 s3 s4 s5 : Int32) : Int32 := (if s0 = s5 then 1 else 0)
theorem go_own_mt_1_6 (K : Ctx) (hw : ∀ d ∈ tables_1, d.before K.2.2.1 K.2.1 = true) (H : Hp) (i : Nat) (vs : List Value) (s0 s1 s2 s3 s4 s5 : Int32) (hH : H[i]? = some (.inr (.int, vs))) (hv0 : vs[0]? = some (.int s0)) (hv1 : vs[1]? = some (.int s1)) (hv2 : vs[2]? = some (.int s2)) (hv3 : vs[3]? = some (.int s3)) (hv4 : vs[4]? = some (.int s4)) (hv5 : vs[5]? = some (.int s5)) : Go K m5 0 0 0 [.val (.ref i), .val (.int 1), .val (.int 6), .unset, .unset] [] H (some (.int (own_mt_1_6 s0 s1 s2 s3 s4 s5)), some H, 0, 0) := by
  refine Go.iloadN d5_0 rfl ?_
  refine Go.iloadN d5_1 rfl ?_
  refine Go.isub d5_2 ?_
  show Go _ _ _ _ 3 [.val (.ref i), .val (.int 1), .val (.int 6), .unset, .unset] [.int 5] H _
  refine Go.istoreN d5_3 (ls' := [.val (.ref i), .val (.int 1), .val (.int 6), .val (.int 5), .unset]) rfl ?_
  refine Go.iconst d5_4 (v := 1) rfl ?_
  refine Go.istore d5_5 (ls' := [.val (.ref i), .val (.int 1), .val (.int 6), .val (.int 5), .val (.int 1)]) rfl ?_
  refine Go.iloadN d5_7 rfl ?_
  refine Go.ifF d5_8 (XT.i0_le_f (by decide)) ?_
  refine Go.iload d5_11 rfl ?_
  refine Go.ifF d5_13 (XT.i0_eq_f (by decide)) ?_
  refine Go.aloadN d5_16 rfl rfl ?_
  refine Go.iconst d5_17 (v := 0) rfl ?_
  refine Go.iaload d5_18 hH (by decide) hv0 ?_
  refine Go.aloadN d5_19 rfl rfl ?_
  refine Go.iloadN d5_20 rfl ?_
  refine Go.iaload d5_21 hH (by decide) hv5 ?_
  refine Go.icmp_ne d5_22 j5_22 (fun h22 => ?_) (fun h22 => ?_)
  · -- pc 22 taken
    refine Go.iconst d5_29 (v := 0) rfl ?_
    refine Go.istore d5_30 (ls' := [.val (.ref i), .val (.int 1), .val (.int 6), .val (.int 5), .val (.int 0)]) rfl ?_
    refine Go.iloadN d5_32 rfl ?_
    refine Go.iconst d5_33 (v := 1) rfl ?_
    refine Go.icmpT d5_34 j5_34 (XT.ii_le_t (by decide)) ?_
    refine Go.iloadN d5_60 rfl ?_
    refine Go.iconst d5_61 (v := 2) rfl ?_
    refine Go.icmpT d5_62 j5_62 (XT.ii_le_t (by decide)) ?_
    refine Go.iloadN d5_88 rfl ?_
    refine Go.iconst d5_89 (v := 3) rfl ?_
    refine Go.icmpT d5_90 j5_90 (XT.ii_le_t (by decide)) ?_
    refine Go.iloadN d5_116 rfl ?_
    refine Go.iconst d5_117 (v := 4) rfl ?_
    refine Go.icmpT d5_118 j5_118 (XT.ii_le_t (by decide)) ?_
    refine Go.iload d5_144 rfl ?_
    exact Go.ireturnZ d5_146 rfl (by decide) (by rw [own_mt_1_6, if_neg h22]) (HOk.eq rfl)
  · -- pc 22 not taken
    refine Go.iconst d5_25 (v := 1) rfl ?_
    refine Go.goto d5_26 j5_26 ?_
    refine Go.istore d5_30 (ls' := [.val (.ref i), .val (.int 1), .val (.int 6), .val (.int 5), .val (.int 1)]) rfl ?_
    refine Go.iloadN d5_32 rfl ?_
    refine Go.iconst d5_33 (v := 1) rfl ?_
    refine Go.icmpT d5_34 j5_34 (XT.ii_le_t (by decide)) ?_
    refine Go.iloadN d5_60 rfl ?_
    refine Go.iconst d5_61 (v := 2) rfl ?_
    refine Go.icmpT d5_62 j5_62 (XT.ii_le_t (by decide)) ?_
    refine Go.iloadN d5_88 rfl ?_
    refine Go.iconst d5_89 (v := 3) rfl ?_
    refine Go.icmpT d5_90 j5_90 (XT.ii_le_t (by decide)) ?_
    refine Go.iloadN d5_116 rfl ?_
    refine Go.iconst d5_117 (v := 4) rfl ?_
    refine Go.icmpT d5_118 j5_118 (XT.ii_le_t (by decide)) ?_
    refine Go.iload d5_144 rfl ?_
    exact Go.ireturnZ d5_146 rfl (by decide) (by rw [own_mt_1_6, if_pos h22]) (HOk.eq rfl)
theorem own_mtv_1_6 (s : List Int32) (s0 s1 s2 s3 s4 s5 : Int32) (hv0 : s[0]? = some s0) (hv1 : s[1]? = some s1) (hv2 : s[2]? = some s2) (hv3 : s[3]? = some s3) (hv4 : s[4]? = some s4) (hv5 : s[5]? = some s5) : own_mt_1_6 s0 s1 s2 s3 s4 s5 = if own_mtE (own_E s) 5 1 = true then 1 else 0 := by
  simp only [own_mt_1_6, own_mtE, own_E, Nat.reduceAdd, hv0, hv1, hv2, hv3, hv4, hv5, Option.some.injEq, Bool.true_and, Bool.and_eq_true, decide_eq_true_eq]
  all_goals ((repeat' split) <;> simp_all)
def own_mt_2_6 (s0 s1 s2 s3 s4 s5 : Int32) : Int32 := (if s0 = s4 then (if s1 = s5 then 1 else 0) else 0)
theorem go_own_mt_2_6 (K : Ctx) (hw : ∀ d ∈ tables_1, d.before K.2.2.1 K.2.1 = true) (H : Hp) (i : Nat) (vs : List Value) (s0 s1 s2 s3 s4 s5 : Int32) (hH : H[i]? = some (.inr (.int, vs))) (hv0 : vs[0]? = some (.int s0)) (hv1 : vs[1]? = some (.int s1)) (hv2 : vs[2]? = some (.int s2)) (hv3 : vs[3]? = some (.int s3)) (hv4 : vs[4]? = some (.int s4)) (hv5 : vs[5]? = some (.int s5)) : Go K m5 0 0 0 [.val (.ref i), .val (.int 2), .val (.int 6), .unset, .unset] [] H (some (.int (own_mt_2_6 s0 s1 s2 s3 s4 s5)), some H, 0, 0) := by
  refine Go.iloadN d5_0 rfl ?_
  refine Go.iloadN d5_1 rfl ?_
  refine Go.isub d5_2 ?_
  show Go _ _ _ _ 3 [.val (.ref i), .val (.int 2), .val (.int 6), .unset, .unset] [.int 4] H _
  refine Go.istoreN d5_3 (ls' := [.val (.ref i), .val (.int 2), .val (.int 6), .val (.int 4), .unset]) rfl ?_
  refine Go.iconst d5_4 (v := 1) rfl ?_
  refine Go.istore d5_5 (ls' := [.val (.ref i), .val (.int 2), .val (.int 6), .val (.int 4), .val (.int 1)]) rfl ?_
  refine Go.iloadN d5_7 rfl ?_
  refine Go.ifF d5_8 (XT.i0_le_f (by decide)) ?_
  refine Go.iload d5_11 rfl ?_
  refine Go.ifF d5_13 (XT.i0_eq_f (by decide)) ?_
  refine Go.aloadN d5_16 rfl rfl ?_
  refine Go.iconst d5_17 (v := 0) rfl ?_
  refine Go.iaload d5_18 hH (by decide) hv0 ?_
  refine Go.aloadN d5_19 rfl rfl ?_
  refine Go.iloadN d5_20 rfl ?_
  refine Go.iaload d5_21 hH (by decide) hv4 ?_
  refine Go.icmp_ne d5_22 j5_22 (fun h22 => ?_) (fun h22 => ?_)
  · -- pc 22 taken
    refine Go.iconst d5_29 (v := 0) rfl ?_
    refine Go.istore d5_30 (ls' := [.val (.ref i), .val (.int 2), .val (.int 6), .val (.int 4), .val (.int 0)]) rfl ?_
    refine Go.iloadN d5_32 rfl ?_
    refine Go.iconst d5_33 (v := 1) rfl ?_
    refine Go.icmpF d5_34 (XT.ii_le_f (by decide)) ?_
    refine Go.iload d5_37 rfl ?_
    refine Go.ifT d5_39 j5_39 (XT.i0_eq_t (by decide)) ?_
    refine Go.iconst d5_57 (v := 0) rfl ?_
    refine Go.istore d5_58 (ls' := [.val (.ref i), .val (.int 2), .val (.int 6), .val (.int 4), .val (.int 0)]) rfl ?_
    refine Go.iloadN d5_60 rfl ?_
    refine Go.iconst d5_61 (v := 2) rfl ?_
    refine Go.icmpT d5_62 j5_62 (XT.ii_le_t (by decide)) ?_
    refine Go.iloadN d5_88 rfl ?_
    refine Go.iconst d5_89 (v := 3) rfl ?_
    refine Go.icmpT d5_90 j5_90 (XT.ii_le_t (by decide)) ?_
    refine Go.iloadN d5_116 rfl ?_
    refine Go.iconst d5_117 (v := 4) rfl ?_
    refine Go.icmpT d5_118 j5_118 (XT.ii_le_t (by decide)) ?_
    refine Go.iload d5_144 rfl ?_
    exact Go.ireturnZ d5_146 rfl (by decide) (by rw [own_mt_2_6, if_neg h22]) (HOk.eq rfl)
  · -- pc 22 not taken
    refine Go.iconst d5_25 (v := 1) rfl ?_
    refine Go.goto d5_26 j5_26 ?_
    refine Go.istore d5_30 (ls' := [.val (.ref i), .val (.int 2), .val (.int 6), .val (.int 4), .val (.int 1)]) rfl ?_
    refine Go.iloadN d5_32 rfl ?_
    refine Go.iconst d5_33 (v := 1) rfl ?_
    refine Go.icmpF d5_34 (XT.ii_le_f (by decide)) ?_
    refine Go.iload d5_37 rfl ?_
    refine Go.ifF d5_39 (XT.i0_eq_f (by decide)) ?_
    refine Go.aloadN d5_42 rfl rfl ?_
    refine Go.iconst d5_43 (v := 1) rfl ?_
    refine Go.iaload d5_44 hH (by decide) hv1 ?_
    refine Go.aloadN d5_45 rfl rfl ?_
    refine Go.iloadN d5_46 rfl ?_
    refine Go.iconst d5_47 (v := 1) rfl ?_
    refine Go.iadd d5_48 ?_
    show Go _ _ _ _ 49 [.val (.ref i), .val (.int 2), .val (.int 6), .val (.int 4), .val (.int 1)] [.int 5, .ref i, .int s1] H _
    refine Go.iaload d5_49 hH (by decide) hv5 ?_
    refine Go.icmp_ne d5_50 j5_50 (fun h50 => ?_) (fun h50 => ?_)
    · -- pc 50 taken
      refine Go.iconst d5_57 (v := 0) rfl ?_
      refine Go.istore d5_58 (ls' := [.val (.ref i), .val (.int 2), .val (.int 6), .val (.int 4), .val (.int 0)]) rfl ?_
      refine Go.iloadN d5_60 rfl ?_
      refine Go.iconst d5_61 (v := 2) rfl ?_
      refine Go.icmpT d5_62 j5_62 (XT.ii_le_t (by decide)) ?_
      refine Go.iloadN d5_88 rfl ?_
      refine Go.iconst d5_89 (v := 3) rfl ?_
      refine Go.icmpT d5_90 j5_90 (XT.ii_le_t (by decide)) ?_
      refine Go.iloadN d5_116 rfl ?_
      refine Go.iconst d5_117 (v := 4) rfl ?_
      refine Go.icmpT d5_118 j5_118 (XT.ii_le_t (by decide)) ?_
      refine Go.iload d5_144 rfl ?_
      exact Go.ireturnZ d5_146 rfl (by decide) (by rw [own_mt_2_6, if_pos h22, if_neg h50]) (HOk.eq rfl)
    · -- pc 50 not taken
      refine Go.iconst d5_53 (v := 1) rfl ?_
      refine Go.goto d5_54 j5_54 ?_
      refine Go.istore d5_58 (ls' := [.val (.ref i), .val (.int 2), .val (.int 6), .val (.int 4), .val (.int 1)]) rfl ?_
      refine Go.iloadN d5_60 rfl ?_
      refine Go.iconst d5_61 (v := 2) rfl ?_
      refine Go.icmpT d5_62 j5_62 (XT.ii_le_t (by decide)) ?_
      refine Go.iloadN d5_88 rfl ?_
      refine Go.iconst d5_89 (v := 3) rfl ?_
      refine Go.icmpT d5_90 j5_90 (XT.ii_le_t (by decide)) ?_
      refine Go.iloadN d5_116 rfl ?_
      refine Go.iconst d5_117 (v := 4) rfl ?_
      refine Go.icmpT d5_118 j5_118 (XT.ii_le_t (by decide)) ?_
      refine Go.iload d5_144 rfl ?_
      exact Go.ireturnZ d5_146 rfl (by decide) (by rw [own_mt_2_6, if_pos h22, if_pos h50]) (HOk.eq rfl)
theorem own_mtv_2_6 (s : List Int32) (s0 s1 s2 s3 s4 s5 : Int32) (hv0 : s[0]? = some s0) (hv1 : s[1]? = some s1) (hv2 : s[2]? = some s2) (hv3 : s[3]? = some s3) (hv4 : s[4]? = some s4) (hv5 : s[5]? = some s5) : own_mt_2_6 s0 s1 s2 s3 s4 s5 = if own_mtE (own_E s) 4 2 = true then 1 else 0 := by
  simp only [own_mt_2_6, own_mtE, own_E, Nat.reduceAdd, hv0, hv1, hv2, hv3, hv4, hv5, Option.some.injEq, Bool.true_and, Bool.and_eq_true, decide_eq_true_eq]
  all_goals ((repeat' split) <;> simp_all)
def own_mt_3_6 (s0 s1 s2 s3 s4 s5 : Int32) : Int32 := (if s0 = s3 then (if s1 = s4 then (if s2 = s5 then 1 else 0) else 0) else 0)
theorem go_own_mt_3_6 (K : Ctx) (hw : ∀ d ∈ tables_1, d.before K.2.2.1 K.2.1 = true) (H : Hp) (i : Nat) (vs : List Value) (s0 s1 s2 s3 s4 s5 : Int32) (hH : H[i]? = some (.inr (.int, vs))) (hv0 : vs[0]? = some (.int s0)) (hv1 : vs[1]? = some (.int s1)) (hv2 : vs[2]? = some (.int s2)) (hv3 : vs[3]? = some (.int s3)) (hv4 : vs[4]? = some (.int s4)) (hv5 : vs[5]? = some (.int s5)) : Go K m5 0 0 0 [.val (.ref i), .val (.int 3), .val (.int 6), .unset, .unset] [] H (some (.int (own_mt_3_6 s0 s1 s2 s3 s4 s5)), some H, 0, 0) := by
  refine Go.iloadN d5_0 rfl ?_
  refine Go.iloadN d5_1 rfl ?_
  refine Go.isub d5_2 ?_
  show Go _ _ _ _ 3 [.val (.ref i), .val (.int 3), .val (.int 6), .unset, .unset] [.int 3] H _
  refine Go.istoreN d5_3 (ls' := [.val (.ref i), .val (.int 3), .val (.int 6), .val (.int 3), .unset]) rfl ?_
  refine Go.iconst d5_4 (v := 1) rfl ?_
  refine Go.istore d5_5 (ls' := [.val (.ref i), .val (.int 3), .val (.int 6), .val (.int 3), .val (.int 1)]) rfl ?_
  refine Go.iloadN d5_7 rfl ?_
  refine Go.ifF d5_8 (XT.i0_le_f (by decide)) ?_
  refine Go.iload d5_11 rfl ?_
  refine Go.ifF d5_13 (XT.i0_eq_f (by decide)) ?_
  refine Go.aloadN d5_16 rfl rfl ?_
  refine Go.iconst d5_17 (v := 0) rfl ?_
  refine Go.iaload d5_18 hH (by decide) hv0 ?_
  refine Go.aloadN d5_19 rfl rfl ?_
  refine Go.iloadN d5_20 rfl ?_
  refine Go.iaload d5_21 hH (by decide) hv3 ?_
  refine Go.icmp_ne d5_22 j5_22 (fun h22 => ?_) (fun h22 => ?_)
  · -- pc 22 taken
    refine Go.iconst d5_29 (v := 0) rfl ?_
    refine Go.istore d5_30 (ls' := [.val (.ref i), .val (.int 3), .val (.int 6), .val (.int 3), .val (.int 0)]) rfl ?_
    refine Go.iloadN d5_32 rfl ?_
    refine Go.iconst d5_33 (v := 1) rfl ?_
    refine Go.icmpF d5_34 (XT.ii_le_f (by decide)) ?_
    refine Go.iload d5_37 rfl ?_
    refine Go.ifT d5_39 j5_39 (XT.i0_eq_t (by decide)) ?_
    refine Go.iconst d5_57 (v := 0) rfl ?_
    refine Go.istore d5_58 (ls' := [.val (.ref i), .val (.int 3), .val (.int 6), .val (.int 3), .val (.int 0)]) rfl ?_
    refine Go.iloadN d5_60 rfl ?_
    refine Go.iconst d5_61 (v := 2) rfl ?_
    refine Go.icmpF d5_62 (XT.ii_le_f (by decide)) ?_
    refine Go.iload d5_65 rfl ?_
    refine Go.ifT d5_67 j5_67 (XT.i0_eq_t (by decide)) ?_
    refine Go.iconst d5_85 (v := 0) rfl ?_
    refine Go.istore d5_86 (ls' := [.val (.ref i), .val (.int 3), .val (.int 6), .val (.int 3), .val (.int 0)]) rfl ?_
    refine Go.iloadN d5_88 rfl ?_
    refine Go.iconst d5_89 (v := 3) rfl ?_
    refine Go.icmpT d5_90 j5_90 (XT.ii_le_t (by decide)) ?_
    refine Go.iloadN d5_116 rfl ?_
    refine Go.iconst d5_117 (v := 4) rfl ?_
    refine Go.icmpT d5_118 j5_118 (XT.ii_le_t (by decide)) ?_
    refine Go.iload d5_144 rfl ?_
    exact Go.ireturnZ d5_146 rfl (by decide) (by rw [own_mt_3_6, if_neg h22]) (HOk.eq rfl)
  · -- pc 22 not taken
    refine Go.iconst d5_25 (v := 1) rfl ?_
    refine Go.goto d5_26 j5_26 ?_
    refine Go.istore d5_30 (ls' := [.val (.ref i), .val (.int 3), .val (.int 6), .val (.int 3), .val (.int 1)]) rfl ?_
    refine Go.iloadN d5_32 rfl ?_
    refine Go.iconst d5_33 (v := 1) rfl ?_
    refine Go.icmpF d5_34 (XT.ii_le_f (by decide)) ?_
    refine Go.iload d5_37 rfl ?_
    refine Go.ifF d5_39 (XT.i0_eq_f (by decide)) ?_
    refine Go.aloadN d5_42 rfl rfl ?_
    refine Go.iconst d5_43 (v := 1) rfl ?_
    refine Go.iaload d5_44 hH (by decide) hv1 ?_
    refine Go.aloadN d5_45 rfl rfl ?_
    refine Go.iloadN d5_46 rfl ?_
    refine Go.iconst d5_47 (v := 1) rfl ?_
    refine Go.iadd d5_48 ?_
    show Go _ _ _ _ 49 [.val (.ref i), .val (.int 3), .val (.int 6), .val (.int 3), .val (.int 1)] [.int 4, .ref i, .int s1] H _
    refine Go.iaload d5_49 hH (by decide) hv4 ?_
    refine Go.icmp_ne d5_50 j5_50 (fun h50 => ?_) (fun h50 => ?_)
    · -- pc 50 taken
      refine Go.iconst d5_57 (v := 0) rfl ?_
      refine Go.istore d5_58 (ls' := [.val (.ref i), .val (.int 3), .val (.int 6), .val (.int 3), .val (.int 0)]) rfl ?_
      refine Go.iloadN d5_60 rfl ?_
      refine Go.iconst d5_61 (v := 2) rfl ?_
      refine Go.icmpF d5_62 (XT.ii_le_f (by decide)) ?_
      refine Go.iload d5_65 rfl ?_
      refine Go.ifT d5_67 j5_67 (XT.i0_eq_t (by decide)) ?_
      refine Go.iconst d5_85 (v := 0) rfl ?_
      refine Go.istore d5_86 (ls' := [.val (.ref i), .val (.int 3), .val (.int 6), .val (.int 3), .val (.int 0)]) rfl ?_
      refine Go.iloadN d5_88 rfl ?_
      refine Go.iconst d5_89 (v := 3) rfl ?_
      refine Go.icmpT d5_90 j5_90 (XT.ii_le_t (by decide)) ?_
      refine Go.iloadN d5_116 rfl ?_
      refine Go.iconst d5_117 (v := 4) rfl ?_
      refine Go.icmpT d5_118 j5_118 (XT.ii_le_t (by decide)) ?_
      refine Go.iload d5_144 rfl ?_
      exact Go.ireturnZ d5_146 rfl (by decide) (by rw [own_mt_3_6, if_pos h22, if_neg h50]) (HOk.eq rfl)
    · -- pc 50 not taken
      refine Go.iconst d5_53 (v := 1) rfl ?_
      refine Go.goto d5_54 j5_54 ?_
      refine Go.istore d5_58 (ls' := [.val (.ref i), .val (.int 3), .val (.int 6), .val (.int 3), .val (.int 1)]) rfl ?_
      refine Go.iloadN d5_60 rfl ?_
      refine Go.iconst d5_61 (v := 2) rfl ?_
      refine Go.icmpF d5_62 (XT.ii_le_f (by decide)) ?_
      refine Go.iload d5_65 rfl ?_
      refine Go.ifF d5_67 (XT.i0_eq_f (by decide)) ?_
      refine Go.aloadN d5_70 rfl rfl ?_
      refine Go.iconst d5_71 (v := 2) rfl ?_
      refine Go.iaload d5_72 hH (by decide) hv2 ?_
      refine Go.aloadN d5_73 rfl rfl ?_
      refine Go.iloadN d5_74 rfl ?_
      refine Go.iconst d5_75 (v := 2) rfl ?_
      refine Go.iadd d5_76 ?_
      show Go _ _ _ _ 77 [.val (.ref i), .val (.int 3), .val (.int 6), .val (.int 3), .val (.int 1)] [.int 5, .ref i, .int s2] H _
      refine Go.iaload d5_77 hH (by decide) hv5 ?_
      refine Go.icmp_ne d5_78 j5_78 (fun h78 => ?_) (fun h78 => ?_)
      · -- pc 78 taken
        refine Go.iconst d5_85 (v := 0) rfl ?_
        refine Go.istore d5_86 (ls' := [.val (.ref i), .val (.int 3), .val (.int 6), .val (.int 3), .val (.int 0)]) rfl ?_
        refine Go.iloadN d5_88 rfl ?_
        refine Go.iconst d5_89 (v := 3) rfl ?_
        refine Go.icmpT d5_90 j5_90 (XT.ii_le_t (by decide)) ?_
        refine Go.iloadN d5_116 rfl ?_
        refine Go.iconst d5_117 (v := 4) rfl ?_
        refine Go.icmpT d5_118 j5_118 (XT.ii_le_t (by decide)) ?_
        refine Go.iload d5_144 rfl ?_
        exact Go.ireturnZ d5_146 rfl (by decide) (by rw [own_mt_3_6, if_pos h22, if_pos h50, if_neg h78]) (HOk.eq rfl)
      · -- pc 78 not taken
        refine Go.iconst d5_81 (v := 1) rfl ?_
        refine Go.goto d5_82 j5_82 ?_
        refine Go.istore d5_86 (ls' := [.val (.ref i), .val (.int 3), .val (.int 6), .val (.int 3), .val (.int 1)]) rfl ?_
        refine Go.iloadN d5_88 rfl ?_
        refine Go.iconst d5_89 (v := 3) rfl ?_
        refine Go.icmpT d5_90 j5_90 (XT.ii_le_t (by decide)) ?_
        refine Go.iloadN d5_116 rfl ?_
        refine Go.iconst d5_117 (v := 4) rfl ?_
        refine Go.icmpT d5_118 j5_118 (XT.ii_le_t (by decide)) ?_
        refine Go.iload d5_144 rfl ?_
        exact Go.ireturnZ d5_146 rfl (by decide) (by rw [own_mt_3_6, if_pos h22, if_pos h50, if_pos h78]) (HOk.eq rfl)
theorem own_mtv_3_6 (s : List Int32) (s0 s1 s2 s3 s4 s5 : Int32) (hv0 : s[0]? = some s0) (hv1 : s[1]? = some s1) (hv2 : s[2]? = some s2) (hv3 : s[3]? = some s3) (hv4 : s[4]? = some s4) (hv5 : s[5]? = some s5) : own_mt_3_6 s0 s1 s2 s3 s4 s5 = if own_mtE (own_E s) 3 3 = true then 1 else 0 := by
  simp only [own_mt_3_6, own_mtE, own_E, Nat.reduceAdd, hv0, hv1, hv2, hv3, hv4, hv5, Option.some.injEq, Bool.true_and, Bool.and_eq_true, decide_eq_true_eq]
  all_goals ((repeat' split) <;> simp_all)
def own_mt_4_6 (s0 s1 s2 s3 s4 s5 : Int32) : Int32 := (if s0 = s2 then (if s1 = s3 then (if s2 = s4 then (if s3 = s5 then 1 else 0) else 0) else 0) else 0)
theorem go_own_mt_4_6 (K : Ctx) (hw : ∀ d ∈ tables_1, d.before K.2.2.1 K.2.1 = true) (H : Hp) (i : Nat) (vs : List Value) (s0 s1 s2 s3 s4 s5 : Int32) (hH : H[i]? = some (.inr (.int, vs))) (hv0 : vs[0]? = some (.int s0)) (hv1 : vs[1]? = some (.int s1)) (hv2 : vs[2]? = some (.int s2)) (hv3 : vs[3]? = some (.int s3)) (hv4 : vs[4]? = some (.int s4)) (hv5 : vs[5]? = some (.int s5)) : Go K m5 0 0 0 [.val (.ref i), .val (.int 4), .val (.int 6), .unset, .unset] [] H (some (.int (own_mt_4_6 s0 s1 s2 s3 s4 s5)), some H, 0, 0) := by
  refine Go.iloadN d5_0 rfl ?_
  refine Go.iloadN d5_1 rfl ?_
  refine Go.isub d5_2 ?_
  show Go _ _ _ _ 3 [.val (.ref i), .val (.int 4), .val (.int 6), .unset, .unset] [.int 2] H _
  refine Go.istoreN d5_3 (ls' := [.val (.ref i), .val (.int 4), .val (.int 6), .val (.int 2), .unset]) rfl ?_
  refine Go.iconst d5_4 (v := 1) rfl ?_
  refine Go.istore d5_5 (ls' := [.val (.ref i), .val (.int 4), .val (.int 6), .val (.int 2), .val (.int 1)]) rfl ?_
  refine Go.iloadN d5_7 rfl ?_
  refine Go.ifF d5_8 (XT.i0_le_f (by decide)) ?_
  refine Go.iload d5_11 rfl ?_
  refine Go.ifF d5_13 (XT.i0_eq_f (by decide)) ?_
  refine Go.aloadN d5_16 rfl rfl ?_
  refine Go.iconst d5_17 (v := 0) rfl ?_
  refine Go.iaload d5_18 hH (by decide) hv0 ?_
  refine Go.aloadN d5_19 rfl rfl ?_
  refine Go.iloadN d5_20 rfl ?_
  refine Go.iaload d5_21 hH (by decide) hv2 ?_
  refine Go.icmp_ne d5_22 j5_22 (fun h22 => ?_) (fun h22 => ?_)
  · -- pc 22 taken
    refine Go.iconst d5_29 (v := 0) rfl ?_
    refine Go.istore d5_30 (ls' := [.val (.ref i), .val (.int 4), .val (.int 6), .val (.int 2), .val (.int 0)]) rfl ?_
    refine Go.iloadN d5_32 rfl ?_
    refine Go.iconst d5_33 (v := 1) rfl ?_
    refine Go.icmpF d5_34 (XT.ii_le_f (by decide)) ?_
    refine Go.iload d5_37 rfl ?_
    refine Go.ifT d5_39 j5_39 (XT.i0_eq_t (by decide)) ?_
    refine Go.iconst d5_57 (v := 0) rfl ?_
    refine Go.istore d5_58 (ls' := [.val (.ref i), .val (.int 4), .val (.int 6), .val (.int 2), .val (.int 0)]) rfl ?_
    refine Go.iloadN d5_60 rfl ?_
    refine Go.iconst d5_61 (v := 2) rfl ?_
    refine Go.icmpF d5_62 (XT.ii_le_f (by decide)) ?_
    refine Go.iload d5_65 rfl ?_
    refine Go.ifT d5_67 j5_67 (XT.i0_eq_t (by decide)) ?_
    refine Go.iconst d5_85 (v := 0) rfl ?_
    refine Go.istore d5_86 (ls' := [.val (.ref i), .val (.int 4), .val (.int 6), .val (.int 2), .val (.int 0)]) rfl ?_
    refine Go.iloadN d5_88 rfl ?_
    refine Go.iconst d5_89 (v := 3) rfl ?_
    refine Go.icmpF d5_90 (XT.ii_le_f (by decide)) ?_
    refine Go.iload d5_93 rfl ?_
    refine Go.ifT d5_95 j5_95 (XT.i0_eq_t (by decide)) ?_
    refine Go.iconst d5_113 (v := 0) rfl ?_
    refine Go.istore d5_114 (ls' := [.val (.ref i), .val (.int 4), .val (.int 6), .val (.int 2), .val (.int 0)]) rfl ?_
    refine Go.iloadN d5_116 rfl ?_
    refine Go.iconst d5_117 (v := 4) rfl ?_
    refine Go.icmpT d5_118 j5_118 (XT.ii_le_t (by decide)) ?_
    refine Go.iload d5_144 rfl ?_
    exact Go.ireturnZ d5_146 rfl (by decide) (by rw [own_mt_4_6, if_neg h22]) (HOk.eq rfl)
  · -- pc 22 not taken
    refine Go.iconst d5_25 (v := 1) rfl ?_
    refine Go.goto d5_26 j5_26 ?_
    refine Go.istore d5_30 (ls' := [.val (.ref i), .val (.int 4), .val (.int 6), .val (.int 2), .val (.int 1)]) rfl ?_
    refine Go.iloadN d5_32 rfl ?_
    refine Go.iconst d5_33 (v := 1) rfl ?_
    refine Go.icmpF d5_34 (XT.ii_le_f (by decide)) ?_
    refine Go.iload d5_37 rfl ?_
    refine Go.ifF d5_39 (XT.i0_eq_f (by decide)) ?_
    refine Go.aloadN d5_42 rfl rfl ?_
    refine Go.iconst d5_43 (v := 1) rfl ?_
    refine Go.iaload d5_44 hH (by decide) hv1 ?_
    refine Go.aloadN d5_45 rfl rfl ?_
    refine Go.iloadN d5_46 rfl ?_
    refine Go.iconst d5_47 (v := 1) rfl ?_
    refine Go.iadd d5_48 ?_
    show Go _ _ _ _ 49 [.val (.ref i), .val (.int 4), .val (.int 6), .val (.int 2), .val (.int 1)] [.int 3, .ref i, .int s1] H _
    refine Go.iaload d5_49 hH (by decide) hv3 ?_
    refine Go.icmp_ne d5_50 j5_50 (fun h50 => ?_) (fun h50 => ?_)
    · -- pc 50 taken
      refine Go.iconst d5_57 (v := 0) rfl ?_
      refine Go.istore d5_58 (ls' := [.val (.ref i), .val (.int 4), .val (.int 6), .val (.int 2), .val (.int 0)]) rfl ?_
      refine Go.iloadN d5_60 rfl ?_
      refine Go.iconst d5_61 (v := 2) rfl ?_
      refine Go.icmpF d5_62 (XT.ii_le_f (by decide)) ?_
      refine Go.iload d5_65 rfl ?_
      refine Go.ifT d5_67 j5_67 (XT.i0_eq_t (by decide)) ?_
      refine Go.iconst d5_85 (v := 0) rfl ?_
      refine Go.istore d5_86 (ls' := [.val (.ref i), .val (.int 4), .val (.int 6), .val (.int 2), .val (.int 0)]) rfl ?_
      refine Go.iloadN d5_88 rfl ?_
      refine Go.iconst d5_89 (v := 3) rfl ?_
      refine Go.icmpF d5_90 (XT.ii_le_f (by decide)) ?_
      refine Go.iload d5_93 rfl ?_
      refine Go.ifT d5_95 j5_95 (XT.i0_eq_t (by decide)) ?_
      refine Go.iconst d5_113 (v := 0) rfl ?_
      refine Go.istore d5_114 (ls' := [.val (.ref i), .val (.int 4), .val (.int 6), .val (.int 2), .val (.int 0)]) rfl ?_
      refine Go.iloadN d5_116 rfl ?_
      refine Go.iconst d5_117 (v := 4) rfl ?_
      refine Go.icmpT d5_118 j5_118 (XT.ii_le_t (by decide)) ?_
      refine Go.iload d5_144 rfl ?_
      exact Go.ireturnZ d5_146 rfl (by decide) (by rw [own_mt_4_6, if_pos h22, if_neg h50]) (HOk.eq rfl)
    · -- pc 50 not taken
      refine Go.iconst d5_53 (v := 1) rfl ?_
      refine Go.goto d5_54 j5_54 ?_
      refine Go.istore d5_58 (ls' := [.val (.ref i), .val (.int 4), .val (.int 6), .val (.int 2), .val (.int 1)]) rfl ?_
      refine Go.iloadN d5_60 rfl ?_
      refine Go.iconst d5_61 (v := 2) rfl ?_
      refine Go.icmpF d5_62 (XT.ii_le_f (by decide)) ?_
      refine Go.iload d5_65 rfl ?_
      refine Go.ifF d5_67 (XT.i0_eq_f (by decide)) ?_
      refine Go.aloadN d5_70 rfl rfl ?_
      refine Go.iconst d5_71 (v := 2) rfl ?_
      refine Go.iaload d5_72 hH (by decide) hv2 ?_
      refine Go.aloadN d5_73 rfl rfl ?_
      refine Go.iloadN d5_74 rfl ?_
      refine Go.iconst d5_75 (v := 2) rfl ?_
      refine Go.iadd d5_76 ?_
      show Go _ _ _ _ 77 [.val (.ref i), .val (.int 4), .val (.int 6), .val (.int 2), .val (.int 1)] [.int 4, .ref i, .int s2] H _
      refine Go.iaload d5_77 hH (by decide) hv4 ?_
      refine Go.icmp_ne d5_78 j5_78 (fun h78 => ?_) (fun h78 => ?_)
      · -- pc 78 taken
        refine Go.iconst d5_85 (v := 0) rfl ?_
        refine Go.istore d5_86 (ls' := [.val (.ref i), .val (.int 4), .val (.int 6), .val (.int 2), .val (.int 0)]) rfl ?_
        refine Go.iloadN d5_88 rfl ?_
        refine Go.iconst d5_89 (v := 3) rfl ?_
        refine Go.icmpF d5_90 (XT.ii_le_f (by decide)) ?_
        refine Go.iload d5_93 rfl ?_
        refine Go.ifT d5_95 j5_95 (XT.i0_eq_t (by decide)) ?_
        refine Go.iconst d5_113 (v := 0) rfl ?_
        refine Go.istore d5_114 (ls' := [.val (.ref i), .val (.int 4), .val (.int 6), .val (.int 2), .val (.int 0)]) rfl ?_
        refine Go.iloadN d5_116 rfl ?_
        refine Go.iconst d5_117 (v := 4) rfl ?_
        refine Go.icmpT d5_118 j5_118 (XT.ii_le_t (by decide)) ?_
        refine Go.iload d5_144 rfl ?_
        exact Go.ireturnZ d5_146 rfl (by decide) (by rw [own_mt_4_6, if_pos h22, if_pos h50, if_neg h78]) (HOk.eq rfl)
      · -- pc 78 not taken
        refine Go.iconst d5_81 (v := 1) rfl ?_
        refine Go.goto d5_82 j5_82 ?_
        refine Go.istore d5_86 (ls' := [.val (.ref i), .val (.int 4), .val (.int 6), .val (.int 2), .val (.int 1)]) rfl ?_
        refine Go.iloadN d5_88 rfl ?_
        refine Go.iconst d5_89 (v := 3) rfl ?_
        refine Go.icmpF d5_90 (XT.ii_le_f (by decide)) ?_
        refine Go.iload d5_93 rfl ?_
        refine Go.ifF d5_95 (XT.i0_eq_f (by decide)) ?_
        refine Go.aloadN d5_98 rfl rfl ?_
        refine Go.iconst d5_99 (v := 3) rfl ?_
        refine Go.iaload d5_100 hH (by decide) hv3 ?_
        refine Go.aloadN d5_101 rfl rfl ?_
        refine Go.iloadN d5_102 rfl ?_
        refine Go.iconst d5_103 (v := 3) rfl ?_
        refine Go.iadd d5_104 ?_
        show Go _ _ _ _ 105 [.val (.ref i), .val (.int 4), .val (.int 6), .val (.int 2), .val (.int 1)] [.int 5, .ref i, .int s3] H _
        refine Go.iaload d5_105 hH (by decide) hv5 ?_
        refine Go.icmp_ne d5_106 j5_106 (fun h106 => ?_) (fun h106 => ?_)
        · -- pc 106 taken
          refine Go.iconst d5_113 (v := 0) rfl ?_
          refine Go.istore d5_114 (ls' := [.val (.ref i), .val (.int 4), .val (.int 6), .val (.int 2), .val (.int 0)]) rfl ?_
          refine Go.iloadN d5_116 rfl ?_
          refine Go.iconst d5_117 (v := 4) rfl ?_
          refine Go.icmpT d5_118 j5_118 (XT.ii_le_t (by decide)) ?_
          refine Go.iload d5_144 rfl ?_
          exact Go.ireturnZ d5_146 rfl (by decide) (by rw [own_mt_4_6, if_pos h22, if_pos h50, if_pos h78, if_neg h106]) (HOk.eq rfl)
        · -- pc 106 not taken
          refine Go.iconst d5_109 (v := 1) rfl ?_
          refine Go.goto d5_110 j5_110 ?_
          refine Go.istore d5_114 (ls' := [.val (.ref i), .val (.int 4), .val (.int 6), .val (.int 2), .val (.int 1)]) rfl ?_
          refine Go.iloadN d5_116 rfl ?_
          refine Go.iconst d5_117 (v := 4) rfl ?_
          refine Go.icmpT d5_118 j5_118 (XT.ii_le_t (by decide)) ?_
          refine Go.iload d5_144 rfl ?_
          exact Go.ireturnZ d5_146 rfl (by decide) (by rw [own_mt_4_6, if_pos h22, if_pos h50, if_pos h78, if_pos h106]) (HOk.eq rfl)
theorem own_mtv_4_6 (s : List Int32) (s0 s1 s2 s3 s4 s5 : Int32) (hv0 : s[0]? = some s0) (hv1 : s[1]? = some s1) (hv2 : s[2]? = some s2) (hv3 : s[3]? = some s3) (hv4 : s[4]? = some s4) (hv5 : s[5]? = some s5) : own_mt_4_6 s0 s1 s2 s3 s4 s5 = if own_mtE (own_E s) 2 4 = true then 1 else 0 := by
  simp only [own_mt_4_6, own_mtE, own_E, Nat.reduceAdd, hv0, hv1, hv2, hv3, hv4, hv5, Option.some.injEq, Bool.true_and, Bool.and_eq_true, decide_eq_true_eq]
  all_goals ((repeat' split) <;> simp_all)
def own_mt_5_6 (s0 s1 s2 s3 s4 s5 : Int32) : Int32 := (if s0 = s1 then (if s1 = s2 then (if s2 = s3 then (if s3 = s4 then (if s4 = s5 then 1 else 0) else 0) else 0) else 0) else 0)
theorem go_own_mt_5_6 (K : Ctx) (hw : ∀ d ∈ tables_1, d.before K.2.2.1 K.2.1 = true) (H : Hp) (i : Nat) (vs : List Value) (s0 s1 s2 s3 s4 s5 : Int32) (hH : H[i]? = some (.inr (.int, vs))) (hv0 : vs[0]? = some (.int s0)) (hv1 : vs[1]? = some (.int s1)) (hv2 : vs[2]? = some (.int s2)) (hv3 : vs[3]? = some (.int s3)) (hv4 : vs[4]? = some (.int s4)) (hv5 : vs[5]? = some (.int s5)) : Go K m5 0 0 0 [.val (.ref i), .val (.int 5), .val (.int 6), .unset, .unset] [] H (some (.int (own_mt_5_6 s0 s1 s2 s3 s4 s5)), some H, 0, 0) := by
  refine Go.iloadN d5_0 rfl ?_
  refine Go.iloadN d5_1 rfl ?_
  refine Go.isub d5_2 ?_
  show Go _ _ _ _ 3 [.val (.ref i), .val (.int 5), .val (.int 6), .unset, .unset] [.int 1] H _
  refine Go.istoreN d5_3 (ls' := [.val (.ref i), .val (.int 5), .val (.int 6), .val (.int 1), .unset]) rfl ?_
  refine Go.iconst d5_4 (v := 1) rfl ?_
  refine Go.istore d5_5 (ls' := [.val (.ref i), .val (.int 5), .val (.int 6), .val (.int 1), .val (.int 1)]) rfl ?_
  refine Go.iloadN d5_7 rfl ?_
  refine Go.ifF d5_8 (XT.i0_le_f (by decide)) ?_
  refine Go.iload d5_11 rfl ?_
  refine Go.ifF d5_13 (XT.i0_eq_f (by decide)) ?_
  refine Go.aloadN d5_16 rfl rfl ?_
  refine Go.iconst d5_17 (v := 0) rfl ?_
  refine Go.iaload d5_18 hH (by decide) hv0 ?_
  refine Go.aloadN d5_19 rfl rfl ?_
  refine Go.iloadN d5_20 rfl ?_
  refine Go.iaload d5_21 hH (by decide) hv1 ?_
  refine Go.icmp_ne d5_22 j5_22 (fun h22 => ?_) (fun h22 => ?_)
  · -- pc 22 taken
    refine Go.iconst d5_29 (v := 0) rfl ?_
    refine Go.istore d5_30 (ls' := [.val (.ref i), .val (.int 5), .val (.int 6), .val (.int 1), .val (.int 0)]) rfl ?_
    refine Go.iloadN d5_32 rfl ?_
    refine Go.iconst d5_33 (v := 1) rfl ?_
    refine Go.icmpF d5_34 (XT.ii_le_f (by decide)) ?_
    refine Go.iload d5_37 rfl ?_
    refine Go.ifT d5_39 j5_39 (XT.i0_eq_t (by decide)) ?_
    refine Go.iconst d5_57 (v := 0) rfl ?_
    refine Go.istore d5_58 (ls' := [.val (.ref i), .val (.int 5), .val (.int 6), .val (.int 1), .val (.int 0)]) rfl ?_
    refine Go.iloadN d5_60 rfl ?_
    refine Go.iconst d5_61 (v := 2) rfl ?_
    refine Go.icmpF d5_62 (XT.ii_le_f (by decide)) ?_
    refine Go.iload d5_65 rfl ?_
    refine Go.ifT d5_67 j5_67 (XT.i0_eq_t (by decide)) ?_
    refine Go.iconst d5_85 (v := 0) rfl ?_
    refine Go.istore d5_86 (ls' := [.val (.ref i), .val (.int 5), .val (.int 6), .val (.int 1), .val (.int 0)]) rfl ?_
    refine Go.iloadN d5_88 rfl ?_
    refine Go.iconst d5_89 (v := 3) rfl ?_
    refine Go.icmpF d5_90 (XT.ii_le_f (by decide)) ?_
    refine Go.iload d5_93 rfl ?_
    refine Go.ifT d5_95 j5_95 (XT.i0_eq_t (by decide)) ?_
    refine Go.iconst d5_113 (v := 0) rfl ?_
    refine Go.istore d5_114 (ls' := [.val (.ref i), .val (.int 5), .val (.int 6), .val (.int 1), .val (.int 0)]) rfl ?_
    refine Go.iloadN d5_116 rfl ?_
    refine Go.iconst d5_117 (v := 4) rfl ?_
    refine Go.icmpF d5_118 (XT.ii_le_f (by decide)) ?_
    refine Go.iload d5_121 rfl ?_
    refine Go.ifT d5_123 j5_123 (XT.i0_eq_t (by decide)) ?_
    refine Go.iconst d5_141 (v := 0) rfl ?_
    refine Go.istore d5_142 (ls' := [.val (.ref i), .val (.int 5), .val (.int 6), .val (.int 1), .val (.int 0)]) rfl ?_
    refine Go.iload d5_144 rfl ?_
    exact Go.ireturnZ d5_146 rfl (by decide) (by rw [own_mt_5_6, if_neg h22]) (HOk.eq rfl)
  · -- pc 22 not taken
    refine Go.iconst d5_25 (v := 1) rfl ?_
    refine Go.goto d5_26 j5_26 ?_
    refine Go.istore d5_30 (ls' := [.val (.ref i), .val (.int 5), .val (.int 6), .val (.int 1), .val (.int 1)]) rfl ?_
    refine Go.iloadN d5_32 rfl ?_
    refine Go.iconst d5_33 (v := 1) rfl ?_
    refine Go.icmpF d5_34 (XT.ii_le_f (by decide)) ?_
    refine Go.iload d5_37 rfl ?_
    refine Go.ifF d5_39 (XT.i0_eq_f (by decide)) ?_
    refine Go.aloadN d5_42 rfl rfl ?_
    refine Go.iconst d5_43 (v := 1) rfl ?_
    refine Go.iaload d5_44 hH (by decide) hv1 ?_
    refine Go.aloadN d5_45 rfl rfl ?_
    refine Go.iloadN d5_46 rfl ?_
    refine Go.iconst d5_47 (v := 1) rfl ?_
    refine Go.iadd d5_48 ?_
    show Go _ _ _ _ 49 [.val (.ref i), .val (.int 5), .val (.int 6), .val (.int 1), .val (.int 1)] [.int 2, .ref i, .int s1] H _
    refine Go.iaload d5_49 hH (by decide) hv2 ?_
    refine Go.icmp_ne d5_50 j5_50 (fun h50 => ?_) (fun h50 => ?_)
    · -- pc 50 taken
      refine Go.iconst d5_57 (v := 0) rfl ?_
      refine Go.istore d5_58 (ls' := [.val (.ref i), .val (.int 5), .val (.int 6), .val (.int 1), .val (.int 0)]) rfl ?_
      refine Go.iloadN d5_60 rfl ?_
      refine Go.iconst d5_61 (v := 2) rfl ?_
      refine Go.icmpF d5_62 (XT.ii_le_f (by decide)) ?_
      refine Go.iload d5_65 rfl ?_
      refine Go.ifT d5_67 j5_67 (XT.i0_eq_t (by decide)) ?_
      refine Go.iconst d5_85 (v := 0) rfl ?_
      refine Go.istore d5_86 (ls' := [.val (.ref i), .val (.int 5), .val (.int 6), .val (.int 1), .val (.int 0)]) rfl ?_
      refine Go.iloadN d5_88 rfl ?_
      refine Go.iconst d5_89 (v := 3) rfl ?_
      refine Go.icmpF d5_90 (XT.ii_le_f (by decide)) ?_
      refine Go.iload d5_93 rfl ?_
      refine Go.ifT d5_95 j5_95 (XT.i0_eq_t (by decide)) ?_
      refine Go.iconst d5_113 (v := 0) rfl ?_
      refine Go.istore d5_114 (ls' := [.val (.ref i), .val (.int 5), .val (.int 6), .val (.int 1), .val (.int 0)]) rfl ?_
      refine Go.iloadN d5_116 rfl ?_
      refine Go.iconst d5_117 (v := 4) rfl ?_
      refine Go.icmpF d5_118 (XT.ii_le_f (by decide)) ?_
      refine Go.iload d5_121 rfl ?_
      refine Go.ifT d5_123 j5_123 (XT.i0_eq_t (by decide)) ?_
      refine Go.iconst d5_141 (v := 0) rfl ?_
      refine Go.istore d5_142 (ls' := [.val (.ref i), .val (.int 5), .val (.int 6), .val (.int 1), .val (.int 0)]) rfl ?_
      refine Go.iload d5_144 rfl ?_
      exact Go.ireturnZ d5_146 rfl (by decide) (by rw [own_mt_5_6, if_pos h22, if_neg h50]) (HOk.eq rfl)
    · -- pc 50 not taken
      refine Go.iconst d5_53 (v := 1) rfl ?_
      refine Go.goto d5_54 j5_54 ?_
      refine Go.istore d5_58 (ls' := [.val (.ref i), .val (.int 5), .val (.int 6), .val (.int 1), .val (.int 1)]) rfl ?_
      refine Go.iloadN d5_60 rfl ?_
      refine Go.iconst d5_61 (v := 2) rfl ?_
      refine Go.icmpF d5_62 (XT.ii_le_f (by decide)) ?_
      refine Go.iload d5_65 rfl ?_
      refine Go.ifF d5_67 (XT.i0_eq_f (by decide)) ?_
      refine Go.aloadN d5_70 rfl rfl ?_
      refine Go.iconst d5_71 (v := 2) rfl ?_
      refine Go.iaload d5_72 hH (by decide) hv2 ?_
      refine Go.aloadN d5_73 rfl rfl ?_
      refine Go.iloadN d5_74 rfl ?_
      refine Go.iconst d5_75 (v := 2) rfl ?_
      refine Go.iadd d5_76 ?_
      show Go _ _ _ _ 77 [.val (.ref i), .val (.int 5), .val (.int 6), .val (.int 1), .val (.int 1)] [.int 3, .ref i, .int s2] H _
      refine Go.iaload d5_77 hH (by decide) hv3 ?_
      refine Go.icmp_ne d5_78 j5_78 (fun h78 => ?_) (fun h78 => ?_)
      · -- pc 78 taken
        refine Go.iconst d5_85 (v := 0) rfl ?_
        refine Go.istore d5_86 (ls' := [.val (.ref i), .val (.int 5), .val (.int 6), .val (.int 1), .val (.int 0)]) rfl ?_
        refine Go.iloadN d5_88 rfl ?_
        refine Go.iconst d5_89 (v := 3) rfl ?_
        refine Go.icmpF d5_90 (XT.ii_le_f (by decide)) ?_
        refine Go.iload d5_93 rfl ?_
        refine Go.ifT d5_95 j5_95 (XT.i0_eq_t (by decide)) ?_
        refine Go.iconst d5_113 (v := 0) rfl ?_
        refine Go.istore d5_114 (ls' := [.val (.ref i), .val (.int 5), .val (.int 6), .val (.int 1), .val (.int 0)]) rfl ?_
        refine Go.iloadN d5_116 rfl ?_
        refine Go.iconst d5_117 (v := 4) rfl ?_
        refine Go.icmpF d5_118 (XT.ii_le_f (by decide)) ?_
        refine Go.iload d5_121 rfl ?_
        refine Go.ifT d5_123 j5_123 (XT.i0_eq_t (by decide)) ?_
        refine Go.iconst d5_141 (v := 0) rfl ?_
        refine Go.istore d5_142 (ls' := [.val (.ref i), .val (.int 5), .val (.int 6), .val (.int 1), .val (.int 0)]) rfl ?_
        refine Go.iload d5_144 rfl ?_
        exact Go.ireturnZ d5_146 rfl (by decide) (by rw [own_mt_5_6, if_pos h22, if_pos h50, if_neg h78]) (HOk.eq rfl)
      · -- pc 78 not taken
        refine Go.iconst d5_81 (v := 1) rfl ?_
        refine Go.goto d5_82 j5_82 ?_
        refine Go.istore d5_86 (ls' := [.val (.ref i), .val (.int 5), .val (.int 6), .val (.int 1), .val (.int 1)]) rfl ?_
        refine Go.iloadN d5_88 rfl ?_
        refine Go.iconst d5_89 (v := 3) rfl ?_
        refine Go.icmpF d5_90 (XT.ii_le_f (by decide)) ?_
        refine Go.iload d5_93 rfl ?_
        refine Go.ifF d5_95 (XT.i0_eq_f (by decide)) ?_
        refine Go.aloadN d5_98 rfl rfl ?_
        refine Go.iconst d5_99 (v := 3) rfl ?_
        refine Go.iaload d5_100 hH (by decide) hv3 ?_
        refine Go.aloadN d5_101 rfl rfl ?_
        refine Go.iloadN d5_102 rfl ?_
        refine Go.iconst d5_103 (v := 3) rfl ?_
        refine Go.iadd d5_104 ?_
        show Go _ _ _ _ 105 [.val (.ref i), .val (.int 5), .val (.int 6), .val (.int 1), .val (.int 1)] [.int 4, .ref i, .int s3] H _
        refine Go.iaload d5_105 hH (by decide) hv4 ?_
        refine Go.icmp_ne d5_106 j5_106 (fun h106 => ?_) (fun h106 => ?_)
        · -- pc 106 taken
          refine Go.iconst d5_113 (v := 0) rfl ?_
          refine Go.istore d5_114 (ls' := [.val (.ref i), .val (.int 5), .val (.int 6), .val (.int 1), .val (.int 0)]) rfl ?_
          refine Go.iloadN d5_116 rfl ?_
          refine Go.iconst d5_117 (v := 4) rfl ?_
          refine Go.icmpF d5_118 (XT.ii_le_f (by decide)) ?_
          refine Go.iload d5_121 rfl ?_
          refine Go.ifT d5_123 j5_123 (XT.i0_eq_t (by decide)) ?_
          refine Go.iconst d5_141 (v := 0) rfl ?_
          refine Go.istore d5_142 (ls' := [.val (.ref i), .val (.int 5), .val (.int 6), .val (.int 1), .val (.int 0)]) rfl ?_
          refine Go.iload d5_144 rfl ?_
          exact Go.ireturnZ d5_146 rfl (by decide) (by rw [own_mt_5_6, if_pos h22, if_pos h50, if_pos h78, if_neg h106]) (HOk.eq rfl)
        · -- pc 106 not taken
          refine Go.iconst d5_109 (v := 1) rfl ?_
          refine Go.goto d5_110 j5_110 ?_
          refine Go.istore d5_114 (ls' := [.val (.ref i), .val (.int 5), .val (.int 6), .val (.int 1), .val (.int 1)]) rfl ?_
          refine Go.iloadN d5_116 rfl ?_
          refine Go.iconst d5_117 (v := 4) rfl ?_
          refine Go.icmpF d5_118 (XT.ii_le_f (by decide)) ?_
          refine Go.iload d5_121 rfl ?_
          refine Go.ifF d5_123 (XT.i0_eq_f (by decide)) ?_
          refine Go.aloadN d5_126 rfl rfl ?_
          refine Go.iconst d5_127 (v := 4) rfl ?_
          refine Go.iaload d5_128 hH (by decide) hv4 ?_
          refine Go.aloadN d5_129 rfl rfl ?_
          refine Go.iloadN d5_130 rfl ?_
          refine Go.iconst d5_131 (v := 4) rfl ?_
          refine Go.iadd d5_132 ?_
          show Go _ _ _ _ 133 [.val (.ref i), .val (.int 5), .val (.int 6), .val (.int 1), .val (.int 1)] [.int 5, .ref i, .int s4] H _
          refine Go.iaload d5_133 hH (by decide) hv5 ?_
          refine Go.icmp_ne d5_134 j5_134 (fun h134 => ?_) (fun h134 => ?_)
          · -- pc 134 taken
            refine Go.iconst d5_141 (v := 0) rfl ?_
            refine Go.istore d5_142 (ls' := [.val (.ref i), .val (.int 5), .val (.int 6), .val (.int 1), .val (.int 0)]) rfl ?_
            refine Go.iload d5_144 rfl ?_
            exact Go.ireturnZ d5_146 rfl (by decide) (by rw [own_mt_5_6, if_pos h22, if_pos h50, if_pos h78, if_pos h106, if_neg h134]) (HOk.eq rfl)
          · -- pc 134 not taken
            refine Go.iconst d5_137 (v := 1) rfl ?_
            refine Go.goto d5_138 j5_138 ?_
            refine Go.istore d5_142 (ls' := [.val (.ref i), .val (.int 5), .val (.int 6), .val (.int 1), .val (.int 1)]) rfl ?_
            refine Go.iload d5_144 rfl ?_
            exact Go.ireturnZ d5_146 rfl (by decide) (by rw [own_mt_5_6, if_pos h22, if_pos h50, if_pos h78, if_pos h106, if_pos h134]) (HOk.eq rfl)
theorem own_mtv_5_6 (s : List Int32) (s0 s1 s2 s3 s4 s5 : Int32) (hv0 : s[0]? = some s0) (hv1 : s[1]? = some s1) (hv2 : s[2]? = some s2) (hv3 : s[3]? = some s3) (hv4 : s[4]? = some s4) (hv5 : s[5]? = some s5) : own_mt_5_6 s0 s1 s2 s3 s4 s5 = if own_mtE (own_E s) 1 5 = true then 1 else 0 := by
  simp only [own_mt_5_6, own_mtE, own_E, Nat.reduceAdd, hv0, hv1, hv2, hv3, hv4, hv5, Option.some.injEq, Bool.true_and, Bool.and_eq_true, decide_eq_true_eq]
  all_goals ((repeat' split) <;> simp_all)
def own_bd_6 (s0 s1 s2 s3 s4 s5 : Int32) : Int32 := (if (own_mt_5_6 s0 s1 s2 s3 s4 s5) = 0 then (if (own_mt_4_6 s0 s1 s2 s3 s4 s5) = 0 then (if (own_mt_3_6 s0 s1 s2 s3 s4 s5) = 0 then (if (own_mt_2_6 s0 s1 s2 s3 s4 s5) = 0 then (if (own_mt_1_6 s0 s1 s2 s3 s4 s5) = 0 then 0 else 1) else 2) else 3) else 4) else 5)
theorem go_own_bd_6 (K : Ctx) (hw : ∀ d ∈ tables_1, d.before K.2.2.1 K.2.1 = true) (H : Hp) (i : Nat) (vs : List Value) (s0 s1 s2 s3 s4 s5 : Int32) (hH : H[i]? = some (.inr (.int, vs))) (hv0 : vs[0]? = some (.int s0)) (hv1 : vs[1]? = some (.int s1)) (hv2 : vs[2]? = some (.int s2)) (hv3 : vs[3]? = some (.int s3)) (hv4 : vs[4]? = some (.int s4)) (hv5 : vs[5]? = some (.int s5)) : Go K m4 1 16 0 [.val (.ref i), .val (.int 6)] [] H (some (.int (own_bd_6 s0 s1 s2 s3 s4 s5)), some H, 0, 0) := by
  refine Go.iconst d4_0 (v := 5) rfl ?_
  refine Go.iloadN d4_1 rfl ?_
  refine Go.icmpF d4_2 (XT.ii_ge_f (by decide)) ?_
  refine Go.aloadN d4_5 rfl rfl ?_
  refine Go.iconst d4_6 (v := 5) rfl ?_
  refine Go.iloadN d4_7 rfl ?_
  refine Go.callS (M' := m5) d4_8 (hw _ (List.mem_of_getElem? (i := 17) rfl)) (hw _ (List.mem_of_getElem? (i := 18) rfl)) (hw _ (List.mem_of_getElem? (i := 9) rfl)) (hw _ (List.mem_of_getElem? (i := 19) rfl)) mi5 (as := [.ref i, .int 5, .int 6]) rfl rfl (st := []) rfl (ls1 := [.val (.ref i), .val (.int 5), .val (.int 6), .unset, .unset]) rfl (W := 0) rfl (by decide) (by decide) (go_own_mt_5_6 K hw H i vs s0 s1 s2 s3 s4 s5 hH hv0 hv1 hv2 hv3 hv4 hv5) 0 0 (by decide) (by decide) ?_
  show Go _ _ _ _ 11 [.val (.ref i), .val (.int 6)] [.int (own_mt_5_6 s0 s1 s2 s3 s4 s5)] H _
  refine Go.if_eq d4_11 j4_11 (fun h11 => ?_) (fun h11 => ?_)
  · -- pc 11 taken
    refine Go.iconst d4_16 (v := 4) rfl ?_
    refine Go.iloadN d4_17 rfl ?_
    refine Go.icmpF d4_18 (XT.ii_ge_f (by decide)) ?_
    refine Go.aloadN d4_21 rfl rfl ?_
    refine Go.iconst d4_22 (v := 4) rfl ?_
    refine Go.iloadN d4_23 rfl ?_
    refine Go.callS (M' := m5) d4_24 (hw _ (List.mem_of_getElem? (i := 17) rfl)) (hw _ (List.mem_of_getElem? (i := 18) rfl)) (hw _ (List.mem_of_getElem? (i := 9) rfl)) (hw _ (List.mem_of_getElem? (i := 19) rfl)) mi5 (as := [.ref i, .int 4, .int 6]) rfl rfl (st := []) rfl (ls1 := [.val (.ref i), .val (.int 4), .val (.int 6), .unset, .unset]) rfl (W := 0) rfl (by decide) (by decide) (go_own_mt_4_6 K hw H i vs s0 s1 s2 s3 s4 s5 hH hv0 hv1 hv2 hv3 hv4 hv5) 0 0 (by decide) (by decide) ?_
    show Go _ _ _ _ 27 [.val (.ref i), .val (.int 6)] [.int (own_mt_4_6 s0 s1 s2 s3 s4 s5)] H _
    refine Go.if_eq d4_27 j4_27 (fun h27 => ?_) (fun h27 => ?_)
    · -- pc 27 taken
      refine Go.iconst d4_32 (v := 3) rfl ?_
      refine Go.iloadN d4_33 rfl ?_
      refine Go.icmpF d4_34 (XT.ii_ge_f (by decide)) ?_
      refine Go.aloadN d4_37 rfl rfl ?_
      refine Go.iconst d4_38 (v := 3) rfl ?_
      refine Go.iloadN d4_39 rfl ?_
      refine Go.callS (M' := m5) d4_40 (hw _ (List.mem_of_getElem? (i := 17) rfl)) (hw _ (List.mem_of_getElem? (i := 18) rfl)) (hw _ (List.mem_of_getElem? (i := 9) rfl)) (hw _ (List.mem_of_getElem? (i := 19) rfl)) mi5 (as := [.ref i, .int 3, .int 6]) rfl rfl (st := []) rfl (ls1 := [.val (.ref i), .val (.int 3), .val (.int 6), .unset, .unset]) rfl (W := 0) rfl (by decide) (by decide) (go_own_mt_3_6 K hw H i vs s0 s1 s2 s3 s4 s5 hH hv0 hv1 hv2 hv3 hv4 hv5) 0 0 (by decide) (by decide) ?_
      show Go _ _ _ _ 43 [.val (.ref i), .val (.int 6)] [.int (own_mt_3_6 s0 s1 s2 s3 s4 s5)] H _
      refine Go.if_eq d4_43 j4_43 (fun h43 => ?_) (fun h43 => ?_)
      · -- pc 43 taken
        refine Go.iconst d4_48 (v := 2) rfl ?_
        refine Go.iloadN d4_49 rfl ?_
        refine Go.icmpF d4_50 (XT.ii_ge_f (by decide)) ?_
        refine Go.aloadN d4_53 rfl rfl ?_
        refine Go.iconst d4_54 (v := 2) rfl ?_
        refine Go.iloadN d4_55 rfl ?_
        refine Go.callS (M' := m5) d4_56 (hw _ (List.mem_of_getElem? (i := 17) rfl)) (hw _ (List.mem_of_getElem? (i := 18) rfl)) (hw _ (List.mem_of_getElem? (i := 9) rfl)) (hw _ (List.mem_of_getElem? (i := 19) rfl)) mi5 (as := [.ref i, .int 2, .int 6]) rfl rfl (st := []) rfl (ls1 := [.val (.ref i), .val (.int 2), .val (.int 6), .unset, .unset]) rfl (W := 0) rfl (by decide) (by decide) (go_own_mt_2_6 K hw H i vs s0 s1 s2 s3 s4 s5 hH hv0 hv1 hv2 hv3 hv4 hv5) 0 0 (by decide) (by decide) ?_
        show Go _ _ _ _ 59 [.val (.ref i), .val (.int 6)] [.int (own_mt_2_6 s0 s1 s2 s3 s4 s5)] H _
        refine Go.if_eq d4_59 j4_59 (fun h59 => ?_) (fun h59 => ?_)
        · -- pc 59 taken
          refine Go.iconst d4_64 (v := 1) rfl ?_
          refine Go.iloadN d4_65 rfl ?_
          refine Go.icmpF d4_66 (XT.ii_ge_f (by decide)) ?_
          refine Go.aloadN d4_69 rfl rfl ?_
          refine Go.iconst d4_70 (v := 1) rfl ?_
          refine Go.iloadN d4_71 rfl ?_
          refine Go.callS (M' := m5) d4_72 (hw _ (List.mem_of_getElem? (i := 17) rfl)) (hw _ (List.mem_of_getElem? (i := 18) rfl)) (hw _ (List.mem_of_getElem? (i := 9) rfl)) (hw _ (List.mem_of_getElem? (i := 19) rfl)) mi5 (as := [.ref i, .int 1, .int 6]) rfl rfl (st := []) rfl (ls1 := [.val (.ref i), .val (.int 1), .val (.int 6), .unset, .unset]) rfl (W := 0) rfl (by decide) (by decide) (go_own_mt_1_6 K hw H i vs s0 s1 s2 s3 s4 s5 hH hv0 hv1 hv2 hv3 hv4 hv5) 0 0 (by decide) (by decide) ?_
          show Go _ _ _ _ 75 [.val (.ref i), .val (.int 6)] [.int (own_mt_1_6 s0 s1 s2 s3 s4 s5)] H _
          refine Go.if_eq d4_75 j4_75 (fun h75 => ?_) (fun h75 => ?_)
          · -- pc 75 taken
            refine Go.iconst d4_80 (v := 0) rfl ?_
            exact Go.ireturn d4_81 rfl (by rw [own_bd_6, if_pos h11, if_pos h27, if_pos h43, if_pos h59, if_pos h75]) (HOk.eq rfl)
          · -- pc 75 not taken
            refine Go.iconst d4_78 (v := 1) rfl ?_
            exact Go.ireturn d4_79 rfl (by rw [own_bd_6, if_pos h11, if_pos h27, if_pos h43, if_pos h59, if_neg h75]) (HOk.eq rfl)
        · -- pc 59 not taken
          refine Go.iconst d4_62 (v := 2) rfl ?_
          exact Go.ireturn d4_63 rfl (by rw [own_bd_6, if_pos h11, if_pos h27, if_pos h43, if_neg h59]) (HOk.eq rfl)
      · -- pc 43 not taken
        refine Go.iconst d4_46 (v := 3) rfl ?_
        exact Go.ireturn d4_47 rfl (by rw [own_bd_6, if_pos h11, if_pos h27, if_neg h43]) (HOk.eq rfl)
    · -- pc 27 not taken
      refine Go.iconst d4_30 (v := 4) rfl ?_
      exact Go.ireturn d4_31 rfl (by rw [own_bd_6, if_pos h11, if_neg h27]) (HOk.eq rfl)
  · -- pc 11 not taken
    refine Go.iconst d4_14 (v := 5) rfl ?_
    exact Go.ireturn d4_15 rfl (by rw [own_bd_6, if_neg h11]) (HOk.eq rfl)
theorem own_bdv_6 (s : List Int32) (s0 s1 s2 s3 s4 s5 : Int32) (hv0 : s[0]? = some s0) (hv1 : s[1]? = some s1) (hv2 : s[2]? = some s2) (hv3 : s[3]? = some s3) (hv4 : s[4]? = some s4) (hv5 : s[5]? = some s5) : own_bd_6 s0 s1 s2 s3 s4 s5 = Int32.ofNat (own_bdE (own_E s) 6) := by
  simp only [own_bd_6, own_bdE, own_mtv_1_6 s s0 s1 s2 s3 s4 s5 hv0 hv1 hv2 hv3 hv4 hv5, own_mtv_2_6 s s0 s1 s2 s3 s4 s5 hv0 hv1 hv2 hv3 hv4 hv5, own_mtv_3_6 s s0 s1 s2 s3 s4 s5 hv0 hv1 hv2 hv3 hv4 hv5, own_mtv_4_6 s s0 s1 s2 s3 s4 s5 hv0 hv1 hv2 hv3 hv4 hv5, own_mtv_5_6 s s0 s1 s2 s3 s4 s5 hv0 hv1 hv2 hv3 hv4 hv5, Nat.reduceLT, Nat.reduceSub, true_and, false_and, if_false]
  all_goals ((repeat' split) <;> simp_all)
theorem go_en_0 (K : Ctx) (hw : ∀ d ∈ tables_1, d.before K.2.2.1 K.2.1 = true) (H : Hp) (vs : List Value) (s0 : Int32) (hH : H[0]? = some (.inr (.int, vs))) (hv0 : vs[0]? = some (.int s0)) (bs : List Value) (n : Int32) (hR : H[1]? = some (.inr (.int, bs))) (hlt : 0 < n) (hr : bs[0]? = some (.int (own_bd_1 s0))) : Go K m2 2 30 0 [.val (.ref 1), .val (.ref 0), .val (.int 0), .val (.int n)] [] H (some (.int 1), some H, 0, 0) := by
  refine Go.iloadN d2_0 rfl ?_
  refine Go.iloadN d2_1 rfl ?_
  refine Go.icmpT d2_2 j2_2 (XT.ii_lt_t hlt) ?_
  refine Go.aloadN d2_7 rfl rfl ?_
  refine Go.iloadN d2_8 rfl ?_
  refine Go.iaload d2_9 hR (by decide) hr ?_
  refine Go.aloadN d2_10 rfl rfl ?_
  refine Go.iloadN d2_11 rfl ?_
  refine Go.iconst d2_12 (v := 1) rfl ?_
  refine Go.iadd d2_13 ?_
  show Go _ _ _ _ 14 [.val (.ref 1), .val (.ref 0), .val (.int 0), .val (.int n)] [.int 1, .ref 0, .int (own_bd_1 s0)] H _
  refine Go.callS (M' := m4) d2_14 (hw _ (List.mem_of_getElem? (i := 14) rfl)) (hw _ (List.mem_of_getElem? (i := 15) rfl)) (hw _ (List.mem_of_getElem? (i := 9) rfl)) (hw _ (List.mem_of_getElem? (i := 16) rfl)) mi4 (as := [.ref 0, .int 1]) rfl rfl (st := [.int (own_bd_1 s0)]) rfl (ls1 := [.val (.ref 0), .val (.int 1)]) rfl (W := 1) rfl (by decide) (by decide) ((go_own_bd_1 K hw H 0 vs s0 hH hv0).mono (F' := 1) (Lo' := 16) (by decide) (by decide) (Nat.le_refl _) (Nat.le_refl _)) 0 0 (by decide) (by decide) ?_
  show Go _ _ _ _ 17 [.val (.ref 1), .val (.ref 0), .val (.int 0), .val (.int n)] [.int (own_bd_1 s0), .int (own_bd_1 s0)] H _
  refine Go.icmpF d2_17 (XT.ii_ne_f rfl) ?_
  refine Go.iconst d2_20 (v := 1) rfl ?_
  refine Go.goto d2_21 j2_21 ?_
  exact Go.ireturnZ d2_25 rfl (by decide) rfl (HOk.eq rfl)
theorem go_en_1 (K : Ctx) (hw : ∀ d ∈ tables_1, d.before K.2.2.1 K.2.1 = true) (H : Hp) (vs : List Value) (s0 s1 : Int32) (hH : H[0]? = some (.inr (.int, vs))) (hv0 : vs[0]? = some (.int s0)) (hv1 : vs[1]? = some (.int s1)) (bs : List Value) (n : Int32) (hR : H[1]? = some (.inr (.int, bs))) (hlt : 1 < n) (hr : bs[1]? = some (.int (own_bd_2 s0 s1))) : Go K m2 2 30 0 [.val (.ref 1), .val (.ref 0), .val (.int 1), .val (.int n)] [] H (some (.int 1), some H, 0, 0) := by
  refine Go.iloadN d2_0 rfl ?_
  refine Go.iloadN d2_1 rfl ?_
  refine Go.icmpT d2_2 j2_2 (XT.ii_lt_t hlt) ?_
  refine Go.aloadN d2_7 rfl rfl ?_
  refine Go.iloadN d2_8 rfl ?_
  refine Go.iaload d2_9 hR (by decide) hr ?_
  refine Go.aloadN d2_10 rfl rfl ?_
  refine Go.iloadN d2_11 rfl ?_
  refine Go.iconst d2_12 (v := 1) rfl ?_
  refine Go.iadd d2_13 ?_
  show Go _ _ _ _ 14 [.val (.ref 1), .val (.ref 0), .val (.int 1), .val (.int n)] [.int 2, .ref 0, .int (own_bd_2 s0 s1)] H _
  refine Go.callS (M' := m4) d2_14 (hw _ (List.mem_of_getElem? (i := 14) rfl)) (hw _ (List.mem_of_getElem? (i := 15) rfl)) (hw _ (List.mem_of_getElem? (i := 9) rfl)) (hw _ (List.mem_of_getElem? (i := 16) rfl)) mi4 (as := [.ref 0, .int 2]) rfl rfl (st := [.int (own_bd_2 s0 s1)]) rfl (ls1 := [.val (.ref 0), .val (.int 2)]) rfl (W := 1) rfl (by decide) (by decide) ((go_own_bd_2 K hw H 0 vs s0 s1 hH hv0 hv1).mono (F' := 1) (Lo' := 16) (by decide) (by decide) (Nat.le_refl _) (Nat.le_refl _)) 0 0 (by decide) (by decide) ?_
  show Go _ _ _ _ 17 [.val (.ref 1), .val (.ref 0), .val (.int 1), .val (.int n)] [.int (own_bd_2 s0 s1), .int (own_bd_2 s0 s1)] H _
  refine Go.icmpF d2_17 (XT.ii_ne_f rfl) ?_
  refine Go.iconst d2_20 (v := 1) rfl ?_
  refine Go.goto d2_21 j2_21 ?_
  exact Go.ireturnZ d2_25 rfl (by decide) rfl (HOk.eq rfl)
theorem go_en_2 (K : Ctx) (hw : ∀ d ∈ tables_1, d.before K.2.2.1 K.2.1 = true) (H : Hp) (vs : List Value) (s0 s1 s2 : Int32) (hH : H[0]? = some (.inr (.int, vs))) (hv0 : vs[0]? = some (.int s0)) (hv1 : vs[1]? = some (.int s1)) (hv2 : vs[2]? = some (.int s2)) (bs : List Value) (n : Int32) (hR : H[1]? = some (.inr (.int, bs))) (hlt : 2 < n) (hr : bs[2]? = some (.int (own_bd_3 s0 s1 s2))) : Go K m2 2 30 0 [.val (.ref 1), .val (.ref 0), .val (.int 2), .val (.int n)] [] H (some (.int 1), some H, 0, 0) := by
  refine Go.iloadN d2_0 rfl ?_
  refine Go.iloadN d2_1 rfl ?_
  refine Go.icmpT d2_2 j2_2 (XT.ii_lt_t hlt) ?_
  refine Go.aloadN d2_7 rfl rfl ?_
  refine Go.iloadN d2_8 rfl ?_
  refine Go.iaload d2_9 hR (by decide) hr ?_
  refine Go.aloadN d2_10 rfl rfl ?_
  refine Go.iloadN d2_11 rfl ?_
  refine Go.iconst d2_12 (v := 1) rfl ?_
  refine Go.iadd d2_13 ?_
  show Go _ _ _ _ 14 [.val (.ref 1), .val (.ref 0), .val (.int 2), .val (.int n)] [.int 3, .ref 0, .int (own_bd_3 s0 s1 s2)] H _
  refine Go.callS (M' := m4) d2_14 (hw _ (List.mem_of_getElem? (i := 14) rfl)) (hw _ (List.mem_of_getElem? (i := 15) rfl)) (hw _ (List.mem_of_getElem? (i := 9) rfl)) (hw _ (List.mem_of_getElem? (i := 16) rfl)) mi4 (as := [.ref 0, .int 3]) rfl rfl (st := [.int (own_bd_3 s0 s1 s2)]) rfl (ls1 := [.val (.ref 0), .val (.int 3)]) rfl (W := 1) rfl (by decide) (by decide) ((go_own_bd_3 K hw H 0 vs s0 s1 s2 hH hv0 hv1 hv2).mono (F' := 1) (Lo' := 16) (by decide) (by decide) (Nat.le_refl _) (Nat.le_refl _)) 0 0 (by decide) (by decide) ?_
  show Go _ _ _ _ 17 [.val (.ref 1), .val (.ref 0), .val (.int 2), .val (.int n)] [.int (own_bd_3 s0 s1 s2), .int (own_bd_3 s0 s1 s2)] H _
  refine Go.icmpF d2_17 (XT.ii_ne_f rfl) ?_
  refine Go.iconst d2_20 (v := 1) rfl ?_
  refine Go.goto d2_21 j2_21 ?_
  exact Go.ireturnZ d2_25 rfl (by decide) rfl (HOk.eq rfl)
theorem go_en_3 (K : Ctx) (hw : ∀ d ∈ tables_1, d.before K.2.2.1 K.2.1 = true) (H : Hp) (vs : List Value) (s0 s1 s2 s3 : Int32) (hH : H[0]? = some (.inr (.int, vs))) (hv0 : vs[0]? = some (.int s0)) (hv1 : vs[1]? = some (.int s1)) (hv2 : vs[2]? = some (.int s2)) (hv3 : vs[3]? = some (.int s3)) (bs : List Value) (n : Int32) (hR : H[1]? = some (.inr (.int, bs))) (hlt : 3 < n) (hr : bs[3]? = some (.int (own_bd_4 s0 s1 s2 s3))) : Go K m2 2 30 0 [.val (.ref 1), .val (.ref 0), .val (.int 3), .val (.int n)] [] H (some (.int 1), some H, 0, 0) := by
  refine Go.iloadN d2_0 rfl ?_
  refine Go.iloadN d2_1 rfl ?_
  refine Go.icmpT d2_2 j2_2 (XT.ii_lt_t hlt) ?_
  refine Go.aloadN d2_7 rfl rfl ?_
  refine Go.iloadN d2_8 rfl ?_
  refine Go.iaload d2_9 hR (by decide) hr ?_
  refine Go.aloadN d2_10 rfl rfl ?_
  refine Go.iloadN d2_11 rfl ?_
  refine Go.iconst d2_12 (v := 1) rfl ?_
  refine Go.iadd d2_13 ?_
  show Go _ _ _ _ 14 [.val (.ref 1), .val (.ref 0), .val (.int 3), .val (.int n)] [.int 4, .ref 0, .int (own_bd_4 s0 s1 s2 s3)] H _
  refine Go.callS (M' := m4) d2_14 (hw _ (List.mem_of_getElem? (i := 14) rfl)) (hw _ (List.mem_of_getElem? (i := 15) rfl)) (hw _ (List.mem_of_getElem? (i := 9) rfl)) (hw _ (List.mem_of_getElem? (i := 16) rfl)) mi4 (as := [.ref 0, .int 4]) rfl rfl (st := [.int (own_bd_4 s0 s1 s2 s3)]) rfl (ls1 := [.val (.ref 0), .val (.int 4)]) rfl (W := 1) rfl (by decide) (by decide) ((go_own_bd_4 K hw H 0 vs s0 s1 s2 s3 hH hv0 hv1 hv2 hv3).mono (F' := 1) (Lo' := 16) (by decide) (by decide) (Nat.le_refl _) (Nat.le_refl _)) 0 0 (by decide) (by decide) ?_
  show Go _ _ _ _ 17 [.val (.ref 1), .val (.ref 0), .val (.int 3), .val (.int n)] [.int (own_bd_4 s0 s1 s2 s3), .int (own_bd_4 s0 s1 s2 s3)] H _
  refine Go.icmpF d2_17 (XT.ii_ne_f rfl) ?_
  refine Go.iconst d2_20 (v := 1) rfl ?_
  refine Go.goto d2_21 j2_21 ?_
  exact Go.ireturnZ d2_25 rfl (by decide) rfl (HOk.eq rfl)
theorem go_en_4 (K : Ctx) (hw : ∀ d ∈ tables_1, d.before K.2.2.1 K.2.1 = true) (H : Hp) (vs : List Value) (s0 s1 s2 s3 s4 : Int32) (hH : H[0]? = some (.inr (.int, vs))) (hv0 : vs[0]? = some (.int s0)) (hv1 : vs[1]? = some (.int s1)) (hv2 : vs[2]? = some (.int s2)) (hv3 : vs[3]? = some (.int s3)) (hv4 : vs[4]? = some (.int s4)) (bs : List Value) (n : Int32) (hR : H[1]? = some (.inr (.int, bs))) (hlt : 4 < n) (hr : bs[4]? = some (.int (own_bd_5 s0 s1 s2 s3 s4))) : Go K m2 2 30 0 [.val (.ref 1), .val (.ref 0), .val (.int 4), .val (.int n)] [] H (some (.int 1), some H, 0, 0) := by
  refine Go.iloadN d2_0 rfl ?_
  refine Go.iloadN d2_1 rfl ?_
  refine Go.icmpT d2_2 j2_2 (XT.ii_lt_t hlt) ?_
  refine Go.aloadN d2_7 rfl rfl ?_
  refine Go.iloadN d2_8 rfl ?_
  refine Go.iaload d2_9 hR (by decide) hr ?_
  refine Go.aloadN d2_10 rfl rfl ?_
  refine Go.iloadN d2_11 rfl ?_
  refine Go.iconst d2_12 (v := 1) rfl ?_
  refine Go.iadd d2_13 ?_
  show Go _ _ _ _ 14 [.val (.ref 1), .val (.ref 0), .val (.int 4), .val (.int n)] [.int 5, .ref 0, .int (own_bd_5 s0 s1 s2 s3 s4)] H _
  refine Go.callS (M' := m4) d2_14 (hw _ (List.mem_of_getElem? (i := 14) rfl)) (hw _ (List.mem_of_getElem? (i := 15) rfl)) (hw _ (List.mem_of_getElem? (i := 9) rfl)) (hw _ (List.mem_of_getElem? (i := 16) rfl)) mi4 (as := [.ref 0, .int 5]) rfl rfl (st := [.int (own_bd_5 s0 s1 s2 s3 s4)]) rfl (ls1 := [.val (.ref 0), .val (.int 5)]) rfl (W := 1) rfl (by decide) (by decide) ((go_own_bd_5 K hw H 0 vs s0 s1 s2 s3 s4 hH hv0 hv1 hv2 hv3 hv4).mono (F' := 1) (Lo' := 16) (by decide) (by decide) (Nat.le_refl _) (Nat.le_refl _)) 0 0 (by decide) (by decide) ?_
  show Go _ _ _ _ 17 [.val (.ref 1), .val (.ref 0), .val (.int 4), .val (.int n)] [.int (own_bd_5 s0 s1 s2 s3 s4), .int (own_bd_5 s0 s1 s2 s3 s4)] H _
  refine Go.icmpF d2_17 (XT.ii_ne_f rfl) ?_
  refine Go.iconst d2_20 (v := 1) rfl ?_
  refine Go.goto d2_21 j2_21 ?_
  exact Go.ireturnZ d2_25 rfl (by decide) rfl (HOk.eq rfl)
theorem go_en_5 (K : Ctx) (hw : ∀ d ∈ tables_1, d.before K.2.2.1 K.2.1 = true) (H : Hp) (vs : List Value) (s0 s1 s2 s3 s4 s5 : Int32) (hH : H[0]? = some (.inr (.int, vs))) (hv0 : vs[0]? = some (.int s0)) (hv1 : vs[1]? = some (.int s1)) (hv2 : vs[2]? = some (.int s2)) (hv3 : vs[3]? = some (.int s3)) (hv4 : vs[4]? = some (.int s4)) (hv5 : vs[5]? = some (.int s5)) (bs : List Value) (n : Int32) (hR : H[1]? = some (.inr (.int, bs))) (hlt : 5 < n) (hr : bs[5]? = some (.int (own_bd_6 s0 s1 s2 s3 s4 s5))) : Go K m2 2 30 0 [.val (.ref 1), .val (.ref 0), .val (.int 5), .val (.int n)] [] H (some (.int 1), some H, 0, 0) := by
  refine Go.iloadN d2_0 rfl ?_
  refine Go.iloadN d2_1 rfl ?_
  refine Go.icmpT d2_2 j2_2 (XT.ii_lt_t hlt) ?_
  refine Go.aloadN d2_7 rfl rfl ?_
  refine Go.iloadN d2_8 rfl ?_
  refine Go.iaload d2_9 hR (by decide) hr ?_
  refine Go.aloadN d2_10 rfl rfl ?_
  refine Go.iloadN d2_11 rfl ?_
  refine Go.iconst d2_12 (v := 1) rfl ?_
  refine Go.iadd d2_13 ?_
  show Go _ _ _ _ 14 [.val (.ref 1), .val (.ref 0), .val (.int 5), .val (.int n)] [.int 6, .ref 0, .int (own_bd_6 s0 s1 s2 s3 s4 s5)] H _
  refine Go.callS (M' := m4) d2_14 (hw _ (List.mem_of_getElem? (i := 14) rfl)) (hw _ (List.mem_of_getElem? (i := 15) rfl)) (hw _ (List.mem_of_getElem? (i := 9) rfl)) (hw _ (List.mem_of_getElem? (i := 16) rfl)) mi4 (as := [.ref 0, .int 6]) rfl rfl (st := [.int (own_bd_6 s0 s1 s2 s3 s4 s5)]) rfl (ls1 := [.val (.ref 0), .val (.int 6)]) rfl (W := 1) rfl (by decide) (by decide) ((go_own_bd_6 K hw H 0 vs s0 s1 s2 s3 s4 s5 hH hv0 hv1 hv2 hv3 hv4 hv5).mono (F' := 1) (Lo' := 16) (by decide) (by decide) (Nat.le_refl _) (Nat.le_refl _)) 0 0 (by decide) (by decide) ?_
  show Go _ _ _ _ 17 [.val (.ref 1), .val (.ref 0), .val (.int 5), .val (.int n)] [.int (own_bd_6 s0 s1 s2 s3 s4 s5), .int (own_bd_6 s0 s1 s2 s3 s4 s5)] H _
  refine Go.icmpF d2_17 (XT.ii_ne_f rfl) ?_
  refine Go.iconst d2_20 (v := 1) rfl ?_
  refine Go.goto d2_21 j2_21 ?_
  exact Go.ireturnZ d2_25 rfl (by decide) rfl (HOk.eq rfl)
theorem go_en_N (K : Ctx) (hw : ∀ d ∈ tables_1, d.before K.2.2.1 K.2.1 = true) (H : Hp) (i n : Int32) (hge : ¬ i < n) : Go K m2 2 30 0 [.val (.ref 1), .val (.ref 0), .val (.int i), .val (.int n)] [] H (some (.int 1), some H, 0, 0) := by
  refine Go.iloadN d2_0 rfl ?_
  refine Go.iloadN d2_1 rfl ?_
  refine Go.icmpF d2_2 (XT.ii_lt_f hge) ?_
  refine Go.iconst d2_5 (v := 1) rfl ?_
  exact Go.ireturnZ d2_6 rfl (by decide) rfl (HOk.eq rfl)
theorem own_outlen (E : Nat → Nat → Bool) : ∀ k i l (b : List Nat), (own_out E k i l b).length = b.length := by
  intro k
  induction k with
  | zero => intro i l b; rfl
  | succ k ih => intro i l b; rw [own_out, ih, List.length_set]
theorem own_klen (s : List Int32) {n : Nat} {z : Int32} (h : Int32.ofNat n = z) : (own_bv (own_kmp (own_E s) n)).length.toInt32 = z := by
  rw [← h]
  exact congrArg Nat.toInt32 (by simp [own_bv, own_kmp, own_outlen])
theorem own_hr {b : List Nat} {i m : Nat} {v : Int32} (h : b[i]? = some m) (e : v = Int32.ofNat m) : (own_bv b)[i]? = some (.int v) := by rw [e]; exact own_bget h
theorem own_i7 (x : Int32) : ((x &&& 2147483647) % 7) = 0 ∨ ((x &&& 2147483647) % 7) = 1 ∨ ((x &&& 2147483647) % 7) = 2 ∨ ((x &&& 2147483647) % 7) = 3 ∨ ((x &&& 2147483647) % 7) = 4 ∨ ((x &&& 2147483647) % 7) = 5 ∨ ((x &&& 2147483647) % 7) = 6 := by
  have h0 := Jvm.Kit.i32_mask x 2147483647 (k := 31) (by decide) (by decide)
  have h := Jvm.Kit.i32_rem_nonneg (x := x &&& 2147483647) (y := 7) (by omega)
  have e3 : (7 : Int32).toInt = 7 := by decide
  rw [e3] at h
  generalize (x &&& 2147483647) % 7 = y at *
  have : y.toInt = 0 ∨ y.toInt = 1 ∨ y.toInt = 2 ∨ y.toInt = 3 ∨ y.toInt = 4 ∨ y.toInt = 5 ∨ y.toInt = 6 := by omega
  rcases this with q | q | q | q | q | q | q
  · exact Or.inl (Int32.toInt_inj.mp q)
  · exact Or.inr (Or.inl (Int32.toInt_inj.mp q))
  · exact Or.inr (Or.inr (Or.inl (Int32.toInt_inj.mp q)))
  · exact Or.inr (Or.inr (Or.inr (Or.inl (Int32.toInt_inj.mp q))))
  · exact Or.inr (Or.inr (Or.inr (Or.inr (Or.inl (Int32.toInt_inj.mp q)))))
  · exact Or.inr (Or.inr (Or.inr (Or.inr (Or.inr (Or.inl (Int32.toInt_inj.mp q))))))
  · exact Or.inr (Or.inr (Or.inr (Or.inr (Or.inr (Or.inr (Int32.toInt_inj.mp q))))))
theorem go_of0 (K : Ctx) (hw : ∀ d ∈ tables_1, d.before K.2.2.1 K.2.1 = true)  : Go K m1 0 0 0 [.val (.ref 0), .unset, .unset, .unset] [] [.inr (.int, [])] (some (.ref 1), some [.inr (.int, []), .inr (.int, [])], 1, 0) := by
  refine Go.aloadN d1_0 rfl rfl ?_
  refine Go.arraylength d1_1 rfl (z := 0) rfl ?_
  refine Go.newarray 0 d1_2 (hw _ (List.mem_of_getElem? (i := 2) rfl)) (t := .int) rfl (by decide) (by decide) (by decide) (vs := []) rfl (i := 1) rfl 0 0 (by decide) (by decide) ?_
  show Go _ _ _ _ 4 [.val (.ref 0), .unset, .unset, .unset] [.ref 1] [.inr (.int, []), .inr (.int, [])] _
  refine Go.astoreN d1_4 (ls' := [.val (.ref 0), .val (.ref 1), .unset, .unset]) rfl rfl ?_
  refine Go.iconst d1_5 (v := 0) rfl ?_
  refine Go.istoreN d1_6 (ls' := [.val (.ref 0), .val (.ref 1), .val (.int 0), .unset]) rfl ?_
  refine Go.iconst d1_7 (v := 1) rfl ?_
  refine Go.istoreN d1_8 (ls' := [.val (.ref 0), .val (.ref 1), .val (.int 0), .val (.int 1)]) rfl ?_
  refine Go.iloadN d1_9 rfl ?_
  refine Go.aloadN d1_10 rfl rfl ?_
  refine Go.arraylength d1_11 rfl (z := 0) rfl ?_
  refine Go.icmpT d1_12 j1_12 (XT.ii_ge_t (by decide)) ?_
  refine Go.aloadN d1_59 rfl rfl ?_
  exact Go.areturn d1_60 rfl rfl rfl rfl (HOk.eq rfl)
theorem go_t159_0 (K : Ctx) (hw : ∀ d ∈ tables_1, d.before K.2.2.1 K.2.1 = true) (x0 x1 x2 x3 x4 a c d : Int32) : Go K m0 6 144 159 [.val (.int x0), .val (.int x1), .val (.int x2), .val (.int x3), .val (.int x4), .val (.int 0), .val (.int a), .val (.int c), .val (.int d), .val (.ref 0), .unset, .unset] [] [.inr (.int, [])] (some (.int 1), none, 15, 128) := by
  refine Go.aload d0_159 rfl rfl ?_
  refine Go.callS (M' := m1) d0_161 (hw _ (List.mem_of_getElem? (i := 3) rfl)) (hw _ (List.mem_of_getElem? (i := 4) rfl)) (hw _ (List.mem_of_getElem? (i := 5) rfl)) (hw _ (List.mem_of_getElem? (i := 6) rfl)) mi1 (as := [.ref 0]) rfl rfl (st := []) rfl (ls1 := [.val (.ref 0), .unset, .unset, .unset]) rfl (W := 0) rfl (by decide) (by decide) (go_of0 K hw) 14 128 (by decide) (by decide) ?_
  show Go _ _ _ _ 164 [.val (.int x0), .val (.int x1), .val (.int x2), .val (.int x3), .val (.int x4), .val (.int 0), .val (.int a), .val (.int c), .val (.int d), .val (.ref 0), .unset, .unset] [.ref 1] [.inr (.int, []), .inr (.int, [])] _
  refine Go.astore d0_164 (ls' := [.val (.int x0), .val (.int x1), .val (.int x2), .val (.int x3), .val (.int x4), .val (.int 0), .val (.int a), .val (.int c), .val (.int d), .val (.ref 0), .val (.ref 1), .unset]) rfl rfl ?_
  refine Go.aload d0_166 rfl rfl ?_
  refine Go.ifnullF d0_168 ?_
  refine Go.aload d0_171 rfl rfl ?_
  refine Go.aload d0_173 rfl rfl ?_
  refine Go.acmpF d0_175 rfl rfl (by decide) ?_
  refine Go.aload d0_178 rfl rfl ?_
  refine Go.arraylength d0_180 rfl (z := 0) rfl ?_
  refine Go.iload d0_181 rfl ?_
  refine Go.icmpT d0_183 j0_183 (XT.ii_eq_t (by decide)) ?_
  refine Go.aload d0_188 rfl rfl ?_
  refine Go.aload d0_190 rfl rfl ?_
  refine Go.iconst d0_192 (v := 0) rfl ?_
  refine Go.iload d0_193 rfl ?_
  refine Go.callS (M' := m2) d0_195 (hw _ (List.mem_of_getElem? (i := 7) rfl)) (hw _ (List.mem_of_getElem? (i := 8) rfl)) (hw _ (List.mem_of_getElem? (i := 9) rfl)) (hw _ (List.mem_of_getElem? (i := 10) rfl)) mi2 (as := [.ref 1, .ref 0, .int 0, .int 0]) rfl rfl (st := []) rfl (ls1 := [.val (.ref 1), .val (.ref 0), .val (.int 0), .val (.int 0)]) rfl (W := 0) rfl (by decide) (by decide) (go_en_N K hw _ 0 0 (by decide)) 14 128 (by decide) (by decide) ?_
  show Go _ _ _ _ 198 [.val (.int x0), .val (.int x1), .val (.int x2), .val (.int x3), .val (.int x4), .val (.int 0), .val (.int a), .val (.int c), .val (.int d), .val (.ref 0), .val (.ref 1), .unset] [.int 1] [.inr (.int, []), .inr (.int, [])] _
  refine Go.istore d0_198 (ls' := [.val (.int x0), .val (.int x1), .val (.int x2), .val (.int x3), .val (.int x4), .val (.int 0), .val (.int a), .val (.int c), .val (.int d), .val (.ref 0), .val (.ref 1), .val (.int 1)]) rfl ?_
  refine Go.iload d0_200 rfl ?_
  refine Go.ifF d0_202 (XT.i0_eq_f (by decide)) ?_
  refine Go.aload d0_205 rfl rfl ?_
  refine Go.aload d0_207 rfl rfl ?_
  refine Go.iconst d0_209 (v := 1) rfl ?_
  refine Go.iload d0_210 rfl ?_
  refine Go.callS (M' := m2) d0_212 (hw _ (List.mem_of_getElem? (i := 7) rfl)) (hw _ (List.mem_of_getElem? (i := 8) rfl)) (hw _ (List.mem_of_getElem? (i := 9) rfl)) (hw _ (List.mem_of_getElem? (i := 10) rfl)) mi2 (as := [.ref 1, .ref 0, .int 1, .int 0]) rfl rfl (st := []) rfl (ls1 := [.val (.ref 1), .val (.ref 0), .val (.int 1), .val (.int 0)]) rfl (W := 0) rfl (by decide) (by decide) (go_en_N K hw _ 1 0 (by decide)) 14 128 (by decide) (by decide) ?_
  show Go _ _ _ _ 215 [.val (.int x0), .val (.int x1), .val (.int x2), .val (.int x3), .val (.int x4), .val (.int 0), .val (.int a), .val (.int c), .val (.int d), .val (.ref 0), .val (.ref 1), .val (.int 1)] [.int 1] [.inr (.int, []), .inr (.int, [])] _
  refine Go.ifF d0_215 (XT.i0_eq_f (by decide)) ?_
  refine Go.iconst d0_218 (v := 1) rfl ?_
  refine Go.goto d0_219 j0_219 ?_
  refine Go.istore d0_223 (ls' := [.val (.int x0), .val (.int x1), .val (.int x2), .val (.int x3), .val (.int x4), .val (.int 0), .val (.int a), .val (.int c), .val (.int d), .val (.ref 0), .val (.ref 1), .val (.int 1)]) rfl ?_
  refine Go.iload d0_225 rfl ?_
  refine Go.ifF d0_227 (XT.i0_eq_f (by decide)) ?_
  refine Go.aload d0_230 rfl rfl ?_
  refine Go.aload d0_232 rfl rfl ?_
  refine Go.iconst d0_234 (v := 2) rfl ?_
  refine Go.iload d0_235 rfl ?_
  refine Go.callS (M' := m2) d0_237 (hw _ (List.mem_of_getElem? (i := 7) rfl)) (hw _ (List.mem_of_getElem? (i := 8) rfl)) (hw _ (List.mem_of_getElem? (i := 9) rfl)) (hw _ (List.mem_of_getElem? (i := 10) rfl)) mi2 (as := [.ref 1, .ref 0, .int 2, .int 0]) rfl rfl (st := []) rfl (ls1 := [.val (.ref 1), .val (.ref 0), .val (.int 2), .val (.int 0)]) rfl (W := 0) rfl (by decide) (by decide) (go_en_N K hw _ 2 0 (by decide)) 14 128 (by decide) (by decide) ?_
  show Go _ _ _ _ 240 [.val (.int x0), .val (.int x1), .val (.int x2), .val (.int x3), .val (.int x4), .val (.int 0), .val (.int a), .val (.int c), .val (.int d), .val (.ref 0), .val (.ref 1), .val (.int 1)] [.int 1] [.inr (.int, []), .inr (.int, [])] _
  refine Go.ifF d0_240 (XT.i0_eq_f (by decide)) ?_
  refine Go.iconst d0_243 (v := 1) rfl ?_
  refine Go.goto d0_244 j0_244 ?_
  refine Go.istore d0_248 (ls' := [.val (.int x0), .val (.int x1), .val (.int x2), .val (.int x3), .val (.int x4), .val (.int 0), .val (.int a), .val (.int c), .val (.int d), .val (.ref 0), .val (.ref 1), .val (.int 1)]) rfl ?_
  refine Go.iload d0_250 rfl ?_
  refine Go.ifF d0_252 (XT.i0_eq_f (by decide)) ?_
  refine Go.aload d0_255 rfl rfl ?_
  refine Go.aload d0_257 rfl rfl ?_
  refine Go.iconst d0_259 (v := 3) rfl ?_
  refine Go.iload d0_260 rfl ?_
  refine Go.callS (M' := m2) d0_262 (hw _ (List.mem_of_getElem? (i := 7) rfl)) (hw _ (List.mem_of_getElem? (i := 8) rfl)) (hw _ (List.mem_of_getElem? (i := 9) rfl)) (hw _ (List.mem_of_getElem? (i := 10) rfl)) mi2 (as := [.ref 1, .ref 0, .int 3, .int 0]) rfl rfl (st := []) rfl (ls1 := [.val (.ref 1), .val (.ref 0), .val (.int 3), .val (.int 0)]) rfl (W := 0) rfl (by decide) (by decide) (go_en_N K hw _ 3 0 (by decide)) 14 128 (by decide) (by decide) ?_
  show Go _ _ _ _ 265 [.val (.int x0), .val (.int x1), .val (.int x2), .val (.int x3), .val (.int x4), .val (.int 0), .val (.int a), .val (.int c), .val (.int d), .val (.ref 0), .val (.ref 1), .val (.int 1)] [.int 1] [.inr (.int, []), .inr (.int, [])] _
  refine Go.ifF d0_265 (XT.i0_eq_f (by decide)) ?_
  refine Go.iconst d0_268 (v := 1) rfl ?_
  refine Go.goto d0_269 j0_269 ?_
  refine Go.istore d0_273 (ls' := [.val (.int x0), .val (.int x1), .val (.int x2), .val (.int x3), .val (.int x4), .val (.int 0), .val (.int a), .val (.int c), .val (.int d), .val (.ref 0), .val (.ref 1), .val (.int 1)]) rfl ?_
  refine Go.iload d0_275 rfl ?_
  refine Go.ifF d0_277 (XT.i0_eq_f (by decide)) ?_
  refine Go.aload d0_280 rfl rfl ?_
  refine Go.aload d0_282 rfl rfl ?_
  refine Go.iconst d0_284 (v := 4) rfl ?_
  refine Go.iload d0_285 rfl ?_
  refine Go.callS (M' := m2) d0_287 (hw _ (List.mem_of_getElem? (i := 7) rfl)) (hw _ (List.mem_of_getElem? (i := 8) rfl)) (hw _ (List.mem_of_getElem? (i := 9) rfl)) (hw _ (List.mem_of_getElem? (i := 10) rfl)) mi2 (as := [.ref 1, .ref 0, .int 4, .int 0]) rfl rfl (st := []) rfl (ls1 := [.val (.ref 1), .val (.ref 0), .val (.int 4), .val (.int 0)]) rfl (W := 0) rfl (by decide) (by decide) (go_en_N K hw _ 4 0 (by decide)) 14 128 (by decide) (by decide) ?_
  show Go _ _ _ _ 290 [.val (.int x0), .val (.int x1), .val (.int x2), .val (.int x3), .val (.int x4), .val (.int 0), .val (.int a), .val (.int c), .val (.int d), .val (.ref 0), .val (.ref 1), .val (.int 1)] [.int 1] [.inr (.int, []), .inr (.int, [])] _
  refine Go.ifF d0_290 (XT.i0_eq_f (by decide)) ?_
  refine Go.iconst d0_293 (v := 1) rfl ?_
  refine Go.goto d0_294 j0_294 ?_
  refine Go.istore d0_298 (ls' := [.val (.int x0), .val (.int x1), .val (.int x2), .val (.int x3), .val (.int x4), .val (.int 0), .val (.int a), .val (.int c), .val (.int d), .val (.ref 0), .val (.ref 1), .val (.int 1)]) rfl ?_
  refine Go.iload d0_300 rfl ?_
  refine Go.ifF d0_302 (XT.i0_eq_f (by decide)) ?_
  refine Go.aload d0_305 rfl rfl ?_
  refine Go.aload d0_307 rfl rfl ?_
  refine Go.iconst d0_309 (v := 5) rfl ?_
  refine Go.iload d0_310 rfl ?_
  refine Go.callS (M' := m2) d0_312 (hw _ (List.mem_of_getElem? (i := 7) rfl)) (hw _ (List.mem_of_getElem? (i := 8) rfl)) (hw _ (List.mem_of_getElem? (i := 9) rfl)) (hw _ (List.mem_of_getElem? (i := 10) rfl)) mi2 (as := [.ref 1, .ref 0, .int 5, .int 0]) rfl rfl (st := []) rfl (ls1 := [.val (.ref 1), .val (.ref 0), .val (.int 5), .val (.int 0)]) rfl (W := 0) rfl (by decide) (by decide) (go_en_N K hw _ 5 0 (by decide)) 14 128 (by decide) (by decide) ?_
  show Go _ _ _ _ 315 [.val (.int x0), .val (.int x1), .val (.int x2), .val (.int x3), .val (.int x4), .val (.int 0), .val (.int a), .val (.int c), .val (.int d), .val (.ref 0), .val (.ref 1), .val (.int 1)] [.int 1] [.inr (.int, []), .inr (.int, [])] _
  refine Go.ifF d0_315 (XT.i0_eq_f (by decide)) ?_
  refine Go.iconst d0_318 (v := 1) rfl ?_
  refine Go.goto d0_319 j0_319 ?_
  refine Go.istore d0_323 (ls' := [.val (.int x0), .val (.int x1), .val (.int x2), .val (.int x3), .val (.int x4), .val (.int 0), .val (.int a), .val (.int c), .val (.int d), .val (.ref 0), .val (.ref 1), .val (.int 1)]) rfl ?_
  refine Go.iload d0_325 rfl ?_
  exact Go.ireturnZ d0_327 rfl (by decide) rfl HOk.any
theorem go_of1 (K : Ctx) (hw : ∀ d ∈ tables_1, d.before K.2.2.1 K.2.1 = true) (s0 : Int32) : Go K m1 0 0 0 [.val (.ref 0), .unset, .unset, .unset] [] [.inr (.int, [.int s0])] (some (.ref 1), some [.inr (.int, own_sv [s0]), .inr (.int, (own_bv (own_kmp (own_E [s0]) 1)))], 1, 1) := by
  refine Go.aloadN d1_0 rfl rfl ?_
  refine Go.arraylength d1_1 rfl (z := 1) rfl ?_
  refine Go.newarray 1 d1_2 (hw _ (List.mem_of_getElem? (i := 2) rfl)) (t := .int) rfl (by decide) (by decide) (by decide) (vs := [.int 0]) rfl (i := 1) rfl 0 0 (by decide) (by decide) ?_
  show Go _ _ _ _ 4 [.val (.ref 0), .unset, .unset, .unset] [.ref 1] [.inr (.int, [.int s0]), .inr (.int, [.int 0])] _
  refine Go.astoreN d1_4 (ls' := [.val (.ref 0), .val (.ref 1), .unset, .unset]) rfl rfl ?_
  refine Go.iconst d1_5 (v := 0) rfl ?_
  refine Go.istoreN d1_6 (ls' := [.val (.ref 0), .val (.ref 1), .val (.int 0), .unset]) rfl ?_
  refine Go.iconst d1_7 (v := 1) rfl ?_
  refine Go.istoreN d1_8 (ls' := [.val (.ref 0), .val (.ref 1), .val (.int 0), .val (.int 1)]) rfl ?_
  have g := go_outer K hw [s0] (by simp) 0 1 0 (List.replicate 1 0) (by simp) (by omega) (by simp) (own_bok0 _)
  exact g
theorem go_t159_1 (K : Ctx) (hw : ∀ d ∈ tables_1, d.before K.2.2.1 K.2.1 = true) (x0 x1 x2 x3 x4 a c d s0 : Int32) : Go K m0 6 144 159 [.val (.int x0), .val (.int x1), .val (.int x2), .val (.int x3), .val (.int x4), .val (.int 1), .val (.int a), .val (.int c), .val (.int d), .val (.ref 0), .unset, .unset] [] [.inr (.int, [.int s0])] (some (.int 1), none, 15, 127) := by
  refine Go.aload d0_159 rfl rfl ?_
  refine Go.callS (M' := m1) d0_161 (hw _ (List.mem_of_getElem? (i := 3) rfl)) (hw _ (List.mem_of_getElem? (i := 4) rfl)) (hw _ (List.mem_of_getElem? (i := 5) rfl)) (hw _ (List.mem_of_getElem? (i := 6) rfl)) mi1 (as := [.ref 0]) rfl rfl (st := []) rfl (ls1 := [.val (.ref 0), .unset, .unset, .unset]) rfl (W := 0) rfl (by decide) (by decide) (go_of1 K hw s0) 14 126 (by decide) (by decide) ?_
  show Go _ _ _ _ 164 [.val (.int x0), .val (.int x1), .val (.int x2), .val (.int x3), .val (.int x4), .val (.int 1), .val (.int a), .val (.int c), .val (.int d), .val (.ref 0), .unset, .unset] [.ref 1] [.inr (.int, [.int s0]), .inr (.int, (own_bv (own_kmp (own_E [s0]) 1)))] _
  refine Go.astore d0_164 (ls' := [.val (.int x0), .val (.int x1), .val (.int x2), .val (.int x3), .val (.int x4), .val (.int 1), .val (.int a), .val (.int c), .val (.int d), .val (.ref 0), .val (.ref 1), .unset]) rfl rfl ?_
  refine Go.aload d0_166 rfl rfl ?_
  refine Go.ifnullF d0_168 ?_
  refine Go.aload d0_171 rfl rfl ?_
  refine Go.aload d0_173 rfl rfl ?_
  refine Go.acmpF d0_175 rfl rfl (by decide) ?_
  refine Go.aload d0_178 rfl rfl ?_
  refine Go.arraylength d0_180 rfl (z := 1) (own_klen [s0] (by simp)) ?_
  refine Go.iload d0_181 rfl ?_
  refine Go.icmpT d0_183 j0_183 (XT.ii_eq_t (by decide)) ?_
  refine Go.aload d0_188 rfl rfl ?_
  refine Go.aload d0_190 rfl rfl ?_
  refine Go.iconst d0_192 (v := 0) rfl ?_
  refine Go.iload d0_193 rfl ?_
  refine Go.callS (M' := m2) d0_195 (hw _ (List.mem_of_getElem? (i := 7) rfl)) (hw _ (List.mem_of_getElem? (i := 8) rfl)) (hw _ (List.mem_of_getElem? (i := 9) rfl)) (hw _ (List.mem_of_getElem? (i := 10) rfl)) mi2 (as := [.ref 1, .ref 0, .int 0, .int 1]) rfl rfl (st := []) rfl (ls1 := [.val (.ref 1), .val (.ref 0), .val (.int 0), .val (.int 1)]) rfl (W := 0) rfl (by decide) (by decide) ((go_en_0 K hw _ _ s0 rfl rfl _ 1 rfl (by decide) (own_hr (own_fin1 s0 0 (by decide)) (own_bdv_1 [s0] s0 rfl))).mono (F' := 2) (Lo' := 30) (by decide) (by decide) (Nat.le_refl _) (Nat.le_refl _)) 14 126 (by decide) (by decide) ?_
  show Go _ _ _ _ 198 [.val (.int x0), .val (.int x1), .val (.int x2), .val (.int x3), .val (.int x4), .val (.int 1), .val (.int a), .val (.int c), .val (.int d), .val (.ref 0), .val (.ref 1), .unset] [.int 1] [.inr (.int, [.int s0]), .inr (.int, (own_bv (own_kmp (own_E [s0]) 1)))] _
  refine Go.istore d0_198 (ls' := [.val (.int x0), .val (.int x1), .val (.int x2), .val (.int x3), .val (.int x4), .val (.int 1), .val (.int a), .val (.int c), .val (.int d), .val (.ref 0), .val (.ref 1), .val (.int 1)]) rfl ?_
  refine Go.iload d0_200 rfl ?_
  refine Go.ifF d0_202 (XT.i0_eq_f (by decide)) ?_
  refine Go.aload d0_205 rfl rfl ?_
  refine Go.aload d0_207 rfl rfl ?_
  refine Go.iconst d0_209 (v := 1) rfl ?_
  refine Go.iload d0_210 rfl ?_
  refine Go.callS (M' := m2) d0_212 (hw _ (List.mem_of_getElem? (i := 7) rfl)) (hw _ (List.mem_of_getElem? (i := 8) rfl)) (hw _ (List.mem_of_getElem? (i := 9) rfl)) (hw _ (List.mem_of_getElem? (i := 10) rfl)) mi2 (as := [.ref 1, .ref 0, .int 1, .int 1]) rfl rfl (st := []) rfl (ls1 := [.val (.ref 1), .val (.ref 0), .val (.int 1), .val (.int 1)]) rfl (W := 0) rfl (by decide) (by decide) (go_en_N K hw _ 1 1 (by decide)) 14 126 (by decide) (by decide) ?_
  show Go _ _ _ _ 215 [.val (.int x0), .val (.int x1), .val (.int x2), .val (.int x3), .val (.int x4), .val (.int 1), .val (.int a), .val (.int c), .val (.int d), .val (.ref 0), .val (.ref 1), .val (.int 1)] [.int 1] [.inr (.int, [.int s0]), .inr (.int, (own_bv (own_kmp (own_E [s0]) 1)))] _
  refine Go.ifF d0_215 (XT.i0_eq_f (by decide)) ?_
  refine Go.iconst d0_218 (v := 1) rfl ?_
  refine Go.goto d0_219 j0_219 ?_
  refine Go.istore d0_223 (ls' := [.val (.int x0), .val (.int x1), .val (.int x2), .val (.int x3), .val (.int x4), .val (.int 1), .val (.int a), .val (.int c), .val (.int d), .val (.ref 0), .val (.ref 1), .val (.int 1)]) rfl ?_
  refine Go.iload d0_225 rfl ?_
  refine Go.ifF d0_227 (XT.i0_eq_f (by decide)) ?_
  refine Go.aload d0_230 rfl rfl ?_
  refine Go.aload d0_232 rfl rfl ?_
  refine Go.iconst d0_234 (v := 2) rfl ?_
  refine Go.iload d0_235 rfl ?_
  refine Go.callS (M' := m2) d0_237 (hw _ (List.mem_of_getElem? (i := 7) rfl)) (hw _ (List.mem_of_getElem? (i := 8) rfl)) (hw _ (List.mem_of_getElem? (i := 9) rfl)) (hw _ (List.mem_of_getElem? (i := 10) rfl)) mi2 (as := [.ref 1, .ref 0, .int 2, .int 1]) rfl rfl (st := []) rfl (ls1 := [.val (.ref 1), .val (.ref 0), .val (.int 2), .val (.int 1)]) rfl (W := 0) rfl (by decide) (by decide) (go_en_N K hw _ 2 1 (by decide)) 14 126 (by decide) (by decide) ?_
  show Go _ _ _ _ 240 [.val (.int x0), .val (.int x1), .val (.int x2), .val (.int x3), .val (.int x4), .val (.int 1), .val (.int a), .val (.int c), .val (.int d), .val (.ref 0), .val (.ref 1), .val (.int 1)] [.int 1] [.inr (.int, [.int s0]), .inr (.int, (own_bv (own_kmp (own_E [s0]) 1)))] _
  refine Go.ifF d0_240 (XT.i0_eq_f (by decide)) ?_
  refine Go.iconst d0_243 (v := 1) rfl ?_
  refine Go.goto d0_244 j0_244 ?_
  refine Go.istore d0_248 (ls' := [.val (.int x0), .val (.int x1), .val (.int x2), .val (.int x3), .val (.int x4), .val (.int 1), .val (.int a), .val (.int c), .val (.int d), .val (.ref 0), .val (.ref 1), .val (.int 1)]) rfl ?_
  refine Go.iload d0_250 rfl ?_
  refine Go.ifF d0_252 (XT.i0_eq_f (by decide)) ?_
  refine Go.aload d0_255 rfl rfl ?_
  refine Go.aload d0_257 rfl rfl ?_
  refine Go.iconst d0_259 (v := 3) rfl ?_
  refine Go.iload d0_260 rfl ?_
  refine Go.callS (M' := m2) d0_262 (hw _ (List.mem_of_getElem? (i := 7) rfl)) (hw _ (List.mem_of_getElem? (i := 8) rfl)) (hw _ (List.mem_of_getElem? (i := 9) rfl)) (hw _ (List.mem_of_getElem? (i := 10) rfl)) mi2 (as := [.ref 1, .ref 0, .int 3, .int 1]) rfl rfl (st := []) rfl (ls1 := [.val (.ref 1), .val (.ref 0), .val (.int 3), .val (.int 1)]) rfl (W := 0) rfl (by decide) (by decide) (go_en_N K hw _ 3 1 (by decide)) 14 126 (by decide) (by decide) ?_
  show Go _ _ _ _ 265 [.val (.int x0), .val (.int x1), .val (.int x2), .val (.int x3), .val (.int x4), .val (.int 1), .val (.int a), .val (.int c), .val (.int d), .val (.ref 0), .val (.ref 1), .val (.int 1)] [.int 1] [.inr (.int, [.int s0]), .inr (.int, (own_bv (own_kmp (own_E [s0]) 1)))] _
  refine Go.ifF d0_265 (XT.i0_eq_f (by decide)) ?_
  refine Go.iconst d0_268 (v := 1) rfl ?_
  refine Go.goto d0_269 j0_269 ?_
  refine Go.istore d0_273 (ls' := [.val (.int x0), .val (.int x1), .val (.int x2), .val (.int x3), .val (.int x4), .val (.int 1), .val (.int a), .val (.int c), .val (.int d), .val (.ref 0), .val (.ref 1), .val (.int 1)]) rfl ?_
  refine Go.iload d0_275 rfl ?_
  refine Go.ifF d0_277 (XT.i0_eq_f (by decide)) ?_
  refine Go.aload d0_280 rfl rfl ?_
  refine Go.aload d0_282 rfl rfl ?_
  refine Go.iconst d0_284 (v := 4) rfl ?_
  refine Go.iload d0_285 rfl ?_
  refine Go.callS (M' := m2) d0_287 (hw _ (List.mem_of_getElem? (i := 7) rfl)) (hw _ (List.mem_of_getElem? (i := 8) rfl)) (hw _ (List.mem_of_getElem? (i := 9) rfl)) (hw _ (List.mem_of_getElem? (i := 10) rfl)) mi2 (as := [.ref 1, .ref 0, .int 4, .int 1]) rfl rfl (st := []) rfl (ls1 := [.val (.ref 1), .val (.ref 0), .val (.int 4), .val (.int 1)]) rfl (W := 0) rfl (by decide) (by decide) (go_en_N K hw _ 4 1 (by decide)) 14 126 (by decide) (by decide) ?_
  show Go _ _ _ _ 290 [.val (.int x0), .val (.int x1), .val (.int x2), .val (.int x3), .val (.int x4), .val (.int 1), .val (.int a), .val (.int c), .val (.int d), .val (.ref 0), .val (.ref 1), .val (.int 1)] [.int 1] [.inr (.int, [.int s0]), .inr (.int, (own_bv (own_kmp (own_E [s0]) 1)))] _
  refine Go.ifF d0_290 (XT.i0_eq_f (by decide)) ?_
  refine Go.iconst d0_293 (v := 1) rfl ?_
  refine Go.goto d0_294 j0_294 ?_
  refine Go.istore d0_298 (ls' := [.val (.int x0), .val (.int x1), .val (.int x2), .val (.int x3), .val (.int x4), .val (.int 1), .val (.int a), .val (.int c), .val (.int d), .val (.ref 0), .val (.ref 1), .val (.int 1)]) rfl ?_
  refine Go.iload d0_300 rfl ?_
  refine Go.ifF d0_302 (XT.i0_eq_f (by decide)) ?_
  refine Go.aload d0_305 rfl rfl ?_
  refine Go.aload d0_307 rfl rfl ?_
  refine Go.iconst d0_309 (v := 5) rfl ?_
  refine Go.iload d0_310 rfl ?_
  refine Go.callS (M' := m2) d0_312 (hw _ (List.mem_of_getElem? (i := 7) rfl)) (hw _ (List.mem_of_getElem? (i := 8) rfl)) (hw _ (List.mem_of_getElem? (i := 9) rfl)) (hw _ (List.mem_of_getElem? (i := 10) rfl)) mi2 (as := [.ref 1, .ref 0, .int 5, .int 1]) rfl rfl (st := []) rfl (ls1 := [.val (.ref 1), .val (.ref 0), .val (.int 5), .val (.int 1)]) rfl (W := 0) rfl (by decide) (by decide) (go_en_N K hw _ 5 1 (by decide)) 14 126 (by decide) (by decide) ?_
  show Go _ _ _ _ 315 [.val (.int x0), .val (.int x1), .val (.int x2), .val (.int x3), .val (.int x4), .val (.int 1), .val (.int a), .val (.int c), .val (.int d), .val (.ref 0), .val (.ref 1), .val (.int 1)] [.int 1] [.inr (.int, [.int s0]), .inr (.int, (own_bv (own_kmp (own_E [s0]) 1)))] _
  refine Go.ifF d0_315 (XT.i0_eq_f (by decide)) ?_
  refine Go.iconst d0_318 (v := 1) rfl ?_
  refine Go.goto d0_319 j0_319 ?_
  refine Go.istore d0_323 (ls' := [.val (.int x0), .val (.int x1), .val (.int x2), .val (.int x3), .val (.int x4), .val (.int 1), .val (.int a), .val (.int c), .val (.int d), .val (.ref 0), .val (.ref 1), .val (.int 1)]) rfl ?_
  refine Go.iload d0_325 rfl ?_
  exact Go.ireturnZ d0_327 rfl (by decide) rfl HOk.any
theorem go_of2 (K : Ctx) (hw : ∀ d ∈ tables_1, d.before K.2.2.1 K.2.1 = true) (s0 s1 : Int32) : Go K m1 0 0 0 [.val (.ref 0), .unset, .unset, .unset] [] [.inr (.int, [.int s0, .int s1])] (some (.ref 1), some [.inr (.int, own_sv [s0, s1]), .inr (.int, (own_bv (own_kmp (own_E [s0, s1]) 2)))], 1, 2) := by
  refine Go.aloadN d1_0 rfl rfl ?_
  refine Go.arraylength d1_1 rfl (z := 2) rfl ?_
  refine Go.newarray 2 d1_2 (hw _ (List.mem_of_getElem? (i := 2) rfl)) (t := .int) rfl (by decide) (by decide) (by decide) (vs := [.int 0, .int 0]) rfl (i := 1) rfl 0 0 (by decide) (by decide) ?_
  show Go _ _ _ _ 4 [.val (.ref 0), .unset, .unset, .unset] [.ref 1] [.inr (.int, [.int s0, .int s1]), .inr (.int, [.int 0, .int 0])] _
  refine Go.astoreN d1_4 (ls' := [.val (.ref 0), .val (.ref 1), .unset, .unset]) rfl rfl ?_
  refine Go.iconst d1_5 (v := 0) rfl ?_
  refine Go.istoreN d1_6 (ls' := [.val (.ref 0), .val (.ref 1), .val (.int 0), .unset]) rfl ?_
  refine Go.iconst d1_7 (v := 1) rfl ?_
  refine Go.istoreN d1_8 (ls' := [.val (.ref 0), .val (.ref 1), .val (.int 0), .val (.int 1)]) rfl ?_
  have g := go_outer K hw [s0, s1] (by simp) 1 1 0 (List.replicate 2 0) (by simp) (by omega) (by simp) (own_bok0 _)
  exact g
theorem go_t159_2 (K : Ctx) (hw : ∀ d ∈ tables_1, d.before K.2.2.1 K.2.1 = true) (x0 x1 x2 x3 x4 a c d s0 s1 : Int32) : Go K m0 6 144 159 [.val (.int x0), .val (.int x1), .val (.int x2), .val (.int x3), .val (.int x4), .val (.int 2), .val (.int a), .val (.int c), .val (.int d), .val (.ref 0), .unset, .unset] [] [.inr (.int, [.int s0, .int s1])] (some (.int 1), none, 15, 126) := by
  refine Go.aload d0_159 rfl rfl ?_
  refine Go.callS (M' := m1) d0_161 (hw _ (List.mem_of_getElem? (i := 3) rfl)) (hw _ (List.mem_of_getElem? (i := 4) rfl)) (hw _ (List.mem_of_getElem? (i := 5) rfl)) (hw _ (List.mem_of_getElem? (i := 6) rfl)) mi1 (as := [.ref 0]) rfl rfl (st := []) rfl (ls1 := [.val (.ref 0), .unset, .unset, .unset]) rfl (W := 0) rfl (by decide) (by decide) (go_of2 K hw s0 s1) 14 124 (by decide) (by decide) ?_
  show Go _ _ _ _ 164 [.val (.int x0), .val (.int x1), .val (.int x2), .val (.int x3), .val (.int x4), .val (.int 2), .val (.int a), .val (.int c), .val (.int d), .val (.ref 0), .unset, .unset] [.ref 1] [.inr (.int, [.int s0, .int s1]), .inr (.int, (own_bv (own_kmp (own_E [s0, s1]) 2)))] _
  refine Go.astore d0_164 (ls' := [.val (.int x0), .val (.int x1), .val (.int x2), .val (.int x3), .val (.int x4), .val (.int 2), .val (.int a), .val (.int c), .val (.int d), .val (.ref 0), .val (.ref 1), .unset]) rfl rfl ?_
  refine Go.aload d0_166 rfl rfl ?_
  refine Go.ifnullF d0_168 ?_
  refine Go.aload d0_171 rfl rfl ?_
  refine Go.aload d0_173 rfl rfl ?_
  refine Go.acmpF d0_175 rfl rfl (by decide) ?_
  refine Go.aload d0_178 rfl rfl ?_
  refine Go.arraylength d0_180 rfl (z := 2) (own_klen [s0, s1] (by simp)) ?_
  refine Go.iload d0_181 rfl ?_
  refine Go.icmpT d0_183 j0_183 (XT.ii_eq_t (by decide)) ?_
  refine Go.aload d0_188 rfl rfl ?_
  refine Go.aload d0_190 rfl rfl ?_
  refine Go.iconst d0_192 (v := 0) rfl ?_
  refine Go.iload d0_193 rfl ?_
  refine Go.callS (M' := m2) d0_195 (hw _ (List.mem_of_getElem? (i := 7) rfl)) (hw _ (List.mem_of_getElem? (i := 8) rfl)) (hw _ (List.mem_of_getElem? (i := 9) rfl)) (hw _ (List.mem_of_getElem? (i := 10) rfl)) mi2 (as := [.ref 1, .ref 0, .int 0, .int 2]) rfl rfl (st := []) rfl (ls1 := [.val (.ref 1), .val (.ref 0), .val (.int 0), .val (.int 2)]) rfl (W := 0) rfl (by decide) (by decide) ((go_en_0 K hw _ _ s0 rfl rfl _ 2 rfl (by decide) (own_hr (own_fin2 s0 s1 0 (by decide)) (own_bdv_1 [s0, s1] s0 rfl))).mono (F' := 2) (Lo' := 30) (by decide) (by decide) (Nat.le_refl _) (Nat.le_refl _)) 14 124 (by decide) (by decide) ?_
  show Go _ _ _ _ 198 [.val (.int x0), .val (.int x1), .val (.int x2), .val (.int x3), .val (.int x4), .val (.int 2), .val (.int a), .val (.int c), .val (.int d), .val (.ref 0), .val (.ref 1), .unset] [.int 1] [.inr (.int, [.int s0, .int s1]), .inr (.int, (own_bv (own_kmp (own_E [s0, s1]) 2)))] _
  refine Go.istore d0_198 (ls' := [.val (.int x0), .val (.int x1), .val (.int x2), .val (.int x3), .val (.int x4), .val (.int 2), .val (.int a), .val (.int c), .val (.int d), .val (.ref 0), .val (.ref 1), .val (.int 1)]) rfl ?_
  refine Go.iload d0_200 rfl ?_
  refine Go.ifF d0_202 (XT.i0_eq_f (by decide)) ?_
  refine Go.aload d0_205 rfl rfl ?_
  refine Go.aload d0_207 rfl rfl ?_
  refine Go.iconst d0_209 (v := 1) rfl ?_
  refine Go.iload d0_210 rfl ?_
  refine Go.callS (M' := m2) d0_212 (hw _ (List.mem_of_getElem? (i := 7) rfl)) (hw _ (List.mem_of_getElem? (i := 8) rfl)) (hw _ (List.mem_of_getElem? (i := 9) rfl)) (hw _ (List.mem_of_getElem? (i := 10) rfl)) mi2 (as := [.ref 1, .ref 0, .int 1, .int 2]) rfl rfl (st := []) rfl (ls1 := [.val (.ref 1), .val (.ref 0), .val (.int 1), .val (.int 2)]) rfl (W := 0) rfl (by decide) (by decide) ((go_en_1 K hw _ _ s0 s1 rfl rfl rfl _ 2 rfl (by decide) (own_hr (own_fin2 s0 s1 1 (by decide)) (own_bdv_2 [s0, s1] s0 s1 rfl rfl))).mono (F' := 2) (Lo' := 30) (by decide) (by decide) (Nat.le_refl _) (Nat.le_refl _)) 14 124 (by decide) (by decide) ?_
  show Go _ _ _ _ 215 [.val (.int x0), .val (.int x1), .val (.int x2), .val (.int x3), .val (.int x4), .val (.int 2), .val (.int a), .val (.int c), .val (.int d), .val (.ref 0), .val (.ref 1), .val (.int 1)] [.int 1] [.inr (.int, [.int s0, .int s1]), .inr (.int, (own_bv (own_kmp (own_E [s0, s1]) 2)))] _
  refine Go.ifF d0_215 (XT.i0_eq_f (by decide)) ?_
  refine Go.iconst d0_218 (v := 1) rfl ?_
  refine Go.goto d0_219 j0_219 ?_
  refine Go.istore d0_223 (ls' := [.val (.int x0), .val (.int x1), .val (.int x2), .val (.int x3), .val (.int x4), .val (.int 2), .val (.int a), .val (.int c), .val (.int d), .val (.ref 0), .val (.ref 1), .val (.int 1)]) rfl ?_
  refine Go.iload d0_225 rfl ?_
  refine Go.ifF d0_227 (XT.i0_eq_f (by decide)) ?_
  refine Go.aload d0_230 rfl rfl ?_
  refine Go.aload d0_232 rfl rfl ?_
  refine Go.iconst d0_234 (v := 2) rfl ?_
  refine Go.iload d0_235 rfl ?_
  refine Go.callS (M' := m2) d0_237 (hw _ (List.mem_of_getElem? (i := 7) rfl)) (hw _ (List.mem_of_getElem? (i := 8) rfl)) (hw _ (List.mem_of_getElem? (i := 9) rfl)) (hw _ (List.mem_of_getElem? (i := 10) rfl)) mi2 (as := [.ref 1, .ref 0, .int 2, .int 2]) rfl rfl (st := []) rfl (ls1 := [.val (.ref 1), .val (.ref 0), .val (.int 2), .val (.int 2)]) rfl (W := 0) rfl (by decide) (by decide) (go_en_N K hw _ 2 2 (by decide)) 14 124 (by decide) (by decide) ?_
  show Go _ _ _ _ 240 [.val (.int x0), .val (.int x1), .val (.int x2), .val (.int x3), .val (.int x4), .val (.int 2), .val (.int a), .val (.int c), .val (.int d), .val (.ref 0), .val (.ref 1), .val (.int 1)] [.int 1] [.inr (.int, [.int s0, .int s1]), .inr (.int, (own_bv (own_kmp (own_E [s0, s1]) 2)))] _
  refine Go.ifF d0_240 (XT.i0_eq_f (by decide)) ?_
  refine Go.iconst d0_243 (v := 1) rfl ?_
  refine Go.goto d0_244 j0_244 ?_
  refine Go.istore d0_248 (ls' := [.val (.int x0), .val (.int x1), .val (.int x2), .val (.int x3), .val (.int x4), .val (.int 2), .val (.int a), .val (.int c), .val (.int d), .val (.ref 0), .val (.ref 1), .val (.int 1)]) rfl ?_
  refine Go.iload d0_250 rfl ?_
  refine Go.ifF d0_252 (XT.i0_eq_f (by decide)) ?_
  refine Go.aload d0_255 rfl rfl ?_
  refine Go.aload d0_257 rfl rfl ?_
  refine Go.iconst d0_259 (v := 3) rfl ?_
  refine Go.iload d0_260 rfl ?_
  refine Go.callS (M' := m2) d0_262 (hw _ (List.mem_of_getElem? (i := 7) rfl)) (hw _ (List.mem_of_getElem? (i := 8) rfl)) (hw _ (List.mem_of_getElem? (i := 9) rfl)) (hw _ (List.mem_of_getElem? (i := 10) rfl)) mi2 (as := [.ref 1, .ref 0, .int 3, .int 2]) rfl rfl (st := []) rfl (ls1 := [.val (.ref 1), .val (.ref 0), .val (.int 3), .val (.int 2)]) rfl (W := 0) rfl (by decide) (by decide) (go_en_N K hw _ 3 2 (by decide)) 14 124 (by decide) (by decide) ?_
  show Go _ _ _ _ 265 [.val (.int x0), .val (.int x1), .val (.int x2), .val (.int x3), .val (.int x4), .val (.int 2), .val (.int a), .val (.int c), .val (.int d), .val (.ref 0), .val (.ref 1), .val (.int 1)] [.int 1] [.inr (.int, [.int s0, .int s1]), .inr (.int, (own_bv (own_kmp (own_E [s0, s1]) 2)))] _
  refine Go.ifF d0_265 (XT.i0_eq_f (by decide)) ?_
  refine Go.iconst d0_268 (v := 1) rfl ?_
  refine Go.goto d0_269 j0_269 ?_
  refine Go.istore d0_273 (ls' := [.val (.int x0), .val (.int x1), .val (.int x2), .val (.int x3), .val (.int x4), .val (.int 2), .val (.int a), .val (.int c), .val (.int d), .val (.ref 0), .val (.ref 1), .val (.int 1)]) rfl ?_
  refine Go.iload d0_275 rfl ?_
  refine Go.ifF d0_277 (XT.i0_eq_f (by decide)) ?_
  refine Go.aload d0_280 rfl rfl ?_
  refine Go.aload d0_282 rfl rfl ?_
  refine Go.iconst d0_284 (v := 4) rfl ?_
  refine Go.iload d0_285 rfl ?_
  refine Go.callS (M' := m2) d0_287 (hw _ (List.mem_of_getElem? (i := 7) rfl)) (hw _ (List.mem_of_getElem? (i := 8) rfl)) (hw _ (List.mem_of_getElem? (i := 9) rfl)) (hw _ (List.mem_of_getElem? (i := 10) rfl)) mi2 (as := [.ref 1, .ref 0, .int 4, .int 2]) rfl rfl (st := []) rfl (ls1 := [.val (.ref 1), .val (.ref 0), .val (.int 4), .val (.int 2)]) rfl (W := 0) rfl (by decide) (by decide) (go_en_N K hw _ 4 2 (by decide)) 14 124 (by decide) (by decide) ?_
  show Go _ _ _ _ 290 [.val (.int x0), .val (.int x1), .val (.int x2), .val (.int x3), .val (.int x4), .val (.int 2), .val (.int a), .val (.int c), .val (.int d), .val (.ref 0), .val (.ref 1), .val (.int 1)] [.int 1] [.inr (.int, [.int s0, .int s1]), .inr (.int, (own_bv (own_kmp (own_E [s0, s1]) 2)))] _
  refine Go.ifF d0_290 (XT.i0_eq_f (by decide)) ?_
  refine Go.iconst d0_293 (v := 1) rfl ?_
  refine Go.goto d0_294 j0_294 ?_
  refine Go.istore d0_298 (ls' := [.val (.int x0), .val (.int x1), .val (.int x2), .val (.int x3), .val (.int x4), .val (.int 2), .val (.int a), .val (.int c), .val (.int d), .val (.ref 0), .val (.ref 1), .val (.int 1)]) rfl ?_
  refine Go.iload d0_300 rfl ?_
  refine Go.ifF d0_302 (XT.i0_eq_f (by decide)) ?_
  refine Go.aload d0_305 rfl rfl ?_
  refine Go.aload d0_307 rfl rfl ?_
  refine Go.iconst d0_309 (v := 5) rfl ?_
  refine Go.iload d0_310 rfl ?_
  refine Go.callS (M' := m2) d0_312 (hw _ (List.mem_of_getElem? (i := 7) rfl)) (hw _ (List.mem_of_getElem? (i := 8) rfl)) (hw _ (List.mem_of_getElem? (i := 9) rfl)) (hw _ (List.mem_of_getElem? (i := 10) rfl)) mi2 (as := [.ref 1, .ref 0, .int 5, .int 2]) rfl rfl (st := []) rfl (ls1 := [.val (.ref 1), .val (.ref 0), .val (.int 5), .val (.int 2)]) rfl (W := 0) rfl (by decide) (by decide) (go_en_N K hw _ 5 2 (by decide)) 14 124 (by decide) (by decide) ?_
  show Go _ _ _ _ 315 [.val (.int x0), .val (.int x1), .val (.int x2), .val (.int x3), .val (.int x4), .val (.int 2), .val (.int a), .val (.int c), .val (.int d), .val (.ref 0), .val (.ref 1), .val (.int 1)] [.int 1] [.inr (.int, [.int s0, .int s1]), .inr (.int, (own_bv (own_kmp (own_E [s0, s1]) 2)))] _
  refine Go.ifF d0_315 (XT.i0_eq_f (by decide)) ?_
  refine Go.iconst d0_318 (v := 1) rfl ?_
  refine Go.goto d0_319 j0_319 ?_
  refine Go.istore d0_323 (ls' := [.val (.int x0), .val (.int x1), .val (.int x2), .val (.int x3), .val (.int x4), .val (.int 2), .val (.int a), .val (.int c), .val (.int d), .val (.ref 0), .val (.ref 1), .val (.int 1)]) rfl ?_
  refine Go.iload d0_325 rfl ?_
  exact Go.ireturnZ d0_327 rfl (by decide) rfl HOk.any
theorem go_of3 (K : Ctx) (hw : ∀ d ∈ tables_1, d.before K.2.2.1 K.2.1 = true) (s0 s1 s2 : Int32) : Go K m1 0 0 0 [.val (.ref 0), .unset, .unset, .unset] [] [.inr (.int, [.int s0, .int s1, .int s2])] (some (.ref 1), some [.inr (.int, own_sv [s0, s1, s2]), .inr (.int, (own_bv (own_kmp (own_E [s0, s1, s2]) 3)))], 1, 3) := by
  refine Go.aloadN d1_0 rfl rfl ?_
  refine Go.arraylength d1_1 rfl (z := 3) rfl ?_
  refine Go.newarray 3 d1_2 (hw _ (List.mem_of_getElem? (i := 2) rfl)) (t := .int) rfl (by decide) (by decide) (by decide) (vs := [.int 0, .int 0, .int 0]) rfl (i := 1) rfl 0 0 (by decide) (by decide) ?_
  show Go _ _ _ _ 4 [.val (.ref 0), .unset, .unset, .unset] [.ref 1] [.inr (.int, [.int s0, .int s1, .int s2]), .inr (.int, [.int 0, .int 0, .int 0])] _
  refine Go.astoreN d1_4 (ls' := [.val (.ref 0), .val (.ref 1), .unset, .unset]) rfl rfl ?_
  refine Go.iconst d1_5 (v := 0) rfl ?_
  refine Go.istoreN d1_6 (ls' := [.val (.ref 0), .val (.ref 1), .val (.int 0), .unset]) rfl ?_
  refine Go.iconst d1_7 (v := 1) rfl ?_
  refine Go.istoreN d1_8 (ls' := [.val (.ref 0), .val (.ref 1), .val (.int 0), .val (.int 1)]) rfl ?_
  have g := go_outer K hw [s0, s1, s2] (by simp) 2 1 0 (List.replicate 3 0) (by simp) (by omega) (by simp) (own_bok0 _)
  exact g
theorem go_t159_3 (K : Ctx) (hw : ∀ d ∈ tables_1, d.before K.2.2.1 K.2.1 = true) (x0 x1 x2 x3 x4 a c d s0 s1 s2 : Int32) : Go K m0 6 144 159 [.val (.int x0), .val (.int x1), .val (.int x2), .val (.int x3), .val (.int x4), .val (.int 3), .val (.int a), .val (.int c), .val (.int d), .val (.ref 0), .unset, .unset] [] [.inr (.int, [.int s0, .int s1, .int s2])] (some (.int 1), none, 15, 125) := by
  refine Go.aload d0_159 rfl rfl ?_
  refine Go.callS (M' := m1) d0_161 (hw _ (List.mem_of_getElem? (i := 3) rfl)) (hw _ (List.mem_of_getElem? (i := 4) rfl)) (hw _ (List.mem_of_getElem? (i := 5) rfl)) (hw _ (List.mem_of_getElem? (i := 6) rfl)) mi1 (as := [.ref 0]) rfl rfl (st := []) rfl (ls1 := [.val (.ref 0), .unset, .unset, .unset]) rfl (W := 0) rfl (by decide) (by decide) (go_of3 K hw s0 s1 s2) 14 122 (by decide) (by decide) ?_
  show Go _ _ _ _ 164 [.val (.int x0), .val (.int x1), .val (.int x2), .val (.int x3), .val (.int x4), .val (.int 3), .val (.int a), .val (.int c), .val (.int d), .val (.ref 0), .unset, .unset] [.ref 1] [.inr (.int, [.int s0, .int s1, .int s2]), .inr (.int, (own_bv (own_kmp (own_E [s0, s1, s2]) 3)))] _
  refine Go.astore d0_164 (ls' := [.val (.int x0), .val (.int x1), .val (.int x2), .val (.int x3), .val (.int x4), .val (.int 3), .val (.int a), .val (.int c), .val (.int d), .val (.ref 0), .val (.ref 1), .unset]) rfl rfl ?_
  refine Go.aload d0_166 rfl rfl ?_
  refine Go.ifnullF d0_168 ?_
  refine Go.aload d0_171 rfl rfl ?_
  refine Go.aload d0_173 rfl rfl ?_
  refine Go.acmpF d0_175 rfl rfl (by decide) ?_
  refine Go.aload d0_178 rfl rfl ?_
  refine Go.arraylength d0_180 rfl (z := 3) (own_klen [s0, s1, s2] (by simp)) ?_
  refine Go.iload d0_181 rfl ?_
  refine Go.icmpT d0_183 j0_183 (XT.ii_eq_t (by decide)) ?_
  refine Go.aload d0_188 rfl rfl ?_
  refine Go.aload d0_190 rfl rfl ?_
  refine Go.iconst d0_192 (v := 0) rfl ?_
  refine Go.iload d0_193 rfl ?_
  refine Go.callS (M' := m2) d0_195 (hw _ (List.mem_of_getElem? (i := 7) rfl)) (hw _ (List.mem_of_getElem? (i := 8) rfl)) (hw _ (List.mem_of_getElem? (i := 9) rfl)) (hw _ (List.mem_of_getElem? (i := 10) rfl)) mi2 (as := [.ref 1, .ref 0, .int 0, .int 3]) rfl rfl (st := []) rfl (ls1 := [.val (.ref 1), .val (.ref 0), .val (.int 0), .val (.int 3)]) rfl (W := 0) rfl (by decide) (by decide) ((go_en_0 K hw _ _ s0 rfl rfl _ 3 rfl (by decide) (own_hr (own_fin3 s0 s1 s2 0 (by decide)) (own_bdv_1 [s0, s1, s2] s0 rfl))).mono (F' := 2) (Lo' := 30) (by decide) (by decide) (Nat.le_refl _) (Nat.le_refl _)) 14 122 (by decide) (by decide) ?_
  show Go _ _ _ _ 198 [.val (.int x0), .val (.int x1), .val (.int x2), .val (.int x3), .val (.int x4), .val (.int 3), .val (.int a), .val (.int c), .val (.int d), .val (.ref 0), .val (.ref 1), .unset] [.int 1] [.inr (.int, [.int s0, .int s1, .int s2]), .inr (.int, (own_bv (own_kmp (own_E [s0, s1, s2]) 3)))] _
  refine Go.istore d0_198 (ls' := [.val (.int x0), .val (.int x1), .val (.int x2), .val (.int x3), .val (.int x4), .val (.int 3), .val (.int a), .val (.int c), .val (.int d), .val (.ref 0), .val (.ref 1), .val (.int 1)]) rfl ?_
  refine Go.iload d0_200 rfl ?_
  refine Go.ifF d0_202 (XT.i0_eq_f (by decide)) ?_
  refine Go.aload d0_205 rfl rfl ?_
  refine Go.aload d0_207 rfl rfl ?_
  refine Go.iconst d0_209 (v := 1) rfl ?_
  refine Go.iload d0_210 rfl ?_
  refine Go.callS (M' := m2) d0_212 (hw _ (List.mem_of_getElem? (i := 7) rfl)) (hw _ (List.mem_of_getElem? (i := 8) rfl)) (hw _ (List.mem_of_getElem? (i := 9) rfl)) (hw _ (List.mem_of_getElem? (i := 10) rfl)) mi2 (as := [.ref 1, .ref 0, .int 1, .int 3]) rfl rfl (st := []) rfl (ls1 := [.val (.ref 1), .val (.ref 0), .val (.int 1), .val (.int 3)]) rfl (W := 0) rfl (by decide) (by decide) ((go_en_1 K hw _ _ s0 s1 rfl rfl rfl _ 3 rfl (by decide) (own_hr (own_fin3 s0 s1 s2 1 (by decide)) (own_bdv_2 [s0, s1, s2] s0 s1 rfl rfl))).mono (F' := 2) (Lo' := 30) (by decide) (by decide) (Nat.le_refl _) (Nat.le_refl _)) 14 122 (by decide) (by decide) ?_
  show Go _ _ _ _ 215 [.val (.int x0), .val (.int x1), .val (.int x2), .val (.int x3), .val (.int x4), .val (.int 3), .val (.int a), .val (.int c), .val (.int d), .val (.ref 0), .val (.ref 1), .val (.int 1)] [.int 1] [.inr (.int, [.int s0, .int s1, .int s2]), .inr (.int, (own_bv (own_kmp (own_E [s0, s1, s2]) 3)))] _
  refine Go.ifF d0_215 (XT.i0_eq_f (by decide)) ?_
  refine Go.iconst d0_218 (v := 1) rfl ?_
  refine Go.goto d0_219 j0_219 ?_
  refine Go.istore d0_223 (ls' := [.val (.int x0), .val (.int x1), .val (.int x2), .val (.int x3), .val (.int x4), .val (.int 3), .val (.int a), .val (.int c), .val (.int d), .val (.ref 0), .val (.ref 1), .val (.int 1)]) rfl ?_
  refine Go.iload d0_225 rfl ?_
  refine Go.ifF d0_227 (XT.i0_eq_f (by decide)) ?_
  refine Go.aload d0_230 rfl rfl ?_
  refine Go.aload d0_232 rfl rfl ?_
  refine Go.iconst d0_234 (v := 2) rfl ?_
  refine Go.iload d0_235 rfl ?_
  refine Go.callS (M' := m2) d0_237 (hw _ (List.mem_of_getElem? (i := 7) rfl)) (hw _ (List.mem_of_getElem? (i := 8) rfl)) (hw _ (List.mem_of_getElem? (i := 9) rfl)) (hw _ (List.mem_of_getElem? (i := 10) rfl)) mi2 (as := [.ref 1, .ref 0, .int 2, .int 3]) rfl rfl (st := []) rfl (ls1 := [.val (.ref 1), .val (.ref 0), .val (.int 2), .val (.int 3)]) rfl (W := 0) rfl (by decide) (by decide) ((go_en_2 K hw _ _ s0 s1 s2 rfl rfl rfl rfl _ 3 rfl (by decide) (own_hr (own_fin3 s0 s1 s2 2 (by decide)) (own_bdv_3 [s0, s1, s2] s0 s1 s2 rfl rfl rfl))).mono (F' := 2) (Lo' := 30) (by decide) (by decide) (Nat.le_refl _) (Nat.le_refl _)) 14 122 (by decide) (by decide) ?_
  show Go _ _ _ _ 240 [.val (.int x0), .val (.int x1), .val (.int x2), .val (.int x3), .val (.int x4), .val (.int 3), .val (.int a), .val (.int c), .val (.int d), .val (.ref 0), .val (.ref 1), .val (.int 1)] [.int 1] [.inr (.int, [.int s0, .int s1, .int s2]), .inr (.int, (own_bv (own_kmp (own_E [s0, s1, s2]) 3)))] _
  refine Go.ifF d0_240 (XT.i0_eq_f (by decide)) ?_
  refine Go.iconst d0_243 (v := 1) rfl ?_
  refine Go.goto d0_244 j0_244 ?_
  refine Go.istore d0_248 (ls' := [.val (.int x0), .val (.int x1), .val (.int x2), .val (.int x3), .val (.int x4), .val (.int 3), .val (.int a), .val (.int c), .val (.int d), .val (.ref 0), .val (.ref 1), .val (.int 1)]) rfl ?_
  refine Go.iload d0_250 rfl ?_
  refine Go.ifF d0_252 (XT.i0_eq_f (by decide)) ?_
  refine Go.aload d0_255 rfl rfl ?_
  refine Go.aload d0_257 rfl rfl ?_
  refine Go.iconst d0_259 (v := 3) rfl ?_
  refine Go.iload d0_260 rfl ?_
  refine Go.callS (M' := m2) d0_262 (hw _ (List.mem_of_getElem? (i := 7) rfl)) (hw _ (List.mem_of_getElem? (i := 8) rfl)) (hw _ (List.mem_of_getElem? (i := 9) rfl)) (hw _ (List.mem_of_getElem? (i := 10) rfl)) mi2 (as := [.ref 1, .ref 0, .int 3, .int 3]) rfl rfl (st := []) rfl (ls1 := [.val (.ref 1), .val (.ref 0), .val (.int 3), .val (.int 3)]) rfl (W := 0) rfl (by decide) (by decide) (go_en_N K hw _ 3 3 (by decide)) 14 122 (by decide) (by decide) ?_
  show Go _ _ _ _ 265 [.val (.int x0), .val (.int x1), .val (.int x2), .val (.int x3), .val (.int x4), .val (.int 3), .val (.int a), .val (.int c), .val (.int d), .val (.ref 0), .val (.ref 1), .val (.int 1)] [.int 1] [.inr (.int, [.int s0, .int s1, .int s2]), .inr (.int, (own_bv (own_kmp (own_E [s0, s1, s2]) 3)))] _
  refine Go.ifF d0_265 (XT.i0_eq_f (by decide)) ?_
  refine Go.iconst d0_268 (v := 1) rfl ?_
  refine Go.goto d0_269 j0_269 ?_
  refine Go.istore d0_273 (ls' := [.val (.int x0), .val (.int x1), .val (.int x2), .val (.int x3), .val (.int x4), .val (.int 3), .val (.int a), .val (.int c), .val (.int d), .val (.ref 0), .val (.ref 1), .val (.int 1)]) rfl ?_
  refine Go.iload d0_275 rfl ?_
  refine Go.ifF d0_277 (XT.i0_eq_f (by decide)) ?_
  refine Go.aload d0_280 rfl rfl ?_
  refine Go.aload d0_282 rfl rfl ?_
  refine Go.iconst d0_284 (v := 4) rfl ?_
  refine Go.iload d0_285 rfl ?_
  refine Go.callS (M' := m2) d0_287 (hw _ (List.mem_of_getElem? (i := 7) rfl)) (hw _ (List.mem_of_getElem? (i := 8) rfl)) (hw _ (List.mem_of_getElem? (i := 9) rfl)) (hw _ (List.mem_of_getElem? (i := 10) rfl)) mi2 (as := [.ref 1, .ref 0, .int 4, .int 3]) rfl rfl (st := []) rfl (ls1 := [.val (.ref 1), .val (.ref 0), .val (.int 4), .val (.int 3)]) rfl (W := 0) rfl (by decide) (by decide) (go_en_N K hw _ 4 3 (by decide)) 14 122 (by decide) (by decide) ?_
  show Go _ _ _ _ 290 [.val (.int x0), .val (.int x1), .val (.int x2), .val (.int x3), .val (.int x4), .val (.int 3), .val (.int a), .val (.int c), .val (.int d), .val (.ref 0), .val (.ref 1), .val (.int 1)] [.int 1] [.inr (.int, [.int s0, .int s1, .int s2]), .inr (.int, (own_bv (own_kmp (own_E [s0, s1, s2]) 3)))] _
  refine Go.ifF d0_290 (XT.i0_eq_f (by decide)) ?_
  refine Go.iconst d0_293 (v := 1) rfl ?_
  refine Go.goto d0_294 j0_294 ?_
  refine Go.istore d0_298 (ls' := [.val (.int x0), .val (.int x1), .val (.int x2), .val (.int x3), .val (.int x4), .val (.int 3), .val (.int a), .val (.int c), .val (.int d), .val (.ref 0), .val (.ref 1), .val (.int 1)]) rfl ?_
  refine Go.iload d0_300 rfl ?_
  refine Go.ifF d0_302 (XT.i0_eq_f (by decide)) ?_
  refine Go.aload d0_305 rfl rfl ?_
  refine Go.aload d0_307 rfl rfl ?_
  refine Go.iconst d0_309 (v := 5) rfl ?_
  refine Go.iload d0_310 rfl ?_
  refine Go.callS (M' := m2) d0_312 (hw _ (List.mem_of_getElem? (i := 7) rfl)) (hw _ (List.mem_of_getElem? (i := 8) rfl)) (hw _ (List.mem_of_getElem? (i := 9) rfl)) (hw _ (List.mem_of_getElem? (i := 10) rfl)) mi2 (as := [.ref 1, .ref 0, .int 5, .int 3]) rfl rfl (st := []) rfl (ls1 := [.val (.ref 1), .val (.ref 0), .val (.int 5), .val (.int 3)]) rfl (W := 0) rfl (by decide) (by decide) (go_en_N K hw _ 5 3 (by decide)) 14 122 (by decide) (by decide) ?_
  show Go _ _ _ _ 315 [.val (.int x0), .val (.int x1), .val (.int x2), .val (.int x3), .val (.int x4), .val (.int 3), .val (.int a), .val (.int c), .val (.int d), .val (.ref 0), .val (.ref 1), .val (.int 1)] [.int 1] [.inr (.int, [.int s0, .int s1, .int s2]), .inr (.int, (own_bv (own_kmp (own_E [s0, s1, s2]) 3)))] _
  refine Go.ifF d0_315 (XT.i0_eq_f (by decide)) ?_
  refine Go.iconst d0_318 (v := 1) rfl ?_
  refine Go.goto d0_319 j0_319 ?_
  refine Go.istore d0_323 (ls' := [.val (.int x0), .val (.int x1), .val (.int x2), .val (.int x3), .val (.int x4), .val (.int 3), .val (.int a), .val (.int c), .val (.int d), .val (.ref 0), .val (.ref 1), .val (.int 1)]) rfl ?_
  refine Go.iload d0_325 rfl ?_
  exact Go.ireturnZ d0_327 rfl (by decide) rfl HOk.any
theorem go_of4 (K : Ctx) (hw : ∀ d ∈ tables_1, d.before K.2.2.1 K.2.1 = true) (s0 s1 s2 s3 : Int32) : Go K m1 0 0 0 [.val (.ref 0), .unset, .unset, .unset] [] [.inr (.int, [.int s0, .int s1, .int s2, .int s3])] (some (.ref 1), some [.inr (.int, own_sv [s0, s1, s2, s3]), .inr (.int, (own_bv (own_kmp (own_E [s0, s1, s2, s3]) 4)))], 1, 4) := by
  refine Go.aloadN d1_0 rfl rfl ?_
  refine Go.arraylength d1_1 rfl (z := 4) rfl ?_
  refine Go.newarray 4 d1_2 (hw _ (List.mem_of_getElem? (i := 2) rfl)) (t := .int) rfl (by decide) (by decide) (by decide) (vs := [.int 0, .int 0, .int 0, .int 0]) rfl (i := 1) rfl 0 0 (by decide) (by decide) ?_
  show Go _ _ _ _ 4 [.val (.ref 0), .unset, .unset, .unset] [.ref 1] [.inr (.int, [.int s0, .int s1, .int s2, .int s3]), .inr (.int, [.int 0, .int 0, .int 0, .int 0])] _
  refine Go.astoreN d1_4 (ls' := [.val (.ref 0), .val (.ref 1), .unset, .unset]) rfl rfl ?_
  refine Go.iconst d1_5 (v := 0) rfl ?_
  refine Go.istoreN d1_6 (ls' := [.val (.ref 0), .val (.ref 1), .val (.int 0), .unset]) rfl ?_
  refine Go.iconst d1_7 (v := 1) rfl ?_
  refine Go.istoreN d1_8 (ls' := [.val (.ref 0), .val (.ref 1), .val (.int 0), .val (.int 1)]) rfl ?_
  have g := go_outer K hw [s0, s1, s2, s3] (by simp) 3 1 0 (List.replicate 4 0) (by simp) (by omega) (by simp) (own_bok0 _)
  exact g
theorem go_t159_4 (K : Ctx) (hw : ∀ d ∈ tables_1, d.before K.2.2.1 K.2.1 = true) (x0 x1 x2 x3 x4 a c d s0 s1 s2 s3 : Int32) : Go K m0 6 144 159 [.val (.int x0), .val (.int x1), .val (.int x2), .val (.int x3), .val (.int x4), .val (.int 4), .val (.int a), .val (.int c), .val (.int d), .val (.ref 0), .unset, .unset] [] [.inr (.int, [.int s0, .int s1, .int s2, .int s3])] (some (.int 1), none, 15, 124) := by
  refine Go.aload d0_159 rfl rfl ?_
  refine Go.callS (M' := m1) d0_161 (hw _ (List.mem_of_getElem? (i := 3) rfl)) (hw _ (List.mem_of_getElem? (i := 4) rfl)) (hw _ (List.mem_of_getElem? (i := 5) rfl)) (hw _ (List.mem_of_getElem? (i := 6) rfl)) mi1 (as := [.ref 0]) rfl rfl (st := []) rfl (ls1 := [.val (.ref 0), .unset, .unset, .unset]) rfl (W := 0) rfl (by decide) (by decide) (go_of4 K hw s0 s1 s2 s3) 14 120 (by decide) (by decide) ?_
  show Go _ _ _ _ 164 [.val (.int x0), .val (.int x1), .val (.int x2), .val (.int x3), .val (.int x4), .val (.int 4), .val (.int a), .val (.int c), .val (.int d), .val (.ref 0), .unset, .unset] [.ref 1] [.inr (.int, [.int s0, .int s1, .int s2, .int s3]), .inr (.int, (own_bv (own_kmp (own_E [s0, s1, s2, s3]) 4)))] _
  refine Go.astore d0_164 (ls' := [.val (.int x0), .val (.int x1), .val (.int x2), .val (.int x3), .val (.int x4), .val (.int 4), .val (.int a), .val (.int c), .val (.int d), .val (.ref 0), .val (.ref 1), .unset]) rfl rfl ?_
  refine Go.aload d0_166 rfl rfl ?_
  refine Go.ifnullF d0_168 ?_
  refine Go.aload d0_171 rfl rfl ?_
  refine Go.aload d0_173 rfl rfl ?_
  refine Go.acmpF d0_175 rfl rfl (by decide) ?_
  refine Go.aload d0_178 rfl rfl ?_
  refine Go.arraylength d0_180 rfl (z := 4) (own_klen [s0, s1, s2, s3] (by simp)) ?_
  refine Go.iload d0_181 rfl ?_
  refine Go.icmpT d0_183 j0_183 (XT.ii_eq_t (by decide)) ?_
  refine Go.aload d0_188 rfl rfl ?_
  refine Go.aload d0_190 rfl rfl ?_
  refine Go.iconst d0_192 (v := 0) rfl ?_
  refine Go.iload d0_193 rfl ?_
  refine Go.callS (M' := m2) d0_195 (hw _ (List.mem_of_getElem? (i := 7) rfl)) (hw _ (List.mem_of_getElem? (i := 8) rfl)) (hw _ (List.mem_of_getElem? (i := 9) rfl)) (hw _ (List.mem_of_getElem? (i := 10) rfl)) mi2 (as := [.ref 1, .ref 0, .int 0, .int 4]) rfl rfl (st := []) rfl (ls1 := [.val (.ref 1), .val (.ref 0), .val (.int 0), .val (.int 4)]) rfl (W := 0) rfl (by decide) (by decide) ((go_en_0 K hw _ _ s0 rfl rfl _ 4 rfl (by decide) (own_hr (own_fin4 s0 s1 s2 s3 0 (by decide)) (own_bdv_1 [s0, s1, s2, s3] s0 rfl))).mono (F' := 2) (Lo' := 30) (by decide) (by decide) (Nat.le_refl _) (Nat.le_refl _)) 14 120 (by decide) (by decide) ?_
  show Go _ _ _ _ 198 [.val (.int x0), .val (.int x1), .val (.int x2), .val (.int x3), .val (.int x4), .val (.int 4), .val (.int a), .val (.int c), .val (.int d), .val (.ref 0), .val (.ref 1), .unset] [.int 1] [.inr (.int, [.int s0, .int s1, .int s2, .int s3]), .inr (.int, (own_bv (own_kmp (own_E [s0, s1, s2, s3]) 4)))] _
  refine Go.istore d0_198 (ls' := [.val (.int x0), .val (.int x1), .val (.int x2), .val (.int x3), .val (.int x4), .val (.int 4), .val (.int a), .val (.int c), .val (.int d), .val (.ref 0), .val (.ref 1), .val (.int 1)]) rfl ?_
  refine Go.iload d0_200 rfl ?_
  refine Go.ifF d0_202 (XT.i0_eq_f (by decide)) ?_
  refine Go.aload d0_205 rfl rfl ?_
  refine Go.aload d0_207 rfl rfl ?_
  refine Go.iconst d0_209 (v := 1) rfl ?_
  refine Go.iload d0_210 rfl ?_
  refine Go.callS (M' := m2) d0_212 (hw _ (List.mem_of_getElem? (i := 7) rfl)) (hw _ (List.mem_of_getElem? (i := 8) rfl)) (hw _ (List.mem_of_getElem? (i := 9) rfl)) (hw _ (List.mem_of_getElem? (i := 10) rfl)) mi2 (as := [.ref 1, .ref 0, .int 1, .int 4]) rfl rfl (st := []) rfl (ls1 := [.val (.ref 1), .val (.ref 0), .val (.int 1), .val (.int 4)]) rfl (W := 0) rfl (by decide) (by decide) ((go_en_1 K hw _ _ s0 s1 rfl rfl rfl _ 4 rfl (by decide) (own_hr (own_fin4 s0 s1 s2 s3 1 (by decide)) (own_bdv_2 [s0, s1, s2, s3] s0 s1 rfl rfl))).mono (F' := 2) (Lo' := 30) (by decide) (by decide) (Nat.le_refl _) (Nat.le_refl _)) 14 120 (by decide) (by decide) ?_
  show Go _ _ _ _ 215 [.val (.int x0), .val (.int x1), .val (.int x2), .val (.int x3), .val (.int x4), .val (.int 4), .val (.int a), .val (.int c), .val (.int d), .val (.ref 0), .val (.ref 1), .val (.int 1)] [.int 1] [.inr (.int, [.int s0, .int s1, .int s2, .int s3]), .inr (.int, (own_bv (own_kmp (own_E [s0, s1, s2, s3]) 4)))] _
  refine Go.ifF d0_215 (XT.i0_eq_f (by decide)) ?_
  refine Go.iconst d0_218 (v := 1) rfl ?_
  refine Go.goto d0_219 j0_219 ?_
  refine Go.istore d0_223 (ls' := [.val (.int x0), .val (.int x1), .val (.int x2), .val (.int x3), .val (.int x4), .val (.int 4), .val (.int a), .val (.int c), .val (.int d), .val (.ref 0), .val (.ref 1), .val (.int 1)]) rfl ?_
  refine Go.iload d0_225 rfl ?_
  refine Go.ifF d0_227 (XT.i0_eq_f (by decide)) ?_
  refine Go.aload d0_230 rfl rfl ?_
  refine Go.aload d0_232 rfl rfl ?_
  refine Go.iconst d0_234 (v := 2) rfl ?_
  refine Go.iload d0_235 rfl ?_
  refine Go.callS (M' := m2) d0_237 (hw _ (List.mem_of_getElem? (i := 7) rfl)) (hw _ (List.mem_of_getElem? (i := 8) rfl)) (hw _ (List.mem_of_getElem? (i := 9) rfl)) (hw _ (List.mem_of_getElem? (i := 10) rfl)) mi2 (as := [.ref 1, .ref 0, .int 2, .int 4]) rfl rfl (st := []) rfl (ls1 := [.val (.ref 1), .val (.ref 0), .val (.int 2), .val (.int 4)]) rfl (W := 0) rfl (by decide) (by decide) ((go_en_2 K hw _ _ s0 s1 s2 rfl rfl rfl rfl _ 4 rfl (by decide) (own_hr (own_fin4 s0 s1 s2 s3 2 (by decide)) (own_bdv_3 [s0, s1, s2, s3] s0 s1 s2 rfl rfl rfl))).mono (F' := 2) (Lo' := 30) (by decide) (by decide) (Nat.le_refl _) (Nat.le_refl _)) 14 120 (by decide) (by decide) ?_
  show Go _ _ _ _ 240 [.val (.int x0), .val (.int x1), .val (.int x2), .val (.int x3), .val (.int x4), .val (.int 4), .val (.int a), .val (.int c), .val (.int d), .val (.ref 0), .val (.ref 1), .val (.int 1)] [.int 1] [.inr (.int, [.int s0, .int s1, .int s2, .int s3]), .inr (.int, (own_bv (own_kmp (own_E [s0, s1, s2, s3]) 4)))] _
  refine Go.ifF d0_240 (XT.i0_eq_f (by decide)) ?_
  refine Go.iconst d0_243 (v := 1) rfl ?_
  refine Go.goto d0_244 j0_244 ?_
  refine Go.istore d0_248 (ls' := [.val (.int x0), .val (.int x1), .val (.int x2), .val (.int x3), .val (.int x4), .val (.int 4), .val (.int a), .val (.int c), .val (.int d), .val (.ref 0), .val (.ref 1), .val (.int 1)]) rfl ?_
  refine Go.iload d0_250 rfl ?_
  refine Go.ifF d0_252 (XT.i0_eq_f (by decide)) ?_
  refine Go.aload d0_255 rfl rfl ?_
  refine Go.aload d0_257 rfl rfl ?_
  refine Go.iconst d0_259 (v := 3) rfl ?_
  refine Go.iload d0_260 rfl ?_
  refine Go.callS (M' := m2) d0_262 (hw _ (List.mem_of_getElem? (i := 7) rfl)) (hw _ (List.mem_of_getElem? (i := 8) rfl)) (hw _ (List.mem_of_getElem? (i := 9) rfl)) (hw _ (List.mem_of_getElem? (i := 10) rfl)) mi2 (as := [.ref 1, .ref 0, .int 3, .int 4]) rfl rfl (st := []) rfl (ls1 := [.val (.ref 1), .val (.ref 0), .val (.int 3), .val (.int 4)]) rfl (W := 0) rfl (by decide) (by decide) ((go_en_3 K hw _ _ s0 s1 s2 s3 rfl rfl rfl rfl rfl _ 4 rfl (by decide) (own_hr (own_fin4 s0 s1 s2 s3 3 (by decide)) (own_bdv_4 [s0, s1, s2, s3] s0 s1 s2 s3 rfl rfl rfl rfl))).mono (F' := 2) (Lo' := 30) (by decide) (by decide) (Nat.le_refl _) (Nat.le_refl _)) 14 120 (by decide) (by decide) ?_
  show Go _ _ _ _ 265 [.val (.int x0), .val (.int x1), .val (.int x2), .val (.int x3), .val (.int x4), .val (.int 4), .val (.int a), .val (.int c), .val (.int d), .val (.ref 0), .val (.ref 1), .val (.int 1)] [.int 1] [.inr (.int, [.int s0, .int s1, .int s2, .int s3]), .inr (.int, (own_bv (own_kmp (own_E [s0, s1, s2, s3]) 4)))] _
  refine Go.ifF d0_265 (XT.i0_eq_f (by decide)) ?_
  refine Go.iconst d0_268 (v := 1) rfl ?_
  refine Go.goto d0_269 j0_269 ?_
  refine Go.istore d0_273 (ls' := [.val (.int x0), .val (.int x1), .val (.int x2), .val (.int x3), .val (.int x4), .val (.int 4), .val (.int a), .val (.int c), .val (.int d), .val (.ref 0), .val (.ref 1), .val (.int 1)]) rfl ?_
  refine Go.iload d0_275 rfl ?_
  refine Go.ifF d0_277 (XT.i0_eq_f (by decide)) ?_
  refine Go.aload d0_280 rfl rfl ?_
  refine Go.aload d0_282 rfl rfl ?_
  refine Go.iconst d0_284 (v := 4) rfl ?_
  refine Go.iload d0_285 rfl ?_
  refine Go.callS (M' := m2) d0_287 (hw _ (List.mem_of_getElem? (i := 7) rfl)) (hw _ (List.mem_of_getElem? (i := 8) rfl)) (hw _ (List.mem_of_getElem? (i := 9) rfl)) (hw _ (List.mem_of_getElem? (i := 10) rfl)) mi2 (as := [.ref 1, .ref 0, .int 4, .int 4]) rfl rfl (st := []) rfl (ls1 := [.val (.ref 1), .val (.ref 0), .val (.int 4), .val (.int 4)]) rfl (W := 0) rfl (by decide) (by decide) (go_en_N K hw _ 4 4 (by decide)) 14 120 (by decide) (by decide) ?_
  show Go _ _ _ _ 290 [.val (.int x0), .val (.int x1), .val (.int x2), .val (.int x3), .val (.int x4), .val (.int 4), .val (.int a), .val (.int c), .val (.int d), .val (.ref 0), .val (.ref 1), .val (.int 1)] [.int 1] [.inr (.int, [.int s0, .int s1, .int s2, .int s3]), .inr (.int, (own_bv (own_kmp (own_E [s0, s1, s2, s3]) 4)))] _
  refine Go.ifF d0_290 (XT.i0_eq_f (by decide)) ?_
  refine Go.iconst d0_293 (v := 1) rfl ?_
  refine Go.goto d0_294 j0_294 ?_
  refine Go.istore d0_298 (ls' := [.val (.int x0), .val (.int x1), .val (.int x2), .val (.int x3), .val (.int x4), .val (.int 4), .val (.int a), .val (.int c), .val (.int d), .val (.ref 0), .val (.ref 1), .val (.int 1)]) rfl ?_
  refine Go.iload d0_300 rfl ?_
  refine Go.ifF d0_302 (XT.i0_eq_f (by decide)) ?_
  refine Go.aload d0_305 rfl rfl ?_
  refine Go.aload d0_307 rfl rfl ?_
  refine Go.iconst d0_309 (v := 5) rfl ?_
  refine Go.iload d0_310 rfl ?_
  refine Go.callS (M' := m2) d0_312 (hw _ (List.mem_of_getElem? (i := 7) rfl)) (hw _ (List.mem_of_getElem? (i := 8) rfl)) (hw _ (List.mem_of_getElem? (i := 9) rfl)) (hw _ (List.mem_of_getElem? (i := 10) rfl)) mi2 (as := [.ref 1, .ref 0, .int 5, .int 4]) rfl rfl (st := []) rfl (ls1 := [.val (.ref 1), .val (.ref 0), .val (.int 5), .val (.int 4)]) rfl (W := 0) rfl (by decide) (by decide) (go_en_N K hw _ 5 4 (by decide)) 14 120 (by decide) (by decide) ?_
  show Go _ _ _ _ 315 [.val (.int x0), .val (.int x1), .val (.int x2), .val (.int x3), .val (.int x4), .val (.int 4), .val (.int a), .val (.int c), .val (.int d), .val (.ref 0), .val (.ref 1), .val (.int 1)] [.int 1] [.inr (.int, [.int s0, .int s1, .int s2, .int s3]), .inr (.int, (own_bv (own_kmp (own_E [s0, s1, s2, s3]) 4)))] _
  refine Go.ifF d0_315 (XT.i0_eq_f (by decide)) ?_
  refine Go.iconst d0_318 (v := 1) rfl ?_
  refine Go.goto d0_319 j0_319 ?_
  refine Go.istore d0_323 (ls' := [.val (.int x0), .val (.int x1), .val (.int x2), .val (.int x3), .val (.int x4), .val (.int 4), .val (.int a), .val (.int c), .val (.int d), .val (.ref 0), .val (.ref 1), .val (.int 1)]) rfl ?_
  refine Go.iload d0_325 rfl ?_
  exact Go.ireturnZ d0_327 rfl (by decide) rfl HOk.any
theorem go_of5 (K : Ctx) (hw : ∀ d ∈ tables_1, d.before K.2.2.1 K.2.1 = true) (s0 s1 s2 s3 s4 : Int32) : Go K m1 0 0 0 [.val (.ref 0), .unset, .unset, .unset] [] [.inr (.int, [.int s0, .int s1, .int s2, .int s3, .int s4])] (some (.ref 1), some [.inr (.int, own_sv [s0, s1, s2, s3, s4]), .inr (.int, (own_bv (own_kmp (own_E [s0, s1, s2, s3, s4]) 5)))], 1, 5) := by
  refine Go.aloadN d1_0 rfl rfl ?_
  refine Go.arraylength d1_1 rfl (z := 5) rfl ?_
  refine Go.newarray 5 d1_2 (hw _ (List.mem_of_getElem? (i := 2) rfl)) (t := .int) rfl (by decide) (by decide) (by decide) (vs := [.int 0, .int 0, .int 0, .int 0, .int 0]) rfl (i := 1) rfl 0 0 (by decide) (by decide) ?_
  show Go _ _ _ _ 4 [.val (.ref 0), .unset, .unset, .unset] [.ref 1] [.inr (.int, [.int s0, .int s1, .int s2, .int s3, .int s4]), .inr (.int, [.int 0, .int 0, .int 0, .int 0, .int 0])] _
  refine Go.astoreN d1_4 (ls' := [.val (.ref 0), .val (.ref 1), .unset, .unset]) rfl rfl ?_
  refine Go.iconst d1_5 (v := 0) rfl ?_
  refine Go.istoreN d1_6 (ls' := [.val (.ref 0), .val (.ref 1), .val (.int 0), .unset]) rfl ?_
  refine Go.iconst d1_7 (v := 1) rfl ?_
  refine Go.istoreN d1_8 (ls' := [.val (.ref 0), .val (.ref 1), .val (.int 0), .val (.int 1)]) rfl ?_
  have g := go_outer K hw [s0, s1, s2, s3, s4] (by simp) 4 1 0 (List.replicate 5 0) (by simp) (by omega) (by simp) (own_bok0 _)
  exact g
theorem go_t159_5 (K : Ctx) (hw : ∀ d ∈ tables_1, d.before K.2.2.1 K.2.1 = true) (x0 x1 x2 x3 x4 a c d s0 s1 s2 s3 s4 : Int32) : Go K m0 6 144 159 [.val (.int x0), .val (.int x1), .val (.int x2), .val (.int x3), .val (.int x4), .val (.int 5), .val (.int a), .val (.int c), .val (.int d), .val (.ref 0), .unset, .unset] [] [.inr (.int, [.int s0, .int s1, .int s2, .int s3, .int s4])] (some (.int 1), none, 15, 123) := by
  refine Go.aload d0_159 rfl rfl ?_
  refine Go.callS (M' := m1) d0_161 (hw _ (List.mem_of_getElem? (i := 3) rfl)) (hw _ (List.mem_of_getElem? (i := 4) rfl)) (hw _ (List.mem_of_getElem? (i := 5) rfl)) (hw _ (List.mem_of_getElem? (i := 6) rfl)) mi1 (as := [.ref 0]) rfl rfl (st := []) rfl (ls1 := [.val (.ref 0), .unset, .unset, .unset]) rfl (W := 0) rfl (by decide) (by decide) (go_of5 K hw s0 s1 s2 s3 s4) 14 118 (by decide) (by decide) ?_
  show Go _ _ _ _ 164 [.val (.int x0), .val (.int x1), .val (.int x2), .val (.int x3), .val (.int x4), .val (.int 5), .val (.int a), .val (.int c), .val (.int d), .val (.ref 0), .unset, .unset] [.ref 1] [.inr (.int, [.int s0, .int s1, .int s2, .int s3, .int s4]), .inr (.int, (own_bv (own_kmp (own_E [s0, s1, s2, s3, s4]) 5)))] _
  refine Go.astore d0_164 (ls' := [.val (.int x0), .val (.int x1), .val (.int x2), .val (.int x3), .val (.int x4), .val (.int 5), .val (.int a), .val (.int c), .val (.int d), .val (.ref 0), .val (.ref 1), .unset]) rfl rfl ?_
  refine Go.aload d0_166 rfl rfl ?_
  refine Go.ifnullF d0_168 ?_
  refine Go.aload d0_171 rfl rfl ?_
  refine Go.aload d0_173 rfl rfl ?_
  refine Go.acmpF d0_175 rfl rfl (by decide) ?_
  refine Go.aload d0_178 rfl rfl ?_
  refine Go.arraylength d0_180 rfl (z := 5) (own_klen [s0, s1, s2, s3, s4] (by simp)) ?_
  refine Go.iload d0_181 rfl ?_
  refine Go.icmpT d0_183 j0_183 (XT.ii_eq_t (by decide)) ?_
  refine Go.aload d0_188 rfl rfl ?_
  refine Go.aload d0_190 rfl rfl ?_
  refine Go.iconst d0_192 (v := 0) rfl ?_
  refine Go.iload d0_193 rfl ?_
  refine Go.callS (M' := m2) d0_195 (hw _ (List.mem_of_getElem? (i := 7) rfl)) (hw _ (List.mem_of_getElem? (i := 8) rfl)) (hw _ (List.mem_of_getElem? (i := 9) rfl)) (hw _ (List.mem_of_getElem? (i := 10) rfl)) mi2 (as := [.ref 1, .ref 0, .int 0, .int 5]) rfl rfl (st := []) rfl (ls1 := [.val (.ref 1), .val (.ref 0), .val (.int 0), .val (.int 5)]) rfl (W := 0) rfl (by decide) (by decide) ((go_en_0 K hw _ _ s0 rfl rfl _ 5 rfl (by decide) (own_hr (own_fin5 s0 s1 s2 s3 s4 0 (by decide)) (own_bdv_1 [s0, s1, s2, s3, s4] s0 rfl))).mono (F' := 2) (Lo' := 30) (by decide) (by decide) (Nat.le_refl _) (Nat.le_refl _)) 14 118 (by decide) (by decide) ?_
  show Go _ _ _ _ 198 [.val (.int x0), .val (.int x1), .val (.int x2), .val (.int x3), .val (.int x4), .val (.int 5), .val (.int a), .val (.int c), .val (.int d), .val (.ref 0), .val (.ref 1), .unset] [.int 1] [.inr (.int, [.int s0, .int s1, .int s2, .int s3, .int s4]), .inr (.int, (own_bv (own_kmp (own_E [s0, s1, s2, s3, s4]) 5)))] _
  refine Go.istore d0_198 (ls' := [.val (.int x0), .val (.int x1), .val (.int x2), .val (.int x3), .val (.int x4), .val (.int 5), .val (.int a), .val (.int c), .val (.int d), .val (.ref 0), .val (.ref 1), .val (.int 1)]) rfl ?_
  refine Go.iload d0_200 rfl ?_
  refine Go.ifF d0_202 (XT.i0_eq_f (by decide)) ?_
  refine Go.aload d0_205 rfl rfl ?_
  refine Go.aload d0_207 rfl rfl ?_
  refine Go.iconst d0_209 (v := 1) rfl ?_
  refine Go.iload d0_210 rfl ?_
  refine Go.callS (M' := m2) d0_212 (hw _ (List.mem_of_getElem? (i := 7) rfl)) (hw _ (List.mem_of_getElem? (i := 8) rfl)) (hw _ (List.mem_of_getElem? (i := 9) rfl)) (hw _ (List.mem_of_getElem? (i := 10) rfl)) mi2 (as := [.ref 1, .ref 0, .int 1, .int 5]) rfl rfl (st := []) rfl (ls1 := [.val (.ref 1), .val (.ref 0), .val (.int 1), .val (.int 5)]) rfl (W := 0) rfl (by decide) (by decide) ((go_en_1 K hw _ _ s0 s1 rfl rfl rfl _ 5 rfl (by decide) (own_hr (own_fin5 s0 s1 s2 s3 s4 1 (by decide)) (own_bdv_2 [s0, s1, s2, s3, s4] s0 s1 rfl rfl))).mono (F' := 2) (Lo' := 30) (by decide) (by decide) (Nat.le_refl _) (Nat.le_refl _)) 14 118 (by decide) (by decide) ?_
  show Go _ _ _ _ 215 [.val (.int x0), .val (.int x1), .val (.int x2), .val (.int x3), .val (.int x4), .val (.int 5), .val (.int a), .val (.int c), .val (.int d), .val (.ref 0), .val (.ref 1), .val (.int 1)] [.int 1] [.inr (.int, [.int s0, .int s1, .int s2, .int s3, .int s4]), .inr (.int, (own_bv (own_kmp (own_E [s0, s1, s2, s3, s4]) 5)))] _
  refine Go.ifF d0_215 (XT.i0_eq_f (by decide)) ?_
  refine Go.iconst d0_218 (v := 1) rfl ?_
  refine Go.goto d0_219 j0_219 ?_
  refine Go.istore d0_223 (ls' := [.val (.int x0), .val (.int x1), .val (.int x2), .val (.int x3), .val (.int x4), .val (.int 5), .val (.int a), .val (.int c), .val (.int d), .val (.ref 0), .val (.ref 1), .val (.int 1)]) rfl ?_
  refine Go.iload d0_225 rfl ?_
  refine Go.ifF d0_227 (XT.i0_eq_f (by decide)) ?_
  refine Go.aload d0_230 rfl rfl ?_
  refine Go.aload d0_232 rfl rfl ?_
  refine Go.iconst d0_234 (v := 2) rfl ?_
  refine Go.iload d0_235 rfl ?_
  refine Go.callS (M' := m2) d0_237 (hw _ (List.mem_of_getElem? (i := 7) rfl)) (hw _ (List.mem_of_getElem? (i := 8) rfl)) (hw _ (List.mem_of_getElem? (i := 9) rfl)) (hw _ (List.mem_of_getElem? (i := 10) rfl)) mi2 (as := [.ref 1, .ref 0, .int 2, .int 5]) rfl rfl (st := []) rfl (ls1 := [.val (.ref 1), .val (.ref 0), .val (.int 2), .val (.int 5)]) rfl (W := 0) rfl (by decide) (by decide) ((go_en_2 K hw _ _ s0 s1 s2 rfl rfl rfl rfl _ 5 rfl (by decide) (own_hr (own_fin5 s0 s1 s2 s3 s4 2 (by decide)) (own_bdv_3 [s0, s1, s2, s3, s4] s0 s1 s2 rfl rfl rfl))).mono (F' := 2) (Lo' := 30) (by decide) (by decide) (Nat.le_refl _) (Nat.le_refl _)) 14 118 (by decide) (by decide) ?_
  show Go _ _ _ _ 240 [.val (.int x0), .val (.int x1), .val (.int x2), .val (.int x3), .val (.int x4), .val (.int 5), .val (.int a), .val (.int c), .val (.int d), .val (.ref 0), .val (.ref 1), .val (.int 1)] [.int 1] [.inr (.int, [.int s0, .int s1, .int s2, .int s3, .int s4]), .inr (.int, (own_bv (own_kmp (own_E [s0, s1, s2, s3, s4]) 5)))] _
  refine Go.ifF d0_240 (XT.i0_eq_f (by decide)) ?_
  refine Go.iconst d0_243 (v := 1) rfl ?_
  refine Go.goto d0_244 j0_244 ?_
  refine Go.istore d0_248 (ls' := [.val (.int x0), .val (.int x1), .val (.int x2), .val (.int x3), .val (.int x4), .val (.int 5), .val (.int a), .val (.int c), .val (.int d), .val (.ref 0), .val (.ref 1), .val (.int 1)]) rfl ?_
  refine Go.iload d0_250 rfl ?_
  refine Go.ifF d0_252 (XT.i0_eq_f (by decide)) ?_
  refine Go.aload d0_255 rfl rfl ?_
  refine Go.aload d0_257 rfl rfl ?_
  refine Go.iconst d0_259 (v := 3) rfl ?_
  refine Go.iload d0_260 rfl ?_
  refine Go.callS (M' := m2) d0_262 (hw _ (List.mem_of_getElem? (i := 7) rfl)) (hw _ (List.mem_of_getElem? (i := 8) rfl)) (hw _ (List.mem_of_getElem? (i := 9) rfl)) (hw _ (List.mem_of_getElem? (i := 10) rfl)) mi2 (as := [.ref 1, .ref 0, .int 3, .int 5]) rfl rfl (st := []) rfl (ls1 := [.val (.ref 1), .val (.ref 0), .val (.int 3), .val (.int 5)]) rfl (W := 0) rfl (by decide) (by decide) ((go_en_3 K hw _ _ s0 s1 s2 s3 rfl rfl rfl rfl rfl _ 5 rfl (by decide) (own_hr (own_fin5 s0 s1 s2 s3 s4 3 (by decide)) (own_bdv_4 [s0, s1, s2, s3, s4] s0 s1 s2 s3 rfl rfl rfl rfl))).mono (F' := 2) (Lo' := 30) (by decide) (by decide) (Nat.le_refl _) (Nat.le_refl _)) 14 118 (by decide) (by decide) ?_
  show Go _ _ _ _ 265 [.val (.int x0), .val (.int x1), .val (.int x2), .val (.int x3), .val (.int x4), .val (.int 5), .val (.int a), .val (.int c), .val (.int d), .val (.ref 0), .val (.ref 1), .val (.int 1)] [.int 1] [.inr (.int, [.int s0, .int s1, .int s2, .int s3, .int s4]), .inr (.int, (own_bv (own_kmp (own_E [s0, s1, s2, s3, s4]) 5)))] _
  refine Go.ifF d0_265 (XT.i0_eq_f (by decide)) ?_
  refine Go.iconst d0_268 (v := 1) rfl ?_
  refine Go.goto d0_269 j0_269 ?_
  refine Go.istore d0_273 (ls' := [.val (.int x0), .val (.int x1), .val (.int x2), .val (.int x3), .val (.int x4), .val (.int 5), .val (.int a), .val (.int c), .val (.int d), .val (.ref 0), .val (.ref 1), .val (.int 1)]) rfl ?_
  refine Go.iload d0_275 rfl ?_
  refine Go.ifF d0_277 (XT.i0_eq_f (by decide)) ?_
  refine Go.aload d0_280 rfl rfl ?_
  refine Go.aload d0_282 rfl rfl ?_
  refine Go.iconst d0_284 (v := 4) rfl ?_
  refine Go.iload d0_285 rfl ?_
  refine Go.callS (M' := m2) d0_287 (hw _ (List.mem_of_getElem? (i := 7) rfl)) (hw _ (List.mem_of_getElem? (i := 8) rfl)) (hw _ (List.mem_of_getElem? (i := 9) rfl)) (hw _ (List.mem_of_getElem? (i := 10) rfl)) mi2 (as := [.ref 1, .ref 0, .int 4, .int 5]) rfl rfl (st := []) rfl (ls1 := [.val (.ref 1), .val (.ref 0), .val (.int 4), .val (.int 5)]) rfl (W := 0) rfl (by decide) (by decide) ((go_en_4 K hw _ _ s0 s1 s2 s3 s4 rfl rfl rfl rfl rfl rfl _ 5 rfl (by decide) (own_hr (own_fin5 s0 s1 s2 s3 s4 4 (by decide)) (own_bdv_5 [s0, s1, s2, s3, s4] s0 s1 s2 s3 s4 rfl rfl rfl rfl rfl))).mono (F' := 2) (Lo' := 30) (by decide) (by decide) (Nat.le_refl _) (Nat.le_refl _)) 14 118 (by decide) (by decide) ?_
  show Go _ _ _ _ 290 [.val (.int x0), .val (.int x1), .val (.int x2), .val (.int x3), .val (.int x4), .val (.int 5), .val (.int a), .val (.int c), .val (.int d), .val (.ref 0), .val (.ref 1), .val (.int 1)] [.int 1] [.inr (.int, [.int s0, .int s1, .int s2, .int s3, .int s4]), .inr (.int, (own_bv (own_kmp (own_E [s0, s1, s2, s3, s4]) 5)))] _
  refine Go.ifF d0_290 (XT.i0_eq_f (by decide)) ?_
  refine Go.iconst d0_293 (v := 1) rfl ?_
  refine Go.goto d0_294 j0_294 ?_
  refine Go.istore d0_298 (ls' := [.val (.int x0), .val (.int x1), .val (.int x2), .val (.int x3), .val (.int x4), .val (.int 5), .val (.int a), .val (.int c), .val (.int d), .val (.ref 0), .val (.ref 1), .val (.int 1)]) rfl ?_
  refine Go.iload d0_300 rfl ?_
  refine Go.ifF d0_302 (XT.i0_eq_f (by decide)) ?_
  refine Go.aload d0_305 rfl rfl ?_
  refine Go.aload d0_307 rfl rfl ?_
  refine Go.iconst d0_309 (v := 5) rfl ?_
  refine Go.iload d0_310 rfl ?_
  refine Go.callS (M' := m2) d0_312 (hw _ (List.mem_of_getElem? (i := 7) rfl)) (hw _ (List.mem_of_getElem? (i := 8) rfl)) (hw _ (List.mem_of_getElem? (i := 9) rfl)) (hw _ (List.mem_of_getElem? (i := 10) rfl)) mi2 (as := [.ref 1, .ref 0, .int 5, .int 5]) rfl rfl (st := []) rfl (ls1 := [.val (.ref 1), .val (.ref 0), .val (.int 5), .val (.int 5)]) rfl (W := 0) rfl (by decide) (by decide) (go_en_N K hw _ 5 5 (by decide)) 14 118 (by decide) (by decide) ?_
  show Go _ _ _ _ 315 [.val (.int x0), .val (.int x1), .val (.int x2), .val (.int x3), .val (.int x4), .val (.int 5), .val (.int a), .val (.int c), .val (.int d), .val (.ref 0), .val (.ref 1), .val (.int 1)] [.int 1] [.inr (.int, [.int s0, .int s1, .int s2, .int s3, .int s4]), .inr (.int, (own_bv (own_kmp (own_E [s0, s1, s2, s3, s4]) 5)))] _
  refine Go.ifF d0_315 (XT.i0_eq_f (by decide)) ?_
  refine Go.iconst d0_318 (v := 1) rfl ?_
  refine Go.goto d0_319 j0_319 ?_
  refine Go.istore d0_323 (ls' := [.val (.int x0), .val (.int x1), .val (.int x2), .val (.int x3), .val (.int x4), .val (.int 5), .val (.int a), .val (.int c), .val (.int d), .val (.ref 0), .val (.ref 1), .val (.int 1)]) rfl ?_
  refine Go.iload d0_325 rfl ?_
  exact Go.ireturnZ d0_327 rfl (by decide) rfl HOk.any
theorem go_of6 (K : Ctx) (hw : ∀ d ∈ tables_1, d.before K.2.2.1 K.2.1 = true) (s0 s1 s2 s3 s4 s5 : Int32) : Go K m1 0 0 0 [.val (.ref 0), .unset, .unset, .unset] [] [.inr (.int, [.int s0, .int s1, .int s2, .int s3, .int s4, .int s5])] (some (.ref 1), some [.inr (.int, own_sv [s0, s1, s2, s3, s4, s5]), .inr (.int, (own_bv (own_kmp (own_E [s0, s1, s2, s3, s4, s5]) 6)))], 1, 6) := by
  refine Go.aloadN d1_0 rfl rfl ?_
  refine Go.arraylength d1_1 rfl (z := 6) rfl ?_
  refine Go.newarray 6 d1_2 (hw _ (List.mem_of_getElem? (i := 2) rfl)) (t := .int) rfl (by decide) (by decide) (by decide) (vs := [.int 0, .int 0, .int 0, .int 0, .int 0, .int 0]) rfl (i := 1) rfl 0 0 (by decide) (by decide) ?_
  show Go _ _ _ _ 4 [.val (.ref 0), .unset, .unset, .unset] [.ref 1] [.inr (.int, [.int s0, .int s1, .int s2, .int s3, .int s4, .int s5]), .inr (.int, [.int 0, .int 0, .int 0, .int 0, .int 0, .int 0])] _
  refine Go.astoreN d1_4 (ls' := [.val (.ref 0), .val (.ref 1), .unset, .unset]) rfl rfl ?_
  refine Go.iconst d1_5 (v := 0) rfl ?_
  refine Go.istoreN d1_6 (ls' := [.val (.ref 0), .val (.ref 1), .val (.int 0), .unset]) rfl ?_
  refine Go.iconst d1_7 (v := 1) rfl ?_
  refine Go.istoreN d1_8 (ls' := [.val (.ref 0), .val (.ref 1), .val (.int 0), .val (.int 1)]) rfl ?_
  have g := go_outer K hw [s0, s1, s2, s3, s4, s5] (by simp) 5 1 0 (List.replicate 6 0) (by simp) (by omega) (by simp) (own_bok0 _)
  exact g
theorem go_t159_6 (K : Ctx) (hw : ∀ d ∈ tables_1, d.before K.2.2.1 K.2.1 = true) (x0 x1 x2 x3 x4 a c d s0 s1 s2 s3 s4 s5 : Int32) : Go K m0 6 144 159 [.val (.int x0), .val (.int x1), .val (.int x2), .val (.int x3), .val (.int x4), .val (.int 6), .val (.int a), .val (.int c), .val (.int d), .val (.ref 0), .unset, .unset] [] [.inr (.int, [.int s0, .int s1, .int s2, .int s3, .int s4, .int s5])] (some (.int 1), none, 15, 122) := by
  refine Go.aload d0_159 rfl rfl ?_
  refine Go.callS (M' := m1) d0_161 (hw _ (List.mem_of_getElem? (i := 3) rfl)) (hw _ (List.mem_of_getElem? (i := 4) rfl)) (hw _ (List.mem_of_getElem? (i := 5) rfl)) (hw _ (List.mem_of_getElem? (i := 6) rfl)) mi1 (as := [.ref 0]) rfl rfl (st := []) rfl (ls1 := [.val (.ref 0), .unset, .unset, .unset]) rfl (W := 0) rfl (by decide) (by decide) (go_of6 K hw s0 s1 s2 s3 s4 s5) 14 116 (by decide) (by decide) ?_
  show Go _ _ _ _ 164 [.val (.int x0), .val (.int x1), .val (.int x2), .val (.int x3), .val (.int x4), .val (.int 6), .val (.int a), .val (.int c), .val (.int d), .val (.ref 0), .unset, .unset] [.ref 1] [.inr (.int, [.int s0, .int s1, .int s2, .int s3, .int s4, .int s5]), .inr (.int, (own_bv (own_kmp (own_E [s0, s1, s2, s3, s4, s5]) 6)))] _
  refine Go.astore d0_164 (ls' := [.val (.int x0), .val (.int x1), .val (.int x2), .val (.int x3), .val (.int x4), .val (.int 6), .val (.int a), .val (.int c), .val (.int d), .val (.ref 0), .val (.ref 1), .unset]) rfl rfl ?_
  refine Go.aload d0_166 rfl rfl ?_
  refine Go.ifnullF d0_168 ?_
  refine Go.aload d0_171 rfl rfl ?_
  refine Go.aload d0_173 rfl rfl ?_
  refine Go.acmpF d0_175 rfl rfl (by decide) ?_
  refine Go.aload d0_178 rfl rfl ?_
  refine Go.arraylength d0_180 rfl (z := 6) (own_klen [s0, s1, s2, s3, s4, s5] (by simp)) ?_
  refine Go.iload d0_181 rfl ?_
  refine Go.icmpT d0_183 j0_183 (XT.ii_eq_t (by decide)) ?_
  refine Go.aload d0_188 rfl rfl ?_
  refine Go.aload d0_190 rfl rfl ?_
  refine Go.iconst d0_192 (v := 0) rfl ?_
  refine Go.iload d0_193 rfl ?_
  refine Go.callS (M' := m2) d0_195 (hw _ (List.mem_of_getElem? (i := 7) rfl)) (hw _ (List.mem_of_getElem? (i := 8) rfl)) (hw _ (List.mem_of_getElem? (i := 9) rfl)) (hw _ (List.mem_of_getElem? (i := 10) rfl)) mi2 (as := [.ref 1, .ref 0, .int 0, .int 6]) rfl rfl (st := []) rfl (ls1 := [.val (.ref 1), .val (.ref 0), .val (.int 0), .val (.int 6)]) rfl (W := 0) rfl (by decide) (by decide) ((go_en_0 K hw _ _ s0 rfl rfl _ 6 rfl (by decide) (own_hr (own_fin6 s0 s1 s2 s3 s4 s5 0 (by decide)) (own_bdv_1 [s0, s1, s2, s3, s4, s5] s0 rfl))).mono (F' := 2) (Lo' := 30) (by decide) (by decide) (Nat.le_refl _) (Nat.le_refl _)) 14 116 (by decide) (by decide) ?_
  show Go _ _ _ _ 198 [.val (.int x0), .val (.int x1), .val (.int x2), .val (.int x3), .val (.int x4), .val (.int 6), .val (.int a), .val (.int c), .val (.int d), .val (.ref 0), .val (.ref 1), .unset] [.int 1] [.inr (.int, [.int s0, .int s1, .int s2, .int s3, .int s4, .int s5]), .inr (.int, (own_bv (own_kmp (own_E [s0, s1, s2, s3, s4, s5]) 6)))] _
  refine Go.istore d0_198 (ls' := [.val (.int x0), .val (.int x1), .val (.int x2), .val (.int x3), .val (.int x4), .val (.int 6), .val (.int a), .val (.int c), .val (.int d), .val (.ref 0), .val (.ref 1), .val (.int 1)]) rfl ?_
  refine Go.iload d0_200 rfl ?_
  refine Go.ifF d0_202 (XT.i0_eq_f (by decide)) ?_
  refine Go.aload d0_205 rfl rfl ?_
  refine Go.aload d0_207 rfl rfl ?_
  refine Go.iconst d0_209 (v := 1) rfl ?_
  refine Go.iload d0_210 rfl ?_
  refine Go.callS (M' := m2) d0_212 (hw _ (List.mem_of_getElem? (i := 7) rfl)) (hw _ (List.mem_of_getElem? (i := 8) rfl)) (hw _ (List.mem_of_getElem? (i := 9) rfl)) (hw _ (List.mem_of_getElem? (i := 10) rfl)) mi2 (as := [.ref 1, .ref 0, .int 1, .int 6]) rfl rfl (st := []) rfl (ls1 := [.val (.ref 1), .val (.ref 0), .val (.int 1), .val (.int 6)]) rfl (W := 0) rfl (by decide) (by decide) ((go_en_1 K hw _ _ s0 s1 rfl rfl rfl _ 6 rfl (by decide) (own_hr (own_fin6 s0 s1 s2 s3 s4 s5 1 (by decide)) (own_bdv_2 [s0, s1, s2, s3, s4, s5] s0 s1 rfl rfl))).mono (F' := 2) (Lo' := 30) (by decide) (by decide) (Nat.le_refl _) (Nat.le_refl _)) 14 116 (by decide) (by decide) ?_
  show Go _ _ _ _ 215 [.val (.int x0), .val (.int x1), .val (.int x2), .val (.int x3), .val (.int x4), .val (.int 6), .val (.int a), .val (.int c), .val (.int d), .val (.ref 0), .val (.ref 1), .val (.int 1)] [.int 1] [.inr (.int, [.int s0, .int s1, .int s2, .int s3, .int s4, .int s5]), .inr (.int, (own_bv (own_kmp (own_E [s0, s1, s2, s3, s4, s5]) 6)))] _
  refine Go.ifF d0_215 (XT.i0_eq_f (by decide)) ?_
  refine Go.iconst d0_218 (v := 1) rfl ?_
  refine Go.goto d0_219 j0_219 ?_
  refine Go.istore d0_223 (ls' := [.val (.int x0), .val (.int x1), .val (.int x2), .val (.int x3), .val (.int x4), .val (.int 6), .val (.int a), .val (.int c), .val (.int d), .val (.ref 0), .val (.ref 1), .val (.int 1)]) rfl ?_
  refine Go.iload d0_225 rfl ?_
  refine Go.ifF d0_227 (XT.i0_eq_f (by decide)) ?_
  refine Go.aload d0_230 rfl rfl ?_
  refine Go.aload d0_232 rfl rfl ?_
  refine Go.iconst d0_234 (v := 2) rfl ?_
  refine Go.iload d0_235 rfl ?_
  refine Go.callS (M' := m2) d0_237 (hw _ (List.mem_of_getElem? (i := 7) rfl)) (hw _ (List.mem_of_getElem? (i := 8) rfl)) (hw _ (List.mem_of_getElem? (i := 9) rfl)) (hw _ (List.mem_of_getElem? (i := 10) rfl)) mi2 (as := [.ref 1, .ref 0, .int 2, .int 6]) rfl rfl (st := []) rfl (ls1 := [.val (.ref 1), .val (.ref 0), .val (.int 2), .val (.int 6)]) rfl (W := 0) rfl (by decide) (by decide) ((go_en_2 K hw _ _ s0 s1 s2 rfl rfl rfl rfl _ 6 rfl (by decide) (own_hr (own_fin6 s0 s1 s2 s3 s4 s5 2 (by decide)) (own_bdv_3 [s0, s1, s2, s3, s4, s5] s0 s1 s2 rfl rfl rfl))).mono (F' := 2) (Lo' := 30) (by decide) (by decide) (Nat.le_refl _) (Nat.le_refl _)) 14 116 (by decide) (by decide) ?_
  show Go _ _ _ _ 240 [.val (.int x0), .val (.int x1), .val (.int x2), .val (.int x3), .val (.int x4), .val (.int 6), .val (.int a), .val (.int c), .val (.int d), .val (.ref 0), .val (.ref 1), .val (.int 1)] [.int 1] [.inr (.int, [.int s0, .int s1, .int s2, .int s3, .int s4, .int s5]), .inr (.int, (own_bv (own_kmp (own_E [s0, s1, s2, s3, s4, s5]) 6)))] _
  refine Go.ifF d0_240 (XT.i0_eq_f (by decide)) ?_
  refine Go.iconst d0_243 (v := 1) rfl ?_
  refine Go.goto d0_244 j0_244 ?_
  refine Go.istore d0_248 (ls' := [.val (.int x0), .val (.int x1), .val (.int x2), .val (.int x3), .val (.int x4), .val (.int 6), .val (.int a), .val (.int c), .val (.int d), .val (.ref 0), .val (.ref 1), .val (.int 1)]) rfl ?_
  refine Go.iload d0_250 rfl ?_
  refine Go.ifF d0_252 (XT.i0_eq_f (by decide)) ?_
  refine Go.aload d0_255 rfl rfl ?_
  refine Go.aload d0_257 rfl rfl ?_
  refine Go.iconst d0_259 (v := 3) rfl ?_
  refine Go.iload d0_260 rfl ?_
  refine Go.callS (M' := m2) d0_262 (hw _ (List.mem_of_getElem? (i := 7) rfl)) (hw _ (List.mem_of_getElem? (i := 8) rfl)) (hw _ (List.mem_of_getElem? (i := 9) rfl)) (hw _ (List.mem_of_getElem? (i := 10) rfl)) mi2 (as := [.ref 1, .ref 0, .int 3, .int 6]) rfl rfl (st := []) rfl (ls1 := [.val (.ref 1), .val (.ref 0), .val (.int 3), .val (.int 6)]) rfl (W := 0) rfl (by decide) (by decide) ((go_en_3 K hw _ _ s0 s1 s2 s3 rfl rfl rfl rfl rfl _ 6 rfl (by decide) (own_hr (own_fin6 s0 s1 s2 s3 s4 s5 3 (by decide)) (own_bdv_4 [s0, s1, s2, s3, s4, s5] s0 s1 s2 s3 rfl rfl rfl rfl))).mono (F' := 2) (Lo' := 30) (by decide) (by decide) (Nat.le_refl _) (Nat.le_refl _)) 14 116 (by decide) (by decide) ?_
  show Go _ _ _ _ 265 [.val (.int x0), .val (.int x1), .val (.int x2), .val (.int x3), .val (.int x4), .val (.int 6), .val (.int a), .val (.int c), .val (.int d), .val (.ref 0), .val (.ref 1), .val (.int 1)] [.int 1] [.inr (.int, [.int s0, .int s1, .int s2, .int s3, .int s4, .int s5]), .inr (.int, (own_bv (own_kmp (own_E [s0, s1, s2, s3, s4, s5]) 6)))] _
  refine Go.ifF d0_265 (XT.i0_eq_f (by decide)) ?_
  refine Go.iconst d0_268 (v := 1) rfl ?_
  refine Go.goto d0_269 j0_269 ?_
  refine Go.istore d0_273 (ls' := [.val (.int x0), .val (.int x1), .val (.int x2), .val (.int x3), .val (.int x4), .val (.int 6), .val (.int a), .val (.int c), .val (.int d), .val (.ref 0), .val (.ref 1), .val (.int 1)]) rfl ?_
  refine Go.iload d0_275 rfl ?_
  refine Go.ifF d0_277 (XT.i0_eq_f (by decide)) ?_
  refine Go.aload d0_280 rfl rfl ?_
  refine Go.aload d0_282 rfl rfl ?_
  refine Go.iconst d0_284 (v := 4) rfl ?_
  refine Go.iload d0_285 rfl ?_
  refine Go.callS (M' := m2) d0_287 (hw _ (List.mem_of_getElem? (i := 7) rfl)) (hw _ (List.mem_of_getElem? (i := 8) rfl)) (hw _ (List.mem_of_getElem? (i := 9) rfl)) (hw _ (List.mem_of_getElem? (i := 10) rfl)) mi2 (as := [.ref 1, .ref 0, .int 4, .int 6]) rfl rfl (st := []) rfl (ls1 := [.val (.ref 1), .val (.ref 0), .val (.int 4), .val (.int 6)]) rfl (W := 0) rfl (by decide) (by decide) ((go_en_4 K hw _ _ s0 s1 s2 s3 s4 rfl rfl rfl rfl rfl rfl _ 6 rfl (by decide) (own_hr (own_fin6 s0 s1 s2 s3 s4 s5 4 (by decide)) (own_bdv_5 [s0, s1, s2, s3, s4, s5] s0 s1 s2 s3 s4 rfl rfl rfl rfl rfl))).mono (F' := 2) (Lo' := 30) (by decide) (by decide) (Nat.le_refl _) (Nat.le_refl _)) 14 116 (by decide) (by decide) ?_
  show Go _ _ _ _ 290 [.val (.int x0), .val (.int x1), .val (.int x2), .val (.int x3), .val (.int x4), .val (.int 6), .val (.int a), .val (.int c), .val (.int d), .val (.ref 0), .val (.ref 1), .val (.int 1)] [.int 1] [.inr (.int, [.int s0, .int s1, .int s2, .int s3, .int s4, .int s5]), .inr (.int, (own_bv (own_kmp (own_E [s0, s1, s2, s3, s4, s5]) 6)))] _
  refine Go.ifF d0_290 (XT.i0_eq_f (by decide)) ?_
  refine Go.iconst d0_293 (v := 1) rfl ?_
  refine Go.goto d0_294 j0_294 ?_
  refine Go.istore d0_298 (ls' := [.val (.int x0), .val (.int x1), .val (.int x2), .val (.int x3), .val (.int x4), .val (.int 6), .val (.int a), .val (.int c), .val (.int d), .val (.ref 0), .val (.ref 1), .val (.int 1)]) rfl ?_
  refine Go.iload d0_300 rfl ?_
  refine Go.ifF d0_302 (XT.i0_eq_f (by decide)) ?_
  refine Go.aload d0_305 rfl rfl ?_
  refine Go.aload d0_307 rfl rfl ?_
  refine Go.iconst d0_309 (v := 5) rfl ?_
  refine Go.iload d0_310 rfl ?_
  refine Go.callS (M' := m2) d0_312 (hw _ (List.mem_of_getElem? (i := 7) rfl)) (hw _ (List.mem_of_getElem? (i := 8) rfl)) (hw _ (List.mem_of_getElem? (i := 9) rfl)) (hw _ (List.mem_of_getElem? (i := 10) rfl)) mi2 (as := [.ref 1, .ref 0, .int 5, .int 6]) rfl rfl (st := []) rfl (ls1 := [.val (.ref 1), .val (.ref 0), .val (.int 5), .val (.int 6)]) rfl (W := 0) rfl (by decide) (by decide) ((go_en_5 K hw _ _ s0 s1 s2 s3 s4 s5 rfl rfl rfl rfl rfl rfl rfl _ 6 rfl (by decide) (own_hr (own_fin6 s0 s1 s2 s3 s4 s5 5 (by decide)) (own_bdv_6 [s0, s1, s2, s3, s4, s5] s0 s1 s2 s3 s4 s5 rfl rfl rfl rfl rfl rfl))).mono (F' := 2) (Lo' := 30) (by decide) (by decide) (Nat.le_refl _) (Nat.le_refl _)) 14 116 (by decide) (by decide) ?_
  show Go _ _ _ _ 315 [.val (.int x0), .val (.int x1), .val (.int x2), .val (.int x3), .val (.int x4), .val (.int 6), .val (.int a), .val (.int c), .val (.int d), .val (.ref 0), .val (.ref 1), .val (.int 1)] [.int 1] [.inr (.int, [.int s0, .int s1, .int s2, .int s3, .int s4, .int s5]), .inr (.int, (own_bv (own_kmp (own_E [s0, s1, s2, s3, s4, s5]) 6)))] _
  refine Go.ifF d0_315 (XT.i0_eq_f (by decide)) ?_
  refine Go.iconst d0_318 (v := 1) rfl ?_
  refine Go.goto d0_319 j0_319 ?_
  refine Go.istore d0_323 (ls' := [.val (.int x0), .val (.int x1), .val (.int x2), .val (.int x3), .val (.int x4), .val (.int 6), .val (.int a), .val (.int c), .val (.int d), .val (.ref 0), .val (.ref 1), .val (.int 1)]) rfl ?_
  refine Go.iload d0_325 rfl ?_
  exact Go.ireturnZ d0_327 rfl (by decide) rfl HOk.any
theorem go_law (K : Ctx) (hw : ∀ d ∈ tables_1, d.before K.2.2.1 K.2.1 = true) (x0 : Int32) (x1 : Int32) (x2 : Int32) (x3 : Int32) (x4 : Int32) : Go K m0 6 144 0 [.val (.int x0), .val (.int x1), .val (.int x2), .val (.int x3), .val (.int x4), .unset, .unset, .unset, .unset, .unset, .unset, .unset] [] [] (some (.int 1), none, 16, 128) := by
  refine Go.iloadN d0_0 rfl ?_
  refine Go.ldc d0_1 (hw _ (List.mem_of_getElem? (i := 0) rfl)) ?_
  refine Go.iand d0_3 ?_
  refine Go.bipush d0_4 (v := 7) rfl ?_
  refine Go.irem d0_6 (by decide) ?_
  refine Go.istore d0_7 (ls' := [.val (.int x0), .val (.int x1), .val (.int x2), .val (.int x3), .val (.int x4), .val (.int ((x0 &&& 2147483647) % 7)), .unset, .unset, .unset, .unset, .unset, .unset]) rfl ?_
  refine Go.iloadN d0_9 rfl ?_
  refine Go.ldc d0_10 (hw _ (List.mem_of_getElem? (i := 1) rfl)) ?_
  refine Go.iand d0_12 ?_
  refine Go.istore d0_13 (ls' := [.val (.int x0), .val (.int x1), .val (.int x2), .val (.int x3), .val (.int x4), .val (.int ((x0 &&& 2147483647) % 7)), .val (.int (x2 &&& 65535)), .unset, .unset, .unset, .unset, .unset]) rfl ?_
  refine Go.iloadN d0_15 rfl ?_
  refine Go.ldc d0_16 (hw _ (List.mem_of_getElem? (i := 1) rfl)) ?_
  refine Go.iand d0_18 ?_
  refine Go.istore d0_19 (ls' := [.val (.int x0), .val (.int x1), .val (.int x2), .val (.int x3), .val (.int x4), .val (.int ((x0 &&& 2147483647) % 7)), .val (.int (x2 &&& 65535)), .val (.int (x3 &&& 65535)), .unset, .unset, .unset, .unset]) rfl ?_
  refine Go.iload d0_21 rfl ?_
  refine Go.ldc d0_23 (hw _ (List.mem_of_getElem? (i := 1) rfl)) ?_
  refine Go.iand d0_25 ?_
  refine Go.istore d0_26 (ls' := [.val (.int x0), .val (.int x1), .val (.int x2), .val (.int x3), .val (.int x4), .val (.int ((x0 &&& 2147483647) % 7)), .val (.int (x2 &&& 65535)), .val (.int (x3 &&& 65535)), .val (.int (x4 &&& 65535)), .unset, .unset, .unset]) rfl ?_
  rcases own_i7 x0 with h | h | h | h | h | h | h <;> rw [h]
  · -- n = 0
    refine Go.iload d0_28 rfl ?_
    refine Go.newarray 0 d0_30 (hw _ (List.mem_of_getElem? (i := 2) rfl)) (t := .int) rfl (by decide) (by decide) (by decide) (vs := []) rfl (i := 0) rfl 15 128 (by decide) (by decide) ?_
    show Go _ _ _ _ 32 [.val (.int x0), .val (.int x1), .val (.int x2), .val (.int x3), .val (.int x4), .val (.int 0), .val (.int (x2 &&& 65535)), .val (.int (x3 &&& 65535)), .val (.int (x4 &&& 65535)), .unset, .unset, .unset] [.ref 0] [.inr (.int, [])] _
    refine Go.astore d0_32 (ls' := [.val (.int x0), .val (.int x1), .val (.int x2), .val (.int x3), .val (.int x4), .val (.int 0), .val (.int (x2 &&& 65535)), .val (.int (x3 &&& 65535)), .val (.int (x4 &&& 65535)), .val (.ref 0), .unset, .unset]) rfl rfl ?_
    refine Go.iload d0_34 rfl ?_
    refine Go.ifT d0_36 j0_36 (XT.i0_le_t (by decide)) ?_
    refine Go.iload d0_54 rfl ?_
    refine Go.iconst d0_56 (v := 1) rfl ?_
    refine Go.icmpT d0_57 j0_57 (XT.ii_le_t (by decide)) ?_
    refine Go.iload d0_75 rfl ?_
    refine Go.iconst d0_77 (v := 2) rfl ?_
    refine Go.icmpT d0_78 j0_78 (XT.ii_le_t (by decide)) ?_
    refine Go.iload d0_96 rfl ?_
    refine Go.iconst d0_98 (v := 3) rfl ?_
    refine Go.icmpT d0_99 j0_99 (XT.ii_le_t (by decide)) ?_
    refine Go.iload d0_117 rfl ?_
    refine Go.iconst d0_119 (v := 4) rfl ?_
    refine Go.icmpT d0_120 j0_120 (XT.ii_le_t (by decide)) ?_
    refine Go.iload d0_138 rfl ?_
    refine Go.iconst d0_140 (v := 5) rfl ?_
    refine Go.icmpT d0_141 j0_141 (XT.ii_le_t (by decide)) ?_
    exact go_t159_0 K hw _ _ _ _ _ _ _ _ 
  · -- n = 1
    refine Go.iload d0_28 rfl ?_
    refine Go.newarray 1 d0_30 (hw _ (List.mem_of_getElem? (i := 2) rfl)) (t := .int) rfl (by decide) (by decide) (by decide) (vs := [.int 0]) rfl (i := 0) rfl 15 127 (by decide) (by decide) ?_
    show Go _ _ _ _ 32 [.val (.int x0), .val (.int x1), .val (.int x2), .val (.int x3), .val (.int x4), .val (.int 1), .val (.int (x2 &&& 65535)), .val (.int (x3 &&& 65535)), .val (.int (x4 &&& 65535)), .unset, .unset, .unset] [.ref 0] [.inr (.int, [.int 0])] _
    refine Go.astore d0_32 (ls' := [.val (.int x0), .val (.int x1), .val (.int x2), .val (.int x3), .val (.int x4), .val (.int 1), .val (.int (x2 &&& 65535)), .val (.int (x3 &&& 65535)), .val (.int (x4 &&& 65535)), .val (.ref 0), .unset, .unset]) rfl rfl ?_
    refine Go.iload d0_34 rfl ?_
    refine Go.ifF d0_36 (XT.i0_le_f (by decide)) ?_
    refine Go.aload d0_39 rfl rfl ?_
    refine Go.iconst d0_41 (v := 0) rfl ?_
    refine Go.iloadN d0_42 rfl ?_
    refine Go.iconst d0_43 (v := 0) rfl ?_
    refine Go.iload d0_44 rfl ?_
    refine Go.iload d0_46 rfl ?_
    refine Go.iload d0_48 rfl ?_
    refine Go.callS (M' := m3) d0_50 (hw _ (List.mem_of_getElem? (i := 11) rfl)) (hw _ (List.mem_of_getElem? (i := 12) rfl)) (hw _ (List.mem_of_getElem? (i := 9) rfl)) (hw _ (List.mem_of_getElem? (i := 13) rfl)) mi3 (as := [.int x1, .int 0, .int (x2 &&& 65535), .int (x3 &&& 65535), .int (x4 &&& 65535)]) rfl rfl (st := [.int 0, .ref 0]) rfl (ls1 := [.val (.int x1), .val (.int 0), .val (.int (x2 &&& 65535)), .val (.int (x3 &&& 65535)), .val (.int (x4 &&& 65535)), .unset]) rfl (W := 2) rfl (by decide) (by decide) (go_own_sym K hw x1 0 (x2 &&& 65535) (x3 &&& 65535) (x4 &&& 65535) _) 15 127 (by decide) (by decide) ?_
    show Go _ _ _ _ 53 [.val (.int x0), .val (.int x1), .val (.int x2), .val (.int x3), .val (.int x4), .val (.int 1), .val (.int (x2 &&& 65535)), .val (.int (x3 &&& 65535)), .val (.int (x4 &&& 65535)), .val (.ref 0), .unset, .unset] [.int (own_sym x1 0 (x2 &&& 65535) (x3 &&& 65535) (x4 &&& 65535)), .int 0, .ref 0] [.inr (.int, [.int 0])] _
    refine Go.iastore d0_53 rfl (by decide) (Nat.le_of_ble_eq_true rfl) (H1 := [.inr (.int, [.int (own_sym x1 0 (x2 &&& 65535) (x3 &&& 65535) (x4 &&& 65535))])]) rfl ?_
    refine Go.iload d0_54 rfl ?_
    refine Go.iconst d0_56 (v := 1) rfl ?_
    refine Go.icmpT d0_57 j0_57 (XT.ii_le_t (by decide)) ?_
    refine Go.iload d0_75 rfl ?_
    refine Go.iconst d0_77 (v := 2) rfl ?_
    refine Go.icmpT d0_78 j0_78 (XT.ii_le_t (by decide)) ?_
    refine Go.iload d0_96 rfl ?_
    refine Go.iconst d0_98 (v := 3) rfl ?_
    refine Go.icmpT d0_99 j0_99 (XT.ii_le_t (by decide)) ?_
    refine Go.iload d0_117 rfl ?_
    refine Go.iconst d0_119 (v := 4) rfl ?_
    refine Go.icmpT d0_120 j0_120 (XT.ii_le_t (by decide)) ?_
    refine Go.iload d0_138 rfl ?_
    refine Go.iconst d0_140 (v := 5) rfl ?_
    refine Go.icmpT d0_141 j0_141 (XT.ii_le_t (by decide)) ?_
    exact go_t159_1 K hw _ _ _ _ _ _ _ _ _ 
  · -- n = 2
    refine Go.iload d0_28 rfl ?_
    refine Go.newarray 2 d0_30 (hw _ (List.mem_of_getElem? (i := 2) rfl)) (t := .int) rfl (by decide) (by decide) (by decide) (vs := [.int 0, .int 0]) rfl (i := 0) rfl 15 126 (by decide) (by decide) ?_
    show Go _ _ _ _ 32 [.val (.int x0), .val (.int x1), .val (.int x2), .val (.int x3), .val (.int x4), .val (.int 2), .val (.int (x2 &&& 65535)), .val (.int (x3 &&& 65535)), .val (.int (x4 &&& 65535)), .unset, .unset, .unset] [.ref 0] [.inr (.int, [.int 0, .int 0])] _
    refine Go.astore d0_32 (ls' := [.val (.int x0), .val (.int x1), .val (.int x2), .val (.int x3), .val (.int x4), .val (.int 2), .val (.int (x2 &&& 65535)), .val (.int (x3 &&& 65535)), .val (.int (x4 &&& 65535)), .val (.ref 0), .unset, .unset]) rfl rfl ?_
    refine Go.iload d0_34 rfl ?_
    refine Go.ifF d0_36 (XT.i0_le_f (by decide)) ?_
    refine Go.aload d0_39 rfl rfl ?_
    refine Go.iconst d0_41 (v := 0) rfl ?_
    refine Go.iloadN d0_42 rfl ?_
    refine Go.iconst d0_43 (v := 0) rfl ?_
    refine Go.iload d0_44 rfl ?_
    refine Go.iload d0_46 rfl ?_
    refine Go.iload d0_48 rfl ?_
    refine Go.callS (M' := m3) d0_50 (hw _ (List.mem_of_getElem? (i := 11) rfl)) (hw _ (List.mem_of_getElem? (i := 12) rfl)) (hw _ (List.mem_of_getElem? (i := 9) rfl)) (hw _ (List.mem_of_getElem? (i := 13) rfl)) mi3 (as := [.int x1, .int 0, .int (x2 &&& 65535), .int (x3 &&& 65535), .int (x4 &&& 65535)]) rfl rfl (st := [.int 0, .ref 0]) rfl (ls1 := [.val (.int x1), .val (.int 0), .val (.int (x2 &&& 65535)), .val (.int (x3 &&& 65535)), .val (.int (x4 &&& 65535)), .unset]) rfl (W := 2) rfl (by decide) (by decide) (go_own_sym K hw x1 0 (x2 &&& 65535) (x3 &&& 65535) (x4 &&& 65535) _) 15 126 (by decide) (by decide) ?_
    show Go _ _ _ _ 53 [.val (.int x0), .val (.int x1), .val (.int x2), .val (.int x3), .val (.int x4), .val (.int 2), .val (.int (x2 &&& 65535)), .val (.int (x3 &&& 65535)), .val (.int (x4 &&& 65535)), .val (.ref 0), .unset, .unset] [.int (own_sym x1 0 (x2 &&& 65535) (x3 &&& 65535) (x4 &&& 65535)), .int 0, .ref 0] [.inr (.int, [.int 0, .int 0])] _
    refine Go.iastore d0_53 rfl (by decide) (Nat.le_of_ble_eq_true rfl) (H1 := [.inr (.int, [.int (own_sym x1 0 (x2 &&& 65535) (x3 &&& 65535) (x4 &&& 65535)), .int 0])]) rfl ?_
    refine Go.iload d0_54 rfl ?_
    refine Go.iconst d0_56 (v := 1) rfl ?_
    refine Go.icmpF d0_57 (XT.ii_le_f (by decide)) ?_
    refine Go.aload d0_60 rfl rfl ?_
    refine Go.iconst d0_62 (v := 1) rfl ?_
    refine Go.iloadN d0_63 rfl ?_
    refine Go.iconst d0_64 (v := 1) rfl ?_
    refine Go.iload d0_65 rfl ?_
    refine Go.iload d0_67 rfl ?_
    refine Go.iload d0_69 rfl ?_
    refine Go.callS (M' := m3) d0_71 (hw _ (List.mem_of_getElem? (i := 11) rfl)) (hw _ (List.mem_of_getElem? (i := 12) rfl)) (hw _ (List.mem_of_getElem? (i := 9) rfl)) (hw _ (List.mem_of_getElem? (i := 13) rfl)) mi3 (as := [.int x1, .int 1, .int (x2 &&& 65535), .int (x3 &&& 65535), .int (x4 &&& 65535)]) rfl rfl (st := [.int 1, .ref 0]) rfl (ls1 := [.val (.int x1), .val (.int 1), .val (.int (x2 &&& 65535)), .val (.int (x3 &&& 65535)), .val (.int (x4 &&& 65535)), .unset]) rfl (W := 2) rfl (by decide) (by decide) (go_own_sym K hw x1 1 (x2 &&& 65535) (x3 &&& 65535) (x4 &&& 65535) _) 15 126 (by decide) (by decide) ?_
    show Go _ _ _ _ 74 [.val (.int x0), .val (.int x1), .val (.int x2), .val (.int x3), .val (.int x4), .val (.int 2), .val (.int (x2 &&& 65535)), .val (.int (x3 &&& 65535)), .val (.int (x4 &&& 65535)), .val (.ref 0), .unset, .unset] [.int (own_sym x1 1 (x2 &&& 65535) (x3 &&& 65535) (x4 &&& 65535)), .int 1, .ref 0] [.inr (.int, [.int (own_sym x1 0 (x2 &&& 65535) (x3 &&& 65535) (x4 &&& 65535)), .int 0])] _
    refine Go.iastore d0_74 rfl (by decide) (Nat.le_of_ble_eq_true rfl) (H1 := [.inr (.int, [.int (own_sym x1 0 (x2 &&& 65535) (x3 &&& 65535) (x4 &&& 65535)), .int (own_sym x1 1 (x2 &&& 65535) (x3 &&& 65535) (x4 &&& 65535))])]) rfl ?_
    refine Go.iload d0_75 rfl ?_
    refine Go.iconst d0_77 (v := 2) rfl ?_
    refine Go.icmpT d0_78 j0_78 (XT.ii_le_t (by decide)) ?_
    refine Go.iload d0_96 rfl ?_
    refine Go.iconst d0_98 (v := 3) rfl ?_
    refine Go.icmpT d0_99 j0_99 (XT.ii_le_t (by decide)) ?_
    refine Go.iload d0_117 rfl ?_
    refine Go.iconst d0_119 (v := 4) rfl ?_
    refine Go.icmpT d0_120 j0_120 (XT.ii_le_t (by decide)) ?_
    refine Go.iload d0_138 rfl ?_
    refine Go.iconst d0_140 (v := 5) rfl ?_
    refine Go.icmpT d0_141 j0_141 (XT.ii_le_t (by decide)) ?_
    exact go_t159_2 K hw _ _ _ _ _ _ _ _ _ _ 
  · -- n = 3
    refine Go.iload d0_28 rfl ?_
    refine Go.newarray 3 d0_30 (hw _ (List.mem_of_getElem? (i := 2) rfl)) (t := .int) rfl (by decide) (by decide) (by decide) (vs := [.int 0, .int 0, .int 0]) rfl (i := 0) rfl 15 125 (by decide) (by decide) ?_
    show Go _ _ _ _ 32 [.val (.int x0), .val (.int x1), .val (.int x2), .val (.int x3), .val (.int x4), .val (.int 3), .val (.int (x2 &&& 65535)), .val (.int (x3 &&& 65535)), .val (.int (x4 &&& 65535)), .unset, .unset, .unset] [.ref 0] [.inr (.int, [.int 0, .int 0, .int 0])] _
    refine Go.astore d0_32 (ls' := [.val (.int x0), .val (.int x1), .val (.int x2), .val (.int x3), .val (.int x4), .val (.int 3), .val (.int (x2 &&& 65535)), .val (.int (x3 &&& 65535)), .val (.int (x4 &&& 65535)), .val (.ref 0), .unset, .unset]) rfl rfl ?_
    refine Go.iload d0_34 rfl ?_
    refine Go.ifF d0_36 (XT.i0_le_f (by decide)) ?_
    refine Go.aload d0_39 rfl rfl ?_
    refine Go.iconst d0_41 (v := 0) rfl ?_
    refine Go.iloadN d0_42 rfl ?_
    refine Go.iconst d0_43 (v := 0) rfl ?_
    refine Go.iload d0_44 rfl ?_
    refine Go.iload d0_46 rfl ?_
    refine Go.iload d0_48 rfl ?_
    refine Go.callS (M' := m3) d0_50 (hw _ (List.mem_of_getElem? (i := 11) rfl)) (hw _ (List.mem_of_getElem? (i := 12) rfl)) (hw _ (List.mem_of_getElem? (i := 9) rfl)) (hw _ (List.mem_of_getElem? (i := 13) rfl)) mi3 (as := [.int x1, .int 0, .int (x2 &&& 65535), .int (x3 &&& 65535), .int (x4 &&& 65535)]) rfl rfl (st := [.int 0, .ref 0]) rfl (ls1 := [.val (.int x1), .val (.int 0), .val (.int (x2 &&& 65535)), .val (.int (x3 &&& 65535)), .val (.int (x4 &&& 65535)), .unset]) rfl (W := 2) rfl (by decide) (by decide) (go_own_sym K hw x1 0 (x2 &&& 65535) (x3 &&& 65535) (x4 &&& 65535) _) 15 125 (by decide) (by decide) ?_
    show Go _ _ _ _ 53 [.val (.int x0), .val (.int x1), .val (.int x2), .val (.int x3), .val (.int x4), .val (.int 3), .val (.int (x2 &&& 65535)), .val (.int (x3 &&& 65535)), .val (.int (x4 &&& 65535)), .val (.ref 0), .unset, .unset] [.int (own_sym x1 0 (x2 &&& 65535) (x3 &&& 65535) (x4 &&& 65535)), .int 0, .ref 0] [.inr (.int, [.int 0, .int 0, .int 0])] _
    refine Go.iastore d0_53 rfl (by decide) (Nat.le_of_ble_eq_true rfl) (H1 := [.inr (.int, [.int (own_sym x1 0 (x2 &&& 65535) (x3 &&& 65535) (x4 &&& 65535)), .int 0, .int 0])]) rfl ?_
    refine Go.iload d0_54 rfl ?_
    refine Go.iconst d0_56 (v := 1) rfl ?_
    refine Go.icmpF d0_57 (XT.ii_le_f (by decide)) ?_
    refine Go.aload d0_60 rfl rfl ?_
    refine Go.iconst d0_62 (v := 1) rfl ?_
    refine Go.iloadN d0_63 rfl ?_
    refine Go.iconst d0_64 (v := 1) rfl ?_
    refine Go.iload d0_65 rfl ?_
    refine Go.iload d0_67 rfl ?_
    refine Go.iload d0_69 rfl ?_
    refine Go.callS (M' := m3) d0_71 (hw _ (List.mem_of_getElem? (i := 11) rfl)) (hw _ (List.mem_of_getElem? (i := 12) rfl)) (hw _ (List.mem_of_getElem? (i := 9) rfl)) (hw _ (List.mem_of_getElem? (i := 13) rfl)) mi3 (as := [.int x1, .int 1, .int (x2 &&& 65535), .int (x3 &&& 65535), .int (x4 &&& 65535)]) rfl rfl (st := [.int 1, .ref 0]) rfl (ls1 := [.val (.int x1), .val (.int 1), .val (.int (x2 &&& 65535)), .val (.int (x3 &&& 65535)), .val (.int (x4 &&& 65535)), .unset]) rfl (W := 2) rfl (by decide) (by decide) (go_own_sym K hw x1 1 (x2 &&& 65535) (x3 &&& 65535) (x4 &&& 65535) _) 15 125 (by decide) (by decide) ?_
    show Go _ _ _ _ 74 [.val (.int x0), .val (.int x1), .val (.int x2), .val (.int x3), .val (.int x4), .val (.int 3), .val (.int (x2 &&& 65535)), .val (.int (x3 &&& 65535)), .val (.int (x4 &&& 65535)), .val (.ref 0), .unset, .unset] [.int (own_sym x1 1 (x2 &&& 65535) (x3 &&& 65535) (x4 &&& 65535)), .int 1, .ref 0] [.inr (.int, [.int (own_sym x1 0 (x2 &&& 65535) (x3 &&& 65535) (x4 &&& 65535)), .int 0, .int 0])] _
    refine Go.iastore d0_74 rfl (by decide) (Nat.le_of_ble_eq_true rfl) (H1 := [.inr (.int, [.int (own_sym x1 0 (x2 &&& 65535) (x3 &&& 65535) (x4 &&& 65535)), .int (own_sym x1 1 (x2 &&& 65535) (x3 &&& 65535) (x4 &&& 65535)), .int 0])]) rfl ?_
    refine Go.iload d0_75 rfl ?_
    refine Go.iconst d0_77 (v := 2) rfl ?_
    refine Go.icmpF d0_78 (XT.ii_le_f (by decide)) ?_
    refine Go.aload d0_81 rfl rfl ?_
    refine Go.iconst d0_83 (v := 2) rfl ?_
    refine Go.iloadN d0_84 rfl ?_
    refine Go.iconst d0_85 (v := 2) rfl ?_
    refine Go.iload d0_86 rfl ?_
    refine Go.iload d0_88 rfl ?_
    refine Go.iload d0_90 rfl ?_
    refine Go.callS (M' := m3) d0_92 (hw _ (List.mem_of_getElem? (i := 11) rfl)) (hw _ (List.mem_of_getElem? (i := 12) rfl)) (hw _ (List.mem_of_getElem? (i := 9) rfl)) (hw _ (List.mem_of_getElem? (i := 13) rfl)) mi3 (as := [.int x1, .int 2, .int (x2 &&& 65535), .int (x3 &&& 65535), .int (x4 &&& 65535)]) rfl rfl (st := [.int 2, .ref 0]) rfl (ls1 := [.val (.int x1), .val (.int 2), .val (.int (x2 &&& 65535)), .val (.int (x3 &&& 65535)), .val (.int (x4 &&& 65535)), .unset]) rfl (W := 2) rfl (by decide) (by decide) (go_own_sym K hw x1 2 (x2 &&& 65535) (x3 &&& 65535) (x4 &&& 65535) _) 15 125 (by decide) (by decide) ?_
    show Go _ _ _ _ 95 [.val (.int x0), .val (.int x1), .val (.int x2), .val (.int x3), .val (.int x4), .val (.int 3), .val (.int (x2 &&& 65535)), .val (.int (x3 &&& 65535)), .val (.int (x4 &&& 65535)), .val (.ref 0), .unset, .unset] [.int (own_sym x1 2 (x2 &&& 65535) (x3 &&& 65535) (x4 &&& 65535)), .int 2, .ref 0] [.inr (.int, [.int (own_sym x1 0 (x2 &&& 65535) (x3 &&& 65535) (x4 &&& 65535)), .int (own_sym x1 1 (x2 &&& 65535) (x3 &&& 65535) (x4 &&& 65535)), .int 0])] _
    refine Go.iastore d0_95 rfl (by decide) (Nat.le_of_ble_eq_true rfl) (H1 := [.inr (.int, [.int (own_sym x1 0 (x2 &&& 65535) (x3 &&& 65535) (x4 &&& 65535)), .int (own_sym x1 1 (x2 &&& 65535) (x3 &&& 65535) (x4 &&& 65535)), .int (own_sym x1 2 (x2 &&& 65535) (x3 &&& 65535) (x4 &&& 65535))])]) rfl ?_
    refine Go.iload d0_96 rfl ?_
    refine Go.iconst d0_98 (v := 3) rfl ?_
    refine Go.icmpT d0_99 j0_99 (XT.ii_le_t (by decide)) ?_
    refine Go.iload d0_117 rfl ?_
    refine Go.iconst d0_119 (v := 4) rfl ?_
    refine Go.icmpT d0_120 j0_120 (XT.ii_le_t (by decide)) ?_
    refine Go.iload d0_138 rfl ?_
    refine Go.iconst d0_140 (v := 5) rfl ?_
    refine Go.icmpT d0_141 j0_141 (XT.ii_le_t (by decide)) ?_
    exact go_t159_3 K hw _ _ _ _ _ _ _ _ _ _ _ 
  · -- n = 4
    refine Go.iload d0_28 rfl ?_
    refine Go.newarray 4 d0_30 (hw _ (List.mem_of_getElem? (i := 2) rfl)) (t := .int) rfl (by decide) (by decide) (by decide) (vs := [.int 0, .int 0, .int 0, .int 0]) rfl (i := 0) rfl 15 124 (by decide) (by decide) ?_
    show Go _ _ _ _ 32 [.val (.int x0), .val (.int x1), .val (.int x2), .val (.int x3), .val (.int x4), .val (.int 4), .val (.int (x2 &&& 65535)), .val (.int (x3 &&& 65535)), .val (.int (x4 &&& 65535)), .unset, .unset, .unset] [.ref 0] [.inr (.int, [.int 0, .int 0, .int 0, .int 0])] _
    refine Go.astore d0_32 (ls' := [.val (.int x0), .val (.int x1), .val (.int x2), .val (.int x3), .val (.int x4), .val (.int 4), .val (.int (x2 &&& 65535)), .val (.int (x3 &&& 65535)), .val (.int (x4 &&& 65535)), .val (.ref 0), .unset, .unset]) rfl rfl ?_
    refine Go.iload d0_34 rfl ?_
    refine Go.ifF d0_36 (XT.i0_le_f (by decide)) ?_
    refine Go.aload d0_39 rfl rfl ?_
    refine Go.iconst d0_41 (v := 0) rfl ?_
    refine Go.iloadN d0_42 rfl ?_
    refine Go.iconst d0_43 (v := 0) rfl ?_
    refine Go.iload d0_44 rfl ?_
    refine Go.iload d0_46 rfl ?_
    refine Go.iload d0_48 rfl ?_
    refine Go.callS (M' := m3) d0_50 (hw _ (List.mem_of_getElem? (i := 11) rfl)) (hw _ (List.mem_of_getElem? (i := 12) rfl)) (hw _ (List.mem_of_getElem? (i := 9) rfl)) (hw _ (List.mem_of_getElem? (i := 13) rfl)) mi3 (as := [.int x1, .int 0, .int (x2 &&& 65535), .int (x3 &&& 65535), .int (x4 &&& 65535)]) rfl rfl (st := [.int 0, .ref 0]) rfl (ls1 := [.val (.int x1), .val (.int 0), .val (.int (x2 &&& 65535)), .val (.int (x3 &&& 65535)), .val (.int (x4 &&& 65535)), .unset]) rfl (W := 2) rfl (by decide) (by decide) (go_own_sym K hw x1 0 (x2 &&& 65535) (x3 &&& 65535) (x4 &&& 65535) _) 15 124 (by decide) (by decide) ?_
    show Go _ _ _ _ 53 [.val (.int x0), .val (.int x1), .val (.int x2), .val (.int x3), .val (.int x4), .val (.int 4), .val (.int (x2 &&& 65535)), .val (.int (x3 &&& 65535)), .val (.int (x4 &&& 65535)), .val (.ref 0), .unset, .unset] [.int (own_sym x1 0 (x2 &&& 65535) (x3 &&& 65535) (x4 &&& 65535)), .int 0, .ref 0] [.inr (.int, [.int 0, .int 0, .int 0, .int 0])] _
    refine Go.iastore d0_53 rfl (by decide) (Nat.le_of_ble_eq_true rfl) (H1 := [.inr (.int, [.int (own_sym x1 0 (x2 &&& 65535) (x3 &&& 65535) (x4 &&& 65535)), .int 0, .int 0, .int 0])]) rfl ?_
    refine Go.iload d0_54 rfl ?_
    refine Go.iconst d0_56 (v := 1) rfl ?_
    refine Go.icmpF d0_57 (XT.ii_le_f (by decide)) ?_
    refine Go.aload d0_60 rfl rfl ?_
    refine Go.iconst d0_62 (v := 1) rfl ?_
    refine Go.iloadN d0_63 rfl ?_
    refine Go.iconst d0_64 (v := 1) rfl ?_
    refine Go.iload d0_65 rfl ?_
    refine Go.iload d0_67 rfl ?_
    refine Go.iload d0_69 rfl ?_
    refine Go.callS (M' := m3) d0_71 (hw _ (List.mem_of_getElem? (i := 11) rfl)) (hw _ (List.mem_of_getElem? (i := 12) rfl)) (hw _ (List.mem_of_getElem? (i := 9) rfl)) (hw _ (List.mem_of_getElem? (i := 13) rfl)) mi3 (as := [.int x1, .int 1, .int (x2 &&& 65535), .int (x3 &&& 65535), .int (x4 &&& 65535)]) rfl rfl (st := [.int 1, .ref 0]) rfl (ls1 := [.val (.int x1), .val (.int 1), .val (.int (x2 &&& 65535)), .val (.int (x3 &&& 65535)), .val (.int (x4 &&& 65535)), .unset]) rfl (W := 2) rfl (by decide) (by decide) (go_own_sym K hw x1 1 (x2 &&& 65535) (x3 &&& 65535) (x4 &&& 65535) _) 15 124 (by decide) (by decide) ?_
    show Go _ _ _ _ 74 [.val (.int x0), .val (.int x1), .val (.int x2), .val (.int x3), .val (.int x4), .val (.int 4), .val (.int (x2 &&& 65535)), .val (.int (x3 &&& 65535)), .val (.int (x4 &&& 65535)), .val (.ref 0), .unset, .unset] [.int (own_sym x1 1 (x2 &&& 65535) (x3 &&& 65535) (x4 &&& 65535)), .int 1, .ref 0] [.inr (.int, [.int (own_sym x1 0 (x2 &&& 65535) (x3 &&& 65535) (x4 &&& 65535)), .int 0, .int 0, .int 0])] _
    refine Go.iastore d0_74 rfl (by decide) (Nat.le_of_ble_eq_true rfl) (H1 := [.inr (.int, [.int (own_sym x1 0 (x2 &&& 65535) (x3 &&& 65535) (x4 &&& 65535)), .int (own_sym x1 1 (x2 &&& 65535) (x3 &&& 65535) (x4 &&& 65535)), .int 0, .int 0])]) rfl ?_
    refine Go.iload d0_75 rfl ?_
    refine Go.iconst d0_77 (v := 2) rfl ?_
    refine Go.icmpF d0_78 (XT.ii_le_f (by decide)) ?_
    refine Go.aload d0_81 rfl rfl ?_
    refine Go.iconst d0_83 (v := 2) rfl ?_
    refine Go.iloadN d0_84 rfl ?_
    refine Go.iconst d0_85 (v := 2) rfl ?_
    refine Go.iload d0_86 rfl ?_
    refine Go.iload d0_88 rfl ?_
    refine Go.iload d0_90 rfl ?_
    refine Go.callS (M' := m3) d0_92 (hw _ (List.mem_of_getElem? (i := 11) rfl)) (hw _ (List.mem_of_getElem? (i := 12) rfl)) (hw _ (List.mem_of_getElem? (i := 9) rfl)) (hw _ (List.mem_of_getElem? (i := 13) rfl)) mi3 (as := [.int x1, .int 2, .int (x2 &&& 65535), .int (x3 &&& 65535), .int (x4 &&& 65535)]) rfl rfl (st := [.int 2, .ref 0]) rfl (ls1 := [.val (.int x1), .val (.int 2), .val (.int (x2 &&& 65535)), .val (.int (x3 &&& 65535)), .val (.int (x4 &&& 65535)), .unset]) rfl (W := 2) rfl (by decide) (by decide) (go_own_sym K hw x1 2 (x2 &&& 65535) (x3 &&& 65535) (x4 &&& 65535) _) 15 124 (by decide) (by decide) ?_
    show Go _ _ _ _ 95 [.val (.int x0), .val (.int x1), .val (.int x2), .val (.int x3), .val (.int x4), .val (.int 4), .val (.int (x2 &&& 65535)), .val (.int (x3 &&& 65535)), .val (.int (x4 &&& 65535)), .val (.ref 0), .unset, .unset] [.int (own_sym x1 2 (x2 &&& 65535) (x3 &&& 65535) (x4 &&& 65535)), .int 2, .ref 0] [.inr (.int, [.int (own_sym x1 0 (x2 &&& 65535) (x3 &&& 65535) (x4 &&& 65535)), .int (own_sym x1 1 (x2 &&& 65535) (x3 &&& 65535) (x4 &&& 65535)), .int 0, .int 0])] _
    refine Go.iastore d0_95 rfl (by decide) (Nat.le_of_ble_eq_true rfl) (H1 := [.inr (.int, [.int (own_sym x1 0 (x2 &&& 65535) (x3 &&& 65535) (x4 &&& 65535)), .int (own_sym x1 1 (x2 &&& 65535) (x3 &&& 65535) (x4 &&& 65535)), .int (own_sym x1 2 (x2 &&& 65535) (x3 &&& 65535) (x4 &&& 65535)), .int 0])]) rfl ?_
    refine Go.iload d0_96 rfl ?_
    refine Go.iconst d0_98 (v := 3) rfl ?_
    refine Go.icmpF d0_99 (XT.ii_le_f (by decide)) ?_
    refine Go.aload d0_102 rfl rfl ?_
    refine Go.iconst d0_104 (v := 3) rfl ?_
    refine Go.iloadN d0_105 rfl ?_
    refine Go.iconst d0_106 (v := 3) rfl ?_
    refine Go.iload d0_107 rfl ?_
    refine Go.iload d0_109 rfl ?_
    refine Go.iload d0_111 rfl ?_
    refine Go.callS (M' := m3) d0_113 (hw _ (List.mem_of_getElem? (i := 11) rfl)) (hw _ (List.mem_of_getElem? (i := 12) rfl)) (hw _ (List.mem_of_getElem? (i := 9) rfl)) (hw _ (List.mem_of_getElem? (i := 13) rfl)) mi3 (as := [.int x1, .int 3, .int (x2 &&& 65535), .int (x3 &&& 65535), .int (x4 &&& 65535)]) rfl rfl (st := [.int 3, .ref 0]) rfl (ls1 := [.val (.int x1), .val (.int 3), .val (.int (x2 &&& 65535)), .val (.int (x3 &&& 65535)), .val (.int (x4 &&& 65535)), .unset]) rfl (W := 2) rfl (by decide) (by decide) (go_own_sym K hw x1 3 (x2 &&& 65535) (x3 &&& 65535) (x4 &&& 65535) _) 15 124 (by decide) (by decide) ?_
    show Go _ _ _ _ 116 [.val (.int x0), .val (.int x1), .val (.int x2), .val (.int x3), .val (.int x4), .val (.int 4), .val (.int (x2 &&& 65535)), .val (.int (x3 &&& 65535)), .val (.int (x4 &&& 65535)), .val (.ref 0), .unset, .unset] [.int (own_sym x1 3 (x2 &&& 65535) (x3 &&& 65535) (x4 &&& 65535)), .int 3, .ref 0] [.inr (.int, [.int (own_sym x1 0 (x2 &&& 65535) (x3 &&& 65535) (x4 &&& 65535)), .int (own_sym x1 1 (x2 &&& 65535) (x3 &&& 65535) (x4 &&& 65535)), .int (own_sym x1 2 (x2 &&& 65535) (x3 &&& 65535) (x4 &&& 65535)), .int 0])] _
    refine Go.iastore d0_116 rfl (by decide) (Nat.le_of_ble_eq_true rfl) (H1 := [.inr (.int, [.int (own_sym x1 0 (x2 &&& 65535) (x3 &&& 65535) (x4 &&& 65535)), .int (own_sym x1 1 (x2 &&& 65535) (x3 &&& 65535) (x4 &&& 65535)), .int (own_sym x1 2 (x2 &&& 65535) (x3 &&& 65535) (x4 &&& 65535)), .int (own_sym x1 3 (x2 &&& 65535) (x3 &&& 65535) (x4 &&& 65535))])]) rfl ?_
    refine Go.iload d0_117 rfl ?_
    refine Go.iconst d0_119 (v := 4) rfl ?_
    refine Go.icmpT d0_120 j0_120 (XT.ii_le_t (by decide)) ?_
    refine Go.iload d0_138 rfl ?_
    refine Go.iconst d0_140 (v := 5) rfl ?_
    refine Go.icmpT d0_141 j0_141 (XT.ii_le_t (by decide)) ?_
    exact go_t159_4 K hw _ _ _ _ _ _ _ _ _ _ _ _ 
  · -- n = 5
    refine Go.iload d0_28 rfl ?_
    refine Go.newarray 5 d0_30 (hw _ (List.mem_of_getElem? (i := 2) rfl)) (t := .int) rfl (by decide) (by decide) (by decide) (vs := [.int 0, .int 0, .int 0, .int 0, .int 0]) rfl (i := 0) rfl 15 123 (by decide) (by decide) ?_
    show Go _ _ _ _ 32 [.val (.int x0), .val (.int x1), .val (.int x2), .val (.int x3), .val (.int x4), .val (.int 5), .val (.int (x2 &&& 65535)), .val (.int (x3 &&& 65535)), .val (.int (x4 &&& 65535)), .unset, .unset, .unset] [.ref 0] [.inr (.int, [.int 0, .int 0, .int 0, .int 0, .int 0])] _
    refine Go.astore d0_32 (ls' := [.val (.int x0), .val (.int x1), .val (.int x2), .val (.int x3), .val (.int x4), .val (.int 5), .val (.int (x2 &&& 65535)), .val (.int (x3 &&& 65535)), .val (.int (x4 &&& 65535)), .val (.ref 0), .unset, .unset]) rfl rfl ?_
    refine Go.iload d0_34 rfl ?_
    refine Go.ifF d0_36 (XT.i0_le_f (by decide)) ?_
    refine Go.aload d0_39 rfl rfl ?_
    refine Go.iconst d0_41 (v := 0) rfl ?_
    refine Go.iloadN d0_42 rfl ?_
    refine Go.iconst d0_43 (v := 0) rfl ?_
    refine Go.iload d0_44 rfl ?_
    refine Go.iload d0_46 rfl ?_
    refine Go.iload d0_48 rfl ?_
    refine Go.callS (M' := m3) d0_50 (hw _ (List.mem_of_getElem? (i := 11) rfl)) (hw _ (List.mem_of_getElem? (i := 12) rfl)) (hw _ (List.mem_of_getElem? (i := 9) rfl)) (hw _ (List.mem_of_getElem? (i := 13) rfl)) mi3 (as := [.int x1, .int 0, .int (x2 &&& 65535), .int (x3 &&& 65535), .int (x4 &&& 65535)]) rfl rfl (st := [.int 0, .ref 0]) rfl (ls1 := [.val (.int x1), .val (.int 0), .val (.int (x2 &&& 65535)), .val (.int (x3 &&& 65535)), .val (.int (x4 &&& 65535)), .unset]) rfl (W := 2) rfl (by decide) (by decide) (go_own_sym K hw x1 0 (x2 &&& 65535) (x3 &&& 65535) (x4 &&& 65535) _) 15 123 (by decide) (by decide) ?_
    show Go _ _ _ _ 53 [.val (.int x0), .val (.int x1), .val (.int x2), .val (.int x3), .val (.int x4), .val (.int 5), .val (.int (x2 &&& 65535)), .val (.int (x3 &&& 65535)), .val (.int (x4 &&& 65535)), .val (.ref 0), .unset, .unset] [.int (own_sym x1 0 (x2 &&& 65535) (x3 &&& 65535) (x4 &&& 65535)), .int 0, .ref 0] [.inr (.int, [.int 0, .int 0, .int 0, .int 0, .int 0])] _
    refine Go.iastore d0_53 rfl (by decide) (Nat.le_of_ble_eq_true rfl) (H1 := [.inr (.int, [.int (own_sym x1 0 (x2 &&& 65535) (x3 &&& 65535) (x4 &&& 65535)), .int 0, .int 0, .int 0, .int 0])]) rfl ?_
    refine Go.iload d0_54 rfl ?_
    refine Go.iconst d0_56 (v := 1) rfl ?_
    refine Go.icmpF d0_57 (XT.ii_le_f (by decide)) ?_
    refine Go.aload d0_60 rfl rfl ?_
    refine Go.iconst d0_62 (v := 1) rfl ?_
    refine Go.iloadN d0_63 rfl ?_
    refine Go.iconst d0_64 (v := 1) rfl ?_
    refine Go.iload d0_65 rfl ?_
    refine Go.iload d0_67 rfl ?_
    refine Go.iload d0_69 rfl ?_
    refine Go.callS (M' := m3) d0_71 (hw _ (List.mem_of_getElem? (i := 11) rfl)) (hw _ (List.mem_of_getElem? (i := 12) rfl)) (hw _ (List.mem_of_getElem? (i := 9) rfl)) (hw _ (List.mem_of_getElem? (i := 13) rfl)) mi3 (as := [.int x1, .int 1, .int (x2 &&& 65535), .int (x3 &&& 65535), .int (x4 &&& 65535)]) rfl rfl (st := [.int 1, .ref 0]) rfl (ls1 := [.val (.int x1), .val (.int 1), .val (.int (x2 &&& 65535)), .val (.int (x3 &&& 65535)), .val (.int (x4 &&& 65535)), .unset]) rfl (W := 2) rfl (by decide) (by decide) (go_own_sym K hw x1 1 (x2 &&& 65535) (x3 &&& 65535) (x4 &&& 65535) _) 15 123 (by decide) (by decide) ?_
    show Go _ _ _ _ 74 [.val (.int x0), .val (.int x1), .val (.int x2), .val (.int x3), .val (.int x4), .val (.int 5), .val (.int (x2 &&& 65535)), .val (.int (x3 &&& 65535)), .val (.int (x4 &&& 65535)), .val (.ref 0), .unset, .unset] [.int (own_sym x1 1 (x2 &&& 65535) (x3 &&& 65535) (x4 &&& 65535)), .int 1, .ref 0] [.inr (.int, [.int (own_sym x1 0 (x2 &&& 65535) (x3 &&& 65535) (x4 &&& 65535)), .int 0, .int 0, .int 0, .int 0])] _
    refine Go.iastore d0_74 rfl (by decide) (Nat.le_of_ble_eq_true rfl) (H1 := [.inr (.int, [.int (own_sym x1 0 (x2 &&& 65535) (x3 &&& 65535) (x4 &&& 65535)), .int (own_sym x1 1 (x2 &&& 65535) (x3 &&& 65535) (x4 &&& 65535)), .int 0, .int 0, .int 0])]) rfl ?_
    refine Go.iload d0_75 rfl ?_
    refine Go.iconst d0_77 (v := 2) rfl ?_
    refine Go.icmpF d0_78 (XT.ii_le_f (by decide)) ?_
    refine Go.aload d0_81 rfl rfl ?_
    refine Go.iconst d0_83 (v := 2) rfl ?_
    refine Go.iloadN d0_84 rfl ?_
    refine Go.iconst d0_85 (v := 2) rfl ?_
    refine Go.iload d0_86 rfl ?_
    refine Go.iload d0_88 rfl ?_
    refine Go.iload d0_90 rfl ?_
    refine Go.callS (M' := m3) d0_92 (hw _ (List.mem_of_getElem? (i := 11) rfl)) (hw _ (List.mem_of_getElem? (i := 12) rfl)) (hw _ (List.mem_of_getElem? (i := 9) rfl)) (hw _ (List.mem_of_getElem? (i := 13) rfl)) mi3 (as := [.int x1, .int 2, .int (x2 &&& 65535), .int (x3 &&& 65535), .int (x4 &&& 65535)]) rfl rfl (st := [.int 2, .ref 0]) rfl (ls1 := [.val (.int x1), .val (.int 2), .val (.int (x2 &&& 65535)), .val (.int (x3 &&& 65535)), .val (.int (x4 &&& 65535)), .unset]) rfl (W := 2) rfl (by decide) (by decide) (go_own_sym K hw x1 2 (x2 &&& 65535) (x3 &&& 65535) (x4 &&& 65535) _) 15 123 (by decide) (by decide) ?_
    show Go _ _ _ _ 95 [.val (.int x0), .val (.int x1), .val (.int x2), .val (.int x3), .val (.int x4), .val (.int 5), .val (.int (x2 &&& 65535)), .val (.int (x3 &&& 65535)), .val (.int (x4 &&& 65535)), .val (.ref 0), .unset, .unset] [.int (own_sym x1 2 (x2 &&& 65535) (x3 &&& 65535) (x4 &&& 65535)), .int 2, .ref 0] [.inr (.int, [.int (own_sym x1 0 (x2 &&& 65535) (x3 &&& 65535) (x4 &&& 65535)), .int (own_sym x1 1 (x2 &&& 65535) (x3 &&& 65535) (x4 &&& 65535)), .int 0, .int 0, .int 0])] _
    refine Go.iastore d0_95 rfl (by decide) (Nat.le_of_ble_eq_true rfl) (H1 := [.inr (.int, [.int (own_sym x1 0 (x2 &&& 65535) (x3 &&& 65535) (x4 &&& 65535)), .int (own_sym x1 1 (x2 &&& 65535) (x3 &&& 65535) (x4 &&& 65535)), .int (own_sym x1 2 (x2 &&& 65535) (x3 &&& 65535) (x4 &&& 65535)), .int 0, .int 0])]) rfl ?_
    refine Go.iload d0_96 rfl ?_
    refine Go.iconst d0_98 (v := 3) rfl ?_
    refine Go.icmpF d0_99 (XT.ii_le_f (by decide)) ?_
    refine Go.aload d0_102 rfl rfl ?_
    refine Go.iconst d0_104 (v := 3) rfl ?_
    refine Go.iloadN d0_105 rfl ?_
    refine Go.iconst d0_106 (v := 3) rfl ?_
    refine Go.iload d0_107 rfl ?_
    refine Go.iload d0_109 rfl ?_
    refine Go.iload d0_111 rfl ?_
    refine Go.callS (M' := m3) d0_113 (hw _ (List.mem_of_getElem? (i := 11) rfl)) (hw _ (List.mem_of_getElem? (i := 12) rfl)) (hw _ (List.mem_of_getElem? (i := 9) rfl)) (hw _ (List.mem_of_getElem? (i := 13) rfl)) mi3 (as := [.int x1, .int 3, .int (x2 &&& 65535), .int (x3 &&& 65535), .int (x4 &&& 65535)]) rfl rfl (st := [.int 3, .ref 0]) rfl (ls1 := [.val (.int x1), .val (.int 3), .val (.int (x2 &&& 65535)), .val (.int (x3 &&& 65535)), .val (.int (x4 &&& 65535)), .unset]) rfl (W := 2) rfl (by decide) (by decide) (go_own_sym K hw x1 3 (x2 &&& 65535) (x3 &&& 65535) (x4 &&& 65535) _) 15 123 (by decide) (by decide) ?_
    show Go _ _ _ _ 116 [.val (.int x0), .val (.int x1), .val (.int x2), .val (.int x3), .val (.int x4), .val (.int 5), .val (.int (x2 &&& 65535)), .val (.int (x3 &&& 65535)), .val (.int (x4 &&& 65535)), .val (.ref 0), .unset, .unset] [.int (own_sym x1 3 (x2 &&& 65535) (x3 &&& 65535) (x4 &&& 65535)), .int 3, .ref 0] [.inr (.int, [.int (own_sym x1 0 (x2 &&& 65535) (x3 &&& 65535) (x4 &&& 65535)), .int (own_sym x1 1 (x2 &&& 65535) (x3 &&& 65535) (x4 &&& 65535)), .int (own_sym x1 2 (x2 &&& 65535) (x3 &&& 65535) (x4 &&& 65535)), .int 0, .int 0])] _
    refine Go.iastore d0_116 rfl (by decide) (Nat.le_of_ble_eq_true rfl) (H1 := [.inr (.int, [.int (own_sym x1 0 (x2 &&& 65535) (x3 &&& 65535) (x4 &&& 65535)), .int (own_sym x1 1 (x2 &&& 65535) (x3 &&& 65535) (x4 &&& 65535)), .int (own_sym x1 2 (x2 &&& 65535) (x3 &&& 65535) (x4 &&& 65535)), .int (own_sym x1 3 (x2 &&& 65535) (x3 &&& 65535) (x4 &&& 65535)), .int 0])]) rfl ?_
    refine Go.iload d0_117 rfl ?_
    refine Go.iconst d0_119 (v := 4) rfl ?_
    refine Go.icmpF d0_120 (XT.ii_le_f (by decide)) ?_
    refine Go.aload d0_123 rfl rfl ?_
    refine Go.iconst d0_125 (v := 4) rfl ?_
    refine Go.iloadN d0_126 rfl ?_
    refine Go.iconst d0_127 (v := 4) rfl ?_
    refine Go.iload d0_128 rfl ?_
    refine Go.iload d0_130 rfl ?_
    refine Go.iload d0_132 rfl ?_
    refine Go.callS (M' := m3) d0_134 (hw _ (List.mem_of_getElem? (i := 11) rfl)) (hw _ (List.mem_of_getElem? (i := 12) rfl)) (hw _ (List.mem_of_getElem? (i := 9) rfl)) (hw _ (List.mem_of_getElem? (i := 13) rfl)) mi3 (as := [.int x1, .int 4, .int (x2 &&& 65535), .int (x3 &&& 65535), .int (x4 &&& 65535)]) rfl rfl (st := [.int 4, .ref 0]) rfl (ls1 := [.val (.int x1), .val (.int 4), .val (.int (x2 &&& 65535)), .val (.int (x3 &&& 65535)), .val (.int (x4 &&& 65535)), .unset]) rfl (W := 2) rfl (by decide) (by decide) (go_own_sym K hw x1 4 (x2 &&& 65535) (x3 &&& 65535) (x4 &&& 65535) _) 15 123 (by decide) (by decide) ?_
    show Go _ _ _ _ 137 [.val (.int x0), .val (.int x1), .val (.int x2), .val (.int x3), .val (.int x4), .val (.int 5), .val (.int (x2 &&& 65535)), .val (.int (x3 &&& 65535)), .val (.int (x4 &&& 65535)), .val (.ref 0), .unset, .unset] [.int (own_sym x1 4 (x2 &&& 65535) (x3 &&& 65535) (x4 &&& 65535)), .int 4, .ref 0] [.inr (.int, [.int (own_sym x1 0 (x2 &&& 65535) (x3 &&& 65535) (x4 &&& 65535)), .int (own_sym x1 1 (x2 &&& 65535) (x3 &&& 65535) (x4 &&& 65535)), .int (own_sym x1 2 (x2 &&& 65535) (x3 &&& 65535) (x4 &&& 65535)), .int (own_sym x1 3 (x2 &&& 65535) (x3 &&& 65535) (x4 &&& 65535)), .int 0])] _
    refine Go.iastore d0_137 rfl (by decide) (Nat.le_of_ble_eq_true rfl) (H1 := [.inr (.int, [.int (own_sym x1 0 (x2 &&& 65535) (x3 &&& 65535) (x4 &&& 65535)), .int (own_sym x1 1 (x2 &&& 65535) (x3 &&& 65535) (x4 &&& 65535)), .int (own_sym x1 2 (x2 &&& 65535) (x3 &&& 65535) (x4 &&& 65535)), .int (own_sym x1 3 (x2 &&& 65535) (x3 &&& 65535) (x4 &&& 65535)), .int (own_sym x1 4 (x2 &&& 65535) (x3 &&& 65535) (x4 &&& 65535))])]) rfl ?_
    refine Go.iload d0_138 rfl ?_
    refine Go.iconst d0_140 (v := 5) rfl ?_
    refine Go.icmpT d0_141 j0_141 (XT.ii_le_t (by decide)) ?_
    exact go_t159_5 K hw _ _ _ _ _ _ _ _ _ _ _ _ _ 
  · -- n = 6
    refine Go.iload d0_28 rfl ?_
    refine Go.newarray 6 d0_30 (hw _ (List.mem_of_getElem? (i := 2) rfl)) (t := .int) rfl (by decide) (by decide) (by decide) (vs := [.int 0, .int 0, .int 0, .int 0, .int 0, .int 0]) rfl (i := 0) rfl 15 122 (by decide) (by decide) ?_
    show Go _ _ _ _ 32 [.val (.int x0), .val (.int x1), .val (.int x2), .val (.int x3), .val (.int x4), .val (.int 6), .val (.int (x2 &&& 65535)), .val (.int (x3 &&& 65535)), .val (.int (x4 &&& 65535)), .unset, .unset, .unset] [.ref 0] [.inr (.int, [.int 0, .int 0, .int 0, .int 0, .int 0, .int 0])] _
    refine Go.astore d0_32 (ls' := [.val (.int x0), .val (.int x1), .val (.int x2), .val (.int x3), .val (.int x4), .val (.int 6), .val (.int (x2 &&& 65535)), .val (.int (x3 &&& 65535)), .val (.int (x4 &&& 65535)), .val (.ref 0), .unset, .unset]) rfl rfl ?_
    refine Go.iload d0_34 rfl ?_
    refine Go.ifF d0_36 (XT.i0_le_f (by decide)) ?_
    refine Go.aload d0_39 rfl rfl ?_
    refine Go.iconst d0_41 (v := 0) rfl ?_
    refine Go.iloadN d0_42 rfl ?_
    refine Go.iconst d0_43 (v := 0) rfl ?_
    refine Go.iload d0_44 rfl ?_
    refine Go.iload d0_46 rfl ?_
    refine Go.iload d0_48 rfl ?_
    refine Go.callS (M' := m3) d0_50 (hw _ (List.mem_of_getElem? (i := 11) rfl)) (hw _ (List.mem_of_getElem? (i := 12) rfl)) (hw _ (List.mem_of_getElem? (i := 9) rfl)) (hw _ (List.mem_of_getElem? (i := 13) rfl)) mi3 (as := [.int x1, .int 0, .int (x2 &&& 65535), .int (x3 &&& 65535), .int (x4 &&& 65535)]) rfl rfl (st := [.int 0, .ref 0]) rfl (ls1 := [.val (.int x1), .val (.int 0), .val (.int (x2 &&& 65535)), .val (.int (x3 &&& 65535)), .val (.int (x4 &&& 65535)), .unset]) rfl (W := 2) rfl (by decide) (by decide) (go_own_sym K hw x1 0 (x2 &&& 65535) (x3 &&& 65535) (x4 &&& 65535) _) 15 122 (by decide) (by decide) ?_
    show Go _ _ _ _ 53 [.val (.int x0), .val (.int x1), .val (.int x2), .val (.int x3), .val (.int x4), .val (.int 6), .val (.int (x2 &&& 65535)), .val (.int (x3 &&& 65535)), .val (.int (x4 &&& 65535)), .val (.ref 0), .unset, .unset] [.int (own_sym x1 0 (x2 &&& 65535) (x3 &&& 65535) (x4 &&& 65535)), .int 0, .ref 0] [.inr (.int, [.int 0, .int 0, .int 0, .int 0, .int 0, .int 0])] _
    refine Go.iastore d0_53 rfl (by decide) (Nat.le_of_ble_eq_true rfl) (H1 := [.inr (.int, [.int (own_sym x1 0 (x2 &&& 65535) (x3 &&& 65535) (x4 &&& 65535)), .int 0, .int 0, .int 0, .int 0, .int 0])]) rfl ?_
    refine Go.iload d0_54 rfl ?_
    refine Go.iconst d0_56 (v := 1) rfl ?_
    refine Go.icmpF d0_57 (XT.ii_le_f (by decide)) ?_
    refine Go.aload d0_60 rfl rfl ?_
    refine Go.iconst d0_62 (v := 1) rfl ?_
    refine Go.iloadN d0_63 rfl ?_
    refine Go.iconst d0_64 (v := 1) rfl ?_
    refine Go.iload d0_65 rfl ?_
    refine Go.iload d0_67 rfl ?_
    refine Go.iload d0_69 rfl ?_
    refine Go.callS (M' := m3) d0_71 (hw _ (List.mem_of_getElem? (i := 11) rfl)) (hw _ (List.mem_of_getElem? (i := 12) rfl)) (hw _ (List.mem_of_getElem? (i := 9) rfl)) (hw _ (List.mem_of_getElem? (i := 13) rfl)) mi3 (as := [.int x1, .int 1, .int (x2 &&& 65535), .int (x3 &&& 65535), .int (x4 &&& 65535)]) rfl rfl (st := [.int 1, .ref 0]) rfl (ls1 := [.val (.int x1), .val (.int 1), .val (.int (x2 &&& 65535)), .val (.int (x3 &&& 65535)), .val (.int (x4 &&& 65535)), .unset]) rfl (W := 2) rfl (by decide) (by decide) (go_own_sym K hw x1 1 (x2 &&& 65535) (x3 &&& 65535) (x4 &&& 65535) _) 15 122 (by decide) (by decide) ?_
    show Go _ _ _ _ 74 [.val (.int x0), .val (.int x1), .val (.int x2), .val (.int x3), .val (.int x4), .val (.int 6), .val (.int (x2 &&& 65535)), .val (.int (x3 &&& 65535)), .val (.int (x4 &&& 65535)), .val (.ref 0), .unset, .unset] [.int (own_sym x1 1 (x2 &&& 65535) (x3 &&& 65535) (x4 &&& 65535)), .int 1, .ref 0] [.inr (.int, [.int (own_sym x1 0 (x2 &&& 65535) (x3 &&& 65535) (x4 &&& 65535)), .int 0, .int 0, .int 0, .int 0, .int 0])] _
    refine Go.iastore d0_74 rfl (by decide) (Nat.le_of_ble_eq_true rfl) (H1 := [.inr (.int, [.int (own_sym x1 0 (x2 &&& 65535) (x3 &&& 65535) (x4 &&& 65535)), .int (own_sym x1 1 (x2 &&& 65535) (x3 &&& 65535) (x4 &&& 65535)), .int 0, .int 0, .int 0, .int 0])]) rfl ?_
    refine Go.iload d0_75 rfl ?_
    refine Go.iconst d0_77 (v := 2) rfl ?_
    refine Go.icmpF d0_78 (XT.ii_le_f (by decide)) ?_
    refine Go.aload d0_81 rfl rfl ?_
    refine Go.iconst d0_83 (v := 2) rfl ?_
    refine Go.iloadN d0_84 rfl ?_
    refine Go.iconst d0_85 (v := 2) rfl ?_
    refine Go.iload d0_86 rfl ?_
    refine Go.iload d0_88 rfl ?_
    refine Go.iload d0_90 rfl ?_
    refine Go.callS (M' := m3) d0_92 (hw _ (List.mem_of_getElem? (i := 11) rfl)) (hw _ (List.mem_of_getElem? (i := 12) rfl)) (hw _ (List.mem_of_getElem? (i := 9) rfl)) (hw _ (List.mem_of_getElem? (i := 13) rfl)) mi3 (as := [.int x1, .int 2, .int (x2 &&& 65535), .int (x3 &&& 65535), .int (x4 &&& 65535)]) rfl rfl (st := [.int 2, .ref 0]) rfl (ls1 := [.val (.int x1), .val (.int 2), .val (.int (x2 &&& 65535)), .val (.int (x3 &&& 65535)), .val (.int (x4 &&& 65535)), .unset]) rfl (W := 2) rfl (by decide) (by decide) (go_own_sym K hw x1 2 (x2 &&& 65535) (x3 &&& 65535) (x4 &&& 65535) _) 15 122 (by decide) (by decide) ?_
    show Go _ _ _ _ 95 [.val (.int x0), .val (.int x1), .val (.int x2), .val (.int x3), .val (.int x4), .val (.int 6), .val (.int (x2 &&& 65535)), .val (.int (x3 &&& 65535)), .val (.int (x4 &&& 65535)), .val (.ref 0), .unset, .unset] [.int (own_sym x1 2 (x2 &&& 65535) (x3 &&& 65535) (x4 &&& 65535)), .int 2, .ref 0] [.inr (.int, [.int (own_sym x1 0 (x2 &&& 65535) (x3 &&& 65535) (x4 &&& 65535)), .int (own_sym x1 1 (x2 &&& 65535) (x3 &&& 65535) (x4 &&& 65535)), .int 0, .int 0, .int 0, .int 0])] _
    refine Go.iastore d0_95 rfl (by decide) (Nat.le_of_ble_eq_true rfl) (H1 := [.inr (.int, [.int (own_sym x1 0 (x2 &&& 65535) (x3 &&& 65535) (x4 &&& 65535)), .int (own_sym x1 1 (x2 &&& 65535) (x3 &&& 65535) (x4 &&& 65535)), .int (own_sym x1 2 (x2 &&& 65535) (x3 &&& 65535) (x4 &&& 65535)), .int 0, .int 0, .int 0])]) rfl ?_
    refine Go.iload d0_96 rfl ?_
    refine Go.iconst d0_98 (v := 3) rfl ?_
    refine Go.icmpF d0_99 (XT.ii_le_f (by decide)) ?_
    refine Go.aload d0_102 rfl rfl ?_
    refine Go.iconst d0_104 (v := 3) rfl ?_
    refine Go.iloadN d0_105 rfl ?_
    refine Go.iconst d0_106 (v := 3) rfl ?_
    refine Go.iload d0_107 rfl ?_
    refine Go.iload d0_109 rfl ?_
    refine Go.iload d0_111 rfl ?_
    refine Go.callS (M' := m3) d0_113 (hw _ (List.mem_of_getElem? (i := 11) rfl)) (hw _ (List.mem_of_getElem? (i := 12) rfl)) (hw _ (List.mem_of_getElem? (i := 9) rfl)) (hw _ (List.mem_of_getElem? (i := 13) rfl)) mi3 (as := [.int x1, .int 3, .int (x2 &&& 65535), .int (x3 &&& 65535), .int (x4 &&& 65535)]) rfl rfl (st := [.int 3, .ref 0]) rfl (ls1 := [.val (.int x1), .val (.int 3), .val (.int (x2 &&& 65535)), .val (.int (x3 &&& 65535)), .val (.int (x4 &&& 65535)), .unset]) rfl (W := 2) rfl (by decide) (by decide) (go_own_sym K hw x1 3 (x2 &&& 65535) (x3 &&& 65535) (x4 &&& 65535) _) 15 122 (by decide) (by decide) ?_
    show Go _ _ _ _ 116 [.val (.int x0), .val (.int x1), .val (.int x2), .val (.int x3), .val (.int x4), .val (.int 6), .val (.int (x2 &&& 65535)), .val (.int (x3 &&& 65535)), .val (.int (x4 &&& 65535)), .val (.ref 0), .unset, .unset] [.int (own_sym x1 3 (x2 &&& 65535) (x3 &&& 65535) (x4 &&& 65535)), .int 3, .ref 0] [.inr (.int, [.int (own_sym x1 0 (x2 &&& 65535) (x3 &&& 65535) (x4 &&& 65535)), .int (own_sym x1 1 (x2 &&& 65535) (x3 &&& 65535) (x4 &&& 65535)), .int (own_sym x1 2 (x2 &&& 65535) (x3 &&& 65535) (x4 &&& 65535)), .int 0, .int 0, .int 0])] _
    refine Go.iastore d0_116 rfl (by decide) (Nat.le_of_ble_eq_true rfl) (H1 := [.inr (.int, [.int (own_sym x1 0 (x2 &&& 65535) (x3 &&& 65535) (x4 &&& 65535)), .int (own_sym x1 1 (x2 &&& 65535) (x3 &&& 65535) (x4 &&& 65535)), .int (own_sym x1 2 (x2 &&& 65535) (x3 &&& 65535) (x4 &&& 65535)), .int (own_sym x1 3 (x2 &&& 65535) (x3 &&& 65535) (x4 &&& 65535)), .int 0, .int 0])]) rfl ?_
    refine Go.iload d0_117 rfl ?_
    refine Go.iconst d0_119 (v := 4) rfl ?_
    refine Go.icmpF d0_120 (XT.ii_le_f (by decide)) ?_
    refine Go.aload d0_123 rfl rfl ?_
    refine Go.iconst d0_125 (v := 4) rfl ?_
    refine Go.iloadN d0_126 rfl ?_
    refine Go.iconst d0_127 (v := 4) rfl ?_
    refine Go.iload d0_128 rfl ?_
    refine Go.iload d0_130 rfl ?_
    refine Go.iload d0_132 rfl ?_
    refine Go.callS (M' := m3) d0_134 (hw _ (List.mem_of_getElem? (i := 11) rfl)) (hw _ (List.mem_of_getElem? (i := 12) rfl)) (hw _ (List.mem_of_getElem? (i := 9) rfl)) (hw _ (List.mem_of_getElem? (i := 13) rfl)) mi3 (as := [.int x1, .int 4, .int (x2 &&& 65535), .int (x3 &&& 65535), .int (x4 &&& 65535)]) rfl rfl (st := [.int 4, .ref 0]) rfl (ls1 := [.val (.int x1), .val (.int 4), .val (.int (x2 &&& 65535)), .val (.int (x3 &&& 65535)), .val (.int (x4 &&& 65535)), .unset]) rfl (W := 2) rfl (by decide) (by decide) (go_own_sym K hw x1 4 (x2 &&& 65535) (x3 &&& 65535) (x4 &&& 65535) _) 15 122 (by decide) (by decide) ?_
    show Go _ _ _ _ 137 [.val (.int x0), .val (.int x1), .val (.int x2), .val (.int x3), .val (.int x4), .val (.int 6), .val (.int (x2 &&& 65535)), .val (.int (x3 &&& 65535)), .val (.int (x4 &&& 65535)), .val (.ref 0), .unset, .unset] [.int (own_sym x1 4 (x2 &&& 65535) (x3 &&& 65535) (x4 &&& 65535)), .int 4, .ref 0] [.inr (.int, [.int (own_sym x1 0 (x2 &&& 65535) (x3 &&& 65535) (x4 &&& 65535)), .int (own_sym x1 1 (x2 &&& 65535) (x3 &&& 65535) (x4 &&& 65535)), .int (own_sym x1 2 (x2 &&& 65535) (x3 &&& 65535) (x4 &&& 65535)), .int (own_sym x1 3 (x2 &&& 65535) (x3 &&& 65535) (x4 &&& 65535)), .int 0, .int 0])] _
    refine Go.iastore d0_137 rfl (by decide) (Nat.le_of_ble_eq_true rfl) (H1 := [.inr (.int, [.int (own_sym x1 0 (x2 &&& 65535) (x3 &&& 65535) (x4 &&& 65535)), .int (own_sym x1 1 (x2 &&& 65535) (x3 &&& 65535) (x4 &&& 65535)), .int (own_sym x1 2 (x2 &&& 65535) (x3 &&& 65535) (x4 &&& 65535)), .int (own_sym x1 3 (x2 &&& 65535) (x3 &&& 65535) (x4 &&& 65535)), .int (own_sym x1 4 (x2 &&& 65535) (x3 &&& 65535) (x4 &&& 65535)), .int 0])]) rfl ?_
    refine Go.iload d0_138 rfl ?_
    refine Go.iconst d0_140 (v := 5) rfl ?_
    refine Go.icmpF d0_141 (XT.ii_le_f (by decide)) ?_
    refine Go.aload d0_144 rfl rfl ?_
    refine Go.iconst d0_146 (v := 5) rfl ?_
    refine Go.iloadN d0_147 rfl ?_
    refine Go.iconst d0_148 (v := 5) rfl ?_
    refine Go.iload d0_149 rfl ?_
    refine Go.iload d0_151 rfl ?_
    refine Go.iload d0_153 rfl ?_
    refine Go.callS (M' := m3) d0_155 (hw _ (List.mem_of_getElem? (i := 11) rfl)) (hw _ (List.mem_of_getElem? (i := 12) rfl)) (hw _ (List.mem_of_getElem? (i := 9) rfl)) (hw _ (List.mem_of_getElem? (i := 13) rfl)) mi3 (as := [.int x1, .int 5, .int (x2 &&& 65535), .int (x3 &&& 65535), .int (x4 &&& 65535)]) rfl rfl (st := [.int 5, .ref 0]) rfl (ls1 := [.val (.int x1), .val (.int 5), .val (.int (x2 &&& 65535)), .val (.int (x3 &&& 65535)), .val (.int (x4 &&& 65535)), .unset]) rfl (W := 2) rfl (by decide) (by decide) (go_own_sym K hw x1 5 (x2 &&& 65535) (x3 &&& 65535) (x4 &&& 65535) _) 15 122 (by decide) (by decide) ?_
    show Go _ _ _ _ 158 [.val (.int x0), .val (.int x1), .val (.int x2), .val (.int x3), .val (.int x4), .val (.int 6), .val (.int (x2 &&& 65535)), .val (.int (x3 &&& 65535)), .val (.int (x4 &&& 65535)), .val (.ref 0), .unset, .unset] [.int (own_sym x1 5 (x2 &&& 65535) (x3 &&& 65535) (x4 &&& 65535)), .int 5, .ref 0] [.inr (.int, [.int (own_sym x1 0 (x2 &&& 65535) (x3 &&& 65535) (x4 &&& 65535)), .int (own_sym x1 1 (x2 &&& 65535) (x3 &&& 65535) (x4 &&& 65535)), .int (own_sym x1 2 (x2 &&& 65535) (x3 &&& 65535) (x4 &&& 65535)), .int (own_sym x1 3 (x2 &&& 65535) (x3 &&& 65535) (x4 &&& 65535)), .int (own_sym x1 4 (x2 &&& 65535) (x3 &&& 65535) (x4 &&& 65535)), .int 0])] _
    refine Go.iastore d0_158 rfl (by decide) (Nat.le_of_ble_eq_true rfl) (H1 := [.inr (.int, [.int (own_sym x1 0 (x2 &&& 65535) (x3 &&& 65535) (x4 &&& 65535)), .int (own_sym x1 1 (x2 &&& 65535) (x3 &&& 65535) (x4 &&& 65535)), .int (own_sym x1 2 (x2 &&& 65535) (x3 &&& 65535) (x4 &&& 65535)), .int (own_sym x1 3 (x2 &&& 65535) (x3 &&& 65535) (x4 &&& 65535)), .int (own_sym x1 4 (x2 &&& 65535) (x3 &&& 65535) (x4 &&& 65535)), .int (own_sym x1 5 (x2 &&& 65535) (x3 &&& 65535) (x4 &&& 65535))])]) rfl ?_
    exact go_t159_6 K hw _ _ _ _ _ _ _ _ _ _ _ _ _ _ 
set_option maxRecDepth 65536 in
set_option maxHeartbeats 40000000 in
theorem comes_1 {Post : Tables → Env → Array Value → State → Outcome → State → Prop} (hpost : ∀ tb e args s v u, (limb_1_1.after args s (.returned v) u = true ∧ limb_1_2.after args s (.returned v) u = true ∧ True) → FrameEnd s (.returned v) u (Jvm.fieldLocs frame_1_writes args s ++ Jvm.arrayLocs frame_1_arrays args s ++ Jvm.staticLocs frame_1_statics s) 16 128 → Post tb e args s (.returned v) u) :
    ArmFor flags0 classFile x code maxLocals ret World_1 tables_1 room_1 Calls_1 rest_1 Pre_1 Post := by
  intro l hfl _ _ p e ha hc hk s m args below hf hA hF happ hP
  obtain ⟨hcalls, hrest, hpre⟩ := hP
  obtain ⟨-, -, -, hnamed, -, -, -, hat⟩ := (Spec.applies_iff hf).mp happ
  obtain ⟨hg, hn⟩ := and_e (Cond.before_iff.mp (show (Jvm.Cond.and given_1 narrow_1).before args s = true from hpre))
  obtain ⟨h1, g0⟩ := and_e hg
  obtain ⟨w0, w1, w2, w3, w4, rfl⟩ : ∃ w0 w1 w2 w3 w4 : Value, args = #[w0, w1, w2, w3, w4] := by
    have hs : args.size = 5 := by simpa [Cond.value, given_1] using h1
    obtain ⟨L⟩ := args
    match L, hs with
    | [w0, w1, w2, w3, w4], _ => exact ⟨w0, w1, w2, w3, w4, rfl⟩
  have hw := fun d (hd : d ∈ tables_1) => atoms_spec (ws := Jvm.Cond.code x code maxLocals ret :: tables_1) hat d (List.mem_cons_of_mem _ hd)
  obtain ⟨q0, g1⟩ := and_e g0
  obtain ⟨i0, e0⟩ := is_v q0
  obtain rfl : w0 = (.int i0) := Option.some.inj e0
  obtain ⟨q1, g2⟩ := and_e g1
  obtain ⟨i1, e1⟩ := is_v q1
  obtain rfl : w1 = (.int i1) := Option.some.inj e1
  obtain ⟨q2, g3⟩ := and_e g2
  obtain ⟨i2, e2⟩ := is_v q2
  obtain rfl : w2 = (.int i2) := Option.some.inj e2
  obtain ⟨q3, g4⟩ := and_e g3
  obtain ⟨i3, e3⟩ := is_v q3
  obtain rfl : w3 = (.int i3) := Option.some.inj e3
  obtain ⟨i4, e4⟩ := is_v g4
  obtain rfl : w4 = (.int i4) := Option.some.inj e4
  have gl := go_law (l, s, _, s.heap.size) hw i0 i1 i2 i3 i4
  obtain ⟨n, o, h1, h2, h3, _, L, rfl, ⟨rfl, -, N⟩, hq⟩ := Go.met (K := (l, s, _, s.heap.size)) (M := m0) (as := [.int i0, .int i1, .int i2, .int i3, .int i4]) (ws := tables_1) (rm := room_1) (rv := some (.int 1)) (h := s.heap) (H := []) (by decide +kernel) ⟨rfl, fun i o h => by simp at h⟩ rfl gl p e ha hc hk s m _ below hf ((Spec.applies_iff_loose hf).mp happ).1 ⟨rfl, State.Warmed39.refl s, rfl⟩ trivial
  refine ⟨n, _, h1, h2, h3, hpost _ _ _ _ _ _ ⟨Cond.after_iff.mpr rfl, Cond.after_iff.mpr (eq_i res_at (Term.int_eval (1)) rfl), trivial⟩ ⟨hq.1, hq.2.1, (hq.2.2.sift fun y hy => Or.inr (N y hy)).mono (by decide) (by decide)⟩⟩
theorem main_1_1 : Claimed_1_1 := comes_1 fun _ _ _ _ _ _ h hF => ⟨h.1, hF⟩
theorem main_1_2 : Claimed_1_2 := comes_1 fun _ _ _ _ _ _ h hF => ⟨h.2.1, hF⟩
end Jvm.Pilot.@@N@@
namespace Jvm.Pilot.@@N@@
open Jvm Jvm.ClassFile Sem Op Lib Jvm.Free Jvm.Stand Jvm.Pilot.@@N@@.Jvm.D
/-! MADE BY PROGRAM (witnessworld.py) out of the Statement's table words and the real class files: 9 classes; the members and pool entries that the words name. The judged class is class 1, her method 1. -/
namespace start1
open Jvm.ClassFile
def u (s : String) : CpInfo := .utf8 (stringToUtf16 s)
/-- a pool by its gaps: so many unusable entries, then the entry; so many at the end -/
def gap : Nat → List CpInfo → List CpInfo
  | 0, r => r
  | n + 1, r => .unusable :: gap n r
def poolList (es : List (Nat × CpInfo)) (last : Nat) : List CpInfo := es.foldr (fun e r => gap e.1 (e.2 :: r)) (gap last [])
def pool (es : List (Nat × CpInfo)) (last : Nat) : Array CpInfo := ⟨poolList es last⟩
def fileOf (pool : Array CpInfo) (this : Nat) (attrs : Array Attribute := #[]) (ms : Array MethodInfo := #[]) (fl : Nat := 33) (sup : Nat := 0) (ifs : Array Nat := #[]) (fds : Array FieldInfo := #[]) : ClassFile where
  minorVersion := 0
  majorVersion := 65
  constantPool := pool
  accessFlags := fl
  thisClass := this
  superClass := sup
  interfaces := ifs
  fields := fds
  methods := ms
  attributes := attrs
def plain (name : String) (sup : Option ClassId) : Class where
  name := name
  kind := .ordinary
  loader := none
  accessFlags := 33
  super := sup
  interfaces := #[]
  cf := none
  fields := #[]
  methods := #[]
  instanceTypes := #[]
  staticTypes := #[]
  resolved := #[]
  callSites := []
  init := .initialized
  statics := none
  mirror := none

def pool0 : Array CpInfo := pool [(5, u "<init>"), (0, u "()V"), (1, .class_ 10), (1, u "java/lang/Object")] 113

def k0m0 : Method := { name := "<init>", desc := "()V", sig := { parameters := [], returnType := none }, accessFlags := 1, code := none }
/-- java/lang/Object -/
def k0 : Class := { plain "java/lang/Object" none with
  accessFlags := 33
  interfaces := #[]
  cf := some (fileOf pool0 8 #[] #[{ accessFlags := 1, nameIndex := 5, descriptorIndex := 6, attributes := #[] }] 33 0 #[] #[])
  fields := #[]
  methods := #[k0m0]
  instanceTypes := #[]
  staticTypes := #[]
  resolved := Array.replicate 124 none
  statics := none }

def pool1 : Array CpInfo := pool [(2, .class_ 4), (1, u "java/lang/Object"), (0, u "<init>"), (0, u "()V"), (0, .integer 2147483647), (0, .integer 65535), (0, .methodref 10 11), (0, .class_ 12), (0, .nameAndType 13 14), (0, u "com/example/skipstitch/skipstitch/core/BorderTableOfPinLaw"), (0, u "sym"), (0, u "(IIIII)I"), (0, .methodref 16 17), (0, .class_ 18), (0, .nameAndType 19 20), (0, u "com/example/skipstitch/skipstitch/core/BorderTable"), (0, u "of"), (0, u "([I)[I"), (0, .methodref 10 22), (0, .nameAndType 23 24), (0, u "entry"), (0, u "([I[III)Z"), (0, .methodref 10 26), (0, .nameAndType 27 28), (0, u "border"), (0, u "([II)I"), (0, .methodref 10 30), (0, .nameAndType 31 32), (0, u "matches"), (0, u "([III)Z"), (2, u "law"), (0, u "(IIIII)Z")] 5

def k1m0 : Method := { name := "<init>", desc := "()V", sig := { parameters := [], returnType := none }, accessFlags := 1, code := none }
def k1c1 : Code := { maxStack := 7, maxLocals := 12, code := code, exceptionTable := #[], attributes := #[] }
def k1m1 : Method := { name := "law", desc := "(IIIII)Z", sig := { parameters := [.int, .int, .int, .int, .int], returnType := some .boolean }, accessFlags := 9, code := some k1c1 }
def k1c2 : Code := { maxStack := 3, maxLocals := 6, code := method_3_code, exceptionTable := #[], attributes := #[] }
def k1m2 : Method := { name := "sym", desc := "(IIIII)I", sig := { parameters := [.int, .int, .int, .int, .int], returnType := some .int }, accessFlags := 10, code := some k1c2 }
def k1c3 : Code := { maxStack := 4, maxLocals := 4, code := method_4_code, exceptionTable := #[], attributes := #[] }
def k1m3 : Method := { name := "entry", desc := "([I[III)Z", sig := { parameters := [(.array .int), (.array .int), .int, .int], returnType := some .boolean }, accessFlags := 10, code := some k1c3 }
def k1c4 : Code := { maxStack := 3, maxLocals := 2, code := method_5_code, exceptionTable := #[], attributes := #[] }
def k1m4 : Method := { name := "border", desc := "([II)I", sig := { parameters := [(.array .int), .int], returnType := some .int }, accessFlags := 10, code := some k1c4 }
def k1c5 : Code := { maxStack := 4, maxLocals := 5, code := method_6_code, exceptionTable := #[], attributes := #[] }
def k1m5 : Method := { name := "matches", desc := "([III)Z", sig := { parameters := [(.array .int), .int, .int], returnType := some .boolean }, accessFlags := 10, code := some k1c5 }
/-- com/example/skipstitch/skipstitch/core/BorderTableOfPinLaw -/
def k1 : Class := { plain "com/example/skipstitch/skipstitch/core/BorderTableOfPinLaw" (some 0) with
  accessFlags := 49
  interfaces := #[]
  cf := some (fileOf pool1 10 #[] #[{ accessFlags := 1, nameIndex := 5, descriptorIndex := 6, attributes := #[] }, { accessFlags := 9, nameIndex := 35, descriptorIndex := 36, attributes := #[] }, { accessFlags := 10, nameIndex := 13, descriptorIndex := 14, attributes := #[] }, { accessFlags := 10, nameIndex := 23, descriptorIndex := 24, attributes := #[] }, { accessFlags := 10, nameIndex := 27, descriptorIndex := 28, attributes := #[] }, { accessFlags := 10, nameIndex := 31, descriptorIndex := 32, attributes := #[] }] 49 2 #[] #[])
  fields := #[]
  methods := #[k1m0, k1m1, k1m2, k1m3, k1m4, k1m5]
  instanceTypes := #[]
  staticTypes := #[]
  resolved := Array.replicate 42 none
  statics := none }

def pool2 : Array CpInfo := pool [(2, .class_ 4), (1, u "java/lang/Object"), (0, u "<init>"), (0, u "()V"), (0, .class_ 8), (0, u "com/example/skipstitch/skipstitch/core/BorderTable"), (2, u "of"), (0, u "([I)[I")] 5

def k2m0 : Method := { name := "<init>", desc := "()V", sig := { parameters := [], returnType := none }, accessFlags := 2, code := none }
def k2c1 : Code := { maxStack := 3, maxLocals := 4, code := prog_41_method_2_code, exceptionTable := #[], attributes := #[] }
def k2m1 : Method := { name := "of", desc := "([I)[I", sig := { parameters := [(.array .int)], returnType := some (.array .int) }, accessFlags := 9, code := some k2c1 }
/-- com/example/skipstitch/skipstitch/core/BorderTable -/
def k2 : Class := { plain "com/example/skipstitch/skipstitch/core/BorderTable" (some 0) with
  accessFlags := 49
  interfaces := #[]
  cf := some (fileOf pool2 7 #[] #[{ accessFlags := 2, nameIndex := 5, descriptorIndex := 6, attributes := #[] }, { accessFlags := 9, nameIndex := 11, descriptorIndex := 12, attributes := #[] }] 49 2 #[] #[])
  fields := #[]
  methods := #[k2m0, k2m1]
  instanceTypes := #[]
  staticTypes := #[]
  resolved := Array.replicate 18 none
  statics := none }

def pool3 : Array CpInfo := pool [(1, u "java/lang/Cloneable"), (0, .class_ 1), (0, u "java/lang/Object"), (0, .class_ 3)] 3

/-- java/lang/Cloneable -/
def k3 : Class := { plain "java/lang/Cloneable" (some 0) with
  accessFlags := 1537
  interfaces := #[]
  cf := some (fileOf pool3 2 #[] #[] 1537 4 #[] #[])
  fields := #[]
  methods := #[]
  instanceTypes := #[]
  staticTypes := #[]
  resolved := Array.replicate 8 none
  statics := none }

def pool4 : Array CpInfo := pool [(1, u "java/io/Serializable"), (0, .class_ 1), (0, u "java/lang/Object"), (0, .class_ 3)] 3

/-- java/io/Serializable -/
def k4 : Class := { plain "java/io/Serializable" (some 0) with
  accessFlags := 1537
  interfaces := #[]
  cf := some (fileOf pool4 2 #[] #[] 1537 4 #[] #[])
  fields := #[]
  methods := #[]
  instanceTypes := #[]
  staticTypes := #[]
  resolved := Array.replicate 8 none
  statics := none }

/-- the primitive byte -/
def k5 : Class := { plain "byte" none with kind := .primitive 'B', accessFlags := 0x411 }
/-- [B -/
def k6 : Class := { plain "[B" (some 0) with kind := .array 5 .byte, interfaces := #[3, 4], accessFlags := 1041 }

/-- the primitive int -/
def k7 : Class := { plain "int" none with kind := .primitive 'I', accessFlags := 0x411 }
/-- [I -/
def k8 : Class := { plain "[I" (some 0) with kind := .array 7 .int, interfaces := #[3, 4], accessFlags := 1041 }

def heap : Heap := #[]
def classes : Array Class := #[k0, k1, k2, k3, k4, k5, k6, k7, k8]
def interned : List (Array UInt16 × Addr) := []
def slotsUsed : Nat := 0
def theMethod : MethodId := ⟨1, 1⟩
def args0 : Array Value := #[.int 5, .int 7, .int 6, .int 1, .int 2]
def aboutOver (below : List Frame) : State where
  vm := { classes := classes, interned := interned.toArray }
  heap := heap
  slotsUsed := slotsUsed
  threads := #[{ frames := .invoking theMethod args0 :: below }]
def below0 : List Frame := [.native { method := ⟨0, 0⟩, args := #[] }]
def about1 : State := aboutOver below0
def p0 : Program := .bare "" "" ""
def e0 : Env := launch0.env 0 0 0
theorem w_frames : about1.frames = Frame.invoking theMethod args0 :: below0 := rfl
set_option maxRecDepth 65536 in
theorem w_args : argsFit about1.vm theMethod args0 = true := by decide +kernel
set_option maxRecDepth 65536 in
theorem w_heap : heapFits about1 = true := by decide +kernel
set_option maxRecDepth 65536 in
theorem w_runnable : about1.curStatus? = some .runnable := by decide +kernel
set_option maxRecDepth 65536 in
theorem w_alone : about1.alone = true := by decide +kernel
set_option maxRecDepth 65536 in
theorem w_named : about1.methodNamed? x = some theMethod := by decide +kernel
set_option maxRecDepth 65536 in
theorem w_hears : about1.hears theMethod below0 = true := by decide +kernel
set_option maxRecDepth 65536 in
theorem w_ripe : about1.ripe theMethod args0 below0 = true := by decide +kernel
theorem w_running : about1.status = .running := rfl
set_option maxRecDepth 65536 in
theorem w_room : about1.hasRoom e0.platform room_1 = true :=
  launch0.hasRoom_least _ room_1 (by decide +kernel) (by decide +kernel) (by decide +kernel) (by decide +kernel) (by decide +kernel) (by decide +kernel)
theorem allAtoms_all (ts : List Jvm.Cond) (a : Array Jvm.Value) (st : Jvm.State) : (allAtoms ts).before a st = ts.all (fun c => c.before a st) := by
  induction ts with
  | nil => rfl
  | cons c t ih =>
    show (Jvm.Cond.and c (allAtoms t)).before a st = _
    rw [Jvm.Cond.before_and, ih, List.all_cons]
def words1 : List Jvm.Cond := Jvm.Cond.code x code maxLocals ret :: tables_1
/-- a 'code' word, met by the world's own term for the bytes: nothing is compared byte by byte -/
theorem code_word {y : MethodName} {bytes : ByteArray} {mx : Nat} {rt : Option FieldType} {a : Array Value} {s : State} {m : MethodId} {meth : Method} {c : Code} (h1 : s.methodNamed? y = some m) (h2 : s.vm.method? m = some meth) (h3 : meth.code = some c) (h4 : c.code = bytes)
    (h5 : (c.maxLocals == mx && c.exceptionTable.isEmpty && decide (c.maxStack ≤ mostOperands) && decide (meth.sig.returnType = rt) && !meth.locks && decide (parseMethodDescriptor y.desc = some meth.sig)) = true) : (Jvm.Cond.code y bytes mx rt).before a s = true := by
  simp only [Bool.and_eq_true, beq_iff_eq, Bool.not_eq_true', decide_eq_true_eq] at h5
  obtain ⟨⟨⟨⟨⟨g1, g2⟩, g3⟩, g4⟩, g5⟩, g6⟩ := h5
  simp [Cond.before, Cond.holds, Cond.value, h1, h2, h3, h4, g1, g2, g3, g4, g5, g6]
def isCode : Jvm.Cond → Bool
  | .code _ _ _ _ => true
  | _ => false
theorem all_split {L : List Jvm.Cond} {P : Jvm.Cond → Bool} (h1 : L.all (fun c => isCode c || P c) = true) (h2 : ∀ c ∈ L.filter isCode, P c = true) : L.all P = true := by
  refine List.all_eq_true.mpr fun c hc => ?_
  have h := List.all_eq_true.mp h1 c hc
  rcases Bool.eq_false_or_eq_true (isCode c) with hi | hi
  · exact h2 c (List.mem_filter.mpr ⟨hc, hi⟩)
  · simpa [hi] using h
set_option maxRecDepth 65536 in
theorem w_c0 : (Jvm.Cond.code x code maxLocals ret).before args0 about1 = true := code_word (m := ⟨1, 1⟩) (meth := k1m1) (c := k1c1) (by decide +kernel) rfl rfl rfl (by decide +kernel)
set_option maxRecDepth 65536 in
theorem w_c1 : (Jvm.Cond.code ({ cls := "com/example/skipstitch/skipstitch/core/BorderTable", name := "of", desc := "([I)[I" } : Jvm.MethodName) prog_41_method_2_code (4 : Nat) (Option.some (Jvm.ClassFile.FieldType.array Jvm.ClassFile.FieldType.int))).before args0 about1 = true := code_word (m := ⟨2, 1⟩) (meth := k2m1) (c := k2c1) (by decide +kernel) rfl rfl rfl (by decide +kernel)
set_option maxRecDepth 65536 in
theorem w_c2 : (Jvm.Cond.code ({ cls := "com/example/skipstitch/skipstitch/core/BorderTableOfPinLaw", name := "entry", desc := "([I[III)Z" } : Jvm.MethodName) method_4_code (4 : Nat) (Option.some Jvm.ClassFile.FieldType.boolean)).before args0 about1 = true := code_word (m := ⟨1, 3⟩) (meth := k1m3) (c := k1c3) (by decide +kernel) rfl rfl rfl (by decide +kernel)
set_option maxRecDepth 65536 in
theorem w_c3 : (Jvm.Cond.code ({ cls := "com/example/skipstitch/skipstitch/core/BorderTableOfPinLaw", name := "sym", desc := "(IIIII)I" } : Jvm.MethodName) method_3_code (6 : Nat) (Option.some Jvm.ClassFile.FieldType.int)).before args0 about1 = true := code_word (m := ⟨1, 2⟩) (meth := k1m2) (c := k1c2) (by decide +kernel) rfl rfl rfl (by decide +kernel)
set_option maxRecDepth 65536 in
theorem w_c4 : (Jvm.Cond.code ({ cls := "com/example/skipstitch/skipstitch/core/BorderTableOfPinLaw", name := "border", desc := "([II)I" } : Jvm.MethodName) method_5_code (2 : Nat) (Option.some Jvm.ClassFile.FieldType.int)).before args0 about1 = true := code_word (m := ⟨1, 4⟩) (meth := k1m4) (c := k1c4) (by decide +kernel) rfl rfl rfl (by decide +kernel)
set_option maxRecDepth 65536 in
theorem w_c5 : (Jvm.Cond.code ({ cls := "com/example/skipstitch/skipstitch/core/BorderTableOfPinLaw", name := "matches", desc := "([III)Z" } : Jvm.MethodName) method_6_code (5 : Nat) (Option.some Jvm.ClassFile.FieldType.boolean)).before args0 about1 = true := code_word (m := ⟨1, 5⟩) (meth := k1m5) (c := k1c5) (by decide +kernel) rfl rfl rfl (by decide +kernel)
def codes1 : List Jvm.Cond := [Jvm.Cond.code x code maxLocals ret, Jvm.Cond.code ({ cls := "com/example/skipstitch/skipstitch/core/BorderTable", name := "of", desc := "([I)[I" } : Jvm.MethodName) prog_41_method_2_code (4 : Nat) (Option.some (Jvm.ClassFile.FieldType.array Jvm.ClassFile.FieldType.int)), Jvm.Cond.code ({ cls := "com/example/skipstitch/skipstitch/core/BorderTableOfPinLaw", name := "entry", desc := "([I[III)Z" } : Jvm.MethodName) method_4_code (4 : Nat) (Option.some Jvm.ClassFile.FieldType.boolean), Jvm.Cond.code ({ cls := "com/example/skipstitch/skipstitch/core/BorderTableOfPinLaw", name := "sym", desc := "(IIIII)I" } : Jvm.MethodName) method_3_code (6 : Nat) (Option.some Jvm.ClassFile.FieldType.int), Jvm.Cond.code ({ cls := "com/example/skipstitch/skipstitch/core/BorderTableOfPinLaw", name := "border", desc := "([II)I" } : Jvm.MethodName) method_5_code (2 : Nat) (Option.some Jvm.ClassFile.FieldType.int), Jvm.Cond.code ({ cls := "com/example/skipstitch/skipstitch/core/BorderTableOfPinLaw", name := "matches", desc := "([III)Z" } : Jvm.MethodName) method_6_code (5 : Nat) (Option.some Jvm.ClassFile.FieldType.boolean)]
set_option maxRecDepth 65536 in
theorem codes_eq : words1.filter isCode = codes1 := rfl
theorem w_codes : ∀ c ∈ words1.filter isCode, c.before args0 about1 = true := by
  rw [codes_eq]
  intro c hc
  simp only [codes1, List.mem_cons, List.not_mem_nil, or_false] at hc
  rcases hc with rfl | rfl | rfl | rfl | rfl | rfl
  · exact w_c0
  · exact w_c1
  · exact w_c2
  · exact w_c3
  · exact w_c4
  · exact w_c5
set_option maxRecDepth 65536 in
theorem w_t1 : words1.all (fun c => isCode c || c.before args0 about1) = true := by decide +kernel
theorem w_tables : (allAtoms (Jvm.Cond.code x code maxLocals ret :: tables_1)).before args0 about1 = true := by
  rw [allAtoms_all]
  show words1.all (fun c => c.before args0 about1) = true
  refine all_split ?_ w_codes
  rw [w_t1]
set_option maxRecDepth 65536 in
theorem w_case : (Jvm.Cond.and given_1 narrow_1).before args0 about1 = true := by decide +kernel
theorem w_applies : (headSpec (Jvm.Cond.code x code maxLocals ret :: tables_1) room_1).applies x e0.platform about1 = true :=
  (Spec.applies_iff w_frames).mpr ⟨w_running, w_runnable, w_alone, w_named, w_hears, w_ripe, w_room, w_tables⟩
theorem atStart : AtStart classFile x code maxLocals ret World_1 tables_1 room_1 Calls_1 rest_1 Pre_1 launch0 p0 e0 about1 theMethod args0 below0 :=
  ⟨lists_1, trivial, launch0.admits_env _ _ _, launch0.least_env, fairChoices_fair.cas, fairChoices_fair.clock, w_frames, w_args, w_heap, w_applies, trivial, trivial, w_case⟩
end start1
theorem witness_1 : WitnessClaimed_1 := ⟨start1.p0, start1.e0, start1.about1, start1.theMethod, start1.args0, start1.below0, start1.atStart⟩
end Jvm.Pilot.@@N@@
