import JvmDerived
import JvmDerived.Pilot.@@N@@Statement
import JvmDerived.Pilot.@@N@@Code
set_option linter.unusedVariables false
set_option linter.unusedSimpArgs false
@@BLOCK:NumsL.lean.txt@@
namespace Jvm.OwnGo
open Jvm Sem ClassFile Op Lib Jvm.Stand Jvm.Free Jvm.LawKit Jvm.RoadKit
/-! ## 1. plain values: a reference is a place in the list of the objects that the law has made -/
def sv (n0 : Nat) : Value → Value
  | .ref a => .ref (n0 + a)
  | .int x => .int x
  | .long x => .long x
  | .null => .null
  | .float x => .float x
  | .double x => .double x
  | .retAddr x => .retAddr x
def ss (n0 : Nat) : Slot → Slot
  | .val v => .val (sv n0 v)
  | .unset => .unset
  | .second => .second
abbrev Obj := (String × List (String × String × Value)) ⊕ (FieldType × List Value)
abbrev Hp := List Obj
abbrev Ctx := Launch × State × Array Value × Nat
abbrev Mt := MethodName × ByteArray × Nat × Option FieldType
abbrev Res := Option Value × Option Hp × Nat × Nat
abbrev LL (n0 : Nat) (ls : List Slot) : Array Slot := (ls.map (ss n0)).toArray
abbrev SS (n0 : Nat) (st : List Value) : List Value := st.map (sv n0)
theorem sv_cat (n0 : Nat) (v : Value) : (sv n0 v).category = v.category := by cases v <;> rfl
theorem sv_ref (n0 : Nat) (v : Value) : (sv n0 v).isRef = v.isRef := by cases v <;> rfl
theorem LL_get {n0 : Nat} {ls : List Slot} {k : Nat} {x : Slot} (h : ls[k]? = some x) : (LL n0 ls)[k]? = some (ss n0 x) := by simp [LL, h]
theorem LL_size (n0 : Nat) (ls : List Slot) : (LL n0 ls).size = ls.length := by simp [LL]
theorem cats (n0 : Nat) (st : List Value) : ((SS n0 st).map fun v => v.category).sum = (st.map fun v => v.category).sum := by
  induction st with
  | nil => rfl
  | cons v r ih => simp only [SS, List.map_cons, List.sum_cons, sv_cat] at ih ⊢; rw [ih]
/-! ## 2. what an object of the list is in the heap -/
def COk (Z : State) (a0 : Array Value) (n0 : Nat) (h : Heap) (a : Addr) : Obj → Prop
  | .inl o => Exa Z h a o.1 ∧ (o.2.map (fun f => f.1)).Nodup ∧ ∀ f ∈ o.2, Laid Z a0 o.1 o.1 f.1 f.2.1 ∧ (∃ ty, parseFieldDescriptor f.2.1 = some ty) ∧ Fld Z h a o.1 f.1 f.2.1 (sv n0 f.2.2)
  | .inr o => ∃ c : Cell, Arr Z h a c o.1 ∧ c.slots = (o.2.map (sv n0)).toArray
def Sim (K : Ctx) (h : Heap) (H : Hp) : Prop := h.size = K.2.2.2 + H.length ∧ ∀ (i : Nat) (o : Obj), H[i]? = some o → COk K.2.1 K.2.2.1 K.2.2.2 h (K.2.2.2 + i) o
theorem COk.ext {Z : State} {a0 : Array Value} {n0 : Nat} {h h' : Heap} {a : Addr} {o : Obj} (E : Ext h h') (C : COk Z a0 n0 h a o) : COk Z a0 n0 h' a o := by
  cases o with
  | inl o => exact ⟨C.1.ext E, C.2.1, fun f hf => ⟨(C.2.2 f hf).1, (C.2.2 f hf).2.1, (C.2.2 f hf).2.2.ext E⟩⟩
  | inr o => obtain ⟨c, A, q⟩ := C; exact ⟨c, A.ext E, q⟩
theorem COk.other {Z : State} {a0 : Array Value} {n0 : Nat} {h h' : Heap} {a b : Addr} {o : Obj} {sl : Nat} {v : Value} (W : Wr h h' b sl v) (ne : a ≠ b) (C : COk Z a0 n0 h a o) : COk Z a0 n0 h' a o := by
  cases o with
  | inl o => exact ⟨C.1.wr W, C.2.1, fun f hf => ⟨(C.2.2 f hf).1, (C.2.2 f hf).2.1, (C.2.2 f hf).2.2.other W (Or.inl ne)⟩⟩
  | inr o => obtain ⟨c, A, q⟩ := C; exact ⟨c, A.other W ne, q⟩
theorem Sim.push {K : Ctx} {h h' : Heap} {H : Hp} {o : Obj} (S : Sim K h H) (E : Ext h h') (hs : h'.size = h.size + 1) (C : COk K.2.1 K.2.2.1 K.2.2.2 h' (K.2.2.2 + H.length) o) : Sim K h' (H ++ [o]) := by
  refine ⟨by rw [hs, S.1, List.length_append]; rfl, fun i o' hi => ?_⟩
  by_cases q : i < H.length
  · rw [List.getElem?_append_left q] at hi
    exact (S.2 i o' hi).ext E
  · have hl := (List.getElem?_eq_some_iff.mp hi).1
    rw [List.length_append, List.length_singleton] at hl
    obtain rfl : i = H.length := by omega
    rw [List.getElem?_append_right (Nat.le_refl _), Nat.sub_self] at hi
    cases hi
    exact C
theorem Sim.set {K : Ctx} {h h' : Heap} {H : Hp} {o o' : Obj} {i sl : Nat} {v : Value} (S : Sim K h H) (W : Wr h h' (K.2.2.2 + i) sl v) (hi : H[i]? = some o) (C : COk K.2.1 K.2.2.1 K.2.2.2 h' (K.2.2.2 + i) o') : Sim K h' (H.set i o') := by
  refine ⟨by rw [W.size, S.1, List.length_set], fun j u hj => ?_⟩
  by_cases q : j = i
  · subst q
    rw [List.getElem?_set_self (List.getElem?_eq_some_iff.mp hi).1] at hj
    cases hj
    exact C
  · rw [List.getElem?_set_ne (Ne.symm q)] at hj
    exact (S.2 j u hj).other W (fun z => q (Nat.add_left_cancel z))
/-! ## 3. 'Go': from here the invocation comes to its end with r: the value, the objects, at the most so many cells and slots made -/
def FinH (K : Ctx) (h : Heap) (o : Option Hp) : Prop := ∀ H', o = some H' → Sim K h H'
def HOk (H : Hp) (o : Option Hp) : Prop := ∀ H', o = some H' → H = H'
theorem HOk.any {H : Hp} : HOk H none := fun _ h => nomatch h
theorem HOk.eq {H H' : Hp} (h : H = H') : HOk H (some H') := fun _ e => h.trans (Option.some.inj e)
theorem HOk.fin {K : Ctx} {h : Heap} {H : Hp} {o : Option Hp} (q : HOk H o) (S : Sim K h H) : FinH K h o := fun H' e => q H' e ▸ S
def Go (K : Ctx) (M : Mt) (F Lo : Nat) (pc : Nat) (ls : List Slot) (st : List Value) (H : Hp) (r : Res) : Prop :=
  ∀ (R : Room) (cells slots : Nat) (p : Program) (e : Env) (s : State) (m : MethodId) (args : Array Value) (below : List Frame) (meth : Method) (c : Code) (T : State) (locs : List Loc),
    F ≤ R.frames → Lo ≤ R.locals → cells + r.2.2.1 ≤ R.cells → slots + r.2.2.2 ≤ R.slots → p.tables.exec = Jvm.exec → K.2.1.Warmed39 s.vm → c.code = M.2.1 → c.maxLocals = M.2.2.1 → meth.sig.returnType = M.2.2.2 → meth.locks = false → s.vm.findClass M.1.cls = some m.cls → meth.name = M.1.name →
    Stand p K.1 e R s m args below meth c T locs cells slots → Sim K T.heap H → Fr K.2.2.2 locs →
    ∃ (s₂ : State) (L : List Loc), Steps p.tables e below (T.setTop (mkF m pc (LL K.2.2.2 ls) (SS K.2.2.2 st))) s₂ ∧ s₂.status = .running ∧ Ended s₂ below (.returned (r.1.map (sv K.2.2.2))) ∧ FinH K s₂.heap r.2.1 ∧ Fr K.2.2.2 L ∧ FrameEnd s (.returned (r.1.map (sv K.2.2.2))) s₂ L (cells + r.2.2.1) (slots + r.2.2.2)
def Dec (M : Mt) (pc : Nat) (i : Instr) (n pc' : Nat) : Prop := decode M.2.1 pc = .ok (i, n) ∧ pc + n = pc'
def Jmp (pc : Nat) (o : Int) (pc' : Nat) : Prop := 0 ≤ (pc : Int) + o ∧ ((pc : Int) + o).toNat = pc'
instance (M : Mt) (pc : Nat) (i : Instr) (n pc' : Nat) : Decidable (Dec M pc i n pc') := inferInstanceAs (Decidable (_ ∧ _))
instance (pc : Nat) (o : Int) (pc' : Nat) : Decidable (Jmp pc o pc') := inferInstanceAs (Decidable (_ ∧ _))
section G
variable {K : Ctx} {M : Mt} {F Lo pc pc' pt : Nat} {ls ls' : List Slot} {st st' : List Value} {H : Hp} {r : Res}
theorem Go.mono {F' Lo' : Nat} {rv : Option Value} {H' : Option Hp} {dc ds dc' ds' : Nat} (h : Go K M F Lo pc ls st H (rv, H', dc, ds)) (h1 : F ≤ F') (h2 : Lo ≤ Lo') (h3 : dc ≤ dc') (h4 : ds ≤ ds') : Go K M F' Lo' pc ls st H (rv, H', dc', ds') := by
  intro R cells slots p e s m args below meth c T locs a1 a2 a3 a4 b1 b2 b3 b4 b5 b6 b7 b8 X S N
  obtain ⟨s₂, L, q1, q2, q3, q4, q5, q6⟩ := h R cells slots p e s m args below meth c T locs (Nat.le_trans h1 a1) (Nat.le_trans h2 a2) (Nat.le_trans (Nat.add_le_add_left h3 _) a3) (Nat.le_trans (Nat.add_le_add_left h4 _) a4) b1 b2 b3 b4 b5 b6 b7 b8 X S N
  exact ⟨s₂, L, q1, q2, q3, q4, q5, q6.1, q6.2.1, q6.2.2.mono (Nat.add_le_add_left h3 _) (Nat.add_le_add_left h4 _)⟩
theorem Go.cast {r' : Res} (h : Go K M F Lo pc ls st H r) (e : r = r') : Go K M F Lo pc ls st H r' := e ▸ h
theorem Go.pureS (hs : ∀ {p : Program} {e : Env} {below : List Frame} {T target : State} {m : MethodId} {c : Code}, At T m c below → p.tables.exec = Jvm.exec → c.code = M.2.1 → Steps p.tables e below (T.setTop (mkF m pc' (LL K.2.2.2 ls') (SS K.2.2.2 st'))) target → Steps p.tables e below (T.setTop (mkF m pc (LL K.2.2.2 ls) (SS K.2.2.2 st))) target)
    (h : Go K M F Lo pc' ls' st' H r) : Go K M F Lo pc ls st H r := by
  intro R cells slots p e s m args below meth c T locs a1 a2 a3 a4 b1 b2 b3 b4 b5 b6 b7 b8 X S N
  obtain ⟨s₂, L, q1, q⟩ := h R cells slots p e s m args below meth c T locs a1 a2 a3 a4 b1 b2 b3 b4 b5 b6 b7 b8 X S N
  exact ⟨s₂, L, hs X.here b1 b3 q1, q⟩
theorem Dec.at {M : Mt} {pc n pc' : Nat} {i : Instr} (d : Dec M pc i n pc') {c : Code} (hc : c.code = M.2.1) : decode c.code pc = .ok (i, n) := hc ▸ d.1
/-! ## 4. one law a plain instruction -/
theorem rem_mod (x y : Int32) : x - (x / y) * y = x % y := irem_eq_mod x y
def setM (n0 : Nat) (A : Array Slot) : Array Slot := A.map (ss n0)
theorem setAt_map (n0 : Nat) (A : Array Slot) (i : Nat) (x : Slot) : setAt (setM n0 A) i (ss n0 x) = (setAt A i x).map (setM n0) := by
  simp only [setAt, setM, Array.size_map]
  split
  · show some ((A.map (ss n0)).setIfInBounds i (ss n0 x)) = some ((A.setIfInBounds i x).map (ss n0))
    rw [Array.map_setIfInBounds]
  · rfl
theorem setM_get (n0 : Nat) (A : Array Slot) (i : Nat) : (setM n0 A)[i]? = (A[i]?).map (ss n0) := by simp [setM]
theorem storeSelf_map (n0 : Nat) (A : Array Slot) (i : Nat) (v : Value) : storeSelf (setM n0 A) i (sv n0 v) = (storeSelf A i v).map (setM n0) := by
  have e0 : setAt (setM n0 A) i (.val (sv n0 v)) = (setAt A i (.val v)).map (setM n0) := setAt_map n0 A i (.val v)
  have eu : ∀ B j, setAt (setM n0 B) j .unset = (setAt B j .unset).map (setM n0) := fun B j => setAt_map n0 B j .unset
  have es : ∀ B j, setAt (setM n0 B) j .second = (setAt B j .second).map (setM n0) := fun B j => setAt_map n0 B j .second
  simp only [storeSelf, e0, sv_cat]
  cases setAt A i (.val v) with
  | none => rfl
  | some B =>
    simp only [Option.map_some, Option.bind_eq_bind, Option.bind_some, setM_get]
    split
    · cases B[i + 1]? with
      | none => rfl
      | some x =>
        cases x with
        | unset => simp only [Option.map_some, Option.bind_some, ss, es]
        | second => simp only [Option.map_some, Option.bind_some, ss, es]
        | val w =>
          simp only [Option.map_some, Option.bind_some, ss, sv_cat]
          split
          · rw [eu]
            cases setAt B (i + 2) .unset with
            | none => rfl
            | some D => simp only [Option.map_some, Option.bind_some, es]
          · rw [es]
    · rfl
theorem storeLocals_map (n0 : Nat) (A : Array Slot) (i : Nat) (v : Value) : storeLocals (setM n0 A) i (sv n0 v) = (storeLocals A i v).map (setM n0) := by
  have eu : ∀ B j, setAt (setM n0 B) j .unset = (setAt B j .unset).map (setM n0) := fun B j => setAt_map n0 B j .unset
  simp only [storeLocals, setM_get, Option.bind_eq_bind]
  cases A[i]? with
  | none => rfl
  | some x =>
    cases x with
    | unset => simp only [Option.map_some, Option.bind_some, ss, storeSelf_map]
    | second =>
      simp only [Option.map_some, Option.bind_some, ss, eu]
      cases setAt A (i - 1) .unset with
      | none => rfl
      | some D => simp only [Option.map_some, Option.bind_some, storeSelf_map]
    | val w =>
      simp only [Option.map_some, Option.bind_some, ss, sv_cat]
      split
      · rw [eu]
        cases setAt A (i + 1) .unset with
        | none => rfl
        | some D => simp only [Option.map_some, Option.bind_some, storeSelf_map]
      · rw [storeSelf_map]
def stl (ls : List Slot) (k : Nat) (v : Value) : Option (List Slot) := (storeLocals ls.toArray k v).map Array.toList
theorem stl_ok {n0 : Nat} {ls ls' : List Slot} {k : Nat} {v : Value} (h : stl ls k v = some ls') : storeLocals (LL n0 ls) k (sv n0 v) = some (LL n0 ls') := by
  have e : LL n0 ls = setM n0 ls.toArray := by simp [LL, setM]
  rw [e, storeLocals_map]
  simp only [stl] at h
  cases hq : storeLocals ls.toArray k v with
  | none => rw [hq] at h; cases h
  | some B =>
    rw [hq] at h
    cases h
    show some (setM n0 B) = some (LL n0 B.toList)
    congr 1
    apply Array.toList_inj.mp
    simp [LL, setM]
theorem Go.iloadN {k : Fin 4} {v : Int32} (hd : Dec M pc (.iload_n k) 1 pc') (hl : ls[k.val]? = some (.val (.int v))) (h : Go K M F Lo pc' ls (.int v :: st) H r) : Go K M F Lo pc ls st H r := by
  obtain ⟨hd, rfl⟩ := hd
  exact h.pureS fun A hx hc k => XS.iloadN A hx rfl (hc ▸ hd) (LL_get hl) k
theorem Go.iload {k : Nat} {v : Int32} (hd : Dec M pc (.iload k) 2 pc') (hl : ls[k]? = some (.val (.int v))) (h : Go K M F Lo pc' ls (.int v :: st) H r) : Go K M F Lo pc ls st H r := by
  obtain ⟨hd, rfl⟩ := hd
  exact h.pureS fun A hx hc k => XS.iload A hx rfl (hc ▸ hd) (LL_get hl) k
theorem Go.istoreN {k : Fin 4} {v : Int32} (hd : Dec M pc (.istore_n k) 1 pc') (hl : stl ls k.val (.int v) = some ls') (h : Go K M F Lo pc' ls' st H r) : Go K M F Lo pc ls (.int v :: st) H r := by
  obtain ⟨hd, rfl⟩ := hd
  exact h.pureS fun A hx hc k => XS.istoreN A hx rfl (hc ▸ hd) rfl (stl_ok (n0 := K.2.2.2) hl) k
theorem Go.istore {k : Nat} {v : Int32} (hd : Dec M pc (.istore k) 2 pc') (hl : stl ls k (.int v) = some ls') (h : Go K M F Lo pc' ls' st H r) : Go K M F Lo pc ls (.int v :: st) H r := by
  obtain ⟨hd, rfl⟩ := hd
  exact h.pureS fun A hx hc k => XS.istore A hx rfl (hc ▸ hd) rfl (stl_ok (n0 := K.2.2.2) hl) k
theorem Go.lloadN {k : Fin 4} {v : Int64} (hd : Dec M pc (.lload_n k) 1 pc') (hl : ls[k.val]? = some (.val (.long v))) (h : Go K M F Lo pc' ls (.long v :: st) H r) : Go K M F Lo pc ls st H r := by
  obtain ⟨hd, rfl⟩ := hd
  exact h.pureS fun A hx hc k => XT.lloadN A hx rfl (hc ▸ hd) (LL_get hl) k
theorem Go.lload {k : Nat} {v : Int64} (hd : Dec M pc (.lload k) 2 pc') (hl : ls[k]? = some (.val (.long v))) (h : Go K M F Lo pc' ls (.long v :: st) H r) : Go K M F Lo pc ls st H r := by
  obtain ⟨hd, rfl⟩ := hd
  exact h.pureS fun A hx hc k => XT.lload A hx rfl (hc ▸ hd) (LL_get hl) k
theorem Go.lstoreN {k : Fin 4} {v : Int64} (hd : Dec M pc (.lstore_n k) 1 pc') (hl : stl ls k.val (.long v) = some ls') (h : Go K M F Lo pc' ls' st H r) : Go K M F Lo pc ls (.long v :: st) H r := by
  obtain ⟨hd, rfl⟩ := hd
  exact h.pureS fun A hx hc k => XT.lstoreN A hx rfl (hc ▸ hd) rfl (stl_ok (n0 := K.2.2.2) hl) k
theorem Go.lstore {k : Nat} {v : Int64} (hd : Dec M pc (.lstore k) 2 pc') (hl : stl ls k (.long v) = some ls') (h : Go K M F Lo pc' ls' st H r) : Go K M F Lo pc ls (.long v :: st) H r := by
  obtain ⟨hd, rfl⟩ := hd
  exact h.pureS fun A hx hc k => XT.lstore A hx rfl (hc ▸ hd) rfl (stl_ok (n0 := K.2.2.2) hl) k
theorem Go.aloadN {k : Fin 4} {v : Value} (hd : Dec M pc (.aload_n k) 1 pc') (hl : ls[k.val]? = some (.val v)) (hv : v.isRef = true) (h : Go K M F Lo pc' ls (v :: st) H r) : Go K M F Lo pc ls st H r := by
  obtain ⟨hd, rfl⟩ := hd
  exact h.pureS fun A hx hc k => XS.aloadN A hx rfl (hc ▸ hd) (LL_get hl) (by rw [sv_ref]; exact hv) k
theorem Go.aload {k : Nat} {v : Value} (hd : Dec M pc (.aload k) 2 pc') (hl : ls[k]? = some (.val v)) (hv : v.isRef = true) (h : Go K M F Lo pc' ls (v :: st) H r) : Go K M F Lo pc ls st H r := by
  obtain ⟨hd, rfl⟩ := hd
  exact h.pureS fun A hx hc k => XS.aload A hx rfl (hc ▸ hd) (LL_get hl) (by rw [sv_ref]; exact hv) k
theorem Go.astoreN {k : Fin 4} {v : Value} (hd : Dec M pc (.astore_n k) 1 pc') (hl : stl ls k.val v = some ls') (hv : v.isRef = true) (h : Go K M F Lo pc' ls' st H r) : Go K M F Lo pc ls (v :: st) H r := by
  obtain ⟨hd, rfl⟩ := hd
  exact h.pureS fun A hx hc k => XS.astoreN A hx rfl (hc ▸ hd) rfl (by rw [sv_ref]; exact hv) (stl_ok (n0 := K.2.2.2) hl) k
theorem Go.astore {k : Nat} {v : Value} (hd : Dec M pc (.astore k) 2 pc') (hl : stl ls k v = some ls') (hv : v.isRef = true) (h : Go K M F Lo pc' ls' st H r) : Go K M F Lo pc ls (v :: st) H r := by
  obtain ⟨hd, rfl⟩ := hd
  exact h.pureS fun A hx hc k => XS.astore A hx rfl (hc ▸ hd) rfl (by rw [sv_ref]; exact hv) (stl_ok (n0 := K.2.2.2) hl) k
theorem Go.iconst {i : Int} {v : Int32} (hd : Dec M pc (.iconst i) 1 pc') (hv : Int32.ofInt i = v) (h : Go K M F Lo pc' ls (.int v :: st) H r) : Go K M F Lo pc ls st H r := by
  obtain ⟨hd, rfl⟩ := hd
  exact h.pureS fun A hx hc k => XT.iconstV A hx rfl v (hc ▸ hd) hv k
theorem Go.bipush {i : Int} {v : Int32} (hd : Dec M pc (.bipush i) 2 pc') (hv : (Int8.ofInt i).toInt32 = v) (h : Go K M F Lo pc' ls (.int v :: st) H r) : Go K M F Lo pc ls st H r := by
  obtain ⟨hd, rfl⟩ := hd
  exact h.pureS fun A hx hc k => XT.bipushV A hx rfl v (hc ▸ hd) hv k
theorem Go.sipush {i : Int} {v : Int32} (hd : Dec M pc (.sipush i) 3 pc') (hv : (Int16.ofInt i).toInt32 = v) (h : Go K M F Lo pc' ls (.int v :: st) H r) : Go K M F Lo pc ls st H r := by
  obtain ⟨hd, rfl⟩ := hd
  exact h.pureS fun A hx hc k => XT.sipushV A hx rfl v (hc ▸ hd) hv k
theorem Go.lconst {i : Fin 2} {v : Int64} (hd : Dec M pc (.lconst i) 1 pc') (hv : Int64.ofNat i = v) (h : Go K M F Lo pc' ls (.long v :: st) H r) : Go K M F Lo pc ls st H r := by
  obtain ⟨hd, rfl⟩ := hd
  exact h.pureS fun A hx hc k => XT.lconstV A hx rfl v (hc ▸ hd) hv k
theorem Go.aconstNull  (hd : Dec M pc .aconst_null 1 pc') (h : Go K M F Lo pc' ls (.null :: st) H r) : Go K M F Lo pc ls st H r := by
  obtain ⟨hd, rfl⟩ := hd
  exact h.pureS fun A hx hc k => XS.aconstNull A hx rfl (hc ▸ hd) k
theorem Go.iadd {x y : Int32} (hd : Dec M pc .iadd 1 pc') (h : Go K M F Lo pc' ls (.int (x + y) :: st) H r) : Go K M F Lo pc ls (.int y :: .int x :: st) H r := by
  obtain ⟨hd, rfl⟩ := hd
  exact h.pureS fun A hx hc k => XS.iadd A hx rfl (hc ▸ hd) rfl k
theorem Go.isub {x y : Int32} (hd : Dec M pc .isub 1 pc') (h : Go K M F Lo pc' ls (.int (x - y) :: st) H r) : Go K M F Lo pc ls (.int y :: .int x :: st) H r := by
  obtain ⟨hd, rfl⟩ := hd
  exact h.pureS fun A hx hc k => XS.isub A hx rfl (hc ▸ hd) rfl k
theorem Go.imul {x y : Int32} (hd : Dec M pc .imul 1 pc') (h : Go K M F Lo pc' ls (.int (x * y) :: st) H r) : Go K M F Lo pc ls (.int y :: .int x :: st) H r := by
  obtain ⟨hd, rfl⟩ := hd
  exact h.pureS fun A hx hc k => XS.imul A hx rfl (hc ▸ hd) rfl k
theorem Go.iand {x y : Int32} (hd : Dec M pc .iand 1 pc') (h : Go K M F Lo pc' ls (.int (x &&& y) :: st) H r) : Go K M F Lo pc ls (.int y :: .int x :: st) H r := by
  obtain ⟨hd, rfl⟩ := hd
  exact h.pureS fun A hx hc k => XS.iand A hx rfl (hc ▸ hd) rfl k
theorem Go.ior {x y : Int32} (hd : Dec M pc .ior 1 pc') (h : Go K M F Lo pc' ls (.int (x ||| y) :: st) H r) : Go K M F Lo pc ls (.int y :: .int x :: st) H r := by
  obtain ⟨hd, rfl⟩ := hd
  exact h.pureS fun A hx hc k => XT.ior A hx rfl (hc ▸ hd) rfl k
theorem Go.ixor {x y : Int32} (hd : Dec M pc .ixor 1 pc') (h : Go K M F Lo pc' ls (.int (x ^^^ y) :: st) H r) : Go K M F Lo pc ls (.int y :: .int x :: st) H r := by
  obtain ⟨hd, rfl⟩ := hd
  exact h.pureS fun A hx hc k => XT.ixor A hx rfl (hc ▸ hd) rfl k
theorem Go.ishl {x y : Int32} (hd : Dec M pc .ishl 1 pc') (h : Go K M F Lo pc' ls (.int (x <<< (y &&& 31)) :: st) H r) : Go K M F Lo pc ls (.int y :: .int x :: st) H r := by
  obtain ⟨hd, rfl⟩ := hd
  exact h.pureS fun A hx hc k => XT.ishl A hx rfl (hc ▸ hd) rfl k
theorem Go.ishr {x y : Int32} (hd : Dec M pc .ishr 1 pc') (h : Go K M F Lo pc' ls (.int (x >>> (y &&& 31)) :: st) H r) : Go K M F Lo pc ls (.int y :: .int x :: st) H r := by
  obtain ⟨hd, rfl⟩ := hd
  exact h.pureS fun A hx hc k => XT.ishr A hx rfl (hc ▸ hd) rfl k
theorem Go.iushr {x y : Int32} (hd : Dec M pc .iushr 1 pc') (h : Go K M F Lo pc' ls (.int (XT.ushr x y) :: st) H r) : Go K M F Lo pc ls (.int y :: .int x :: st) H r := by
  obtain ⟨hd, rfl⟩ := hd
  exact h.pureS fun A hx hc k => XT.iushr A hx rfl (hc ▸ hd) rfl k
theorem Go.irem {x y : Int32} (hd : Dec M pc .irem 1 pc') (hy : y ≠ 0) (h : Go K M F Lo pc' ls (.int (x % y) :: st) H r) : Go K M F Lo pc ls (.int y :: .int x :: st) H r := by
  obtain ⟨hd, rfl⟩ := hd
  exact h.pureS fun A hx hc k => XS.irem A hx rfl (hc ▸ hd) rfl hy (by rw [rem_mod]; exact k)
theorem Go.idiv {x y : Int32} (hd : Dec M pc .idiv 1 pc') (hy : y ≠ 0) (h : Go K M F Lo pc' ls (.int (x / y) :: st) H r) : Go K M F Lo pc ls (.int y :: .int x :: st) H r := by
  obtain ⟨hd, rfl⟩ := hd
  exact h.pureS fun A hx hc k => XS.idiv A hx rfl (hc ▸ hd) rfl hy k
theorem Go.ineg {x : Int32} (hd : Dec M pc .ineg 1 pc') (h : Go K M F Lo pc' ls (.int (-x) :: st) H r) : Go K M F Lo pc ls (.int x :: st) H r := by
  obtain ⟨hd, rfl⟩ := hd
  exact h.pureS fun A hx hc k => XS.ineg A hx rfl (hc ▸ hd) rfl k
theorem Go.iinc {i : Nat} {cst : Int} {v x : Int32} (hd : Dec M pc (.iinc i cst) 3 pc') (hv : Int32.ofInt cst = v) (hl : ls[i]? = some (.val (.int x))) (hl' : stl ls i (.int (x + v)) = some ls') (h : Go K M F Lo pc' ls' st H r) : Go K M F Lo pc ls st H r := by
  obtain ⟨hd, rfl⟩ := hd
  exact h.pureS fun A hx hc k => XT.iincV A hx rfl v (hc ▸ hd) hv (LL_get hl) (stl_ok (n0 := K.2.2.2) hl') k
theorem Go.ladd {x y : Int64} (hd : Dec M pc .ladd 1 pc') (h : Go K M F Lo pc' ls (.long (x + y) :: st) H r) : Go K M F Lo pc ls (.long y :: .long x :: st) H r := by
  obtain ⟨hd, rfl⟩ := hd
  exact h.pureS fun A hx hc k => XT.ladd A hx rfl (hc ▸ hd) rfl k
theorem Go.lsub {x y : Int64} (hd : Dec M pc .lsub 1 pc') (h : Go K M F Lo pc' ls (.long (x - y) :: st) H r) : Go K M F Lo pc ls (.long y :: .long x :: st) H r := by
  obtain ⟨hd, rfl⟩ := hd
  exact h.pureS fun A hx hc k => XT.lsub A hx rfl (hc ▸ hd) rfl k
theorem Go.lmul {x y : Int64} (hd : Dec M pc .lmul 1 pc') (h : Go K M F Lo pc' ls (.long (x * y) :: st) H r) : Go K M F Lo pc ls (.long y :: .long x :: st) H r := by
  obtain ⟨hd, rfl⟩ := hd
  exact h.pureS fun A hx hc k => XT.lmul A hx rfl (hc ▸ hd) rfl k
theorem Go.land {x y : Int64} (hd : Dec M pc .land 1 pc') (h : Go K M F Lo pc' ls (.long (x &&& y) :: st) H r) : Go K M F Lo pc ls (.long y :: .long x :: st) H r := by
  obtain ⟨hd, rfl⟩ := hd
  exact h.pureS fun A hx hc k => XT.land A hx rfl (hc ▸ hd) rfl k
theorem Go.lor {x y : Int64} (hd : Dec M pc .lor 1 pc') (h : Go K M F Lo pc' ls (.long (x ||| y) :: st) H r) : Go K M F Lo pc ls (.long y :: .long x :: st) H r := by
  obtain ⟨hd, rfl⟩ := hd
  exact h.pureS fun A hx hc k => XT.lor A hx rfl (hc ▸ hd) rfl k
theorem Go.lxor {x y : Int64} (hd : Dec M pc .lxor 1 pc') (h : Go K M F Lo pc' ls (.long (x ^^^ y) :: st) H r) : Go K M F Lo pc ls (.long y :: .long x :: st) H r := by
  obtain ⟨hd, rfl⟩ := hd
  exact h.pureS fun A hx hc k => XT.lxor A hx rfl (hc ▸ hd) rfl k
theorem Go.lshl {x : Int64} {y : Int32} (hd : Dec M pc .lshl 1 pc') (h : Go K M F Lo pc' ls (.long (x <<< (y.toInt64 &&& 63)) :: st) H r) : Go K M F Lo pc ls (.int y :: .long x :: st) H r := by
  obtain ⟨hd, rfl⟩ := hd
  exact h.pureS fun A hx hc k => XT.lshl A hx rfl (hc ▸ hd) rfl k
theorem Go.lshr {x : Int64} {y : Int32} (hd : Dec M pc .lshr 1 pc') (h : Go K M F Lo pc' ls (.long (x >>> (y.toInt64 &&& 63)) :: st) H r) : Go K M F Lo pc ls (.int y :: .long x :: st) H r := by
  obtain ⟨hd, rfl⟩ := hd
  exact h.pureS fun A hx hc k => XT.lshr A hx rfl (hc ▸ hd) rfl k
theorem Go.lushr {x : Int64} {y : Int32} (hd : Dec M pc .lushr 1 pc') (h : Go K M F Lo pc' ls (.long (XT.ushrL x y) :: st) H r) : Go K M F Lo pc ls (.int y :: .long x :: st) H r := by
  obtain ⟨hd, rfl⟩ := hd
  exact h.pureS fun A hx hc k => XT.lushr A hx rfl (hc ▸ hd) rfl k
theorem Go.lrem {x y : Int64} (hd : Dec M pc .lrem 1 pc') (hy : y ≠ 0) (h : Go K M F Lo pc' ls (.long (x % y) :: st) H r) : Go K M F Lo pc ls (.long y :: .long x :: st) H r := by
  obtain ⟨hd, rfl⟩ := hd
  exact h.pureS fun A hx hc k => XT.lrem A hx rfl (hc ▸ hd) rfl hy (by rw [lrem_mod]; exact k)
theorem Go.ldiv {x y : Int64} (hd : Dec M pc .ldiv 1 pc') (hy : y ≠ 0) (h : Go K M F Lo pc' ls (.long (x / y) :: st) H r) : Go K M F Lo pc ls (.long y :: .long x :: st) H r := by
  obtain ⟨hd, rfl⟩ := hd
  exact h.pureS fun A hx hc k => XT.ldiv A hx rfl (hc ▸ hd) rfl hy k
theorem Go.lneg {x : Int64} (hd : Dec M pc .lneg 1 pc') (h : Go K M F Lo pc' ls (.long (-x) :: st) H r) : Go K M F Lo pc ls (.long x :: st) H r := by
  obtain ⟨hd, rfl⟩ := hd
  exact h.pureS fun A hx hc k => XT.lneg A hx rfl (hc ▸ hd) rfl k
theorem Go.lcmp {x y : Int64} (hd : Dec M pc .lcmp 1 pc') (h : Go K M F Lo pc' ls (.int (XT.cmpL x y) :: st) H r) : Go K M F Lo pc ls (.long y :: .long x :: st) H r := by
  obtain ⟨hd, rfl⟩ := hd
  exact h.pureS fun A hx hc k => XT.lcmp A hx rfl (hc ▸ hd) rfl k
theorem Go.i2l {x : Int32} (hd : Dec M pc .i2l 1 pc') (h : Go K M F Lo pc' ls (.long x.toInt64 :: st) H r) : Go K M F Lo pc ls (.int x :: st) H r := by
  obtain ⟨hd, rfl⟩ := hd
  exact h.pureS fun A hx hc k => XT.i2l A hx rfl (hc ▸ hd) rfl k
theorem Go.l2i {x : Int64} (hd : Dec M pc .l2i 1 pc') (h : Go K M F Lo pc' ls (.int x.toInt32 :: st) H r) : Go K M F Lo pc ls (.long x :: st) H r := by
  obtain ⟨hd, rfl⟩ := hd
  exact h.pureS fun A hx hc k => XT.l2i A hx rfl (hc ▸ hd) rfl k
theorem Go.i2b {x : Int32} (hd : Dec M pc .i2b 1 pc') (h : Go K M F Lo pc' ls (.int x.toInt8.toInt32 :: st) H r) : Go K M F Lo pc ls (.int x :: st) H r := by
  obtain ⟨hd, rfl⟩ := hd
  exact h.pureS fun A hx hc k => XT.i2b A hx rfl (hc ▸ hd) rfl k
theorem Go.i2c {x : Int32} (hd : Dec M pc .i2c 1 pc') (h : Go K M F Lo pc' ls (.int x.toUInt32.toUInt16.toUInt32.toInt32 :: st) H r) : Go K M F Lo pc ls (.int x :: st) H r := by
  obtain ⟨hd, rfl⟩ := hd
  exact h.pureS fun A hx hc k => XT.i2c A hx rfl (hc ▸ hd) rfl k
theorem Go.i2s {x : Int32} (hd : Dec M pc .i2s 1 pc') (h : Go K M F Lo pc' ls (.int x.toInt16.toInt32 :: st) H r) : Go K M F Lo pc ls (.int x :: st) H r := by
  obtain ⟨hd, rfl⟩ := hd
  exact h.pureS fun A hx hc k => XT.i2s A hx rfl (hc ▸ hd) rfl k
theorem Go.pop {x : Value} (hd : Dec M pc .pop 1 pc') (hx1 : x.category = 1) (h : Go K M F Lo pc' ls st H r) : Go K M F Lo pc ls (x :: st) H r := by
  obtain ⟨hd, rfl⟩ := hd
  exact h.pureS fun A hx hc k => XT.pop A hx rfl (hc ▸ hd) rfl (by rw [sv_cat]; exact hx1) k
theorem Go.dup {x : Value} (hd : Dec M pc .dup 1 pc') (hx1 : x.category = 1) (h : Go K M F Lo pc' ls (x :: x :: st) H r) : Go K M F Lo pc ls (x :: st) H r := by
  obtain ⟨hd, rfl⟩ := hd
  exact h.pureS fun A hx hc k => XS.dup A hx rfl (hc ▸ hd) rfl (by rw [sv_cat]; exact hx1) k
theorem Go.dupX1 {x y : Value} (hd : Dec M pc .dup_x1 1 pc') (hx1 : x.category = 1) (hy1 : y.category = 1) (h : Go K M F Lo pc' ls (x :: y :: x :: st) H r) : Go K M F Lo pc ls (x :: y :: st) H r := by
  obtain ⟨hd, rfl⟩ := hd
  exact h.pureS fun A hx hc k => XT.dupX1 A hx rfl (hc ▸ hd) rfl (by rw [sv_cat]; exact hx1) (by rw [sv_cat]; exact hy1) k
theorem Go.dup2 {x y : Value} (hd : Dec M pc .dup2 1 pc') (hx1 : x.category = 1) (hy1 : y.category = 1) (h : Go K M F Lo pc' ls (x :: y :: x :: y :: st) H r) : Go K M F Lo pc ls (x :: y :: st) H r := by
  obtain ⟨hd, rfl⟩ := hd
  exact h.pureS fun A hx hc k => XT.dup2 A hx rfl (hc ▸ hd) rfl (by rw [sv_cat]; exact hx1) (by rw [sv_cat]; exact hy1) k
theorem Go.dup2L {x : Int64} (hd : Dec M pc .dup2 1 pc') (h : Go K M F Lo pc' ls (.long x :: .long x :: st) H r) : Go K M F Lo pc ls (.long x :: st) H r := by
  obtain ⟨hd, rfl⟩ := hd
  exact h.pureS fun A hx hc k => XT.dup2L A hx rfl (hc ▸ hd) rfl k
theorem hset_self {H : Hp} {i : Nat} {o o' : Obj} (h : H[i]? = some o) : (H.set i o')[i]? = some o' := List.getElem?_set_self (List.getElem?_eq_some_iff.mp h).1
theorem hset_ne {H : Hp} {i j : Nat} {o o' : Obj} (h : H[j]? = some o) (ne : i ≠ j) : (H.set i o')[j]? = some o := (List.getElem?_set_ne ne).trans h
theorem happ {H : Hp} {i : Nat} {o : Obj} (h : H[i]? = some o) (L : Hp) : (H ++ L)[i]? = some o := (List.getElem?_append_left (List.getElem?_eq_some_iff.mp h).1).trans h
theorem happ_last {H : Hp} {i : Nat} {o : Obj} (h : H.length = i) : (H ++ [o])[i]? = some o := by subst h; simp
theorem Go.goto {o : Int} (hd : Dec M pc (.goto o) 3 pc') (hj : Jmp pc o pt) (h : Go K M F Lo pt ls st H r) : Go K M F Lo pc ls st H r :=
  h.pureS fun A hx hc k => XS.goto A hx rfl rfl (hd.at hc) hj.1 hj.2 k
theorem Go.icmpT {cd : ClassFile.Cond} {x y : Int32} {o : Int} (hd : Dec M pc (.if_icmp cd o) 3 pc') (hj : Jmp pc o pt) (hv : if_icmp.holds cd x y = true) (h : Go K M F Lo pt ls st H r) : Go K M F Lo pc ls (.int y :: .int x :: st) H r :=
  h.pureS fun A hx hc k => XS.icmpYes A hx rfl rfl (hd.at hc) rfl hv hj.1 hj.2 k
theorem Go.icmpF {cd : ClassFile.Cond} {x y : Int32} {o : Int} (hd : Dec M pc (.if_icmp cd o) 3 pc') (hv : if_icmp.holds cd x y = false) (h : Go K M F Lo pc' ls st H r) : Go K M F Lo pc ls (.int y :: .int x :: st) H r := by
  obtain ⟨hd, rfl⟩ := hd
  exact h.pureS fun A hx hc k => XS.icmpNo A hx rfl (hc ▸ hd) rfl hv k
theorem Go.ifT {cd : ClassFile.Cond} {x : Int32} {o : Int} (hd : Dec M pc (.ifCond cd o) 3 pc') (hj : Jmp pc o pt) (hv : ifCond.holds cd x = true) (h : Go K M F Lo pt ls st H r) : Go K M F Lo pc ls (.int x :: st) H r :=
  h.pureS fun A hx hc k => XS.ifYes A hx rfl rfl (hd.at hc) rfl hv hj.1 hj.2 k
theorem Go.ifF {cd : ClassFile.Cond} {x : Int32} {o : Int} (hd : Dec M pc (.ifCond cd o) 3 pc') (hv : ifCond.holds cd x = false) (h : Go K M F Lo pc' ls st H r) : Go K M F Lo pc ls (.int x :: st) H r := by
  obtain ⟨hd, rfl⟩ := hd
  exact h.pureS fun A hx hc k => XS.ifNo A hx rfl (hc ▸ hd) rfl hv k
theorem Go.icmp_lt {x y : Int32} {o : Int} (hd : Dec M pc (.if_icmp .lt o) 3 pc') (hj : Jmp pc o pt) (hT : x < y → Go K M F Lo pt ls st H r) (hF : ¬ x < y → Go K M F Lo pc' ls st H r) : Go K M F Lo pc ls (.int y :: .int x :: st) H r := by
  by_cases q : x < y
  · exact Go.icmpT hd hj (XT.ii_lt_t q) (hT q)
  · exact Go.icmpF hd (XT.ii_lt_f q) (hF q)
theorem Go.if_lt {x : Int32} {o : Int} (hd : Dec M pc (.ifCond .lt o) 3 pc') (hj : Jmp pc o pt) (hT : x < 0 → Go K M F Lo pt ls st H r) (hF : ¬ x < 0 → Go K M F Lo pc' ls st H r) : Go K M F Lo pc ls (.int x :: st) H r := by
  by_cases q : x < 0
  · exact Go.ifT hd hj (XT.i0_lt_t q) (hT q)
  · exact Go.ifF hd (XT.i0_lt_f q) (hF q)
theorem Go.lif_lt {x y : Int64} {o : Int} (hd : Dec M pc (.ifCond .lt o) 3 pc') (hj : Jmp pc o pt) (hT : x < y → Go K M F Lo pt ls st H r) (hF : ¬ x < y → Go K M F Lo pc' ls st H r) : Go K M F Lo pc ls (.int (XT.cmpL x y) :: st) H r := by
  by_cases q : x < y
  · exact Go.ifT hd hj (XT.ll_lt_t q) (hT q)
  · exact Go.ifF hd (XT.ll_lt_f q) (hF q)
theorem Go.icmp_ge {x y : Int32} {o : Int} (hd : Dec M pc (.if_icmp .ge o) 3 pc') (hj : Jmp pc o pt) (hT : ¬ x < y → Go K M F Lo pt ls st H r) (hF : x < y → Go K M F Lo pc' ls st H r) : Go K M F Lo pc ls (.int y :: .int x :: st) H r := by
  by_cases q : x < y
  · exact Go.icmpF hd (XT.ii_ge_f q) (hF q)
  · exact Go.icmpT hd hj (XT.ii_ge_t q) (hT q)
theorem Go.if_ge {x : Int32} {o : Int} (hd : Dec M pc (.ifCond .ge o) 3 pc') (hj : Jmp pc o pt) (hT : ¬ x < 0 → Go K M F Lo pt ls st H r) (hF : x < 0 → Go K M F Lo pc' ls st H r) : Go K M F Lo pc ls (.int x :: st) H r := by
  by_cases q : x < 0
  · exact Go.ifF hd (XT.i0_ge_f q) (hF q)
  · exact Go.ifT hd hj (XT.i0_ge_t q) (hT q)
theorem Go.lif_ge {x y : Int64} {o : Int} (hd : Dec M pc (.ifCond .ge o) 3 pc') (hj : Jmp pc o pt) (hT : ¬ x < y → Go K M F Lo pt ls st H r) (hF : x < y → Go K M F Lo pc' ls st H r) : Go K M F Lo pc ls (.int (XT.cmpL x y) :: st) H r := by
  by_cases q : x < y
  · exact Go.ifF hd (XT.ll_ge_f q) (hF q)
  · exact Go.ifT hd hj (XT.ll_ge_t q) (hT q)
theorem Go.icmp_gt {x y : Int32} {o : Int} (hd : Dec M pc (.if_icmp .gt o) 3 pc') (hj : Jmp pc o pt) (hT : y < x → Go K M F Lo pt ls st H r) (hF : ¬ y < x → Go K M F Lo pc' ls st H r) : Go K M F Lo pc ls (.int y :: .int x :: st) H r := by
  by_cases q : y < x
  · exact Go.icmpT hd hj (XT.ii_gt_t q) (hT q)
  · exact Go.icmpF hd (XT.ii_gt_f q) (hF q)
theorem Go.if_gt {x : Int32} {o : Int} (hd : Dec M pc (.ifCond .gt o) 3 pc') (hj : Jmp pc o pt) (hT : 0 < x → Go K M F Lo pt ls st H r) (hF : ¬ 0 < x → Go K M F Lo pc' ls st H r) : Go K M F Lo pc ls (.int x :: st) H r := by
  by_cases q : 0 < x
  · exact Go.ifT hd hj (XT.i0_gt_t q) (hT q)
  · exact Go.ifF hd (XT.i0_gt_f q) (hF q)
theorem Go.lif_gt {x y : Int64} {o : Int} (hd : Dec M pc (.ifCond .gt o) 3 pc') (hj : Jmp pc o pt) (hT : y < x → Go K M F Lo pt ls st H r) (hF : ¬ y < x → Go K M F Lo pc' ls st H r) : Go K M F Lo pc ls (.int (XT.cmpL x y) :: st) H r := by
  by_cases q : y < x
  · exact Go.ifT hd hj (XT.ll_gt_t q) (hT q)
  · exact Go.ifF hd (XT.ll_gt_f q) (hF q)
theorem Go.icmp_le {x y : Int32} {o : Int} (hd : Dec M pc (.if_icmp .le o) 3 pc') (hj : Jmp pc o pt) (hT : ¬ y < x → Go K M F Lo pt ls st H r) (hF : y < x → Go K M F Lo pc' ls st H r) : Go K M F Lo pc ls (.int y :: .int x :: st) H r := by
  by_cases q : y < x
  · exact Go.icmpF hd (XT.ii_le_f q) (hF q)
  · exact Go.icmpT hd hj (XT.ii_le_t q) (hT q)
theorem Go.if_le {x : Int32} {o : Int} (hd : Dec M pc (.ifCond .le o) 3 pc') (hj : Jmp pc o pt) (hT : ¬ 0 < x → Go K M F Lo pt ls st H r) (hF : 0 < x → Go K M F Lo pc' ls st H r) : Go K M F Lo pc ls (.int x :: st) H r := by
  by_cases q : 0 < x
  · exact Go.ifF hd (XT.i0_le_f q) (hF q)
  · exact Go.ifT hd hj (XT.i0_le_t q) (hT q)
theorem Go.lif_le {x y : Int64} {o : Int} (hd : Dec M pc (.ifCond .le o) 3 pc') (hj : Jmp pc o pt) (hT : ¬ y < x → Go K M F Lo pt ls st H r) (hF : y < x → Go K M F Lo pc' ls st H r) : Go K M F Lo pc ls (.int (XT.cmpL x y) :: st) H r := by
  by_cases q : y < x
  · exact Go.ifF hd (XT.ll_le_f q) (hF q)
  · exact Go.ifT hd hj (XT.ll_le_t q) (hT q)
theorem Go.icmp_eq {x y : Int32} {o : Int} (hd : Dec M pc (.if_icmp .eq o) 3 pc') (hj : Jmp pc o pt) (hT : x = y → Go K M F Lo pt ls st H r) (hF : ¬ x = y → Go K M F Lo pc' ls st H r) : Go K M F Lo pc ls (.int y :: .int x :: st) H r := by
  by_cases q : x = y
  · exact Go.icmpT hd hj (XT.ii_eq_t q) (hT q)
  · exact Go.icmpF hd (XT.ii_eq_f q) (hF q)
theorem Go.if_eq {x : Int32} {o : Int} (hd : Dec M pc (.ifCond .eq o) 3 pc') (hj : Jmp pc o pt) (hT : x = 0 → Go K M F Lo pt ls st H r) (hF : ¬ x = 0 → Go K M F Lo pc' ls st H r) : Go K M F Lo pc ls (.int x :: st) H r := by
  by_cases q : x = 0
  · exact Go.ifT hd hj (XT.i0_eq_t q) (hT q)
  · exact Go.ifF hd (XT.i0_eq_f q) (hF q)
theorem Go.lif_eq {x y : Int64} {o : Int} (hd : Dec M pc (.ifCond .eq o) 3 pc') (hj : Jmp pc o pt) (hT : x = y → Go K M F Lo pt ls st H r) (hF : ¬ x = y → Go K M F Lo pc' ls st H r) : Go K M F Lo pc ls (.int (XT.cmpL x y) :: st) H r := by
  by_cases q : x = y
  · exact Go.ifT hd hj (XT.ll_eq_t q) (hT q)
  · exact Go.ifF hd (XT.ll_eq_f q) (hF q)
theorem Go.icmp_ne {x y : Int32} {o : Int} (hd : Dec M pc (.if_icmp .ne o) 3 pc') (hj : Jmp pc o pt) (hT : ¬ x = y → Go K M F Lo pt ls st H r) (hF : x = y → Go K M F Lo pc' ls st H r) : Go K M F Lo pc ls (.int y :: .int x :: st) H r := by
  by_cases q : x = y
  · exact Go.icmpF hd (XT.ii_ne_f q) (hF q)
  · exact Go.icmpT hd hj (XT.ii_ne_t q) (hT q)
theorem Go.if_ne {x : Int32} {o : Int} (hd : Dec M pc (.ifCond .ne o) 3 pc') (hj : Jmp pc o pt) (hT : ¬ x = 0 → Go K M F Lo pt ls st H r) (hF : x = 0 → Go K M F Lo pc' ls st H r) : Go K M F Lo pc ls (.int x :: st) H r := by
  by_cases q : x = 0
  · exact Go.ifF hd (XT.i0_ne_f q) (hF q)
  · exact Go.ifT hd hj (XT.i0_ne_t q) (hT q)
theorem Go.lif_ne {x y : Int64} {o : Int} (hd : Dec M pc (.ifCond .ne o) 3 pc') (hj : Jmp pc o pt) (hT : ¬ x = y → Go K M F Lo pt ls st H r) (hF : x = y → Go K M F Lo pc' ls st H r) : Go K M F Lo pc ls (.int (XT.cmpL x y) :: st) H r := by
  by_cases q : x = y
  · exact Go.ifF hd (XT.ll_ne_f q) (hF q)
  · exact Go.ifT hd hj (XT.ll_ne_t q) (hT q)
theorem Go.ifnullT {o : Int} (hd : Dec M pc (.ifnull o) 3 pc') (hj : Jmp pc o pt) (h : Go K M F Lo pt ls st H r) : Go K M F Lo pc ls (.null :: st) H r :=
  h.pureS fun A hx hc k => XS.ifnullYes A hx rfl rfl (hd.at hc) rfl hj.1 hj.2 k
theorem Go.ifnullF {i : Nat} {o : Int} (hd : Dec M pc (.ifnull o) 3 pc') (h : Go K M F Lo pc' ls st H r) : Go K M F Lo pc ls (.ref i :: st) H r := by
  obtain ⟨hd, rfl⟩ := hd
  exact h.pureS fun A hx hc k => XS.ifnullNo A hx rfl (hc ▸ hd) rfl k
theorem Go.ifnonnullT {i : Nat} {o : Int} (hd : Dec M pc (.ifnonnull o) 3 pc') (hj : Jmp pc o pt) (h : Go K M F Lo pt ls st H r) : Go K M F Lo pc ls (.ref i :: st) H r :=
  h.pureS fun A hx hc k => XT.ifnonnullYes A hx rfl rfl (hd.at hc) rfl hj.1 hj.2 k
theorem Go.ifnonnullF {o : Int} (hd : Dec M pc (.ifnonnull o) 3 pc') (h : Go K M F Lo pc' ls st H r) : Go K M F Lo pc ls (.null :: st) H r := by
  obtain ⟨hd, rfl⟩ := hd
  exact h.pureS fun A hx hc k => XT.ifnonnullNo A hx rfl (hc ▸ hd) rfl k
theorem sv_inj (n0 : Nat) {x y : Value} : sv n0 x = sv n0 y ↔ x = y := by
  cases x <;> cases y <;> simp [sv]
theorem acmp_sv (n0 : Nat) (cd : ClassFile.ACond) (x y : Value) : XT.acmp cd (sv n0 x) (sv n0 y) = XT.acmp cd x y := by
  cases cd <;> simp [XT.acmp, sv_inj]
theorem Go.acmpT {cd : ClassFile.ACond} {x y : Value} {o : Int} (hd : Dec M pc (.if_acmp cd o) 3 pc') (hj : Jmp pc o pt) (h1 : x.isRef = true) (h2 : y.isRef = true) (hv : XT.acmp cd x y = true) (h : Go K M F Lo pt ls st H r) : Go K M F Lo pc ls (y :: x :: st) H r :=
  h.pureS fun A hx hc k => XT.acmpYes A hx rfl rfl (hd.at hc) rfl (by rw [sv_ref]; exact h1) (by rw [sv_ref]; exact h2) (by rw [acmp_sv]; exact hv) hj.1 hj.2 k
theorem Go.acmpF {cd : ClassFile.ACond} {x y : Value} {o : Int} (hd : Dec M pc (.if_acmp cd o) 3 pc') (h1 : x.isRef = true) (h2 : y.isRef = true) (hv : XT.acmp cd x y = false) (h : Go K M F Lo pc' ls st H r) : Go K M F Lo pc ls (y :: x :: st) H r := by
  obtain ⟨hd, rfl⟩ := hd
  exact h.pureS fun A hx hc k => XT.acmpNo A hx rfl (hc ▸ hd) rfl (by rw [sv_ref]; exact h1) (by rw [sv_ref]; exact h2) (by rw [acmp_sv]; exact hv) k
/-! ## 5. constants of the pool -/
theorem Go.ldc {idx : Nat} {v : Int32} (hd : Dec M pc (.ldc idx) 2 pc') (w : (Cond.constant M.1.cls idx v).before K.2.2.1 K.2.1 = true) (h : Go K M F Lo pc' ls (.int v :: st) H r) : Go K M F Lo pc ls st H r := by
  obtain ⟨hd, rfl⟩ := hd
  intro R cells slots p e s m args below meth c T locs a1 a2 a3 a4 b1 b2 b3 b4 b5 b6 b7 b8 X S N
  obtain ⟨s₂, L, q1, q⟩ := h R cells slots p e s m args below meth c T locs a1 a2 a3 a4 b1 b2 b3 b4 b5 b6 b7 b8 X S N
  exact ⟨s₂, L, X.ldcI b1 b7 (mvT b2 w) rfl (b3 ▸ hd) q1, q⟩
theorem Go.ldc2 {idx : Nat} {v : Int64} (hd : Dec M pc (.ldc2_w idx) 3 pc') (w : (Cond.constantLong M.1.cls idx v).before K.2.2.1 K.2.1 = true) (h : Go K M F Lo pc' ls (.long v :: st) H r) : Go K M F Lo pc ls st H r := by
  obtain ⟨hd, rfl⟩ := hd
  intro R cells slots p e s m args below meth c T locs a1 a2 a3 a4 b1 b2 b3 b4 b5 b6 b7 b8 X S N
  obtain ⟨s₂, L, q1, q⟩ := h R cells slots p e s m args below meth c T locs a1 a2 a3 a4 b1 b2 b3 b4 b5 b6 b7 b8 X S N
  exact ⟨s₂, L, X.ldc2J b1 b7 (mvT b2 w) rfl (b3 ▸ hd) q1, q⟩
/-! ## 6. fields -/
theorem Go.getfield {idx i : Nat} (j : Nat) {C n d : String} {fs : List (String × String × Value)} {v : Value} (hd : Dec M pc (.getfield idx) 3 pc') (w : (Cond.fieldLink M.1.cls idx C n d).before K.2.2.1 K.2.1 = true) (hH : H[i]? = some (.inl (C, fs))) (hf : fs[j]? = some (n, d, v))
    (h : Go K M F Lo pc' ls (v :: st) H r) : Go K M F Lo pc ls (.ref i :: st) H r := by
  obtain ⟨hd, rfl⟩ := hd
  intro R cells slots p e s m args below meth c T locs a1 a2 a3 a4 b1 b2 b3 b4 b5 b6 b7 b8 X S N
  have C0 := S.2 i _ hH
  have Fl := (C0.2.2 _ (List.mem_of_getElem? hf)).2.2
  obtain ⟨T', X', e', stp⟩ := getF X b1 b2 b7 (host := "") (Or.inl w) Via.refl rfl Fl (g := mkF m pc (LL K.2.2.2 ls) (SS K.2.2.2 (.ref i :: st))) rfl rfl (b3 ▸ hd)
  obtain ⟨s₂, L, q1, q⟩ := h R cells slots p e s m args below meth c T' locs a1 a2 a3 a4 b1 b2 b3 b4 b5 b6 b7 b8 X' (e' ▸ S) N
  exact ⟨s₂, L, stp _ q1, q⟩
def PutOk (ty : FieldType) (v : Value) : Prop := ∀ n0, narrow ty (sv n0 v) = sv n0 v ∧ fits ty (sv n0 v) = true
theorem names_set {fs : List (String × String × Value)} {j : Nat} {n d : String} {v w : Value} (hf : fs[j]? = some (n, d, w)) : (fs.set j (n, d, v)).map (fun f => f.1) = fs.map (fun f => f.1) := by
  apply List.ext_getElem?
  intro k
  rw [List.getElem?_map, List.getElem?_map]
  by_cases q : j = k
  · subst q
    rw [List.getElem?_set_self (List.getElem?_eq_some_iff.mp hf).1, hf]; rfl
  · rw [List.getElem?_set_ne q]
theorem fields_set {K : Ctx} {h h' : Heap} {a : Addr} {C n d : String} {fs : List (String × String × Value)} {j : Nat} {v old : Value} {ty : FieldType} (Ck : COk K.2.1 K.2.2.1 K.2.2.2 h a (.inl (C, fs))) (hf : fs[j]? = some (n, d, old)) (hty : parseFieldDescriptor d = some ty)
    (L : Laid K.2.1 K.2.2.1 C C n d) (W : Wr h h' a (Jvm.RoadKit.slotOf K.2.1 C n d) (sv K.2.2.2 v)) : COk K.2.1 K.2.2.1 K.2.2.2 h' a (.inl (C, fs.set j (n, d, v))) := by
  obtain ⟨E, nd, al⟩ := Ck
  refine ⟨E.wr W, by rw [names_set hf]; exact nd, fun f hm => ?_⟩
  obtain ⟨k, hk⟩ := List.mem_iff_getElem?.mp hm
  by_cases q : j = k
  · subst q
    rw [List.getElem?_set_self (List.getElem?_eq_some_iff.mp hf).1] at hk
    cases hk
    exact ⟨L, ⟨ty, hty⟩, (al _ (List.mem_of_getElem? hf)).2.2.same W⟩
  · rw [List.getElem?_set_ne q] at hk
    obtain ⟨l1, ⟨t1, p1⟩, f1⟩ := al f (List.mem_of_getElem? hk)
    refine ⟨l1, ⟨t1, p1⟩, f1.other W (Or.inr (slot_ne l1 L ?_ p1 hty))⟩
    intro e
    have h1 : (fs.map (fun f => f.1))[k]? = some f.1 := by rw [List.getElem?_map, hk]; rfl
    have h2 : (fs.map (fun f => f.1))[j]? = some f.1 := by rw [List.getElem?_map, hf, e]; rfl
    exact q ((List.getElem?_inj (List.getElem?_eq_some_iff.mp h2).1 nd).mp (h2.trans h1.symm))
theorem Go.putfield {idx i kk : Nat} (j : Nat) {C n d : String} {ty : FieldType} {fs : List (String × String × Value)} {v old : Value} {H1 : Hp} (hd : Dec M pc (.putfield idx) 3 pc') (w : (Cond.fieldLink M.1.cls idx C n d).before K.2.2.1 K.2.1 = true)
    (wl : (Cond.lays C C n d).before K.2.2.1 K.2.1 = true ∨ ((Cond.laysFinal C C n d).before K.2.2.1 K.2.1 = true ∧ M.1.cls = C ∧ M.1.name = "<init>")) (wi : (Cond.instantiable C kk).before K.2.2.1 K.2.1 = true) (hty : parseFieldDescriptor d = some ty) (hv : PutOk ty v)
    (hH : H[i]? = some (.inl (C, fs))) (hf : fs[j]? = some (n, d, old)) (hH1 : H.set i (.inl (C, fs.set j (n, d, v))) = H1) (h : Go K M F Lo pc' ls st H1 r) : Go K M F Lo pc ls (v :: .ref i :: st) H r := by
  obtain ⟨hd, rfl⟩ := hd
  intro R cells slots p e s m args below meth c T locs a1 a2 a3 a4 b1 b2 b3 b4 b5 b6 b7 b8 X S N
  subst hH1
  have C0 := S.2 i _ hH
  have Fl := (C0.2.2 _ (List.mem_of_getElem? hf)).2.2
  have L0 : Laid K.2.1 K.2.2.1 C C n d := wl.imp id (fun q => q.1)
  obtain ⟨T', h', X', e', W, stp⟩ := putF X b1 b2 b7 (host := "") (Or.inl w) Via.refl rfl Fl C0.1 (wl.imp id (fun q => ⟨q.1, q.2.1, b8.trans q.2.2⟩)) wi hty (hv K.2.2.2).1 (hv K.2.2.2).2 (g := mkF m pc (LL K.2.2.2 ls) (SS K.2.2.2 (v :: .ref i :: st))) rfl rfl (b3 ▸ hd)
  subst e'
  obtain ⟨s₂, L, q1, q⟩ := h R cells slots p e s m args below meth c T' _ a1 a2 a3 a4 b1 b2 b3 b4 b5 b6 b7 b8 X' (S.set W hH (fields_set C0 hf hty L0 W)) (Fr.snoc X' N (Nat.le_add_right _ _))
  exact ⟨s₂, L, stp _ q1, q⟩
/-! ## 7. new -/
theorem sv_dflt (n0 : Nat) (ty : FieldType) : sv n0 (defaultValue ty) = defaultValue ty := by cases ty <;> rfl
theorem Go.new {idx k i : Nat} {C : String} (fs : List (String × String × Value)) {rv : Option Value} {H' : Option Hp} {dct dst : Nat} (hd : Dec M pc (.new idx) 3 pc') (w1 : (Cond.classLink M.1.cls idx C).before K.2.2.1 K.2.1 = true) (w2 : (Cond.instantiable C k).before K.2.2.1 K.2.1 = true) (w3 : (Cond.initialized C).before K.2.2.1 K.2.1 = true)
    (hnd : (fs.map (fun f => f.1)).Nodup) (hfs : ∀ f ∈ fs, Laid K.2.1 K.2.2.1 C C f.1 f.2.1 ∧ ∃ ty, parseFieldDescriptor f.2.1 = some ty ∧ f.2.2 = defaultValue ty) (hi : H.length = i)
    (dc ds : Nat) (hdc : dc + 1 ≤ dct) (hds : ds + k ≤ dst) (h : Go K M F Lo pc' ls (.ref i :: st) (H ++ [.inl (C, fs)]) (rv, H', dc, ds)) : Go K M F Lo pc ls st H (rv, H', dct, dst) := by
  obtain ⟨hd, rfl⟩ := hd
  intro R cells slots p e s m args below meth c T locs a1 a2 a3 a4 b1 b2 b3 b4 b5 b6 b7 b8 X S N
  subst hi
  have a3' : cells + dct ≤ R.cells := a3
  have a4' : slots + dst ≤ R.slots := a4
  obtain ⟨vm', cC, kC, h1, h2, h3, h4, X', stp⟩ := X.newCold b1 b7 (mv b2 w1) (mv b2 w2) (mv b2 w3) (g := mkF m pc (LL K.2.2.2 ls) (SS K.2.2.2 st)) rfl (b3 ▸ hd) (by omega) (by omega)
  rw [b2.alike.findClass] at h1
  obtain ⟨kZ, z1, -⟩ := Vm.findClass_spec h1
  obtain ⟨k', z2, z3⟩ := b2.alike.2.2 _ _ z1
  cases h2.symm.trans z2
  have ei : kC.instanceTypes = kZ.instanceTypes := by rw [z3]
  have hN : (T.heap.push { cls := cC, slots := kC.instanceTypes.map defaultValue, vm := .none })[T.heap.size]? = some { cls := cC, slots := kC.instanceTypes.map defaultValue, vm := .none } := by simp
  have E : Ext T.heap (T.heap.push { cls := cC, slots := kC.instanceTypes.map defaultValue, vm := .none }) := ⟨by simp, fun a c h => by
    rw [Array.getElem?_push_lt (Array.getElem?_eq_some_iff.mp h).1]; exact (Array.getElem?_eq_getElem _).symm.trans h⟩
  have S' : Sim K (T.heap.push { cls := cC, slots := kC.instanceTypes.map defaultValue, vm := .none }) (H ++ [.inl (C, fs)]) := by
    refine S.push E (by simp) ?_
    rw [← S.1]
    refine ⟨⟨_, kZ, hN, h1, z1, rfl, fun _ => by simp [ei]⟩, hnd, fun f hf => ?_⟩
    obtain ⟨Lf, ty, ht, hv⟩ := hfs f hf
    refine ⟨Lf, ⟨ty, ht⟩, ?_⟩
    rw [hv, sv_dflt]
    obtain ⟨c1, k1, cf, kf, i, f', y1, y2, y3, y4, y5, y6, -⟩ := Lf.spec
    cases h1.symm.trans y1
    cases z1.symm.trans y2
    exact ⟨_, cf, kf, i, f', hN, y3, y4, by simp, rfl, y5, by simp [ei, y6, (State.fieldFound?_type y3 ht).2]⟩
  obtain ⟨s₂, L, q1, q2, q3, q4, q5, q6⟩ := h R (cells + 1) (slots + k) p e s m args below meth c _ locs a1 a2 (by show cells + 1 + dc ≤ _; omega) (by show slots + k + ds ≤ _; omega) b1 b2 b3 b4 b5 b6 b7 b8 X' S' N
  refine ⟨s₂, L, stp _ ?_, q2, q3, q4, q5, q6.1, q6.2.1, q6.2.2.mono (by show cells + 1 + dc ≤ cells + dct; omega) (by show slots + k + ds ≤ slots + dst; omega)⟩
  have e : SS K.2.2.2 (.ref H.length :: st) = .ref T.heap.size :: SS K.2.2.2 st := by rw [S.1]; rfl
  rw [e] at q1
  exact q1
theorem Go.newarray {aty : ArrayType} {t : FieldType} {n : Int32} {i : Nat} (cap : Nat) {vs : List Value} {rv : Option Value} {H' : Option Hp} {dct dst : Nat} (hd : Dec M pc (.newarray aty) 2 pc') (w : (Cond.arrayClass (newarray.typeOf aty)).before K.2.2.1 K.2.1 = true) (ht : newarray.typeOf aty = t)
    (hn : ¬ n < 0) (hcap : n.toNatClampNeg ≤ cap) (hb : cap * 8 ≤ 536870912) (hvs : List.replicate n.toNatClampNeg (defaultValue t) = vs) (hi : H.length = i)
    (dc ds : Nat) (hdc : dc + 1 ≤ dct) (hds : ds + cap ≤ dst) (h : Go K M F Lo pc' ls (.ref i :: st) (H ++ [.inr (t, vs)]) (rv, H', dc, ds)) : Go K M F Lo pc ls (.int n :: st) H (rv, H', dct, dst) := by
  obtain ⟨hd, rfl⟩ := hd
  intro R cells slots p e s m args below meth c T locs a1 a2 a3 a4 b1 b2 b3 b4 b5 b6 b7 b8 X S N
  subst hi ht hvs
  have a3' : cells + dct ≤ R.cells := a3
  have a4' : slots + dst ≤ R.slots := a4
  have hcb : componentBytes (newarray.typeOf aty) ≤ 8 := by cases aty <;> decide
  obtain ⟨cA, kA, comp, h1, h2, h3, X', stp⟩ := X.newarrayPrim b1 (mvA b2 w) (g := mkF m pc (LL K.2.2.2 ls) (SS K.2.2.2 (.int n :: st))) rfl (b3 ▸ hd) (n := n) (rest := SS K.2.2.2 st) rfl hn (Nat.le_trans (Nat.mul_le_mul hcap hcb) hb) (by omega) (by omega)
  rw [b2.alike.findClass] at h1
  obtain ⟨kZ, z1, -⟩ := Vm.findClass_spec h1
  obtain ⟨k', z2, z3⟩ := b2.alike.2.2 _ _ z1
  cases h2.symm.trans z2
  have hN : (T.heap.push { cls := cA, slots := Array.replicate n.toNatClampNeg (defaultValue (newarray.typeOf aty)), vm := .none })[T.heap.size]? = some { cls := cA, slots := Array.replicate n.toNatClampNeg (defaultValue (newarray.typeOf aty)), vm := .none } := by simp
  have E : Ext T.heap (T.heap.push { cls := cA, slots := Array.replicate n.toNatClampNeg (defaultValue (newarray.typeOf aty)), vm := .none }) := ⟨by simp, fun a c h => by
    rw [Array.getElem?_push_lt (Array.getElem?_eq_some_iff.mp h).1]; exact (Array.getElem?_eq_getElem _).symm.trans h⟩
  have S' : Sim K (T.heap.push { cls := cA, slots := Array.replicate n.toNatClampNeg (defaultValue (newarray.typeOf aty)), vm := .none }) (H ++ [.inr (newarray.typeOf aty, List.replicate n.toNatClampNeg (defaultValue (newarray.typeOf aty)))]) := by
    refine S.push E (by simp) ?_
    rw [← S.1]
    refine ⟨_, ⟨hN, ⟨by simp, kZ, z1, comp, by rw [← h3, z3]⟩, by simp⟩, ?_⟩
    simp [sv_dflt]
  obtain ⟨s₂, L, q1, q2, q3, q4, q5, q6⟩ := h R (cells + 1) (slots + cap) p e s m args below meth c _ locs a1 a2 (by show cells + 1 + dc ≤ _; omega) (by show slots + cap + ds ≤ _; omega) b1 b2 b3 b4 b5 b6 b7 b8 (X'.more (Nat.le_refl _) (by omega)) S' N
  refine ⟨s₂, L, stp _ ?_, q2, q3, q4, q5, q6.1, q6.2.1, q6.2.2.mono (by show cells + 1 + dc ≤ cells + dct; omega) (by show slots + cap + ds ≤ slots + dst; omega)⟩
  have e : SS K.2.2.2 (.ref H.length :: st) = .ref T.heap.size :: SS K.2.2.2 st := by rw [S.1]; rfl
  rw [e] at q1
  exact q1
/-! ## 8. arrays -/
theorem Go.arraylength {i : Nat} {t : FieldType} {vs : List Value} {z : Int32} (hd : Dec M pc .arraylength 1 pc') (hH : H[i]? = some (.inr (t, vs))) (hz : vs.length.toInt32 = z) (h : Go K M F Lo pc' ls (.int z :: st) H r) : Go K M F Lo pc ls (.ref i :: st) H r := by
  obtain ⟨hd, rfl⟩ := hd
  intro R cells slots p e s m args below meth c T locs a1 a2 a3 a4 b1 b2 b3 b4 b5 b6 b7 b8 X S N
  obtain ⟨cl, Ar, hc⟩ := S.2 i _ hH
  obtain ⟨s₂, L, q1, q⟩ := h R cells slots p e s m args below meth c T locs a1 a2 a3 a4 b1 b2 b3 b4 b5 b6 b7 b8 X S N
  refine ⟨s₂, L, X.arraylength b1 Ar.1 (State.isArrayOf_alike b2.alike Ar.2.1) (g := mkF m pc (LL K.2.2.2 ls) (SS K.2.2.2 (.ref i :: st))) rfl (rest := SS K.2.2.2 st) rfl (b3 ▸ hd) _ ?_, q⟩
  have e : cl.slots.size.toInt32 = z := by rw [hc, ← hz]; simp
  rw [e]; exact q1
theorem in_of {cl : Cell} {n0 : Nat} {vs : List Value} {j : Int32} {v : Value} (hc : cl.slots = (vs.map (sv n0)).toArray) (hj : ¬ j < 0) (hv : vs[j.toNatClampNeg]? = some v) : ¬ (j < 0 ∨ cl.slots.size ≤ j.toNatClampNeg) ∧ cl.slots[j.toNatClampNeg]? = some (sv n0 v) := by
  have hl := (List.getElem?_eq_some_iff.mp hv).1
  refine ⟨?_, by rw [hc]; simp [hv]⟩
  rintro (q | q)
  · exact hj q
  · rw [hc] at q; simp at q; omega
theorem Go.iaload {i : Nat} {vs : List Value} {j : Int32} {v : Value} (hd : Dec M pc .iaload 1 pc') (hH : H[i]? = some (.inr (.int, vs))) (hj : ¬ j < 0) (hv : vs[j.toNatClampNeg]? = some v) (h : Go K M F Lo pc' ls (v :: st) H r) : Go K M F Lo pc ls (.int j :: .ref i :: st) H r := by
  obtain ⟨hd, rfl⟩ := hd
  intro R cells slots p e s m args below meth c T locs a1 a2 a3 a4 b1 b2 b3 b4 b5 b6 b7 b8 X S N
  obtain ⟨cl, Ar, hc⟩ := S.2 i _ hH
  obtain ⟨hin, hat⟩ := in_of hc hj hv
  obtain ⟨s₂, L, q1, q⟩ := h R cells slots p e s m args below meth c T locs a1 a2 a3 a4 b1 b2 b3 b4 b5 b6 b7 b8 X S N
  exact ⟨s₂, L, X.iaload b1 Ar.1 (State.isArrayOf_alike b2.alike Ar.2.1) Ar.2.2 hin hat (g := mkF m pc (LL K.2.2.2 ls) (SS K.2.2.2 (.int j :: .ref i :: st))) rfl (rest := SS K.2.2.2 st) rfl (b3 ▸ hd) _ q1, q⟩
theorem Go.laload {i : Nat} {vs : List Value} {j : Int32} {v : Value} (hd : Dec M pc .laload 1 pc') (hH : H[i]? = some (.inr (.long, vs))) (hj : ¬ j < 0) (hv : vs[j.toNatClampNeg]? = some v) (h : Go K M F Lo pc' ls (v :: st) H r) : Go K M F Lo pc ls (.int j :: .ref i :: st) H r := by
  obtain ⟨hd, rfl⟩ := hd
  intro R cells slots p e s m args below meth c T locs a1 a2 a3 a4 b1 b2 b3 b4 b5 b6 b7 b8 X S N
  obtain ⟨cl, Ar, hc⟩ := S.2 i _ hH
  obtain ⟨hin, hat⟩ := in_of hc hj hv
  obtain ⟨s₂, L, q1, q⟩ := h R cells slots p e s m args below meth c T locs a1 a2 a3 a4 b1 b2 b3 b4 b5 b6 b7 b8 X S N
  exact ⟨s₂, L, X.laload b1 Ar.1 (State.isArrayOf_alike b2.alike Ar.2.1) Ar.2.2 hin hat (g := mkF m pc (LL K.2.2.2 ls) (SS K.2.2.2 (.int j :: .ref i :: st))) rfl (rest := SS K.2.2.2 st) rfl (b3 ▸ hd) _ q1, q⟩
theorem Go.caload {i : Nat} {vs : List Value} {j : Int32} {v : Value} (hd : Dec M pc .caload 1 pc') (hH : H[i]? = some (.inr (.char, vs))) (hj : ¬ j < 0) (hv : vs[j.toNatClampNeg]? = some v) (h : Go K M F Lo pc' ls (v :: st) H r) : Go K M F Lo pc ls (.int j :: .ref i :: st) H r := by
  obtain ⟨hd, rfl⟩ := hd
  intro R cells slots p e s m args below meth c T locs a1 a2 a3 a4 b1 b2 b3 b4 b5 b6 b7 b8 X S N
  obtain ⟨cl, Ar, hc⟩ := S.2 i _ hH
  obtain ⟨hin, hat⟩ := in_of hc hj hv
  obtain ⟨s₂, L, q1, q⟩ := h R cells slots p e s m args below meth c T locs a1 a2 a3 a4 b1 b2 b3 b4 b5 b6 b7 b8 X S N
  exact ⟨s₂, L, X.caload b1 Ar.1 (State.isArrayOf_alike b2.alike Ar.2.1) Ar.2.2 hin hat (g := mkF m pc (LL K.2.2.2 ls) (SS K.2.2.2 (.int j :: .ref i :: st))) rfl (rest := SS K.2.2.2 st) rfl (b3 ▸ hd) _ q1, q⟩
theorem Go.baload {i : Nat} {vs : List Value} {j : Int32} {v : Value} (hd : Dec M pc .baload 1 pc') (hH : H[i]? = some (.inr (.byte, vs))) (hj : ¬ j < 0) (hv : vs[j.toNatClampNeg]? = some v) (h : Go K M F Lo pc' ls (v :: st) H r) : Go K M F Lo pc ls (.int j :: .ref i :: st) H r := by
  obtain ⟨hd, rfl⟩ := hd
  intro R cells slots p e s m args below meth c T locs a1 a2 a3 a4 b1 b2 b3 b4 b5 b6 b7 b8 X S N
  obtain ⟨cl, Ar, hc⟩ := S.2 i _ hH
  obtain ⟨hin, hat⟩ := in_of hc hj hv
  obtain ⟨s₂, L, q1, q⟩ := h R cells slots p e s m args below meth c T locs a1 a2 a3 a4 b1 b2 b3 b4 b5 b6 b7 b8 X S N
  exact ⟨s₂, L, X.baloadBytes b1 Ar.1 (State.isArrayOf_alike b2.alike Ar.2.1) Ar.2.2 hin hat (g := mkF m pc (LL K.2.2.2 ls) (SS K.2.2.2 (.int j :: .ref i :: st))) rfl (rest := SS K.2.2.2 st) rfl (b3 ▸ hd) _ q1, q⟩
theorem arr_set {K : Ctx} {h h' : Heap} {a : Addr} {cl : Cell} {t : FieldType} {vs : List Value} {k : Nat} {v : Value} (Ar : Arr K.2.1 h a cl t) (hc : cl.slots = (vs.map (sv K.2.2.2)).toArray) (W : Wr h h' a k (sv K.2.2.2 v)) : COk K.2.1 K.2.2.1 K.2.2.2 h' a (.inr (t, vs.set k v)) :=
  ⟨_, Ar.same W, by simp [Cell.setSlot, hc, List.map_set]⟩
theorem Go.iastore {i : Nat} {vs : List Value} {j : Int32} {x : Int32} {H1 : Hp} (hd : Dec M pc .iastore 1 pc') (hH : H[i]? = some (.inr (.int, vs))) (hj : ¬ j < 0) (hl : j.toNatClampNeg < vs.length) (hH1 : H.set i (.inr (.int, vs.set j.toNatClampNeg (.int x))) = H1) (h : Go K M F Lo pc' ls st H1 r) : Go K M F Lo pc ls (.int x :: .int j :: .ref i :: st) H r := by
  obtain ⟨hd, rfl⟩ := hd
  intro R cells slots p e s m args below meth c T locs a1 a2 a3 a4 b1 b2 b3 b4 b5 b6 b7 b8 X S N
  subst hH1
  obtain ⟨cl, Ar, hc⟩ := S.2 i _ hH
  have hin : ¬ (j < 0 ∨ cl.slots.size ≤ j.toNatClampNeg) := by
    rintro (q | q)
    · exact hj q
    · rw [hc] at q; simp at q; omega
  obtain ⟨T', h', X', e', W, stp⟩ := stI X b1 b2 rfl Ar hin (g := mkF m pc (LL K.2.2.2 ls) (SS K.2.2.2 (.int x :: .int j :: .ref i :: st))) rfl (rest := SS K.2.2.2 st) rfl (b3 ▸ hd)
  subst e'
  obtain ⟨s₂, L, q1, q⟩ := h R cells slots p e s m args below meth c T' _ a1 a2 a3 a4 b1 b2 b3 b4 b5 b6 b7 b8 X' (S.set W hH (arr_set (v := .int x) Ar hc W)) (Fr.snoc X' N (Nat.le_add_right _ _))
  exact ⟨s₂, L, stp _ q1, q⟩
theorem Go.lastore {i : Nat} {vs : List Value} {j : Int32} {x : Int64} {H1 : Hp} (hd : Dec M pc .lastore 1 pc') (hH : H[i]? = some (.inr (.long, vs))) (hj : ¬ j < 0) (hl : j.toNatClampNeg < vs.length) (hH1 : H.set i (.inr (.long, vs.set j.toNatClampNeg (.long x))) = H1) (h : Go K M F Lo pc' ls st H1 r) : Go K M F Lo pc ls (.long x :: .int j :: .ref i :: st) H r := by
  obtain ⟨hd, rfl⟩ := hd
  intro R cells slots p e s m args below meth c T locs a1 a2 a3 a4 b1 b2 b3 b4 b5 b6 b7 b8 X S N
  subst hH1
  obtain ⟨cl, Ar, hc⟩ := S.2 i _ hH
  have hin : ¬ (j < 0 ∨ cl.slots.size ≤ j.toNatClampNeg) := by
    rintro (q | q)
    · exact hj q
    · rw [hc] at q; simp at q; omega
  obtain ⟨T', h', X', e', W, stp⟩ := stJ X b1 b2 rfl Ar hin (g := mkF m pc (LL K.2.2.2 ls) (SS K.2.2.2 (.long x :: .int j :: .ref i :: st))) rfl (rest := SS K.2.2.2 st) rfl (b3 ▸ hd)
  subst e'
  obtain ⟨s₂, L, q1, q⟩ := h R cells slots p e s m args below meth c T' _ a1 a2 a3 a4 b1 b2 b3 b4 b5 b6 b7 b8 X' (S.set W hH (arr_set (v := .long x) Ar hc W)) (Fr.snoc X' N (Nat.le_add_right _ _))
  exact ⟨s₂, L, stp _ q1, q⟩
theorem Go.castore {i : Nat} {vs : List Value} {j : Int32} {x : Int32} {H1 : Hp} (hd : Dec M pc .castore 1 pc') (hH : H[i]? = some (.inr (.char, vs))) (hj : ¬ j < 0) (hl : j.toNatClampNeg < vs.length) (hH1 : H.set i (.inr (.char, vs.set j.toNatClampNeg (.int (nar .char x)))) = H1) (h : Go K M F Lo pc' ls st H1 r) : Go K M F Lo pc ls (.int x :: .int j :: .ref i :: st) H r := by
  obtain ⟨hd, rfl⟩ := hd
  intro R cells slots p e s m args below meth c T locs a1 a2 a3 a4 b1 b2 b3 b4 b5 b6 b7 b8 X S N
  subst hH1
  obtain ⟨cl, Ar, hc⟩ := S.2 i _ hH
  have hin : ¬ (j < 0 ∨ cl.slots.size ≤ j.toNatClampNeg) := by
    rintro (q | q)
    · exact hj q
    · rw [hc] at q; simp at q; omega
  obtain ⟨T', h', X', e', W, stp⟩ := stC X b1 b2 rfl Ar hin (g := mkF m pc (LL K.2.2.2 ls) (SS K.2.2.2 (.int x :: .int j :: .ref i :: st))) rfl (rest := SS K.2.2.2 st) rfl (b3 ▸ hd)
  subst e'
  obtain ⟨s₂, L, q1, q⟩ := h R cells slots p e s m args below meth c T' _ a1 a2 a3 a4 b1 b2 b3 b4 b5 b6 b7 b8 X' (S.set W hH (arr_set (v := .int (nar .char x)) Ar hc W)) (Fr.snoc X' N (Nat.le_add_right _ _))
  exact ⟨s₂, L, stp _ q1, q⟩
theorem Go.bastore {i : Nat} {vs : List Value} {j : Int32} {x : Int32} {H1 : Hp} (hd : Dec M pc .bastore 1 pc') (hH : H[i]? = some (.inr (.byte, vs))) (hj : ¬ j < 0) (hl : j.toNatClampNeg < vs.length) (hH1 : H.set i (.inr (.byte, vs.set j.toNatClampNeg (.int (nar .byte x)))) = H1) (h : Go K M F Lo pc' ls st H1 r) : Go K M F Lo pc ls (.int x :: .int j :: .ref i :: st) H r := by
  obtain ⟨hd, rfl⟩ := hd
  intro R cells slots p e s m args below meth c T locs a1 a2 a3 a4 b1 b2 b3 b4 b5 b6 b7 b8 X S N
  subst hH1
  obtain ⟨cl, Ar, hc⟩ := S.2 i _ hH
  have hin : ¬ (j < 0 ∨ cl.slots.size ≤ j.toNatClampNeg) := by
    rintro (q | q)
    · exact hj q
    · rw [hc] at q; simp at q; omega
  obtain ⟨T', h', X', e', W, stp⟩ := stB X b1 b2 rfl Ar hin (g := mkF m pc (LL K.2.2.2 ls) (SS K.2.2.2 (.int x :: .int j :: .ref i :: st))) rfl (rest := SS K.2.2.2 st) rfl (b3 ▸ hd)
  subst e'
  obtain ⟨s₂, L, q1, q⟩ := h R cells slots p e s m args below meth c T' _ a1 a2 a3 a4 b1 b2 b3 b4 b5 b6 b7 b8 X' (S.set W hH (arr_set (v := .int (nar .byte x)) Ar hc W)) (Fr.snoc X' N (Nat.le_add_right _ _))
  exact ⟨s₂, L, stp _ q1, q⟩
/-! ## 9. returns -/
theorem Go.retW {i : Instr} {v : Value} {t : FieldType} {dc ds : Nat} {H' : Option Hp} (hH : HOk H H') (hd : Dec M pc i 1 pc') (ht : M.2.2.2 = some t) (hn : ∀ n0, narrow t (sv n0 v) = sv n0 v)
    (hi : ∀ n0, (i = .ireturn ∧ (t = .int ∨ t = .boolean ∨ t = .byte ∨ t = .char ∨ t = .short) ∧ ∃ z, sv n0 v = .int z) ∨ (i = .lreturn ∧ t = .long ∧ ∃ z, sv n0 v = .long z) ∨ (i = .dreturn ∧ t = .double ∧ ∃ z, sv n0 v = .double z) ∨ (i = .freturn ∧ t = .float ∧ ∃ z, sv n0 v = .float z) ∨ (i = .areturn ∧ t.isReference = true ∧ (sv n0 v).isRef = true)) : Go K M F Lo pc ls (v :: st) H (some v, H', dc, ds) := by
  intro R cells slots p e s m args below meth c T locs a1 a2 a3 a4 b1 b2 b3 b4 b5 b6 b7 b8 X S N
  obtain ⟨fs, hr, hrun, hended, hW, hsame⟩ := X.leave (v := some (sv K.2.2.2 v)) (fun q => by rw [b5, ht] at q; cases q) b6
  exact ⟨_, locs, retOut X b1 (b5.trans ht) (hn _) (hi _) (b3 ▸ hd.1) hr, hrun, hended, hH.fin S, N, ⟨_, rfl⟩, hW, hsame.mono (Nat.le_add_right _ _) (Nat.le_add_right _ _)⟩
theorem Go.ireturn {v : Int32} {dc ds : Nat} {rv : Option Value} {H' : Option Hp} (hd : Dec M pc .ireturn 1 pc') (ht : M.2.2.2 = some .int) (hv : rv = some (.int v)) (hH : HOk H H') : Go K M F Lo pc ls (.int v :: st) H (rv, H', dc, ds) := by
  subst hv
  exact Go.retW hH hd ht (fun _ => rfl) (fun _ => Or.inl ⟨rfl, Or.inl rfl, _, rfl⟩)
theorem Go.ireturnZ {v : Int32} {dc ds : Nat} {rv : Option Value} {H' : Option Hp} (hd : Dec M pc .ireturn 1 pc') (ht : M.2.2.2 = some .boolean) (h01 : v = 0 ∨ v = 1) (hv : rv = some (.int v)) (hH : HOk H H') : Go K M F Lo pc ls (.int v :: st) H (rv, H', dc, ds) := by
  subst hv
  exact Go.retW hH hd ht (fun _ => by rcases h01 with rfl | rfl <;> rfl) (fun _ => Or.inl ⟨rfl, Or.inr (Or.inl rfl), _, rfl⟩)
theorem Go.lreturn {v : Int64} {dc ds : Nat} {rv : Option Value} {H' : Option Hp} (hd : Dec M pc .lreturn 1 pc') (ht : M.2.2.2 = some .long) (hv : rv = some (.long v)) (hH : HOk H H') : Go K M F Lo pc ls (.long v :: st) H (rv, H', dc, ds) := by
  subst hv
  exact Go.retW hH hd ht (fun _ => rfl) (fun _ => Or.inr (Or.inl ⟨rfl, rfl, _, rfl⟩))
theorem Go.areturn {v : Value} {t : FieldType} {dc ds : Nat} {rv : Option Value} {H' : Option Hp} (hd : Dec M pc .areturn 1 pc') (ht : M.2.2.2 = some t) (htr : t.isReference = true) (hr : v.isRef = true) (hv : rv = some v) (hH : HOk H H') : Go K M F Lo pc ls (v :: st) H (rv, H', dc, ds) := by
  subst hv
  refine Go.retW hH hd ht (fun _ => ?_) (fun _ => Or.inr (Or.inr (Or.inr (Or.inr ⟨rfl, htr, by rw [sv_ref]; exact hr⟩))))
  rcases ref_cases hr with rfl | ⟨a, rfl⟩ <;> cases t <;> first | rfl | (simp [FieldType.isReference] at htr)
theorem Go.ret {dc ds : Nat} {rv : Option Value} {H' : Option Hp} (hd : Dec M pc .return_ 1 pc') (ht : M.2.2.2 = none) (hv : rv = none) (hH : HOk H H') : Go K M F Lo pc ls [] H (rv, H', dc, ds) := by
  subst hv
  intro R cells slots p e s m args below meth c T locs a1 a2 a3 a4 b1 b2 b3 b4 b5 b6 b7 b8 X S N
  obtain ⟨fs, hr, hrun, hended, hW, hsame⟩ := X.leave (v := none) (fun _ => rfl) b6
  exact ⟨_, locs, X.returnOut b1 (b5.trans ht) (b3 ▸ hd.1) hr, hrun, hended, hH.fin S, N, ⟨_, rfl⟩, hW, hsame.mono (Nat.le_add_right _ _) (Nat.le_add_right _ _)⟩
/-! ## 10. a whole invocation; calls -/
def ent (as : List Value) (mx : Nat) : List Slot := Jvm.Sym.laidSlots as ++ List.replicate (mx - (Jvm.Sym.laidSlots as).length) .unset
theorem laid_map (n0 : Nat) (as : List Value) : Jvm.Sym.laidSlots (as.map (sv n0)) = (Jvm.Sym.laidSlots as).map (ss n0) := by
  induction as with
  | nil => rfl
  | cons v r ih =>
    simp only [List.map_cons, Jvm.Sym.laidSlots, sv_cat, ih]
    split <;> rfl
theorem ent_map (n0 : Nat) (as : List Value) (mx : Nat) : Jvm.Sym.laidSlots (as.map (sv n0)) ++ List.replicate (mx - (Jvm.Sym.laidSlots (as.map (sv n0))).length) .unset = (LL n0 (ent as mx)).toList := by
  rw [laid_map, List.length_map, LL, ent, List.map_append, List.map_replicate]
  rfl
theorem Go.met {as : List Value} {ws : List Jvm.Cond} {rm : Room} {h : Heap} {rv : Option Value} {H' : Option Hp} (hpn : plainFor M.1 = true) (S : Sim K h H) (hls : ent as M.2.2.1 = ls) (g : Go K M rm.frames rm.locals 0 ls [] H (rv, H', rm.cells, rm.slots)) :
    MetFree K.1 M.1 (head1 (Jvm.Cond.code M.1 M.2.1 M.2.2.1 M.2.2.2 :: ws) rm) (fun a U => a = (SS K.2.2.2 as).toArray ∧ K.2.1.Warmed39 U.vm ∧ U.heap = h) (fun _ _ _ _ _ => True)
      (fun _ U o U' => ∃ v L, o = .returned v ∧ (v = rv.map (sv K.2.2.2) ∧ FinH K U'.heap H' ∧ Fr K.2.2.2 L) ∧ FrameEnd U o U' L rm.cells rm.slots) := by
  refine MetFree.of_bodySF hpn hisR ?_
  intro p e s m args below meth c s₁ Bd hml0 hP hK
  obtain ⟨rfl, hZ, hh⟩ := hP
  subst hls
  have X0 : Stand p K.1 e rm s m (SS K.2.2.2 as).toArray below meth c s₁ [] 0 0 := Stand.of_body Bd
  have e0 : s₁.heap = h := by rw [← hh, Bd.state]; rfl
  obtain ⟨s₂, L, q1, q2, q3, q4, q5, q6⟩ := g rm 0 0 p e s m _ below meth c s₁ [] (Nat.le_refl _) (Nat.le_refl _) (Nat.le_of_eq (Nat.zero_add _)) (Nat.le_of_eq (Nat.zero_add _)) Bd.exec hZ Bd.bytes hml0 Bd.returns Bd.notSynchronized (findClass_of_methodNamed Bd.named) (name_of_methodNamed Bd.named Bd.method).1 X0 (by rw [e0]; exact S) (Fr.nil _)
  refine ⟨s₂, _, (XT.entry (Ls := LL K.2.2.2 (ent as M.2.2.1)) (by simpa using ent_map K.2.2.2 as M.2.2.1)).trans q1, q2, q3, _, L, rfl, ⟨rfl, q4, q5⟩, ?_⟩
  have e1 : (0 : Nat) + rm.cells = rm.cells := Nat.zero_add _
  have e2 : (0 : Nat) + rm.slots = rm.slots := Nat.zero_add _
  simp only [e1, e2] at q6
  exact q6
def MInfo (M : Mt) (na : Nat) : Prop := plainFor M.1 = true ∧ (M.1.cls ≠ "java/lang/invoke/MethodHandle" ∧ M.1.cls ≠ "java/lang/invoke/VarHandle") ∧ (parseMethodDescriptor M.1.desc).map (fun q => q.parameters.length) = some na
instance (M : Mt) (na : Nat) : Decidable (MInfo M na) := inferInstanceAs (Decidable (_ ∧ _ ∧ _))
theorem MInfo.len {M : Mt} {na : Nat} (mi : MInfo M na) {n0 : Nat} {as : List Value} (h : as.length = na) : ∀ sig, parseMethodDescriptor M.1.desc = some sig → (SS n0 as).length = sig.parameters.length := fun sig hs => by
  have q := mi.2.2
  rw [hs] at q
  rw [List.length_map, h]
  exact (Option.some.inj q).symm
theorem Go.back {M' : Mt} {F' Lo' W dc1 ds1 : Nat} {as : List Value} {ls1 : List Slot} {h : Heap} {rv1 : Option Value} {H1 : Hp} {R : Room} {p : Program} {e : Env} {below : List Frame} {s : State} {sargs : Array Value} (g : Go K M' F' Lo' 0 ls1 [] H (rv1, some H1, dc1, ds1)) (hls : ent as M'.2.2.1 = ls1) (hpn : plainFor M'.1 = true) (S : Sim K h H)
    (hZ : K.2.1.Warmed39 s.vm) (wc : (Jvm.Cond.code M'.1 M'.2.1 M'.2.2.1 M'.2.2.2).before K.2.2.1 K.2.1 = true) (wz : (Jvm.Cond.initialized M'.1.cls).before K.2.2.1 K.2.1 = true) (hf : F' + 1 ≤ R.frames) (hl : W + (M'.2.2.1 + 11) + Lo' ≤ R.locals) :
    Back K.1 R p e below s sargs M'.1 3 W (fun A a => a = (SS K.2.2.2 as).toArray ∧ A.U.heap = h ∧ A.cells + dc1 ≤ R.cells ∧ A.slots + ds1 ≤ R.slots)
      (fun A _ v B => ∃ L, (v = rv1.map (sv K.2.2.2) ∧ FinH K B.U.heap (some H1) ∧ Fr K.2.2.2 L) ∧ B.locs = A.locs ++ L ∧ B.cells = A.cells + dc1 ∧ B.slots = A.slots + ds1) :=
  backOf (rm := ({ frames := F', cells := dc1, slots := ds1, locals := Lo' } : Room)) (Q := fun v hp L => v = rv1.map (sv K.2.2.2) ∧ FinH K hp (some H1) ∧ Fr K.2.2.2 L) (Go.met (ws := []) hpn S hls g) hZ wc wz hf hl
theorem SS_app (n0 : Nat) (as st : List Value) : SS n0 (as.reverse ++ st) = (SS n0 as).reverse ++ SS n0 st := by simp [SS]
theorem SS_ret (n0 : Nat) (rv : Option Value) (st : List Value) : (rv.map (sv n0)).toList ++ SS n0 st = SS n0 (rv.toList ++ st) := by cases rv <;> rfl
theorem Go.callS {idx na W F' Lo' dc1 ds1 dct dst : Nat} {M' : Mt} {as : List Value} {ls1 : List Slot} {st0 : List Value} {rv1 rv : Option Value} {H1 : Hp} {H' : Option Hp} (hd : Dec M pc (.invokestatic idx) 3 pc') (w1 : (Jvm.Cond.methodLink M.1.cls idx M'.1).before K.2.2.1 K.2.1 = true) (w2 : (Jvm.Cond.static M'.1).before K.2.2.1 K.2.1 = true) (w3 : (Jvm.Cond.initialized M'.1.cls).before K.2.2.1 K.2.1 = true) (w4 : (Jvm.Cond.code M'.1 M'.2.1 M'.2.2.1 M'.2.2.2).before K.2.2.1 K.2.1 = true)
    (mi : MInfo M' na) (has : as.length = na) (hsz : ls.length = M.2.2.1) (hst : as.reverse ++ st = st0) (hls : ent as M'.2.2.1 = ls1) (hW : (st.map fun v => v.category).sum = W) (hF : F' + 1 ≤ F) (hLo : W + (M'.2.2.1 + 11) + Lo' ≤ Lo) (g : Go K M' F' Lo' 0 ls1 [] H (rv1, some H1, dc1, ds1))
    (dc ds : Nat) (hdc : dc + dc1 ≤ dct) (hds : ds + ds1 ≤ dst) (h : Go K M F Lo pc' ls (rv1.toList ++ st) H1 (rv, H', dc, ds)) : Go K M F Lo pc ls st0 H (rv, H', dct, dst) := by
  obtain ⟨hd, rfl⟩ := hd
  intro R cells slots p e s m args below meth c T locs a1 a2 a3 a4 b1 b2 b3 b4 b5 b6 b7 b8 X S N
  subst hst
  have a3' : cells + dct ≤ R.cells := a3
  have a4' : slots + dst ≤ R.slots := a4
  obtain ⟨v, vm₁, ⟨T', L1, k1, n1⟩, -, X', ⟨Lc, ⟨hv, S', N'⟩, l1, l2, l3⟩, stp⟩ := Jvm.LawKit.callS X b1 (y := M'.1) b7 (mvT b2 w1) (mvT b2 w2) (mvT b2 w3) (mvT b2 w4) mi.2.1 (g.back (W := W) hls mi.1 S b2 w4 w3 (Nat.le_trans hF a1) (Nat.le_trans hLo a2)) (g := mkF m pc (LL K.2.2.2 ls) (SS K.2.2.2 (as.reverse ++ st))) rfl (by rw [b4, ← hsz]; exact LL_size _ _) (argsL := SS K.2.2.2 as) (rest := SS K.2.2.2 st) (mi.len has) (SS_app _ _ _) (by show 2 * 0 + _ ≤ W; rw [cats, hW]; omega) (b3 ▸ hd) (fun _ _ => ⟨rfl, rfl, by show cells + dc1 ≤ _; omega, by show slots + ds1 ≤ _; omega⟩)
  dsimp only [Pt.U, Pt.locs, Pt.cells, Pt.slots] at X' l1 l2 l3 stp S' hv
  subst l1 l2 l3 hv
  obtain ⟨s₂, L, q1, q2, q3, q4, q5, q6⟩ := h R (cells + dc1) (slots + ds1) p e s m args below meth c T' _ a1 a2 (by show cells + dc1 + dc ≤ _; omega) (by show slots + ds1 + ds ≤ _; omega) b1 b2 b3 b4 b5 b6 b7 b8 X' (S' _ rfl) (N.app N')
  refine ⟨s₂, L, stp _ ?_, q2, q3, q4, q5, q6.1, q6.2.1, q6.2.2.mono (by show cells + dc1 + dc ≤ cells + dct; omega) (by show slots + ds1 + ds ≤ slots + dst; omega)⟩
  rw [← SS_ret] at q1
  exact q1
theorem Go.callI {idx na W F' Lo' dc1 ds1 dct dst i : Nat} {M' : Mt} {as : List Value} {ls1 : List Slot} {st0 : List Value} {rv1 rv : Option Value} {H1 : Hp} {H' : Option Hp} (hd : Dec M pc (.invokespecial idx) 3 pc') (hnm : M'.1.name = "<init>") (hrn : M'.2.2.2 = none) (w1 : (Jvm.Cond.methodLink M.1.cls idx M'.1).before K.2.2.1 K.2.1 = true) (w2 : (Jvm.Cond.instanceMethod M'.1).before K.2.2.1 K.2.1 = true) (w3 : (Jvm.Cond.initialized M'.1.cls).before K.2.2.1 K.2.1 = true) (w4 : (Jvm.Cond.code M'.1 M'.2.1 M'.2.2.1 M'.2.2.2).before K.2.2.1 K.2.1 = true)
    (mi : MInfo M' na) (has : as.length = na) (hsz : ls.length = M.2.2.1) (hst : as.reverse ++ .ref i :: st = st0) (hls : ent (.ref i :: as) M'.2.2.1 = ls1) (hW : (st.map fun v => v.category).sum = W) (hF : F' + 1 ≤ F) (hLo : W + (M'.2.2.1 + 11) + Lo' ≤ Lo) (g : Go K M' F' Lo' 0 ls1 [] H (rv1, some H1, dc1, ds1))
    (dc ds : Nat) (hdc : dc + dc1 ≤ dct) (hds : ds + ds1 ≤ dst) (h : Go K M F Lo pc' ls (rv1.toList ++ st) H1 (rv, H', dc, ds)) : Go K M F Lo pc ls st0 H (rv, H', dct, dst) := by
  obtain ⟨hd, rfl⟩ := hd
  intro R cells slots p e s m args below meth c T locs a1 a2 a3 a4 b1 b2 b3 b4 b5 b6 b7 b8 X S N
  subst hst
  have a3' : cells + dct ≤ R.cells := a3
  have a4' : slots + dst ≤ R.slots := a4
  have hstk : SS K.2.2.2 (as.reverse ++ .ref i :: st) = (SS K.2.2.2 as).reverse ++ .ref (K.2.2.2 + i) :: SS K.2.2.2 st := SS_app _ _ _
  obtain ⟨v, vm₁, ⟨T', L1, k1, n1⟩, -, X', ⟨Lc, ⟨hv, S', N'⟩, l1, l2, l3⟩, stp⟩ := X.specialBack b1 (y := M'.1) hnm b7 (mvT b2 w1) (mvT b2 w2) (mvT b2 (hrn ▸ w4)) mi.2.1 (g.back (as := .ref i :: as) (W := W) hls mi.1 S b2 w4 w3 (Nat.le_trans hF a1) (Nat.le_trans hLo a2)) (g := mkF m pc (LL K.2.2.2 ls) (SS K.2.2.2 (as.reverse ++ .ref i :: st))) rfl (by rw [b4, ← hsz]; exact LL_size _ _) (Steps.refl _) (a := K.2.2.2 + i) (argsL := SS K.2.2.2 as) (rest := SS K.2.2.2 st) (mi.len has) hstk (by show 2 * 0 + _ ≤ W; rw [cats, hW]; omega) (b3 ▸ hd) (fun _ _ => ⟨rfl, rfl, by show cells + dc1 ≤ _; omega, by show slots + ds1 ≤ _; omega⟩)
  dsimp only [Pt.U, Pt.locs, Pt.cells, Pt.slots] at X' l1 l2 l3 stp S' hv
  subst l1 l2 l3 hv
  obtain ⟨s₂, L, q1, q2, q3, q4, q5, q6⟩ := h R (cells + dc1) (slots + ds1) p e s m args below meth c T' _ a1 a2 (by show cells + dc1 + dc ≤ _; omega) (by show slots + ds1 + ds ≤ _; omega) b1 b2 b3 b4 b5 b6 b7 b8 X' (S' _ rfl) (N.app N')
  refine ⟨s₂, L, stp.trans ?_, q2, q3, q4, q5, q6.1, q6.2.1, q6.2.2.mono (by show cells + dc1 + dc ≤ cells + dct; omega) (by show slots + ds1 + ds ≤ slots + dst; omega)⟩
  rw [← SS_ret] at q1
  exact q1
theorem Go.callV {idx na W F' Lo' dc1 ds1 dct dst i : Nat} {M' : Mt} {as : List Value} {ls1 : List Slot} {st0 : List Value} {rv1 rv : Option Value} {H1 : Hp} {H' : Option Hp} {fs : List (String × String × Value)} (hd : Dec M pc (.invokevirtual idx) 3 pc') (hH : H[i]? = some (.inl (M'.1.cls, fs))) (w1 : (Jvm.Cond.methodLink M.1.cls idx M'.1).before K.2.2.1 K.2.1 = true) (w2 : (Jvm.Cond.instanceMethod M'.1).before K.2.2.1 K.2.1 = true) (w3 : (Jvm.Cond.initialized M'.1.cls).before K.2.2.1 K.2.1 = true) (w5 : (Jvm.Cond.declares M'.1).before K.2.2.1 K.2.1 = true) (w6 : (Jvm.Cond.selects M'.1.cls M'.1 M'.1).before K.2.2.1 K.2.1 = true) (w4 : (Jvm.Cond.code M'.1 M'.2.1 M'.2.2.1 M'.2.2.2).before K.2.2.1 K.2.1 = true)
    (mi : MInfo M' na) (has : as.length = na) (hsz : ls.length = M.2.2.1) (hst : as.reverse ++ .ref i :: st = st0) (hls : ent (.ref i :: as) M'.2.2.1 = ls1) (hW : (st.map fun v => v.category).sum = W) (hF : F' + 1 ≤ F) (hLo : W + (M'.2.2.1 + 11) + Lo' ≤ Lo) (g : Go K M' F' Lo' 0 ls1 [] H (rv1, some H1, dc1, ds1))
    (dc ds : Nat) (hdc : dc + dc1 ≤ dct) (hds : ds + ds1 ≤ dst) (h : Go K M F Lo pc' ls (rv1.toList ++ st) H1 (rv, H', dc, ds)) : Go K M F Lo pc ls st0 H (rv, H', dct, dst) := by
  obtain ⟨hd, rfl⟩ := hd
  intro R cells slots p e s m args below meth c T locs a1 a2 a3 a4 b1 b2 b3 b4 b5 b6 b7 b8 X S N
  subst hst
  have a3' : cells + dct ≤ R.cells := a3
  have a4' : slots + dst ≤ R.slots := a4
  have hstk : SS K.2.2.2 (as.reverse ++ .ref i :: st) = (SS K.2.2.2 as).reverse ++ .ref (K.2.2.2 + i) :: SS K.2.2.2 st := SS_app _ _ _
  obtain ⟨cq, kq, qa, qb, qc⟩ := isOf b2 rfl (S.2 i _ hH).1
  obtain ⟨v, vm₁, ⟨T', L1, k1, n1⟩, -, X', ⟨Lc, ⟨hv, S', N'⟩, l1, l2, l3⟩, stp⟩ := X.virtualBack b1 (y := M'.1) (z := M'.1) b7 (mvT b2 w1) (mvT b2 w5) (notFace_of_selects (args := #[]) (mvT b2 w6)) (mvT b2 w6) (mvT b2 w2) mi.2.1 (g.back (as := .ref i :: as) (W := W) hls mi.1 S b2 w4 w3 (Nat.le_trans hF a1) (Nat.le_trans hLo a2)) qa qc (g := mkF m pc (LL K.2.2.2 ls) (SS K.2.2.2 (as.reverse ++ .ref i :: st))) rfl (by rw [b4, ← hsz]; exact LL_size _ _) (Steps.refl _) (argsL := SS K.2.2.2 as) (rest := SS K.2.2.2 st) (mi.len has) hstk (by show 2 * 0 + _ ≤ W; rw [cats, hW]; omega) (b3 ▸ hd) (fun _ _ => ⟨rfl, rfl, by show cells + dc1 ≤ _; omega, by show slots + ds1 ≤ _; omega⟩)
  dsimp only [Pt.U, Pt.locs, Pt.cells, Pt.slots] at X' l1 l2 l3 stp S' hv
  subst l1 l2 l3 hv
  obtain ⟨s₂, L, q1, q2, q3, q4, q5, q6⟩ := h R (cells + dc1) (slots + ds1) p e s m args below meth c T' _ a1 a2 (by show cells + dc1 + dc ≤ _; omega) (by show slots + ds1 + ds ≤ _; omega) b1 b2 b3 b4 b5 b6 b7 b8 X' (S' _ rfl) (N.app N')
  refine ⟨s₂, L, stp.trans ?_, q2, q3, q4, q5, q6.1, q6.2.1, q6.2.2.mono (by show cells + dc1 + dc ≤ cells + dct; omega) (by show slots + ds1 + ds ≤ slots + dst; omega)⟩
  rw [← SS_ret] at q1
  exact q1
theorem Go.callP {idx na W F' Lo' dc1 ds1 dct dst i : Nat} {M' : Mt} {as : List Value} {ls1 : List Slot} {st0 : List Value} {rv1 rv : Option Value} {H1 : Hp} {H' : Option Hp} {kk : Nat} {fs : List (String × String × Value)} (hd : Dec M pc (.invokevirtual idx) 3 pc') (hH : H[i]? = some (.inl (M'.1.cls, fs))) (w1 : (Jvm.Cond.methodLink M.1.cls idx M'.1).before K.2.2.1 K.2.1 = true) (w2 : (Jvm.Cond.instanceMethod M'.1).before K.2.2.1 K.2.1 = true) (w3 : (Jvm.Cond.initialized M'.1.cls).before K.2.2.1 K.2.1 = true) (w5 : (Jvm.Cond.privateMethod M'.1).before K.2.2.1 K.2.1 = true) (w6 : (Jvm.Cond.instantiable M'.1.cls kk).before K.2.2.1 K.2.1 = true) (w4 : (Jvm.Cond.code M'.1 M'.2.1 M'.2.2.1 M'.2.2.2).before K.2.2.1 K.2.1 = true)
    (mi : MInfo M' na) (has : as.length = na) (hsz : ls.length = M.2.2.1) (hst : as.reverse ++ .ref i :: st = st0) (hls : ent (.ref i :: as) M'.2.2.1 = ls1) (hW : (st.map fun v => v.category).sum = W) (hF : F' + 1 ≤ F) (hLo : W + (M'.2.2.1 + 11) + Lo' ≤ Lo) (g : Go K M' F' Lo' 0 ls1 [] H (rv1, some H1, dc1, ds1))
    (dc ds : Nat) (hdc : dc + dc1 ≤ dct) (hds : ds + ds1 ≤ dst) (h : Go K M F Lo pc' ls (rv1.toList ++ st) H1 (rv, H', dc, ds)) : Go K M F Lo pc ls st0 H (rv, H', dct, dst) := by
  obtain ⟨hd, rfl⟩ := hd
  intro R cells slots p e s m args below meth c T locs a1 a2 a3 a4 b1 b2 b3 b4 b5 b6 b7 b8 X S N
  subst hst
  have a3' : cells + dct ≤ R.cells := a3
  have a4' : slots + dst ≤ R.slots := a4
  have hstk : SS K.2.2.2 (as.reverse ++ .ref i :: st) = (SS K.2.2.2 as).reverse ++ .ref (K.2.2.2 + i) :: SS K.2.2.2 st := SS_app _ _ _
  obtain ⟨cq, qa, qb⟩ := (S.2 i _ hH).1.cell
  have hpr : s.PrivateAt M'.1 := Cond.privateMethod_at (mvP b2 w5 (args := #[]))
  have hsel : (Jvm.Cond.selects M'.1.cls M'.1 M'.1).before args s = true := by
    obtain ⟨c9, k9, z1, z2, z3, z4, -⟩ := Cond.instantiable_spec (mvT (args := args) b2 w6)
    refine selects_self_of_private z1 z2 ?_ hpr (mvT b2 w2) mi.2.1
    simp only [Bool.or_eq_false_iff] at z4
    exact z4.1
  obtain ⟨v, vm₁, ⟨T', L1, k1, n1⟩, -, X', ⟨Lc, ⟨hv, S', N'⟩, l1, l2, l3⟩, stp⟩ := X.privateBack b1 (y := M'.1) b7 (mvT b2 w1) (mvT b2 w2) hsel hpr (mvT b2 w4) mi.2.1 (g.back (as := .ref i :: as) (W := W) hls mi.1 S b2 w4 w3 (Nat.le_trans hF a1) (Nat.le_trans hLo a2)) (g := mkF m pc (LL K.2.2.2 ls) (SS K.2.2.2 (as.reverse ++ .ref i :: st))) rfl (by rw [b4, ← hsz]; exact LL_size _ _) (Steps.refl _) (a := K.2.2.2 + i) qa qb (argsL := SS K.2.2.2 as) (rest := SS K.2.2.2 st) (mi.len has) hstk (by show 2 * 0 + _ ≤ W; rw [cats, hW]; omega) (b3 ▸ hd) (fun _ _ => ⟨rfl, rfl, by show cells + dc1 ≤ _; omega, by show slots + ds1 ≤ _; omega⟩)
  dsimp only [Pt.U, Pt.locs, Pt.cells, Pt.slots] at X' l1 l2 l3 stp S' hv
  subst l1 l2 l3 hv
  obtain ⟨s₂, L, q1, q2, q3, q4, q5, q6⟩ := h R (cells + dc1) (slots + ds1) p e s m args below meth c T' _ a1 a2 (by show cells + dc1 + dc ≤ _; omega) (by show slots + ds1 + ds ≤ _; omega) b1 b2 b3 b4 b5 b6 b7 b8 X' (S' _ rfl) (N.app N')
  refine ⟨s₂, L, stp.trans ?_, q2, q3, q4, q5, q6.1, q6.2.1, q6.2.2.mono (by show cells + dc1 + dc ≤ cells + dct; omega) (by show slots + ds1 + ds ≤ slots + dst; omega)⟩
  rw [← SS_ret] at q1
  exact q1
theorem Go.initObj {idx i W : Nat} (hd : Dec M pc (.invokespecial idx) 3 pc') (w1 : (Jvm.Cond.methodLink M.1.cls idx Lib.objectInit).before K.2.2.1 K.2.1 = true) (w2 : (Jvm.Cond.instanceMethod Lib.objectInit).before K.2.2.1 K.2.1 = true) (w3 : (Jvm.Cond.code Lib.objectInit ⟨#[0xb1]⟩ 1 none).before K.2.2.1 K.2.1 = true)
    (hsz : ls.length = M.2.2.1) (hW : (st.map fun v => v.category).sum = W) (hF : 1 ≤ F) (hLo : W + 12 ≤ Lo) (h : Go K M F Lo pc' ls st H r) : Go K M F Lo pc ls (.ref i :: st) H r := by
  obtain ⟨hd, rfl⟩ := hd
  intro R cells slots p e s m args below meth c T locs a1 a2 a3 a4 b1 b2 b3 b4 b5 b6 b7 b8 X S N
  obtain ⟨T', X', e', stp⟩ := initO X b1 b2 b7 w1 w2 w3 rfl (g := mkF m pc (LL K.2.2.2 ls) (SS K.2.2.2 (.ref i :: st))) rfl (by rw [b4, ← hsz]; exact LL_size _ _) (rest := SS K.2.2.2 st) rfl (b3 ▸ hd) (Nat.le_trans hF a1) (W := W) (by show 2 * 0 + _ ≤ W; rw [cats, hW]; omega) (Nat.le_trans hLo a2)
  obtain ⟨s₂, L, q1, q⟩ := h R cells slots p e s m args below meth c T' locs a1 a2 a3 a4 b1 b2 b3 b4 b5 b6 b7 b8 X' (e' ▸ S) N
  exact ⟨s₂, L, stp _ q1, q⟩
end G
end Jvm.OwnGo
namespace Jvm.Pilot.@@N@@
open Jvm Jvm.ClassFile Sem Op Lib Jvm.Free Jvm.Stand Jvm.LawKit Jvm.RoadKit Bundle Jvm.Pilot.@@N@@.Jvm.D Jvm.OwnGo
abbrev m0 : Mt := (x, code, maxLocals, ret)
theorem mi0 : MInfo m0 6 := by decide +kernel
theorem d0_0 : Dec m0 0 (.iload_n 0) 1 1 := by decide +kernel
theorem d0_1 : Dec m0 1 (.iconst 3) 1 2 := by decide +kernel
theorem d0_2 : Dec m0 2 (.iand) 1 3 := by decide +kernel
theorem d0_3 : Dec m0 3 (.iconst 1) 1 4 := by decide +kernel
theorem d0_4 : Dec m0 4 (.iadd) 1 5 := by decide +kernel
theorem d0_5 : Dec m0 5 (.istore 6) 2 7 := by decide +kernel
theorem d0_7 : Dec m0 7 (.iload_n 0) 1 8 := by decide +kernel
theorem d0_8 : Dec m0 8 (.iconst 2) 1 9 := by decide +kernel
theorem d0_9 : Dec m0 9 (.iushr) 1 10 := by decide +kernel
theorem d0_10 : Dec m0 10 (.iconst 3) 1 11 := by decide +kernel
theorem d0_11 : Dec m0 11 (.iand) 1 12 := by decide +kernel
theorem d0_12 : Dec m0 12 (.istore 7) 2 14 := by decide +kernel
theorem d0_14 : Dec m0 14 (.iload 6) 2 16 := by decide +kernel
theorem d0_16 : Dec m0 16 (.iload_n 1) 1 17 := by decide +kernel
theorem d0_17 : Dec m0 17 (.invokestatic 7) 3 20 := by decide +kernel
theorem d0_20 : Dec m0 20 (.istore 8) 2 22 := by decide +kernel
theorem d0_22 : Dec m0 22 (.iload_n 2) 1 23 := by decide +kernel
theorem d0_23 : Dec m0 23 (.iload_n 0) 1 24 := by decide +kernel
theorem d0_24 : Dec m0 24 (.iconst 4) 1 25 := by decide +kernel
theorem d0_25 : Dec m0 25 (.iushr) 1 26 := by decide +kernel
theorem d0_26 : Dec m0 26 (.iconst 1) 1 27 := by decide +kernel
theorem d0_27 : Dec m0 27 (.iand) 1 28 := by decide +kernel
theorem d0_28 : Dec m0 28 (.ifCond .eq 7) 3 31 := by decide +kernel
theorem j0_28 : Jmp 28 (7) 35 := by decide
theorem d0_31 : Dec m0 31 (.iconst 1) 1 32 := by decide +kernel
theorem d0_32 : Dec m0 32 (.goto 4) 3 35 := by decide +kernel
theorem j0_32 : Jmp 32 (4) 36 := by decide
theorem d0_35 : Dec m0 35 (.iconst 0) 1 36 := by decide +kernel
theorem d0_36 : Dec m0 36 (.invokestatic 13) 3 39 := by decide +kernel
theorem d0_39 : Dec m0 39 (.istore 9) 2 41 := by decide +kernel
theorem d0_41 : Dec m0 41 (.iload_n 3) 1 42 := by decide +kernel
theorem d0_42 : Dec m0 42 (.iload_n 0) 1 43 := by decide +kernel
theorem d0_43 : Dec m0 43 (.iconst 5) 1 44 := by decide +kernel
theorem d0_44 : Dec m0 44 (.iushr) 1 45 := by decide +kernel
theorem d0_45 : Dec m0 45 (.iconst 1) 1 46 := by decide +kernel
theorem d0_46 : Dec m0 46 (.iand) 1 47 := by decide +kernel
theorem d0_47 : Dec m0 47 (.ifCond .eq 7) 3 50 := by decide +kernel
theorem j0_47 : Jmp 47 (7) 54 := by decide
theorem d0_50 : Dec m0 50 (.iconst 1) 1 51 := by decide +kernel
theorem d0_51 : Dec m0 51 (.goto 4) 3 54 := by decide +kernel
theorem j0_51 : Jmp 51 (4) 55 := by decide
theorem d0_54 : Dec m0 54 (.iconst 0) 1 55 := by decide +kernel
theorem d0_55 : Dec m0 55 (.invokestatic 13) 3 58 := by decide +kernel
theorem d0_58 : Dec m0 58 (.istore 10) 2 60 := by decide +kernel
theorem d0_60 : Dec m0 60 (.iload 4) 2 62 := by decide +kernel
theorem d0_62 : Dec m0 62 (.iload_n 0) 1 63 := by decide +kernel
theorem d0_63 : Dec m0 63 (.bipush 6) 2 65 := by decide +kernel
theorem d0_65 : Dec m0 65 (.iushr) 1 66 := by decide +kernel
theorem d0_66 : Dec m0 66 (.iconst 1) 1 67 := by decide +kernel
theorem d0_67 : Dec m0 67 (.iand) 1 68 := by decide +kernel
theorem d0_68 : Dec m0 68 (.ifCond .eq 7) 3 71 := by decide +kernel
theorem j0_68 : Jmp 68 (7) 75 := by decide
theorem d0_71 : Dec m0 71 (.iconst 1) 1 72 := by decide +kernel
theorem d0_72 : Dec m0 72 (.goto 4) 3 75 := by decide +kernel
theorem j0_72 : Jmp 72 (4) 76 := by decide
theorem d0_75 : Dec m0 75 (.iconst 0) 1 76 := by decide +kernel
theorem d0_76 : Dec m0 76 (.invokestatic 13) 3 79 := by decide +kernel
theorem d0_79 : Dec m0 79 (.istore 11) 2 81 := by decide +kernel
theorem d0_81 : Dec m0 81 (.iload 5) 2 83 := by decide +kernel
theorem d0_83 : Dec m0 83 (.i2b) 1 84 := by decide +kernel
theorem d0_84 : Dec m0 84 (.istore 12) 2 86 := by decide +kernel
theorem d0_86 : Dec m0 86 (.bipush 8) 2 88 := by decide +kernel
theorem d0_88 : Dec m0 88 (.newarray .byte) 2 90 := by decide +kernel
theorem d0_90 : Dec m0 90 (.astore 13) 2 92 := by decide +kernel
theorem d0_92 : Dec m0 92 (.aload 13) 2 94 := by decide +kernel
theorem d0_94 : Dec m0 94 (.iconst 0) 1 95 := by decide +kernel
theorem d0_95 : Dec m0 95 (.iload 12) 2 97 := by decide +kernel
theorem d0_97 : Dec m0 97 (.bastore) 1 98 := by decide +kernel
theorem d0_98 : Dec m0 98 (.aload 13) 2 100 := by decide +kernel
theorem d0_100 : Dec m0 100 (.iconst 1) 1 101 := by decide +kernel
theorem d0_101 : Dec m0 101 (.iload 12) 2 103 := by decide +kernel
theorem d0_103 : Dec m0 103 (.bastore) 1 104 := by decide +kernel
theorem d0_104 : Dec m0 104 (.aload 13) 2 106 := by decide +kernel
theorem d0_106 : Dec m0 106 (.iconst 2) 1 107 := by decide +kernel
theorem d0_107 : Dec m0 107 (.iload 12) 2 109 := by decide +kernel
theorem d0_109 : Dec m0 109 (.bastore) 1 110 := by decide +kernel
theorem d0_110 : Dec m0 110 (.aload 13) 2 112 := by decide +kernel
theorem d0_112 : Dec m0 112 (.iconst 3) 1 113 := by decide +kernel
theorem d0_113 : Dec m0 113 (.iload 12) 2 115 := by decide +kernel
theorem d0_115 : Dec m0 115 (.bastore) 1 116 := by decide +kernel
theorem d0_116 : Dec m0 116 (.aload 13) 2 118 := by decide +kernel
theorem d0_118 : Dec m0 118 (.iconst 4) 1 119 := by decide +kernel
theorem d0_119 : Dec m0 119 (.iload 12) 2 121 := by decide +kernel
theorem d0_121 : Dec m0 121 (.bastore) 1 122 := by decide +kernel
theorem d0_122 : Dec m0 122 (.aload 13) 2 124 := by decide +kernel
theorem d0_124 : Dec m0 124 (.iconst 5) 1 125 := by decide +kernel
theorem d0_125 : Dec m0 125 (.iload 12) 2 127 := by decide +kernel
theorem d0_127 : Dec m0 127 (.bastore) 1 128 := by decide +kernel
theorem d0_128 : Dec m0 128 (.aload 13) 2 130 := by decide +kernel
theorem d0_130 : Dec m0 130 (.bipush 6) 2 132 := by decide +kernel
theorem d0_132 : Dec m0 132 (.iload 12) 2 134 := by decide +kernel
theorem d0_134 : Dec m0 134 (.bastore) 1 135 := by decide +kernel
theorem d0_135 : Dec m0 135 (.aload 13) 2 137 := by decide +kernel
theorem d0_137 : Dec m0 137 (.bipush 7) 2 139 := by decide +kernel
theorem d0_139 : Dec m0 139 (.iload 12) 2 141 := by decide +kernel
theorem d0_141 : Dec m0 141 (.bastore) 1 142 := by decide +kernel
theorem d0_142 : Dec m0 142 (.aload 13) 2 144 := by decide +kernel
theorem d0_144 : Dec m0 144 (.iload 7) 2 146 := by decide +kernel
theorem d0_146 : Dec m0 146 (.iload 8) 2 148 := by decide +kernel
theorem d0_148 : Dec m0 148 (.i2b) 1 149 := by decide +kernel
theorem d0_149 : Dec m0 149 (.bastore) 1 150 := by decide +kernel
theorem d0_150 : Dec m0 150 (.iload 6) 2 152 := by decide +kernel
theorem d0_152 : Dec m0 152 (.iconst 2) 1 153 := by decide +kernel
theorem d0_153 : Dec m0 153 (.if_icmp .lt 13) 3 156 := by decide +kernel
theorem j0_153 : Jmp 153 (13) 166 := by decide
theorem d0_156 : Dec m0 156 (.aload 13) 2 158 := by decide +kernel
theorem d0_158 : Dec m0 158 (.iload 7) 2 160 := by decide +kernel
theorem d0_160 : Dec m0 160 (.iconst 1) 1 161 := by decide +kernel
theorem d0_161 : Dec m0 161 (.iadd) 1 162 := by decide +kernel
theorem d0_162 : Dec m0 162 (.iload 9) 2 164 := by decide +kernel
theorem d0_164 : Dec m0 164 (.i2b) 1 165 := by decide +kernel
theorem d0_165 : Dec m0 165 (.bastore) 1 166 := by decide +kernel
theorem d0_166 : Dec m0 166 (.iload 6) 2 168 := by decide +kernel
theorem d0_168 : Dec m0 168 (.iconst 3) 1 169 := by decide +kernel
theorem d0_169 : Dec m0 169 (.if_icmp .lt 13) 3 172 := by decide +kernel
theorem j0_169 : Jmp 169 (13) 182 := by decide
theorem d0_172 : Dec m0 172 (.aload 13) 2 174 := by decide +kernel
theorem d0_174 : Dec m0 174 (.iload 7) 2 176 := by decide +kernel
theorem d0_176 : Dec m0 176 (.iconst 2) 1 177 := by decide +kernel
theorem d0_177 : Dec m0 177 (.iadd) 1 178 := by decide +kernel
theorem d0_178 : Dec m0 178 (.iload 10) 2 180 := by decide +kernel
theorem d0_180 : Dec m0 180 (.i2b) 1 181 := by decide +kernel
theorem d0_181 : Dec m0 181 (.bastore) 1 182 := by decide +kernel
theorem d0_182 : Dec m0 182 (.iload 6) 2 184 := by decide +kernel
theorem d0_184 : Dec m0 184 (.iconst 4) 1 185 := by decide +kernel
theorem d0_185 : Dec m0 185 (.if_icmp .lt 13) 3 188 := by decide +kernel
theorem j0_185 : Jmp 185 (13) 198 := by decide
theorem d0_188 : Dec m0 188 (.aload 13) 2 190 := by decide +kernel
theorem d0_190 : Dec m0 190 (.iload 7) 2 192 := by decide +kernel
theorem d0_192 : Dec m0 192 (.iconst 3) 1 193 := by decide +kernel
theorem d0_193 : Dec m0 193 (.iadd) 1 194 := by decide +kernel
theorem d0_194 : Dec m0 194 (.iload 11) 2 196 := by decide +kernel
theorem d0_196 : Dec m0 196 (.i2b) 1 197 := by decide +kernel
theorem d0_197 : Dec m0 197 (.bastore) 1 198 := by decide +kernel
theorem d0_198 : Dec m0 198 (.iload 9) 2 200 := by decide +kernel
theorem d0_200 : Dec m0 200 (.bipush 63) 2 202 := by decide +kernel
theorem d0_202 : Dec m0 202 (.iand) 1 203 := by decide +kernel
theorem d0_203 : Dec m0 203 (.istore 14) 2 205 := by decide +kernel
theorem d0_205 : Dec m0 205 (.iload 10) 2 207 := by decide +kernel
theorem d0_207 : Dec m0 207 (.bipush 63) 2 209 := by decide +kernel
theorem d0_209 : Dec m0 209 (.iand) 1 210 := by decide +kernel
theorem d0_210 : Dec m0 210 (.istore 15) 2 212 := by decide +kernel
theorem d0_212 : Dec m0 212 (.iload 11) 2 214 := by decide +kernel
theorem d0_214 : Dec m0 214 (.bipush 63) 2 216 := by decide +kernel
theorem d0_216 : Dec m0 216 (.iand) 1 217 := by decide +kernel
theorem d0_217 : Dec m0 217 (.istore 16) 2 219 := by decide +kernel
theorem d0_219 : Dec m0 219 (.iload 6) 2 221 := by decide +kernel
theorem d0_221 : Dec m0 221 (.iconst 1) 1 222 := by decide +kernel
theorem d0_222 : Dec m0 222 (.if_icmp .ne 10) 3 225 := by decide +kernel
theorem j0_222 : Jmp 222 (10) 232 := by decide
theorem d0_225 : Dec m0 225 (.iload 8) 2 227 := by decide +kernel
theorem d0_227 : Dec m0 227 (.istore 17) 2 229 := by decide +kernel
theorem d0_229 : Dec m0 229 (.goto 173) 3 232 := by decide +kernel
theorem j0_229 : Jmp 229 (173) 402 := by decide
theorem d0_232 : Dec m0 232 (.iload 6) 2 234 := by decide +kernel
theorem d0_234 : Dec m0 234 (.iconst 2) 1 235 := by decide +kernel
theorem d0_235 : Dec m0 235 (.if_icmp .ne 43) 3 238 := by decide +kernel
theorem j0_235 : Jmp 235 (43) 278 := by decide
theorem d0_238 : Dec m0 238 (.iload 8) 2 240 := by decide +kernel
theorem d0_240 : Dec m0 240 (.bipush 31) 2 242 := by decide +kernel
theorem d0_242 : Dec m0 242 (.iand) 1 243 := by decide +kernel
theorem d0_243 : Dec m0 243 (.bipush 6) 2 245 := by decide +kernel
theorem d0_245 : Dec m0 245 (.ishl) 1 246 := by decide +kernel
theorem d0_246 : Dec m0 246 (.iload 14) 2 248 := by decide +kernel
theorem d0_248 : Dec m0 248 (.ior) 1 249 := by decide +kernel
theorem d0_249 : Dec m0 249 (.istore 18) 2 251 := by decide +kernel
theorem d0_251 : Dec m0 251 (.iload 9) 2 253 := by decide +kernel
theorem d0_253 : Dec m0 253 (.invokestatic 17) 3 256 := by decide +kernel
theorem d0_256 : Dec m0 256 (.ifCond .eq 16) 3 259 := by decide +kernel
theorem j0_256 : Jmp 256 (16) 272 := by decide
theorem d0_259 : Dec m0 259 (.iload 18) 2 261 := by decide +kernel
theorem d0_261 : Dec m0 261 (.sipush 128) 3 264 := by decide +kernel
theorem d0_264 : Dec m0 264 (.if_icmp .lt 8) 3 267 := by decide +kernel
theorem j0_264 : Jmp 264 (8) 272 := by decide
theorem d0_267 : Dec m0 267 (.iload 18) 2 269 := by decide +kernel
theorem d0_269 : Dec m0 269 (.goto 4) 3 272 := by decide +kernel
theorem j0_269 : Jmp 269 (4) 273 := by decide
theorem d0_272 : Dec m0 272 (.iconst (-1)) 1 273 := by decide +kernel
theorem d0_273 : Dec m0 273 (.istore 17) 2 275 := by decide +kernel
theorem d0_275 : Dec m0 275 (.goto 127) 3 278 := by decide +kernel
theorem j0_275 : Jmp 275 (127) 402 := by decide
theorem d0_278 : Dec m0 278 (.iload 6) 2 280 := by decide +kernel
theorem d0_280 : Dec m0 280 (.iconst 3) 1 281 := by decide +kernel
theorem d0_281 : Dec m0 281 (.if_icmp .ne 57) 3 284 := by decide +kernel
theorem j0_281 : Jmp 281 (57) 338 := by decide
theorem d0_284 : Dec m0 284 (.iload 8) 2 286 := by decide +kernel
theorem d0_286 : Dec m0 286 (.bipush 15) 2 288 := by decide +kernel
theorem d0_288 : Dec m0 288 (.iand) 1 289 := by decide +kernel
theorem d0_289 : Dec m0 289 (.bipush 12) 2 291 := by decide +kernel
theorem d0_291 : Dec m0 291 (.ishl) 1 292 := by decide +kernel
theorem d0_292 : Dec m0 292 (.iload 14) 2 294 := by decide +kernel
theorem d0_294 : Dec m0 294 (.bipush 6) 2 296 := by decide +kernel
theorem d0_296 : Dec m0 296 (.ishl) 1 297 := by decide +kernel
theorem d0_297 : Dec m0 297 (.ior) 1 298 := by decide +kernel
theorem d0_298 : Dec m0 298 (.iload 15) 2 300 := by decide +kernel
theorem d0_300 : Dec m0 300 (.ior) 1 301 := by decide +kernel
theorem d0_301 : Dec m0 301 (.istore 18) 2 303 := by decide +kernel
theorem d0_303 : Dec m0 303 (.iload 9) 2 305 := by decide +kernel
theorem d0_305 : Dec m0 305 (.invokestatic 17) 3 308 := by decide +kernel
theorem d0_308 : Dec m0 308 (.ifCond .eq 24) 3 311 := by decide +kernel
theorem j0_308 : Jmp 308 (24) 332 := by decide
theorem d0_311 : Dec m0 311 (.iload 10) 2 313 := by decide +kernel
theorem d0_313 : Dec m0 313 (.invokestatic 17) 3 316 := by decide +kernel
theorem d0_316 : Dec m0 316 (.ifCond .eq 16) 3 319 := by decide +kernel
theorem j0_316 : Jmp 316 (16) 332 := by decide
theorem d0_319 : Dec m0 319 (.iload 18) 2 321 := by decide +kernel
theorem d0_321 : Dec m0 321 (.sipush 2048) 3 324 := by decide +kernel
theorem d0_324 : Dec m0 324 (.if_icmp .lt 8) 3 327 := by decide +kernel
theorem j0_324 : Jmp 324 (8) 332 := by decide
theorem d0_327 : Dec m0 327 (.iload 18) 2 329 := by decide +kernel
theorem d0_329 : Dec m0 329 (.goto 4) 3 332 := by decide +kernel
theorem j0_329 : Jmp 329 (4) 333 := by decide
theorem d0_332 : Dec m0 332 (.iconst (-1)) 1 333 := by decide +kernel
theorem d0_333 : Dec m0 333 (.istore 17) 2 335 := by decide +kernel
theorem d0_335 : Dec m0 335 (.goto 67) 3 338 := by decide +kernel
theorem j0_335 : Jmp 335 (67) 402 := by decide
theorem d0_338 : Dec m0 338 (.iload 8) 2 340 := by decide +kernel
theorem d0_340 : Dec m0 340 (.bipush 7) 2 342 := by decide +kernel
theorem d0_342 : Dec m0 342 (.iand) 1 343 := by decide +kernel
theorem d0_343 : Dec m0 343 (.bipush 18) 2 345 := by decide +kernel
theorem d0_345 : Dec m0 345 (.ishl) 1 346 := by decide +kernel
theorem d0_346 : Dec m0 346 (.iload 14) 2 348 := by decide +kernel
theorem d0_348 : Dec m0 348 (.bipush 12) 2 350 := by decide +kernel
theorem d0_350 : Dec m0 350 (.ishl) 1 351 := by decide +kernel
theorem d0_351 : Dec m0 351 (.ior) 1 352 := by decide +kernel
theorem d0_352 : Dec m0 352 (.iload 15) 2 354 := by decide +kernel
theorem d0_354 : Dec m0 354 (.bipush 6) 2 356 := by decide +kernel
theorem d0_356 : Dec m0 356 (.ishl) 1 357 := by decide +kernel
theorem d0_357 : Dec m0 357 (.ior) 1 358 := by decide +kernel
theorem d0_358 : Dec m0 358 (.iload 16) 2 360 := by decide +kernel
theorem d0_360 : Dec m0 360 (.ior) 1 361 := by decide +kernel
theorem d0_361 : Dec m0 361 (.istore 18) 2 363 := by decide +kernel
theorem d0_363 : Dec m0 363 (.iload 9) 2 365 := by decide +kernel
theorem d0_365 : Dec m0 365 (.invokestatic 17) 3 368 := by decide +kernel
theorem d0_368 : Dec m0 368 (.ifCond .eq 31) 3 371 := by decide +kernel
theorem j0_368 : Jmp 368 (31) 399 := by decide
theorem d0_371 : Dec m0 371 (.iload 10) 2 373 := by decide +kernel
theorem d0_373 : Dec m0 373 (.invokestatic 17) 3 376 := by decide +kernel
theorem d0_376 : Dec m0 376 (.ifCond .eq 23) 3 379 := by decide +kernel
theorem j0_376 : Jmp 376 (23) 399 := by decide
theorem d0_379 : Dec m0 379 (.iload 11) 2 381 := by decide +kernel
theorem d0_381 : Dec m0 381 (.invokestatic 17) 3 384 := by decide +kernel
theorem d0_384 : Dec m0 384 (.ifCond .eq 15) 3 387 := by decide +kernel
theorem j0_384 : Jmp 384 (15) 399 := by decide
theorem d0_387 : Dec m0 387 (.iload 18) 2 389 := by decide +kernel
theorem d0_389 : Dec m0 389 (.ldc 21) 2 391 := by decide +kernel
theorem d0_391 : Dec m0 391 (.if_icmp .lt 8) 3 394 := by decide +kernel
theorem j0_391 : Jmp 391 (8) 399 := by decide
theorem d0_394 : Dec m0 394 (.iload 18) 2 396 := by decide +kernel
theorem d0_396 : Dec m0 396 (.goto 4) 3 399 := by decide +kernel
theorem j0_396 : Jmp 396 (4) 400 := by decide
theorem d0_399 : Dec m0 399 (.iconst (-1)) 1 400 := by decide +kernel
theorem d0_400 : Dec m0 400 (.istore 17) 2 402 := by decide +kernel
theorem d0_402 : Dec m0 402 (.aload 13) 2 404 := by decide +kernel
theorem d0_404 : Dec m0 404 (.iload 7) 2 406 := by decide +kernel
theorem d0_406 : Dec m0 406 (.iload 6) 2 408 := by decide +kernel
theorem d0_408 : Dec m0 408 (.invokestatic 22) 3 411 := by decide +kernel
theorem d0_411 : Dec m0 411 (.iload 17) 2 413 := by decide +kernel
theorem d0_413 : Dec m0 413 (.if_icmp .ne 7) 3 416 := by decide +kernel
theorem j0_413 : Jmp 413 (7) 420 := by decide
theorem d0_416 : Dec m0 416 (.iconst 1) 1 417 := by decide +kernel
theorem d0_417 : Dec m0 417 (.goto 4) 3 420 := by decide +kernel
theorem j0_417 : Jmp 417 (4) 421 := by decide
theorem d0_420 : Dec m0 420 (.iconst 0) 1 421 := by decide +kernel
theorem d0_421 : Dec m0 421 (.ireturn) 1 422 := by decide +kernel
abbrev m1 : Mt := (⟨"com/example/psvi/psvi/xml/Utf8CodePointPinLaw", "firstByte", "(II)I"⟩, method_4_code, 3, some .int)
theorem mi1 : MInfo m1 2 := by decide +kernel
theorem d1_0 : Dec m1 0 (.iload_n 1) 1 1 := by decide +kernel
theorem d1_1 : Dec m1 1 (.sipush 255) 3 4 := by decide +kernel
theorem d1_4 : Dec m1 4 (.iand) 1 5 := by decide +kernel
theorem d1_5 : Dec m1 5 (.istore_n 2) 1 6 := by decide +kernel
theorem d1_6 : Dec m1 6 (.iload_n 0) 1 7 := by decide +kernel
theorem d1_7 : Dec m1 7 (.iconst 1) 1 8 := by decide +kernel
theorem d1_8 : Dec m1 8 (.if_icmp .ne 8) 3 11 := by decide +kernel
theorem j1_8 : Jmp 8 (8) 16 := by decide
theorem d1_11 : Dec m1 11 (.iload_n 2) 1 12 := by decide +kernel
theorem d1_12 : Dec m1 12 (.bipush 127) 2 14 := by decide +kernel
theorem d1_14 : Dec m1 14 (.iand) 1 15 := by decide +kernel
theorem d1_15 : Dec m1 15 (.ireturn) 1 16 := by decide +kernel
theorem d1_16 : Dec m1 16 (.iload_n 0) 1 17 := by decide +kernel
theorem d1_17 : Dec m1 17 (.iconst 2) 1 18 := by decide +kernel
theorem d1_18 : Dec m1 18 (.if_icmp .ne 12) 3 21 := by decide +kernel
theorem j1_18 : Jmp 18 (12) 30 := by decide
theorem d1_21 : Dec m1 21 (.sipush 194) 3 24 := by decide +kernel
theorem d1_24 : Dec m1 24 (.iload_n 2) 1 25 := by decide +kernel
theorem d1_25 : Dec m1 25 (.bipush 30) 2 27 := by decide +kernel
theorem d1_27 : Dec m1 27 (.irem) 1 28 := by decide +kernel
theorem d1_28 : Dec m1 28 (.iadd) 1 29 := by decide +kernel
theorem d1_29 : Dec m1 29 (.ireturn) 1 30 := by decide +kernel
theorem d1_30 : Dec m1 30 (.iload_n 0) 1 31 := by decide +kernel
theorem d1_31 : Dec m1 31 (.iconst 3) 1 32 := by decide +kernel
theorem d1_32 : Dec m1 32 (.if_icmp .ne 12) 3 35 := by decide +kernel
theorem j1_32 : Jmp 32 (12) 44 := by decide
theorem d1_35 : Dec m1 35 (.sipush 224) 3 38 := by decide +kernel
theorem d1_38 : Dec m1 38 (.iload_n 2) 1 39 := by decide +kernel
theorem d1_39 : Dec m1 39 (.bipush 15) 2 41 := by decide +kernel
theorem d1_41 : Dec m1 41 (.iand) 1 42 := by decide +kernel
theorem d1_42 : Dec m1 42 (.iadd) 1 43 := by decide +kernel
theorem d1_43 : Dec m1 43 (.ireturn) 1 44 := by decide +kernel
theorem d1_44 : Dec m1 44 (.sipush 240) 3 47 := by decide +kernel
theorem d1_47 : Dec m1 47 (.iload_n 2) 1 48 := by decide +kernel
theorem d1_48 : Dec m1 48 (.iconst 5) 1 49 := by decide +kernel
theorem d1_49 : Dec m1 49 (.irem) 1 50 := by decide +kernel
theorem d1_50 : Dec m1 50 (.iadd) 1 51 := by decide +kernel
theorem d1_51 : Dec m1 51 (.ireturn) 1 52 := by decide +kernel
abbrev m2 : Mt := (⟨"com/example/psvi/psvi/xml/Utf8CodePointPinLaw", "cont", "(IZ)I"⟩, method_2_code, 2, some .int)
theorem mi2 : MInfo m2 2 := by decide +kernel
theorem d2_0 : Dec m2 0 (.iload_n 1) 1 1 := by decide +kernel
theorem d2_1 : Dec m2 1 (.ifCond .eq 14) 3 4 := by decide +kernel
theorem j2_1 : Jmp 1 (14) 15 := by decide
theorem d2_4 : Dec m2 4 (.sipush 128) 3 7 := by decide +kernel
theorem d2_7 : Dec m2 7 (.iload_n 0) 1 8 := by decide +kernel
theorem d2_8 : Dec m2 8 (.bipush 63) 2 10 := by decide +kernel
theorem d2_10 : Dec m2 10 (.iand) 1 11 := by decide +kernel
theorem d2_11 : Dec m2 11 (.ior) 1 12 := by decide +kernel
theorem d2_12 : Dec m2 12 (.goto 8) 3 15 := by decide +kernel
theorem j2_12 : Jmp 12 (8) 20 := by decide
theorem d2_15 : Dec m2 15 (.iload_n 0) 1 16 := by decide +kernel
theorem d2_16 : Dec m2 16 (.sipush 255) 3 19 := by decide +kernel
theorem d2_19 : Dec m2 19 (.iand) 1 20 := by decide +kernel
theorem d2_20 : Dec m2 20 (.ireturn) 1 21 := by decide +kernel
abbrev m3 : Mt := (⟨"com/example/psvi/psvi/xml/Utf8", "codePoint", "([BII)I"⟩, prog_208_method_3_code, 7, some .int)
theorem mi3 : MInfo m3 3 := by decide +kernel
theorem d3_0 : Dec m3 0 (.iload_n 2) 1 1 := by decide +kernel
theorem d3_1 : Dec m3 1 (.iconst 1) 1 2 := by decide +kernel
theorem d3_2 : Dec m3 2 (.if_icmp .ne 9) 3 5 := by decide +kernel
theorem j3_2 : Jmp 2 (9) 11 := by decide
theorem d3_5 : Dec m3 5 (.aload_n 0) 1 6 := by decide +kernel
theorem d3_6 : Dec m3 6 (.iload_n 1) 1 7 := by decide +kernel
theorem d3_7 : Dec m3 7 (.baload) 1 8 := by decide +kernel
theorem d3_8 : Dec m3 8 (.goto 11) 3 11 := by decide +kernel
theorem j3_8 : Jmp 8 (11) 19 := by decide
theorem d3_11 : Dec m3 11 (.aload_n 0) 1 12 := by decide +kernel
theorem d3_12 : Dec m3 12 (.iload_n 1) 1 13 := by decide +kernel
theorem d3_13 : Dec m3 13 (.baload) 1 14 := by decide +kernel
theorem d3_14 : Dec m3 14 (.bipush 127) 2 16 := by decide +kernel
theorem d3_16 : Dec m3 16 (.iload_n 2) 1 17 := by decide +kernel
theorem d3_17 : Dec m3 17 (.ishr) 1 18 := by decide +kernel
theorem d3_18 : Dec m3 18 (.iand) 1 19 := by decide +kernel
theorem d3_19 : Dec m3 19 (.istore_n 3) 1 20 := by decide +kernel
theorem d3_20 : Dec m3 20 (.iconst 1) 1 21 := by decide +kernel
theorem d3_21 : Dec m3 21 (.istore 4) 2 23 := by decide +kernel
theorem d3_23 : Dec m3 23 (.iconst 1) 1 24 := by decide +kernel
theorem d3_24 : Dec m3 24 (.istore 5) 2 26 := by decide +kernel
theorem d3_26 : Dec m3 26 (.iload 5) 2 28 := by decide +kernel
theorem d3_28 : Dec m3 28 (.iload_n 2) 1 29 := by decide +kernel
theorem d3_29 : Dec m3 29 (.if_icmp .ge 56) 3 32 := by decide +kernel
theorem j3_29 : Jmp 29 (56) 85 := by decide
theorem d3_32 : Dec m3 32 (.iload 4) 2 34 := by decide +kernel
theorem d3_34 : Dec m3 34 (.ifCond .eq 51) 3 37 := by decide +kernel
theorem j3_34 : Jmp 34 (51) 85 := by decide
theorem d3_37 : Dec m3 37 (.aload_n 0) 1 38 := by decide +kernel
theorem d3_38 : Dec m3 38 (.iload_n 1) 1 39 := by decide +kernel
theorem d3_39 : Dec m3 39 (.iload 5) 2 41 := by decide +kernel
theorem d3_41 : Dec m3 41 (.iadd) 1 42 := by decide +kernel
theorem d3_42 : Dec m3 42 (.baload) 1 43 := by decide +kernel
theorem d3_43 : Dec m3 43 (.sipush 255) 3 46 := by decide +kernel
theorem d3_46 : Dec m3 46 (.iand) 1 47 := by decide +kernel
theorem d3_47 : Dec m3 47 (.istore 6) 2 49 := by decide +kernel
theorem d3_49 : Dec m3 49 (.iload 6) 2 51 := by decide +kernel
theorem d3_51 : Dec m3 51 (.sipush 192) 3 54 := by decide +kernel
theorem d3_54 : Dec m3 54 (.iand) 1 55 := by decide +kernel
theorem d3_55 : Dec m3 55 (.sipush 128) 3 58 := by decide +kernel
theorem d3_58 : Dec m3 58 (.if_icmp .ne 7) 3 61 := by decide +kernel
theorem j3_58 : Jmp 58 (7) 65 := by decide
theorem d3_61 : Dec m3 61 (.iconst 1) 1 62 := by decide +kernel
theorem d3_62 : Dec m3 62 (.goto 4) 3 65 := by decide +kernel
theorem j3_62 : Jmp 62 (4) 66 := by decide
theorem d3_65 : Dec m3 65 (.iconst 0) 1 66 := by decide +kernel
theorem d3_66 : Dec m3 66 (.istore 4) 2 68 := by decide +kernel
theorem d3_68 : Dec m3 68 (.iload_n 3) 1 69 := by decide +kernel
theorem d3_69 : Dec m3 69 (.bipush 6) 2 71 := by decide +kernel
theorem d3_71 : Dec m3 71 (.ishl) 1 72 := by decide +kernel
theorem d3_72 : Dec m3 72 (.iload 6) 2 74 := by decide +kernel
theorem d3_74 : Dec m3 74 (.bipush 63) 2 76 := by decide +kernel
theorem d3_76 : Dec m3 76 (.iand) 1 77 := by decide +kernel
theorem d3_77 : Dec m3 77 (.ior) 1 78 := by decide +kernel
theorem d3_78 : Dec m3 78 (.istore_n 3) 1 79 := by decide +kernel
theorem d3_79 : Dec m3 79 (.iinc 5 1) 3 82 := by decide +kernel
theorem d3_82 : Dec m3 82 (.goto (-56)) 3 85 := by decide +kernel
theorem j3_82 : Jmp 82 (-56) 26 := by decide
theorem d3_85 : Dec m3 85 (.iload_n 2) 1 86 := by decide +kernel
theorem d3_86 : Dec m3 86 (.iconst 2) 1 87 := by decide +kernel
theorem d3_87 : Dec m3 87 (.if_icmp .ne 9) 3 90 := by decide +kernel
theorem j3_87 : Jmp 87 (9) 96 := by decide
theorem d3_90 : Dec m3 90 (.sipush 128) 3 93 := by decide +kernel
theorem d3_93 : Dec m3 93 (.goto 16) 3 96 := by decide +kernel
theorem j3_93 : Jmp 93 (16) 109 := by decide
theorem d3_96 : Dec m3 96 (.iload_n 2) 1 97 := by decide +kernel
theorem d3_97 : Dec m3 97 (.iconst 3) 1 98 := by decide +kernel
theorem d3_98 : Dec m3 98 (.if_icmp .ne 9) 3 101 := by decide +kernel
theorem j3_98 : Jmp 98 (9) 107 := by decide
theorem d3_101 : Dec m3 101 (.sipush 2048) 3 104 := by decide +kernel
theorem d3_104 : Dec m3 104 (.goto 5) 3 107 := by decide +kernel
theorem j3_104 : Jmp 104 (5) 109 := by decide
theorem d3_107 : Dec m3 107 (.ldc 9) 2 109 := by decide +kernel
theorem d3_109 : Dec m3 109 (.istore 5) 2 111 := by decide +kernel
theorem d3_111 : Dec m3 111 (.iload_n 2) 1 112 := by decide +kernel
theorem d3_112 : Dec m3 112 (.iconst 1) 1 113 := by decide +kernel
theorem d3_113 : Dec m3 113 (.if_icmp .eq 14) 3 116 := by decide +kernel
theorem j3_113 : Jmp 113 (14) 127 := by decide
theorem d3_116 : Dec m3 116 (.iload 4) 2 118 := by decide +kernel
theorem d3_118 : Dec m3 118 (.ifCond .eq 13) 3 121 := by decide +kernel
theorem j3_118 : Jmp 118 (13) 131 := by decide
theorem d3_121 : Dec m3 121 (.iload_n 3) 1 122 := by decide +kernel
theorem d3_122 : Dec m3 122 (.iload 5) 2 124 := by decide +kernel
theorem d3_124 : Dec m3 124 (.if_icmp .lt 7) 3 127 := by decide +kernel
theorem j3_124 : Jmp 124 (7) 131 := by decide
theorem d3_127 : Dec m3 127 (.iload_n 3) 1 128 := by decide +kernel
theorem d3_128 : Dec m3 128 (.goto 4) 3 131 := by decide +kernel
theorem j3_128 : Jmp 128 (4) 132 := by decide
theorem d3_131 : Dec m3 131 (.iconst (-1)) 1 132 := by decide +kernel
theorem d3_132 : Dec m3 132 (.ireturn) 1 133 := by decide +kernel
abbrev m4 : Mt := (⟨"com/example/psvi/psvi/xml/Utf8CodePointPinLaw", "isCont", "(I)Z"⟩, method_3_code, 1, some .boolean)
theorem mi4 : MInfo m4 1 := by decide +kernel
theorem d4_0 : Dec m4 0 (.iload_n 0) 1 1 := by decide +kernel
theorem d4_1 : Dec m4 1 (.sipush 192) 3 4 := by decide +kernel
theorem d4_4 : Dec m4 4 (.iand) 1 5 := by decide +kernel
theorem d4_5 : Dec m4 5 (.sipush 128) 3 8 := by decide +kernel
theorem d4_8 : Dec m4 8 (.if_icmp .ne 7) 3 11 := by decide +kernel
theorem j4_8 : Jmp 8 (7) 15 := by decide
theorem d4_11 : Dec m4 11 (.iconst 1) 1 12 := by decide +kernel
theorem d4_12 : Dec m4 12 (.goto 4) 3 15 := by decide +kernel
theorem j4_12 : Jmp 12 (4) 16 := by decide
theorem d4_15 : Dec m4 15 (.iconst 0) 1 16 := by decide +kernel
theorem d4_16 : Dec m4 16 (.ireturn) 1 17 := by decide +kernel
def own_fb (x0 : Int32) (x1 : Int32) : Int32 := (if x0 = 1 then ((x1 &&& 255) &&& 127) else (if x0 = 2 then (194 + ((x1 &&& 255) % 30)) else (if x0 = 3 then (224 + ((x1 &&& 255) &&& 15)) else (240 + ((x1 &&& 255) % 5)))))
theorem go_own_fb (K : Ctx) (hw : ∀ d ∈ tables_1, d.before K.2.2.1 K.2.1 = true) (x0 : Int32) (x1 : Int32) (H : Hp) : Go K m1 0 0 0 [.val (.int x0), .val (.int x1), .unset] [] H (some (.int (own_fb x0 x1)), some H, 0, 0) := by
  refine Go.iloadN d1_0 rfl ?_
  refine Go.sipush d1_1 (v := 255) rfl ?_
  refine Go.iand d1_4 ?_
  refine Go.istoreN d1_5 (ls' := [.val (.int x0), .val (.int x1), .val (.int (x1 &&& 255))]) rfl ?_
  refine Go.iloadN d1_6 rfl ?_
  refine Go.iconst d1_7 (v := 1) rfl ?_
  refine Go.icmp_ne d1_8 j1_8 (fun h8 => ?_) (fun h8 => ?_)
  · -- pc 8 taken
    refine Go.iloadN d1_16 rfl ?_
    refine Go.iconst d1_17 (v := 2) rfl ?_
    refine Go.icmp_ne d1_18 j1_18 (fun h18 => ?_) (fun h18 => ?_)
    · -- pc 18 taken
      refine Go.iloadN d1_30 rfl ?_
      refine Go.iconst d1_31 (v := 3) rfl ?_
      refine Go.icmp_ne d1_32 j1_32 (fun h32 => ?_) (fun h32 => ?_)
      · -- pc 32 taken
        refine Go.sipush d1_44 (v := 240) rfl ?_
        refine Go.iloadN d1_47 rfl ?_
        refine Go.iconst d1_48 (v := 5) rfl ?_
        refine Go.irem d1_49 (by decide) ?_
        refine Go.iadd d1_50 ?_
        exact Go.ireturn d1_51 rfl (by rw [own_fb, if_neg h8, if_neg h18, if_neg h32]) (HOk.eq rfl)
      · -- pc 32 not taken
        refine Go.sipush d1_35 (v := 224) rfl ?_
        refine Go.iloadN d1_38 rfl ?_
        refine Go.bipush d1_39 (v := 15) rfl ?_
        refine Go.iand d1_41 ?_
        refine Go.iadd d1_42 ?_
        exact Go.ireturn d1_43 rfl (by rw [own_fb, if_neg h8, if_neg h18, if_pos h32]) (HOk.eq rfl)
    · -- pc 18 not taken
      refine Go.sipush d1_21 (v := 194) rfl ?_
      refine Go.iloadN d1_24 rfl ?_
      refine Go.bipush d1_25 (v := 30) rfl ?_
      refine Go.irem d1_27 (by decide) ?_
      refine Go.iadd d1_28 ?_
      exact Go.ireturn d1_29 rfl (by rw [own_fb, if_neg h8, if_pos h18]) (HOk.eq rfl)
  · -- pc 8 not taken
    refine Go.iloadN d1_11 rfl ?_
    refine Go.bipush d1_12 (v := 127) rfl ?_
    refine Go.iand d1_14 ?_
    exact Go.ireturn d1_15 rfl (by rw [own_fb, if_pos h8]) (HOk.eq rfl)
def own_ct (x0 : Int32) (x1 : Int32) : Int32 := (if x1 = 0 then (x0 &&& 255) else (128 ||| (x0 &&& 63)))
theorem go_own_ct (K : Ctx) (hw : ∀ d ∈ tables_1, d.before K.2.2.1 K.2.1 = true) (x0 : Int32) (x1 : Int32) (H : Hp) : Go K m2 0 0 0 [.val (.int x0), .val (.int x1)] [] H (some (.int (own_ct x0 x1)), some H, 0, 0) := by
  refine Go.iloadN d2_0 rfl ?_
  refine Go.if_eq d2_1 j2_1 (fun h1 => ?_) (fun h1 => ?_)
  · -- pc 1 taken
    refine Go.iloadN d2_15 rfl ?_
    refine Go.sipush d2_16 (v := 255) rfl ?_
    refine Go.iand d2_19 ?_
    exact Go.ireturn d2_20 rfl (by rw [own_ct, if_pos h1]) (HOk.eq rfl)
  · -- pc 1 not taken
    refine Go.sipush d2_4 (v := 128) rfl ?_
    refine Go.iloadN d2_7 rfl ?_
    refine Go.bipush d2_8 (v := 63) rfl ?_
    refine Go.iand d2_10 ?_
    refine Go.ior d2_11 ?_
    refine Go.goto d2_12 j2_12 ?_
    exact Go.ireturn d2_20 rfl (by rw [own_ct, if_neg h1]) (HOk.eq rfl)
def own_ic (x0 : Int32) : Int32 := (if (x0 &&& 192) = 128 then 1 else 0)
theorem go_own_ic (K : Ctx) (hw : ∀ d ∈ tables_1, d.before K.2.2.1 K.2.1 = true) (x0 : Int32) (H : Hp) : Go K m4 0 0 0 [.val (.int x0)] [] H (some (.int (own_ic x0)), some H, 0, 0) := by
  refine Go.iloadN d4_0 rfl ?_
  refine Go.sipush d4_1 (v := 192) rfl ?_
  refine Go.iand d4_4 ?_
  refine Go.sipush d4_5 (v := 128) rfl ?_
  refine Go.icmp_ne d4_8 j4_8 (fun h8 => ?_) (fun h8 => ?_)
  · -- pc 8 taken
    refine Go.iconst d4_15 (v := 0) rfl ?_
    exact Go.ireturnZ d4_16 rfl (by decide) (by rw [own_ic, if_neg h8]) (HOk.eq rfl)
  · -- pc 8 not taken
    refine Go.iconst d4_11 (v := 1) rfl ?_
    refine Go.goto d4_12 j4_12 ?_
    exact Go.ireturnZ d4_16 rfl (by decide) (by rw [own_ic, if_pos h8]) (HOk.eq rfl)
def own_cp1 (y0 : Int32) : Int32 := y0
theorem go_own_cp1 (K : Ctx) (hw : ∀ d ∈ tables_1, d.before K.2.2.1 K.2.1 = true) (H : Hp) (i : Nat) (vs : List Value) (a y0 : Int32) (hH : H[i]? = some (.inr (.byte, vs))) (hj0 : ¬ a < 0) (hv0 : vs[Int32.toNatClampNeg a]? = some (.int y0)) : Go K m3 0 0 0 [.val (.ref i), .val (.int a), .val (.int 1), .unset, .unset, .unset, .unset] [] H (some (.int (own_cp1 y0)), some H, 0, 0) := by
  refine Go.iloadN d3_0 rfl ?_
  refine Go.iconst d3_1 (v := 1) rfl ?_
  refine Go.icmpF d3_2 (XT.ii_ne_f (by decide)) ?_
  refine Go.aloadN d3_5 rfl rfl ?_
  refine Go.iloadN d3_6 rfl ?_
  refine Go.baload d3_7 hH hj0 hv0 ?_
  refine Go.goto d3_8 j3_8 ?_
  refine Go.istoreN d3_19 (ls' := [.val (.ref i), .val (.int a), .val (.int 1), .val (.int y0), .unset, .unset, .unset]) rfl ?_
  refine Go.iconst d3_20 (v := 1) rfl ?_
  refine Go.istore d3_21 (ls' := [.val (.ref i), .val (.int a), .val (.int 1), .val (.int y0), .val (.int 1), .unset, .unset]) rfl ?_
  refine Go.iconst d3_23 (v := 1) rfl ?_
  refine Go.istore d3_24 (ls' := [.val (.ref i), .val (.int a), .val (.int 1), .val (.int y0), .val (.int 1), .val (.int 1), .unset]) rfl ?_
  refine Go.iload d3_26 rfl ?_
  refine Go.iloadN d3_28 rfl ?_
  refine Go.icmpT d3_29 j3_29 (XT.ii_ge_t (by decide)) ?_
  refine Go.iloadN d3_85 rfl ?_
  refine Go.iconst d3_86 (v := 2) rfl ?_
  refine Go.icmpT d3_87 j3_87 (XT.ii_ne_t (by decide)) ?_
  refine Go.iloadN d3_96 rfl ?_
  refine Go.iconst d3_97 (v := 3) rfl ?_
  refine Go.icmpT d3_98 j3_98 (XT.ii_ne_t (by decide)) ?_
  refine Go.ldc d3_107 (hw _ (List.mem_of_getElem? (i := 12) rfl)) ?_
  refine Go.istore d3_109 (ls' := [.val (.ref i), .val (.int a), .val (.int 1), .val (.int y0), .val (.int 1), .val (.int 65536), .unset]) rfl ?_
  refine Go.iloadN d3_111 rfl ?_
  refine Go.iconst d3_112 (v := 1) rfl ?_
  refine Go.icmpT d3_113 j3_113 (XT.ii_eq_t (by decide)) ?_
  refine Go.iloadN d3_127 rfl ?_
  refine Go.goto d3_128 j3_128 ?_
  exact Go.ireturn d3_132 rfl (by rw [own_cp1]) (HOk.eq rfl)
def own_cp2 (y0 y1 : Int32) : Int32 := (if ((y1 &&& 255) &&& 192) = 128 then (if (((y0 &&& 31) <<< (6 &&& 31)) ||| ((y1 &&& 255) &&& 63)) < 128 then (-1) else (((y0 &&& 31) <<< (6 &&& 31)) ||| ((y1 &&& 255) &&& 63))) else (-1))
theorem go_own_cp2 (K : Ctx) (hw : ∀ d ∈ tables_1, d.before K.2.2.1 K.2.1 = true) (H : Hp) (i : Nat) (vs : List Value) (a y0 y1 : Int32) (hH : H[i]? = some (.inr (.byte, vs))) (hj0 : ¬ a < 0) (hv0 : vs[Int32.toNatClampNeg a]? = some (.int y0)) (hj1 : ¬ (a + 1) < 0) (hv1 : vs[Int32.toNatClampNeg (a + 1)]? = some (.int y1)) : Go K m3 0 0 0 [.val (.ref i), .val (.int a), .val (.int 2), .unset, .unset, .unset, .unset] [] H (some (.int (own_cp2 y0 y1)), some H, 0, 0) := by
  refine Go.iloadN d3_0 rfl ?_
  refine Go.iconst d3_1 (v := 1) rfl ?_
  refine Go.icmpT d3_2 j3_2 (XT.ii_ne_t (by decide)) ?_
  refine Go.aloadN d3_11 rfl rfl ?_
  refine Go.iloadN d3_12 rfl ?_
  refine Go.baload d3_13 hH hj0 hv0 ?_
  refine Go.bipush d3_14 (v := 127) rfl ?_
  refine Go.iloadN d3_16 rfl ?_
  refine Go.ishr d3_17 ?_
  show Go _ _ _ _ 18 [.val (.ref i), .val (.int a), .val (.int 2), .unset, .unset, .unset, .unset] [.int 31, .int y0] H _
  refine Go.iand d3_18 ?_
  refine Go.istoreN d3_19 (ls' := [.val (.ref i), .val (.int a), .val (.int 2), .val (.int (y0 &&& 31)), .unset, .unset, .unset]) rfl ?_
  refine Go.iconst d3_20 (v := 1) rfl ?_
  refine Go.istore d3_21 (ls' := [.val (.ref i), .val (.int a), .val (.int 2), .val (.int (y0 &&& 31)), .val (.int 1), .unset, .unset]) rfl ?_
  refine Go.iconst d3_23 (v := 1) rfl ?_
  refine Go.istore d3_24 (ls' := [.val (.ref i), .val (.int a), .val (.int 2), .val (.int (y0 &&& 31)), .val (.int 1), .val (.int 1), .unset]) rfl ?_
  refine Go.iload d3_26 rfl ?_
  refine Go.iloadN d3_28 rfl ?_
  refine Go.icmpF d3_29 (XT.ii_ge_f (by decide)) ?_
  refine Go.iload d3_32 rfl ?_
  refine Go.ifF d3_34 (XT.i0_eq_f (by decide)) ?_
  refine Go.aloadN d3_37 rfl rfl ?_
  refine Go.iloadN d3_38 rfl ?_
  refine Go.iload d3_39 rfl ?_
  refine Go.iadd d3_41 ?_
  refine Go.baload d3_42 hH hj1 hv1 ?_
  refine Go.sipush d3_43 (v := 255) rfl ?_
  refine Go.iand d3_46 ?_
  refine Go.istore d3_47 (ls' := [.val (.ref i), .val (.int a), .val (.int 2), .val (.int (y0 &&& 31)), .val (.int 1), .val (.int 1), .val (.int (y1 &&& 255))]) rfl ?_
  refine Go.iload d3_49 rfl ?_
  refine Go.sipush d3_51 (v := 192) rfl ?_
  refine Go.iand d3_54 ?_
  refine Go.sipush d3_55 (v := 128) rfl ?_
  refine Go.icmp_ne d3_58 j3_58 (fun h58 => ?_) (fun h58 => ?_)
  · -- pc 58 taken
    refine Go.iconst d3_65 (v := 0) rfl ?_
    refine Go.istore d3_66 (ls' := [.val (.ref i), .val (.int a), .val (.int 2), .val (.int (y0 &&& 31)), .val (.int 0), .val (.int 1), .val (.int (y1 &&& 255))]) rfl ?_
    refine Go.iloadN d3_68 rfl ?_
    refine Go.bipush d3_69 (v := 6) rfl ?_
    refine Go.ishl d3_71 ?_
    refine Go.iload d3_72 rfl ?_
    refine Go.bipush d3_74 (v := 63) rfl ?_
    refine Go.iand d3_76 ?_
    refine Go.ior d3_77 ?_
    refine Go.istoreN d3_78 (ls' := [.val (.ref i), .val (.int a), .val (.int 2), .val (.int (((y0 &&& 31) <<< (6 &&& 31)) ||| ((y1 &&& 255) &&& 63))), .val (.int 0), .val (.int 1), .val (.int (y1 &&& 255))]) rfl ?_
    refine Go.iinc d3_79 (v := 1) rfl rfl (ls' := [.val (.ref i), .val (.int a), .val (.int 2), .val (.int (((y0 &&& 31) <<< (6 &&& 31)) ||| ((y1 &&& 255) &&& 63))), .val (.int 0), .val (.int 2), .val (.int (y1 &&& 255))]) rfl ?_
    refine Go.goto d3_82 j3_82 ?_
    refine Go.iload d3_26 rfl ?_
    refine Go.iloadN d3_28 rfl ?_
    refine Go.icmpT d3_29 j3_29 (XT.ii_ge_t (by decide)) ?_
    refine Go.iloadN d3_85 rfl ?_
    refine Go.iconst d3_86 (v := 2) rfl ?_
    refine Go.icmpF d3_87 (XT.ii_ne_f (by decide)) ?_
    refine Go.sipush d3_90 (v := 128) rfl ?_
    refine Go.goto d3_93 j3_93 ?_
    refine Go.istore d3_109 (ls' := [.val (.ref i), .val (.int a), .val (.int 2), .val (.int (((y0 &&& 31) <<< (6 &&& 31)) ||| ((y1 &&& 255) &&& 63))), .val (.int 0), .val (.int 128), .val (.int (y1 &&& 255))]) rfl ?_
    refine Go.iloadN d3_111 rfl ?_
    refine Go.iconst d3_112 (v := 1) rfl ?_
    refine Go.icmpF d3_113 (XT.ii_eq_f (by decide)) ?_
    refine Go.iload d3_116 rfl ?_
    refine Go.ifT d3_118 j3_118 (XT.i0_eq_t (by decide)) ?_
    refine Go.iconst d3_131 (v := (-1)) rfl ?_
    exact Go.ireturn d3_132 rfl (by rw [own_cp2, if_neg h58]) (HOk.eq rfl)
  · -- pc 58 not taken
    refine Go.iconst d3_61 (v := 1) rfl ?_
    refine Go.goto d3_62 j3_62 ?_
    refine Go.istore d3_66 (ls' := [.val (.ref i), .val (.int a), .val (.int 2), .val (.int (y0 &&& 31)), .val (.int 1), .val (.int 1), .val (.int (y1 &&& 255))]) rfl ?_
    refine Go.iloadN d3_68 rfl ?_
    refine Go.bipush d3_69 (v := 6) rfl ?_
    refine Go.ishl d3_71 ?_
    refine Go.iload d3_72 rfl ?_
    refine Go.bipush d3_74 (v := 63) rfl ?_
    refine Go.iand d3_76 ?_
    refine Go.ior d3_77 ?_
    refine Go.istoreN d3_78 (ls' := [.val (.ref i), .val (.int a), .val (.int 2), .val (.int (((y0 &&& 31) <<< (6 &&& 31)) ||| ((y1 &&& 255) &&& 63))), .val (.int 1), .val (.int 1), .val (.int (y1 &&& 255))]) rfl ?_
    refine Go.iinc d3_79 (v := 1) rfl rfl (ls' := [.val (.ref i), .val (.int a), .val (.int 2), .val (.int (((y0 &&& 31) <<< (6 &&& 31)) ||| ((y1 &&& 255) &&& 63))), .val (.int 1), .val (.int 2), .val (.int (y1 &&& 255))]) rfl ?_
    refine Go.goto d3_82 j3_82 ?_
    refine Go.iload d3_26 rfl ?_
    refine Go.iloadN d3_28 rfl ?_
    refine Go.icmpT d3_29 j3_29 (XT.ii_ge_t (by decide)) ?_
    refine Go.iloadN d3_85 rfl ?_
    refine Go.iconst d3_86 (v := 2) rfl ?_
    refine Go.icmpF d3_87 (XT.ii_ne_f (by decide)) ?_
    refine Go.sipush d3_90 (v := 128) rfl ?_
    refine Go.goto d3_93 j3_93 ?_
    refine Go.istore d3_109 (ls' := [.val (.ref i), .val (.int a), .val (.int 2), .val (.int (((y0 &&& 31) <<< (6 &&& 31)) ||| ((y1 &&& 255) &&& 63))), .val (.int 1), .val (.int 128), .val (.int (y1 &&& 255))]) rfl ?_
    refine Go.iloadN d3_111 rfl ?_
    refine Go.iconst d3_112 (v := 1) rfl ?_
    refine Go.icmpF d3_113 (XT.ii_eq_f (by decide)) ?_
    refine Go.iload d3_116 rfl ?_
    refine Go.ifF d3_118 (XT.i0_eq_f (by decide)) ?_
    refine Go.iloadN d3_121 rfl ?_
    refine Go.iload d3_122 rfl ?_
    refine Go.icmp_lt d3_124 j3_124 (fun h124 => ?_) (fun h124 => ?_)
    · -- pc 124 taken
      refine Go.iconst d3_131 (v := (-1)) rfl ?_
      exact Go.ireturn d3_132 rfl (by rw [own_cp2, if_pos h58, if_pos h124]) (HOk.eq rfl)
    · -- pc 124 not taken
      refine Go.iloadN d3_127 rfl ?_
      refine Go.goto d3_128 j3_128 ?_
      exact Go.ireturn d3_132 rfl (by rw [own_cp2, if_pos h58, if_neg h124]) (HOk.eq rfl)
def own_cp3 (y0 y1 y2 : Int32) : Int32 := (if ((y1 &&& 255) &&& 192) = 128 then (if ((y2 &&& 255) &&& 192) = 128 then (if (((((y0 &&& 15) <<< (6 &&& 31)) ||| ((y1 &&& 255) &&& 63)) <<< (6 &&& 31)) ||| ((y2 &&& 255) &&& 63)) < 2048 then (-1) else (((((y0 &&& 15) <<< (6 &&& 31)) ||| ((y1 &&& 255) &&& 63)) <<< (6 &&& 31)) ||| ((y2 &&& 255) &&& 63))) else (-1)) else (-1))
theorem go_own_cp3 (K : Ctx) (hw : ∀ d ∈ tables_1, d.before K.2.2.1 K.2.1 = true) (H : Hp) (i : Nat) (vs : List Value) (a y0 y1 y2 : Int32) (hH : H[i]? = some (.inr (.byte, vs))) (hj0 : ¬ a < 0) (hv0 : vs[Int32.toNatClampNeg a]? = some (.int y0)) (hj1 : ¬ (a + 1) < 0) (hv1 : vs[Int32.toNatClampNeg (a + 1)]? = some (.int y1)) (hj2 : ¬ (a + 2) < 0) (hv2 : vs[Int32.toNatClampNeg (a + 2)]? = some (.int y2)) : Go K m3 0 0 0 [.val (.ref i), .val (.int a), .val (.int 3), .unset, .unset, .unset, .unset] [] H (some (.int (own_cp3 y0 y1 y2)), some H, 0, 0) := by
  refine Go.iloadN d3_0 rfl ?_
  refine Go.iconst d3_1 (v := 1) rfl ?_
  refine Go.icmpT d3_2 j3_2 (XT.ii_ne_t (by decide)) ?_
  refine Go.aloadN d3_11 rfl rfl ?_
  refine Go.iloadN d3_12 rfl ?_
  refine Go.baload d3_13 hH hj0 hv0 ?_
  refine Go.bipush d3_14 (v := 127) rfl ?_
  refine Go.iloadN d3_16 rfl ?_
  refine Go.ishr d3_17 ?_
  show Go _ _ _ _ 18 [.val (.ref i), .val (.int a), .val (.int 3), .unset, .unset, .unset, .unset] [.int 15, .int y0] H _
  refine Go.iand d3_18 ?_
  refine Go.istoreN d3_19 (ls' := [.val (.ref i), .val (.int a), .val (.int 3), .val (.int (y0 &&& 15)), .unset, .unset, .unset]) rfl ?_
  refine Go.iconst d3_20 (v := 1) rfl ?_
  refine Go.istore d3_21 (ls' := [.val (.ref i), .val (.int a), .val (.int 3), .val (.int (y0 &&& 15)), .val (.int 1), .unset, .unset]) rfl ?_
  refine Go.iconst d3_23 (v := 1) rfl ?_
  refine Go.istore d3_24 (ls' := [.val (.ref i), .val (.int a), .val (.int 3), .val (.int (y0 &&& 15)), .val (.int 1), .val (.int 1), .unset]) rfl ?_
  refine Go.iload d3_26 rfl ?_
  refine Go.iloadN d3_28 rfl ?_
  refine Go.icmpF d3_29 (XT.ii_ge_f (by decide)) ?_
  refine Go.iload d3_32 rfl ?_
  refine Go.ifF d3_34 (XT.i0_eq_f (by decide)) ?_
  refine Go.aloadN d3_37 rfl rfl ?_
  refine Go.iloadN d3_38 rfl ?_
  refine Go.iload d3_39 rfl ?_
  refine Go.iadd d3_41 ?_
  refine Go.baload d3_42 hH hj1 hv1 ?_
  refine Go.sipush d3_43 (v := 255) rfl ?_
  refine Go.iand d3_46 ?_
  refine Go.istore d3_47 (ls' := [.val (.ref i), .val (.int a), .val (.int 3), .val (.int (y0 &&& 15)), .val (.int 1), .val (.int 1), .val (.int (y1 &&& 255))]) rfl ?_
  refine Go.iload d3_49 rfl ?_
  refine Go.sipush d3_51 (v := 192) rfl ?_
  refine Go.iand d3_54 ?_
  refine Go.sipush d3_55 (v := 128) rfl ?_
  refine Go.icmp_ne d3_58 j3_58 (fun h58 => ?_) (fun h58 => ?_)
  · -- pc 58 taken
    refine Go.iconst d3_65 (v := 0) rfl ?_
    refine Go.istore d3_66 (ls' := [.val (.ref i), .val (.int a), .val (.int 3), .val (.int (y0 &&& 15)), .val (.int 0), .val (.int 1), .val (.int (y1 &&& 255))]) rfl ?_
    refine Go.iloadN d3_68 rfl ?_
    refine Go.bipush d3_69 (v := 6) rfl ?_
    refine Go.ishl d3_71 ?_
    refine Go.iload d3_72 rfl ?_
    refine Go.bipush d3_74 (v := 63) rfl ?_
    refine Go.iand d3_76 ?_
    refine Go.ior d3_77 ?_
    refine Go.istoreN d3_78 (ls' := [.val (.ref i), .val (.int a), .val (.int 3), .val (.int (((y0 &&& 15) <<< (6 &&& 31)) ||| ((y1 &&& 255) &&& 63))), .val (.int 0), .val (.int 1), .val (.int (y1 &&& 255))]) rfl ?_
    refine Go.iinc d3_79 (v := 1) rfl rfl (ls' := [.val (.ref i), .val (.int a), .val (.int 3), .val (.int (((y0 &&& 15) <<< (6 &&& 31)) ||| ((y1 &&& 255) &&& 63))), .val (.int 0), .val (.int 2), .val (.int (y1 &&& 255))]) rfl ?_
    refine Go.goto d3_82 j3_82 ?_
    refine Go.iload d3_26 rfl ?_
    refine Go.iloadN d3_28 rfl ?_
    refine Go.icmpF d3_29 (XT.ii_ge_f (by decide)) ?_
    refine Go.iload d3_32 rfl ?_
    refine Go.ifT d3_34 j3_34 (XT.i0_eq_t (by decide)) ?_
    refine Go.iloadN d3_85 rfl ?_
    refine Go.iconst d3_86 (v := 2) rfl ?_
    refine Go.icmpT d3_87 j3_87 (XT.ii_ne_t (by decide)) ?_
    refine Go.iloadN d3_96 rfl ?_
    refine Go.iconst d3_97 (v := 3) rfl ?_
    refine Go.icmpF d3_98 (XT.ii_ne_f (by decide)) ?_
    refine Go.sipush d3_101 (v := 2048) rfl ?_
    refine Go.goto d3_104 j3_104 ?_
    refine Go.istore d3_109 (ls' := [.val (.ref i), .val (.int a), .val (.int 3), .val (.int (((y0 &&& 15) <<< (6 &&& 31)) ||| ((y1 &&& 255) &&& 63))), .val (.int 0), .val (.int 2048), .val (.int (y1 &&& 255))]) rfl ?_
    refine Go.iloadN d3_111 rfl ?_
    refine Go.iconst d3_112 (v := 1) rfl ?_
    refine Go.icmpF d3_113 (XT.ii_eq_f (by decide)) ?_
    refine Go.iload d3_116 rfl ?_
    refine Go.ifT d3_118 j3_118 (XT.i0_eq_t (by decide)) ?_
    refine Go.iconst d3_131 (v := (-1)) rfl ?_
    exact Go.ireturn d3_132 rfl (by rw [own_cp3, if_neg h58]) (HOk.eq rfl)
  · -- pc 58 not taken
    refine Go.iconst d3_61 (v := 1) rfl ?_
    refine Go.goto d3_62 j3_62 ?_
    refine Go.istore d3_66 (ls' := [.val (.ref i), .val (.int a), .val (.int 3), .val (.int (y0 &&& 15)), .val (.int 1), .val (.int 1), .val (.int (y1 &&& 255))]) rfl ?_
    refine Go.iloadN d3_68 rfl ?_
    refine Go.bipush d3_69 (v := 6) rfl ?_
    refine Go.ishl d3_71 ?_
    refine Go.iload d3_72 rfl ?_
    refine Go.bipush d3_74 (v := 63) rfl ?_
    refine Go.iand d3_76 ?_
    refine Go.ior d3_77 ?_
    refine Go.istoreN d3_78 (ls' := [.val (.ref i), .val (.int a), .val (.int 3), .val (.int (((y0 &&& 15) <<< (6 &&& 31)) ||| ((y1 &&& 255) &&& 63))), .val (.int 1), .val (.int 1), .val (.int (y1 &&& 255))]) rfl ?_
    refine Go.iinc d3_79 (v := 1) rfl rfl (ls' := [.val (.ref i), .val (.int a), .val (.int 3), .val (.int (((y0 &&& 15) <<< (6 &&& 31)) ||| ((y1 &&& 255) &&& 63))), .val (.int 1), .val (.int 2), .val (.int (y1 &&& 255))]) rfl ?_
    refine Go.goto d3_82 j3_82 ?_
    refine Go.iload d3_26 rfl ?_
    refine Go.iloadN d3_28 rfl ?_
    refine Go.icmpF d3_29 (XT.ii_ge_f (by decide)) ?_
    refine Go.iload d3_32 rfl ?_
    refine Go.ifF d3_34 (XT.i0_eq_f (by decide)) ?_
    refine Go.aloadN d3_37 rfl rfl ?_
    refine Go.iloadN d3_38 rfl ?_
    refine Go.iload d3_39 rfl ?_
    refine Go.iadd d3_41 ?_
    refine Go.baload d3_42 hH hj2 hv2 ?_
    refine Go.sipush d3_43 (v := 255) rfl ?_
    refine Go.iand d3_46 ?_
    refine Go.istore d3_47 (ls' := [.val (.ref i), .val (.int a), .val (.int 3), .val (.int (((y0 &&& 15) <<< (6 &&& 31)) ||| ((y1 &&& 255) &&& 63))), .val (.int 1), .val (.int 2), .val (.int (y2 &&& 255))]) rfl ?_
    refine Go.iload d3_49 rfl ?_
    refine Go.sipush d3_51 (v := 192) rfl ?_
    refine Go.iand d3_54 ?_
    refine Go.sipush d3_55 (v := 128) rfl ?_
    refine Go.icmp_ne d3_58 j3_58 (fun h58_1 => ?_) (fun h58_1 => ?_)
    · -- pc 58 taken
      refine Go.iconst d3_65 (v := 0) rfl ?_
      refine Go.istore d3_66 (ls' := [.val (.ref i), .val (.int a), .val (.int 3), .val (.int (((y0 &&& 15) <<< (6 &&& 31)) ||| ((y1 &&& 255) &&& 63))), .val (.int 0), .val (.int 2), .val (.int (y2 &&& 255))]) rfl ?_
      refine Go.iloadN d3_68 rfl ?_
      refine Go.bipush d3_69 (v := 6) rfl ?_
      refine Go.ishl d3_71 ?_
      refine Go.iload d3_72 rfl ?_
      refine Go.bipush d3_74 (v := 63) rfl ?_
      refine Go.iand d3_76 ?_
      refine Go.ior d3_77 ?_
      refine Go.istoreN d3_78 (ls' := [.val (.ref i), .val (.int a), .val (.int 3), .val (.int (((((y0 &&& 15) <<< (6 &&& 31)) ||| ((y1 &&& 255) &&& 63)) <<< (6 &&& 31)) ||| ((y2 &&& 255) &&& 63))), .val (.int 0), .val (.int 2), .val (.int (y2 &&& 255))]) rfl ?_
      refine Go.iinc d3_79 (v := 1) rfl rfl (ls' := [.val (.ref i), .val (.int a), .val (.int 3), .val (.int (((((y0 &&& 15) <<< (6 &&& 31)) ||| ((y1 &&& 255) &&& 63)) <<< (6 &&& 31)) ||| ((y2 &&& 255) &&& 63))), .val (.int 0), .val (.int 3), .val (.int (y2 &&& 255))]) rfl ?_
      refine Go.goto d3_82 j3_82 ?_
      refine Go.iload d3_26 rfl ?_
      refine Go.iloadN d3_28 rfl ?_
      refine Go.icmpT d3_29 j3_29 (XT.ii_ge_t (by decide)) ?_
      refine Go.iloadN d3_85 rfl ?_
      refine Go.iconst d3_86 (v := 2) rfl ?_
      refine Go.icmpT d3_87 j3_87 (XT.ii_ne_t (by decide)) ?_
      refine Go.iloadN d3_96 rfl ?_
      refine Go.iconst d3_97 (v := 3) rfl ?_
      refine Go.icmpF d3_98 (XT.ii_ne_f (by decide)) ?_
      refine Go.sipush d3_101 (v := 2048) rfl ?_
      refine Go.goto d3_104 j3_104 ?_
      refine Go.istore d3_109 (ls' := [.val (.ref i), .val (.int a), .val (.int 3), .val (.int (((((y0 &&& 15) <<< (6 &&& 31)) ||| ((y1 &&& 255) &&& 63)) <<< (6 &&& 31)) ||| ((y2 &&& 255) &&& 63))), .val (.int 0), .val (.int 2048), .val (.int (y2 &&& 255))]) rfl ?_
      refine Go.iloadN d3_111 rfl ?_
      refine Go.iconst d3_112 (v := 1) rfl ?_
      refine Go.icmpF d3_113 (XT.ii_eq_f (by decide)) ?_
      refine Go.iload d3_116 rfl ?_
      refine Go.ifT d3_118 j3_118 (XT.i0_eq_t (by decide)) ?_
      refine Go.iconst d3_131 (v := (-1)) rfl ?_
      exact Go.ireturn d3_132 rfl (by rw [own_cp3, if_pos h58, if_neg h58_1]) (HOk.eq rfl)
    · -- pc 58 not taken
      refine Go.iconst d3_61 (v := 1) rfl ?_
      refine Go.goto d3_62 j3_62 ?_
      refine Go.istore d3_66 (ls' := [.val (.ref i), .val (.int a), .val (.int 3), .val (.int (((y0 &&& 15) <<< (6 &&& 31)) ||| ((y1 &&& 255) &&& 63))), .val (.int 1), .val (.int 2), .val (.int (y2 &&& 255))]) rfl ?_
      refine Go.iloadN d3_68 rfl ?_
      refine Go.bipush d3_69 (v := 6) rfl ?_
      refine Go.ishl d3_71 ?_
      refine Go.iload d3_72 rfl ?_
      refine Go.bipush d3_74 (v := 63) rfl ?_
      refine Go.iand d3_76 ?_
      refine Go.ior d3_77 ?_
      refine Go.istoreN d3_78 (ls' := [.val (.ref i), .val (.int a), .val (.int 3), .val (.int (((((y0 &&& 15) <<< (6 &&& 31)) ||| ((y1 &&& 255) &&& 63)) <<< (6 &&& 31)) ||| ((y2 &&& 255) &&& 63))), .val (.int 1), .val (.int 2), .val (.int (y2 &&& 255))]) rfl ?_
      refine Go.iinc d3_79 (v := 1) rfl rfl (ls' := [.val (.ref i), .val (.int a), .val (.int 3), .val (.int (((((y0 &&& 15) <<< (6 &&& 31)) ||| ((y1 &&& 255) &&& 63)) <<< (6 &&& 31)) ||| ((y2 &&& 255) &&& 63))), .val (.int 1), .val (.int 3), .val (.int (y2 &&& 255))]) rfl ?_
      refine Go.goto d3_82 j3_82 ?_
      refine Go.iload d3_26 rfl ?_
      refine Go.iloadN d3_28 rfl ?_
      refine Go.icmpT d3_29 j3_29 (XT.ii_ge_t (by decide)) ?_
      refine Go.iloadN d3_85 rfl ?_
      refine Go.iconst d3_86 (v := 2) rfl ?_
      refine Go.icmpT d3_87 j3_87 (XT.ii_ne_t (by decide)) ?_
      refine Go.iloadN d3_96 rfl ?_
      refine Go.iconst d3_97 (v := 3) rfl ?_
      refine Go.icmpF d3_98 (XT.ii_ne_f (by decide)) ?_
      refine Go.sipush d3_101 (v := 2048) rfl ?_
      refine Go.goto d3_104 j3_104 ?_
      refine Go.istore d3_109 (ls' := [.val (.ref i), .val (.int a), .val (.int 3), .val (.int (((((y0 &&& 15) <<< (6 &&& 31)) ||| ((y1 &&& 255) &&& 63)) <<< (6 &&& 31)) ||| ((y2 &&& 255) &&& 63))), .val (.int 1), .val (.int 2048), .val (.int (y2 &&& 255))]) rfl ?_
      refine Go.iloadN d3_111 rfl ?_
      refine Go.iconst d3_112 (v := 1) rfl ?_
      refine Go.icmpF d3_113 (XT.ii_eq_f (by decide)) ?_
      refine Go.iload d3_116 rfl ?_
      refine Go.ifF d3_118 (XT.i0_eq_f (by decide)) ?_
      refine Go.iloadN d3_121 rfl ?_
      refine Go.iload d3_122 rfl ?_
      refine Go.icmp_lt d3_124 j3_124 (fun h124 => ?_) (fun h124 => ?_)
      · -- pc 124 taken
        refine Go.iconst d3_131 (v := (-1)) rfl ?_
        exact Go.ireturn d3_132 rfl (by rw [own_cp3, if_pos h58, if_pos h58_1, if_pos h124]) (HOk.eq rfl)
      · -- pc 124 not taken
        refine Go.iloadN d3_127 rfl ?_
        refine Go.goto d3_128 j3_128 ?_
        exact Go.ireturn d3_132 rfl (by rw [own_cp3, if_pos h58, if_pos h58_1, if_neg h124]) (HOk.eq rfl)
def own_cp4 (y0 y1 y2 y3 : Int32) : Int32 := (if ((y1 &&& 255) &&& 192) = 128 then (if ((y2 &&& 255) &&& 192) = 128 then (if ((y3 &&& 255) &&& 192) = 128 then (if (((((((y0 &&& 7) <<< (6 &&& 31)) ||| ((y1 &&& 255) &&& 63)) <<< (6 &&& 31)) ||| ((y2 &&& 255) &&& 63)) <<< (6 &&& 31)) ||| ((y3 &&& 255) &&& 63)) < 65536 then (-1) else (((((((y0 &&& 7) <<< (6 &&& 31)) ||| ((y1 &&& 255) &&& 63)) <<< (6 &&& 31)) ||| ((y2 &&& 255) &&& 63)) <<< (6 &&& 31)) ||| ((y3 &&& 255) &&& 63))) else (-1)) else (-1)) else (-1))
theorem go_own_cp4 (K : Ctx) (hw : ∀ d ∈ tables_1, d.before K.2.2.1 K.2.1 = true) (H : Hp) (i : Nat) (vs : List Value) (a y0 y1 y2 y3 : Int32) (hH : H[i]? = some (.inr (.byte, vs))) (hj0 : ¬ a < 0) (hv0 : vs[Int32.toNatClampNeg a]? = some (.int y0)) (hj1 : ¬ (a + 1) < 0) (hv1 : vs[Int32.toNatClampNeg (a + 1)]? = some (.int y1)) (hj2 : ¬ (a + 2) < 0) (hv2 : vs[Int32.toNatClampNeg (a + 2)]? = some (.int y2)) (hj3 : ¬ (a + 3) < 0) (hv3 : vs[Int32.toNatClampNeg (a + 3)]? = some (.int y3)) : Go K m3 0 0 0 [.val (.ref i), .val (.int a), .val (.int 4), .unset, .unset, .unset, .unset] [] H (some (.int (own_cp4 y0 y1 y2 y3)), some H, 0, 0) := by
  refine Go.iloadN d3_0 rfl ?_
  refine Go.iconst d3_1 (v := 1) rfl ?_
  refine Go.icmpT d3_2 j3_2 (XT.ii_ne_t (by decide)) ?_
  refine Go.aloadN d3_11 rfl rfl ?_
  refine Go.iloadN d3_12 rfl ?_
  refine Go.baload d3_13 hH hj0 hv0 ?_
  refine Go.bipush d3_14 (v := 127) rfl ?_
  refine Go.iloadN d3_16 rfl ?_
  refine Go.ishr d3_17 ?_
  show Go _ _ _ _ 18 [.val (.ref i), .val (.int a), .val (.int 4), .unset, .unset, .unset, .unset] [.int 7, .int y0] H _
  refine Go.iand d3_18 ?_
  refine Go.istoreN d3_19 (ls' := [.val (.ref i), .val (.int a), .val (.int 4), .val (.int (y0 &&& 7)), .unset, .unset, .unset]) rfl ?_
  refine Go.iconst d3_20 (v := 1) rfl ?_
  refine Go.istore d3_21 (ls' := [.val (.ref i), .val (.int a), .val (.int 4), .val (.int (y0 &&& 7)), .val (.int 1), .unset, .unset]) rfl ?_
  refine Go.iconst d3_23 (v := 1) rfl ?_
  refine Go.istore d3_24 (ls' := [.val (.ref i), .val (.int a), .val (.int 4), .val (.int (y0 &&& 7)), .val (.int 1), .val (.int 1), .unset]) rfl ?_
  refine Go.iload d3_26 rfl ?_
  refine Go.iloadN d3_28 rfl ?_
  refine Go.icmpF d3_29 (XT.ii_ge_f (by decide)) ?_
  refine Go.iload d3_32 rfl ?_
  refine Go.ifF d3_34 (XT.i0_eq_f (by decide)) ?_
  refine Go.aloadN d3_37 rfl rfl ?_
  refine Go.iloadN d3_38 rfl ?_
  refine Go.iload d3_39 rfl ?_
  refine Go.iadd d3_41 ?_
  refine Go.baload d3_42 hH hj1 hv1 ?_
  refine Go.sipush d3_43 (v := 255) rfl ?_
  refine Go.iand d3_46 ?_
  refine Go.istore d3_47 (ls' := [.val (.ref i), .val (.int a), .val (.int 4), .val (.int (y0 &&& 7)), .val (.int 1), .val (.int 1), .val (.int (y1 &&& 255))]) rfl ?_
  refine Go.iload d3_49 rfl ?_
  refine Go.sipush d3_51 (v := 192) rfl ?_
  refine Go.iand d3_54 ?_
  refine Go.sipush d3_55 (v := 128) rfl ?_
  refine Go.icmp_ne d3_58 j3_58 (fun h58 => ?_) (fun h58 => ?_)
  · -- pc 58 taken
    refine Go.iconst d3_65 (v := 0) rfl ?_
    refine Go.istore d3_66 (ls' := [.val (.ref i), .val (.int a), .val (.int 4), .val (.int (y0 &&& 7)), .val (.int 0), .val (.int 1), .val (.int (y1 &&& 255))]) rfl ?_
    refine Go.iloadN d3_68 rfl ?_
    refine Go.bipush d3_69 (v := 6) rfl ?_
    refine Go.ishl d3_71 ?_
    refine Go.iload d3_72 rfl ?_
    refine Go.bipush d3_74 (v := 63) rfl ?_
    refine Go.iand d3_76 ?_
    refine Go.ior d3_77 ?_
    refine Go.istoreN d3_78 (ls' := [.val (.ref i), .val (.int a), .val (.int 4), .val (.int (((y0 &&& 7) <<< (6 &&& 31)) ||| ((y1 &&& 255) &&& 63))), .val (.int 0), .val (.int 1), .val (.int (y1 &&& 255))]) rfl ?_
    refine Go.iinc d3_79 (v := 1) rfl rfl (ls' := [.val (.ref i), .val (.int a), .val (.int 4), .val (.int (((y0 &&& 7) <<< (6 &&& 31)) ||| ((y1 &&& 255) &&& 63))), .val (.int 0), .val (.int 2), .val (.int (y1 &&& 255))]) rfl ?_
    refine Go.goto d3_82 j3_82 ?_
    refine Go.iload d3_26 rfl ?_
    refine Go.iloadN d3_28 rfl ?_
    refine Go.icmpF d3_29 (XT.ii_ge_f (by decide)) ?_
    refine Go.iload d3_32 rfl ?_
    refine Go.ifT d3_34 j3_34 (XT.i0_eq_t (by decide)) ?_
    refine Go.iloadN d3_85 rfl ?_
    refine Go.iconst d3_86 (v := 2) rfl ?_
    refine Go.icmpT d3_87 j3_87 (XT.ii_ne_t (by decide)) ?_
    refine Go.iloadN d3_96 rfl ?_
    refine Go.iconst d3_97 (v := 3) rfl ?_
    refine Go.icmpT d3_98 j3_98 (XT.ii_ne_t (by decide)) ?_
    refine Go.ldc d3_107 (hw _ (List.mem_of_getElem? (i := 12) rfl)) ?_
    refine Go.istore d3_109 (ls' := [.val (.ref i), .val (.int a), .val (.int 4), .val (.int (((y0 &&& 7) <<< (6 &&& 31)) ||| ((y1 &&& 255) &&& 63))), .val (.int 0), .val (.int 65536), .val (.int (y1 &&& 255))]) rfl ?_
    refine Go.iloadN d3_111 rfl ?_
    refine Go.iconst d3_112 (v := 1) rfl ?_
    refine Go.icmpF d3_113 (XT.ii_eq_f (by decide)) ?_
    refine Go.iload d3_116 rfl ?_
    refine Go.ifT d3_118 j3_118 (XT.i0_eq_t (by decide)) ?_
    refine Go.iconst d3_131 (v := (-1)) rfl ?_
    exact Go.ireturn d3_132 rfl (by rw [own_cp4, if_neg h58]) (HOk.eq rfl)
  · -- pc 58 not taken
    refine Go.iconst d3_61 (v := 1) rfl ?_
    refine Go.goto d3_62 j3_62 ?_
    refine Go.istore d3_66 (ls' := [.val (.ref i), .val (.int a), .val (.int 4), .val (.int (y0 &&& 7)), .val (.int 1), .val (.int 1), .val (.int (y1 &&& 255))]) rfl ?_
    refine Go.iloadN d3_68 rfl ?_
    refine Go.bipush d3_69 (v := 6) rfl ?_
    refine Go.ishl d3_71 ?_
    refine Go.iload d3_72 rfl ?_
    refine Go.bipush d3_74 (v := 63) rfl ?_
    refine Go.iand d3_76 ?_
    refine Go.ior d3_77 ?_
    refine Go.istoreN d3_78 (ls' := [.val (.ref i), .val (.int a), .val (.int 4), .val (.int (((y0 &&& 7) <<< (6 &&& 31)) ||| ((y1 &&& 255) &&& 63))), .val (.int 1), .val (.int 1), .val (.int (y1 &&& 255))]) rfl ?_
    refine Go.iinc d3_79 (v := 1) rfl rfl (ls' := [.val (.ref i), .val (.int a), .val (.int 4), .val (.int (((y0 &&& 7) <<< (6 &&& 31)) ||| ((y1 &&& 255) &&& 63))), .val (.int 1), .val (.int 2), .val (.int (y1 &&& 255))]) rfl ?_
    refine Go.goto d3_82 j3_82 ?_
    refine Go.iload d3_26 rfl ?_
    refine Go.iloadN d3_28 rfl ?_
    refine Go.icmpF d3_29 (XT.ii_ge_f (by decide)) ?_
    refine Go.iload d3_32 rfl ?_
    refine Go.ifF d3_34 (XT.i0_eq_f (by decide)) ?_
    refine Go.aloadN d3_37 rfl rfl ?_
    refine Go.iloadN d3_38 rfl ?_
    refine Go.iload d3_39 rfl ?_
    refine Go.iadd d3_41 ?_
    refine Go.baload d3_42 hH hj2 hv2 ?_
    refine Go.sipush d3_43 (v := 255) rfl ?_
    refine Go.iand d3_46 ?_
    refine Go.istore d3_47 (ls' := [.val (.ref i), .val (.int a), .val (.int 4), .val (.int (((y0 &&& 7) <<< (6 &&& 31)) ||| ((y1 &&& 255) &&& 63))), .val (.int 1), .val (.int 2), .val (.int (y2 &&& 255))]) rfl ?_
    refine Go.iload d3_49 rfl ?_
    refine Go.sipush d3_51 (v := 192) rfl ?_
    refine Go.iand d3_54 ?_
    refine Go.sipush d3_55 (v := 128) rfl ?_
    refine Go.icmp_ne d3_58 j3_58 (fun h58_1 => ?_) (fun h58_1 => ?_)
    · -- pc 58 taken
      refine Go.iconst d3_65 (v := 0) rfl ?_
      refine Go.istore d3_66 (ls' := [.val (.ref i), .val (.int a), .val (.int 4), .val (.int (((y0 &&& 7) <<< (6 &&& 31)) ||| ((y1 &&& 255) &&& 63))), .val (.int 0), .val (.int 2), .val (.int (y2 &&& 255))]) rfl ?_
      refine Go.iloadN d3_68 rfl ?_
      refine Go.bipush d3_69 (v := 6) rfl ?_
      refine Go.ishl d3_71 ?_
      refine Go.iload d3_72 rfl ?_
      refine Go.bipush d3_74 (v := 63) rfl ?_
      refine Go.iand d3_76 ?_
      refine Go.ior d3_77 ?_
      refine Go.istoreN d3_78 (ls' := [.val (.ref i), .val (.int a), .val (.int 4), .val (.int (((((y0 &&& 7) <<< (6 &&& 31)) ||| ((y1 &&& 255) &&& 63)) <<< (6 &&& 31)) ||| ((y2 &&& 255) &&& 63))), .val (.int 0), .val (.int 2), .val (.int (y2 &&& 255))]) rfl ?_
      refine Go.iinc d3_79 (v := 1) rfl rfl (ls' := [.val (.ref i), .val (.int a), .val (.int 4), .val (.int (((((y0 &&& 7) <<< (6 &&& 31)) ||| ((y1 &&& 255) &&& 63)) <<< (6 &&& 31)) ||| ((y2 &&& 255) &&& 63))), .val (.int 0), .val (.int 3), .val (.int (y2 &&& 255))]) rfl ?_
      refine Go.goto d3_82 j3_82 ?_
      refine Go.iload d3_26 rfl ?_
      refine Go.iloadN d3_28 rfl ?_
      refine Go.icmpF d3_29 (XT.ii_ge_f (by decide)) ?_
      refine Go.iload d3_32 rfl ?_
      refine Go.ifT d3_34 j3_34 (XT.i0_eq_t (by decide)) ?_
      refine Go.iloadN d3_85 rfl ?_
      refine Go.iconst d3_86 (v := 2) rfl ?_
      refine Go.icmpT d3_87 j3_87 (XT.ii_ne_t (by decide)) ?_
      refine Go.iloadN d3_96 rfl ?_
      refine Go.iconst d3_97 (v := 3) rfl ?_
      refine Go.icmpT d3_98 j3_98 (XT.ii_ne_t (by decide)) ?_
      refine Go.ldc d3_107 (hw _ (List.mem_of_getElem? (i := 12) rfl)) ?_
      refine Go.istore d3_109 (ls' := [.val (.ref i), .val (.int a), .val (.int 4), .val (.int (((((y0 &&& 7) <<< (6 &&& 31)) ||| ((y1 &&& 255) &&& 63)) <<< (6 &&& 31)) ||| ((y2 &&& 255) &&& 63))), .val (.int 0), .val (.int 65536), .val (.int (y2 &&& 255))]) rfl ?_
      refine Go.iloadN d3_111 rfl ?_
      refine Go.iconst d3_112 (v := 1) rfl ?_
      refine Go.icmpF d3_113 (XT.ii_eq_f (by decide)) ?_
      refine Go.iload d3_116 rfl ?_
      refine Go.ifT d3_118 j3_118 (XT.i0_eq_t (by decide)) ?_
      refine Go.iconst d3_131 (v := (-1)) rfl ?_
      exact Go.ireturn d3_132 rfl (by rw [own_cp4, if_pos h58, if_neg h58_1]) (HOk.eq rfl)
    · -- pc 58 not taken
      refine Go.iconst d3_61 (v := 1) rfl ?_
      refine Go.goto d3_62 j3_62 ?_
      refine Go.istore d3_66 (ls' := [.val (.ref i), .val (.int a), .val (.int 4), .val (.int (((y0 &&& 7) <<< (6 &&& 31)) ||| ((y1 &&& 255) &&& 63))), .val (.int 1), .val (.int 2), .val (.int (y2 &&& 255))]) rfl ?_
      refine Go.iloadN d3_68 rfl ?_
      refine Go.bipush d3_69 (v := 6) rfl ?_
      refine Go.ishl d3_71 ?_
      refine Go.iload d3_72 rfl ?_
      refine Go.bipush d3_74 (v := 63) rfl ?_
      refine Go.iand d3_76 ?_
      refine Go.ior d3_77 ?_
      refine Go.istoreN d3_78 (ls' := [.val (.ref i), .val (.int a), .val (.int 4), .val (.int (((((y0 &&& 7) <<< (6 &&& 31)) ||| ((y1 &&& 255) &&& 63)) <<< (6 &&& 31)) ||| ((y2 &&& 255) &&& 63))), .val (.int 1), .val (.int 2), .val (.int (y2 &&& 255))]) rfl ?_
      refine Go.iinc d3_79 (v := 1) rfl rfl (ls' := [.val (.ref i), .val (.int a), .val (.int 4), .val (.int (((((y0 &&& 7) <<< (6 &&& 31)) ||| ((y1 &&& 255) &&& 63)) <<< (6 &&& 31)) ||| ((y2 &&& 255) &&& 63))), .val (.int 1), .val (.int 3), .val (.int (y2 &&& 255))]) rfl ?_
      refine Go.goto d3_82 j3_82 ?_
      refine Go.iload d3_26 rfl ?_
      refine Go.iloadN d3_28 rfl ?_
      refine Go.icmpF d3_29 (XT.ii_ge_f (by decide)) ?_
      refine Go.iload d3_32 rfl ?_
      refine Go.ifF d3_34 (XT.i0_eq_f (by decide)) ?_
      refine Go.aloadN d3_37 rfl rfl ?_
      refine Go.iloadN d3_38 rfl ?_
      refine Go.iload d3_39 rfl ?_
      refine Go.iadd d3_41 ?_
      refine Go.baload d3_42 hH hj3 hv3 ?_
      refine Go.sipush d3_43 (v := 255) rfl ?_
      refine Go.iand d3_46 ?_
      refine Go.istore d3_47 (ls' := [.val (.ref i), .val (.int a), .val (.int 4), .val (.int (((((y0 &&& 7) <<< (6 &&& 31)) ||| ((y1 &&& 255) &&& 63)) <<< (6 &&& 31)) ||| ((y2 &&& 255) &&& 63))), .val (.int 1), .val (.int 3), .val (.int (y3 &&& 255))]) rfl ?_
      refine Go.iload d3_49 rfl ?_
      refine Go.sipush d3_51 (v := 192) rfl ?_
      refine Go.iand d3_54 ?_
      refine Go.sipush d3_55 (v := 128) rfl ?_
      refine Go.icmp_ne d3_58 j3_58 (fun h58_2 => ?_) (fun h58_2 => ?_)
      · -- pc 58 taken
        refine Go.iconst d3_65 (v := 0) rfl ?_
        refine Go.istore d3_66 (ls' := [.val (.ref i), .val (.int a), .val (.int 4), .val (.int (((((y0 &&& 7) <<< (6 &&& 31)) ||| ((y1 &&& 255) &&& 63)) <<< (6 &&& 31)) ||| ((y2 &&& 255) &&& 63))), .val (.int 0), .val (.int 3), .val (.int (y3 &&& 255))]) rfl ?_
        refine Go.iloadN d3_68 rfl ?_
        refine Go.bipush d3_69 (v := 6) rfl ?_
        refine Go.ishl d3_71 ?_
        refine Go.iload d3_72 rfl ?_
        refine Go.bipush d3_74 (v := 63) rfl ?_
        refine Go.iand d3_76 ?_
        refine Go.ior d3_77 ?_
        refine Go.istoreN d3_78 (ls' := [.val (.ref i), .val (.int a), .val (.int 4), .val (.int (((((((y0 &&& 7) <<< (6 &&& 31)) ||| ((y1 &&& 255) &&& 63)) <<< (6 &&& 31)) ||| ((y2 &&& 255) &&& 63)) <<< (6 &&& 31)) ||| ((y3 &&& 255) &&& 63))), .val (.int 0), .val (.int 3), .val (.int (y3 &&& 255))]) rfl ?_
        refine Go.iinc d3_79 (v := 1) rfl rfl (ls' := [.val (.ref i), .val (.int a), .val (.int 4), .val (.int (((((((y0 &&& 7) <<< (6 &&& 31)) ||| ((y1 &&& 255) &&& 63)) <<< (6 &&& 31)) ||| ((y2 &&& 255) &&& 63)) <<< (6 &&& 31)) ||| ((y3 &&& 255) &&& 63))), .val (.int 0), .val (.int 4), .val (.int (y3 &&& 255))]) rfl ?_
        refine Go.goto d3_82 j3_82 ?_
        refine Go.iload d3_26 rfl ?_
        refine Go.iloadN d3_28 rfl ?_
        refine Go.icmpT d3_29 j3_29 (XT.ii_ge_t (by decide)) ?_
        refine Go.iloadN d3_85 rfl ?_
        refine Go.iconst d3_86 (v := 2) rfl ?_
        refine Go.icmpT d3_87 j3_87 (XT.ii_ne_t (by decide)) ?_
        refine Go.iloadN d3_96 rfl ?_
        refine Go.iconst d3_97 (v := 3) rfl ?_
        refine Go.icmpT d3_98 j3_98 (XT.ii_ne_t (by decide)) ?_
        refine Go.ldc d3_107 (hw _ (List.mem_of_getElem? (i := 12) rfl)) ?_
        refine Go.istore d3_109 (ls' := [.val (.ref i), .val (.int a), .val (.int 4), .val (.int (((((((y0 &&& 7) <<< (6 &&& 31)) ||| ((y1 &&& 255) &&& 63)) <<< (6 &&& 31)) ||| ((y2 &&& 255) &&& 63)) <<< (6 &&& 31)) ||| ((y3 &&& 255) &&& 63))), .val (.int 0), .val (.int 65536), .val (.int (y3 &&& 255))]) rfl ?_
        refine Go.iloadN d3_111 rfl ?_
        refine Go.iconst d3_112 (v := 1) rfl ?_
        refine Go.icmpF d3_113 (XT.ii_eq_f (by decide)) ?_
        refine Go.iload d3_116 rfl ?_
        refine Go.ifT d3_118 j3_118 (XT.i0_eq_t (by decide)) ?_
        refine Go.iconst d3_131 (v := (-1)) rfl ?_
        exact Go.ireturn d3_132 rfl (by rw [own_cp4, if_pos h58, if_pos h58_1, if_neg h58_2]) (HOk.eq rfl)
      · -- pc 58 not taken
        refine Go.iconst d3_61 (v := 1) rfl ?_
        refine Go.goto d3_62 j3_62 ?_
        refine Go.istore d3_66 (ls' := [.val (.ref i), .val (.int a), .val (.int 4), .val (.int (((((y0 &&& 7) <<< (6 &&& 31)) ||| ((y1 &&& 255) &&& 63)) <<< (6 &&& 31)) ||| ((y2 &&& 255) &&& 63))), .val (.int 1), .val (.int 3), .val (.int (y3 &&& 255))]) rfl ?_
        refine Go.iloadN d3_68 rfl ?_
        refine Go.bipush d3_69 (v := 6) rfl ?_
        refine Go.ishl d3_71 ?_
        refine Go.iload d3_72 rfl ?_
        refine Go.bipush d3_74 (v := 63) rfl ?_
        refine Go.iand d3_76 ?_
        refine Go.ior d3_77 ?_
        refine Go.istoreN d3_78 (ls' := [.val (.ref i), .val (.int a), .val (.int 4), .val (.int (((((((y0 &&& 7) <<< (6 &&& 31)) ||| ((y1 &&& 255) &&& 63)) <<< (6 &&& 31)) ||| ((y2 &&& 255) &&& 63)) <<< (6 &&& 31)) ||| ((y3 &&& 255) &&& 63))), .val (.int 1), .val (.int 3), .val (.int (y3 &&& 255))]) rfl ?_
        refine Go.iinc d3_79 (v := 1) rfl rfl (ls' := [.val (.ref i), .val (.int a), .val (.int 4), .val (.int (((((((y0 &&& 7) <<< (6 &&& 31)) ||| ((y1 &&& 255) &&& 63)) <<< (6 &&& 31)) ||| ((y2 &&& 255) &&& 63)) <<< (6 &&& 31)) ||| ((y3 &&& 255) &&& 63))), .val (.int 1), .val (.int 4), .val (.int (y3 &&& 255))]) rfl ?_
        refine Go.goto d3_82 j3_82 ?_
        refine Go.iload d3_26 rfl ?_
        refine Go.iloadN d3_28 rfl ?_
        refine Go.icmpT d3_29 j3_29 (XT.ii_ge_t (by decide)) ?_
        refine Go.iloadN d3_85 rfl ?_
        refine Go.iconst d3_86 (v := 2) rfl ?_
        refine Go.icmpT d3_87 j3_87 (XT.ii_ne_t (by decide)) ?_
        refine Go.iloadN d3_96 rfl ?_
        refine Go.iconst d3_97 (v := 3) rfl ?_
        refine Go.icmpT d3_98 j3_98 (XT.ii_ne_t (by decide)) ?_
        refine Go.ldc d3_107 (hw _ (List.mem_of_getElem? (i := 12) rfl)) ?_
        refine Go.istore d3_109 (ls' := [.val (.ref i), .val (.int a), .val (.int 4), .val (.int (((((((y0 &&& 7) <<< (6 &&& 31)) ||| ((y1 &&& 255) &&& 63)) <<< (6 &&& 31)) ||| ((y2 &&& 255) &&& 63)) <<< (6 &&& 31)) ||| ((y3 &&& 255) &&& 63))), .val (.int 1), .val (.int 65536), .val (.int (y3 &&& 255))]) rfl ?_
        refine Go.iloadN d3_111 rfl ?_
        refine Go.iconst d3_112 (v := 1) rfl ?_
        refine Go.icmpF d3_113 (XT.ii_eq_f (by decide)) ?_
        refine Go.iload d3_116 rfl ?_
        refine Go.ifF d3_118 (XT.i0_eq_f (by decide)) ?_
        refine Go.iloadN d3_121 rfl ?_
        refine Go.iload d3_122 rfl ?_
        refine Go.icmp_lt d3_124 j3_124 (fun h124 => ?_) (fun h124 => ?_)
        · -- pc 124 taken
          refine Go.iconst d3_131 (v := (-1)) rfl ?_
          exact Go.ireturn d3_132 rfl (by rw [own_cp4, if_pos h58, if_pos h58_1, if_pos h58_2, if_pos h124]) (HOk.eq rfl)
        · -- pc 124 not taken
          refine Go.iloadN d3_127 rfl ?_
          refine Go.goto d3_128 j3_128 ?_
          exact Go.ireturn d3_132 rfl (by rw [own_cp4, if_pos h58, if_pos h58_1, if_pos h58_2, if_neg h124]) (HOk.eq rfl)
def own_B (b : Int32) : Prop := 0 ≤ b.toInt ∧ b.toInt < 256
theorem own_icv (b : Int32) : own_ic b = 0 ↔ ¬ (b &&& 192) = 128 := by
  rw [own_ic]; split <;> simp_all
theorem own_shb (a : Int32) (k : Int32) (n : Nat) (hk : (k.toBitVec.smod 32).toNat = n) : (a <<< k).toBitVec = a.toBitVec <<< n := by
  rw [Int32.toBitVec_shiftLeft, BitVec.shiftLeft_eq', hk]
theorem own_sh (a b : Int32) : (a ||| b) <<< (6 &&& 31) = (a <<< (6 &&& 31)) ||| (b <<< (6 &&& 31)) := by
  apply Int32.toBitVec_inj.mp
  rw [Int32.toBitVec_or, own_shb _ _ 6 (by decide), own_shb _ _ 6 (by decide), own_shb _ _ 6 (by decide), Int32.toBitVec_or, BitVec.shiftLeft_or_distrib]
theorem own_s12 (a : Int32) : (a <<< (6 &&& 31)) <<< (6 &&& 31) = a <<< (12 &&& 31) := by
  apply Int32.toBitVec_inj.mp
  rw [own_shb _ _ 6 (by decide), own_shb _ _ 6 (by decide), own_shb _ _ 12 (by decide), ← BitVec.shiftLeft_add]
theorem own_s18 (a : Int32) : (a <<< (6 &&& 31)) <<< (12 &&& 31) = a <<< (18 &&& 31) := by
  apply Int32.toBitVec_inj.mp
  rw [own_shb _ _ 12 (by decide), own_shb _ _ 6 (by decide), own_shb _ _ 18 (by decide), ← BitVec.shiftLeft_add]
theorem own_e1 {y0 b0 : Int32} (hz0 : y0 = b0) : own_cp1 y0 = b0 := hz0
theorem own_e2 {y0 y1 b0 b1 : Int32} (hz0 : y0 &&& 31 = b0 &&& 31) (hz1 : y1 &&& 255 = b1) : own_cp2 y0 y1 = if own_ic b1 = 0 then (-1 : Int32) else (if (((b0 &&& 31) <<< (6 &&& 31)) ||| (b1 &&& 63)) < 128 then (-1) else (((b0 &&& 31) <<< (6 &&& 31)) ||| (b1 &&& 63))) := by
  rw [own_cp2, hz0, hz1]
  by_cases h1 : (b1 &&& 192) = 128
  · rw [if_pos h1, if_neg (fun q => (own_icv _).mp q h1)]
  · rw [if_neg h1, if_pos ((own_icv _).mpr h1)]
theorem own_e3 {y0 y1 y2 b0 b1 b2 : Int32} (hz0 : y0 &&& 15 = b0 &&& 15) (hz1 : y1 &&& 255 = b1) (hz2 : y2 &&& 255 = b2) : own_cp3 y0 y1 y2 = if own_ic b1 = 0 then (-1 : Int32) else if own_ic b2 = 0 then (-1) else (if ((((b0 &&& 15) <<< (12 &&& 31)) ||| ((b1 &&& 63) <<< (6 &&& 31))) ||| (b2 &&& 63)) < 2048 then (-1) else ((((b0 &&& 15) <<< (12 &&& 31)) ||| ((b1 &&& 63) <<< (6 &&& 31))) ||| (b2 &&& 63))) := by
  rw [own_cp3, hz0, hz1, hz2, own_sh, own_s12]
  by_cases h1 : (b1 &&& 192) = 128
  · rw [if_pos h1, if_neg (fun q => (own_icv _).mp q h1)]
    by_cases h2 : (b2 &&& 192) = 128
    · rw [if_pos h2, if_neg (fun q => (own_icv _).mp q h2)]
    · rw [if_neg h2, if_pos ((own_icv _).mpr h2)]
  · rw [if_neg h1, if_pos ((own_icv _).mpr h1)]
theorem own_e4 {y0 y1 y2 y3 b0 b1 b2 b3 : Int32} (hz0 : y0 &&& 7 = b0 &&& 7) (hz1 : y1 &&& 255 = b1) (hz2 : y2 &&& 255 = b2) (hz3 : y3 &&& 255 = b3) : own_cp4 y0 y1 y2 y3 = if own_ic b1 = 0 then (-1 : Int32) else if own_ic b2 = 0 then (-1) else if own_ic b3 = 0 then (-1) else (if (((((b0 &&& 7) <<< (18 &&& 31)) ||| ((b1 &&& 63) <<< (12 &&& 31))) ||| ((b2 &&& 63) <<< (6 &&& 31))) ||| (b3 &&& 63)) < 65536 then (-1) else (((((b0 &&& 7) <<< (18 &&& 31)) ||| ((b1 &&& 63) <<< (12 &&& 31))) ||| ((b2 &&& 63) <<< (6 &&& 31))) ||| (b3 &&& 63))) := by
  rw [own_cp4, hz0, hz1, hz2, hz3, own_sh, own_sh, own_sh, own_s12, own_s12, own_s18]
  by_cases h1 : (b1 &&& 192) = 128
  · rw [if_pos h1, if_neg (fun q => (own_icv _).mp q h1)]
    by_cases h2 : (b2 &&& 192) = 128
    · rw [if_pos h2, if_neg (fun q => (own_icv _).mp q h2)]
      by_cases h3 : (b3 &&& 192) = 128
      · rw [if_pos h3, if_neg (fun q => (own_icv _).mp q h3)]
      · rw [if_neg h3, if_pos ((own_icv _).mpr h3)]
    · rw [if_neg h2, if_pos ((own_icv _).mpr h2)]
  · rw [if_neg h1, if_pos ((own_icv _).mpr h1)]
theorem own_nv (b : Int32) : (nar .byte ((Int32.toInt8 b).toInt32)).toInt = b.toInt.bmod 256 := by
  have e : nar .byte ((Int32.toInt8 b).toInt32) = (Int32.toInt8 b).toInt32 := by simp [nar]
  rw [e, Int8.toInt_toInt32, Int32.toInt_toInt8]
theorem own_bm (z : Int) : z.bmod 256 % 256 = z % 256 := Int.bmod_emod
theorem own_zz {b : Int32} (c : own_B b) : (nar .byte ((Int32.toInt8 b).toInt32)) &&& 255 = b := by
  apply Int32.toInt_inj.mp
  have h := own_bm b.toInt
  rw [Jvm.Kit.i32_mask _ 255 (k := 8) (by decide) (by decide), own_nv]
  unfold own_B at c
  omega
theorem own_z1 {b : Int32} (c : own_B b) (hb : b.toInt < 128) : nar .byte ((Int32.toInt8 b).toInt32) = b := by
  apply Int32.toInt_inj.mp
  rw [own_nv]
  unfold own_B at c
  exact Int.bmod_eq_of_le (by omega) (by omega)
theorem own_z2 {b : Int32} (c : own_B b) : (nar .byte ((Int32.toInt8 b).toInt32)) &&& 31 = b &&& 31 := by
  apply Int32.toInt_inj.mp
  have h := own_bm b.toInt
  rw [Jvm.Kit.i32_mask _ 31 (k := 5) (by decide) (by decide), Jvm.Kit.i32_mask _ 31 (k := 5) (by decide) (by decide), own_nv]
  omega
theorem own_z3 {b : Int32} (c : own_B b) : (nar .byte ((Int32.toInt8 b).toInt32)) &&& 15 = b &&& 15 := by
  apply Int32.toInt_inj.mp
  have h := own_bm b.toInt
  rw [Jvm.Kit.i32_mask _ 15 (k := 4) (by decide) (by decide), Jvm.Kit.i32_mask _ 15 (k := 4) (by decide) (by decide), own_nv]
  omega
theorem own_z4 {b : Int32} (c : own_B b) : (nar .byte ((Int32.toInt8 b).toInt32)) &&& 7 = b &&& 7 := by
  apply Int32.toInt_inj.mp
  have h := own_bm b.toInt
  rw [Jvm.Kit.i32_mask _ 7 (k := 3) (by decide) (by decide), Jvm.Kit.i32_mask _ 7 (k := 3) (by decide) (by decide), own_nv]
  omega
theorem own_ctB (x p : Int32) : own_B (own_ct x p) := by
  rw [own_ct]
  split
  · have := Jvm.Kit.i32_mask x 255 (k := 8) (by decide) (by decide)
    unfold own_B; omega
  · have h := Jvm.Kit.i32_mask x 63 (k := 6) (by decide) (by decide)
    have hs : 2 * (x &&& 63).toBitVec.toNat < 2 ^ 32 ∧ (x &&& 63).toBitVec.toNat < 64 := by
      have e : (x &&& 63).toInt = if 2 * (x &&& 63).toBitVec.toNat < 2 ^ 32 then ((x &&& 63).toBitVec.toNat : Int) else ((x &&& 63).toBitVec.toNat : Int) - 2 ^ 32 := BitVec.toInt_eq_toNat_cond _
      have l := (x &&& 63).toBitVec.isLt
      split at e <;> omega
    have e2 : (128 ||| (x &&& 63)).toBitVec.toNat = 128 ||| (x &&& 63).toBitVec.toNat := by rw [Int32.toBitVec_or, BitVec.toNat_or]; rfl
    have l2 : (128 ||| (x &&& 63).toBitVec.toNat) < 2 ^ 8 := Nat.or_lt_two_pow (by decide) (by omega)
    have e3 : (128 ||| (x &&& 63)).toInt = if 2 * (128 ||| (x &&& 63)).toBitVec.toNat < 2 ^ 32 then ((128 ||| (x &&& 63)).toBitVec.toNat : Int) else ((128 ||| (x &&& 63)).toBitVec.toNat : Int) - 2 ^ 32 := BitVec.toInt_eq_toNat_cond _
    unfold own_B
    rw [e3, e2]
    split <;> omega
theorem own_m3 (z : Int32) : z &&& 3 = 0 ∨ z &&& 3 = 1 ∨ z &&& 3 = 2 ∨ z &&& 3 = 3 := by
  have h := Jvm.Kit.i32_mask z 3 (k := 2) (by decide) (by decide)
  rcases (by omega : (z &&& 3).toInt = 0 ∨ (z &&& 3).toInt = 1 ∨ (z &&& 3).toInt = 2 ∨ (z &&& 3).toInt = 3) with q | q | q | q
  · exact Or.inl (Int32.toInt_inj.mp q)
  · exact Or.inr (Or.inl (Int32.toInt_inj.mp q))
  · exact Or.inr (Or.inr (Or.inl (Int32.toInt_inj.mp q)))
  · exact Or.inr (Or.inr (Or.inr (Int32.toInt_inj.mp q)))
theorem own_at (x : Int32) : (XT.ushr x 2) &&& 3 = 0 ∨ (XT.ushr x 2) &&& 3 = 1 ∨ (XT.ushr x 2) &&& 3 = 2 ∨ (XT.ushr x 2) &&& 3 = 3 := own_m3 _
theorem own_fb1 (x : Int32) : own_B (own_fb 1 x) ∧ (own_fb 1 x).toInt < 128 := by
  rw [own_fb, if_pos rfl]
  have h := Jvm.Kit.i32_mask (x &&& 255) 127 (k := 7) (by decide) (by decide)
  unfold own_B; omega
theorem own_len (x0 x1 : Int32) : (x0 &&& 3) + 1 = 1 ∧ (own_fb ((x0 &&& 3) + 1) x1).toInt < 128 ∨ (x0 &&& 3) + 1 = 2 ∨ (x0 &&& 3) + 1 = 3 ∨ (x0 &&& 3) + 1 = 4 := by
  rcases own_m3 x0 with h | h | h | h <;> rw [h]
  · exact Or.inl ⟨rfl, (own_fb1 x1).2⟩
  · exact Or.inr (Or.inl rfl)
  · exact Or.inr (Or.inr (Or.inl rfl))
  · exact Or.inr (Or.inr (Or.inr rfl))
theorem own_fbB (x0 x1 : Int32) : own_B (own_fb ((x0 &&& 3) + 1) x1) := by
  have h255 := Jvm.Kit.i32_mask x1 255 (k := 8) (by decide) (by decide)
  rcases own_m3 x0 with h | h | h | h <;> rw [h]
  · exact (own_fb1 x1).1
  · show own_B (own_fb 2 x1)
    rw [own_fb, if_neg (by decide), if_pos rfl]
    have a := Jvm.Kit.i32_rem_nonneg (x := x1 &&& 255) (y := 30) (by omega)
    have e : (30 : Int32).toInt = 30 := by decide
    have e2 : (194 : Int32).toInt = 194 := by decide
    rw [e] at a
    unfold own_B
    rw [Jvm.Kit.i32_add (by omega) (by omega)]; omega
  · show own_B (own_fb 3 x1)
    rw [own_fb, if_neg (by decide), if_neg (by decide), if_pos rfl]
    have a := Jvm.Kit.i32_mask (x1 &&& 255) 15 (k := 4) (by decide) (by decide)
    have e2 : (224 : Int32).toInt = 224 := by decide
    unfold own_B
    rw [Jvm.Kit.i32_add (by omega) (by omega)]; omega
  · show own_B (own_fb 4 x1)
    rw [own_fb, if_neg (by decide), if_neg (by decide), if_neg (by decide)]
    have a := Jvm.Kit.i32_rem_nonneg (x := x1 &&& 255) (y := 5) (by omega)
    have e : (5 : Int32).toInt = 5 := by decide
    have e2 : (240 : Int32).toInt = 240 := by decide
    rw [e] at a
    unfold own_B
    rw [Jvm.Kit.i32_add (by omega) (by omega)]; omega
theorem go_t86_1_0 (K : Ctx) (hw : ∀ d ∈ tables_1, d.before K.2.2.1 K.2.1 = true) (x0 x1 x2 x3 x4 x5 b0 b1 b2 b3 w12 fv y0 y1 y2 y3 : Int32) (hf : nar .byte w12 = fv) (hy0 : nar .byte ((Int32.toInt8 b0).toInt32) = y0) (hy1 : nar .byte ((Int32.toInt8 b1).toInt32) = y1) (hy2 : nar .byte ((Int32.toInt8 b2).toInt32) = y2) (hy3 : nar .byte ((Int32.toInt8 b3).toInt32) = y3) (hz0 : y0 = b0) (hz1 : y1 &&& 255 = b1)  (hz2 : y2 &&& 255 = b2)  (hz3 : y3 &&& 255 = b3) : Go K m0 4 112 86 [.val (.int x0), .val (.int x1), .val (.int x2), .val (.int x3), .val (.int x4), .val (.int x5), .val (.int 1), .val (.int 0), .val (.int b0), .val (.int b1), .val (.int b2), .val (.int b3), .val (.int w12), .unset, .unset, .unset, .unset, .unset, .unset] [] [] (some (.int 1), none, 16, 128) := by
  refine Go.bipush d0_86 (v := 8) rfl ?_
  refine Go.newarray 8 d0_88 (hw _ (List.mem_of_getElem? (i := 7) rfl)) (t := .byte) rfl (by decide) (by decide) (by decide) (vs := [.int 0, .int 0, .int 0, .int 0, .int 0, .int 0, .int 0, .int 0]) rfl (i := 0) rfl 15 120 (by decide) (by decide) ?_
  show Go _ _ _ _ 90 [.val (.int x0), .val (.int x1), .val (.int x2), .val (.int x3), .val (.int x4), .val (.int x5), .val (.int 1), .val (.int 0), .val (.int b0), .val (.int b1), .val (.int b2), .val (.int b3), .val (.int w12), .unset, .unset, .unset, .unset, .unset, .unset] [.ref 0] [.inr (.byte, [.int 0, .int 0, .int 0, .int 0, .int 0, .int 0, .int 0, .int 0])] _
  refine Go.astore d0_90 (ls' := [.val (.int x0), .val (.int x1), .val (.int x2), .val (.int x3), .val (.int x4), .val (.int x5), .val (.int 1), .val (.int 0), .val (.int b0), .val (.int b1), .val (.int b2), .val (.int b3), .val (.int w12), .val (.ref 0), .unset, .unset, .unset, .unset, .unset]) rfl rfl ?_
  refine Go.aload d0_92 rfl rfl ?_
  refine Go.iconst d0_94 (v := 0) rfl ?_
  refine Go.iload d0_95 rfl ?_
  refine Go.bastore d0_97 rfl (by decide) (Nat.le_of_ble_eq_true rfl) (H1 := [.inr (.byte, [.int fv, .int 0, .int 0, .int 0, .int 0, .int 0, .int 0, .int 0])]) (by rw [hf]; rfl) ?_
  refine Go.aload d0_98 rfl rfl ?_
  refine Go.iconst d0_100 (v := 1) rfl ?_
  refine Go.iload d0_101 rfl ?_
  refine Go.bastore d0_103 rfl (by decide) (Nat.le_of_ble_eq_true rfl) (H1 := [.inr (.byte, [.int fv, .int fv, .int 0, .int 0, .int 0, .int 0, .int 0, .int 0])]) (by rw [hf]; rfl) ?_
  refine Go.aload d0_104 rfl rfl ?_
  refine Go.iconst d0_106 (v := 2) rfl ?_
  refine Go.iload d0_107 rfl ?_
  refine Go.bastore d0_109 rfl (by decide) (Nat.le_of_ble_eq_true rfl) (H1 := [.inr (.byte, [.int fv, .int fv, .int fv, .int 0, .int 0, .int 0, .int 0, .int 0])]) (by rw [hf]; rfl) ?_
  refine Go.aload d0_110 rfl rfl ?_
  refine Go.iconst d0_112 (v := 3) rfl ?_
  refine Go.iload d0_113 rfl ?_
  refine Go.bastore d0_115 rfl (by decide) (Nat.le_of_ble_eq_true rfl) (H1 := [.inr (.byte, [.int fv, .int fv, .int fv, .int fv, .int 0, .int 0, .int 0, .int 0])]) (by rw [hf]; rfl) ?_
  refine Go.aload d0_116 rfl rfl ?_
  refine Go.iconst d0_118 (v := 4) rfl ?_
  refine Go.iload d0_119 rfl ?_
  refine Go.bastore d0_121 rfl (by decide) (Nat.le_of_ble_eq_true rfl) (H1 := [.inr (.byte, [.int fv, .int fv, .int fv, .int fv, .int fv, .int 0, .int 0, .int 0])]) (by rw [hf]; rfl) ?_
  refine Go.aload d0_122 rfl rfl ?_
  refine Go.iconst d0_124 (v := 5) rfl ?_
  refine Go.iload d0_125 rfl ?_
  refine Go.bastore d0_127 rfl (by decide) (Nat.le_of_ble_eq_true rfl) (H1 := [.inr (.byte, [.int fv, .int fv, .int fv, .int fv, .int fv, .int fv, .int 0, .int 0])]) (by rw [hf]; rfl) ?_
  refine Go.aload d0_128 rfl rfl ?_
  refine Go.bipush d0_130 (v := 6) rfl ?_
  refine Go.iload d0_132 rfl ?_
  refine Go.bastore d0_134 rfl (by decide) (Nat.le_of_ble_eq_true rfl) (H1 := [.inr (.byte, [.int fv, .int fv, .int fv, .int fv, .int fv, .int fv, .int fv, .int 0])]) (by rw [hf]; rfl) ?_
  refine Go.aload d0_135 rfl rfl ?_
  refine Go.bipush d0_137 (v := 7) rfl ?_
  refine Go.iload d0_139 rfl ?_
  refine Go.bastore d0_141 rfl (by decide) (Nat.le_of_ble_eq_true rfl) (H1 := [.inr (.byte, [.int fv, .int fv, .int fv, .int fv, .int fv, .int fv, .int fv, .int fv])]) (by rw [hf]; rfl) ?_
  refine Go.aload d0_142 rfl rfl ?_
  refine Go.iload d0_144 rfl ?_
  refine Go.iload d0_146 rfl ?_
  refine Go.i2b d0_148 ?_
  refine Go.bastore d0_149 rfl (by decide) (Nat.le_of_ble_eq_true rfl) (H1 := [.inr (.byte, [.int y0, .int fv, .int fv, .int fv, .int fv, .int fv, .int fv, .int fv])]) (by rw [hy0]; rfl) ?_
  refine Go.iload d0_150 rfl ?_
  refine Go.iconst d0_152 (v := 2) rfl ?_
  refine Go.icmpT d0_153 j0_153 (XT.ii_lt_t (by decide)) ?_
  refine Go.iload d0_166 rfl ?_
  refine Go.iconst d0_168 (v := 3) rfl ?_
  refine Go.icmpT d0_169 j0_169 (XT.ii_lt_t (by decide)) ?_
  refine Go.iload d0_182 rfl ?_
  refine Go.iconst d0_184 (v := 4) rfl ?_
  refine Go.icmpT d0_185 j0_185 (XT.ii_lt_t (by decide)) ?_
  refine Go.iload d0_198 rfl ?_
  refine Go.bipush d0_200 (v := 63) rfl ?_
  refine Go.iand d0_202 ?_
  refine Go.istore d0_203 (ls' := [.val (.int x0), .val (.int x1), .val (.int x2), .val (.int x3), .val (.int x4), .val (.int x5), .val (.int 1), .val (.int 0), .val (.int b0), .val (.int b1), .val (.int b2), .val (.int b3), .val (.int w12), .val (.ref 0), .val (.int (b1 &&& 63)), .unset, .unset, .unset, .unset]) rfl ?_
  refine Go.iload d0_205 rfl ?_
  refine Go.bipush d0_207 (v := 63) rfl ?_
  refine Go.iand d0_209 ?_
  refine Go.istore d0_210 (ls' := [.val (.int x0), .val (.int x1), .val (.int x2), .val (.int x3), .val (.int x4), .val (.int x5), .val (.int 1), .val (.int 0), .val (.int b0), .val (.int b1), .val (.int b2), .val (.int b3), .val (.int w12), .val (.ref 0), .val (.int (b1 &&& 63)), .val (.int (b2 &&& 63)), .unset, .unset, .unset]) rfl ?_
  refine Go.iload d0_212 rfl ?_
  refine Go.bipush d0_214 (v := 63) rfl ?_
  refine Go.iand d0_216 ?_
  refine Go.istore d0_217 (ls' := [.val (.int x0), .val (.int x1), .val (.int x2), .val (.int x3), .val (.int x4), .val (.int x5), .val (.int 1), .val (.int 0), .val (.int b0), .val (.int b1), .val (.int b2), .val (.int b3), .val (.int w12), .val (.ref 0), .val (.int (b1 &&& 63)), .val (.int (b2 &&& 63)), .val (.int (b3 &&& 63)), .unset, .unset]) rfl ?_
  refine Go.iload d0_219 rfl ?_
  refine Go.iconst d0_221 (v := 1) rfl ?_
  refine Go.icmpF d0_222 (XT.ii_ne_f (by decide)) ?_
  refine Go.iload d0_225 rfl ?_
  refine Go.istore d0_227 (ls' := [.val (.int x0), .val (.int x1), .val (.int x2), .val (.int x3), .val (.int x4), .val (.int x5), .val (.int 1), .val (.int 0), .val (.int b0), .val (.int b1), .val (.int b2), .val (.int b3), .val (.int w12), .val (.ref 0), .val (.int (b1 &&& 63)), .val (.int (b2 &&& 63)), .val (.int (b3 &&& 63)), .val (.int b0), .unset]) rfl ?_
  refine Go.goto d0_229 j0_229 ?_
  refine Go.aload d0_402 rfl rfl ?_
  refine Go.iload d0_404 rfl ?_
  refine Go.iload d0_406 rfl ?_
  refine Go.callS (M' := m3) d0_408 (hw _ (List.mem_of_getElem? (i := 8) rfl)) (hw _ (List.mem_of_getElem? (i := 9) rfl)) (hw _ (List.mem_of_getElem? (i := 10) rfl)) (hw _ (List.mem_of_getElem? (i := 11) rfl)) mi3 (as := [.ref 0, .int 0, .int 1]) rfl rfl (st := []) rfl (ls1 := [.val (.ref 0), .val (.int 0), .val (.int 1), .unset, .unset, .unset, .unset]) rfl (W := 0) rfl (by decide) (by decide) (go_own_cp1 K hw _ 0 _ 0 y0 rfl (by decide) rfl) 15 120 (by decide) (by decide) ?_
  show Go _ _ _ _ 411 [.val (.int x0), .val (.int x1), .val (.int x2), .val (.int x3), .val (.int x4), .val (.int x5), .val (.int 1), .val (.int 0), .val (.int b0), .val (.int b1), .val (.int b2), .val (.int b3), .val (.int w12), .val (.ref 0), .val (.int (b1 &&& 63)), .val (.int (b2 &&& 63)), .val (.int (b3 &&& 63)), .val (.int b0), .unset] [.int (own_cp1 y0)] [.inr (.byte, [.int y0, .int fv, .int fv, .int fv, .int fv, .int fv, .int fv, .int fv])] _
  refine Go.iload d0_411 rfl ?_
  refine Go.icmpF d0_413 (XT.ii_ne_f (by rw [own_e1 hz0])) ?_
  refine Go.iconst d0_416 (v := 1) rfl ?_
  refine Go.goto d0_417 j0_417 ?_
  exact Go.ireturnZ d0_421 rfl (by decide) rfl HOk.any
theorem go_t86_1_1 (K : Ctx) (hw : ∀ d ∈ tables_1, d.before K.2.2.1 K.2.1 = true) (x0 x1 x2 x3 x4 x5 b0 b1 b2 b3 w12 fv y0 y1 y2 y3 : Int32) (hf : nar .byte w12 = fv) (hy0 : nar .byte ((Int32.toInt8 b0).toInt32) = y0) (hy1 : nar .byte ((Int32.toInt8 b1).toInt32) = y1) (hy2 : nar .byte ((Int32.toInt8 b2).toInt32) = y2) (hy3 : nar .byte ((Int32.toInt8 b3).toInt32) = y3) (hz0 : y0 = b0) (hz1 : y1 &&& 255 = b1)  (hz2 : y2 &&& 255 = b2)  (hz3 : y3 &&& 255 = b3) : Go K m0 4 112 86 [.val (.int x0), .val (.int x1), .val (.int x2), .val (.int x3), .val (.int x4), .val (.int x5), .val (.int 1), .val (.int 1), .val (.int b0), .val (.int b1), .val (.int b2), .val (.int b3), .val (.int w12), .unset, .unset, .unset, .unset, .unset, .unset] [] [] (some (.int 1), none, 16, 128) := by
  refine Go.bipush d0_86 (v := 8) rfl ?_
  refine Go.newarray 8 d0_88 (hw _ (List.mem_of_getElem? (i := 7) rfl)) (t := .byte) rfl (by decide) (by decide) (by decide) (vs := [.int 0, .int 0, .int 0, .int 0, .int 0, .int 0, .int 0, .int 0]) rfl (i := 0) rfl 15 120 (by decide) (by decide) ?_
  show Go _ _ _ _ 90 [.val (.int x0), .val (.int x1), .val (.int x2), .val (.int x3), .val (.int x4), .val (.int x5), .val (.int 1), .val (.int 1), .val (.int b0), .val (.int b1), .val (.int b2), .val (.int b3), .val (.int w12), .unset, .unset, .unset, .unset, .unset, .unset] [.ref 0] [.inr (.byte, [.int 0, .int 0, .int 0, .int 0, .int 0, .int 0, .int 0, .int 0])] _
  refine Go.astore d0_90 (ls' := [.val (.int x0), .val (.int x1), .val (.int x2), .val (.int x3), .val (.int x4), .val (.int x5), .val (.int 1), .val (.int 1), .val (.int b0), .val (.int b1), .val (.int b2), .val (.int b3), .val (.int w12), .val (.ref 0), .unset, .unset, .unset, .unset, .unset]) rfl rfl ?_
  refine Go.aload d0_92 rfl rfl ?_
  refine Go.iconst d0_94 (v := 0) rfl ?_
  refine Go.iload d0_95 rfl ?_
  refine Go.bastore d0_97 rfl (by decide) (Nat.le_of_ble_eq_true rfl) (H1 := [.inr (.byte, [.int fv, .int 0, .int 0, .int 0, .int 0, .int 0, .int 0, .int 0])]) (by rw [hf]; rfl) ?_
  refine Go.aload d0_98 rfl rfl ?_
  refine Go.iconst d0_100 (v := 1) rfl ?_
  refine Go.iload d0_101 rfl ?_
  refine Go.bastore d0_103 rfl (by decide) (Nat.le_of_ble_eq_true rfl) (H1 := [.inr (.byte, [.int fv, .int fv, .int 0, .int 0, .int 0, .int 0, .int 0, .int 0])]) (by rw [hf]; rfl) ?_
  refine Go.aload d0_104 rfl rfl ?_
  refine Go.iconst d0_106 (v := 2) rfl ?_
  refine Go.iload d0_107 rfl ?_
  refine Go.bastore d0_109 rfl (by decide) (Nat.le_of_ble_eq_true rfl) (H1 := [.inr (.byte, [.int fv, .int fv, .int fv, .int 0, .int 0, .int 0, .int 0, .int 0])]) (by rw [hf]; rfl) ?_
  refine Go.aload d0_110 rfl rfl ?_
  refine Go.iconst d0_112 (v := 3) rfl ?_
  refine Go.iload d0_113 rfl ?_
  refine Go.bastore d0_115 rfl (by decide) (Nat.le_of_ble_eq_true rfl) (H1 := [.inr (.byte, [.int fv, .int fv, .int fv, .int fv, .int 0, .int 0, .int 0, .int 0])]) (by rw [hf]; rfl) ?_
  refine Go.aload d0_116 rfl rfl ?_
  refine Go.iconst d0_118 (v := 4) rfl ?_
  refine Go.iload d0_119 rfl ?_
  refine Go.bastore d0_121 rfl (by decide) (Nat.le_of_ble_eq_true rfl) (H1 := [.inr (.byte, [.int fv, .int fv, .int fv, .int fv, .int fv, .int 0, .int 0, .int 0])]) (by rw [hf]; rfl) ?_
  refine Go.aload d0_122 rfl rfl ?_
  refine Go.iconst d0_124 (v := 5) rfl ?_
  refine Go.iload d0_125 rfl ?_
  refine Go.bastore d0_127 rfl (by decide) (Nat.le_of_ble_eq_true rfl) (H1 := [.inr (.byte, [.int fv, .int fv, .int fv, .int fv, .int fv, .int fv, .int 0, .int 0])]) (by rw [hf]; rfl) ?_
  refine Go.aload d0_128 rfl rfl ?_
  refine Go.bipush d0_130 (v := 6) rfl ?_
  refine Go.iload d0_132 rfl ?_
  refine Go.bastore d0_134 rfl (by decide) (Nat.le_of_ble_eq_true rfl) (H1 := [.inr (.byte, [.int fv, .int fv, .int fv, .int fv, .int fv, .int fv, .int fv, .int 0])]) (by rw [hf]; rfl) ?_
  refine Go.aload d0_135 rfl rfl ?_
  refine Go.bipush d0_137 (v := 7) rfl ?_
  refine Go.iload d0_139 rfl ?_
  refine Go.bastore d0_141 rfl (by decide) (Nat.le_of_ble_eq_true rfl) (H1 := [.inr (.byte, [.int fv, .int fv, .int fv, .int fv, .int fv, .int fv, .int fv, .int fv])]) (by rw [hf]; rfl) ?_
  refine Go.aload d0_142 rfl rfl ?_
  refine Go.iload d0_144 rfl ?_
  refine Go.iload d0_146 rfl ?_
  refine Go.i2b d0_148 ?_
  refine Go.bastore d0_149 rfl (by decide) (Nat.le_of_ble_eq_true rfl) (H1 := [.inr (.byte, [.int fv, .int y0, .int fv, .int fv, .int fv, .int fv, .int fv, .int fv])]) (by rw [hy0]; rfl) ?_
  refine Go.iload d0_150 rfl ?_
  refine Go.iconst d0_152 (v := 2) rfl ?_
  refine Go.icmpT d0_153 j0_153 (XT.ii_lt_t (by decide)) ?_
  refine Go.iload d0_166 rfl ?_
  refine Go.iconst d0_168 (v := 3) rfl ?_
  refine Go.icmpT d0_169 j0_169 (XT.ii_lt_t (by decide)) ?_
  refine Go.iload d0_182 rfl ?_
  refine Go.iconst d0_184 (v := 4) rfl ?_
  refine Go.icmpT d0_185 j0_185 (XT.ii_lt_t (by decide)) ?_
  refine Go.iload d0_198 rfl ?_
  refine Go.bipush d0_200 (v := 63) rfl ?_
  refine Go.iand d0_202 ?_
  refine Go.istore d0_203 (ls' := [.val (.int x0), .val (.int x1), .val (.int x2), .val (.int x3), .val (.int x4), .val (.int x5), .val (.int 1), .val (.int 1), .val (.int b0), .val (.int b1), .val (.int b2), .val (.int b3), .val (.int w12), .val (.ref 0), .val (.int (b1 &&& 63)), .unset, .unset, .unset, .unset]) rfl ?_
  refine Go.iload d0_205 rfl ?_
  refine Go.bipush d0_207 (v := 63) rfl ?_
  refine Go.iand d0_209 ?_
  refine Go.istore d0_210 (ls' := [.val (.int x0), .val (.int x1), .val (.int x2), .val (.int x3), .val (.int x4), .val (.int x5), .val (.int 1), .val (.int 1), .val (.int b0), .val (.int b1), .val (.int b2), .val (.int b3), .val (.int w12), .val (.ref 0), .val (.int (b1 &&& 63)), .val (.int (b2 &&& 63)), .unset, .unset, .unset]) rfl ?_
  refine Go.iload d0_212 rfl ?_
  refine Go.bipush d0_214 (v := 63) rfl ?_
  refine Go.iand d0_216 ?_
  refine Go.istore d0_217 (ls' := [.val (.int x0), .val (.int x1), .val (.int x2), .val (.int x3), .val (.int x4), .val (.int x5), .val (.int 1), .val (.int 1), .val (.int b0), .val (.int b1), .val (.int b2), .val (.int b3), .val (.int w12), .val (.ref 0), .val (.int (b1 &&& 63)), .val (.int (b2 &&& 63)), .val (.int (b3 &&& 63)), .unset, .unset]) rfl ?_
  refine Go.iload d0_219 rfl ?_
  refine Go.iconst d0_221 (v := 1) rfl ?_
  refine Go.icmpF d0_222 (XT.ii_ne_f (by decide)) ?_
  refine Go.iload d0_225 rfl ?_
  refine Go.istore d0_227 (ls' := [.val (.int x0), .val (.int x1), .val (.int x2), .val (.int x3), .val (.int x4), .val (.int x5), .val (.int 1), .val (.int 1), .val (.int b0), .val (.int b1), .val (.int b2), .val (.int b3), .val (.int w12), .val (.ref 0), .val (.int (b1 &&& 63)), .val (.int (b2 &&& 63)), .val (.int (b3 &&& 63)), .val (.int b0), .unset]) rfl ?_
  refine Go.goto d0_229 j0_229 ?_
  refine Go.aload d0_402 rfl rfl ?_
  refine Go.iload d0_404 rfl ?_
  refine Go.iload d0_406 rfl ?_
  refine Go.callS (M' := m3) d0_408 (hw _ (List.mem_of_getElem? (i := 8) rfl)) (hw _ (List.mem_of_getElem? (i := 9) rfl)) (hw _ (List.mem_of_getElem? (i := 10) rfl)) (hw _ (List.mem_of_getElem? (i := 11) rfl)) mi3 (as := [.ref 0, .int 1, .int 1]) rfl rfl (st := []) rfl (ls1 := [.val (.ref 0), .val (.int 1), .val (.int 1), .unset, .unset, .unset, .unset]) rfl (W := 0) rfl (by decide) (by decide) (go_own_cp1 K hw _ 0 _ 1 y0 rfl (by decide) rfl) 15 120 (by decide) (by decide) ?_
  show Go _ _ _ _ 411 [.val (.int x0), .val (.int x1), .val (.int x2), .val (.int x3), .val (.int x4), .val (.int x5), .val (.int 1), .val (.int 1), .val (.int b0), .val (.int b1), .val (.int b2), .val (.int b3), .val (.int w12), .val (.ref 0), .val (.int (b1 &&& 63)), .val (.int (b2 &&& 63)), .val (.int (b3 &&& 63)), .val (.int b0), .unset] [.int (own_cp1 y0)] [.inr (.byte, [.int fv, .int y0, .int fv, .int fv, .int fv, .int fv, .int fv, .int fv])] _
  refine Go.iload d0_411 rfl ?_
  refine Go.icmpF d0_413 (XT.ii_ne_f (by rw [own_e1 hz0])) ?_
  refine Go.iconst d0_416 (v := 1) rfl ?_
  refine Go.goto d0_417 j0_417 ?_
  exact Go.ireturnZ d0_421 rfl (by decide) rfl HOk.any
theorem go_t86_1_2 (K : Ctx) (hw : ∀ d ∈ tables_1, d.before K.2.2.1 K.2.1 = true) (x0 x1 x2 x3 x4 x5 b0 b1 b2 b3 w12 fv y0 y1 y2 y3 : Int32) (hf : nar .byte w12 = fv) (hy0 : nar .byte ((Int32.toInt8 b0).toInt32) = y0) (hy1 : nar .byte ((Int32.toInt8 b1).toInt32) = y1) (hy2 : nar .byte ((Int32.toInt8 b2).toInt32) = y2) (hy3 : nar .byte ((Int32.toInt8 b3).toInt32) = y3) (hz0 : y0 = b0) (hz1 : y1 &&& 255 = b1)  (hz2 : y2 &&& 255 = b2)  (hz3 : y3 &&& 255 = b3) : Go K m0 4 112 86 [.val (.int x0), .val (.int x1), .val (.int x2), .val (.int x3), .val (.int x4), .val (.int x5), .val (.int 1), .val (.int 2), .val (.int b0), .val (.int b1), .val (.int b2), .val (.int b3), .val (.int w12), .unset, .unset, .unset, .unset, .unset, .unset] [] [] (some (.int 1), none, 16, 128) := by
  refine Go.bipush d0_86 (v := 8) rfl ?_
  refine Go.newarray 8 d0_88 (hw _ (List.mem_of_getElem? (i := 7) rfl)) (t := .byte) rfl (by decide) (by decide) (by decide) (vs := [.int 0, .int 0, .int 0, .int 0, .int 0, .int 0, .int 0, .int 0]) rfl (i := 0) rfl 15 120 (by decide) (by decide) ?_
  show Go _ _ _ _ 90 [.val (.int x0), .val (.int x1), .val (.int x2), .val (.int x3), .val (.int x4), .val (.int x5), .val (.int 1), .val (.int 2), .val (.int b0), .val (.int b1), .val (.int b2), .val (.int b3), .val (.int w12), .unset, .unset, .unset, .unset, .unset, .unset] [.ref 0] [.inr (.byte, [.int 0, .int 0, .int 0, .int 0, .int 0, .int 0, .int 0, .int 0])] _
  refine Go.astore d0_90 (ls' := [.val (.int x0), .val (.int x1), .val (.int x2), .val (.int x3), .val (.int x4), .val (.int x5), .val (.int 1), .val (.int 2), .val (.int b0), .val (.int b1), .val (.int b2), .val (.int b3), .val (.int w12), .val (.ref 0), .unset, .unset, .unset, .unset, .unset]) rfl rfl ?_
  refine Go.aload d0_92 rfl rfl ?_
  refine Go.iconst d0_94 (v := 0) rfl ?_
  refine Go.iload d0_95 rfl ?_
  refine Go.bastore d0_97 rfl (by decide) (Nat.le_of_ble_eq_true rfl) (H1 := [.inr (.byte, [.int fv, .int 0, .int 0, .int 0, .int 0, .int 0, .int 0, .int 0])]) (by rw [hf]; rfl) ?_
  refine Go.aload d0_98 rfl rfl ?_
  refine Go.iconst d0_100 (v := 1) rfl ?_
  refine Go.iload d0_101 rfl ?_
  refine Go.bastore d0_103 rfl (by decide) (Nat.le_of_ble_eq_true rfl) (H1 := [.inr (.byte, [.int fv, .int fv, .int 0, .int 0, .int 0, .int 0, .int 0, .int 0])]) (by rw [hf]; rfl) ?_
  refine Go.aload d0_104 rfl rfl ?_
  refine Go.iconst d0_106 (v := 2) rfl ?_
  refine Go.iload d0_107 rfl ?_
  refine Go.bastore d0_109 rfl (by decide) (Nat.le_of_ble_eq_true rfl) (H1 := [.inr (.byte, [.int fv, .int fv, .int fv, .int 0, .int 0, .int 0, .int 0, .int 0])]) (by rw [hf]; rfl) ?_
  refine Go.aload d0_110 rfl rfl ?_
  refine Go.iconst d0_112 (v := 3) rfl ?_
  refine Go.iload d0_113 rfl ?_
  refine Go.bastore d0_115 rfl (by decide) (Nat.le_of_ble_eq_true rfl) (H1 := [.inr (.byte, [.int fv, .int fv, .int fv, .int fv, .int 0, .int 0, .int 0, .int 0])]) (by rw [hf]; rfl) ?_
  refine Go.aload d0_116 rfl rfl ?_
  refine Go.iconst d0_118 (v := 4) rfl ?_
  refine Go.iload d0_119 rfl ?_
  refine Go.bastore d0_121 rfl (by decide) (Nat.le_of_ble_eq_true rfl) (H1 := [.inr (.byte, [.int fv, .int fv, .int fv, .int fv, .int fv, .int 0, .int 0, .int 0])]) (by rw [hf]; rfl) ?_
  refine Go.aload d0_122 rfl rfl ?_
  refine Go.iconst d0_124 (v := 5) rfl ?_
  refine Go.iload d0_125 rfl ?_
  refine Go.bastore d0_127 rfl (by decide) (Nat.le_of_ble_eq_true rfl) (H1 := [.inr (.byte, [.int fv, .int fv, .int fv, .int fv, .int fv, .int fv, .int 0, .int 0])]) (by rw [hf]; rfl) ?_
  refine Go.aload d0_128 rfl rfl ?_
  refine Go.bipush d0_130 (v := 6) rfl ?_
  refine Go.iload d0_132 rfl ?_
  refine Go.bastore d0_134 rfl (by decide) (Nat.le_of_ble_eq_true rfl) (H1 := [.inr (.byte, [.int fv, .int fv, .int fv, .int fv, .int fv, .int fv, .int fv, .int 0])]) (by rw [hf]; rfl) ?_
  refine Go.aload d0_135 rfl rfl ?_
  refine Go.bipush d0_137 (v := 7) rfl ?_
  refine Go.iload d0_139 rfl ?_
  refine Go.bastore d0_141 rfl (by decide) (Nat.le_of_ble_eq_true rfl) (H1 := [.inr (.byte, [.int fv, .int fv, .int fv, .int fv, .int fv, .int fv, .int fv, .int fv])]) (by rw [hf]; rfl) ?_
  refine Go.aload d0_142 rfl rfl ?_
  refine Go.iload d0_144 rfl ?_
  refine Go.iload d0_146 rfl ?_
  refine Go.i2b d0_148 ?_
  refine Go.bastore d0_149 rfl (by decide) (Nat.le_of_ble_eq_true rfl) (H1 := [.inr (.byte, [.int fv, .int fv, .int y0, .int fv, .int fv, .int fv, .int fv, .int fv])]) (by rw [hy0]; rfl) ?_
  refine Go.iload d0_150 rfl ?_
  refine Go.iconst d0_152 (v := 2) rfl ?_
  refine Go.icmpT d0_153 j0_153 (XT.ii_lt_t (by decide)) ?_
  refine Go.iload d0_166 rfl ?_
  refine Go.iconst d0_168 (v := 3) rfl ?_
  refine Go.icmpT d0_169 j0_169 (XT.ii_lt_t (by decide)) ?_
  refine Go.iload d0_182 rfl ?_
  refine Go.iconst d0_184 (v := 4) rfl ?_
  refine Go.icmpT d0_185 j0_185 (XT.ii_lt_t (by decide)) ?_
  refine Go.iload d0_198 rfl ?_
  refine Go.bipush d0_200 (v := 63) rfl ?_
  refine Go.iand d0_202 ?_
  refine Go.istore d0_203 (ls' := [.val (.int x0), .val (.int x1), .val (.int x2), .val (.int x3), .val (.int x4), .val (.int x5), .val (.int 1), .val (.int 2), .val (.int b0), .val (.int b1), .val (.int b2), .val (.int b3), .val (.int w12), .val (.ref 0), .val (.int (b1 &&& 63)), .unset, .unset, .unset, .unset]) rfl ?_
  refine Go.iload d0_205 rfl ?_
  refine Go.bipush d0_207 (v := 63) rfl ?_
  refine Go.iand d0_209 ?_
  refine Go.istore d0_210 (ls' := [.val (.int x0), .val (.int x1), .val (.int x2), .val (.int x3), .val (.int x4), .val (.int x5), .val (.int 1), .val (.int 2), .val (.int b0), .val (.int b1), .val (.int b2), .val (.int b3), .val (.int w12), .val (.ref 0), .val (.int (b1 &&& 63)), .val (.int (b2 &&& 63)), .unset, .unset, .unset]) rfl ?_
  refine Go.iload d0_212 rfl ?_
  refine Go.bipush d0_214 (v := 63) rfl ?_
  refine Go.iand d0_216 ?_
  refine Go.istore d0_217 (ls' := [.val (.int x0), .val (.int x1), .val (.int x2), .val (.int x3), .val (.int x4), .val (.int x5), .val (.int 1), .val (.int 2), .val (.int b0), .val (.int b1), .val (.int b2), .val (.int b3), .val (.int w12), .val (.ref 0), .val (.int (b1 &&& 63)), .val (.int (b2 &&& 63)), .val (.int (b3 &&& 63)), .unset, .unset]) rfl ?_
  refine Go.iload d0_219 rfl ?_
  refine Go.iconst d0_221 (v := 1) rfl ?_
  refine Go.icmpF d0_222 (XT.ii_ne_f (by decide)) ?_
  refine Go.iload d0_225 rfl ?_
  refine Go.istore d0_227 (ls' := [.val (.int x0), .val (.int x1), .val (.int x2), .val (.int x3), .val (.int x4), .val (.int x5), .val (.int 1), .val (.int 2), .val (.int b0), .val (.int b1), .val (.int b2), .val (.int b3), .val (.int w12), .val (.ref 0), .val (.int (b1 &&& 63)), .val (.int (b2 &&& 63)), .val (.int (b3 &&& 63)), .val (.int b0), .unset]) rfl ?_
  refine Go.goto d0_229 j0_229 ?_
  refine Go.aload d0_402 rfl rfl ?_
  refine Go.iload d0_404 rfl ?_
  refine Go.iload d0_406 rfl ?_
  refine Go.callS (M' := m3) d0_408 (hw _ (List.mem_of_getElem? (i := 8) rfl)) (hw _ (List.mem_of_getElem? (i := 9) rfl)) (hw _ (List.mem_of_getElem? (i := 10) rfl)) (hw _ (List.mem_of_getElem? (i := 11) rfl)) mi3 (as := [.ref 0, .int 2, .int 1]) rfl rfl (st := []) rfl (ls1 := [.val (.ref 0), .val (.int 2), .val (.int 1), .unset, .unset, .unset, .unset]) rfl (W := 0) rfl (by decide) (by decide) (go_own_cp1 K hw _ 0 _ 2 y0 rfl (by decide) rfl) 15 120 (by decide) (by decide) ?_
  show Go _ _ _ _ 411 [.val (.int x0), .val (.int x1), .val (.int x2), .val (.int x3), .val (.int x4), .val (.int x5), .val (.int 1), .val (.int 2), .val (.int b0), .val (.int b1), .val (.int b2), .val (.int b3), .val (.int w12), .val (.ref 0), .val (.int (b1 &&& 63)), .val (.int (b2 &&& 63)), .val (.int (b3 &&& 63)), .val (.int b0), .unset] [.int (own_cp1 y0)] [.inr (.byte, [.int fv, .int fv, .int y0, .int fv, .int fv, .int fv, .int fv, .int fv])] _
  refine Go.iload d0_411 rfl ?_
  refine Go.icmpF d0_413 (XT.ii_ne_f (by rw [own_e1 hz0])) ?_
  refine Go.iconst d0_416 (v := 1) rfl ?_
  refine Go.goto d0_417 j0_417 ?_
  exact Go.ireturnZ d0_421 rfl (by decide) rfl HOk.any
theorem go_t86_1_3 (K : Ctx) (hw : ∀ d ∈ tables_1, d.before K.2.2.1 K.2.1 = true) (x0 x1 x2 x3 x4 x5 b0 b1 b2 b3 w12 fv y0 y1 y2 y3 : Int32) (hf : nar .byte w12 = fv) (hy0 : nar .byte ((Int32.toInt8 b0).toInt32) = y0) (hy1 : nar .byte ((Int32.toInt8 b1).toInt32) = y1) (hy2 : nar .byte ((Int32.toInt8 b2).toInt32) = y2) (hy3 : nar .byte ((Int32.toInt8 b3).toInt32) = y3) (hz0 : y0 = b0) (hz1 : y1 &&& 255 = b1)  (hz2 : y2 &&& 255 = b2)  (hz3 : y3 &&& 255 = b3) : Go K m0 4 112 86 [.val (.int x0), .val (.int x1), .val (.int x2), .val (.int x3), .val (.int x4), .val (.int x5), .val (.int 1), .val (.int 3), .val (.int b0), .val (.int b1), .val (.int b2), .val (.int b3), .val (.int w12), .unset, .unset, .unset, .unset, .unset, .unset] [] [] (some (.int 1), none, 16, 128) := by
  refine Go.bipush d0_86 (v := 8) rfl ?_
  refine Go.newarray 8 d0_88 (hw _ (List.mem_of_getElem? (i := 7) rfl)) (t := .byte) rfl (by decide) (by decide) (by decide) (vs := [.int 0, .int 0, .int 0, .int 0, .int 0, .int 0, .int 0, .int 0]) rfl (i := 0) rfl 15 120 (by decide) (by decide) ?_
  show Go _ _ _ _ 90 [.val (.int x0), .val (.int x1), .val (.int x2), .val (.int x3), .val (.int x4), .val (.int x5), .val (.int 1), .val (.int 3), .val (.int b0), .val (.int b1), .val (.int b2), .val (.int b3), .val (.int w12), .unset, .unset, .unset, .unset, .unset, .unset] [.ref 0] [.inr (.byte, [.int 0, .int 0, .int 0, .int 0, .int 0, .int 0, .int 0, .int 0])] _
  refine Go.astore d0_90 (ls' := [.val (.int x0), .val (.int x1), .val (.int x2), .val (.int x3), .val (.int x4), .val (.int x5), .val (.int 1), .val (.int 3), .val (.int b0), .val (.int b1), .val (.int b2), .val (.int b3), .val (.int w12), .val (.ref 0), .unset, .unset, .unset, .unset, .unset]) rfl rfl ?_
  refine Go.aload d0_92 rfl rfl ?_
  refine Go.iconst d0_94 (v := 0) rfl ?_
  refine Go.iload d0_95 rfl ?_
  refine Go.bastore d0_97 rfl (by decide) (Nat.le_of_ble_eq_true rfl) (H1 := [.inr (.byte, [.int fv, .int 0, .int 0, .int 0, .int 0, .int 0, .int 0, .int 0])]) (by rw [hf]; rfl) ?_
  refine Go.aload d0_98 rfl rfl ?_
  refine Go.iconst d0_100 (v := 1) rfl ?_
  refine Go.iload d0_101 rfl ?_
  refine Go.bastore d0_103 rfl (by decide) (Nat.le_of_ble_eq_true rfl) (H1 := [.inr (.byte, [.int fv, .int fv, .int 0, .int 0, .int 0, .int 0, .int 0, .int 0])]) (by rw [hf]; rfl) ?_
  refine Go.aload d0_104 rfl rfl ?_
  refine Go.iconst d0_106 (v := 2) rfl ?_
  refine Go.iload d0_107 rfl ?_
  refine Go.bastore d0_109 rfl (by decide) (Nat.le_of_ble_eq_true rfl) (H1 := [.inr (.byte, [.int fv, .int fv, .int fv, .int 0, .int 0, .int 0, .int 0, .int 0])]) (by rw [hf]; rfl) ?_
  refine Go.aload d0_110 rfl rfl ?_
  refine Go.iconst d0_112 (v := 3) rfl ?_
  refine Go.iload d0_113 rfl ?_
  refine Go.bastore d0_115 rfl (by decide) (Nat.le_of_ble_eq_true rfl) (H1 := [.inr (.byte, [.int fv, .int fv, .int fv, .int fv, .int 0, .int 0, .int 0, .int 0])]) (by rw [hf]; rfl) ?_
  refine Go.aload d0_116 rfl rfl ?_
  refine Go.iconst d0_118 (v := 4) rfl ?_
  refine Go.iload d0_119 rfl ?_
  refine Go.bastore d0_121 rfl (by decide) (Nat.le_of_ble_eq_true rfl) (H1 := [.inr (.byte, [.int fv, .int fv, .int fv, .int fv, .int fv, .int 0, .int 0, .int 0])]) (by rw [hf]; rfl) ?_
  refine Go.aload d0_122 rfl rfl ?_
  refine Go.iconst d0_124 (v := 5) rfl ?_
  refine Go.iload d0_125 rfl ?_
  refine Go.bastore d0_127 rfl (by decide) (Nat.le_of_ble_eq_true rfl) (H1 := [.inr (.byte, [.int fv, .int fv, .int fv, .int fv, .int fv, .int fv, .int 0, .int 0])]) (by rw [hf]; rfl) ?_
  refine Go.aload d0_128 rfl rfl ?_
  refine Go.bipush d0_130 (v := 6) rfl ?_
  refine Go.iload d0_132 rfl ?_
  refine Go.bastore d0_134 rfl (by decide) (Nat.le_of_ble_eq_true rfl) (H1 := [.inr (.byte, [.int fv, .int fv, .int fv, .int fv, .int fv, .int fv, .int fv, .int 0])]) (by rw [hf]; rfl) ?_
  refine Go.aload d0_135 rfl rfl ?_
  refine Go.bipush d0_137 (v := 7) rfl ?_
  refine Go.iload d0_139 rfl ?_
  refine Go.bastore d0_141 rfl (by decide) (Nat.le_of_ble_eq_true rfl) (H1 := [.inr (.byte, [.int fv, .int fv, .int fv, .int fv, .int fv, .int fv, .int fv, .int fv])]) (by rw [hf]; rfl) ?_
  refine Go.aload d0_142 rfl rfl ?_
  refine Go.iload d0_144 rfl ?_
  refine Go.iload d0_146 rfl ?_
  refine Go.i2b d0_148 ?_
  refine Go.bastore d0_149 rfl (by decide) (Nat.le_of_ble_eq_true rfl) (H1 := [.inr (.byte, [.int fv, .int fv, .int fv, .int y0, .int fv, .int fv, .int fv, .int fv])]) (by rw [hy0]; rfl) ?_
  refine Go.iload d0_150 rfl ?_
  refine Go.iconst d0_152 (v := 2) rfl ?_
  refine Go.icmpT d0_153 j0_153 (XT.ii_lt_t (by decide)) ?_
  refine Go.iload d0_166 rfl ?_
  refine Go.iconst d0_168 (v := 3) rfl ?_
  refine Go.icmpT d0_169 j0_169 (XT.ii_lt_t (by decide)) ?_
  refine Go.iload d0_182 rfl ?_
  refine Go.iconst d0_184 (v := 4) rfl ?_
  refine Go.icmpT d0_185 j0_185 (XT.ii_lt_t (by decide)) ?_
  refine Go.iload d0_198 rfl ?_
  refine Go.bipush d0_200 (v := 63) rfl ?_
  refine Go.iand d0_202 ?_
  refine Go.istore d0_203 (ls' := [.val (.int x0), .val (.int x1), .val (.int x2), .val (.int x3), .val (.int x4), .val (.int x5), .val (.int 1), .val (.int 3), .val (.int b0), .val (.int b1), .val (.int b2), .val (.int b3), .val (.int w12), .val (.ref 0), .val (.int (b1 &&& 63)), .unset, .unset, .unset, .unset]) rfl ?_
  refine Go.iload d0_205 rfl ?_
  refine Go.bipush d0_207 (v := 63) rfl ?_
  refine Go.iand d0_209 ?_
  refine Go.istore d0_210 (ls' := [.val (.int x0), .val (.int x1), .val (.int x2), .val (.int x3), .val (.int x4), .val (.int x5), .val (.int 1), .val (.int 3), .val (.int b0), .val (.int b1), .val (.int b2), .val (.int b3), .val (.int w12), .val (.ref 0), .val (.int (b1 &&& 63)), .val (.int (b2 &&& 63)), .unset, .unset, .unset]) rfl ?_
  refine Go.iload d0_212 rfl ?_
  refine Go.bipush d0_214 (v := 63) rfl ?_
  refine Go.iand d0_216 ?_
  refine Go.istore d0_217 (ls' := [.val (.int x0), .val (.int x1), .val (.int x2), .val (.int x3), .val (.int x4), .val (.int x5), .val (.int 1), .val (.int 3), .val (.int b0), .val (.int b1), .val (.int b2), .val (.int b3), .val (.int w12), .val (.ref 0), .val (.int (b1 &&& 63)), .val (.int (b2 &&& 63)), .val (.int (b3 &&& 63)), .unset, .unset]) rfl ?_
  refine Go.iload d0_219 rfl ?_
  refine Go.iconst d0_221 (v := 1) rfl ?_
  refine Go.icmpF d0_222 (XT.ii_ne_f (by decide)) ?_
  refine Go.iload d0_225 rfl ?_
  refine Go.istore d0_227 (ls' := [.val (.int x0), .val (.int x1), .val (.int x2), .val (.int x3), .val (.int x4), .val (.int x5), .val (.int 1), .val (.int 3), .val (.int b0), .val (.int b1), .val (.int b2), .val (.int b3), .val (.int w12), .val (.ref 0), .val (.int (b1 &&& 63)), .val (.int (b2 &&& 63)), .val (.int (b3 &&& 63)), .val (.int b0), .unset]) rfl ?_
  refine Go.goto d0_229 j0_229 ?_
  refine Go.aload d0_402 rfl rfl ?_
  refine Go.iload d0_404 rfl ?_
  refine Go.iload d0_406 rfl ?_
  refine Go.callS (M' := m3) d0_408 (hw _ (List.mem_of_getElem? (i := 8) rfl)) (hw _ (List.mem_of_getElem? (i := 9) rfl)) (hw _ (List.mem_of_getElem? (i := 10) rfl)) (hw _ (List.mem_of_getElem? (i := 11) rfl)) mi3 (as := [.ref 0, .int 3, .int 1]) rfl rfl (st := []) rfl (ls1 := [.val (.ref 0), .val (.int 3), .val (.int 1), .unset, .unset, .unset, .unset]) rfl (W := 0) rfl (by decide) (by decide) (go_own_cp1 K hw _ 0 _ 3 y0 rfl (by decide) rfl) 15 120 (by decide) (by decide) ?_
  show Go _ _ _ _ 411 [.val (.int x0), .val (.int x1), .val (.int x2), .val (.int x3), .val (.int x4), .val (.int x5), .val (.int 1), .val (.int 3), .val (.int b0), .val (.int b1), .val (.int b2), .val (.int b3), .val (.int w12), .val (.ref 0), .val (.int (b1 &&& 63)), .val (.int (b2 &&& 63)), .val (.int (b3 &&& 63)), .val (.int b0), .unset] [.int (own_cp1 y0)] [.inr (.byte, [.int fv, .int fv, .int fv, .int y0, .int fv, .int fv, .int fv, .int fv])] _
  refine Go.iload d0_411 rfl ?_
  refine Go.icmpF d0_413 (XT.ii_ne_f (by rw [own_e1 hz0])) ?_
  refine Go.iconst d0_416 (v := 1) rfl ?_
  refine Go.goto d0_417 j0_417 ?_
  exact Go.ireturnZ d0_421 rfl (by decide) rfl HOk.any
theorem go_t86_2_0 (K : Ctx) (hw : ∀ d ∈ tables_1, d.before K.2.2.1 K.2.1 = true) (x0 x1 x2 x3 x4 x5 b0 b1 b2 b3 w12 fv y0 y1 y2 y3 : Int32) (hf : nar .byte w12 = fv) (hy0 : nar .byte ((Int32.toInt8 b0).toInt32) = y0) (hy1 : nar .byte ((Int32.toInt8 b1).toInt32) = y1) (hy2 : nar .byte ((Int32.toInt8 b2).toInt32) = y2) (hy3 : nar .byte ((Int32.toInt8 b3).toInt32) = y3) (hz0 : y0 &&& 31 = b0 &&& 31) (hz1 : y1 &&& 255 = b1)  (hz2 : y2 &&& 255 = b2)  (hz3 : y3 &&& 255 = b3) : Go K m0 4 112 86 [.val (.int x0), .val (.int x1), .val (.int x2), .val (.int x3), .val (.int x4), .val (.int x5), .val (.int 2), .val (.int 0), .val (.int b0), .val (.int b1), .val (.int b2), .val (.int b3), .val (.int w12), .unset, .unset, .unset, .unset, .unset, .unset] [] [] (some (.int 1), none, 16, 128) := by
  refine Go.bipush d0_86 (v := 8) rfl ?_
  refine Go.newarray 8 d0_88 (hw _ (List.mem_of_getElem? (i := 7) rfl)) (t := .byte) rfl (by decide) (by decide) (by decide) (vs := [.int 0, .int 0, .int 0, .int 0, .int 0, .int 0, .int 0, .int 0]) rfl (i := 0) rfl 15 120 (by decide) (by decide) ?_
  show Go _ _ _ _ 90 [.val (.int x0), .val (.int x1), .val (.int x2), .val (.int x3), .val (.int x4), .val (.int x5), .val (.int 2), .val (.int 0), .val (.int b0), .val (.int b1), .val (.int b2), .val (.int b3), .val (.int w12), .unset, .unset, .unset, .unset, .unset, .unset] [.ref 0] [.inr (.byte, [.int 0, .int 0, .int 0, .int 0, .int 0, .int 0, .int 0, .int 0])] _
  refine Go.astore d0_90 (ls' := [.val (.int x0), .val (.int x1), .val (.int x2), .val (.int x3), .val (.int x4), .val (.int x5), .val (.int 2), .val (.int 0), .val (.int b0), .val (.int b1), .val (.int b2), .val (.int b3), .val (.int w12), .val (.ref 0), .unset, .unset, .unset, .unset, .unset]) rfl rfl ?_
  refine Go.aload d0_92 rfl rfl ?_
  refine Go.iconst d0_94 (v := 0) rfl ?_
  refine Go.iload d0_95 rfl ?_
  refine Go.bastore d0_97 rfl (by decide) (Nat.le_of_ble_eq_true rfl) (H1 := [.inr (.byte, [.int fv, .int 0, .int 0, .int 0, .int 0, .int 0, .int 0, .int 0])]) (by rw [hf]; rfl) ?_
  refine Go.aload d0_98 rfl rfl ?_
  refine Go.iconst d0_100 (v := 1) rfl ?_
  refine Go.iload d0_101 rfl ?_
  refine Go.bastore d0_103 rfl (by decide) (Nat.le_of_ble_eq_true rfl) (H1 := [.inr (.byte, [.int fv, .int fv, .int 0, .int 0, .int 0, .int 0, .int 0, .int 0])]) (by rw [hf]; rfl) ?_
  refine Go.aload d0_104 rfl rfl ?_
  refine Go.iconst d0_106 (v := 2) rfl ?_
  refine Go.iload d0_107 rfl ?_
  refine Go.bastore d0_109 rfl (by decide) (Nat.le_of_ble_eq_true rfl) (H1 := [.inr (.byte, [.int fv, .int fv, .int fv, .int 0, .int 0, .int 0, .int 0, .int 0])]) (by rw [hf]; rfl) ?_
  refine Go.aload d0_110 rfl rfl ?_
  refine Go.iconst d0_112 (v := 3) rfl ?_
  refine Go.iload d0_113 rfl ?_
  refine Go.bastore d0_115 rfl (by decide) (Nat.le_of_ble_eq_true rfl) (H1 := [.inr (.byte, [.int fv, .int fv, .int fv, .int fv, .int 0, .int 0, .int 0, .int 0])]) (by rw [hf]; rfl) ?_
  refine Go.aload d0_116 rfl rfl ?_
  refine Go.iconst d0_118 (v := 4) rfl ?_
  refine Go.iload d0_119 rfl ?_
  refine Go.bastore d0_121 rfl (by decide) (Nat.le_of_ble_eq_true rfl) (H1 := [.inr (.byte, [.int fv, .int fv, .int fv, .int fv, .int fv, .int 0, .int 0, .int 0])]) (by rw [hf]; rfl) ?_
  refine Go.aload d0_122 rfl rfl ?_
  refine Go.iconst d0_124 (v := 5) rfl ?_
  refine Go.iload d0_125 rfl ?_
  refine Go.bastore d0_127 rfl (by decide) (Nat.le_of_ble_eq_true rfl) (H1 := [.inr (.byte, [.int fv, .int fv, .int fv, .int fv, .int fv, .int fv, .int 0, .int 0])]) (by rw [hf]; rfl) ?_
  refine Go.aload d0_128 rfl rfl ?_
  refine Go.bipush d0_130 (v := 6) rfl ?_
  refine Go.iload d0_132 rfl ?_
  refine Go.bastore d0_134 rfl (by decide) (Nat.le_of_ble_eq_true rfl) (H1 := [.inr (.byte, [.int fv, .int fv, .int fv, .int fv, .int fv, .int fv, .int fv, .int 0])]) (by rw [hf]; rfl) ?_
  refine Go.aload d0_135 rfl rfl ?_
  refine Go.bipush d0_137 (v := 7) rfl ?_
  refine Go.iload d0_139 rfl ?_
  refine Go.bastore d0_141 rfl (by decide) (Nat.le_of_ble_eq_true rfl) (H1 := [.inr (.byte, [.int fv, .int fv, .int fv, .int fv, .int fv, .int fv, .int fv, .int fv])]) (by rw [hf]; rfl) ?_
  refine Go.aload d0_142 rfl rfl ?_
  refine Go.iload d0_144 rfl ?_
  refine Go.iload d0_146 rfl ?_
  refine Go.i2b d0_148 ?_
  refine Go.bastore d0_149 rfl (by decide) (Nat.le_of_ble_eq_true rfl) (H1 := [.inr (.byte, [.int y0, .int fv, .int fv, .int fv, .int fv, .int fv, .int fv, .int fv])]) (by rw [hy0]; rfl) ?_
  refine Go.iload d0_150 rfl ?_
  refine Go.iconst d0_152 (v := 2) rfl ?_
  refine Go.icmpF d0_153 (XT.ii_lt_f (by decide)) ?_
  refine Go.aload d0_156 rfl rfl ?_
  refine Go.iload d0_158 rfl ?_
  refine Go.iconst d0_160 (v := 1) rfl ?_
  refine Go.iadd d0_161 ?_
  show Go _ _ _ _ 162 [.val (.int x0), .val (.int x1), .val (.int x2), .val (.int x3), .val (.int x4), .val (.int x5), .val (.int 2), .val (.int 0), .val (.int b0), .val (.int b1), .val (.int b2), .val (.int b3), .val (.int w12), .val (.ref 0), .unset, .unset, .unset, .unset, .unset] [.int 1, .ref 0] [.inr (.byte, [.int y0, .int fv, .int fv, .int fv, .int fv, .int fv, .int fv, .int fv])] _
  refine Go.iload d0_162 rfl ?_
  refine Go.i2b d0_164 ?_
  refine Go.bastore d0_165 rfl (by decide) (Nat.le_of_ble_eq_true rfl) (H1 := [.inr (.byte, [.int y0, .int y1, .int fv, .int fv, .int fv, .int fv, .int fv, .int fv])]) (by rw [hy1]; rfl) ?_
  refine Go.iload d0_166 rfl ?_
  refine Go.iconst d0_168 (v := 3) rfl ?_
  refine Go.icmpT d0_169 j0_169 (XT.ii_lt_t (by decide)) ?_
  refine Go.iload d0_182 rfl ?_
  refine Go.iconst d0_184 (v := 4) rfl ?_
  refine Go.icmpT d0_185 j0_185 (XT.ii_lt_t (by decide)) ?_
  refine Go.iload d0_198 rfl ?_
  refine Go.bipush d0_200 (v := 63) rfl ?_
  refine Go.iand d0_202 ?_
  refine Go.istore d0_203 (ls' := [.val (.int x0), .val (.int x1), .val (.int x2), .val (.int x3), .val (.int x4), .val (.int x5), .val (.int 2), .val (.int 0), .val (.int b0), .val (.int b1), .val (.int b2), .val (.int b3), .val (.int w12), .val (.ref 0), .val (.int (b1 &&& 63)), .unset, .unset, .unset, .unset]) rfl ?_
  refine Go.iload d0_205 rfl ?_
  refine Go.bipush d0_207 (v := 63) rfl ?_
  refine Go.iand d0_209 ?_
  refine Go.istore d0_210 (ls' := [.val (.int x0), .val (.int x1), .val (.int x2), .val (.int x3), .val (.int x4), .val (.int x5), .val (.int 2), .val (.int 0), .val (.int b0), .val (.int b1), .val (.int b2), .val (.int b3), .val (.int w12), .val (.ref 0), .val (.int (b1 &&& 63)), .val (.int (b2 &&& 63)), .unset, .unset, .unset]) rfl ?_
  refine Go.iload d0_212 rfl ?_
  refine Go.bipush d0_214 (v := 63) rfl ?_
  refine Go.iand d0_216 ?_
  refine Go.istore d0_217 (ls' := [.val (.int x0), .val (.int x1), .val (.int x2), .val (.int x3), .val (.int x4), .val (.int x5), .val (.int 2), .val (.int 0), .val (.int b0), .val (.int b1), .val (.int b2), .val (.int b3), .val (.int w12), .val (.ref 0), .val (.int (b1 &&& 63)), .val (.int (b2 &&& 63)), .val (.int (b3 &&& 63)), .unset, .unset]) rfl ?_
  refine Go.iload d0_219 rfl ?_
  refine Go.iconst d0_221 (v := 1) rfl ?_
  refine Go.icmpT d0_222 j0_222 (XT.ii_ne_t (by decide)) ?_
  refine Go.iload d0_232 rfl ?_
  refine Go.iconst d0_234 (v := 2) rfl ?_
  refine Go.icmpF d0_235 (XT.ii_ne_f (by decide)) ?_
  refine Go.iload d0_238 rfl ?_
  refine Go.bipush d0_240 (v := 31) rfl ?_
  refine Go.iand d0_242 ?_
  refine Go.bipush d0_243 (v := 6) rfl ?_
  refine Go.ishl d0_245 ?_
  refine Go.iload d0_246 rfl ?_
  refine Go.ior d0_248 ?_
  refine Go.istore d0_249 (ls' := [.val (.int x0), .val (.int x1), .val (.int x2), .val (.int x3), .val (.int x4), .val (.int x5), .val (.int 2), .val (.int 0), .val (.int b0), .val (.int b1), .val (.int b2), .val (.int b3), .val (.int w12), .val (.ref 0), .val (.int (b1 &&& 63)), .val (.int (b2 &&& 63)), .val (.int (b3 &&& 63)), .unset, .val (.int (((b0 &&& 31) <<< (6 &&& 31)) ||| (b1 &&& 63)))]) rfl ?_
  refine Go.iload d0_251 rfl ?_
  refine Go.callS (M' := m4) d0_253 (hw _ (List.mem_of_getElem? (i := 13) rfl)) (hw _ (List.mem_of_getElem? (i := 14) rfl)) (hw _ (List.mem_of_getElem? (i := 2) rfl)) (hw _ (List.mem_of_getElem? (i := 15) rfl)) mi4 (as := [.int b1]) rfl rfl (st := []) rfl (ls1 := [.val (.int b1)]) rfl (W := 0) rfl (by decide) (by decide) (go_own_ic K hw b1 _) 15 120 (by decide) (by decide) ?_
  show Go _ _ _ _ 256 [.val (.int x0), .val (.int x1), .val (.int x2), .val (.int x3), .val (.int x4), .val (.int x5), .val (.int 2), .val (.int 0), .val (.int b0), .val (.int b1), .val (.int b2), .val (.int b3), .val (.int w12), .val (.ref 0), .val (.int (b1 &&& 63)), .val (.int (b2 &&& 63)), .val (.int (b3 &&& 63)), .unset, .val (.int (((b0 &&& 31) <<< (6 &&& 31)) ||| (b1 &&& 63)))] [.int (own_ic b1)] [.inr (.byte, [.int y0, .int y1, .int fv, .int fv, .int fv, .int fv, .int fv, .int fv])] _
  refine Go.if_eq d0_256 j0_256 (fun h256 => ?_) (fun h256 => ?_)
  · -- pc 256 taken
    refine Go.iconst d0_272 (v := (-1)) rfl ?_
    refine Go.istore d0_273 (ls' := [.val (.int x0), .val (.int x1), .val (.int x2), .val (.int x3), .val (.int x4), .val (.int x5), .val (.int 2), .val (.int 0), .val (.int b0), .val (.int b1), .val (.int b2), .val (.int b3), .val (.int w12), .val (.ref 0), .val (.int (b1 &&& 63)), .val (.int (b2 &&& 63)), .val (.int (b3 &&& 63)), .val (.int (-1)), .val (.int (((b0 &&& 31) <<< (6 &&& 31)) ||| (b1 &&& 63)))]) rfl ?_
    refine Go.goto d0_275 j0_275 ?_
    refine Go.aload d0_402 rfl rfl ?_
    refine Go.iload d0_404 rfl ?_
    refine Go.iload d0_406 rfl ?_
    refine Go.callS (M' := m3) d0_408 (hw _ (List.mem_of_getElem? (i := 8) rfl)) (hw _ (List.mem_of_getElem? (i := 9) rfl)) (hw _ (List.mem_of_getElem? (i := 10) rfl)) (hw _ (List.mem_of_getElem? (i := 11) rfl)) mi3 (as := [.ref 0, .int 0, .int 2]) rfl rfl (st := []) rfl (ls1 := [.val (.ref 0), .val (.int 0), .val (.int 2), .unset, .unset, .unset, .unset]) rfl (W := 0) rfl (by decide) (by decide) (go_own_cp2 K hw _ 0 _ 0 y0 y1 rfl (by decide) rfl (by decide) rfl) 15 120 (by decide) (by decide) ?_
    show Go _ _ _ _ 411 [.val (.int x0), .val (.int x1), .val (.int x2), .val (.int x3), .val (.int x4), .val (.int x5), .val (.int 2), .val (.int 0), .val (.int b0), .val (.int b1), .val (.int b2), .val (.int b3), .val (.int w12), .val (.ref 0), .val (.int (b1 &&& 63)), .val (.int (b2 &&& 63)), .val (.int (b3 &&& 63)), .val (.int (-1)), .val (.int (((b0 &&& 31) <<< (6 &&& 31)) ||| (b1 &&& 63)))] [.int (own_cp2 y0 y1)] [.inr (.byte, [.int y0, .int y1, .int fv, .int fv, .int fv, .int fv, .int fv, .int fv])] _
    refine Go.iload d0_411 rfl ?_
    refine Go.icmpF d0_413 (XT.ii_ne_f (by rw [own_e2 hz0 hz1, if_pos h256])) ?_
    refine Go.iconst d0_416 (v := 1) rfl ?_
    refine Go.goto d0_417 j0_417 ?_
    exact Go.ireturnZ d0_421 rfl (by decide) rfl HOk.any
  · -- pc 256 not taken
    refine Go.iload d0_259 rfl ?_
    refine Go.sipush d0_261 (v := 128) rfl ?_
    refine Go.icmp_lt d0_264 j0_264 (fun h264 => ?_) (fun h264 => ?_)
    · -- pc 264 taken
      refine Go.iconst d0_272 (v := (-1)) rfl ?_
      refine Go.istore d0_273 (ls' := [.val (.int x0), .val (.int x1), .val (.int x2), .val (.int x3), .val (.int x4), .val (.int x5), .val (.int 2), .val (.int 0), .val (.int b0), .val (.int b1), .val (.int b2), .val (.int b3), .val (.int w12), .val (.ref 0), .val (.int (b1 &&& 63)), .val (.int (b2 &&& 63)), .val (.int (b3 &&& 63)), .val (.int (-1)), .val (.int (((b0 &&& 31) <<< (6 &&& 31)) ||| (b1 &&& 63)))]) rfl ?_
      refine Go.goto d0_275 j0_275 ?_
      refine Go.aload d0_402 rfl rfl ?_
      refine Go.iload d0_404 rfl ?_
      refine Go.iload d0_406 rfl ?_
      refine Go.callS (M' := m3) d0_408 (hw _ (List.mem_of_getElem? (i := 8) rfl)) (hw _ (List.mem_of_getElem? (i := 9) rfl)) (hw _ (List.mem_of_getElem? (i := 10) rfl)) (hw _ (List.mem_of_getElem? (i := 11) rfl)) mi3 (as := [.ref 0, .int 0, .int 2]) rfl rfl (st := []) rfl (ls1 := [.val (.ref 0), .val (.int 0), .val (.int 2), .unset, .unset, .unset, .unset]) rfl (W := 0) rfl (by decide) (by decide) (go_own_cp2 K hw _ 0 _ 0 y0 y1 rfl (by decide) rfl (by decide) rfl) 15 120 (by decide) (by decide) ?_
      show Go _ _ _ _ 411 [.val (.int x0), .val (.int x1), .val (.int x2), .val (.int x3), .val (.int x4), .val (.int x5), .val (.int 2), .val (.int 0), .val (.int b0), .val (.int b1), .val (.int b2), .val (.int b3), .val (.int w12), .val (.ref 0), .val (.int (b1 &&& 63)), .val (.int (b2 &&& 63)), .val (.int (b3 &&& 63)), .val (.int (-1)), .val (.int (((b0 &&& 31) <<< (6 &&& 31)) ||| (b1 &&& 63)))] [.int (own_cp2 y0 y1)] [.inr (.byte, [.int y0, .int y1, .int fv, .int fv, .int fv, .int fv, .int fv, .int fv])] _
      refine Go.iload d0_411 rfl ?_
      refine Go.icmpF d0_413 (XT.ii_ne_f (by rw [own_e2 hz0 hz1, if_neg h256, if_pos h264])) ?_
      refine Go.iconst d0_416 (v := 1) rfl ?_
      refine Go.goto d0_417 j0_417 ?_
      exact Go.ireturnZ d0_421 rfl (by decide) rfl HOk.any
    · -- pc 264 not taken
      refine Go.iload d0_267 rfl ?_
      refine Go.goto d0_269 j0_269 ?_
      refine Go.istore d0_273 (ls' := [.val (.int x0), .val (.int x1), .val (.int x2), .val (.int x3), .val (.int x4), .val (.int x5), .val (.int 2), .val (.int 0), .val (.int b0), .val (.int b1), .val (.int b2), .val (.int b3), .val (.int w12), .val (.ref 0), .val (.int (b1 &&& 63)), .val (.int (b2 &&& 63)), .val (.int (b3 &&& 63)), .val (.int (((b0 &&& 31) <<< (6 &&& 31)) ||| (b1 &&& 63))), .val (.int (((b0 &&& 31) <<< (6 &&& 31)) ||| (b1 &&& 63)))]) rfl ?_
      refine Go.goto d0_275 j0_275 ?_
      refine Go.aload d0_402 rfl rfl ?_
      refine Go.iload d0_404 rfl ?_
      refine Go.iload d0_406 rfl ?_
      refine Go.callS (M' := m3) d0_408 (hw _ (List.mem_of_getElem? (i := 8) rfl)) (hw _ (List.mem_of_getElem? (i := 9) rfl)) (hw _ (List.mem_of_getElem? (i := 10) rfl)) (hw _ (List.mem_of_getElem? (i := 11) rfl)) mi3 (as := [.ref 0, .int 0, .int 2]) rfl rfl (st := []) rfl (ls1 := [.val (.ref 0), .val (.int 0), .val (.int 2), .unset, .unset, .unset, .unset]) rfl (W := 0) rfl (by decide) (by decide) (go_own_cp2 K hw _ 0 _ 0 y0 y1 rfl (by decide) rfl (by decide) rfl) 15 120 (by decide) (by decide) ?_
      show Go _ _ _ _ 411 [.val (.int x0), .val (.int x1), .val (.int x2), .val (.int x3), .val (.int x4), .val (.int x5), .val (.int 2), .val (.int 0), .val (.int b0), .val (.int b1), .val (.int b2), .val (.int b3), .val (.int w12), .val (.ref 0), .val (.int (b1 &&& 63)), .val (.int (b2 &&& 63)), .val (.int (b3 &&& 63)), .val (.int (((b0 &&& 31) <<< (6 &&& 31)) ||| (b1 &&& 63))), .val (.int (((b0 &&& 31) <<< (6 &&& 31)) ||| (b1 &&& 63)))] [.int (own_cp2 y0 y1)] [.inr (.byte, [.int y0, .int y1, .int fv, .int fv, .int fv, .int fv, .int fv, .int fv])] _
      refine Go.iload d0_411 rfl ?_
      refine Go.icmpF d0_413 (XT.ii_ne_f (by rw [own_e2 hz0 hz1, if_neg h256, if_neg h264])) ?_
      refine Go.iconst d0_416 (v := 1) rfl ?_
      refine Go.goto d0_417 j0_417 ?_
      exact Go.ireturnZ d0_421 rfl (by decide) rfl HOk.any
theorem go_t86_2_1 (K : Ctx) (hw : ∀ d ∈ tables_1, d.before K.2.2.1 K.2.1 = true) (x0 x1 x2 x3 x4 x5 b0 b1 b2 b3 w12 fv y0 y1 y2 y3 : Int32) (hf : nar .byte w12 = fv) (hy0 : nar .byte ((Int32.toInt8 b0).toInt32) = y0) (hy1 : nar .byte ((Int32.toInt8 b1).toInt32) = y1) (hy2 : nar .byte ((Int32.toInt8 b2).toInt32) = y2) (hy3 : nar .byte ((Int32.toInt8 b3).toInt32) = y3) (hz0 : y0 &&& 31 = b0 &&& 31) (hz1 : y1 &&& 255 = b1)  (hz2 : y2 &&& 255 = b2)  (hz3 : y3 &&& 255 = b3) : Go K m0 4 112 86 [.val (.int x0), .val (.int x1), .val (.int x2), .val (.int x3), .val (.int x4), .val (.int x5), .val (.int 2), .val (.int 1), .val (.int b0), .val (.int b1), .val (.int b2), .val (.int b3), .val (.int w12), .unset, .unset, .unset, .unset, .unset, .unset] [] [] (some (.int 1), none, 16, 128) := by
  refine Go.bipush d0_86 (v := 8) rfl ?_
  refine Go.newarray 8 d0_88 (hw _ (List.mem_of_getElem? (i := 7) rfl)) (t := .byte) rfl (by decide) (by decide) (by decide) (vs := [.int 0, .int 0, .int 0, .int 0, .int 0, .int 0, .int 0, .int 0]) rfl (i := 0) rfl 15 120 (by decide) (by decide) ?_
  show Go _ _ _ _ 90 [.val (.int x0), .val (.int x1), .val (.int x2), .val (.int x3), .val (.int x4), .val (.int x5), .val (.int 2), .val (.int 1), .val (.int b0), .val (.int b1), .val (.int b2), .val (.int b3), .val (.int w12), .unset, .unset, .unset, .unset, .unset, .unset] [.ref 0] [.inr (.byte, [.int 0, .int 0, .int 0, .int 0, .int 0, .int 0, .int 0, .int 0])] _
  refine Go.astore d0_90 (ls' := [.val (.int x0), .val (.int x1), .val (.int x2), .val (.int x3), .val (.int x4), .val (.int x5), .val (.int 2), .val (.int 1), .val (.int b0), .val (.int b1), .val (.int b2), .val (.int b3), .val (.int w12), .val (.ref 0), .unset, .unset, .unset, .unset, .unset]) rfl rfl ?_
  refine Go.aload d0_92 rfl rfl ?_
  refine Go.iconst d0_94 (v := 0) rfl ?_
  refine Go.iload d0_95 rfl ?_
  refine Go.bastore d0_97 rfl (by decide) (Nat.le_of_ble_eq_true rfl) (H1 := [.inr (.byte, [.int fv, .int 0, .int 0, .int 0, .int 0, .int 0, .int 0, .int 0])]) (by rw [hf]; rfl) ?_
  refine Go.aload d0_98 rfl rfl ?_
  refine Go.iconst d0_100 (v := 1) rfl ?_
  refine Go.iload d0_101 rfl ?_
  refine Go.bastore d0_103 rfl (by decide) (Nat.le_of_ble_eq_true rfl) (H1 := [.inr (.byte, [.int fv, .int fv, .int 0, .int 0, .int 0, .int 0, .int 0, .int 0])]) (by rw [hf]; rfl) ?_
  refine Go.aload d0_104 rfl rfl ?_
  refine Go.iconst d0_106 (v := 2) rfl ?_
  refine Go.iload d0_107 rfl ?_
  refine Go.bastore d0_109 rfl (by decide) (Nat.le_of_ble_eq_true rfl) (H1 := [.inr (.byte, [.int fv, .int fv, .int fv, .int 0, .int 0, .int 0, .int 0, .int 0])]) (by rw [hf]; rfl) ?_
  refine Go.aload d0_110 rfl rfl ?_
  refine Go.iconst d0_112 (v := 3) rfl ?_
  refine Go.iload d0_113 rfl ?_
  refine Go.bastore d0_115 rfl (by decide) (Nat.le_of_ble_eq_true rfl) (H1 := [.inr (.byte, [.int fv, .int fv, .int fv, .int fv, .int 0, .int 0, .int 0, .int 0])]) (by rw [hf]; rfl) ?_
  refine Go.aload d0_116 rfl rfl ?_
  refine Go.iconst d0_118 (v := 4) rfl ?_
  refine Go.iload d0_119 rfl ?_
  refine Go.bastore d0_121 rfl (by decide) (Nat.le_of_ble_eq_true rfl) (H1 := [.inr (.byte, [.int fv, .int fv, .int fv, .int fv, .int fv, .int 0, .int 0, .int 0])]) (by rw [hf]; rfl) ?_
  refine Go.aload d0_122 rfl rfl ?_
  refine Go.iconst d0_124 (v := 5) rfl ?_
  refine Go.iload d0_125 rfl ?_
  refine Go.bastore d0_127 rfl (by decide) (Nat.le_of_ble_eq_true rfl) (H1 := [.inr (.byte, [.int fv, .int fv, .int fv, .int fv, .int fv, .int fv, .int 0, .int 0])]) (by rw [hf]; rfl) ?_
  refine Go.aload d0_128 rfl rfl ?_
  refine Go.bipush d0_130 (v := 6) rfl ?_
  refine Go.iload d0_132 rfl ?_
  refine Go.bastore d0_134 rfl (by decide) (Nat.le_of_ble_eq_true rfl) (H1 := [.inr (.byte, [.int fv, .int fv, .int fv, .int fv, .int fv, .int fv, .int fv, .int 0])]) (by rw [hf]; rfl) ?_
  refine Go.aload d0_135 rfl rfl ?_
  refine Go.bipush d0_137 (v := 7) rfl ?_
  refine Go.iload d0_139 rfl ?_
  refine Go.bastore d0_141 rfl (by decide) (Nat.le_of_ble_eq_true rfl) (H1 := [.inr (.byte, [.int fv, .int fv, .int fv, .int fv, .int fv, .int fv, .int fv, .int fv])]) (by rw [hf]; rfl) ?_
  refine Go.aload d0_142 rfl rfl ?_
  refine Go.iload d0_144 rfl ?_
  refine Go.iload d0_146 rfl ?_
  refine Go.i2b d0_148 ?_
  refine Go.bastore d0_149 rfl (by decide) (Nat.le_of_ble_eq_true rfl) (H1 := [.inr (.byte, [.int fv, .int y0, .int fv, .int fv, .int fv, .int fv, .int fv, .int fv])]) (by rw [hy0]; rfl) ?_
  refine Go.iload d0_150 rfl ?_
  refine Go.iconst d0_152 (v := 2) rfl ?_
  refine Go.icmpF d0_153 (XT.ii_lt_f (by decide)) ?_
  refine Go.aload d0_156 rfl rfl ?_
  refine Go.iload d0_158 rfl ?_
  refine Go.iconst d0_160 (v := 1) rfl ?_
  refine Go.iadd d0_161 ?_
  show Go _ _ _ _ 162 [.val (.int x0), .val (.int x1), .val (.int x2), .val (.int x3), .val (.int x4), .val (.int x5), .val (.int 2), .val (.int 1), .val (.int b0), .val (.int b1), .val (.int b2), .val (.int b3), .val (.int w12), .val (.ref 0), .unset, .unset, .unset, .unset, .unset] [.int 2, .ref 0] [.inr (.byte, [.int fv, .int y0, .int fv, .int fv, .int fv, .int fv, .int fv, .int fv])] _
  refine Go.iload d0_162 rfl ?_
  refine Go.i2b d0_164 ?_
  refine Go.bastore d0_165 rfl (by decide) (Nat.le_of_ble_eq_true rfl) (H1 := [.inr (.byte, [.int fv, .int y0, .int y1, .int fv, .int fv, .int fv, .int fv, .int fv])]) (by rw [hy1]; rfl) ?_
  refine Go.iload d0_166 rfl ?_
  refine Go.iconst d0_168 (v := 3) rfl ?_
  refine Go.icmpT d0_169 j0_169 (XT.ii_lt_t (by decide)) ?_
  refine Go.iload d0_182 rfl ?_
  refine Go.iconst d0_184 (v := 4) rfl ?_
  refine Go.icmpT d0_185 j0_185 (XT.ii_lt_t (by decide)) ?_
  refine Go.iload d0_198 rfl ?_
  refine Go.bipush d0_200 (v := 63) rfl ?_
  refine Go.iand d0_202 ?_
  refine Go.istore d0_203 (ls' := [.val (.int x0), .val (.int x1), .val (.int x2), .val (.int x3), .val (.int x4), .val (.int x5), .val (.int 2), .val (.int 1), .val (.int b0), .val (.int b1), .val (.int b2), .val (.int b3), .val (.int w12), .val (.ref 0), .val (.int (b1 &&& 63)), .unset, .unset, .unset, .unset]) rfl ?_
  refine Go.iload d0_205 rfl ?_
  refine Go.bipush d0_207 (v := 63) rfl ?_
  refine Go.iand d0_209 ?_
  refine Go.istore d0_210 (ls' := [.val (.int x0), .val (.int x1), .val (.int x2), .val (.int x3), .val (.int x4), .val (.int x5), .val (.int 2), .val (.int 1), .val (.int b0), .val (.int b1), .val (.int b2), .val (.int b3), .val (.int w12), .val (.ref 0), .val (.int (b1 &&& 63)), .val (.int (b2 &&& 63)), .unset, .unset, .unset]) rfl ?_
  refine Go.iload d0_212 rfl ?_
  refine Go.bipush d0_214 (v := 63) rfl ?_
  refine Go.iand d0_216 ?_
  refine Go.istore d0_217 (ls' := [.val (.int x0), .val (.int x1), .val (.int x2), .val (.int x3), .val (.int x4), .val (.int x5), .val (.int 2), .val (.int 1), .val (.int b0), .val (.int b1), .val (.int b2), .val (.int b3), .val (.int w12), .val (.ref 0), .val (.int (b1 &&& 63)), .val (.int (b2 &&& 63)), .val (.int (b3 &&& 63)), .unset, .unset]) rfl ?_
  refine Go.iload d0_219 rfl ?_
  refine Go.iconst d0_221 (v := 1) rfl ?_
  refine Go.icmpT d0_222 j0_222 (XT.ii_ne_t (by decide)) ?_
  refine Go.iload d0_232 rfl ?_
  refine Go.iconst d0_234 (v := 2) rfl ?_
  refine Go.icmpF d0_235 (XT.ii_ne_f (by decide)) ?_
  refine Go.iload d0_238 rfl ?_
  refine Go.bipush d0_240 (v := 31) rfl ?_
  refine Go.iand d0_242 ?_
  refine Go.bipush d0_243 (v := 6) rfl ?_
  refine Go.ishl d0_245 ?_
  refine Go.iload d0_246 rfl ?_
  refine Go.ior d0_248 ?_
  refine Go.istore d0_249 (ls' := [.val (.int x0), .val (.int x1), .val (.int x2), .val (.int x3), .val (.int x4), .val (.int x5), .val (.int 2), .val (.int 1), .val (.int b0), .val (.int b1), .val (.int b2), .val (.int b3), .val (.int w12), .val (.ref 0), .val (.int (b1 &&& 63)), .val (.int (b2 &&& 63)), .val (.int (b3 &&& 63)), .unset, .val (.int (((b0 &&& 31) <<< (6 &&& 31)) ||| (b1 &&& 63)))]) rfl ?_
  refine Go.iload d0_251 rfl ?_
  refine Go.callS (M' := m4) d0_253 (hw _ (List.mem_of_getElem? (i := 13) rfl)) (hw _ (List.mem_of_getElem? (i := 14) rfl)) (hw _ (List.mem_of_getElem? (i := 2) rfl)) (hw _ (List.mem_of_getElem? (i := 15) rfl)) mi4 (as := [.int b1]) rfl rfl (st := []) rfl (ls1 := [.val (.int b1)]) rfl (W := 0) rfl (by decide) (by decide) (go_own_ic K hw b1 _) 15 120 (by decide) (by decide) ?_
  show Go _ _ _ _ 256 [.val (.int x0), .val (.int x1), .val (.int x2), .val (.int x3), .val (.int x4), .val (.int x5), .val (.int 2), .val (.int 1), .val (.int b0), .val (.int b1), .val (.int b2), .val (.int b3), .val (.int w12), .val (.ref 0), .val (.int (b1 &&& 63)), .val (.int (b2 &&& 63)), .val (.int (b3 &&& 63)), .unset, .val (.int (((b0 &&& 31) <<< (6 &&& 31)) ||| (b1 &&& 63)))] [.int (own_ic b1)] [.inr (.byte, [.int fv, .int y0, .int y1, .int fv, .int fv, .int fv, .int fv, .int fv])] _
  refine Go.if_eq d0_256 j0_256 (fun h256 => ?_) (fun h256 => ?_)
  · -- pc 256 taken
    refine Go.iconst d0_272 (v := (-1)) rfl ?_
    refine Go.istore d0_273 (ls' := [.val (.int x0), .val (.int x1), .val (.int x2), .val (.int x3), .val (.int x4), .val (.int x5), .val (.int 2), .val (.int 1), .val (.int b0), .val (.int b1), .val (.int b2), .val (.int b3), .val (.int w12), .val (.ref 0), .val (.int (b1 &&& 63)), .val (.int (b2 &&& 63)), .val (.int (b3 &&& 63)), .val (.int (-1)), .val (.int (((b0 &&& 31) <<< (6 &&& 31)) ||| (b1 &&& 63)))]) rfl ?_
    refine Go.goto d0_275 j0_275 ?_
    refine Go.aload d0_402 rfl rfl ?_
    refine Go.iload d0_404 rfl ?_
    refine Go.iload d0_406 rfl ?_
    refine Go.callS (M' := m3) d0_408 (hw _ (List.mem_of_getElem? (i := 8) rfl)) (hw _ (List.mem_of_getElem? (i := 9) rfl)) (hw _ (List.mem_of_getElem? (i := 10) rfl)) (hw _ (List.mem_of_getElem? (i := 11) rfl)) mi3 (as := [.ref 0, .int 1, .int 2]) rfl rfl (st := []) rfl (ls1 := [.val (.ref 0), .val (.int 1), .val (.int 2), .unset, .unset, .unset, .unset]) rfl (W := 0) rfl (by decide) (by decide) (go_own_cp2 K hw _ 0 _ 1 y0 y1 rfl (by decide) rfl (by decide) rfl) 15 120 (by decide) (by decide) ?_
    show Go _ _ _ _ 411 [.val (.int x0), .val (.int x1), .val (.int x2), .val (.int x3), .val (.int x4), .val (.int x5), .val (.int 2), .val (.int 1), .val (.int b0), .val (.int b1), .val (.int b2), .val (.int b3), .val (.int w12), .val (.ref 0), .val (.int (b1 &&& 63)), .val (.int (b2 &&& 63)), .val (.int (b3 &&& 63)), .val (.int (-1)), .val (.int (((b0 &&& 31) <<< (6 &&& 31)) ||| (b1 &&& 63)))] [.int (own_cp2 y0 y1)] [.inr (.byte, [.int fv, .int y0, .int y1, .int fv, .int fv, .int fv, .int fv, .int fv])] _
    refine Go.iload d0_411 rfl ?_
    refine Go.icmpF d0_413 (XT.ii_ne_f (by rw [own_e2 hz0 hz1, if_pos h256])) ?_
    refine Go.iconst d0_416 (v := 1) rfl ?_
    refine Go.goto d0_417 j0_417 ?_
    exact Go.ireturnZ d0_421 rfl (by decide) rfl HOk.any
  · -- pc 256 not taken
    refine Go.iload d0_259 rfl ?_
    refine Go.sipush d0_261 (v := 128) rfl ?_
    refine Go.icmp_lt d0_264 j0_264 (fun h264 => ?_) (fun h264 => ?_)
    · -- pc 264 taken
      refine Go.iconst d0_272 (v := (-1)) rfl ?_
      refine Go.istore d0_273 (ls' := [.val (.int x0), .val (.int x1), .val (.int x2), .val (.int x3), .val (.int x4), .val (.int x5), .val (.int 2), .val (.int 1), .val (.int b0), .val (.int b1), .val (.int b2), .val (.int b3), .val (.int w12), .val (.ref 0), .val (.int (b1 &&& 63)), .val (.int (b2 &&& 63)), .val (.int (b3 &&& 63)), .val (.int (-1)), .val (.int (((b0 &&& 31) <<< (6 &&& 31)) ||| (b1 &&& 63)))]) rfl ?_
      refine Go.goto d0_275 j0_275 ?_
      refine Go.aload d0_402 rfl rfl ?_
      refine Go.iload d0_404 rfl ?_
      refine Go.iload d0_406 rfl ?_
      refine Go.callS (M' := m3) d0_408 (hw _ (List.mem_of_getElem? (i := 8) rfl)) (hw _ (List.mem_of_getElem? (i := 9) rfl)) (hw _ (List.mem_of_getElem? (i := 10) rfl)) (hw _ (List.mem_of_getElem? (i := 11) rfl)) mi3 (as := [.ref 0, .int 1, .int 2]) rfl rfl (st := []) rfl (ls1 := [.val (.ref 0), .val (.int 1), .val (.int 2), .unset, .unset, .unset, .unset]) rfl (W := 0) rfl (by decide) (by decide) (go_own_cp2 K hw _ 0 _ 1 y0 y1 rfl (by decide) rfl (by decide) rfl) 15 120 (by decide) (by decide) ?_
      show Go _ _ _ _ 411 [.val (.int x0), .val (.int x1), .val (.int x2), .val (.int x3), .val (.int x4), .val (.int x5), .val (.int 2), .val (.int 1), .val (.int b0), .val (.int b1), .val (.int b2), .val (.int b3), .val (.int w12), .val (.ref 0), .val (.int (b1 &&& 63)), .val (.int (b2 &&& 63)), .val (.int (b3 &&& 63)), .val (.int (-1)), .val (.int (((b0 &&& 31) <<< (6 &&& 31)) ||| (b1 &&& 63)))] [.int (own_cp2 y0 y1)] [.inr (.byte, [.int fv, .int y0, .int y1, .int fv, .int fv, .int fv, .int fv, .int fv])] _
      refine Go.iload d0_411 rfl ?_
      refine Go.icmpF d0_413 (XT.ii_ne_f (by rw [own_e2 hz0 hz1, if_neg h256, if_pos h264])) ?_
      refine Go.iconst d0_416 (v := 1) rfl ?_
      refine Go.goto d0_417 j0_417 ?_
      exact Go.ireturnZ d0_421 rfl (by decide) rfl HOk.any
    · -- pc 264 not taken
      refine Go.iload d0_267 rfl ?_
      refine Go.goto d0_269 j0_269 ?_
      refine Go.istore d0_273 (ls' := [.val (.int x0), .val (.int x1), .val (.int x2), .val (.int x3), .val (.int x4), .val (.int x5), .val (.int 2), .val (.int 1), .val (.int b0), .val (.int b1), .val (.int b2), .val (.int b3), .val (.int w12), .val (.ref 0), .val (.int (b1 &&& 63)), .val (.int (b2 &&& 63)), .val (.int (b3 &&& 63)), .val (.int (((b0 &&& 31) <<< (6 &&& 31)) ||| (b1 &&& 63))), .val (.int (((b0 &&& 31) <<< (6 &&& 31)) ||| (b1 &&& 63)))]) rfl ?_
      refine Go.goto d0_275 j0_275 ?_
      refine Go.aload d0_402 rfl rfl ?_
      refine Go.iload d0_404 rfl ?_
      refine Go.iload d0_406 rfl ?_
      refine Go.callS (M' := m3) d0_408 (hw _ (List.mem_of_getElem? (i := 8) rfl)) (hw _ (List.mem_of_getElem? (i := 9) rfl)) (hw _ (List.mem_of_getElem? (i := 10) rfl)) (hw _ (List.mem_of_getElem? (i := 11) rfl)) mi3 (as := [.ref 0, .int 1, .int 2]) rfl rfl (st := []) rfl (ls1 := [.val (.ref 0), .val (.int 1), .val (.int 2), .unset, .unset, .unset, .unset]) rfl (W := 0) rfl (by decide) (by decide) (go_own_cp2 K hw _ 0 _ 1 y0 y1 rfl (by decide) rfl (by decide) rfl) 15 120 (by decide) (by decide) ?_
      show Go _ _ _ _ 411 [.val (.int x0), .val (.int x1), .val (.int x2), .val (.int x3), .val (.int x4), .val (.int x5), .val (.int 2), .val (.int 1), .val (.int b0), .val (.int b1), .val (.int b2), .val (.int b3), .val (.int w12), .val (.ref 0), .val (.int (b1 &&& 63)), .val (.int (b2 &&& 63)), .val (.int (b3 &&& 63)), .val (.int (((b0 &&& 31) <<< (6 &&& 31)) ||| (b1 &&& 63))), .val (.int (((b0 &&& 31) <<< (6 &&& 31)) ||| (b1 &&& 63)))] [.int (own_cp2 y0 y1)] [.inr (.byte, [.int fv, .int y0, .int y1, .int fv, .int fv, .int fv, .int fv, .int fv])] _
      refine Go.iload d0_411 rfl ?_
      refine Go.icmpF d0_413 (XT.ii_ne_f (by rw [own_e2 hz0 hz1, if_neg h256, if_neg h264])) ?_
      refine Go.iconst d0_416 (v := 1) rfl ?_
      refine Go.goto d0_417 j0_417 ?_
      exact Go.ireturnZ d0_421 rfl (by decide) rfl HOk.any
theorem go_t86_2_2 (K : Ctx) (hw : ∀ d ∈ tables_1, d.before K.2.2.1 K.2.1 = true) (x0 x1 x2 x3 x4 x5 b0 b1 b2 b3 w12 fv y0 y1 y2 y3 : Int32) (hf : nar .byte w12 = fv) (hy0 : nar .byte ((Int32.toInt8 b0).toInt32) = y0) (hy1 : nar .byte ((Int32.toInt8 b1).toInt32) = y1) (hy2 : nar .byte ((Int32.toInt8 b2).toInt32) = y2) (hy3 : nar .byte ((Int32.toInt8 b3).toInt32) = y3) (hz0 : y0 &&& 31 = b0 &&& 31) (hz1 : y1 &&& 255 = b1)  (hz2 : y2 &&& 255 = b2)  (hz3 : y3 &&& 255 = b3) : Go K m0 4 112 86 [.val (.int x0), .val (.int x1), .val (.int x2), .val (.int x3), .val (.int x4), .val (.int x5), .val (.int 2), .val (.int 2), .val (.int b0), .val (.int b1), .val (.int b2), .val (.int b3), .val (.int w12), .unset, .unset, .unset, .unset, .unset, .unset] [] [] (some (.int 1), none, 16, 128) := by
  refine Go.bipush d0_86 (v := 8) rfl ?_
  refine Go.newarray 8 d0_88 (hw _ (List.mem_of_getElem? (i := 7) rfl)) (t := .byte) rfl (by decide) (by decide) (by decide) (vs := [.int 0, .int 0, .int 0, .int 0, .int 0, .int 0, .int 0, .int 0]) rfl (i := 0) rfl 15 120 (by decide) (by decide) ?_
  show Go _ _ _ _ 90 [.val (.int x0), .val (.int x1), .val (.int x2), .val (.int x3), .val (.int x4), .val (.int x5), .val (.int 2), .val (.int 2), .val (.int b0), .val (.int b1), .val (.int b2), .val (.int b3), .val (.int w12), .unset, .unset, .unset, .unset, .unset, .unset] [.ref 0] [.inr (.byte, [.int 0, .int 0, .int 0, .int 0, .int 0, .int 0, .int 0, .int 0])] _
  refine Go.astore d0_90 (ls' := [.val (.int x0), .val (.int x1), .val (.int x2), .val (.int x3), .val (.int x4), .val (.int x5), .val (.int 2), .val (.int 2), .val (.int b0), .val (.int b1), .val (.int b2), .val (.int b3), .val (.int w12), .val (.ref 0), .unset, .unset, .unset, .unset, .unset]) rfl rfl ?_
  refine Go.aload d0_92 rfl rfl ?_
  refine Go.iconst d0_94 (v := 0) rfl ?_
  refine Go.iload d0_95 rfl ?_
  refine Go.bastore d0_97 rfl (by decide) (Nat.le_of_ble_eq_true rfl) (H1 := [.inr (.byte, [.int fv, .int 0, .int 0, .int 0, .int 0, .int 0, .int 0, .int 0])]) (by rw [hf]; rfl) ?_
  refine Go.aload d0_98 rfl rfl ?_
  refine Go.iconst d0_100 (v := 1) rfl ?_
  refine Go.iload d0_101 rfl ?_
  refine Go.bastore d0_103 rfl (by decide) (Nat.le_of_ble_eq_true rfl) (H1 := [.inr (.byte, [.int fv, .int fv, .int 0, .int 0, .int 0, .int 0, .int 0, .int 0])]) (by rw [hf]; rfl) ?_
  refine Go.aload d0_104 rfl rfl ?_
  refine Go.iconst d0_106 (v := 2) rfl ?_
  refine Go.iload d0_107 rfl ?_
  refine Go.bastore d0_109 rfl (by decide) (Nat.le_of_ble_eq_true rfl) (H1 := [.inr (.byte, [.int fv, .int fv, .int fv, .int 0, .int 0, .int 0, .int 0, .int 0])]) (by rw [hf]; rfl) ?_
  refine Go.aload d0_110 rfl rfl ?_
  refine Go.iconst d0_112 (v := 3) rfl ?_
  refine Go.iload d0_113 rfl ?_
  refine Go.bastore d0_115 rfl (by decide) (Nat.le_of_ble_eq_true rfl) (H1 := [.inr (.byte, [.int fv, .int fv, .int fv, .int fv, .int 0, .int 0, .int 0, .int 0])]) (by rw [hf]; rfl) ?_
  refine Go.aload d0_116 rfl rfl ?_
  refine Go.iconst d0_118 (v := 4) rfl ?_
  refine Go.iload d0_119 rfl ?_
  refine Go.bastore d0_121 rfl (by decide) (Nat.le_of_ble_eq_true rfl) (H1 := [.inr (.byte, [.int fv, .int fv, .int fv, .int fv, .int fv, .int 0, .int 0, .int 0])]) (by rw [hf]; rfl) ?_
  refine Go.aload d0_122 rfl rfl ?_
  refine Go.iconst d0_124 (v := 5) rfl ?_
  refine Go.iload d0_125 rfl ?_
  refine Go.bastore d0_127 rfl (by decide) (Nat.le_of_ble_eq_true rfl) (H1 := [.inr (.byte, [.int fv, .int fv, .int fv, .int fv, .int fv, .int fv, .int 0, .int 0])]) (by rw [hf]; rfl) ?_
  refine Go.aload d0_128 rfl rfl ?_
  refine Go.bipush d0_130 (v := 6) rfl ?_
  refine Go.iload d0_132 rfl ?_
  refine Go.bastore d0_134 rfl (by decide) (Nat.le_of_ble_eq_true rfl) (H1 := [.inr (.byte, [.int fv, .int fv, .int fv, .int fv, .int fv, .int fv, .int fv, .int 0])]) (by rw [hf]; rfl) ?_
  refine Go.aload d0_135 rfl rfl ?_
  refine Go.bipush d0_137 (v := 7) rfl ?_
  refine Go.iload d0_139 rfl ?_
  refine Go.bastore d0_141 rfl (by decide) (Nat.le_of_ble_eq_true rfl) (H1 := [.inr (.byte, [.int fv, .int fv, .int fv, .int fv, .int fv, .int fv, .int fv, .int fv])]) (by rw [hf]; rfl) ?_
  refine Go.aload d0_142 rfl rfl ?_
  refine Go.iload d0_144 rfl ?_
  refine Go.iload d0_146 rfl ?_
  refine Go.i2b d0_148 ?_
  refine Go.bastore d0_149 rfl (by decide) (Nat.le_of_ble_eq_true rfl) (H1 := [.inr (.byte, [.int fv, .int fv, .int y0, .int fv, .int fv, .int fv, .int fv, .int fv])]) (by rw [hy0]; rfl) ?_
  refine Go.iload d0_150 rfl ?_
  refine Go.iconst d0_152 (v := 2) rfl ?_
  refine Go.icmpF d0_153 (XT.ii_lt_f (by decide)) ?_
  refine Go.aload d0_156 rfl rfl ?_
  refine Go.iload d0_158 rfl ?_
  refine Go.iconst d0_160 (v := 1) rfl ?_
  refine Go.iadd d0_161 ?_
  show Go _ _ _ _ 162 [.val (.int x0), .val (.int x1), .val (.int x2), .val (.int x3), .val (.int x4), .val (.int x5), .val (.int 2), .val (.int 2), .val (.int b0), .val (.int b1), .val (.int b2), .val (.int b3), .val (.int w12), .val (.ref 0), .unset, .unset, .unset, .unset, .unset] [.int 3, .ref 0] [.inr (.byte, [.int fv, .int fv, .int y0, .int fv, .int fv, .int fv, .int fv, .int fv])] _
  refine Go.iload d0_162 rfl ?_
  refine Go.i2b d0_164 ?_
  refine Go.bastore d0_165 rfl (by decide) (Nat.le_of_ble_eq_true rfl) (H1 := [.inr (.byte, [.int fv, .int fv, .int y0, .int y1, .int fv, .int fv, .int fv, .int fv])]) (by rw [hy1]; rfl) ?_
  refine Go.iload d0_166 rfl ?_
  refine Go.iconst d0_168 (v := 3) rfl ?_
  refine Go.icmpT d0_169 j0_169 (XT.ii_lt_t (by decide)) ?_
  refine Go.iload d0_182 rfl ?_
  refine Go.iconst d0_184 (v := 4) rfl ?_
  refine Go.icmpT d0_185 j0_185 (XT.ii_lt_t (by decide)) ?_
  refine Go.iload d0_198 rfl ?_
  refine Go.bipush d0_200 (v := 63) rfl ?_
  refine Go.iand d0_202 ?_
  refine Go.istore d0_203 (ls' := [.val (.int x0), .val (.int x1), .val (.int x2), .val (.int x3), .val (.int x4), .val (.int x5), .val (.int 2), .val (.int 2), .val (.int b0), .val (.int b1), .val (.int b2), .val (.int b3), .val (.int w12), .val (.ref 0), .val (.int (b1 &&& 63)), .unset, .unset, .unset, .unset]) rfl ?_
  refine Go.iload d0_205 rfl ?_
  refine Go.bipush d0_207 (v := 63) rfl ?_
  refine Go.iand d0_209 ?_
  refine Go.istore d0_210 (ls' := [.val (.int x0), .val (.int x1), .val (.int x2), .val (.int x3), .val (.int x4), .val (.int x5), .val (.int 2), .val (.int 2), .val (.int b0), .val (.int b1), .val (.int b2), .val (.int b3), .val (.int w12), .val (.ref 0), .val (.int (b1 &&& 63)), .val (.int (b2 &&& 63)), .unset, .unset, .unset]) rfl ?_
  refine Go.iload d0_212 rfl ?_
  refine Go.bipush d0_214 (v := 63) rfl ?_
  refine Go.iand d0_216 ?_
  refine Go.istore d0_217 (ls' := [.val (.int x0), .val (.int x1), .val (.int x2), .val (.int x3), .val (.int x4), .val (.int x5), .val (.int 2), .val (.int 2), .val (.int b0), .val (.int b1), .val (.int b2), .val (.int b3), .val (.int w12), .val (.ref 0), .val (.int (b1 &&& 63)), .val (.int (b2 &&& 63)), .val (.int (b3 &&& 63)), .unset, .unset]) rfl ?_
  refine Go.iload d0_219 rfl ?_
  refine Go.iconst d0_221 (v := 1) rfl ?_
  refine Go.icmpT d0_222 j0_222 (XT.ii_ne_t (by decide)) ?_
  refine Go.iload d0_232 rfl ?_
  refine Go.iconst d0_234 (v := 2) rfl ?_
  refine Go.icmpF d0_235 (XT.ii_ne_f (by decide)) ?_
  refine Go.iload d0_238 rfl ?_
  refine Go.bipush d0_240 (v := 31) rfl ?_
  refine Go.iand d0_242 ?_
  refine Go.bipush d0_243 (v := 6) rfl ?_
  refine Go.ishl d0_245 ?_
  refine Go.iload d0_246 rfl ?_
  refine Go.ior d0_248 ?_
  refine Go.istore d0_249 (ls' := [.val (.int x0), .val (.int x1), .val (.int x2), .val (.int x3), .val (.int x4), .val (.int x5), .val (.int 2), .val (.int 2), .val (.int b0), .val (.int b1), .val (.int b2), .val (.int b3), .val (.int w12), .val (.ref 0), .val (.int (b1 &&& 63)), .val (.int (b2 &&& 63)), .val (.int (b3 &&& 63)), .unset, .val (.int (((b0 &&& 31) <<< (6 &&& 31)) ||| (b1 &&& 63)))]) rfl ?_
  refine Go.iload d0_251 rfl ?_
  refine Go.callS (M' := m4) d0_253 (hw _ (List.mem_of_getElem? (i := 13) rfl)) (hw _ (List.mem_of_getElem? (i := 14) rfl)) (hw _ (List.mem_of_getElem? (i := 2) rfl)) (hw _ (List.mem_of_getElem? (i := 15) rfl)) mi4 (as := [.int b1]) rfl rfl (st := []) rfl (ls1 := [.val (.int b1)]) rfl (W := 0) rfl (by decide) (by decide) (go_own_ic K hw b1 _) 15 120 (by decide) (by decide) ?_
  show Go _ _ _ _ 256 [.val (.int x0), .val (.int x1), .val (.int x2), .val (.int x3), .val (.int x4), .val (.int x5), .val (.int 2), .val (.int 2), .val (.int b0), .val (.int b1), .val (.int b2), .val (.int b3), .val (.int w12), .val (.ref 0), .val (.int (b1 &&& 63)), .val (.int (b2 &&& 63)), .val (.int (b3 &&& 63)), .unset, .val (.int (((b0 &&& 31) <<< (6 &&& 31)) ||| (b1 &&& 63)))] [.int (own_ic b1)] [.inr (.byte, [.int fv, .int fv, .int y0, .int y1, .int fv, .int fv, .int fv, .int fv])] _
  refine Go.if_eq d0_256 j0_256 (fun h256 => ?_) (fun h256 => ?_)
  · -- pc 256 taken
    refine Go.iconst d0_272 (v := (-1)) rfl ?_
    refine Go.istore d0_273 (ls' := [.val (.int x0), .val (.int x1), .val (.int x2), .val (.int x3), .val (.int x4), .val (.int x5), .val (.int 2), .val (.int 2), .val (.int b0), .val (.int b1), .val (.int b2), .val (.int b3), .val (.int w12), .val (.ref 0), .val (.int (b1 &&& 63)), .val (.int (b2 &&& 63)), .val (.int (b3 &&& 63)), .val (.int (-1)), .val (.int (((b0 &&& 31) <<< (6 &&& 31)) ||| (b1 &&& 63)))]) rfl ?_
    refine Go.goto d0_275 j0_275 ?_
    refine Go.aload d0_402 rfl rfl ?_
    refine Go.iload d0_404 rfl ?_
    refine Go.iload d0_406 rfl ?_
    refine Go.callS (M' := m3) d0_408 (hw _ (List.mem_of_getElem? (i := 8) rfl)) (hw _ (List.mem_of_getElem? (i := 9) rfl)) (hw _ (List.mem_of_getElem? (i := 10) rfl)) (hw _ (List.mem_of_getElem? (i := 11) rfl)) mi3 (as := [.ref 0, .int 2, .int 2]) rfl rfl (st := []) rfl (ls1 := [.val (.ref 0), .val (.int 2), .val (.int 2), .unset, .unset, .unset, .unset]) rfl (W := 0) rfl (by decide) (by decide) (go_own_cp2 K hw _ 0 _ 2 y0 y1 rfl (by decide) rfl (by decide) rfl) 15 120 (by decide) (by decide) ?_
    show Go _ _ _ _ 411 [.val (.int x0), .val (.int x1), .val (.int x2), .val (.int x3), .val (.int x4), .val (.int x5), .val (.int 2), .val (.int 2), .val (.int b0), .val (.int b1), .val (.int b2), .val (.int b3), .val (.int w12), .val (.ref 0), .val (.int (b1 &&& 63)), .val (.int (b2 &&& 63)), .val (.int (b3 &&& 63)), .val (.int (-1)), .val (.int (((b0 &&& 31) <<< (6 &&& 31)) ||| (b1 &&& 63)))] [.int (own_cp2 y0 y1)] [.inr (.byte, [.int fv, .int fv, .int y0, .int y1, .int fv, .int fv, .int fv, .int fv])] _
    refine Go.iload d0_411 rfl ?_
    refine Go.icmpF d0_413 (XT.ii_ne_f (by rw [own_e2 hz0 hz1, if_pos h256])) ?_
    refine Go.iconst d0_416 (v := 1) rfl ?_
    refine Go.goto d0_417 j0_417 ?_
    exact Go.ireturnZ d0_421 rfl (by decide) rfl HOk.any
  · -- pc 256 not taken
    refine Go.iload d0_259 rfl ?_
    refine Go.sipush d0_261 (v := 128) rfl ?_
    refine Go.icmp_lt d0_264 j0_264 (fun h264 => ?_) (fun h264 => ?_)
    · -- pc 264 taken
      refine Go.iconst d0_272 (v := (-1)) rfl ?_
      refine Go.istore d0_273 (ls' := [.val (.int x0), .val (.int x1), .val (.int x2), .val (.int x3), .val (.int x4), .val (.int x5), .val (.int 2), .val (.int 2), .val (.int b0), .val (.int b1), .val (.int b2), .val (.int b3), .val (.int w12), .val (.ref 0), .val (.int (b1 &&& 63)), .val (.int (b2 &&& 63)), .val (.int (b3 &&& 63)), .val (.int (-1)), .val (.int (((b0 &&& 31) <<< (6 &&& 31)) ||| (b1 &&& 63)))]) rfl ?_
      refine Go.goto d0_275 j0_275 ?_
      refine Go.aload d0_402 rfl rfl ?_
      refine Go.iload d0_404 rfl ?_
      refine Go.iload d0_406 rfl ?_
      refine Go.callS (M' := m3) d0_408 (hw _ (List.mem_of_getElem? (i := 8) rfl)) (hw _ (List.mem_of_getElem? (i := 9) rfl)) (hw _ (List.mem_of_getElem? (i := 10) rfl)) (hw _ (List.mem_of_getElem? (i := 11) rfl)) mi3 (as := [.ref 0, .int 2, .int 2]) rfl rfl (st := []) rfl (ls1 := [.val (.ref 0), .val (.int 2), .val (.int 2), .unset, .unset, .unset, .unset]) rfl (W := 0) rfl (by decide) (by decide) (go_own_cp2 K hw _ 0 _ 2 y0 y1 rfl (by decide) rfl (by decide) rfl) 15 120 (by decide) (by decide) ?_
      show Go _ _ _ _ 411 [.val (.int x0), .val (.int x1), .val (.int x2), .val (.int x3), .val (.int x4), .val (.int x5), .val (.int 2), .val (.int 2), .val (.int b0), .val (.int b1), .val (.int b2), .val (.int b3), .val (.int w12), .val (.ref 0), .val (.int (b1 &&& 63)), .val (.int (b2 &&& 63)), .val (.int (b3 &&& 63)), .val (.int (-1)), .val (.int (((b0 &&& 31) <<< (6 &&& 31)) ||| (b1 &&& 63)))] [.int (own_cp2 y0 y1)] [.inr (.byte, [.int fv, .int fv, .int y0, .int y1, .int fv, .int fv, .int fv, .int fv])] _
      refine Go.iload d0_411 rfl ?_
      refine Go.icmpF d0_413 (XT.ii_ne_f (by rw [own_e2 hz0 hz1, if_neg h256, if_pos h264])) ?_
      refine Go.iconst d0_416 (v := 1) rfl ?_
      refine Go.goto d0_417 j0_417 ?_
      exact Go.ireturnZ d0_421 rfl (by decide) rfl HOk.any
    · -- pc 264 not taken
      refine Go.iload d0_267 rfl ?_
      refine Go.goto d0_269 j0_269 ?_
      refine Go.istore d0_273 (ls' := [.val (.int x0), .val (.int x1), .val (.int x2), .val (.int x3), .val (.int x4), .val (.int x5), .val (.int 2), .val (.int 2), .val (.int b0), .val (.int b1), .val (.int b2), .val (.int b3), .val (.int w12), .val (.ref 0), .val (.int (b1 &&& 63)), .val (.int (b2 &&& 63)), .val (.int (b3 &&& 63)), .val (.int (((b0 &&& 31) <<< (6 &&& 31)) ||| (b1 &&& 63))), .val (.int (((b0 &&& 31) <<< (6 &&& 31)) ||| (b1 &&& 63)))]) rfl ?_
      refine Go.goto d0_275 j0_275 ?_
      refine Go.aload d0_402 rfl rfl ?_
      refine Go.iload d0_404 rfl ?_
      refine Go.iload d0_406 rfl ?_
      refine Go.callS (M' := m3) d0_408 (hw _ (List.mem_of_getElem? (i := 8) rfl)) (hw _ (List.mem_of_getElem? (i := 9) rfl)) (hw _ (List.mem_of_getElem? (i := 10) rfl)) (hw _ (List.mem_of_getElem? (i := 11) rfl)) mi3 (as := [.ref 0, .int 2, .int 2]) rfl rfl (st := []) rfl (ls1 := [.val (.ref 0), .val (.int 2), .val (.int 2), .unset, .unset, .unset, .unset]) rfl (W := 0) rfl (by decide) (by decide) (go_own_cp2 K hw _ 0 _ 2 y0 y1 rfl (by decide) rfl (by decide) rfl) 15 120 (by decide) (by decide) ?_
      show Go _ _ _ _ 411 [.val (.int x0), .val (.int x1), .val (.int x2), .val (.int x3), .val (.int x4), .val (.int x5), .val (.int 2), .val (.int 2), .val (.int b0), .val (.int b1), .val (.int b2), .val (.int b3), .val (.int w12), .val (.ref 0), .val (.int (b1 &&& 63)), .val (.int (b2 &&& 63)), .val (.int (b3 &&& 63)), .val (.int (((b0 &&& 31) <<< (6 &&& 31)) ||| (b1 &&& 63))), .val (.int (((b0 &&& 31) <<< (6 &&& 31)) ||| (b1 &&& 63)))] [.int (own_cp2 y0 y1)] [.inr (.byte, [.int fv, .int fv, .int y0, .int y1, .int fv, .int fv, .int fv, .int fv])] _
      refine Go.iload d0_411 rfl ?_
      refine Go.icmpF d0_413 (XT.ii_ne_f (by rw [own_e2 hz0 hz1, if_neg h256, if_neg h264])) ?_
      refine Go.iconst d0_416 (v := 1) rfl ?_
      refine Go.goto d0_417 j0_417 ?_
      exact Go.ireturnZ d0_421 rfl (by decide) rfl HOk.any
theorem go_t86_2_3 (K : Ctx) (hw : ∀ d ∈ tables_1, d.before K.2.2.1 K.2.1 = true) (x0 x1 x2 x3 x4 x5 b0 b1 b2 b3 w12 fv y0 y1 y2 y3 : Int32) (hf : nar .byte w12 = fv) (hy0 : nar .byte ((Int32.toInt8 b0).toInt32) = y0) (hy1 : nar .byte ((Int32.toInt8 b1).toInt32) = y1) (hy2 : nar .byte ((Int32.toInt8 b2).toInt32) = y2) (hy3 : nar .byte ((Int32.toInt8 b3).toInt32) = y3) (hz0 : y0 &&& 31 = b0 &&& 31) (hz1 : y1 &&& 255 = b1)  (hz2 : y2 &&& 255 = b2)  (hz3 : y3 &&& 255 = b3) : Go K m0 4 112 86 [.val (.int x0), .val (.int x1), .val (.int x2), .val (.int x3), .val (.int x4), .val (.int x5), .val (.int 2), .val (.int 3), .val (.int b0), .val (.int b1), .val (.int b2), .val (.int b3), .val (.int w12), .unset, .unset, .unset, .unset, .unset, .unset] [] [] (some (.int 1), none, 16, 128) := by
  refine Go.bipush d0_86 (v := 8) rfl ?_
  refine Go.newarray 8 d0_88 (hw _ (List.mem_of_getElem? (i := 7) rfl)) (t := .byte) rfl (by decide) (by decide) (by decide) (vs := [.int 0, .int 0, .int 0, .int 0, .int 0, .int 0, .int 0, .int 0]) rfl (i := 0) rfl 15 120 (by decide) (by decide) ?_
  show Go _ _ _ _ 90 [.val (.int x0), .val (.int x1), .val (.int x2), .val (.int x3), .val (.int x4), .val (.int x5), .val (.int 2), .val (.int 3), .val (.int b0), .val (.int b1), .val (.int b2), .val (.int b3), .val (.int w12), .unset, .unset, .unset, .unset, .unset, .unset] [.ref 0] [.inr (.byte, [.int 0, .int 0, .int 0, .int 0, .int 0, .int 0, .int 0, .int 0])] _
  refine Go.astore d0_90 (ls' := [.val (.int x0), .val (.int x1), .val (.int x2), .val (.int x3), .val (.int x4), .val (.int x5), .val (.int 2), .val (.int 3), .val (.int b0), .val (.int b1), .val (.int b2), .val (.int b3), .val (.int w12), .val (.ref 0), .unset, .unset, .unset, .unset, .unset]) rfl rfl ?_
  refine Go.aload d0_92 rfl rfl ?_
  refine Go.iconst d0_94 (v := 0) rfl ?_
  refine Go.iload d0_95 rfl ?_
  refine Go.bastore d0_97 rfl (by decide) (Nat.le_of_ble_eq_true rfl) (H1 := [.inr (.byte, [.int fv, .int 0, .int 0, .int 0, .int 0, .int 0, .int 0, .int 0])]) (by rw [hf]; rfl) ?_
  refine Go.aload d0_98 rfl rfl ?_
  refine Go.iconst d0_100 (v := 1) rfl ?_
  refine Go.iload d0_101 rfl ?_
  refine Go.bastore d0_103 rfl (by decide) (Nat.le_of_ble_eq_true rfl) (H1 := [.inr (.byte, [.int fv, .int fv, .int 0, .int 0, .int 0, .int 0, .int 0, .int 0])]) (by rw [hf]; rfl) ?_
  refine Go.aload d0_104 rfl rfl ?_
  refine Go.iconst d0_106 (v := 2) rfl ?_
  refine Go.iload d0_107 rfl ?_
  refine Go.bastore d0_109 rfl (by decide) (Nat.le_of_ble_eq_true rfl) (H1 := [.inr (.byte, [.int fv, .int fv, .int fv, .int 0, .int 0, .int 0, .int 0, .int 0])]) (by rw [hf]; rfl) ?_
  refine Go.aload d0_110 rfl rfl ?_
  refine Go.iconst d0_112 (v := 3) rfl ?_
  refine Go.iload d0_113 rfl ?_
  refine Go.bastore d0_115 rfl (by decide) (Nat.le_of_ble_eq_true rfl) (H1 := [.inr (.byte, [.int fv, .int fv, .int fv, .int fv, .int 0, .int 0, .int 0, .int 0])]) (by rw [hf]; rfl) ?_
  refine Go.aload d0_116 rfl rfl ?_
  refine Go.iconst d0_118 (v := 4) rfl ?_
  refine Go.iload d0_119 rfl ?_
  refine Go.bastore d0_121 rfl (by decide) (Nat.le_of_ble_eq_true rfl) (H1 := [.inr (.byte, [.int fv, .int fv, .int fv, .int fv, .int fv, .int 0, .int 0, .int 0])]) (by rw [hf]; rfl) ?_
  refine Go.aload d0_122 rfl rfl ?_
  refine Go.iconst d0_124 (v := 5) rfl ?_
  refine Go.iload d0_125 rfl ?_
  refine Go.bastore d0_127 rfl (by decide) (Nat.le_of_ble_eq_true rfl) (H1 := [.inr (.byte, [.int fv, .int fv, .int fv, .int fv, .int fv, .int fv, .int 0, .int 0])]) (by rw [hf]; rfl) ?_
  refine Go.aload d0_128 rfl rfl ?_
  refine Go.bipush d0_130 (v := 6) rfl ?_
  refine Go.iload d0_132 rfl ?_
  refine Go.bastore d0_134 rfl (by decide) (Nat.le_of_ble_eq_true rfl) (H1 := [.inr (.byte, [.int fv, .int fv, .int fv, .int fv, .int fv, .int fv, .int fv, .int 0])]) (by rw [hf]; rfl) ?_
  refine Go.aload d0_135 rfl rfl ?_
  refine Go.bipush d0_137 (v := 7) rfl ?_
  refine Go.iload d0_139 rfl ?_
  refine Go.bastore d0_141 rfl (by decide) (Nat.le_of_ble_eq_true rfl) (H1 := [.inr (.byte, [.int fv, .int fv, .int fv, .int fv, .int fv, .int fv, .int fv, .int fv])]) (by rw [hf]; rfl) ?_
  refine Go.aload d0_142 rfl rfl ?_
  refine Go.iload d0_144 rfl ?_
  refine Go.iload d0_146 rfl ?_
  refine Go.i2b d0_148 ?_
  refine Go.bastore d0_149 rfl (by decide) (Nat.le_of_ble_eq_true rfl) (H1 := [.inr (.byte, [.int fv, .int fv, .int fv, .int y0, .int fv, .int fv, .int fv, .int fv])]) (by rw [hy0]; rfl) ?_
  refine Go.iload d0_150 rfl ?_
  refine Go.iconst d0_152 (v := 2) rfl ?_
  refine Go.icmpF d0_153 (XT.ii_lt_f (by decide)) ?_
  refine Go.aload d0_156 rfl rfl ?_
  refine Go.iload d0_158 rfl ?_
  refine Go.iconst d0_160 (v := 1) rfl ?_
  refine Go.iadd d0_161 ?_
  show Go _ _ _ _ 162 [.val (.int x0), .val (.int x1), .val (.int x2), .val (.int x3), .val (.int x4), .val (.int x5), .val (.int 2), .val (.int 3), .val (.int b0), .val (.int b1), .val (.int b2), .val (.int b3), .val (.int w12), .val (.ref 0), .unset, .unset, .unset, .unset, .unset] [.int 4, .ref 0] [.inr (.byte, [.int fv, .int fv, .int fv, .int y0, .int fv, .int fv, .int fv, .int fv])] _
  refine Go.iload d0_162 rfl ?_
  refine Go.i2b d0_164 ?_
  refine Go.bastore d0_165 rfl (by decide) (Nat.le_of_ble_eq_true rfl) (H1 := [.inr (.byte, [.int fv, .int fv, .int fv, .int y0, .int y1, .int fv, .int fv, .int fv])]) (by rw [hy1]; rfl) ?_
  refine Go.iload d0_166 rfl ?_
  refine Go.iconst d0_168 (v := 3) rfl ?_
  refine Go.icmpT d0_169 j0_169 (XT.ii_lt_t (by decide)) ?_
  refine Go.iload d0_182 rfl ?_
  refine Go.iconst d0_184 (v := 4) rfl ?_
  refine Go.icmpT d0_185 j0_185 (XT.ii_lt_t (by decide)) ?_
  refine Go.iload d0_198 rfl ?_
  refine Go.bipush d0_200 (v := 63) rfl ?_
  refine Go.iand d0_202 ?_
  refine Go.istore d0_203 (ls' := [.val (.int x0), .val (.int x1), .val (.int x2), .val (.int x3), .val (.int x4), .val (.int x5), .val (.int 2), .val (.int 3), .val (.int b0), .val (.int b1), .val (.int b2), .val (.int b3), .val (.int w12), .val (.ref 0), .val (.int (b1 &&& 63)), .unset, .unset, .unset, .unset]) rfl ?_
  refine Go.iload d0_205 rfl ?_
  refine Go.bipush d0_207 (v := 63) rfl ?_
  refine Go.iand d0_209 ?_
  refine Go.istore d0_210 (ls' := [.val (.int x0), .val (.int x1), .val (.int x2), .val (.int x3), .val (.int x4), .val (.int x5), .val (.int 2), .val (.int 3), .val (.int b0), .val (.int b1), .val (.int b2), .val (.int b3), .val (.int w12), .val (.ref 0), .val (.int (b1 &&& 63)), .val (.int (b2 &&& 63)), .unset, .unset, .unset]) rfl ?_
  refine Go.iload d0_212 rfl ?_
  refine Go.bipush d0_214 (v := 63) rfl ?_
  refine Go.iand d0_216 ?_
  refine Go.istore d0_217 (ls' := [.val (.int x0), .val (.int x1), .val (.int x2), .val (.int x3), .val (.int x4), .val (.int x5), .val (.int 2), .val (.int 3), .val (.int b0), .val (.int b1), .val (.int b2), .val (.int b3), .val (.int w12), .val (.ref 0), .val (.int (b1 &&& 63)), .val (.int (b2 &&& 63)), .val (.int (b3 &&& 63)), .unset, .unset]) rfl ?_
  refine Go.iload d0_219 rfl ?_
  refine Go.iconst d0_221 (v := 1) rfl ?_
  refine Go.icmpT d0_222 j0_222 (XT.ii_ne_t (by decide)) ?_
  refine Go.iload d0_232 rfl ?_
  refine Go.iconst d0_234 (v := 2) rfl ?_
  refine Go.icmpF d0_235 (XT.ii_ne_f (by decide)) ?_
  refine Go.iload d0_238 rfl ?_
  refine Go.bipush d0_240 (v := 31) rfl ?_
  refine Go.iand d0_242 ?_
  refine Go.bipush d0_243 (v := 6) rfl ?_
  refine Go.ishl d0_245 ?_
  refine Go.iload d0_246 rfl ?_
  refine Go.ior d0_248 ?_
  refine Go.istore d0_249 (ls' := [.val (.int x0), .val (.int x1), .val (.int x2), .val (.int x3), .val (.int x4), .val (.int x5), .val (.int 2), .val (.int 3), .val (.int b0), .val (.int b1), .val (.int b2), .val (.int b3), .val (.int w12), .val (.ref 0), .val (.int (b1 &&& 63)), .val (.int (b2 &&& 63)), .val (.int (b3 &&& 63)), .unset, .val (.int (((b0 &&& 31) <<< (6 &&& 31)) ||| (b1 &&& 63)))]) rfl ?_
  refine Go.iload d0_251 rfl ?_
  refine Go.callS (M' := m4) d0_253 (hw _ (List.mem_of_getElem? (i := 13) rfl)) (hw _ (List.mem_of_getElem? (i := 14) rfl)) (hw _ (List.mem_of_getElem? (i := 2) rfl)) (hw _ (List.mem_of_getElem? (i := 15) rfl)) mi4 (as := [.int b1]) rfl rfl (st := []) rfl (ls1 := [.val (.int b1)]) rfl (W := 0) rfl (by decide) (by decide) (go_own_ic K hw b1 _) 15 120 (by decide) (by decide) ?_
  show Go _ _ _ _ 256 [.val (.int x0), .val (.int x1), .val (.int x2), .val (.int x3), .val (.int x4), .val (.int x5), .val (.int 2), .val (.int 3), .val (.int b0), .val (.int b1), .val (.int b2), .val (.int b3), .val (.int w12), .val (.ref 0), .val (.int (b1 &&& 63)), .val (.int (b2 &&& 63)), .val (.int (b3 &&& 63)), .unset, .val (.int (((b0 &&& 31) <<< (6 &&& 31)) ||| (b1 &&& 63)))] [.int (own_ic b1)] [.inr (.byte, [.int fv, .int fv, .int fv, .int y0, .int y1, .int fv, .int fv, .int fv])] _
  refine Go.if_eq d0_256 j0_256 (fun h256 => ?_) (fun h256 => ?_)
  · -- pc 256 taken
    refine Go.iconst d0_272 (v := (-1)) rfl ?_
    refine Go.istore d0_273 (ls' := [.val (.int x0), .val (.int x1), .val (.int x2), .val (.int x3), .val (.int x4), .val (.int x5), .val (.int 2), .val (.int 3), .val (.int b0), .val (.int b1), .val (.int b2), .val (.int b3), .val (.int w12), .val (.ref 0), .val (.int (b1 &&& 63)), .val (.int (b2 &&& 63)), .val (.int (b3 &&& 63)), .val (.int (-1)), .val (.int (((b0 &&& 31) <<< (6 &&& 31)) ||| (b1 &&& 63)))]) rfl ?_
    refine Go.goto d0_275 j0_275 ?_
    refine Go.aload d0_402 rfl rfl ?_
    refine Go.iload d0_404 rfl ?_
    refine Go.iload d0_406 rfl ?_
    refine Go.callS (M' := m3) d0_408 (hw _ (List.mem_of_getElem? (i := 8) rfl)) (hw _ (List.mem_of_getElem? (i := 9) rfl)) (hw _ (List.mem_of_getElem? (i := 10) rfl)) (hw _ (List.mem_of_getElem? (i := 11) rfl)) mi3 (as := [.ref 0, .int 3, .int 2]) rfl rfl (st := []) rfl (ls1 := [.val (.ref 0), .val (.int 3), .val (.int 2), .unset, .unset, .unset, .unset]) rfl (W := 0) rfl (by decide) (by decide) (go_own_cp2 K hw _ 0 _ 3 y0 y1 rfl (by decide) rfl (by decide) rfl) 15 120 (by decide) (by decide) ?_
    show Go _ _ _ _ 411 [.val (.int x0), .val (.int x1), .val (.int x2), .val (.int x3), .val (.int x4), .val (.int x5), .val (.int 2), .val (.int 3), .val (.int b0), .val (.int b1), .val (.int b2), .val (.int b3), .val (.int w12), .val (.ref 0), .val (.int (b1 &&& 63)), .val (.int (b2 &&& 63)), .val (.int (b3 &&& 63)), .val (.int (-1)), .val (.int (((b0 &&& 31) <<< (6 &&& 31)) ||| (b1 &&& 63)))] [.int (own_cp2 y0 y1)] [.inr (.byte, [.int fv, .int fv, .int fv, .int y0, .int y1, .int fv, .int fv, .int fv])] _
    refine Go.iload d0_411 rfl ?_
    refine Go.icmpF d0_413 (XT.ii_ne_f (by rw [own_e2 hz0 hz1, if_pos h256])) ?_
    refine Go.iconst d0_416 (v := 1) rfl ?_
    refine Go.goto d0_417 j0_417 ?_
    exact Go.ireturnZ d0_421 rfl (by decide) rfl HOk.any
  · -- pc 256 not taken
    refine Go.iload d0_259 rfl ?_
    refine Go.sipush d0_261 (v := 128) rfl ?_
    refine Go.icmp_lt d0_264 j0_264 (fun h264 => ?_) (fun h264 => ?_)
    · -- pc 264 taken
      refine Go.iconst d0_272 (v := (-1)) rfl ?_
      refine Go.istore d0_273 (ls' := [.val (.int x0), .val (.int x1), .val (.int x2), .val (.int x3), .val (.int x4), .val (.int x5), .val (.int 2), .val (.int 3), .val (.int b0), .val (.int b1), .val (.int b2), .val (.int b3), .val (.int w12), .val (.ref 0), .val (.int (b1 &&& 63)), .val (.int (b2 &&& 63)), .val (.int (b3 &&& 63)), .val (.int (-1)), .val (.int (((b0 &&& 31) <<< (6 &&& 31)) ||| (b1 &&& 63)))]) rfl ?_
      refine Go.goto d0_275 j0_275 ?_
      refine Go.aload d0_402 rfl rfl ?_
      refine Go.iload d0_404 rfl ?_
      refine Go.iload d0_406 rfl ?_
      refine Go.callS (M' := m3) d0_408 (hw _ (List.mem_of_getElem? (i := 8) rfl)) (hw _ (List.mem_of_getElem? (i := 9) rfl)) (hw _ (List.mem_of_getElem? (i := 10) rfl)) (hw _ (List.mem_of_getElem? (i := 11) rfl)) mi3 (as := [.ref 0, .int 3, .int 2]) rfl rfl (st := []) rfl (ls1 := [.val (.ref 0), .val (.int 3), .val (.int 2), .unset, .unset, .unset, .unset]) rfl (W := 0) rfl (by decide) (by decide) (go_own_cp2 K hw _ 0 _ 3 y0 y1 rfl (by decide) rfl (by decide) rfl) 15 120 (by decide) (by decide) ?_
      show Go _ _ _ _ 411 [.val (.int x0), .val (.int x1), .val (.int x2), .val (.int x3), .val (.int x4), .val (.int x5), .val (.int 2), .val (.int 3), .val (.int b0), .val (.int b1), .val (.int b2), .val (.int b3), .val (.int w12), .val (.ref 0), .val (.int (b1 &&& 63)), .val (.int (b2 &&& 63)), .val (.int (b3 &&& 63)), .val (.int (-1)), .val (.int (((b0 &&& 31) <<< (6 &&& 31)) ||| (b1 &&& 63)))] [.int (own_cp2 y0 y1)] [.inr (.byte, [.int fv, .int fv, .int fv, .int y0, .int y1, .int fv, .int fv, .int fv])] _
      refine Go.iload d0_411 rfl ?_
      refine Go.icmpF d0_413 (XT.ii_ne_f (by rw [own_e2 hz0 hz1, if_neg h256, if_pos h264])) ?_
      refine Go.iconst d0_416 (v := 1) rfl ?_
      refine Go.goto d0_417 j0_417 ?_
      exact Go.ireturnZ d0_421 rfl (by decide) rfl HOk.any
    · -- pc 264 not taken
      refine Go.iload d0_267 rfl ?_
      refine Go.goto d0_269 j0_269 ?_
      refine Go.istore d0_273 (ls' := [.val (.int x0), .val (.int x1), .val (.int x2), .val (.int x3), .val (.int x4), .val (.int x5), .val (.int 2), .val (.int 3), .val (.int b0), .val (.int b1), .val (.int b2), .val (.int b3), .val (.int w12), .val (.ref 0), .val (.int (b1 &&& 63)), .val (.int (b2 &&& 63)), .val (.int (b3 &&& 63)), .val (.int (((b0 &&& 31) <<< (6 &&& 31)) ||| (b1 &&& 63))), .val (.int (((b0 &&& 31) <<< (6 &&& 31)) ||| (b1 &&& 63)))]) rfl ?_
      refine Go.goto d0_275 j0_275 ?_
      refine Go.aload d0_402 rfl rfl ?_
      refine Go.iload d0_404 rfl ?_
      refine Go.iload d0_406 rfl ?_
      refine Go.callS (M' := m3) d0_408 (hw _ (List.mem_of_getElem? (i := 8) rfl)) (hw _ (List.mem_of_getElem? (i := 9) rfl)) (hw _ (List.mem_of_getElem? (i := 10) rfl)) (hw _ (List.mem_of_getElem? (i := 11) rfl)) mi3 (as := [.ref 0, .int 3, .int 2]) rfl rfl (st := []) rfl (ls1 := [.val (.ref 0), .val (.int 3), .val (.int 2), .unset, .unset, .unset, .unset]) rfl (W := 0) rfl (by decide) (by decide) (go_own_cp2 K hw _ 0 _ 3 y0 y1 rfl (by decide) rfl (by decide) rfl) 15 120 (by decide) (by decide) ?_
      show Go _ _ _ _ 411 [.val (.int x0), .val (.int x1), .val (.int x2), .val (.int x3), .val (.int x4), .val (.int x5), .val (.int 2), .val (.int 3), .val (.int b0), .val (.int b1), .val (.int b2), .val (.int b3), .val (.int w12), .val (.ref 0), .val (.int (b1 &&& 63)), .val (.int (b2 &&& 63)), .val (.int (b3 &&& 63)), .val (.int (((b0 &&& 31) <<< (6 &&& 31)) ||| (b1 &&& 63))), .val (.int (((b0 &&& 31) <<< (6 &&& 31)) ||| (b1 &&& 63)))] [.int (own_cp2 y0 y1)] [.inr (.byte, [.int fv, .int fv, .int fv, .int y0, .int y1, .int fv, .int fv, .int fv])] _
      refine Go.iload d0_411 rfl ?_
      refine Go.icmpF d0_413 (XT.ii_ne_f (by rw [own_e2 hz0 hz1, if_neg h256, if_neg h264])) ?_
      refine Go.iconst d0_416 (v := 1) rfl ?_
      refine Go.goto d0_417 j0_417 ?_
      exact Go.ireturnZ d0_421 rfl (by decide) rfl HOk.any
theorem go_t86_3_0 (K : Ctx) (hw : ∀ d ∈ tables_1, d.before K.2.2.1 K.2.1 = true) (x0 x1 x2 x3 x4 x5 b0 b1 b2 b3 w12 fv y0 y1 y2 y3 : Int32) (hf : nar .byte w12 = fv) (hy0 : nar .byte ((Int32.toInt8 b0).toInt32) = y0) (hy1 : nar .byte ((Int32.toInt8 b1).toInt32) = y1) (hy2 : nar .byte ((Int32.toInt8 b2).toInt32) = y2) (hy3 : nar .byte ((Int32.toInt8 b3).toInt32) = y3) (hz0 : y0 &&& 15 = b0 &&& 15) (hz1 : y1 &&& 255 = b1)  (hz2 : y2 &&& 255 = b2)  (hz3 : y3 &&& 255 = b3) : Go K m0 4 112 86 [.val (.int x0), .val (.int x1), .val (.int x2), .val (.int x3), .val (.int x4), .val (.int x5), .val (.int 3), .val (.int 0), .val (.int b0), .val (.int b1), .val (.int b2), .val (.int b3), .val (.int w12), .unset, .unset, .unset, .unset, .unset, .unset] [] [] (some (.int 1), none, 16, 128) := by
  refine Go.bipush d0_86 (v := 8) rfl ?_
  refine Go.newarray 8 d0_88 (hw _ (List.mem_of_getElem? (i := 7) rfl)) (t := .byte) rfl (by decide) (by decide) (by decide) (vs := [.int 0, .int 0, .int 0, .int 0, .int 0, .int 0, .int 0, .int 0]) rfl (i := 0) rfl 15 120 (by decide) (by decide) ?_
  show Go _ _ _ _ 90 [.val (.int x0), .val (.int x1), .val (.int x2), .val (.int x3), .val (.int x4), .val (.int x5), .val (.int 3), .val (.int 0), .val (.int b0), .val (.int b1), .val (.int b2), .val (.int b3), .val (.int w12), .unset, .unset, .unset, .unset, .unset, .unset] [.ref 0] [.inr (.byte, [.int 0, .int 0, .int 0, .int 0, .int 0, .int 0, .int 0, .int 0])] _
  refine Go.astore d0_90 (ls' := [.val (.int x0), .val (.int x1), .val (.int x2), .val (.int x3), .val (.int x4), .val (.int x5), .val (.int 3), .val (.int 0), .val (.int b0), .val (.int b1), .val (.int b2), .val (.int b3), .val (.int w12), .val (.ref 0), .unset, .unset, .unset, .unset, .unset]) rfl rfl ?_
  refine Go.aload d0_92 rfl rfl ?_
  refine Go.iconst d0_94 (v := 0) rfl ?_
  refine Go.iload d0_95 rfl ?_
  refine Go.bastore d0_97 rfl (by decide) (Nat.le_of_ble_eq_true rfl) (H1 := [.inr (.byte, [.int fv, .int 0, .int 0, .int 0, .int 0, .int 0, .int 0, .int 0])]) (by rw [hf]; rfl) ?_
  refine Go.aload d0_98 rfl rfl ?_
  refine Go.iconst d0_100 (v := 1) rfl ?_
  refine Go.iload d0_101 rfl ?_
  refine Go.bastore d0_103 rfl (by decide) (Nat.le_of_ble_eq_true rfl) (H1 := [.inr (.byte, [.int fv, .int fv, .int 0, .int 0, .int 0, .int 0, .int 0, .int 0])]) (by rw [hf]; rfl) ?_
  refine Go.aload d0_104 rfl rfl ?_
  refine Go.iconst d0_106 (v := 2) rfl ?_
  refine Go.iload d0_107 rfl ?_
  refine Go.bastore d0_109 rfl (by decide) (Nat.le_of_ble_eq_true rfl) (H1 := [.inr (.byte, [.int fv, .int fv, .int fv, .int 0, .int 0, .int 0, .int 0, .int 0])]) (by rw [hf]; rfl) ?_
  refine Go.aload d0_110 rfl rfl ?_
  refine Go.iconst d0_112 (v := 3) rfl ?_
  refine Go.iload d0_113 rfl ?_
  refine Go.bastore d0_115 rfl (by decide) (Nat.le_of_ble_eq_true rfl) (H1 := [.inr (.byte, [.int fv, .int fv, .int fv, .int fv, .int 0, .int 0, .int 0, .int 0])]) (by rw [hf]; rfl) ?_
  refine Go.aload d0_116 rfl rfl ?_
  refine Go.iconst d0_118 (v := 4) rfl ?_
  refine Go.iload d0_119 rfl ?_
  refine Go.bastore d0_121 rfl (by decide) (Nat.le_of_ble_eq_true rfl) (H1 := [.inr (.byte, [.int fv, .int fv, .int fv, .int fv, .int fv, .int 0, .int 0, .int 0])]) (by rw [hf]; rfl) ?_
  refine Go.aload d0_122 rfl rfl ?_
  refine Go.iconst d0_124 (v := 5) rfl ?_
  refine Go.iload d0_125 rfl ?_
  refine Go.bastore d0_127 rfl (by decide) (Nat.le_of_ble_eq_true rfl) (H1 := [.inr (.byte, [.int fv, .int fv, .int fv, .int fv, .int fv, .int fv, .int 0, .int 0])]) (by rw [hf]; rfl) ?_
  refine Go.aload d0_128 rfl rfl ?_
  refine Go.bipush d0_130 (v := 6) rfl ?_
  refine Go.iload d0_132 rfl ?_
  refine Go.bastore d0_134 rfl (by decide) (Nat.le_of_ble_eq_true rfl) (H1 := [.inr (.byte, [.int fv, .int fv, .int fv, .int fv, .int fv, .int fv, .int fv, .int 0])]) (by rw [hf]; rfl) ?_
  refine Go.aload d0_135 rfl rfl ?_
  refine Go.bipush d0_137 (v := 7) rfl ?_
  refine Go.iload d0_139 rfl ?_
  refine Go.bastore d0_141 rfl (by decide) (Nat.le_of_ble_eq_true rfl) (H1 := [.inr (.byte, [.int fv, .int fv, .int fv, .int fv, .int fv, .int fv, .int fv, .int fv])]) (by rw [hf]; rfl) ?_
  refine Go.aload d0_142 rfl rfl ?_
  refine Go.iload d0_144 rfl ?_
  refine Go.iload d0_146 rfl ?_
  refine Go.i2b d0_148 ?_
  refine Go.bastore d0_149 rfl (by decide) (Nat.le_of_ble_eq_true rfl) (H1 := [.inr (.byte, [.int y0, .int fv, .int fv, .int fv, .int fv, .int fv, .int fv, .int fv])]) (by rw [hy0]; rfl) ?_
  refine Go.iload d0_150 rfl ?_
  refine Go.iconst d0_152 (v := 2) rfl ?_
  refine Go.icmpF d0_153 (XT.ii_lt_f (by decide)) ?_
  refine Go.aload d0_156 rfl rfl ?_
  refine Go.iload d0_158 rfl ?_
  refine Go.iconst d0_160 (v := 1) rfl ?_
  refine Go.iadd d0_161 ?_
  show Go _ _ _ _ 162 [.val (.int x0), .val (.int x1), .val (.int x2), .val (.int x3), .val (.int x4), .val (.int x5), .val (.int 3), .val (.int 0), .val (.int b0), .val (.int b1), .val (.int b2), .val (.int b3), .val (.int w12), .val (.ref 0), .unset, .unset, .unset, .unset, .unset] [.int 1, .ref 0] [.inr (.byte, [.int y0, .int fv, .int fv, .int fv, .int fv, .int fv, .int fv, .int fv])] _
  refine Go.iload d0_162 rfl ?_
  refine Go.i2b d0_164 ?_
  refine Go.bastore d0_165 rfl (by decide) (Nat.le_of_ble_eq_true rfl) (H1 := [.inr (.byte, [.int y0, .int y1, .int fv, .int fv, .int fv, .int fv, .int fv, .int fv])]) (by rw [hy1]; rfl) ?_
  refine Go.iload d0_166 rfl ?_
  refine Go.iconst d0_168 (v := 3) rfl ?_
  refine Go.icmpF d0_169 (XT.ii_lt_f (by decide)) ?_
  refine Go.aload d0_172 rfl rfl ?_
  refine Go.iload d0_174 rfl ?_
  refine Go.iconst d0_176 (v := 2) rfl ?_
  refine Go.iadd d0_177 ?_
  show Go _ _ _ _ 178 [.val (.int x0), .val (.int x1), .val (.int x2), .val (.int x3), .val (.int x4), .val (.int x5), .val (.int 3), .val (.int 0), .val (.int b0), .val (.int b1), .val (.int b2), .val (.int b3), .val (.int w12), .val (.ref 0), .unset, .unset, .unset, .unset, .unset] [.int 2, .ref 0] [.inr (.byte, [.int y0, .int y1, .int fv, .int fv, .int fv, .int fv, .int fv, .int fv])] _
  refine Go.iload d0_178 rfl ?_
  refine Go.i2b d0_180 ?_
  refine Go.bastore d0_181 rfl (by decide) (Nat.le_of_ble_eq_true rfl) (H1 := [.inr (.byte, [.int y0, .int y1, .int y2, .int fv, .int fv, .int fv, .int fv, .int fv])]) (by rw [hy2]; rfl) ?_
  refine Go.iload d0_182 rfl ?_
  refine Go.iconst d0_184 (v := 4) rfl ?_
  refine Go.icmpT d0_185 j0_185 (XT.ii_lt_t (by decide)) ?_
  refine Go.iload d0_198 rfl ?_
  refine Go.bipush d0_200 (v := 63) rfl ?_
  refine Go.iand d0_202 ?_
  refine Go.istore d0_203 (ls' := [.val (.int x0), .val (.int x1), .val (.int x2), .val (.int x3), .val (.int x4), .val (.int x5), .val (.int 3), .val (.int 0), .val (.int b0), .val (.int b1), .val (.int b2), .val (.int b3), .val (.int w12), .val (.ref 0), .val (.int (b1 &&& 63)), .unset, .unset, .unset, .unset]) rfl ?_
  refine Go.iload d0_205 rfl ?_
  refine Go.bipush d0_207 (v := 63) rfl ?_
  refine Go.iand d0_209 ?_
  refine Go.istore d0_210 (ls' := [.val (.int x0), .val (.int x1), .val (.int x2), .val (.int x3), .val (.int x4), .val (.int x5), .val (.int 3), .val (.int 0), .val (.int b0), .val (.int b1), .val (.int b2), .val (.int b3), .val (.int w12), .val (.ref 0), .val (.int (b1 &&& 63)), .val (.int (b2 &&& 63)), .unset, .unset, .unset]) rfl ?_
  refine Go.iload d0_212 rfl ?_
  refine Go.bipush d0_214 (v := 63) rfl ?_
  refine Go.iand d0_216 ?_
  refine Go.istore d0_217 (ls' := [.val (.int x0), .val (.int x1), .val (.int x2), .val (.int x3), .val (.int x4), .val (.int x5), .val (.int 3), .val (.int 0), .val (.int b0), .val (.int b1), .val (.int b2), .val (.int b3), .val (.int w12), .val (.ref 0), .val (.int (b1 &&& 63)), .val (.int (b2 &&& 63)), .val (.int (b3 &&& 63)), .unset, .unset]) rfl ?_
  refine Go.iload d0_219 rfl ?_
  refine Go.iconst d0_221 (v := 1) rfl ?_
  refine Go.icmpT d0_222 j0_222 (XT.ii_ne_t (by decide)) ?_
  refine Go.iload d0_232 rfl ?_
  refine Go.iconst d0_234 (v := 2) rfl ?_
  refine Go.icmpT d0_235 j0_235 (XT.ii_ne_t (by decide)) ?_
  refine Go.iload d0_278 rfl ?_
  refine Go.iconst d0_280 (v := 3) rfl ?_
  refine Go.icmpF d0_281 (XT.ii_ne_f (by decide)) ?_
  refine Go.iload d0_284 rfl ?_
  refine Go.bipush d0_286 (v := 15) rfl ?_
  refine Go.iand d0_288 ?_
  refine Go.bipush d0_289 (v := 12) rfl ?_
  refine Go.ishl d0_291 ?_
  refine Go.iload d0_292 rfl ?_
  refine Go.bipush d0_294 (v := 6) rfl ?_
  refine Go.ishl d0_296 ?_
  refine Go.ior d0_297 ?_
  refine Go.iload d0_298 rfl ?_
  refine Go.ior d0_300 ?_
  refine Go.istore d0_301 (ls' := [.val (.int x0), .val (.int x1), .val (.int x2), .val (.int x3), .val (.int x4), .val (.int x5), .val (.int 3), .val (.int 0), .val (.int b0), .val (.int b1), .val (.int b2), .val (.int b3), .val (.int w12), .val (.ref 0), .val (.int (b1 &&& 63)), .val (.int (b2 &&& 63)), .val (.int (b3 &&& 63)), .unset, .val (.int ((((b0 &&& 15) <<< (12 &&& 31)) ||| ((b1 &&& 63) <<< (6 &&& 31))) ||| (b2 &&& 63)))]) rfl ?_
  refine Go.iload d0_303 rfl ?_
  refine Go.callS (M' := m4) d0_305 (hw _ (List.mem_of_getElem? (i := 13) rfl)) (hw _ (List.mem_of_getElem? (i := 14) rfl)) (hw _ (List.mem_of_getElem? (i := 2) rfl)) (hw _ (List.mem_of_getElem? (i := 15) rfl)) mi4 (as := [.int b1]) rfl rfl (st := []) rfl (ls1 := [.val (.int b1)]) rfl (W := 0) rfl (by decide) (by decide) (go_own_ic K hw b1 _) 15 120 (by decide) (by decide) ?_
  show Go _ _ _ _ 308 [.val (.int x0), .val (.int x1), .val (.int x2), .val (.int x3), .val (.int x4), .val (.int x5), .val (.int 3), .val (.int 0), .val (.int b0), .val (.int b1), .val (.int b2), .val (.int b3), .val (.int w12), .val (.ref 0), .val (.int (b1 &&& 63)), .val (.int (b2 &&& 63)), .val (.int (b3 &&& 63)), .unset, .val (.int ((((b0 &&& 15) <<< (12 &&& 31)) ||| ((b1 &&& 63) <<< (6 &&& 31))) ||| (b2 &&& 63)))] [.int (own_ic b1)] [.inr (.byte, [.int y0, .int y1, .int y2, .int fv, .int fv, .int fv, .int fv, .int fv])] _
  refine Go.if_eq d0_308 j0_308 (fun h308 => ?_) (fun h308 => ?_)
  · -- pc 308 taken
    refine Go.iconst d0_332 (v := (-1)) rfl ?_
    refine Go.istore d0_333 (ls' := [.val (.int x0), .val (.int x1), .val (.int x2), .val (.int x3), .val (.int x4), .val (.int x5), .val (.int 3), .val (.int 0), .val (.int b0), .val (.int b1), .val (.int b2), .val (.int b3), .val (.int w12), .val (.ref 0), .val (.int (b1 &&& 63)), .val (.int (b2 &&& 63)), .val (.int (b3 &&& 63)), .val (.int (-1)), .val (.int ((((b0 &&& 15) <<< (12 &&& 31)) ||| ((b1 &&& 63) <<< (6 &&& 31))) ||| (b2 &&& 63)))]) rfl ?_
    refine Go.goto d0_335 j0_335 ?_
    refine Go.aload d0_402 rfl rfl ?_
    refine Go.iload d0_404 rfl ?_
    refine Go.iload d0_406 rfl ?_
    refine Go.callS (M' := m3) d0_408 (hw _ (List.mem_of_getElem? (i := 8) rfl)) (hw _ (List.mem_of_getElem? (i := 9) rfl)) (hw _ (List.mem_of_getElem? (i := 10) rfl)) (hw _ (List.mem_of_getElem? (i := 11) rfl)) mi3 (as := [.ref 0, .int 0, .int 3]) rfl rfl (st := []) rfl (ls1 := [.val (.ref 0), .val (.int 0), .val (.int 3), .unset, .unset, .unset, .unset]) rfl (W := 0) rfl (by decide) (by decide) (go_own_cp3 K hw _ 0 _ 0 y0 y1 y2 rfl (by decide) rfl (by decide) rfl (by decide) rfl) 15 120 (by decide) (by decide) ?_
    show Go _ _ _ _ 411 [.val (.int x0), .val (.int x1), .val (.int x2), .val (.int x3), .val (.int x4), .val (.int x5), .val (.int 3), .val (.int 0), .val (.int b0), .val (.int b1), .val (.int b2), .val (.int b3), .val (.int w12), .val (.ref 0), .val (.int (b1 &&& 63)), .val (.int (b2 &&& 63)), .val (.int (b3 &&& 63)), .val (.int (-1)), .val (.int ((((b0 &&& 15) <<< (12 &&& 31)) ||| ((b1 &&& 63) <<< (6 &&& 31))) ||| (b2 &&& 63)))] [.int (own_cp3 y0 y1 y2)] [.inr (.byte, [.int y0, .int y1, .int y2, .int fv, .int fv, .int fv, .int fv, .int fv])] _
    refine Go.iload d0_411 rfl ?_
    refine Go.icmpF d0_413 (XT.ii_ne_f (by rw [own_e3 hz0 hz1 hz2, if_pos h308])) ?_
    refine Go.iconst d0_416 (v := 1) rfl ?_
    refine Go.goto d0_417 j0_417 ?_
    exact Go.ireturnZ d0_421 rfl (by decide) rfl HOk.any
  · -- pc 308 not taken
    refine Go.iload d0_311 rfl ?_
    refine Go.callS (M' := m4) d0_313 (hw _ (List.mem_of_getElem? (i := 13) rfl)) (hw _ (List.mem_of_getElem? (i := 14) rfl)) (hw _ (List.mem_of_getElem? (i := 2) rfl)) (hw _ (List.mem_of_getElem? (i := 15) rfl)) mi4 (as := [.int b2]) rfl rfl (st := []) rfl (ls1 := [.val (.int b2)]) rfl (W := 0) rfl (by decide) (by decide) (go_own_ic K hw b2 _) 15 120 (by decide) (by decide) ?_
    show Go _ _ _ _ 316 [.val (.int x0), .val (.int x1), .val (.int x2), .val (.int x3), .val (.int x4), .val (.int x5), .val (.int 3), .val (.int 0), .val (.int b0), .val (.int b1), .val (.int b2), .val (.int b3), .val (.int w12), .val (.ref 0), .val (.int (b1 &&& 63)), .val (.int (b2 &&& 63)), .val (.int (b3 &&& 63)), .unset, .val (.int ((((b0 &&& 15) <<< (12 &&& 31)) ||| ((b1 &&& 63) <<< (6 &&& 31))) ||| (b2 &&& 63)))] [.int (own_ic b2)] [.inr (.byte, [.int y0, .int y1, .int y2, .int fv, .int fv, .int fv, .int fv, .int fv])] _
    refine Go.if_eq d0_316 j0_316 (fun h316 => ?_) (fun h316 => ?_)
    · -- pc 316 taken
      refine Go.iconst d0_332 (v := (-1)) rfl ?_
      refine Go.istore d0_333 (ls' := [.val (.int x0), .val (.int x1), .val (.int x2), .val (.int x3), .val (.int x4), .val (.int x5), .val (.int 3), .val (.int 0), .val (.int b0), .val (.int b1), .val (.int b2), .val (.int b3), .val (.int w12), .val (.ref 0), .val (.int (b1 &&& 63)), .val (.int (b2 &&& 63)), .val (.int (b3 &&& 63)), .val (.int (-1)), .val (.int ((((b0 &&& 15) <<< (12 &&& 31)) ||| ((b1 &&& 63) <<< (6 &&& 31))) ||| (b2 &&& 63)))]) rfl ?_
      refine Go.goto d0_335 j0_335 ?_
      refine Go.aload d0_402 rfl rfl ?_
      refine Go.iload d0_404 rfl ?_
      refine Go.iload d0_406 rfl ?_
      refine Go.callS (M' := m3) d0_408 (hw _ (List.mem_of_getElem? (i := 8) rfl)) (hw _ (List.mem_of_getElem? (i := 9) rfl)) (hw _ (List.mem_of_getElem? (i := 10) rfl)) (hw _ (List.mem_of_getElem? (i := 11) rfl)) mi3 (as := [.ref 0, .int 0, .int 3]) rfl rfl (st := []) rfl (ls1 := [.val (.ref 0), .val (.int 0), .val (.int 3), .unset, .unset, .unset, .unset]) rfl (W := 0) rfl (by decide) (by decide) (go_own_cp3 K hw _ 0 _ 0 y0 y1 y2 rfl (by decide) rfl (by decide) rfl (by decide) rfl) 15 120 (by decide) (by decide) ?_
      show Go _ _ _ _ 411 [.val (.int x0), .val (.int x1), .val (.int x2), .val (.int x3), .val (.int x4), .val (.int x5), .val (.int 3), .val (.int 0), .val (.int b0), .val (.int b1), .val (.int b2), .val (.int b3), .val (.int w12), .val (.ref 0), .val (.int (b1 &&& 63)), .val (.int (b2 &&& 63)), .val (.int (b3 &&& 63)), .val (.int (-1)), .val (.int ((((b0 &&& 15) <<< (12 &&& 31)) ||| ((b1 &&& 63) <<< (6 &&& 31))) ||| (b2 &&& 63)))] [.int (own_cp3 y0 y1 y2)] [.inr (.byte, [.int y0, .int y1, .int y2, .int fv, .int fv, .int fv, .int fv, .int fv])] _
      refine Go.iload d0_411 rfl ?_
      refine Go.icmpF d0_413 (XT.ii_ne_f (by rw [own_e3 hz0 hz1 hz2, if_neg h308, if_pos h316])) ?_
      refine Go.iconst d0_416 (v := 1) rfl ?_
      refine Go.goto d0_417 j0_417 ?_
      exact Go.ireturnZ d0_421 rfl (by decide) rfl HOk.any
    · -- pc 316 not taken
      refine Go.iload d0_319 rfl ?_
      refine Go.sipush d0_321 (v := 2048) rfl ?_
      refine Go.icmp_lt d0_324 j0_324 (fun h324 => ?_) (fun h324 => ?_)
      · -- pc 324 taken
        refine Go.iconst d0_332 (v := (-1)) rfl ?_
        refine Go.istore d0_333 (ls' := [.val (.int x0), .val (.int x1), .val (.int x2), .val (.int x3), .val (.int x4), .val (.int x5), .val (.int 3), .val (.int 0), .val (.int b0), .val (.int b1), .val (.int b2), .val (.int b3), .val (.int w12), .val (.ref 0), .val (.int (b1 &&& 63)), .val (.int (b2 &&& 63)), .val (.int (b3 &&& 63)), .val (.int (-1)), .val (.int ((((b0 &&& 15) <<< (12 &&& 31)) ||| ((b1 &&& 63) <<< (6 &&& 31))) ||| (b2 &&& 63)))]) rfl ?_
        refine Go.goto d0_335 j0_335 ?_
        refine Go.aload d0_402 rfl rfl ?_
        refine Go.iload d0_404 rfl ?_
        refine Go.iload d0_406 rfl ?_
        refine Go.callS (M' := m3) d0_408 (hw _ (List.mem_of_getElem? (i := 8) rfl)) (hw _ (List.mem_of_getElem? (i := 9) rfl)) (hw _ (List.mem_of_getElem? (i := 10) rfl)) (hw _ (List.mem_of_getElem? (i := 11) rfl)) mi3 (as := [.ref 0, .int 0, .int 3]) rfl rfl (st := []) rfl (ls1 := [.val (.ref 0), .val (.int 0), .val (.int 3), .unset, .unset, .unset, .unset]) rfl (W := 0) rfl (by decide) (by decide) (go_own_cp3 K hw _ 0 _ 0 y0 y1 y2 rfl (by decide) rfl (by decide) rfl (by decide) rfl) 15 120 (by decide) (by decide) ?_
        show Go _ _ _ _ 411 [.val (.int x0), .val (.int x1), .val (.int x2), .val (.int x3), .val (.int x4), .val (.int x5), .val (.int 3), .val (.int 0), .val (.int b0), .val (.int b1), .val (.int b2), .val (.int b3), .val (.int w12), .val (.ref 0), .val (.int (b1 &&& 63)), .val (.int (b2 &&& 63)), .val (.int (b3 &&& 63)), .val (.int (-1)), .val (.int ((((b0 &&& 15) <<< (12 &&& 31)) ||| ((b1 &&& 63) <<< (6 &&& 31))) ||| (b2 &&& 63)))] [.int (own_cp3 y0 y1 y2)] [.inr (.byte, [.int y0, .int y1, .int y2, .int fv, .int fv, .int fv, .int fv, .int fv])] _
        refine Go.iload d0_411 rfl ?_
        refine Go.icmpF d0_413 (XT.ii_ne_f (by rw [own_e3 hz0 hz1 hz2, if_neg h308, if_neg h316, if_pos h324])) ?_
        refine Go.iconst d0_416 (v := 1) rfl ?_
        refine Go.goto d0_417 j0_417 ?_
        exact Go.ireturnZ d0_421 rfl (by decide) rfl HOk.any
      · -- pc 324 not taken
        refine Go.iload d0_327 rfl ?_
        refine Go.goto d0_329 j0_329 ?_
        refine Go.istore d0_333 (ls' := [.val (.int x0), .val (.int x1), .val (.int x2), .val (.int x3), .val (.int x4), .val (.int x5), .val (.int 3), .val (.int 0), .val (.int b0), .val (.int b1), .val (.int b2), .val (.int b3), .val (.int w12), .val (.ref 0), .val (.int (b1 &&& 63)), .val (.int (b2 &&& 63)), .val (.int (b3 &&& 63)), .val (.int ((((b0 &&& 15) <<< (12 &&& 31)) ||| ((b1 &&& 63) <<< (6 &&& 31))) ||| (b2 &&& 63))), .val (.int ((((b0 &&& 15) <<< (12 &&& 31)) ||| ((b1 &&& 63) <<< (6 &&& 31))) ||| (b2 &&& 63)))]) rfl ?_
        refine Go.goto d0_335 j0_335 ?_
        refine Go.aload d0_402 rfl rfl ?_
        refine Go.iload d0_404 rfl ?_
        refine Go.iload d0_406 rfl ?_
        refine Go.callS (M' := m3) d0_408 (hw _ (List.mem_of_getElem? (i := 8) rfl)) (hw _ (List.mem_of_getElem? (i := 9) rfl)) (hw _ (List.mem_of_getElem? (i := 10) rfl)) (hw _ (List.mem_of_getElem? (i := 11) rfl)) mi3 (as := [.ref 0, .int 0, .int 3]) rfl rfl (st := []) rfl (ls1 := [.val (.ref 0), .val (.int 0), .val (.int 3), .unset, .unset, .unset, .unset]) rfl (W := 0) rfl (by decide) (by decide) (go_own_cp3 K hw _ 0 _ 0 y0 y1 y2 rfl (by decide) rfl (by decide) rfl (by decide) rfl) 15 120 (by decide) (by decide) ?_
        show Go _ _ _ _ 411 [.val (.int x0), .val (.int x1), .val (.int x2), .val (.int x3), .val (.int x4), .val (.int x5), .val (.int 3), .val (.int 0), .val (.int b0), .val (.int b1), .val (.int b2), .val (.int b3), .val (.int w12), .val (.ref 0), .val (.int (b1 &&& 63)), .val (.int (b2 &&& 63)), .val (.int (b3 &&& 63)), .val (.int ((((b0 &&& 15) <<< (12 &&& 31)) ||| ((b1 &&& 63) <<< (6 &&& 31))) ||| (b2 &&& 63))), .val (.int ((((b0 &&& 15) <<< (12 &&& 31)) ||| ((b1 &&& 63) <<< (6 &&& 31))) ||| (b2 &&& 63)))] [.int (own_cp3 y0 y1 y2)] [.inr (.byte, [.int y0, .int y1, .int y2, .int fv, .int fv, .int fv, .int fv, .int fv])] _
        refine Go.iload d0_411 rfl ?_
        refine Go.icmpF d0_413 (XT.ii_ne_f (by rw [own_e3 hz0 hz1 hz2, if_neg h308, if_neg h316, if_neg h324])) ?_
        refine Go.iconst d0_416 (v := 1) rfl ?_
        refine Go.goto d0_417 j0_417 ?_
        exact Go.ireturnZ d0_421 rfl (by decide) rfl HOk.any
theorem go_t86_3_1 (K : Ctx) (hw : ∀ d ∈ tables_1, d.before K.2.2.1 K.2.1 = true) (x0 x1 x2 x3 x4 x5 b0 b1 b2 b3 w12 fv y0 y1 y2 y3 : Int32) (hf : nar .byte w12 = fv) (hy0 : nar .byte ((Int32.toInt8 b0).toInt32) = y0) (hy1 : nar .byte ((Int32.toInt8 b1).toInt32) = y1) (hy2 : nar .byte ((Int32.toInt8 b2).toInt32) = y2) (hy3 : nar .byte ((Int32.toInt8 b3).toInt32) = y3) (hz0 : y0 &&& 15 = b0 &&& 15) (hz1 : y1 &&& 255 = b1)  (hz2 : y2 &&& 255 = b2)  (hz3 : y3 &&& 255 = b3) : Go K m0 4 112 86 [.val (.int x0), .val (.int x1), .val (.int x2), .val (.int x3), .val (.int x4), .val (.int x5), .val (.int 3), .val (.int 1), .val (.int b0), .val (.int b1), .val (.int b2), .val (.int b3), .val (.int w12), .unset, .unset, .unset, .unset, .unset, .unset] [] [] (some (.int 1), none, 16, 128) := by
  refine Go.bipush d0_86 (v := 8) rfl ?_
  refine Go.newarray 8 d0_88 (hw _ (List.mem_of_getElem? (i := 7) rfl)) (t := .byte) rfl (by decide) (by decide) (by decide) (vs := [.int 0, .int 0, .int 0, .int 0, .int 0, .int 0, .int 0, .int 0]) rfl (i := 0) rfl 15 120 (by decide) (by decide) ?_
  show Go _ _ _ _ 90 [.val (.int x0), .val (.int x1), .val (.int x2), .val (.int x3), .val (.int x4), .val (.int x5), .val (.int 3), .val (.int 1), .val (.int b0), .val (.int b1), .val (.int b2), .val (.int b3), .val (.int w12), .unset, .unset, .unset, .unset, .unset, .unset] [.ref 0] [.inr (.byte, [.int 0, .int 0, .int 0, .int 0, .int 0, .int 0, .int 0, .int 0])] _
  refine Go.astore d0_90 (ls' := [.val (.int x0), .val (.int x1), .val (.int x2), .val (.int x3), .val (.int x4), .val (.int x5), .val (.int 3), .val (.int 1), .val (.int b0), .val (.int b1), .val (.int b2), .val (.int b3), .val (.int w12), .val (.ref 0), .unset, .unset, .unset, .unset, .unset]) rfl rfl ?_
  refine Go.aload d0_92 rfl rfl ?_
  refine Go.iconst d0_94 (v := 0) rfl ?_
  refine Go.iload d0_95 rfl ?_
  refine Go.bastore d0_97 rfl (by decide) (Nat.le_of_ble_eq_true rfl) (H1 := [.inr (.byte, [.int fv, .int 0, .int 0, .int 0, .int 0, .int 0, .int 0, .int 0])]) (by rw [hf]; rfl) ?_
  refine Go.aload d0_98 rfl rfl ?_
  refine Go.iconst d0_100 (v := 1) rfl ?_
  refine Go.iload d0_101 rfl ?_
  refine Go.bastore d0_103 rfl (by decide) (Nat.le_of_ble_eq_true rfl) (H1 := [.inr (.byte, [.int fv, .int fv, .int 0, .int 0, .int 0, .int 0, .int 0, .int 0])]) (by rw [hf]; rfl) ?_
  refine Go.aload d0_104 rfl rfl ?_
  refine Go.iconst d0_106 (v := 2) rfl ?_
  refine Go.iload d0_107 rfl ?_
  refine Go.bastore d0_109 rfl (by decide) (Nat.le_of_ble_eq_true rfl) (H1 := [.inr (.byte, [.int fv, .int fv, .int fv, .int 0, .int 0, .int 0, .int 0, .int 0])]) (by rw [hf]; rfl) ?_
  refine Go.aload d0_110 rfl rfl ?_
  refine Go.iconst d0_112 (v := 3) rfl ?_
  refine Go.iload d0_113 rfl ?_
  refine Go.bastore d0_115 rfl (by decide) (Nat.le_of_ble_eq_true rfl) (H1 := [.inr (.byte, [.int fv, .int fv, .int fv, .int fv, .int 0, .int 0, .int 0, .int 0])]) (by rw [hf]; rfl) ?_
  refine Go.aload d0_116 rfl rfl ?_
  refine Go.iconst d0_118 (v := 4) rfl ?_
  refine Go.iload d0_119 rfl ?_
  refine Go.bastore d0_121 rfl (by decide) (Nat.le_of_ble_eq_true rfl) (H1 := [.inr (.byte, [.int fv, .int fv, .int fv, .int fv, .int fv, .int 0, .int 0, .int 0])]) (by rw [hf]; rfl) ?_
  refine Go.aload d0_122 rfl rfl ?_
  refine Go.iconst d0_124 (v := 5) rfl ?_
  refine Go.iload d0_125 rfl ?_
  refine Go.bastore d0_127 rfl (by decide) (Nat.le_of_ble_eq_true rfl) (H1 := [.inr (.byte, [.int fv, .int fv, .int fv, .int fv, .int fv, .int fv, .int 0, .int 0])]) (by rw [hf]; rfl) ?_
  refine Go.aload d0_128 rfl rfl ?_
  refine Go.bipush d0_130 (v := 6) rfl ?_
  refine Go.iload d0_132 rfl ?_
  refine Go.bastore d0_134 rfl (by decide) (Nat.le_of_ble_eq_true rfl) (H1 := [.inr (.byte, [.int fv, .int fv, .int fv, .int fv, .int fv, .int fv, .int fv, .int 0])]) (by rw [hf]; rfl) ?_
  refine Go.aload d0_135 rfl rfl ?_
  refine Go.bipush d0_137 (v := 7) rfl ?_
  refine Go.iload d0_139 rfl ?_
  refine Go.bastore d0_141 rfl (by decide) (Nat.le_of_ble_eq_true rfl) (H1 := [.inr (.byte, [.int fv, .int fv, .int fv, .int fv, .int fv, .int fv, .int fv, .int fv])]) (by rw [hf]; rfl) ?_
  refine Go.aload d0_142 rfl rfl ?_
  refine Go.iload d0_144 rfl ?_
  refine Go.iload d0_146 rfl ?_
  refine Go.i2b d0_148 ?_
  refine Go.bastore d0_149 rfl (by decide) (Nat.le_of_ble_eq_true rfl) (H1 := [.inr (.byte, [.int fv, .int y0, .int fv, .int fv, .int fv, .int fv, .int fv, .int fv])]) (by rw [hy0]; rfl) ?_
  refine Go.iload d0_150 rfl ?_
  refine Go.iconst d0_152 (v := 2) rfl ?_
  refine Go.icmpF d0_153 (XT.ii_lt_f (by decide)) ?_
  refine Go.aload d0_156 rfl rfl ?_
  refine Go.iload d0_158 rfl ?_
  refine Go.iconst d0_160 (v := 1) rfl ?_
  refine Go.iadd d0_161 ?_
  show Go _ _ _ _ 162 [.val (.int x0), .val (.int x1), .val (.int x2), .val (.int x3), .val (.int x4), .val (.int x5), .val (.int 3), .val (.int 1), .val (.int b0), .val (.int b1), .val (.int b2), .val (.int b3), .val (.int w12), .val (.ref 0), .unset, .unset, .unset, .unset, .unset] [.int 2, .ref 0] [.inr (.byte, [.int fv, .int y0, .int fv, .int fv, .int fv, .int fv, .int fv, .int fv])] _
  refine Go.iload d0_162 rfl ?_
  refine Go.i2b d0_164 ?_
  refine Go.bastore d0_165 rfl (by decide) (Nat.le_of_ble_eq_true rfl) (H1 := [.inr (.byte, [.int fv, .int y0, .int y1, .int fv, .int fv, .int fv, .int fv, .int fv])]) (by rw [hy1]; rfl) ?_
  refine Go.iload d0_166 rfl ?_
  refine Go.iconst d0_168 (v := 3) rfl ?_
  refine Go.icmpF d0_169 (XT.ii_lt_f (by decide)) ?_
  refine Go.aload d0_172 rfl rfl ?_
  refine Go.iload d0_174 rfl ?_
  refine Go.iconst d0_176 (v := 2) rfl ?_
  refine Go.iadd d0_177 ?_
  show Go _ _ _ _ 178 [.val (.int x0), .val (.int x1), .val (.int x2), .val (.int x3), .val (.int x4), .val (.int x5), .val (.int 3), .val (.int 1), .val (.int b0), .val (.int b1), .val (.int b2), .val (.int b3), .val (.int w12), .val (.ref 0), .unset, .unset, .unset, .unset, .unset] [.int 3, .ref 0] [.inr (.byte, [.int fv, .int y0, .int y1, .int fv, .int fv, .int fv, .int fv, .int fv])] _
  refine Go.iload d0_178 rfl ?_
  refine Go.i2b d0_180 ?_
  refine Go.bastore d0_181 rfl (by decide) (Nat.le_of_ble_eq_true rfl) (H1 := [.inr (.byte, [.int fv, .int y0, .int y1, .int y2, .int fv, .int fv, .int fv, .int fv])]) (by rw [hy2]; rfl) ?_
  refine Go.iload d0_182 rfl ?_
  refine Go.iconst d0_184 (v := 4) rfl ?_
  refine Go.icmpT d0_185 j0_185 (XT.ii_lt_t (by decide)) ?_
  refine Go.iload d0_198 rfl ?_
  refine Go.bipush d0_200 (v := 63) rfl ?_
  refine Go.iand d0_202 ?_
  refine Go.istore d0_203 (ls' := [.val (.int x0), .val (.int x1), .val (.int x2), .val (.int x3), .val (.int x4), .val (.int x5), .val (.int 3), .val (.int 1), .val (.int b0), .val (.int b1), .val (.int b2), .val (.int b3), .val (.int w12), .val (.ref 0), .val (.int (b1 &&& 63)), .unset, .unset, .unset, .unset]) rfl ?_
  refine Go.iload d0_205 rfl ?_
  refine Go.bipush d0_207 (v := 63) rfl ?_
  refine Go.iand d0_209 ?_
  refine Go.istore d0_210 (ls' := [.val (.int x0), .val (.int x1), .val (.int x2), .val (.int x3), .val (.int x4), .val (.int x5), .val (.int 3), .val (.int 1), .val (.int b0), .val (.int b1), .val (.int b2), .val (.int b3), .val (.int w12), .val (.ref 0), .val (.int (b1 &&& 63)), .val (.int (b2 &&& 63)), .unset, .unset, .unset]) rfl ?_
  refine Go.iload d0_212 rfl ?_
  refine Go.bipush d0_214 (v := 63) rfl ?_
  refine Go.iand d0_216 ?_
  refine Go.istore d0_217 (ls' := [.val (.int x0), .val (.int x1), .val (.int x2), .val (.int x3), .val (.int x4), .val (.int x5), .val (.int 3), .val (.int 1), .val (.int b0), .val (.int b1), .val (.int b2), .val (.int b3), .val (.int w12), .val (.ref 0), .val (.int (b1 &&& 63)), .val (.int (b2 &&& 63)), .val (.int (b3 &&& 63)), .unset, .unset]) rfl ?_
  refine Go.iload d0_219 rfl ?_
  refine Go.iconst d0_221 (v := 1) rfl ?_
  refine Go.icmpT d0_222 j0_222 (XT.ii_ne_t (by decide)) ?_
  refine Go.iload d0_232 rfl ?_
  refine Go.iconst d0_234 (v := 2) rfl ?_
  refine Go.icmpT d0_235 j0_235 (XT.ii_ne_t (by decide)) ?_
  refine Go.iload d0_278 rfl ?_
  refine Go.iconst d0_280 (v := 3) rfl ?_
  refine Go.icmpF d0_281 (XT.ii_ne_f (by decide)) ?_
  refine Go.iload d0_284 rfl ?_
  refine Go.bipush d0_286 (v := 15) rfl ?_
  refine Go.iand d0_288 ?_
  refine Go.bipush d0_289 (v := 12) rfl ?_
  refine Go.ishl d0_291 ?_
  refine Go.iload d0_292 rfl ?_
  refine Go.bipush d0_294 (v := 6) rfl ?_
  refine Go.ishl d0_296 ?_
  refine Go.ior d0_297 ?_
  refine Go.iload d0_298 rfl ?_
  refine Go.ior d0_300 ?_
  refine Go.istore d0_301 (ls' := [.val (.int x0), .val (.int x1), .val (.int x2), .val (.int x3), .val (.int x4), .val (.int x5), .val (.int 3), .val (.int 1), .val (.int b0), .val (.int b1), .val (.int b2), .val (.int b3), .val (.int w12), .val (.ref 0), .val (.int (b1 &&& 63)), .val (.int (b2 &&& 63)), .val (.int (b3 &&& 63)), .unset, .val (.int ((((b0 &&& 15) <<< (12 &&& 31)) ||| ((b1 &&& 63) <<< (6 &&& 31))) ||| (b2 &&& 63)))]) rfl ?_
  refine Go.iload d0_303 rfl ?_
  refine Go.callS (M' := m4) d0_305 (hw _ (List.mem_of_getElem? (i := 13) rfl)) (hw _ (List.mem_of_getElem? (i := 14) rfl)) (hw _ (List.mem_of_getElem? (i := 2) rfl)) (hw _ (List.mem_of_getElem? (i := 15) rfl)) mi4 (as := [.int b1]) rfl rfl (st := []) rfl (ls1 := [.val (.int b1)]) rfl (W := 0) rfl (by decide) (by decide) (go_own_ic K hw b1 _) 15 120 (by decide) (by decide) ?_
  show Go _ _ _ _ 308 [.val (.int x0), .val (.int x1), .val (.int x2), .val (.int x3), .val (.int x4), .val (.int x5), .val (.int 3), .val (.int 1), .val (.int b0), .val (.int b1), .val (.int b2), .val (.int b3), .val (.int w12), .val (.ref 0), .val (.int (b1 &&& 63)), .val (.int (b2 &&& 63)), .val (.int (b3 &&& 63)), .unset, .val (.int ((((b0 &&& 15) <<< (12 &&& 31)) ||| ((b1 &&& 63) <<< (6 &&& 31))) ||| (b2 &&& 63)))] [.int (own_ic b1)] [.inr (.byte, [.int fv, .int y0, .int y1, .int y2, .int fv, .int fv, .int fv, .int fv])] _
  refine Go.if_eq d0_308 j0_308 (fun h308 => ?_) (fun h308 => ?_)
  · -- pc 308 taken
    refine Go.iconst d0_332 (v := (-1)) rfl ?_
    refine Go.istore d0_333 (ls' := [.val (.int x0), .val (.int x1), .val (.int x2), .val (.int x3), .val (.int x4), .val (.int x5), .val (.int 3), .val (.int 1), .val (.int b0), .val (.int b1), .val (.int b2), .val (.int b3), .val (.int w12), .val (.ref 0), .val (.int (b1 &&& 63)), .val (.int (b2 &&& 63)), .val (.int (b3 &&& 63)), .val (.int (-1)), .val (.int ((((b0 &&& 15) <<< (12 &&& 31)) ||| ((b1 &&& 63) <<< (6 &&& 31))) ||| (b2 &&& 63)))]) rfl ?_
    refine Go.goto d0_335 j0_335 ?_
    refine Go.aload d0_402 rfl rfl ?_
    refine Go.iload d0_404 rfl ?_
    refine Go.iload d0_406 rfl ?_
    refine Go.callS (M' := m3) d0_408 (hw _ (List.mem_of_getElem? (i := 8) rfl)) (hw _ (List.mem_of_getElem? (i := 9) rfl)) (hw _ (List.mem_of_getElem? (i := 10) rfl)) (hw _ (List.mem_of_getElem? (i := 11) rfl)) mi3 (as := [.ref 0, .int 1, .int 3]) rfl rfl (st := []) rfl (ls1 := [.val (.ref 0), .val (.int 1), .val (.int 3), .unset, .unset, .unset, .unset]) rfl (W := 0) rfl (by decide) (by decide) (go_own_cp3 K hw _ 0 _ 1 y0 y1 y2 rfl (by decide) rfl (by decide) rfl (by decide) rfl) 15 120 (by decide) (by decide) ?_
    show Go _ _ _ _ 411 [.val (.int x0), .val (.int x1), .val (.int x2), .val (.int x3), .val (.int x4), .val (.int x5), .val (.int 3), .val (.int 1), .val (.int b0), .val (.int b1), .val (.int b2), .val (.int b3), .val (.int w12), .val (.ref 0), .val (.int (b1 &&& 63)), .val (.int (b2 &&& 63)), .val (.int (b3 &&& 63)), .val (.int (-1)), .val (.int ((((b0 &&& 15) <<< (12 &&& 31)) ||| ((b1 &&& 63) <<< (6 &&& 31))) ||| (b2 &&& 63)))] [.int (own_cp3 y0 y1 y2)] [.inr (.byte, [.int fv, .int y0, .int y1, .int y2, .int fv, .int fv, .int fv, .int fv])] _
    refine Go.iload d0_411 rfl ?_
    refine Go.icmpF d0_413 (XT.ii_ne_f (by rw [own_e3 hz0 hz1 hz2, if_pos h308])) ?_
    refine Go.iconst d0_416 (v := 1) rfl ?_
    refine Go.goto d0_417 j0_417 ?_
    exact Go.ireturnZ d0_421 rfl (by decide) rfl HOk.any
  · -- pc 308 not taken
    refine Go.iload d0_311 rfl ?_
    refine Go.callS (M' := m4) d0_313 (hw _ (List.mem_of_getElem? (i := 13) rfl)) (hw _ (List.mem_of_getElem? (i := 14) rfl)) (hw _ (List.mem_of_getElem? (i := 2) rfl)) (hw _ (List.mem_of_getElem? (i := 15) rfl)) mi4 (as := [.int b2]) rfl rfl (st := []) rfl (ls1 := [.val (.int b2)]) rfl (W := 0) rfl (by decide) (by decide) (go_own_ic K hw b2 _) 15 120 (by decide) (by decide) ?_
    show Go _ _ _ _ 316 [.val (.int x0), .val (.int x1), .val (.int x2), .val (.int x3), .val (.int x4), .val (.int x5), .val (.int 3), .val (.int 1), .val (.int b0), .val (.int b1), .val (.int b2), .val (.int b3), .val (.int w12), .val (.ref 0), .val (.int (b1 &&& 63)), .val (.int (b2 &&& 63)), .val (.int (b3 &&& 63)), .unset, .val (.int ((((b0 &&& 15) <<< (12 &&& 31)) ||| ((b1 &&& 63) <<< (6 &&& 31))) ||| (b2 &&& 63)))] [.int (own_ic b2)] [.inr (.byte, [.int fv, .int y0, .int y1, .int y2, .int fv, .int fv, .int fv, .int fv])] _
    refine Go.if_eq d0_316 j0_316 (fun h316 => ?_) (fun h316 => ?_)
    · -- pc 316 taken
      refine Go.iconst d0_332 (v := (-1)) rfl ?_
      refine Go.istore d0_333 (ls' := [.val (.int x0), .val (.int x1), .val (.int x2), .val (.int x3), .val (.int x4), .val (.int x5), .val (.int 3), .val (.int 1), .val (.int b0), .val (.int b1), .val (.int b2), .val (.int b3), .val (.int w12), .val (.ref 0), .val (.int (b1 &&& 63)), .val (.int (b2 &&& 63)), .val (.int (b3 &&& 63)), .val (.int (-1)), .val (.int ((((b0 &&& 15) <<< (12 &&& 31)) ||| ((b1 &&& 63) <<< (6 &&& 31))) ||| (b2 &&& 63)))]) rfl ?_
      refine Go.goto d0_335 j0_335 ?_
      refine Go.aload d0_402 rfl rfl ?_
      refine Go.iload d0_404 rfl ?_
      refine Go.iload d0_406 rfl ?_
      refine Go.callS (M' := m3) d0_408 (hw _ (List.mem_of_getElem? (i := 8) rfl)) (hw _ (List.mem_of_getElem? (i := 9) rfl)) (hw _ (List.mem_of_getElem? (i := 10) rfl)) (hw _ (List.mem_of_getElem? (i := 11) rfl)) mi3 (as := [.ref 0, .int 1, .int 3]) rfl rfl (st := []) rfl (ls1 := [.val (.ref 0), .val (.int 1), .val (.int 3), .unset, .unset, .unset, .unset]) rfl (W := 0) rfl (by decide) (by decide) (go_own_cp3 K hw _ 0 _ 1 y0 y1 y2 rfl (by decide) rfl (by decide) rfl (by decide) rfl) 15 120 (by decide) (by decide) ?_
      show Go _ _ _ _ 411 [.val (.int x0), .val (.int x1), .val (.int x2), .val (.int x3), .val (.int x4), .val (.int x5), .val (.int 3), .val (.int 1), .val (.int b0), .val (.int b1), .val (.int b2), .val (.int b3), .val (.int w12), .val (.ref 0), .val (.int (b1 &&& 63)), .val (.int (b2 &&& 63)), .val (.int (b3 &&& 63)), .val (.int (-1)), .val (.int ((((b0 &&& 15) <<< (12 &&& 31)) ||| ((b1 &&& 63) <<< (6 &&& 31))) ||| (b2 &&& 63)))] [.int (own_cp3 y0 y1 y2)] [.inr (.byte, [.int fv, .int y0, .int y1, .int y2, .int fv, .int fv, .int fv, .int fv])] _
      refine Go.iload d0_411 rfl ?_
      refine Go.icmpF d0_413 (XT.ii_ne_f (by rw [own_e3 hz0 hz1 hz2, if_neg h308, if_pos h316])) ?_
      refine Go.iconst d0_416 (v := 1) rfl ?_
      refine Go.goto d0_417 j0_417 ?_
      exact Go.ireturnZ d0_421 rfl (by decide) rfl HOk.any
    · -- pc 316 not taken
      refine Go.iload d0_319 rfl ?_
      refine Go.sipush d0_321 (v := 2048) rfl ?_
      refine Go.icmp_lt d0_324 j0_324 (fun h324 => ?_) (fun h324 => ?_)
      · -- pc 324 taken
        refine Go.iconst d0_332 (v := (-1)) rfl ?_
        refine Go.istore d0_333 (ls' := [.val (.int x0), .val (.int x1), .val (.int x2), .val (.int x3), .val (.int x4), .val (.int x5), .val (.int 3), .val (.int 1), .val (.int b0), .val (.int b1), .val (.int b2), .val (.int b3), .val (.int w12), .val (.ref 0), .val (.int (b1 &&& 63)), .val (.int (b2 &&& 63)), .val (.int (b3 &&& 63)), .val (.int (-1)), .val (.int ((((b0 &&& 15) <<< (12 &&& 31)) ||| ((b1 &&& 63) <<< (6 &&& 31))) ||| (b2 &&& 63)))]) rfl ?_
        refine Go.goto d0_335 j0_335 ?_
        refine Go.aload d0_402 rfl rfl ?_
        refine Go.iload d0_404 rfl ?_
        refine Go.iload d0_406 rfl ?_
        refine Go.callS (M' := m3) d0_408 (hw _ (List.mem_of_getElem? (i := 8) rfl)) (hw _ (List.mem_of_getElem? (i := 9) rfl)) (hw _ (List.mem_of_getElem? (i := 10) rfl)) (hw _ (List.mem_of_getElem? (i := 11) rfl)) mi3 (as := [.ref 0, .int 1, .int 3]) rfl rfl (st := []) rfl (ls1 := [.val (.ref 0), .val (.int 1), .val (.int 3), .unset, .unset, .unset, .unset]) rfl (W := 0) rfl (by decide) (by decide) (go_own_cp3 K hw _ 0 _ 1 y0 y1 y2 rfl (by decide) rfl (by decide) rfl (by decide) rfl) 15 120 (by decide) (by decide) ?_
        show Go _ _ _ _ 411 [.val (.int x0), .val (.int x1), .val (.int x2), .val (.int x3), .val (.int x4), .val (.int x5), .val (.int 3), .val (.int 1), .val (.int b0), .val (.int b1), .val (.int b2), .val (.int b3), .val (.int w12), .val (.ref 0), .val (.int (b1 &&& 63)), .val (.int (b2 &&& 63)), .val (.int (b3 &&& 63)), .val (.int (-1)), .val (.int ((((b0 &&& 15) <<< (12 &&& 31)) ||| ((b1 &&& 63) <<< (6 &&& 31))) ||| (b2 &&& 63)))] [.int (own_cp3 y0 y1 y2)] [.inr (.byte, [.int fv, .int y0, .int y1, .int y2, .int fv, .int fv, .int fv, .int fv])] _
        refine Go.iload d0_411 rfl ?_
        refine Go.icmpF d0_413 (XT.ii_ne_f (by rw [own_e3 hz0 hz1 hz2, if_neg h308, if_neg h316, if_pos h324])) ?_
        refine Go.iconst d0_416 (v := 1) rfl ?_
        refine Go.goto d0_417 j0_417 ?_
        exact Go.ireturnZ d0_421 rfl (by decide) rfl HOk.any
      · -- pc 324 not taken
        refine Go.iload d0_327 rfl ?_
        refine Go.goto d0_329 j0_329 ?_
        refine Go.istore d0_333 (ls' := [.val (.int x0), .val (.int x1), .val (.int x2), .val (.int x3), .val (.int x4), .val (.int x5), .val (.int 3), .val (.int 1), .val (.int b0), .val (.int b1), .val (.int b2), .val (.int b3), .val (.int w12), .val (.ref 0), .val (.int (b1 &&& 63)), .val (.int (b2 &&& 63)), .val (.int (b3 &&& 63)), .val (.int ((((b0 &&& 15) <<< (12 &&& 31)) ||| ((b1 &&& 63) <<< (6 &&& 31))) ||| (b2 &&& 63))), .val (.int ((((b0 &&& 15) <<< (12 &&& 31)) ||| ((b1 &&& 63) <<< (6 &&& 31))) ||| (b2 &&& 63)))]) rfl ?_
        refine Go.goto d0_335 j0_335 ?_
        refine Go.aload d0_402 rfl rfl ?_
        refine Go.iload d0_404 rfl ?_
        refine Go.iload d0_406 rfl ?_
        refine Go.callS (M' := m3) d0_408 (hw _ (List.mem_of_getElem? (i := 8) rfl)) (hw _ (List.mem_of_getElem? (i := 9) rfl)) (hw _ (List.mem_of_getElem? (i := 10) rfl)) (hw _ (List.mem_of_getElem? (i := 11) rfl)) mi3 (as := [.ref 0, .int 1, .int 3]) rfl rfl (st := []) rfl (ls1 := [.val (.ref 0), .val (.int 1), .val (.int 3), .unset, .unset, .unset, .unset]) rfl (W := 0) rfl (by decide) (by decide) (go_own_cp3 K hw _ 0 _ 1 y0 y1 y2 rfl (by decide) rfl (by decide) rfl (by decide) rfl) 15 120 (by decide) (by decide) ?_
        show Go _ _ _ _ 411 [.val (.int x0), .val (.int x1), .val (.int x2), .val (.int x3), .val (.int x4), .val (.int x5), .val (.int 3), .val (.int 1), .val (.int b0), .val (.int b1), .val (.int b2), .val (.int b3), .val (.int w12), .val (.ref 0), .val (.int (b1 &&& 63)), .val (.int (b2 &&& 63)), .val (.int (b3 &&& 63)), .val (.int ((((b0 &&& 15) <<< (12 &&& 31)) ||| ((b1 &&& 63) <<< (6 &&& 31))) ||| (b2 &&& 63))), .val (.int ((((b0 &&& 15) <<< (12 &&& 31)) ||| ((b1 &&& 63) <<< (6 &&& 31))) ||| (b2 &&& 63)))] [.int (own_cp3 y0 y1 y2)] [.inr (.byte, [.int fv, .int y0, .int y1, .int y2, .int fv, .int fv, .int fv, .int fv])] _
        refine Go.iload d0_411 rfl ?_
        refine Go.icmpF d0_413 (XT.ii_ne_f (by rw [own_e3 hz0 hz1 hz2, if_neg h308, if_neg h316, if_neg h324])) ?_
        refine Go.iconst d0_416 (v := 1) rfl ?_
        refine Go.goto d0_417 j0_417 ?_
        exact Go.ireturnZ d0_421 rfl (by decide) rfl HOk.any
theorem go_t86_3_2 (K : Ctx) (hw : ∀ d ∈ tables_1, d.before K.2.2.1 K.2.1 = true) (x0 x1 x2 x3 x4 x5 b0 b1 b2 b3 w12 fv y0 y1 y2 y3 : Int32) (hf : nar .byte w12 = fv) (hy0 : nar .byte ((Int32.toInt8 b0).toInt32) = y0) (hy1 : nar .byte ((Int32.toInt8 b1).toInt32) = y1) (hy2 : nar .byte ((Int32.toInt8 b2).toInt32) = y2) (hy3 : nar .byte ((Int32.toInt8 b3).toInt32) = y3) (hz0 : y0 &&& 15 = b0 &&& 15) (hz1 : y1 &&& 255 = b1)  (hz2 : y2 &&& 255 = b2)  (hz3 : y3 &&& 255 = b3) : Go K m0 4 112 86 [.val (.int x0), .val (.int x1), .val (.int x2), .val (.int x3), .val (.int x4), .val (.int x5), .val (.int 3), .val (.int 2), .val (.int b0), .val (.int b1), .val (.int b2), .val (.int b3), .val (.int w12), .unset, .unset, .unset, .unset, .unset, .unset] [] [] (some (.int 1), none, 16, 128) := by
  refine Go.bipush d0_86 (v := 8) rfl ?_
  refine Go.newarray 8 d0_88 (hw _ (List.mem_of_getElem? (i := 7) rfl)) (t := .byte) rfl (by decide) (by decide) (by decide) (vs := [.int 0, .int 0, .int 0, .int 0, .int 0, .int 0, .int 0, .int 0]) rfl (i := 0) rfl 15 120 (by decide) (by decide) ?_
  show Go _ _ _ _ 90 [.val (.int x0), .val (.int x1), .val (.int x2), .val (.int x3), .val (.int x4), .val (.int x5), .val (.int 3), .val (.int 2), .val (.int b0), .val (.int b1), .val (.int b2), .val (.int b3), .val (.int w12), .unset, .unset, .unset, .unset, .unset, .unset] [.ref 0] [.inr (.byte, [.int 0, .int 0, .int 0, .int 0, .int 0, .int 0, .int 0, .int 0])] _
  refine Go.astore d0_90 (ls' := [.val (.int x0), .val (.int x1), .val (.int x2), .val (.int x3), .val (.int x4), .val (.int x5), .val (.int 3), .val (.int 2), .val (.int b0), .val (.int b1), .val (.int b2), .val (.int b3), .val (.int w12), .val (.ref 0), .unset, .unset, .unset, .unset, .unset]) rfl rfl ?_
  refine Go.aload d0_92 rfl rfl ?_
  refine Go.iconst d0_94 (v := 0) rfl ?_
  refine Go.iload d0_95 rfl ?_
  refine Go.bastore d0_97 rfl (by decide) (Nat.le_of_ble_eq_true rfl) (H1 := [.inr (.byte, [.int fv, .int 0, .int 0, .int 0, .int 0, .int 0, .int 0, .int 0])]) (by rw [hf]; rfl) ?_
  refine Go.aload d0_98 rfl rfl ?_
  refine Go.iconst d0_100 (v := 1) rfl ?_
  refine Go.iload d0_101 rfl ?_
  refine Go.bastore d0_103 rfl (by decide) (Nat.le_of_ble_eq_true rfl) (H1 := [.inr (.byte, [.int fv, .int fv, .int 0, .int 0, .int 0, .int 0, .int 0, .int 0])]) (by rw [hf]; rfl) ?_
  refine Go.aload d0_104 rfl rfl ?_
  refine Go.iconst d0_106 (v := 2) rfl ?_
  refine Go.iload d0_107 rfl ?_
  refine Go.bastore d0_109 rfl (by decide) (Nat.le_of_ble_eq_true rfl) (H1 := [.inr (.byte, [.int fv, .int fv, .int fv, .int 0, .int 0, .int 0, .int 0, .int 0])]) (by rw [hf]; rfl) ?_
  refine Go.aload d0_110 rfl rfl ?_
  refine Go.iconst d0_112 (v := 3) rfl ?_
  refine Go.iload d0_113 rfl ?_
  refine Go.bastore d0_115 rfl (by decide) (Nat.le_of_ble_eq_true rfl) (H1 := [.inr (.byte, [.int fv, .int fv, .int fv, .int fv, .int 0, .int 0, .int 0, .int 0])]) (by rw [hf]; rfl) ?_
  refine Go.aload d0_116 rfl rfl ?_
  refine Go.iconst d0_118 (v := 4) rfl ?_
  refine Go.iload d0_119 rfl ?_
  refine Go.bastore d0_121 rfl (by decide) (Nat.le_of_ble_eq_true rfl) (H1 := [.inr (.byte, [.int fv, .int fv, .int fv, .int fv, .int fv, .int 0, .int 0, .int 0])]) (by rw [hf]; rfl) ?_
  refine Go.aload d0_122 rfl rfl ?_
  refine Go.iconst d0_124 (v := 5) rfl ?_
  refine Go.iload d0_125 rfl ?_
  refine Go.bastore d0_127 rfl (by decide) (Nat.le_of_ble_eq_true rfl) (H1 := [.inr (.byte, [.int fv, .int fv, .int fv, .int fv, .int fv, .int fv, .int 0, .int 0])]) (by rw [hf]; rfl) ?_
  refine Go.aload d0_128 rfl rfl ?_
  refine Go.bipush d0_130 (v := 6) rfl ?_
  refine Go.iload d0_132 rfl ?_
  refine Go.bastore d0_134 rfl (by decide) (Nat.le_of_ble_eq_true rfl) (H1 := [.inr (.byte, [.int fv, .int fv, .int fv, .int fv, .int fv, .int fv, .int fv, .int 0])]) (by rw [hf]; rfl) ?_
  refine Go.aload d0_135 rfl rfl ?_
  refine Go.bipush d0_137 (v := 7) rfl ?_
  refine Go.iload d0_139 rfl ?_
  refine Go.bastore d0_141 rfl (by decide) (Nat.le_of_ble_eq_true rfl) (H1 := [.inr (.byte, [.int fv, .int fv, .int fv, .int fv, .int fv, .int fv, .int fv, .int fv])]) (by rw [hf]; rfl) ?_
  refine Go.aload d0_142 rfl rfl ?_
  refine Go.iload d0_144 rfl ?_
  refine Go.iload d0_146 rfl ?_
  refine Go.i2b d0_148 ?_
  refine Go.bastore d0_149 rfl (by decide) (Nat.le_of_ble_eq_true rfl) (H1 := [.inr (.byte, [.int fv, .int fv, .int y0, .int fv, .int fv, .int fv, .int fv, .int fv])]) (by rw [hy0]; rfl) ?_
  refine Go.iload d0_150 rfl ?_
  refine Go.iconst d0_152 (v := 2) rfl ?_
  refine Go.icmpF d0_153 (XT.ii_lt_f (by decide)) ?_
  refine Go.aload d0_156 rfl rfl ?_
  refine Go.iload d0_158 rfl ?_
  refine Go.iconst d0_160 (v := 1) rfl ?_
  refine Go.iadd d0_161 ?_
  show Go _ _ _ _ 162 [.val (.int x0), .val (.int x1), .val (.int x2), .val (.int x3), .val (.int x4), .val (.int x5), .val (.int 3), .val (.int 2), .val (.int b0), .val (.int b1), .val (.int b2), .val (.int b3), .val (.int w12), .val (.ref 0), .unset, .unset, .unset, .unset, .unset] [.int 3, .ref 0] [.inr (.byte, [.int fv, .int fv, .int y0, .int fv, .int fv, .int fv, .int fv, .int fv])] _
  refine Go.iload d0_162 rfl ?_
  refine Go.i2b d0_164 ?_
  refine Go.bastore d0_165 rfl (by decide) (Nat.le_of_ble_eq_true rfl) (H1 := [.inr (.byte, [.int fv, .int fv, .int y0, .int y1, .int fv, .int fv, .int fv, .int fv])]) (by rw [hy1]; rfl) ?_
  refine Go.iload d0_166 rfl ?_
  refine Go.iconst d0_168 (v := 3) rfl ?_
  refine Go.icmpF d0_169 (XT.ii_lt_f (by decide)) ?_
  refine Go.aload d0_172 rfl rfl ?_
  refine Go.iload d0_174 rfl ?_
  refine Go.iconst d0_176 (v := 2) rfl ?_
  refine Go.iadd d0_177 ?_
  show Go _ _ _ _ 178 [.val (.int x0), .val (.int x1), .val (.int x2), .val (.int x3), .val (.int x4), .val (.int x5), .val (.int 3), .val (.int 2), .val (.int b0), .val (.int b1), .val (.int b2), .val (.int b3), .val (.int w12), .val (.ref 0), .unset, .unset, .unset, .unset, .unset] [.int 4, .ref 0] [.inr (.byte, [.int fv, .int fv, .int y0, .int y1, .int fv, .int fv, .int fv, .int fv])] _
  refine Go.iload d0_178 rfl ?_
  refine Go.i2b d0_180 ?_
  refine Go.bastore d0_181 rfl (by decide) (Nat.le_of_ble_eq_true rfl) (H1 := [.inr (.byte, [.int fv, .int fv, .int y0, .int y1, .int y2, .int fv, .int fv, .int fv])]) (by rw [hy2]; rfl) ?_
  refine Go.iload d0_182 rfl ?_
  refine Go.iconst d0_184 (v := 4) rfl ?_
  refine Go.icmpT d0_185 j0_185 (XT.ii_lt_t (by decide)) ?_
  refine Go.iload d0_198 rfl ?_
  refine Go.bipush d0_200 (v := 63) rfl ?_
  refine Go.iand d0_202 ?_
  refine Go.istore d0_203 (ls' := [.val (.int x0), .val (.int x1), .val (.int x2), .val (.int x3), .val (.int x4), .val (.int x5), .val (.int 3), .val (.int 2), .val (.int b0), .val (.int b1), .val (.int b2), .val (.int b3), .val (.int w12), .val (.ref 0), .val (.int (b1 &&& 63)), .unset, .unset, .unset, .unset]) rfl ?_
  refine Go.iload d0_205 rfl ?_
  refine Go.bipush d0_207 (v := 63) rfl ?_
  refine Go.iand d0_209 ?_
  refine Go.istore d0_210 (ls' := [.val (.int x0), .val (.int x1), .val (.int x2), .val (.int x3), .val (.int x4), .val (.int x5), .val (.int 3), .val (.int 2), .val (.int b0), .val (.int b1), .val (.int b2), .val (.int b3), .val (.int w12), .val (.ref 0), .val (.int (b1 &&& 63)), .val (.int (b2 &&& 63)), .unset, .unset, .unset]) rfl ?_
  refine Go.iload d0_212 rfl ?_
  refine Go.bipush d0_214 (v := 63) rfl ?_
  refine Go.iand d0_216 ?_
  refine Go.istore d0_217 (ls' := [.val (.int x0), .val (.int x1), .val (.int x2), .val (.int x3), .val (.int x4), .val (.int x5), .val (.int 3), .val (.int 2), .val (.int b0), .val (.int b1), .val (.int b2), .val (.int b3), .val (.int w12), .val (.ref 0), .val (.int (b1 &&& 63)), .val (.int (b2 &&& 63)), .val (.int (b3 &&& 63)), .unset, .unset]) rfl ?_
  refine Go.iload d0_219 rfl ?_
  refine Go.iconst d0_221 (v := 1) rfl ?_
  refine Go.icmpT d0_222 j0_222 (XT.ii_ne_t (by decide)) ?_
  refine Go.iload d0_232 rfl ?_
  refine Go.iconst d0_234 (v := 2) rfl ?_
  refine Go.icmpT d0_235 j0_235 (XT.ii_ne_t (by decide)) ?_
  refine Go.iload d0_278 rfl ?_
  refine Go.iconst d0_280 (v := 3) rfl ?_
  refine Go.icmpF d0_281 (XT.ii_ne_f (by decide)) ?_
  refine Go.iload d0_284 rfl ?_
  refine Go.bipush d0_286 (v := 15) rfl ?_
  refine Go.iand d0_288 ?_
  refine Go.bipush d0_289 (v := 12) rfl ?_
  refine Go.ishl d0_291 ?_
  refine Go.iload d0_292 rfl ?_
  refine Go.bipush d0_294 (v := 6) rfl ?_
  refine Go.ishl d0_296 ?_
  refine Go.ior d0_297 ?_
  refine Go.iload d0_298 rfl ?_
  refine Go.ior d0_300 ?_
  refine Go.istore d0_301 (ls' := [.val (.int x0), .val (.int x1), .val (.int x2), .val (.int x3), .val (.int x4), .val (.int x5), .val (.int 3), .val (.int 2), .val (.int b0), .val (.int b1), .val (.int b2), .val (.int b3), .val (.int w12), .val (.ref 0), .val (.int (b1 &&& 63)), .val (.int (b2 &&& 63)), .val (.int (b3 &&& 63)), .unset, .val (.int ((((b0 &&& 15) <<< (12 &&& 31)) ||| ((b1 &&& 63) <<< (6 &&& 31))) ||| (b2 &&& 63)))]) rfl ?_
  refine Go.iload d0_303 rfl ?_
  refine Go.callS (M' := m4) d0_305 (hw _ (List.mem_of_getElem? (i := 13) rfl)) (hw _ (List.mem_of_getElem? (i := 14) rfl)) (hw _ (List.mem_of_getElem? (i := 2) rfl)) (hw _ (List.mem_of_getElem? (i := 15) rfl)) mi4 (as := [.int b1]) rfl rfl (st := []) rfl (ls1 := [.val (.int b1)]) rfl (W := 0) rfl (by decide) (by decide) (go_own_ic K hw b1 _) 15 120 (by decide) (by decide) ?_
  show Go _ _ _ _ 308 [.val (.int x0), .val (.int x1), .val (.int x2), .val (.int x3), .val (.int x4), .val (.int x5), .val (.int 3), .val (.int 2), .val (.int b0), .val (.int b1), .val (.int b2), .val (.int b3), .val (.int w12), .val (.ref 0), .val (.int (b1 &&& 63)), .val (.int (b2 &&& 63)), .val (.int (b3 &&& 63)), .unset, .val (.int ((((b0 &&& 15) <<< (12 &&& 31)) ||| ((b1 &&& 63) <<< (6 &&& 31))) ||| (b2 &&& 63)))] [.int (own_ic b1)] [.inr (.byte, [.int fv, .int fv, .int y0, .int y1, .int y2, .int fv, .int fv, .int fv])] _
  refine Go.if_eq d0_308 j0_308 (fun h308 => ?_) (fun h308 => ?_)
  · -- pc 308 taken
    refine Go.iconst d0_332 (v := (-1)) rfl ?_
    refine Go.istore d0_333 (ls' := [.val (.int x0), .val (.int x1), .val (.int x2), .val (.int x3), .val (.int x4), .val (.int x5), .val (.int 3), .val (.int 2), .val (.int b0), .val (.int b1), .val (.int b2), .val (.int b3), .val (.int w12), .val (.ref 0), .val (.int (b1 &&& 63)), .val (.int (b2 &&& 63)), .val (.int (b3 &&& 63)), .val (.int (-1)), .val (.int ((((b0 &&& 15) <<< (12 &&& 31)) ||| ((b1 &&& 63) <<< (6 &&& 31))) ||| (b2 &&& 63)))]) rfl ?_
    refine Go.goto d0_335 j0_335 ?_
    refine Go.aload d0_402 rfl rfl ?_
    refine Go.iload d0_404 rfl ?_
    refine Go.iload d0_406 rfl ?_
    refine Go.callS (M' := m3) d0_408 (hw _ (List.mem_of_getElem? (i := 8) rfl)) (hw _ (List.mem_of_getElem? (i := 9) rfl)) (hw _ (List.mem_of_getElem? (i := 10) rfl)) (hw _ (List.mem_of_getElem? (i := 11) rfl)) mi3 (as := [.ref 0, .int 2, .int 3]) rfl rfl (st := []) rfl (ls1 := [.val (.ref 0), .val (.int 2), .val (.int 3), .unset, .unset, .unset, .unset]) rfl (W := 0) rfl (by decide) (by decide) (go_own_cp3 K hw _ 0 _ 2 y0 y1 y2 rfl (by decide) rfl (by decide) rfl (by decide) rfl) 15 120 (by decide) (by decide) ?_
    show Go _ _ _ _ 411 [.val (.int x0), .val (.int x1), .val (.int x2), .val (.int x3), .val (.int x4), .val (.int x5), .val (.int 3), .val (.int 2), .val (.int b0), .val (.int b1), .val (.int b2), .val (.int b3), .val (.int w12), .val (.ref 0), .val (.int (b1 &&& 63)), .val (.int (b2 &&& 63)), .val (.int (b3 &&& 63)), .val (.int (-1)), .val (.int ((((b0 &&& 15) <<< (12 &&& 31)) ||| ((b1 &&& 63) <<< (6 &&& 31))) ||| (b2 &&& 63)))] [.int (own_cp3 y0 y1 y2)] [.inr (.byte, [.int fv, .int fv, .int y0, .int y1, .int y2, .int fv, .int fv, .int fv])] _
    refine Go.iload d0_411 rfl ?_
    refine Go.icmpF d0_413 (XT.ii_ne_f (by rw [own_e3 hz0 hz1 hz2, if_pos h308])) ?_
    refine Go.iconst d0_416 (v := 1) rfl ?_
    refine Go.goto d0_417 j0_417 ?_
    exact Go.ireturnZ d0_421 rfl (by decide) rfl HOk.any
  · -- pc 308 not taken
    refine Go.iload d0_311 rfl ?_
    refine Go.callS (M' := m4) d0_313 (hw _ (List.mem_of_getElem? (i := 13) rfl)) (hw _ (List.mem_of_getElem? (i := 14) rfl)) (hw _ (List.mem_of_getElem? (i := 2) rfl)) (hw _ (List.mem_of_getElem? (i := 15) rfl)) mi4 (as := [.int b2]) rfl rfl (st := []) rfl (ls1 := [.val (.int b2)]) rfl (W := 0) rfl (by decide) (by decide) (go_own_ic K hw b2 _) 15 120 (by decide) (by decide) ?_
    show Go _ _ _ _ 316 [.val (.int x0), .val (.int x1), .val (.int x2), .val (.int x3), .val (.int x4), .val (.int x5), .val (.int 3), .val (.int 2), .val (.int b0), .val (.int b1), .val (.int b2), .val (.int b3), .val (.int w12), .val (.ref 0), .val (.int (b1 &&& 63)), .val (.int (b2 &&& 63)), .val (.int (b3 &&& 63)), .unset, .val (.int ((((b0 &&& 15) <<< (12 &&& 31)) ||| ((b1 &&& 63) <<< (6 &&& 31))) ||| (b2 &&& 63)))] [.int (own_ic b2)] [.inr (.byte, [.int fv, .int fv, .int y0, .int y1, .int y2, .int fv, .int fv, .int fv])] _
    refine Go.if_eq d0_316 j0_316 (fun h316 => ?_) (fun h316 => ?_)
    · -- pc 316 taken
      refine Go.iconst d0_332 (v := (-1)) rfl ?_
      refine Go.istore d0_333 (ls' := [.val (.int x0), .val (.int x1), .val (.int x2), .val (.int x3), .val (.int x4), .val (.int x5), .val (.int 3), .val (.int 2), .val (.int b0), .val (.int b1), .val (.int b2), .val (.int b3), .val (.int w12), .val (.ref 0), .val (.int (b1 &&& 63)), .val (.int (b2 &&& 63)), .val (.int (b3 &&& 63)), .val (.int (-1)), .val (.int ((((b0 &&& 15) <<< (12 &&& 31)) ||| ((b1 &&& 63) <<< (6 &&& 31))) ||| (b2 &&& 63)))]) rfl ?_
      refine Go.goto d0_335 j0_335 ?_
      refine Go.aload d0_402 rfl rfl ?_
      refine Go.iload d0_404 rfl ?_
      refine Go.iload d0_406 rfl ?_
      refine Go.callS (M' := m3) d0_408 (hw _ (List.mem_of_getElem? (i := 8) rfl)) (hw _ (List.mem_of_getElem? (i := 9) rfl)) (hw _ (List.mem_of_getElem? (i := 10) rfl)) (hw _ (List.mem_of_getElem? (i := 11) rfl)) mi3 (as := [.ref 0, .int 2, .int 3]) rfl rfl (st := []) rfl (ls1 := [.val (.ref 0), .val (.int 2), .val (.int 3), .unset, .unset, .unset, .unset]) rfl (W := 0) rfl (by decide) (by decide) (go_own_cp3 K hw _ 0 _ 2 y0 y1 y2 rfl (by decide) rfl (by decide) rfl (by decide) rfl) 15 120 (by decide) (by decide) ?_
      show Go _ _ _ _ 411 [.val (.int x0), .val (.int x1), .val (.int x2), .val (.int x3), .val (.int x4), .val (.int x5), .val (.int 3), .val (.int 2), .val (.int b0), .val (.int b1), .val (.int b2), .val (.int b3), .val (.int w12), .val (.ref 0), .val (.int (b1 &&& 63)), .val (.int (b2 &&& 63)), .val (.int (b3 &&& 63)), .val (.int (-1)), .val (.int ((((b0 &&& 15) <<< (12 &&& 31)) ||| ((b1 &&& 63) <<< (6 &&& 31))) ||| (b2 &&& 63)))] [.int (own_cp3 y0 y1 y2)] [.inr (.byte, [.int fv, .int fv, .int y0, .int y1, .int y2, .int fv, .int fv, .int fv])] _
      refine Go.iload d0_411 rfl ?_
      refine Go.icmpF d0_413 (XT.ii_ne_f (by rw [own_e3 hz0 hz1 hz2, if_neg h308, if_pos h316])) ?_
      refine Go.iconst d0_416 (v := 1) rfl ?_
      refine Go.goto d0_417 j0_417 ?_
      exact Go.ireturnZ d0_421 rfl (by decide) rfl HOk.any
    · -- pc 316 not taken
      refine Go.iload d0_319 rfl ?_
      refine Go.sipush d0_321 (v := 2048) rfl ?_
      refine Go.icmp_lt d0_324 j0_324 (fun h324 => ?_) (fun h324 => ?_)
      · -- pc 324 taken
        refine Go.iconst d0_332 (v := (-1)) rfl ?_
        refine Go.istore d0_333 (ls' := [.val (.int x0), .val (.int x1), .val (.int x2), .val (.int x3), .val (.int x4), .val (.int x5), .val (.int 3), .val (.int 2), .val (.int b0), .val (.int b1), .val (.int b2), .val (.int b3), .val (.int w12), .val (.ref 0), .val (.int (b1 &&& 63)), .val (.int (b2 &&& 63)), .val (.int (b3 &&& 63)), .val (.int (-1)), .val (.int ((((b0 &&& 15) <<< (12 &&& 31)) ||| ((b1 &&& 63) <<< (6 &&& 31))) ||| (b2 &&& 63)))]) rfl ?_
        refine Go.goto d0_335 j0_335 ?_
        refine Go.aload d0_402 rfl rfl ?_
        refine Go.iload d0_404 rfl ?_
        refine Go.iload d0_406 rfl ?_
        refine Go.callS (M' := m3) d0_408 (hw _ (List.mem_of_getElem? (i := 8) rfl)) (hw _ (List.mem_of_getElem? (i := 9) rfl)) (hw _ (List.mem_of_getElem? (i := 10) rfl)) (hw _ (List.mem_of_getElem? (i := 11) rfl)) mi3 (as := [.ref 0, .int 2, .int 3]) rfl rfl (st := []) rfl (ls1 := [.val (.ref 0), .val (.int 2), .val (.int 3), .unset, .unset, .unset, .unset]) rfl (W := 0) rfl (by decide) (by decide) (go_own_cp3 K hw _ 0 _ 2 y0 y1 y2 rfl (by decide) rfl (by decide) rfl (by decide) rfl) 15 120 (by decide) (by decide) ?_
        show Go _ _ _ _ 411 [.val (.int x0), .val (.int x1), .val (.int x2), .val (.int x3), .val (.int x4), .val (.int x5), .val (.int 3), .val (.int 2), .val (.int b0), .val (.int b1), .val (.int b2), .val (.int b3), .val (.int w12), .val (.ref 0), .val (.int (b1 &&& 63)), .val (.int (b2 &&& 63)), .val (.int (b3 &&& 63)), .val (.int (-1)), .val (.int ((((b0 &&& 15) <<< (12 &&& 31)) ||| ((b1 &&& 63) <<< (6 &&& 31))) ||| (b2 &&& 63)))] [.int (own_cp3 y0 y1 y2)] [.inr (.byte, [.int fv, .int fv, .int y0, .int y1, .int y2, .int fv, .int fv, .int fv])] _
        refine Go.iload d0_411 rfl ?_
        refine Go.icmpF d0_413 (XT.ii_ne_f (by rw [own_e3 hz0 hz1 hz2, if_neg h308, if_neg h316, if_pos h324])) ?_
        refine Go.iconst d0_416 (v := 1) rfl ?_
        refine Go.goto d0_417 j0_417 ?_
        exact Go.ireturnZ d0_421 rfl (by decide) rfl HOk.any
      · -- pc 324 not taken
        refine Go.iload d0_327 rfl ?_
        refine Go.goto d0_329 j0_329 ?_
        refine Go.istore d0_333 (ls' := [.val (.int x0), .val (.int x1), .val (.int x2), .val (.int x3), .val (.int x4), .val (.int x5), .val (.int 3), .val (.int 2), .val (.int b0), .val (.int b1), .val (.int b2), .val (.int b3), .val (.int w12), .val (.ref 0), .val (.int (b1 &&& 63)), .val (.int (b2 &&& 63)), .val (.int (b3 &&& 63)), .val (.int ((((b0 &&& 15) <<< (12 &&& 31)) ||| ((b1 &&& 63) <<< (6 &&& 31))) ||| (b2 &&& 63))), .val (.int ((((b0 &&& 15) <<< (12 &&& 31)) ||| ((b1 &&& 63) <<< (6 &&& 31))) ||| (b2 &&& 63)))]) rfl ?_
        refine Go.goto d0_335 j0_335 ?_
        refine Go.aload d0_402 rfl rfl ?_
        refine Go.iload d0_404 rfl ?_
        refine Go.iload d0_406 rfl ?_
        refine Go.callS (M' := m3) d0_408 (hw _ (List.mem_of_getElem? (i := 8) rfl)) (hw _ (List.mem_of_getElem? (i := 9) rfl)) (hw _ (List.mem_of_getElem? (i := 10) rfl)) (hw _ (List.mem_of_getElem? (i := 11) rfl)) mi3 (as := [.ref 0, .int 2, .int 3]) rfl rfl (st := []) rfl (ls1 := [.val (.ref 0), .val (.int 2), .val (.int 3), .unset, .unset, .unset, .unset]) rfl (W := 0) rfl (by decide) (by decide) (go_own_cp3 K hw _ 0 _ 2 y0 y1 y2 rfl (by decide) rfl (by decide) rfl (by decide) rfl) 15 120 (by decide) (by decide) ?_
        show Go _ _ _ _ 411 [.val (.int x0), .val (.int x1), .val (.int x2), .val (.int x3), .val (.int x4), .val (.int x5), .val (.int 3), .val (.int 2), .val (.int b0), .val (.int b1), .val (.int b2), .val (.int b3), .val (.int w12), .val (.ref 0), .val (.int (b1 &&& 63)), .val (.int (b2 &&& 63)), .val (.int (b3 &&& 63)), .val (.int ((((b0 &&& 15) <<< (12 &&& 31)) ||| ((b1 &&& 63) <<< (6 &&& 31))) ||| (b2 &&& 63))), .val (.int ((((b0 &&& 15) <<< (12 &&& 31)) ||| ((b1 &&& 63) <<< (6 &&& 31))) ||| (b2 &&& 63)))] [.int (own_cp3 y0 y1 y2)] [.inr (.byte, [.int fv, .int fv, .int y0, .int y1, .int y2, .int fv, .int fv, .int fv])] _
        refine Go.iload d0_411 rfl ?_
        refine Go.icmpF d0_413 (XT.ii_ne_f (by rw [own_e3 hz0 hz1 hz2, if_neg h308, if_neg h316, if_neg h324])) ?_
        refine Go.iconst d0_416 (v := 1) rfl ?_
        refine Go.goto d0_417 j0_417 ?_
        exact Go.ireturnZ d0_421 rfl (by decide) rfl HOk.any
theorem go_t86_3_3 (K : Ctx) (hw : ∀ d ∈ tables_1, d.before K.2.2.1 K.2.1 = true) (x0 x1 x2 x3 x4 x5 b0 b1 b2 b3 w12 fv y0 y1 y2 y3 : Int32) (hf : nar .byte w12 = fv) (hy0 : nar .byte ((Int32.toInt8 b0).toInt32) = y0) (hy1 : nar .byte ((Int32.toInt8 b1).toInt32) = y1) (hy2 : nar .byte ((Int32.toInt8 b2).toInt32) = y2) (hy3 : nar .byte ((Int32.toInt8 b3).toInt32) = y3) (hz0 : y0 &&& 15 = b0 &&& 15) (hz1 : y1 &&& 255 = b1)  (hz2 : y2 &&& 255 = b2)  (hz3 : y3 &&& 255 = b3) : Go K m0 4 112 86 [.val (.int x0), .val (.int x1), .val (.int x2), .val (.int x3), .val (.int x4), .val (.int x5), .val (.int 3), .val (.int 3), .val (.int b0), .val (.int b1), .val (.int b2), .val (.int b3), .val (.int w12), .unset, .unset, .unset, .unset, .unset, .unset] [] [] (some (.int 1), none, 16, 128) := by
  refine Go.bipush d0_86 (v := 8) rfl ?_
  refine Go.newarray 8 d0_88 (hw _ (List.mem_of_getElem? (i := 7) rfl)) (t := .byte) rfl (by decide) (by decide) (by decide) (vs := [.int 0, .int 0, .int 0, .int 0, .int 0, .int 0, .int 0, .int 0]) rfl (i := 0) rfl 15 120 (by decide) (by decide) ?_
  show Go _ _ _ _ 90 [.val (.int x0), .val (.int x1), .val (.int x2), .val (.int x3), .val (.int x4), .val (.int x5), .val (.int 3), .val (.int 3), .val (.int b0), .val (.int b1), .val (.int b2), .val (.int b3), .val (.int w12), .unset, .unset, .unset, .unset, .unset, .unset] [.ref 0] [.inr (.byte, [.int 0, .int 0, .int 0, .int 0, .int 0, .int 0, .int 0, .int 0])] _
  refine Go.astore d0_90 (ls' := [.val (.int x0), .val (.int x1), .val (.int x2), .val (.int x3), .val (.int x4), .val (.int x5), .val (.int 3), .val (.int 3), .val (.int b0), .val (.int b1), .val (.int b2), .val (.int b3), .val (.int w12), .val (.ref 0), .unset, .unset, .unset, .unset, .unset]) rfl rfl ?_
  refine Go.aload d0_92 rfl rfl ?_
  refine Go.iconst d0_94 (v := 0) rfl ?_
  refine Go.iload d0_95 rfl ?_
  refine Go.bastore d0_97 rfl (by decide) (Nat.le_of_ble_eq_true rfl) (H1 := [.inr (.byte, [.int fv, .int 0, .int 0, .int 0, .int 0, .int 0, .int 0, .int 0])]) (by rw [hf]; rfl) ?_
  refine Go.aload d0_98 rfl rfl ?_
  refine Go.iconst d0_100 (v := 1) rfl ?_
  refine Go.iload d0_101 rfl ?_
  refine Go.bastore d0_103 rfl (by decide) (Nat.le_of_ble_eq_true rfl) (H1 := [.inr (.byte, [.int fv, .int fv, .int 0, .int 0, .int 0, .int 0, .int 0, .int 0])]) (by rw [hf]; rfl) ?_
  refine Go.aload d0_104 rfl rfl ?_
  refine Go.iconst d0_106 (v := 2) rfl ?_
  refine Go.iload d0_107 rfl ?_
  refine Go.bastore d0_109 rfl (by decide) (Nat.le_of_ble_eq_true rfl) (H1 := [.inr (.byte, [.int fv, .int fv, .int fv, .int 0, .int 0, .int 0, .int 0, .int 0])]) (by rw [hf]; rfl) ?_
  refine Go.aload d0_110 rfl rfl ?_
  refine Go.iconst d0_112 (v := 3) rfl ?_
  refine Go.iload d0_113 rfl ?_
  refine Go.bastore d0_115 rfl (by decide) (Nat.le_of_ble_eq_true rfl) (H1 := [.inr (.byte, [.int fv, .int fv, .int fv, .int fv, .int 0, .int 0, .int 0, .int 0])]) (by rw [hf]; rfl) ?_
  refine Go.aload d0_116 rfl rfl ?_
  refine Go.iconst d0_118 (v := 4) rfl ?_
  refine Go.iload d0_119 rfl ?_
  refine Go.bastore d0_121 rfl (by decide) (Nat.le_of_ble_eq_true rfl) (H1 := [.inr (.byte, [.int fv, .int fv, .int fv, .int fv, .int fv, .int 0, .int 0, .int 0])]) (by rw [hf]; rfl) ?_
  refine Go.aload d0_122 rfl rfl ?_
  refine Go.iconst d0_124 (v := 5) rfl ?_
  refine Go.iload d0_125 rfl ?_
  refine Go.bastore d0_127 rfl (by decide) (Nat.le_of_ble_eq_true rfl) (H1 := [.inr (.byte, [.int fv, .int fv, .int fv, .int fv, .int fv, .int fv, .int 0, .int 0])]) (by rw [hf]; rfl) ?_
  refine Go.aload d0_128 rfl rfl ?_
  refine Go.bipush d0_130 (v := 6) rfl ?_
  refine Go.iload d0_132 rfl ?_
  refine Go.bastore d0_134 rfl (by decide) (Nat.le_of_ble_eq_true rfl) (H1 := [.inr (.byte, [.int fv, .int fv, .int fv, .int fv, .int fv, .int fv, .int fv, .int 0])]) (by rw [hf]; rfl) ?_
  refine Go.aload d0_135 rfl rfl ?_
  refine Go.bipush d0_137 (v := 7) rfl ?_
  refine Go.iload d0_139 rfl ?_
  refine Go.bastore d0_141 rfl (by decide) (Nat.le_of_ble_eq_true rfl) (H1 := [.inr (.byte, [.int fv, .int fv, .int fv, .int fv, .int fv, .int fv, .int fv, .int fv])]) (by rw [hf]; rfl) ?_
  refine Go.aload d0_142 rfl rfl ?_
  refine Go.iload d0_144 rfl ?_
  refine Go.iload d0_146 rfl ?_
  refine Go.i2b d0_148 ?_
  refine Go.bastore d0_149 rfl (by decide) (Nat.le_of_ble_eq_true rfl) (H1 := [.inr (.byte, [.int fv, .int fv, .int fv, .int y0, .int fv, .int fv, .int fv, .int fv])]) (by rw [hy0]; rfl) ?_
  refine Go.iload d0_150 rfl ?_
  refine Go.iconst d0_152 (v := 2) rfl ?_
  refine Go.icmpF d0_153 (XT.ii_lt_f (by decide)) ?_
  refine Go.aload d0_156 rfl rfl ?_
  refine Go.iload d0_158 rfl ?_
  refine Go.iconst d0_160 (v := 1) rfl ?_
  refine Go.iadd d0_161 ?_
  show Go _ _ _ _ 162 [.val (.int x0), .val (.int x1), .val (.int x2), .val (.int x3), .val (.int x4), .val (.int x5), .val (.int 3), .val (.int 3), .val (.int b0), .val (.int b1), .val (.int b2), .val (.int b3), .val (.int w12), .val (.ref 0), .unset, .unset, .unset, .unset, .unset] [.int 4, .ref 0] [.inr (.byte, [.int fv, .int fv, .int fv, .int y0, .int fv, .int fv, .int fv, .int fv])] _
  refine Go.iload d0_162 rfl ?_
  refine Go.i2b d0_164 ?_
  refine Go.bastore d0_165 rfl (by decide) (Nat.le_of_ble_eq_true rfl) (H1 := [.inr (.byte, [.int fv, .int fv, .int fv, .int y0, .int y1, .int fv, .int fv, .int fv])]) (by rw [hy1]; rfl) ?_
  refine Go.iload d0_166 rfl ?_
  refine Go.iconst d0_168 (v := 3) rfl ?_
  refine Go.icmpF d0_169 (XT.ii_lt_f (by decide)) ?_
  refine Go.aload d0_172 rfl rfl ?_
  refine Go.iload d0_174 rfl ?_
  refine Go.iconst d0_176 (v := 2) rfl ?_
  refine Go.iadd d0_177 ?_
  show Go _ _ _ _ 178 [.val (.int x0), .val (.int x1), .val (.int x2), .val (.int x3), .val (.int x4), .val (.int x5), .val (.int 3), .val (.int 3), .val (.int b0), .val (.int b1), .val (.int b2), .val (.int b3), .val (.int w12), .val (.ref 0), .unset, .unset, .unset, .unset, .unset] [.int 5, .ref 0] [.inr (.byte, [.int fv, .int fv, .int fv, .int y0, .int y1, .int fv, .int fv, .int fv])] _
  refine Go.iload d0_178 rfl ?_
  refine Go.i2b d0_180 ?_
  refine Go.bastore d0_181 rfl (by decide) (Nat.le_of_ble_eq_true rfl) (H1 := [.inr (.byte, [.int fv, .int fv, .int fv, .int y0, .int y1, .int y2, .int fv, .int fv])]) (by rw [hy2]; rfl) ?_
  refine Go.iload d0_182 rfl ?_
  refine Go.iconst d0_184 (v := 4) rfl ?_
  refine Go.icmpT d0_185 j0_185 (XT.ii_lt_t (by decide)) ?_
  refine Go.iload d0_198 rfl ?_
  refine Go.bipush d0_200 (v := 63) rfl ?_
  refine Go.iand d0_202 ?_
  refine Go.istore d0_203 (ls' := [.val (.int x0), .val (.int x1), .val (.int x2), .val (.int x3), .val (.int x4), .val (.int x5), .val (.int 3), .val (.int 3), .val (.int b0), .val (.int b1), .val (.int b2), .val (.int b3), .val (.int w12), .val (.ref 0), .val (.int (b1 &&& 63)), .unset, .unset, .unset, .unset]) rfl ?_
  refine Go.iload d0_205 rfl ?_
  refine Go.bipush d0_207 (v := 63) rfl ?_
  refine Go.iand d0_209 ?_
  refine Go.istore d0_210 (ls' := [.val (.int x0), .val (.int x1), .val (.int x2), .val (.int x3), .val (.int x4), .val (.int x5), .val (.int 3), .val (.int 3), .val (.int b0), .val (.int b1), .val (.int b2), .val (.int b3), .val (.int w12), .val (.ref 0), .val (.int (b1 &&& 63)), .val (.int (b2 &&& 63)), .unset, .unset, .unset]) rfl ?_
  refine Go.iload d0_212 rfl ?_
  refine Go.bipush d0_214 (v := 63) rfl ?_
  refine Go.iand d0_216 ?_
  refine Go.istore d0_217 (ls' := [.val (.int x0), .val (.int x1), .val (.int x2), .val (.int x3), .val (.int x4), .val (.int x5), .val (.int 3), .val (.int 3), .val (.int b0), .val (.int b1), .val (.int b2), .val (.int b3), .val (.int w12), .val (.ref 0), .val (.int (b1 &&& 63)), .val (.int (b2 &&& 63)), .val (.int (b3 &&& 63)), .unset, .unset]) rfl ?_
  refine Go.iload d0_219 rfl ?_
  refine Go.iconst d0_221 (v := 1) rfl ?_
  refine Go.icmpT d0_222 j0_222 (XT.ii_ne_t (by decide)) ?_
  refine Go.iload d0_232 rfl ?_
  refine Go.iconst d0_234 (v := 2) rfl ?_
  refine Go.icmpT d0_235 j0_235 (XT.ii_ne_t (by decide)) ?_
  refine Go.iload d0_278 rfl ?_
  refine Go.iconst d0_280 (v := 3) rfl ?_
  refine Go.icmpF d0_281 (XT.ii_ne_f (by decide)) ?_
  refine Go.iload d0_284 rfl ?_
  refine Go.bipush d0_286 (v := 15) rfl ?_
  refine Go.iand d0_288 ?_
  refine Go.bipush d0_289 (v := 12) rfl ?_
  refine Go.ishl d0_291 ?_
  refine Go.iload d0_292 rfl ?_
  refine Go.bipush d0_294 (v := 6) rfl ?_
  refine Go.ishl d0_296 ?_
  refine Go.ior d0_297 ?_
  refine Go.iload d0_298 rfl ?_
  refine Go.ior d0_300 ?_
  refine Go.istore d0_301 (ls' := [.val (.int x0), .val (.int x1), .val (.int x2), .val (.int x3), .val (.int x4), .val (.int x5), .val (.int 3), .val (.int 3), .val (.int b0), .val (.int b1), .val (.int b2), .val (.int b3), .val (.int w12), .val (.ref 0), .val (.int (b1 &&& 63)), .val (.int (b2 &&& 63)), .val (.int (b3 &&& 63)), .unset, .val (.int ((((b0 &&& 15) <<< (12 &&& 31)) ||| ((b1 &&& 63) <<< (6 &&& 31))) ||| (b2 &&& 63)))]) rfl ?_
  refine Go.iload d0_303 rfl ?_
  refine Go.callS (M' := m4) d0_305 (hw _ (List.mem_of_getElem? (i := 13) rfl)) (hw _ (List.mem_of_getElem? (i := 14) rfl)) (hw _ (List.mem_of_getElem? (i := 2) rfl)) (hw _ (List.mem_of_getElem? (i := 15) rfl)) mi4 (as := [.int b1]) rfl rfl (st := []) rfl (ls1 := [.val (.int b1)]) rfl (W := 0) rfl (by decide) (by decide) (go_own_ic K hw b1 _) 15 120 (by decide) (by decide) ?_
  show Go _ _ _ _ 308 [.val (.int x0), .val (.int x1), .val (.int x2), .val (.int x3), .val (.int x4), .val (.int x5), .val (.int 3), .val (.int 3), .val (.int b0), .val (.int b1), .val (.int b2), .val (.int b3), .val (.int w12), .val (.ref 0), .val (.int (b1 &&& 63)), .val (.int (b2 &&& 63)), .val (.int (b3 &&& 63)), .unset, .val (.int ((((b0 &&& 15) <<< (12 &&& 31)) ||| ((b1 &&& 63) <<< (6 &&& 31))) ||| (b2 &&& 63)))] [.int (own_ic b1)] [.inr (.byte, [.int fv, .int fv, .int fv, .int y0, .int y1, .int y2, .int fv, .int fv])] _
  refine Go.if_eq d0_308 j0_308 (fun h308 => ?_) (fun h308 => ?_)
  · -- pc 308 taken
    refine Go.iconst d0_332 (v := (-1)) rfl ?_
    refine Go.istore d0_333 (ls' := [.val (.int x0), .val (.int x1), .val (.int x2), .val (.int x3), .val (.int x4), .val (.int x5), .val (.int 3), .val (.int 3), .val (.int b0), .val (.int b1), .val (.int b2), .val (.int b3), .val (.int w12), .val (.ref 0), .val (.int (b1 &&& 63)), .val (.int (b2 &&& 63)), .val (.int (b3 &&& 63)), .val (.int (-1)), .val (.int ((((b0 &&& 15) <<< (12 &&& 31)) ||| ((b1 &&& 63) <<< (6 &&& 31))) ||| (b2 &&& 63)))]) rfl ?_
    refine Go.goto d0_335 j0_335 ?_
    refine Go.aload d0_402 rfl rfl ?_
    refine Go.iload d0_404 rfl ?_
    refine Go.iload d0_406 rfl ?_
    refine Go.callS (M' := m3) d0_408 (hw _ (List.mem_of_getElem? (i := 8) rfl)) (hw _ (List.mem_of_getElem? (i := 9) rfl)) (hw _ (List.mem_of_getElem? (i := 10) rfl)) (hw _ (List.mem_of_getElem? (i := 11) rfl)) mi3 (as := [.ref 0, .int 3, .int 3]) rfl rfl (st := []) rfl (ls1 := [.val (.ref 0), .val (.int 3), .val (.int 3), .unset, .unset, .unset, .unset]) rfl (W := 0) rfl (by decide) (by decide) (go_own_cp3 K hw _ 0 _ 3 y0 y1 y2 rfl (by decide) rfl (by decide) rfl (by decide) rfl) 15 120 (by decide) (by decide) ?_
    show Go _ _ _ _ 411 [.val (.int x0), .val (.int x1), .val (.int x2), .val (.int x3), .val (.int x4), .val (.int x5), .val (.int 3), .val (.int 3), .val (.int b0), .val (.int b1), .val (.int b2), .val (.int b3), .val (.int w12), .val (.ref 0), .val (.int (b1 &&& 63)), .val (.int (b2 &&& 63)), .val (.int (b3 &&& 63)), .val (.int (-1)), .val (.int ((((b0 &&& 15) <<< (12 &&& 31)) ||| ((b1 &&& 63) <<< (6 &&& 31))) ||| (b2 &&& 63)))] [.int (own_cp3 y0 y1 y2)] [.inr (.byte, [.int fv, .int fv, .int fv, .int y0, .int y1, .int y2, .int fv, .int fv])] _
    refine Go.iload d0_411 rfl ?_
    refine Go.icmpF d0_413 (XT.ii_ne_f (by rw [own_e3 hz0 hz1 hz2, if_pos h308])) ?_
    refine Go.iconst d0_416 (v := 1) rfl ?_
    refine Go.goto d0_417 j0_417 ?_
    exact Go.ireturnZ d0_421 rfl (by decide) rfl HOk.any
  · -- pc 308 not taken
    refine Go.iload d0_311 rfl ?_
    refine Go.callS (M' := m4) d0_313 (hw _ (List.mem_of_getElem? (i := 13) rfl)) (hw _ (List.mem_of_getElem? (i := 14) rfl)) (hw _ (List.mem_of_getElem? (i := 2) rfl)) (hw _ (List.mem_of_getElem? (i := 15) rfl)) mi4 (as := [.int b2]) rfl rfl (st := []) rfl (ls1 := [.val (.int b2)]) rfl (W := 0) rfl (by decide) (by decide) (go_own_ic K hw b2 _) 15 120 (by decide) (by decide) ?_
    show Go _ _ _ _ 316 [.val (.int x0), .val (.int x1), .val (.int x2), .val (.int x3), .val (.int x4), .val (.int x5), .val (.int 3), .val (.int 3), .val (.int b0), .val (.int b1), .val (.int b2), .val (.int b3), .val (.int w12), .val (.ref 0), .val (.int (b1 &&& 63)), .val (.int (b2 &&& 63)), .val (.int (b3 &&& 63)), .unset, .val (.int ((((b0 &&& 15) <<< (12 &&& 31)) ||| ((b1 &&& 63) <<< (6 &&& 31))) ||| (b2 &&& 63)))] [.int (own_ic b2)] [.inr (.byte, [.int fv, .int fv, .int fv, .int y0, .int y1, .int y2, .int fv, .int fv])] _
    refine Go.if_eq d0_316 j0_316 (fun h316 => ?_) (fun h316 => ?_)
    · -- pc 316 taken
      refine Go.iconst d0_332 (v := (-1)) rfl ?_
      refine Go.istore d0_333 (ls' := [.val (.int x0), .val (.int x1), .val (.int x2), .val (.int x3), .val (.int x4), .val (.int x5), .val (.int 3), .val (.int 3), .val (.int b0), .val (.int b1), .val (.int b2), .val (.int b3), .val (.int w12), .val (.ref 0), .val (.int (b1 &&& 63)), .val (.int (b2 &&& 63)), .val (.int (b3 &&& 63)), .val (.int (-1)), .val (.int ((((b0 &&& 15) <<< (12 &&& 31)) ||| ((b1 &&& 63) <<< (6 &&& 31))) ||| (b2 &&& 63)))]) rfl ?_
      refine Go.goto d0_335 j0_335 ?_
      refine Go.aload d0_402 rfl rfl ?_
      refine Go.iload d0_404 rfl ?_
      refine Go.iload d0_406 rfl ?_
      refine Go.callS (M' := m3) d0_408 (hw _ (List.mem_of_getElem? (i := 8) rfl)) (hw _ (List.mem_of_getElem? (i := 9) rfl)) (hw _ (List.mem_of_getElem? (i := 10) rfl)) (hw _ (List.mem_of_getElem? (i := 11) rfl)) mi3 (as := [.ref 0, .int 3, .int 3]) rfl rfl (st := []) rfl (ls1 := [.val (.ref 0), .val (.int 3), .val (.int 3), .unset, .unset, .unset, .unset]) rfl (W := 0) rfl (by decide) (by decide) (go_own_cp3 K hw _ 0 _ 3 y0 y1 y2 rfl (by decide) rfl (by decide) rfl (by decide) rfl) 15 120 (by decide) (by decide) ?_
      show Go _ _ _ _ 411 [.val (.int x0), .val (.int x1), .val (.int x2), .val (.int x3), .val (.int x4), .val (.int x5), .val (.int 3), .val (.int 3), .val (.int b0), .val (.int b1), .val (.int b2), .val (.int b3), .val (.int w12), .val (.ref 0), .val (.int (b1 &&& 63)), .val (.int (b2 &&& 63)), .val (.int (b3 &&& 63)), .val (.int (-1)), .val (.int ((((b0 &&& 15) <<< (12 &&& 31)) ||| ((b1 &&& 63) <<< (6 &&& 31))) ||| (b2 &&& 63)))] [.int (own_cp3 y0 y1 y2)] [.inr (.byte, [.int fv, .int fv, .int fv, .int y0, .int y1, .int y2, .int fv, .int fv])] _
      refine Go.iload d0_411 rfl ?_
      refine Go.icmpF d0_413 (XT.ii_ne_f (by rw [own_e3 hz0 hz1 hz2, if_neg h308, if_pos h316])) ?_
      refine Go.iconst d0_416 (v := 1) rfl ?_
      refine Go.goto d0_417 j0_417 ?_
      exact Go.ireturnZ d0_421 rfl (by decide) rfl HOk.any
    · -- pc 316 not taken
      refine Go.iload d0_319 rfl ?_
      refine Go.sipush d0_321 (v := 2048) rfl ?_
      refine Go.icmp_lt d0_324 j0_324 (fun h324 => ?_) (fun h324 => ?_)
      · -- pc 324 taken
        refine Go.iconst d0_332 (v := (-1)) rfl ?_
        refine Go.istore d0_333 (ls' := [.val (.int x0), .val (.int x1), .val (.int x2), .val (.int x3), .val (.int x4), .val (.int x5), .val (.int 3), .val (.int 3), .val (.int b0), .val (.int b1), .val (.int b2), .val (.int b3), .val (.int w12), .val (.ref 0), .val (.int (b1 &&& 63)), .val (.int (b2 &&& 63)), .val (.int (b3 &&& 63)), .val (.int (-1)), .val (.int ((((b0 &&& 15) <<< (12 &&& 31)) ||| ((b1 &&& 63) <<< (6 &&& 31))) ||| (b2 &&& 63)))]) rfl ?_
        refine Go.goto d0_335 j0_335 ?_
        refine Go.aload d0_402 rfl rfl ?_
        refine Go.iload d0_404 rfl ?_
        refine Go.iload d0_406 rfl ?_
        refine Go.callS (M' := m3) d0_408 (hw _ (List.mem_of_getElem? (i := 8) rfl)) (hw _ (List.mem_of_getElem? (i := 9) rfl)) (hw _ (List.mem_of_getElem? (i := 10) rfl)) (hw _ (List.mem_of_getElem? (i := 11) rfl)) mi3 (as := [.ref 0, .int 3, .int 3]) rfl rfl (st := []) rfl (ls1 := [.val (.ref 0), .val (.int 3), .val (.int 3), .unset, .unset, .unset, .unset]) rfl (W := 0) rfl (by decide) (by decide) (go_own_cp3 K hw _ 0 _ 3 y0 y1 y2 rfl (by decide) rfl (by decide) rfl (by decide) rfl) 15 120 (by decide) (by decide) ?_
        show Go _ _ _ _ 411 [.val (.int x0), .val (.int x1), .val (.int x2), .val (.int x3), .val (.int x4), .val (.int x5), .val (.int 3), .val (.int 3), .val (.int b0), .val (.int b1), .val (.int b2), .val (.int b3), .val (.int w12), .val (.ref 0), .val (.int (b1 &&& 63)), .val (.int (b2 &&& 63)), .val (.int (b3 &&& 63)), .val (.int (-1)), .val (.int ((((b0 &&& 15) <<< (12 &&& 31)) ||| ((b1 &&& 63) <<< (6 &&& 31))) ||| (b2 &&& 63)))] [.int (own_cp3 y0 y1 y2)] [.inr (.byte, [.int fv, .int fv, .int fv, .int y0, .int y1, .int y2, .int fv, .int fv])] _
        refine Go.iload d0_411 rfl ?_
        refine Go.icmpF d0_413 (XT.ii_ne_f (by rw [own_e3 hz0 hz1 hz2, if_neg h308, if_neg h316, if_pos h324])) ?_
        refine Go.iconst d0_416 (v := 1) rfl ?_
        refine Go.goto d0_417 j0_417 ?_
        exact Go.ireturnZ d0_421 rfl (by decide) rfl HOk.any
      · -- pc 324 not taken
        refine Go.iload d0_327 rfl ?_
        refine Go.goto d0_329 j0_329 ?_
        refine Go.istore d0_333 (ls' := [.val (.int x0), .val (.int x1), .val (.int x2), .val (.int x3), .val (.int x4), .val (.int x5), .val (.int 3), .val (.int 3), .val (.int b0), .val (.int b1), .val (.int b2), .val (.int b3), .val (.int w12), .val (.ref 0), .val (.int (b1 &&& 63)), .val (.int (b2 &&& 63)), .val (.int (b3 &&& 63)), .val (.int ((((b0 &&& 15) <<< (12 &&& 31)) ||| ((b1 &&& 63) <<< (6 &&& 31))) ||| (b2 &&& 63))), .val (.int ((((b0 &&& 15) <<< (12 &&& 31)) ||| ((b1 &&& 63) <<< (6 &&& 31))) ||| (b2 &&& 63)))]) rfl ?_
        refine Go.goto d0_335 j0_335 ?_
        refine Go.aload d0_402 rfl rfl ?_
        refine Go.iload d0_404 rfl ?_
        refine Go.iload d0_406 rfl ?_
        refine Go.callS (M' := m3) d0_408 (hw _ (List.mem_of_getElem? (i := 8) rfl)) (hw _ (List.mem_of_getElem? (i := 9) rfl)) (hw _ (List.mem_of_getElem? (i := 10) rfl)) (hw _ (List.mem_of_getElem? (i := 11) rfl)) mi3 (as := [.ref 0, .int 3, .int 3]) rfl rfl (st := []) rfl (ls1 := [.val (.ref 0), .val (.int 3), .val (.int 3), .unset, .unset, .unset, .unset]) rfl (W := 0) rfl (by decide) (by decide) (go_own_cp3 K hw _ 0 _ 3 y0 y1 y2 rfl (by decide) rfl (by decide) rfl (by decide) rfl) 15 120 (by decide) (by decide) ?_
        show Go _ _ _ _ 411 [.val (.int x0), .val (.int x1), .val (.int x2), .val (.int x3), .val (.int x4), .val (.int x5), .val (.int 3), .val (.int 3), .val (.int b0), .val (.int b1), .val (.int b2), .val (.int b3), .val (.int w12), .val (.ref 0), .val (.int (b1 &&& 63)), .val (.int (b2 &&& 63)), .val (.int (b3 &&& 63)), .val (.int ((((b0 &&& 15) <<< (12 &&& 31)) ||| ((b1 &&& 63) <<< (6 &&& 31))) ||| (b2 &&& 63))), .val (.int ((((b0 &&& 15) <<< (12 &&& 31)) ||| ((b1 &&& 63) <<< (6 &&& 31))) ||| (b2 &&& 63)))] [.int (own_cp3 y0 y1 y2)] [.inr (.byte, [.int fv, .int fv, .int fv, .int y0, .int y1, .int y2, .int fv, .int fv])] _
        refine Go.iload d0_411 rfl ?_
        refine Go.icmpF d0_413 (XT.ii_ne_f (by rw [own_e3 hz0 hz1 hz2, if_neg h308, if_neg h316, if_neg h324])) ?_
        refine Go.iconst d0_416 (v := 1) rfl ?_
        refine Go.goto d0_417 j0_417 ?_
        exact Go.ireturnZ d0_421 rfl (by decide) rfl HOk.any
theorem go_t86_4_0 (K : Ctx) (hw : ∀ d ∈ tables_1, d.before K.2.2.1 K.2.1 = true) (x0 x1 x2 x3 x4 x5 b0 b1 b2 b3 w12 fv y0 y1 y2 y3 : Int32) (hf : nar .byte w12 = fv) (hy0 : nar .byte ((Int32.toInt8 b0).toInt32) = y0) (hy1 : nar .byte ((Int32.toInt8 b1).toInt32) = y1) (hy2 : nar .byte ((Int32.toInt8 b2).toInt32) = y2) (hy3 : nar .byte ((Int32.toInt8 b3).toInt32) = y3) (hz0 : y0 &&& 7 = b0 &&& 7) (hz1 : y1 &&& 255 = b1)  (hz2 : y2 &&& 255 = b2)  (hz3 : y3 &&& 255 = b3) : Go K m0 4 112 86 [.val (.int x0), .val (.int x1), .val (.int x2), .val (.int x3), .val (.int x4), .val (.int x5), .val (.int 4), .val (.int 0), .val (.int b0), .val (.int b1), .val (.int b2), .val (.int b3), .val (.int w12), .unset, .unset, .unset, .unset, .unset, .unset] [] [] (some (.int 1), none, 16, 128) := by
  refine Go.bipush d0_86 (v := 8) rfl ?_
  refine Go.newarray 8 d0_88 (hw _ (List.mem_of_getElem? (i := 7) rfl)) (t := .byte) rfl (by decide) (by decide) (by decide) (vs := [.int 0, .int 0, .int 0, .int 0, .int 0, .int 0, .int 0, .int 0]) rfl (i := 0) rfl 15 120 (by decide) (by decide) ?_
  show Go _ _ _ _ 90 [.val (.int x0), .val (.int x1), .val (.int x2), .val (.int x3), .val (.int x4), .val (.int x5), .val (.int 4), .val (.int 0), .val (.int b0), .val (.int b1), .val (.int b2), .val (.int b3), .val (.int w12), .unset, .unset, .unset, .unset, .unset, .unset] [.ref 0] [.inr (.byte, [.int 0, .int 0, .int 0, .int 0, .int 0, .int 0, .int 0, .int 0])] _
  refine Go.astore d0_90 (ls' := [.val (.int x0), .val (.int x1), .val (.int x2), .val (.int x3), .val (.int x4), .val (.int x5), .val (.int 4), .val (.int 0), .val (.int b0), .val (.int b1), .val (.int b2), .val (.int b3), .val (.int w12), .val (.ref 0), .unset, .unset, .unset, .unset, .unset]) rfl rfl ?_
  refine Go.aload d0_92 rfl rfl ?_
  refine Go.iconst d0_94 (v := 0) rfl ?_
  refine Go.iload d0_95 rfl ?_
  refine Go.bastore d0_97 rfl (by decide) (Nat.le_of_ble_eq_true rfl) (H1 := [.inr (.byte, [.int fv, .int 0, .int 0, .int 0, .int 0, .int 0, .int 0, .int 0])]) (by rw [hf]; rfl) ?_
  refine Go.aload d0_98 rfl rfl ?_
  refine Go.iconst d0_100 (v := 1) rfl ?_
  refine Go.iload d0_101 rfl ?_
  refine Go.bastore d0_103 rfl (by decide) (Nat.le_of_ble_eq_true rfl) (H1 := [.inr (.byte, [.int fv, .int fv, .int 0, .int 0, .int 0, .int 0, .int 0, .int 0])]) (by rw [hf]; rfl) ?_
  refine Go.aload d0_104 rfl rfl ?_
  refine Go.iconst d0_106 (v := 2) rfl ?_
  refine Go.iload d0_107 rfl ?_
  refine Go.bastore d0_109 rfl (by decide) (Nat.le_of_ble_eq_true rfl) (H1 := [.inr (.byte, [.int fv, .int fv, .int fv, .int 0, .int 0, .int 0, .int 0, .int 0])]) (by rw [hf]; rfl) ?_
  refine Go.aload d0_110 rfl rfl ?_
  refine Go.iconst d0_112 (v := 3) rfl ?_
  refine Go.iload d0_113 rfl ?_
  refine Go.bastore d0_115 rfl (by decide) (Nat.le_of_ble_eq_true rfl) (H1 := [.inr (.byte, [.int fv, .int fv, .int fv, .int fv, .int 0, .int 0, .int 0, .int 0])]) (by rw [hf]; rfl) ?_
  refine Go.aload d0_116 rfl rfl ?_
  refine Go.iconst d0_118 (v := 4) rfl ?_
  refine Go.iload d0_119 rfl ?_
  refine Go.bastore d0_121 rfl (by decide) (Nat.le_of_ble_eq_true rfl) (H1 := [.inr (.byte, [.int fv, .int fv, .int fv, .int fv, .int fv, .int 0, .int 0, .int 0])]) (by rw [hf]; rfl) ?_
  refine Go.aload d0_122 rfl rfl ?_
  refine Go.iconst d0_124 (v := 5) rfl ?_
  refine Go.iload d0_125 rfl ?_
  refine Go.bastore d0_127 rfl (by decide) (Nat.le_of_ble_eq_true rfl) (H1 := [.inr (.byte, [.int fv, .int fv, .int fv, .int fv, .int fv, .int fv, .int 0, .int 0])]) (by rw [hf]; rfl) ?_
  refine Go.aload d0_128 rfl rfl ?_
  refine Go.bipush d0_130 (v := 6) rfl ?_
  refine Go.iload d0_132 rfl ?_
  refine Go.bastore d0_134 rfl (by decide) (Nat.le_of_ble_eq_true rfl) (H1 := [.inr (.byte, [.int fv, .int fv, .int fv, .int fv, .int fv, .int fv, .int fv, .int 0])]) (by rw [hf]; rfl) ?_
  refine Go.aload d0_135 rfl rfl ?_
  refine Go.bipush d0_137 (v := 7) rfl ?_
  refine Go.iload d0_139 rfl ?_
  refine Go.bastore d0_141 rfl (by decide) (Nat.le_of_ble_eq_true rfl) (H1 := [.inr (.byte, [.int fv, .int fv, .int fv, .int fv, .int fv, .int fv, .int fv, .int fv])]) (by rw [hf]; rfl) ?_
  refine Go.aload d0_142 rfl rfl ?_
  refine Go.iload d0_144 rfl ?_
  refine Go.iload d0_146 rfl ?_
  refine Go.i2b d0_148 ?_
  refine Go.bastore d0_149 rfl (by decide) (Nat.le_of_ble_eq_true rfl) (H1 := [.inr (.byte, [.int y0, .int fv, .int fv, .int fv, .int fv, .int fv, .int fv, .int fv])]) (by rw [hy0]; rfl) ?_
  refine Go.iload d0_150 rfl ?_
  refine Go.iconst d0_152 (v := 2) rfl ?_
  refine Go.icmpF d0_153 (XT.ii_lt_f (by decide)) ?_
  refine Go.aload d0_156 rfl rfl ?_
  refine Go.iload d0_158 rfl ?_
  refine Go.iconst d0_160 (v := 1) rfl ?_
  refine Go.iadd d0_161 ?_
  show Go _ _ _ _ 162 [.val (.int x0), .val (.int x1), .val (.int x2), .val (.int x3), .val (.int x4), .val (.int x5), .val (.int 4), .val (.int 0), .val (.int b0), .val (.int b1), .val (.int b2), .val (.int b3), .val (.int w12), .val (.ref 0), .unset, .unset, .unset, .unset, .unset] [.int 1, .ref 0] [.inr (.byte, [.int y0, .int fv, .int fv, .int fv, .int fv, .int fv, .int fv, .int fv])] _
  refine Go.iload d0_162 rfl ?_
  refine Go.i2b d0_164 ?_
  refine Go.bastore d0_165 rfl (by decide) (Nat.le_of_ble_eq_true rfl) (H1 := [.inr (.byte, [.int y0, .int y1, .int fv, .int fv, .int fv, .int fv, .int fv, .int fv])]) (by rw [hy1]; rfl) ?_
  refine Go.iload d0_166 rfl ?_
  refine Go.iconst d0_168 (v := 3) rfl ?_
  refine Go.icmpF d0_169 (XT.ii_lt_f (by decide)) ?_
  refine Go.aload d0_172 rfl rfl ?_
  refine Go.iload d0_174 rfl ?_
  refine Go.iconst d0_176 (v := 2) rfl ?_
  refine Go.iadd d0_177 ?_
  show Go _ _ _ _ 178 [.val (.int x0), .val (.int x1), .val (.int x2), .val (.int x3), .val (.int x4), .val (.int x5), .val (.int 4), .val (.int 0), .val (.int b0), .val (.int b1), .val (.int b2), .val (.int b3), .val (.int w12), .val (.ref 0), .unset, .unset, .unset, .unset, .unset] [.int 2, .ref 0] [.inr (.byte, [.int y0, .int y1, .int fv, .int fv, .int fv, .int fv, .int fv, .int fv])] _
  refine Go.iload d0_178 rfl ?_
  refine Go.i2b d0_180 ?_
  refine Go.bastore d0_181 rfl (by decide) (Nat.le_of_ble_eq_true rfl) (H1 := [.inr (.byte, [.int y0, .int y1, .int y2, .int fv, .int fv, .int fv, .int fv, .int fv])]) (by rw [hy2]; rfl) ?_
  refine Go.iload d0_182 rfl ?_
  refine Go.iconst d0_184 (v := 4) rfl ?_
  refine Go.icmpF d0_185 (XT.ii_lt_f (by decide)) ?_
  refine Go.aload d0_188 rfl rfl ?_
  refine Go.iload d0_190 rfl ?_
  refine Go.iconst d0_192 (v := 3) rfl ?_
  refine Go.iadd d0_193 ?_
  show Go _ _ _ _ 194 [.val (.int x0), .val (.int x1), .val (.int x2), .val (.int x3), .val (.int x4), .val (.int x5), .val (.int 4), .val (.int 0), .val (.int b0), .val (.int b1), .val (.int b2), .val (.int b3), .val (.int w12), .val (.ref 0), .unset, .unset, .unset, .unset, .unset] [.int 3, .ref 0] [.inr (.byte, [.int y0, .int y1, .int y2, .int fv, .int fv, .int fv, .int fv, .int fv])] _
  refine Go.iload d0_194 rfl ?_
  refine Go.i2b d0_196 ?_
  refine Go.bastore d0_197 rfl (by decide) (Nat.le_of_ble_eq_true rfl) (H1 := [.inr (.byte, [.int y0, .int y1, .int y2, .int y3, .int fv, .int fv, .int fv, .int fv])]) (by rw [hy3]; rfl) ?_
  refine Go.iload d0_198 rfl ?_
  refine Go.bipush d0_200 (v := 63) rfl ?_
  refine Go.iand d0_202 ?_
  refine Go.istore d0_203 (ls' := [.val (.int x0), .val (.int x1), .val (.int x2), .val (.int x3), .val (.int x4), .val (.int x5), .val (.int 4), .val (.int 0), .val (.int b0), .val (.int b1), .val (.int b2), .val (.int b3), .val (.int w12), .val (.ref 0), .val (.int (b1 &&& 63)), .unset, .unset, .unset, .unset]) rfl ?_
  refine Go.iload d0_205 rfl ?_
  refine Go.bipush d0_207 (v := 63) rfl ?_
  refine Go.iand d0_209 ?_
  refine Go.istore d0_210 (ls' := [.val (.int x0), .val (.int x1), .val (.int x2), .val (.int x3), .val (.int x4), .val (.int x5), .val (.int 4), .val (.int 0), .val (.int b0), .val (.int b1), .val (.int b2), .val (.int b3), .val (.int w12), .val (.ref 0), .val (.int (b1 &&& 63)), .val (.int (b2 &&& 63)), .unset, .unset, .unset]) rfl ?_
  refine Go.iload d0_212 rfl ?_
  refine Go.bipush d0_214 (v := 63) rfl ?_
  refine Go.iand d0_216 ?_
  refine Go.istore d0_217 (ls' := [.val (.int x0), .val (.int x1), .val (.int x2), .val (.int x3), .val (.int x4), .val (.int x5), .val (.int 4), .val (.int 0), .val (.int b0), .val (.int b1), .val (.int b2), .val (.int b3), .val (.int w12), .val (.ref 0), .val (.int (b1 &&& 63)), .val (.int (b2 &&& 63)), .val (.int (b3 &&& 63)), .unset, .unset]) rfl ?_
  refine Go.iload d0_219 rfl ?_
  refine Go.iconst d0_221 (v := 1) rfl ?_
  refine Go.icmpT d0_222 j0_222 (XT.ii_ne_t (by decide)) ?_
  refine Go.iload d0_232 rfl ?_
  refine Go.iconst d0_234 (v := 2) rfl ?_
  refine Go.icmpT d0_235 j0_235 (XT.ii_ne_t (by decide)) ?_
  refine Go.iload d0_278 rfl ?_
  refine Go.iconst d0_280 (v := 3) rfl ?_
  refine Go.icmpT d0_281 j0_281 (XT.ii_ne_t (by decide)) ?_
  refine Go.iload d0_338 rfl ?_
  refine Go.bipush d0_340 (v := 7) rfl ?_
  refine Go.iand d0_342 ?_
  refine Go.bipush d0_343 (v := 18) rfl ?_
  refine Go.ishl d0_345 ?_
  refine Go.iload d0_346 rfl ?_
  refine Go.bipush d0_348 (v := 12) rfl ?_
  refine Go.ishl d0_350 ?_
  refine Go.ior d0_351 ?_
  refine Go.iload d0_352 rfl ?_
  refine Go.bipush d0_354 (v := 6) rfl ?_
  refine Go.ishl d0_356 ?_
  refine Go.ior d0_357 ?_
  refine Go.iload d0_358 rfl ?_
  refine Go.ior d0_360 ?_
  refine Go.istore d0_361 (ls' := [.val (.int x0), .val (.int x1), .val (.int x2), .val (.int x3), .val (.int x4), .val (.int x5), .val (.int 4), .val (.int 0), .val (.int b0), .val (.int b1), .val (.int b2), .val (.int b3), .val (.int w12), .val (.ref 0), .val (.int (b1 &&& 63)), .val (.int (b2 &&& 63)), .val (.int (b3 &&& 63)), .unset, .val (.int (((((b0 &&& 7) <<< (18 &&& 31)) ||| ((b1 &&& 63) <<< (12 &&& 31))) ||| ((b2 &&& 63) <<< (6 &&& 31))) ||| (b3 &&& 63)))]) rfl ?_
  refine Go.iload d0_363 rfl ?_
  refine Go.callS (M' := m4) d0_365 (hw _ (List.mem_of_getElem? (i := 13) rfl)) (hw _ (List.mem_of_getElem? (i := 14) rfl)) (hw _ (List.mem_of_getElem? (i := 2) rfl)) (hw _ (List.mem_of_getElem? (i := 15) rfl)) mi4 (as := [.int b1]) rfl rfl (st := []) rfl (ls1 := [.val (.int b1)]) rfl (W := 0) rfl (by decide) (by decide) (go_own_ic K hw b1 _) 15 120 (by decide) (by decide) ?_
  show Go _ _ _ _ 368 [.val (.int x0), .val (.int x1), .val (.int x2), .val (.int x3), .val (.int x4), .val (.int x5), .val (.int 4), .val (.int 0), .val (.int b0), .val (.int b1), .val (.int b2), .val (.int b3), .val (.int w12), .val (.ref 0), .val (.int (b1 &&& 63)), .val (.int (b2 &&& 63)), .val (.int (b3 &&& 63)), .unset, .val (.int (((((b0 &&& 7) <<< (18 &&& 31)) ||| ((b1 &&& 63) <<< (12 &&& 31))) ||| ((b2 &&& 63) <<< (6 &&& 31))) ||| (b3 &&& 63)))] [.int (own_ic b1)] [.inr (.byte, [.int y0, .int y1, .int y2, .int y3, .int fv, .int fv, .int fv, .int fv])] _
  refine Go.if_eq d0_368 j0_368 (fun h368 => ?_) (fun h368 => ?_)
  · -- pc 368 taken
    refine Go.iconst d0_399 (v := (-1)) rfl ?_
    refine Go.istore d0_400 (ls' := [.val (.int x0), .val (.int x1), .val (.int x2), .val (.int x3), .val (.int x4), .val (.int x5), .val (.int 4), .val (.int 0), .val (.int b0), .val (.int b1), .val (.int b2), .val (.int b3), .val (.int w12), .val (.ref 0), .val (.int (b1 &&& 63)), .val (.int (b2 &&& 63)), .val (.int (b3 &&& 63)), .val (.int (-1)), .val (.int (((((b0 &&& 7) <<< (18 &&& 31)) ||| ((b1 &&& 63) <<< (12 &&& 31))) ||| ((b2 &&& 63) <<< (6 &&& 31))) ||| (b3 &&& 63)))]) rfl ?_
    refine Go.aload d0_402 rfl rfl ?_
    refine Go.iload d0_404 rfl ?_
    refine Go.iload d0_406 rfl ?_
    refine Go.callS (M' := m3) d0_408 (hw _ (List.mem_of_getElem? (i := 8) rfl)) (hw _ (List.mem_of_getElem? (i := 9) rfl)) (hw _ (List.mem_of_getElem? (i := 10) rfl)) (hw _ (List.mem_of_getElem? (i := 11) rfl)) mi3 (as := [.ref 0, .int 0, .int 4]) rfl rfl (st := []) rfl (ls1 := [.val (.ref 0), .val (.int 0), .val (.int 4), .unset, .unset, .unset, .unset]) rfl (W := 0) rfl (by decide) (by decide) (go_own_cp4 K hw _ 0 _ 0 y0 y1 y2 y3 rfl (by decide) rfl (by decide) rfl (by decide) rfl (by decide) rfl) 15 120 (by decide) (by decide) ?_
    show Go _ _ _ _ 411 [.val (.int x0), .val (.int x1), .val (.int x2), .val (.int x3), .val (.int x4), .val (.int x5), .val (.int 4), .val (.int 0), .val (.int b0), .val (.int b1), .val (.int b2), .val (.int b3), .val (.int w12), .val (.ref 0), .val (.int (b1 &&& 63)), .val (.int (b2 &&& 63)), .val (.int (b3 &&& 63)), .val (.int (-1)), .val (.int (((((b0 &&& 7) <<< (18 &&& 31)) ||| ((b1 &&& 63) <<< (12 &&& 31))) ||| ((b2 &&& 63) <<< (6 &&& 31))) ||| (b3 &&& 63)))] [.int (own_cp4 y0 y1 y2 y3)] [.inr (.byte, [.int y0, .int y1, .int y2, .int y3, .int fv, .int fv, .int fv, .int fv])] _
    refine Go.iload d0_411 rfl ?_
    refine Go.icmpF d0_413 (XT.ii_ne_f (by rw [own_e4 hz0 hz1 hz2 hz3, if_pos h368])) ?_
    refine Go.iconst d0_416 (v := 1) rfl ?_
    refine Go.goto d0_417 j0_417 ?_
    exact Go.ireturnZ d0_421 rfl (by decide) rfl HOk.any
  · -- pc 368 not taken
    refine Go.iload d0_371 rfl ?_
    refine Go.callS (M' := m4) d0_373 (hw _ (List.mem_of_getElem? (i := 13) rfl)) (hw _ (List.mem_of_getElem? (i := 14) rfl)) (hw _ (List.mem_of_getElem? (i := 2) rfl)) (hw _ (List.mem_of_getElem? (i := 15) rfl)) mi4 (as := [.int b2]) rfl rfl (st := []) rfl (ls1 := [.val (.int b2)]) rfl (W := 0) rfl (by decide) (by decide) (go_own_ic K hw b2 _) 15 120 (by decide) (by decide) ?_
    show Go _ _ _ _ 376 [.val (.int x0), .val (.int x1), .val (.int x2), .val (.int x3), .val (.int x4), .val (.int x5), .val (.int 4), .val (.int 0), .val (.int b0), .val (.int b1), .val (.int b2), .val (.int b3), .val (.int w12), .val (.ref 0), .val (.int (b1 &&& 63)), .val (.int (b2 &&& 63)), .val (.int (b3 &&& 63)), .unset, .val (.int (((((b0 &&& 7) <<< (18 &&& 31)) ||| ((b1 &&& 63) <<< (12 &&& 31))) ||| ((b2 &&& 63) <<< (6 &&& 31))) ||| (b3 &&& 63)))] [.int (own_ic b2)] [.inr (.byte, [.int y0, .int y1, .int y2, .int y3, .int fv, .int fv, .int fv, .int fv])] _
    refine Go.if_eq d0_376 j0_376 (fun h376 => ?_) (fun h376 => ?_)
    · -- pc 376 taken
      refine Go.iconst d0_399 (v := (-1)) rfl ?_
      refine Go.istore d0_400 (ls' := [.val (.int x0), .val (.int x1), .val (.int x2), .val (.int x3), .val (.int x4), .val (.int x5), .val (.int 4), .val (.int 0), .val (.int b0), .val (.int b1), .val (.int b2), .val (.int b3), .val (.int w12), .val (.ref 0), .val (.int (b1 &&& 63)), .val (.int (b2 &&& 63)), .val (.int (b3 &&& 63)), .val (.int (-1)), .val (.int (((((b0 &&& 7) <<< (18 &&& 31)) ||| ((b1 &&& 63) <<< (12 &&& 31))) ||| ((b2 &&& 63) <<< (6 &&& 31))) ||| (b3 &&& 63)))]) rfl ?_
      refine Go.aload d0_402 rfl rfl ?_
      refine Go.iload d0_404 rfl ?_
      refine Go.iload d0_406 rfl ?_
      refine Go.callS (M' := m3) d0_408 (hw _ (List.mem_of_getElem? (i := 8) rfl)) (hw _ (List.mem_of_getElem? (i := 9) rfl)) (hw _ (List.mem_of_getElem? (i := 10) rfl)) (hw _ (List.mem_of_getElem? (i := 11) rfl)) mi3 (as := [.ref 0, .int 0, .int 4]) rfl rfl (st := []) rfl (ls1 := [.val (.ref 0), .val (.int 0), .val (.int 4), .unset, .unset, .unset, .unset]) rfl (W := 0) rfl (by decide) (by decide) (go_own_cp4 K hw _ 0 _ 0 y0 y1 y2 y3 rfl (by decide) rfl (by decide) rfl (by decide) rfl (by decide) rfl) 15 120 (by decide) (by decide) ?_
      show Go _ _ _ _ 411 [.val (.int x0), .val (.int x1), .val (.int x2), .val (.int x3), .val (.int x4), .val (.int x5), .val (.int 4), .val (.int 0), .val (.int b0), .val (.int b1), .val (.int b2), .val (.int b3), .val (.int w12), .val (.ref 0), .val (.int (b1 &&& 63)), .val (.int (b2 &&& 63)), .val (.int (b3 &&& 63)), .val (.int (-1)), .val (.int (((((b0 &&& 7) <<< (18 &&& 31)) ||| ((b1 &&& 63) <<< (12 &&& 31))) ||| ((b2 &&& 63) <<< (6 &&& 31))) ||| (b3 &&& 63)))] [.int (own_cp4 y0 y1 y2 y3)] [.inr (.byte, [.int y0, .int y1, .int y2, .int y3, .int fv, .int fv, .int fv, .int fv])] _
      refine Go.iload d0_411 rfl ?_
      refine Go.icmpF d0_413 (XT.ii_ne_f (by rw [own_e4 hz0 hz1 hz2 hz3, if_neg h368, if_pos h376])) ?_
      refine Go.iconst d0_416 (v := 1) rfl ?_
      refine Go.goto d0_417 j0_417 ?_
      exact Go.ireturnZ d0_421 rfl (by decide) rfl HOk.any
    · -- pc 376 not taken
      refine Go.iload d0_379 rfl ?_
      refine Go.callS (M' := m4) d0_381 (hw _ (List.mem_of_getElem? (i := 13) rfl)) (hw _ (List.mem_of_getElem? (i := 14) rfl)) (hw _ (List.mem_of_getElem? (i := 2) rfl)) (hw _ (List.mem_of_getElem? (i := 15) rfl)) mi4 (as := [.int b3]) rfl rfl (st := []) rfl (ls1 := [.val (.int b3)]) rfl (W := 0) rfl (by decide) (by decide) (go_own_ic K hw b3 _) 15 120 (by decide) (by decide) ?_
      show Go _ _ _ _ 384 [.val (.int x0), .val (.int x1), .val (.int x2), .val (.int x3), .val (.int x4), .val (.int x5), .val (.int 4), .val (.int 0), .val (.int b0), .val (.int b1), .val (.int b2), .val (.int b3), .val (.int w12), .val (.ref 0), .val (.int (b1 &&& 63)), .val (.int (b2 &&& 63)), .val (.int (b3 &&& 63)), .unset, .val (.int (((((b0 &&& 7) <<< (18 &&& 31)) ||| ((b1 &&& 63) <<< (12 &&& 31))) ||| ((b2 &&& 63) <<< (6 &&& 31))) ||| (b3 &&& 63)))] [.int (own_ic b3)] [.inr (.byte, [.int y0, .int y1, .int y2, .int y3, .int fv, .int fv, .int fv, .int fv])] _
      refine Go.if_eq d0_384 j0_384 (fun h384 => ?_) (fun h384 => ?_)
      · -- pc 384 taken
        refine Go.iconst d0_399 (v := (-1)) rfl ?_
        refine Go.istore d0_400 (ls' := [.val (.int x0), .val (.int x1), .val (.int x2), .val (.int x3), .val (.int x4), .val (.int x5), .val (.int 4), .val (.int 0), .val (.int b0), .val (.int b1), .val (.int b2), .val (.int b3), .val (.int w12), .val (.ref 0), .val (.int (b1 &&& 63)), .val (.int (b2 &&& 63)), .val (.int (b3 &&& 63)), .val (.int (-1)), .val (.int (((((b0 &&& 7) <<< (18 &&& 31)) ||| ((b1 &&& 63) <<< (12 &&& 31))) ||| ((b2 &&& 63) <<< (6 &&& 31))) ||| (b3 &&& 63)))]) rfl ?_
        refine Go.aload d0_402 rfl rfl ?_
        refine Go.iload d0_404 rfl ?_
        refine Go.iload d0_406 rfl ?_
        refine Go.callS (M' := m3) d0_408 (hw _ (List.mem_of_getElem? (i := 8) rfl)) (hw _ (List.mem_of_getElem? (i := 9) rfl)) (hw _ (List.mem_of_getElem? (i := 10) rfl)) (hw _ (List.mem_of_getElem? (i := 11) rfl)) mi3 (as := [.ref 0, .int 0, .int 4]) rfl rfl (st := []) rfl (ls1 := [.val (.ref 0), .val (.int 0), .val (.int 4), .unset, .unset, .unset, .unset]) rfl (W := 0) rfl (by decide) (by decide) (go_own_cp4 K hw _ 0 _ 0 y0 y1 y2 y3 rfl (by decide) rfl (by decide) rfl (by decide) rfl (by decide) rfl) 15 120 (by decide) (by decide) ?_
        show Go _ _ _ _ 411 [.val (.int x0), .val (.int x1), .val (.int x2), .val (.int x3), .val (.int x4), .val (.int x5), .val (.int 4), .val (.int 0), .val (.int b0), .val (.int b1), .val (.int b2), .val (.int b3), .val (.int w12), .val (.ref 0), .val (.int (b1 &&& 63)), .val (.int (b2 &&& 63)), .val (.int (b3 &&& 63)), .val (.int (-1)), .val (.int (((((b0 &&& 7) <<< (18 &&& 31)) ||| ((b1 &&& 63) <<< (12 &&& 31))) ||| ((b2 &&& 63) <<< (6 &&& 31))) ||| (b3 &&& 63)))] [.int (own_cp4 y0 y1 y2 y3)] [.inr (.byte, [.int y0, .int y1, .int y2, .int y3, .int fv, .int fv, .int fv, .int fv])] _
        refine Go.iload d0_411 rfl ?_
        refine Go.icmpF d0_413 (XT.ii_ne_f (by rw [own_e4 hz0 hz1 hz2 hz3, if_neg h368, if_neg h376, if_pos h384])) ?_
        refine Go.iconst d0_416 (v := 1) rfl ?_
        refine Go.goto d0_417 j0_417 ?_
        exact Go.ireturnZ d0_421 rfl (by decide) rfl HOk.any
      · -- pc 384 not taken
        refine Go.iload d0_387 rfl ?_
        refine Go.ldc d0_389 (hw _ (List.mem_of_getElem? (i := 16) rfl)) ?_
        refine Go.icmp_lt d0_391 j0_391 (fun h391 => ?_) (fun h391 => ?_)
        · -- pc 391 taken
          refine Go.iconst d0_399 (v := (-1)) rfl ?_
          refine Go.istore d0_400 (ls' := [.val (.int x0), .val (.int x1), .val (.int x2), .val (.int x3), .val (.int x4), .val (.int x5), .val (.int 4), .val (.int 0), .val (.int b0), .val (.int b1), .val (.int b2), .val (.int b3), .val (.int w12), .val (.ref 0), .val (.int (b1 &&& 63)), .val (.int (b2 &&& 63)), .val (.int (b3 &&& 63)), .val (.int (-1)), .val (.int (((((b0 &&& 7) <<< (18 &&& 31)) ||| ((b1 &&& 63) <<< (12 &&& 31))) ||| ((b2 &&& 63) <<< (6 &&& 31))) ||| (b3 &&& 63)))]) rfl ?_
          refine Go.aload d0_402 rfl rfl ?_
          refine Go.iload d0_404 rfl ?_
          refine Go.iload d0_406 rfl ?_
          refine Go.callS (M' := m3) d0_408 (hw _ (List.mem_of_getElem? (i := 8) rfl)) (hw _ (List.mem_of_getElem? (i := 9) rfl)) (hw _ (List.mem_of_getElem? (i := 10) rfl)) (hw _ (List.mem_of_getElem? (i := 11) rfl)) mi3 (as := [.ref 0, .int 0, .int 4]) rfl rfl (st := []) rfl (ls1 := [.val (.ref 0), .val (.int 0), .val (.int 4), .unset, .unset, .unset, .unset]) rfl (W := 0) rfl (by decide) (by decide) (go_own_cp4 K hw _ 0 _ 0 y0 y1 y2 y3 rfl (by decide) rfl (by decide) rfl (by decide) rfl (by decide) rfl) 15 120 (by decide) (by decide) ?_
          show Go _ _ _ _ 411 [.val (.int x0), .val (.int x1), .val (.int x2), .val (.int x3), .val (.int x4), .val (.int x5), .val (.int 4), .val (.int 0), .val (.int b0), .val (.int b1), .val (.int b2), .val (.int b3), .val (.int w12), .val (.ref 0), .val (.int (b1 &&& 63)), .val (.int (b2 &&& 63)), .val (.int (b3 &&& 63)), .val (.int (-1)), .val (.int (((((b0 &&& 7) <<< (18 &&& 31)) ||| ((b1 &&& 63) <<< (12 &&& 31))) ||| ((b2 &&& 63) <<< (6 &&& 31))) ||| (b3 &&& 63)))] [.int (own_cp4 y0 y1 y2 y3)] [.inr (.byte, [.int y0, .int y1, .int y2, .int y3, .int fv, .int fv, .int fv, .int fv])] _
          refine Go.iload d0_411 rfl ?_
          refine Go.icmpF d0_413 (XT.ii_ne_f (by rw [own_e4 hz0 hz1 hz2 hz3, if_neg h368, if_neg h376, if_neg h384, if_pos h391])) ?_
          refine Go.iconst d0_416 (v := 1) rfl ?_
          refine Go.goto d0_417 j0_417 ?_
          exact Go.ireturnZ d0_421 rfl (by decide) rfl HOk.any
        · -- pc 391 not taken
          refine Go.iload d0_394 rfl ?_
          refine Go.goto d0_396 j0_396 ?_
          refine Go.istore d0_400 (ls' := [.val (.int x0), .val (.int x1), .val (.int x2), .val (.int x3), .val (.int x4), .val (.int x5), .val (.int 4), .val (.int 0), .val (.int b0), .val (.int b1), .val (.int b2), .val (.int b3), .val (.int w12), .val (.ref 0), .val (.int (b1 &&& 63)), .val (.int (b2 &&& 63)), .val (.int (b3 &&& 63)), .val (.int (((((b0 &&& 7) <<< (18 &&& 31)) ||| ((b1 &&& 63) <<< (12 &&& 31))) ||| ((b2 &&& 63) <<< (6 &&& 31))) ||| (b3 &&& 63))), .val (.int (((((b0 &&& 7) <<< (18 &&& 31)) ||| ((b1 &&& 63) <<< (12 &&& 31))) ||| ((b2 &&& 63) <<< (6 &&& 31))) ||| (b3 &&& 63)))]) rfl ?_
          refine Go.aload d0_402 rfl rfl ?_
          refine Go.iload d0_404 rfl ?_
          refine Go.iload d0_406 rfl ?_
          refine Go.callS (M' := m3) d0_408 (hw _ (List.mem_of_getElem? (i := 8) rfl)) (hw _ (List.mem_of_getElem? (i := 9) rfl)) (hw _ (List.mem_of_getElem? (i := 10) rfl)) (hw _ (List.mem_of_getElem? (i := 11) rfl)) mi3 (as := [.ref 0, .int 0, .int 4]) rfl rfl (st := []) rfl (ls1 := [.val (.ref 0), .val (.int 0), .val (.int 4), .unset, .unset, .unset, .unset]) rfl (W := 0) rfl (by decide) (by decide) (go_own_cp4 K hw _ 0 _ 0 y0 y1 y2 y3 rfl (by decide) rfl (by decide) rfl (by decide) rfl (by decide) rfl) 15 120 (by decide) (by decide) ?_
          show Go _ _ _ _ 411 [.val (.int x0), .val (.int x1), .val (.int x2), .val (.int x3), .val (.int x4), .val (.int x5), .val (.int 4), .val (.int 0), .val (.int b0), .val (.int b1), .val (.int b2), .val (.int b3), .val (.int w12), .val (.ref 0), .val (.int (b1 &&& 63)), .val (.int (b2 &&& 63)), .val (.int (b3 &&& 63)), .val (.int (((((b0 &&& 7) <<< (18 &&& 31)) ||| ((b1 &&& 63) <<< (12 &&& 31))) ||| ((b2 &&& 63) <<< (6 &&& 31))) ||| (b3 &&& 63))), .val (.int (((((b0 &&& 7) <<< (18 &&& 31)) ||| ((b1 &&& 63) <<< (12 &&& 31))) ||| ((b2 &&& 63) <<< (6 &&& 31))) ||| (b3 &&& 63)))] [.int (own_cp4 y0 y1 y2 y3)] [.inr (.byte, [.int y0, .int y1, .int y2, .int y3, .int fv, .int fv, .int fv, .int fv])] _
          refine Go.iload d0_411 rfl ?_
          refine Go.icmpF d0_413 (XT.ii_ne_f (by rw [own_e4 hz0 hz1 hz2 hz3, if_neg h368, if_neg h376, if_neg h384, if_neg h391])) ?_
          refine Go.iconst d0_416 (v := 1) rfl ?_
          refine Go.goto d0_417 j0_417 ?_
          exact Go.ireturnZ d0_421 rfl (by decide) rfl HOk.any
theorem go_t86_4_1 (K : Ctx) (hw : ∀ d ∈ tables_1, d.before K.2.2.1 K.2.1 = true) (x0 x1 x2 x3 x4 x5 b0 b1 b2 b3 w12 fv y0 y1 y2 y3 : Int32) (hf : nar .byte w12 = fv) (hy0 : nar .byte ((Int32.toInt8 b0).toInt32) = y0) (hy1 : nar .byte ((Int32.toInt8 b1).toInt32) = y1) (hy2 : nar .byte ((Int32.toInt8 b2).toInt32) = y2) (hy3 : nar .byte ((Int32.toInt8 b3).toInt32) = y3) (hz0 : y0 &&& 7 = b0 &&& 7) (hz1 : y1 &&& 255 = b1)  (hz2 : y2 &&& 255 = b2)  (hz3 : y3 &&& 255 = b3) : Go K m0 4 112 86 [.val (.int x0), .val (.int x1), .val (.int x2), .val (.int x3), .val (.int x4), .val (.int x5), .val (.int 4), .val (.int 1), .val (.int b0), .val (.int b1), .val (.int b2), .val (.int b3), .val (.int w12), .unset, .unset, .unset, .unset, .unset, .unset] [] [] (some (.int 1), none, 16, 128) := by
  refine Go.bipush d0_86 (v := 8) rfl ?_
  refine Go.newarray 8 d0_88 (hw _ (List.mem_of_getElem? (i := 7) rfl)) (t := .byte) rfl (by decide) (by decide) (by decide) (vs := [.int 0, .int 0, .int 0, .int 0, .int 0, .int 0, .int 0, .int 0]) rfl (i := 0) rfl 15 120 (by decide) (by decide) ?_
  show Go _ _ _ _ 90 [.val (.int x0), .val (.int x1), .val (.int x2), .val (.int x3), .val (.int x4), .val (.int x5), .val (.int 4), .val (.int 1), .val (.int b0), .val (.int b1), .val (.int b2), .val (.int b3), .val (.int w12), .unset, .unset, .unset, .unset, .unset, .unset] [.ref 0] [.inr (.byte, [.int 0, .int 0, .int 0, .int 0, .int 0, .int 0, .int 0, .int 0])] _
  refine Go.astore d0_90 (ls' := [.val (.int x0), .val (.int x1), .val (.int x2), .val (.int x3), .val (.int x4), .val (.int x5), .val (.int 4), .val (.int 1), .val (.int b0), .val (.int b1), .val (.int b2), .val (.int b3), .val (.int w12), .val (.ref 0), .unset, .unset, .unset, .unset, .unset]) rfl rfl ?_
  refine Go.aload d0_92 rfl rfl ?_
  refine Go.iconst d0_94 (v := 0) rfl ?_
  refine Go.iload d0_95 rfl ?_
  refine Go.bastore d0_97 rfl (by decide) (Nat.le_of_ble_eq_true rfl) (H1 := [.inr (.byte, [.int fv, .int 0, .int 0, .int 0, .int 0, .int 0, .int 0, .int 0])]) (by rw [hf]; rfl) ?_
  refine Go.aload d0_98 rfl rfl ?_
  refine Go.iconst d0_100 (v := 1) rfl ?_
  refine Go.iload d0_101 rfl ?_
  refine Go.bastore d0_103 rfl (by decide) (Nat.le_of_ble_eq_true rfl) (H1 := [.inr (.byte, [.int fv, .int fv, .int 0, .int 0, .int 0, .int 0, .int 0, .int 0])]) (by rw [hf]; rfl) ?_
  refine Go.aload d0_104 rfl rfl ?_
  refine Go.iconst d0_106 (v := 2) rfl ?_
  refine Go.iload d0_107 rfl ?_
  refine Go.bastore d0_109 rfl (by decide) (Nat.le_of_ble_eq_true rfl) (H1 := [.inr (.byte, [.int fv, .int fv, .int fv, .int 0, .int 0, .int 0, .int 0, .int 0])]) (by rw [hf]; rfl) ?_
  refine Go.aload d0_110 rfl rfl ?_
  refine Go.iconst d0_112 (v := 3) rfl ?_
  refine Go.iload d0_113 rfl ?_
  refine Go.bastore d0_115 rfl (by decide) (Nat.le_of_ble_eq_true rfl) (H1 := [.inr (.byte, [.int fv, .int fv, .int fv, .int fv, .int 0, .int 0, .int 0, .int 0])]) (by rw [hf]; rfl) ?_
  refine Go.aload d0_116 rfl rfl ?_
  refine Go.iconst d0_118 (v := 4) rfl ?_
  refine Go.iload d0_119 rfl ?_
  refine Go.bastore d0_121 rfl (by decide) (Nat.le_of_ble_eq_true rfl) (H1 := [.inr (.byte, [.int fv, .int fv, .int fv, .int fv, .int fv, .int 0, .int 0, .int 0])]) (by rw [hf]; rfl) ?_
  refine Go.aload d0_122 rfl rfl ?_
  refine Go.iconst d0_124 (v := 5) rfl ?_
  refine Go.iload d0_125 rfl ?_
  refine Go.bastore d0_127 rfl (by decide) (Nat.le_of_ble_eq_true rfl) (H1 := [.inr (.byte, [.int fv, .int fv, .int fv, .int fv, .int fv, .int fv, .int 0, .int 0])]) (by rw [hf]; rfl) ?_
  refine Go.aload d0_128 rfl rfl ?_
  refine Go.bipush d0_130 (v := 6) rfl ?_
  refine Go.iload d0_132 rfl ?_
  refine Go.bastore d0_134 rfl (by decide) (Nat.le_of_ble_eq_true rfl) (H1 := [.inr (.byte, [.int fv, .int fv, .int fv, .int fv, .int fv, .int fv, .int fv, .int 0])]) (by rw [hf]; rfl) ?_
  refine Go.aload d0_135 rfl rfl ?_
  refine Go.bipush d0_137 (v := 7) rfl ?_
  refine Go.iload d0_139 rfl ?_
  refine Go.bastore d0_141 rfl (by decide) (Nat.le_of_ble_eq_true rfl) (H1 := [.inr (.byte, [.int fv, .int fv, .int fv, .int fv, .int fv, .int fv, .int fv, .int fv])]) (by rw [hf]; rfl) ?_
  refine Go.aload d0_142 rfl rfl ?_
  refine Go.iload d0_144 rfl ?_
  refine Go.iload d0_146 rfl ?_
  refine Go.i2b d0_148 ?_
  refine Go.bastore d0_149 rfl (by decide) (Nat.le_of_ble_eq_true rfl) (H1 := [.inr (.byte, [.int fv, .int y0, .int fv, .int fv, .int fv, .int fv, .int fv, .int fv])]) (by rw [hy0]; rfl) ?_
  refine Go.iload d0_150 rfl ?_
  refine Go.iconst d0_152 (v := 2) rfl ?_
  refine Go.icmpF d0_153 (XT.ii_lt_f (by decide)) ?_
  refine Go.aload d0_156 rfl rfl ?_
  refine Go.iload d0_158 rfl ?_
  refine Go.iconst d0_160 (v := 1) rfl ?_
  refine Go.iadd d0_161 ?_
  show Go _ _ _ _ 162 [.val (.int x0), .val (.int x1), .val (.int x2), .val (.int x3), .val (.int x4), .val (.int x5), .val (.int 4), .val (.int 1), .val (.int b0), .val (.int b1), .val (.int b2), .val (.int b3), .val (.int w12), .val (.ref 0), .unset, .unset, .unset, .unset, .unset] [.int 2, .ref 0] [.inr (.byte, [.int fv, .int y0, .int fv, .int fv, .int fv, .int fv, .int fv, .int fv])] _
  refine Go.iload d0_162 rfl ?_
  refine Go.i2b d0_164 ?_
  refine Go.bastore d0_165 rfl (by decide) (Nat.le_of_ble_eq_true rfl) (H1 := [.inr (.byte, [.int fv, .int y0, .int y1, .int fv, .int fv, .int fv, .int fv, .int fv])]) (by rw [hy1]; rfl) ?_
  refine Go.iload d0_166 rfl ?_
  refine Go.iconst d0_168 (v := 3) rfl ?_
  refine Go.icmpF d0_169 (XT.ii_lt_f (by decide)) ?_
  refine Go.aload d0_172 rfl rfl ?_
  refine Go.iload d0_174 rfl ?_
  refine Go.iconst d0_176 (v := 2) rfl ?_
  refine Go.iadd d0_177 ?_
  show Go _ _ _ _ 178 [.val (.int x0), .val (.int x1), .val (.int x2), .val (.int x3), .val (.int x4), .val (.int x5), .val (.int 4), .val (.int 1), .val (.int b0), .val (.int b1), .val (.int b2), .val (.int b3), .val (.int w12), .val (.ref 0), .unset, .unset, .unset, .unset, .unset] [.int 3, .ref 0] [.inr (.byte, [.int fv, .int y0, .int y1, .int fv, .int fv, .int fv, .int fv, .int fv])] _
  refine Go.iload d0_178 rfl ?_
  refine Go.i2b d0_180 ?_
  refine Go.bastore d0_181 rfl (by decide) (Nat.le_of_ble_eq_true rfl) (H1 := [.inr (.byte, [.int fv, .int y0, .int y1, .int y2, .int fv, .int fv, .int fv, .int fv])]) (by rw [hy2]; rfl) ?_
  refine Go.iload d0_182 rfl ?_
  refine Go.iconst d0_184 (v := 4) rfl ?_
  refine Go.icmpF d0_185 (XT.ii_lt_f (by decide)) ?_
  refine Go.aload d0_188 rfl rfl ?_
  refine Go.iload d0_190 rfl ?_
  refine Go.iconst d0_192 (v := 3) rfl ?_
  refine Go.iadd d0_193 ?_
  show Go _ _ _ _ 194 [.val (.int x0), .val (.int x1), .val (.int x2), .val (.int x3), .val (.int x4), .val (.int x5), .val (.int 4), .val (.int 1), .val (.int b0), .val (.int b1), .val (.int b2), .val (.int b3), .val (.int w12), .val (.ref 0), .unset, .unset, .unset, .unset, .unset] [.int 4, .ref 0] [.inr (.byte, [.int fv, .int y0, .int y1, .int y2, .int fv, .int fv, .int fv, .int fv])] _
  refine Go.iload d0_194 rfl ?_
  refine Go.i2b d0_196 ?_
  refine Go.bastore d0_197 rfl (by decide) (Nat.le_of_ble_eq_true rfl) (H1 := [.inr (.byte, [.int fv, .int y0, .int y1, .int y2, .int y3, .int fv, .int fv, .int fv])]) (by rw [hy3]; rfl) ?_
  refine Go.iload d0_198 rfl ?_
  refine Go.bipush d0_200 (v := 63) rfl ?_
  refine Go.iand d0_202 ?_
  refine Go.istore d0_203 (ls' := [.val (.int x0), .val (.int x1), .val (.int x2), .val (.int x3), .val (.int x4), .val (.int x5), .val (.int 4), .val (.int 1), .val (.int b0), .val (.int b1), .val (.int b2), .val (.int b3), .val (.int w12), .val (.ref 0), .val (.int (b1 &&& 63)), .unset, .unset, .unset, .unset]) rfl ?_
  refine Go.iload d0_205 rfl ?_
  refine Go.bipush d0_207 (v := 63) rfl ?_
  refine Go.iand d0_209 ?_
  refine Go.istore d0_210 (ls' := [.val (.int x0), .val (.int x1), .val (.int x2), .val (.int x3), .val (.int x4), .val (.int x5), .val (.int 4), .val (.int 1), .val (.int b0), .val (.int b1), .val (.int b2), .val (.int b3), .val (.int w12), .val (.ref 0), .val (.int (b1 &&& 63)), .val (.int (b2 &&& 63)), .unset, .unset, .unset]) rfl ?_
  refine Go.iload d0_212 rfl ?_
  refine Go.bipush d0_214 (v := 63) rfl ?_
  refine Go.iand d0_216 ?_
  refine Go.istore d0_217 (ls' := [.val (.int x0), .val (.int x1), .val (.int x2), .val (.int x3), .val (.int x4), .val (.int x5), .val (.int 4), .val (.int 1), .val (.int b0), .val (.int b1), .val (.int b2), .val (.int b3), .val (.int w12), .val (.ref 0), .val (.int (b1 &&& 63)), .val (.int (b2 &&& 63)), .val (.int (b3 &&& 63)), .unset, .unset]) rfl ?_
  refine Go.iload d0_219 rfl ?_
  refine Go.iconst d0_221 (v := 1) rfl ?_
  refine Go.icmpT d0_222 j0_222 (XT.ii_ne_t (by decide)) ?_
  refine Go.iload d0_232 rfl ?_
  refine Go.iconst d0_234 (v := 2) rfl ?_
  refine Go.icmpT d0_235 j0_235 (XT.ii_ne_t (by decide)) ?_
  refine Go.iload d0_278 rfl ?_
  refine Go.iconst d0_280 (v := 3) rfl ?_
  refine Go.icmpT d0_281 j0_281 (XT.ii_ne_t (by decide)) ?_
  refine Go.iload d0_338 rfl ?_
  refine Go.bipush d0_340 (v := 7) rfl ?_
  refine Go.iand d0_342 ?_
  refine Go.bipush d0_343 (v := 18) rfl ?_
  refine Go.ishl d0_345 ?_
  refine Go.iload d0_346 rfl ?_
  refine Go.bipush d0_348 (v := 12) rfl ?_
  refine Go.ishl d0_350 ?_
  refine Go.ior d0_351 ?_
  refine Go.iload d0_352 rfl ?_
  refine Go.bipush d0_354 (v := 6) rfl ?_
  refine Go.ishl d0_356 ?_
  refine Go.ior d0_357 ?_
  refine Go.iload d0_358 rfl ?_
  refine Go.ior d0_360 ?_
  refine Go.istore d0_361 (ls' := [.val (.int x0), .val (.int x1), .val (.int x2), .val (.int x3), .val (.int x4), .val (.int x5), .val (.int 4), .val (.int 1), .val (.int b0), .val (.int b1), .val (.int b2), .val (.int b3), .val (.int w12), .val (.ref 0), .val (.int (b1 &&& 63)), .val (.int (b2 &&& 63)), .val (.int (b3 &&& 63)), .unset, .val (.int (((((b0 &&& 7) <<< (18 &&& 31)) ||| ((b1 &&& 63) <<< (12 &&& 31))) ||| ((b2 &&& 63) <<< (6 &&& 31))) ||| (b3 &&& 63)))]) rfl ?_
  refine Go.iload d0_363 rfl ?_
  refine Go.callS (M' := m4) d0_365 (hw _ (List.mem_of_getElem? (i := 13) rfl)) (hw _ (List.mem_of_getElem? (i := 14) rfl)) (hw _ (List.mem_of_getElem? (i := 2) rfl)) (hw _ (List.mem_of_getElem? (i := 15) rfl)) mi4 (as := [.int b1]) rfl rfl (st := []) rfl (ls1 := [.val (.int b1)]) rfl (W := 0) rfl (by decide) (by decide) (go_own_ic K hw b1 _) 15 120 (by decide) (by decide) ?_
  show Go _ _ _ _ 368 [.val (.int x0), .val (.int x1), .val (.int x2), .val (.int x3), .val (.int x4), .val (.int x5), .val (.int 4), .val (.int 1), .val (.int b0), .val (.int b1), .val (.int b2), .val (.int b3), .val (.int w12), .val (.ref 0), .val (.int (b1 &&& 63)), .val (.int (b2 &&& 63)), .val (.int (b3 &&& 63)), .unset, .val (.int (((((b0 &&& 7) <<< (18 &&& 31)) ||| ((b1 &&& 63) <<< (12 &&& 31))) ||| ((b2 &&& 63) <<< (6 &&& 31))) ||| (b3 &&& 63)))] [.int (own_ic b1)] [.inr (.byte, [.int fv, .int y0, .int y1, .int y2, .int y3, .int fv, .int fv, .int fv])] _
  refine Go.if_eq d0_368 j0_368 (fun h368 => ?_) (fun h368 => ?_)
  · -- pc 368 taken
    refine Go.iconst d0_399 (v := (-1)) rfl ?_
    refine Go.istore d0_400 (ls' := [.val (.int x0), .val (.int x1), .val (.int x2), .val (.int x3), .val (.int x4), .val (.int x5), .val (.int 4), .val (.int 1), .val (.int b0), .val (.int b1), .val (.int b2), .val (.int b3), .val (.int w12), .val (.ref 0), .val (.int (b1 &&& 63)), .val (.int (b2 &&& 63)), .val (.int (b3 &&& 63)), .val (.int (-1)), .val (.int (((((b0 &&& 7) <<< (18 &&& 31)) ||| ((b1 &&& 63) <<< (12 &&& 31))) ||| ((b2 &&& 63) <<< (6 &&& 31))) ||| (b3 &&& 63)))]) rfl ?_
    refine Go.aload d0_402 rfl rfl ?_
    refine Go.iload d0_404 rfl ?_
    refine Go.iload d0_406 rfl ?_
    refine Go.callS (M' := m3) d0_408 (hw _ (List.mem_of_getElem? (i := 8) rfl)) (hw _ (List.mem_of_getElem? (i := 9) rfl)) (hw _ (List.mem_of_getElem? (i := 10) rfl)) (hw _ (List.mem_of_getElem? (i := 11) rfl)) mi3 (as := [.ref 0, .int 1, .int 4]) rfl rfl (st := []) rfl (ls1 := [.val (.ref 0), .val (.int 1), .val (.int 4), .unset, .unset, .unset, .unset]) rfl (W := 0) rfl (by decide) (by decide) (go_own_cp4 K hw _ 0 _ 1 y0 y1 y2 y3 rfl (by decide) rfl (by decide) rfl (by decide) rfl (by decide) rfl) 15 120 (by decide) (by decide) ?_
    show Go _ _ _ _ 411 [.val (.int x0), .val (.int x1), .val (.int x2), .val (.int x3), .val (.int x4), .val (.int x5), .val (.int 4), .val (.int 1), .val (.int b0), .val (.int b1), .val (.int b2), .val (.int b3), .val (.int w12), .val (.ref 0), .val (.int (b1 &&& 63)), .val (.int (b2 &&& 63)), .val (.int (b3 &&& 63)), .val (.int (-1)), .val (.int (((((b0 &&& 7) <<< (18 &&& 31)) ||| ((b1 &&& 63) <<< (12 &&& 31))) ||| ((b2 &&& 63) <<< (6 &&& 31))) ||| (b3 &&& 63)))] [.int (own_cp4 y0 y1 y2 y3)] [.inr (.byte, [.int fv, .int y0, .int y1, .int y2, .int y3, .int fv, .int fv, .int fv])] _
    refine Go.iload d0_411 rfl ?_
    refine Go.icmpF d0_413 (XT.ii_ne_f (by rw [own_e4 hz0 hz1 hz2 hz3, if_pos h368])) ?_
    refine Go.iconst d0_416 (v := 1) rfl ?_
    refine Go.goto d0_417 j0_417 ?_
    exact Go.ireturnZ d0_421 rfl (by decide) rfl HOk.any
  · -- pc 368 not taken
    refine Go.iload d0_371 rfl ?_
    refine Go.callS (M' := m4) d0_373 (hw _ (List.mem_of_getElem? (i := 13) rfl)) (hw _ (List.mem_of_getElem? (i := 14) rfl)) (hw _ (List.mem_of_getElem? (i := 2) rfl)) (hw _ (List.mem_of_getElem? (i := 15) rfl)) mi4 (as := [.int b2]) rfl rfl (st := []) rfl (ls1 := [.val (.int b2)]) rfl (W := 0) rfl (by decide) (by decide) (go_own_ic K hw b2 _) 15 120 (by decide) (by decide) ?_
    show Go _ _ _ _ 376 [.val (.int x0), .val (.int x1), .val (.int x2), .val (.int x3), .val (.int x4), .val (.int x5), .val (.int 4), .val (.int 1), .val (.int b0), .val (.int b1), .val (.int b2), .val (.int b3), .val (.int w12), .val (.ref 0), .val (.int (b1 &&& 63)), .val (.int (b2 &&& 63)), .val (.int (b3 &&& 63)), .unset, .val (.int (((((b0 &&& 7) <<< (18 &&& 31)) ||| ((b1 &&& 63) <<< (12 &&& 31))) ||| ((b2 &&& 63) <<< (6 &&& 31))) ||| (b3 &&& 63)))] [.int (own_ic b2)] [.inr (.byte, [.int fv, .int y0, .int y1, .int y2, .int y3, .int fv, .int fv, .int fv])] _
    refine Go.if_eq d0_376 j0_376 (fun h376 => ?_) (fun h376 => ?_)
    · -- pc 376 taken
      refine Go.iconst d0_399 (v := (-1)) rfl ?_
      refine Go.istore d0_400 (ls' := [.val (.int x0), .val (.int x1), .val (.int x2), .val (.int x3), .val (.int x4), .val (.int x5), .val (.int 4), .val (.int 1), .val (.int b0), .val (.int b1), .val (.int b2), .val (.int b3), .val (.int w12), .val (.ref 0), .val (.int (b1 &&& 63)), .val (.int (b2 &&& 63)), .val (.int (b3 &&& 63)), .val (.int (-1)), .val (.int (((((b0 &&& 7) <<< (18 &&& 31)) ||| ((b1 &&& 63) <<< (12 &&& 31))) ||| ((b2 &&& 63) <<< (6 &&& 31))) ||| (b3 &&& 63)))]) rfl ?_
      refine Go.aload d0_402 rfl rfl ?_
      refine Go.iload d0_404 rfl ?_
      refine Go.iload d0_406 rfl ?_
      refine Go.callS (M' := m3) d0_408 (hw _ (List.mem_of_getElem? (i := 8) rfl)) (hw _ (List.mem_of_getElem? (i := 9) rfl)) (hw _ (List.mem_of_getElem? (i := 10) rfl)) (hw _ (List.mem_of_getElem? (i := 11) rfl)) mi3 (as := [.ref 0, .int 1, .int 4]) rfl rfl (st := []) rfl (ls1 := [.val (.ref 0), .val (.int 1), .val (.int 4), .unset, .unset, .unset, .unset]) rfl (W := 0) rfl (by decide) (by decide) (go_own_cp4 K hw _ 0 _ 1 y0 y1 y2 y3 rfl (by decide) rfl (by decide) rfl (by decide) rfl (by decide) rfl) 15 120 (by decide) (by decide) ?_
      show Go _ _ _ _ 411 [.val (.int x0), .val (.int x1), .val (.int x2), .val (.int x3), .val (.int x4), .val (.int x5), .val (.int 4), .val (.int 1), .val (.int b0), .val (.int b1), .val (.int b2), .val (.int b3), .val (.int w12), .val (.ref 0), .val (.int (b1 &&& 63)), .val (.int (b2 &&& 63)), .val (.int (b3 &&& 63)), .val (.int (-1)), .val (.int (((((b0 &&& 7) <<< (18 &&& 31)) ||| ((b1 &&& 63) <<< (12 &&& 31))) ||| ((b2 &&& 63) <<< (6 &&& 31))) ||| (b3 &&& 63)))] [.int (own_cp4 y0 y1 y2 y3)] [.inr (.byte, [.int fv, .int y0, .int y1, .int y2, .int y3, .int fv, .int fv, .int fv])] _
      refine Go.iload d0_411 rfl ?_
      refine Go.icmpF d0_413 (XT.ii_ne_f (by rw [own_e4 hz0 hz1 hz2 hz3, if_neg h368, if_pos h376])) ?_
      refine Go.iconst d0_416 (v := 1) rfl ?_
      refine Go.goto d0_417 j0_417 ?_
      exact Go.ireturnZ d0_421 rfl (by decide) rfl HOk.any
    · -- pc 376 not taken
      refine Go.iload d0_379 rfl ?_
      refine Go.callS (M' := m4) d0_381 (hw _ (List.mem_of_getElem? (i := 13) rfl)) (hw _ (List.mem_of_getElem? (i := 14) rfl)) (hw _ (List.mem_of_getElem? (i := 2) rfl)) (hw _ (List.mem_of_getElem? (i := 15) rfl)) mi4 (as := [.int b3]) rfl rfl (st := []) rfl (ls1 := [.val (.int b3)]) rfl (W := 0) rfl (by decide) (by decide) (go_own_ic K hw b3 _) 15 120 (by decide) (by decide) ?_
      show Go _ _ _ _ 384 [.val (.int x0), .val (.int x1), .val (.int x2), .val (.int x3), .val (.int x4), .val (.int x5), .val (.int 4), .val (.int 1), .val (.int b0), .val (.int b1), .val (.int b2), .val (.int b3), .val (.int w12), .val (.ref 0), .val (.int (b1 &&& 63)), .val (.int (b2 &&& 63)), .val (.int (b3 &&& 63)), .unset, .val (.int (((((b0 &&& 7) <<< (18 &&& 31)) ||| ((b1 &&& 63) <<< (12 &&& 31))) ||| ((b2 &&& 63) <<< (6 &&& 31))) ||| (b3 &&& 63)))] [.int (own_ic b3)] [.inr (.byte, [.int fv, .int y0, .int y1, .int y2, .int y3, .int fv, .int fv, .int fv])] _
      refine Go.if_eq d0_384 j0_384 (fun h384 => ?_) (fun h384 => ?_)
      · -- pc 384 taken
        refine Go.iconst d0_399 (v := (-1)) rfl ?_
        refine Go.istore d0_400 (ls' := [.val (.int x0), .val (.int x1), .val (.int x2), .val (.int x3), .val (.int x4), .val (.int x5), .val (.int 4), .val (.int 1), .val (.int b0), .val (.int b1), .val (.int b2), .val (.int b3), .val (.int w12), .val (.ref 0), .val (.int (b1 &&& 63)), .val (.int (b2 &&& 63)), .val (.int (b3 &&& 63)), .val (.int (-1)), .val (.int (((((b0 &&& 7) <<< (18 &&& 31)) ||| ((b1 &&& 63) <<< (12 &&& 31))) ||| ((b2 &&& 63) <<< (6 &&& 31))) ||| (b3 &&& 63)))]) rfl ?_
        refine Go.aload d0_402 rfl rfl ?_
        refine Go.iload d0_404 rfl ?_
        refine Go.iload d0_406 rfl ?_
        refine Go.callS (M' := m3) d0_408 (hw _ (List.mem_of_getElem? (i := 8) rfl)) (hw _ (List.mem_of_getElem? (i := 9) rfl)) (hw _ (List.mem_of_getElem? (i := 10) rfl)) (hw _ (List.mem_of_getElem? (i := 11) rfl)) mi3 (as := [.ref 0, .int 1, .int 4]) rfl rfl (st := []) rfl (ls1 := [.val (.ref 0), .val (.int 1), .val (.int 4), .unset, .unset, .unset, .unset]) rfl (W := 0) rfl (by decide) (by decide) (go_own_cp4 K hw _ 0 _ 1 y0 y1 y2 y3 rfl (by decide) rfl (by decide) rfl (by decide) rfl (by decide) rfl) 15 120 (by decide) (by decide) ?_
        show Go _ _ _ _ 411 [.val (.int x0), .val (.int x1), .val (.int x2), .val (.int x3), .val (.int x4), .val (.int x5), .val (.int 4), .val (.int 1), .val (.int b0), .val (.int b1), .val (.int b2), .val (.int b3), .val (.int w12), .val (.ref 0), .val (.int (b1 &&& 63)), .val (.int (b2 &&& 63)), .val (.int (b3 &&& 63)), .val (.int (-1)), .val (.int (((((b0 &&& 7) <<< (18 &&& 31)) ||| ((b1 &&& 63) <<< (12 &&& 31))) ||| ((b2 &&& 63) <<< (6 &&& 31))) ||| (b3 &&& 63)))] [.int (own_cp4 y0 y1 y2 y3)] [.inr (.byte, [.int fv, .int y0, .int y1, .int y2, .int y3, .int fv, .int fv, .int fv])] _
        refine Go.iload d0_411 rfl ?_
        refine Go.icmpF d0_413 (XT.ii_ne_f (by rw [own_e4 hz0 hz1 hz2 hz3, if_neg h368, if_neg h376, if_pos h384])) ?_
        refine Go.iconst d0_416 (v := 1) rfl ?_
        refine Go.goto d0_417 j0_417 ?_
        exact Go.ireturnZ d0_421 rfl (by decide) rfl HOk.any
      · -- pc 384 not taken
        refine Go.iload d0_387 rfl ?_
        refine Go.ldc d0_389 (hw _ (List.mem_of_getElem? (i := 16) rfl)) ?_
        refine Go.icmp_lt d0_391 j0_391 (fun h391 => ?_) (fun h391 => ?_)
        · -- pc 391 taken
          refine Go.iconst d0_399 (v := (-1)) rfl ?_
          refine Go.istore d0_400 (ls' := [.val (.int x0), .val (.int x1), .val (.int x2), .val (.int x3), .val (.int x4), .val (.int x5), .val (.int 4), .val (.int 1), .val (.int b0), .val (.int b1), .val (.int b2), .val (.int b3), .val (.int w12), .val (.ref 0), .val (.int (b1 &&& 63)), .val (.int (b2 &&& 63)), .val (.int (b3 &&& 63)), .val (.int (-1)), .val (.int (((((b0 &&& 7) <<< (18 &&& 31)) ||| ((b1 &&& 63) <<< (12 &&& 31))) ||| ((b2 &&& 63) <<< (6 &&& 31))) ||| (b3 &&& 63)))]) rfl ?_
          refine Go.aload d0_402 rfl rfl ?_
          refine Go.iload d0_404 rfl ?_
          refine Go.iload d0_406 rfl ?_
          refine Go.callS (M' := m3) d0_408 (hw _ (List.mem_of_getElem? (i := 8) rfl)) (hw _ (List.mem_of_getElem? (i := 9) rfl)) (hw _ (List.mem_of_getElem? (i := 10) rfl)) (hw _ (List.mem_of_getElem? (i := 11) rfl)) mi3 (as := [.ref 0, .int 1, .int 4]) rfl rfl (st := []) rfl (ls1 := [.val (.ref 0), .val (.int 1), .val (.int 4), .unset, .unset, .unset, .unset]) rfl (W := 0) rfl (by decide) (by decide) (go_own_cp4 K hw _ 0 _ 1 y0 y1 y2 y3 rfl (by decide) rfl (by decide) rfl (by decide) rfl (by decide) rfl) 15 120 (by decide) (by decide) ?_
          show Go _ _ _ _ 411 [.val (.int x0), .val (.int x1), .val (.int x2), .val (.int x3), .val (.int x4), .val (.int x5), .val (.int 4), .val (.int 1), .val (.int b0), .val (.int b1), .val (.int b2), .val (.int b3), .val (.int w12), .val (.ref 0), .val (.int (b1 &&& 63)), .val (.int (b2 &&& 63)), .val (.int (b3 &&& 63)), .val (.int (-1)), .val (.int (((((b0 &&& 7) <<< (18 &&& 31)) ||| ((b1 &&& 63) <<< (12 &&& 31))) ||| ((b2 &&& 63) <<< (6 &&& 31))) ||| (b3 &&& 63)))] [.int (own_cp4 y0 y1 y2 y3)] [.inr (.byte, [.int fv, .int y0, .int y1, .int y2, .int y3, .int fv, .int fv, .int fv])] _
          refine Go.iload d0_411 rfl ?_
          refine Go.icmpF d0_413 (XT.ii_ne_f (by rw [own_e4 hz0 hz1 hz2 hz3, if_neg h368, if_neg h376, if_neg h384, if_pos h391])) ?_
          refine Go.iconst d0_416 (v := 1) rfl ?_
          refine Go.goto d0_417 j0_417 ?_
          exact Go.ireturnZ d0_421 rfl (by decide) rfl HOk.any
        · -- pc 391 not taken
          refine Go.iload d0_394 rfl ?_
          refine Go.goto d0_396 j0_396 ?_
          refine Go.istore d0_400 (ls' := [.val (.int x0), .val (.int x1), .val (.int x2), .val (.int x3), .val (.int x4), .val (.int x5), .val (.int 4), .val (.int 1), .val (.int b0), .val (.int b1), .val (.int b2), .val (.int b3), .val (.int w12), .val (.ref 0), .val (.int (b1 &&& 63)), .val (.int (b2 &&& 63)), .val (.int (b3 &&& 63)), .val (.int (((((b0 &&& 7) <<< (18 &&& 31)) ||| ((b1 &&& 63) <<< (12 &&& 31))) ||| ((b2 &&& 63) <<< (6 &&& 31))) ||| (b3 &&& 63))), .val (.int (((((b0 &&& 7) <<< (18 &&& 31)) ||| ((b1 &&& 63) <<< (12 &&& 31))) ||| ((b2 &&& 63) <<< (6 &&& 31))) ||| (b3 &&& 63)))]) rfl ?_
          refine Go.aload d0_402 rfl rfl ?_
          refine Go.iload d0_404 rfl ?_
          refine Go.iload d0_406 rfl ?_
          refine Go.callS (M' := m3) d0_408 (hw _ (List.mem_of_getElem? (i := 8) rfl)) (hw _ (List.mem_of_getElem? (i := 9) rfl)) (hw _ (List.mem_of_getElem? (i := 10) rfl)) (hw _ (List.mem_of_getElem? (i := 11) rfl)) mi3 (as := [.ref 0, .int 1, .int 4]) rfl rfl (st := []) rfl (ls1 := [.val (.ref 0), .val (.int 1), .val (.int 4), .unset, .unset, .unset, .unset]) rfl (W := 0) rfl (by decide) (by decide) (go_own_cp4 K hw _ 0 _ 1 y0 y1 y2 y3 rfl (by decide) rfl (by decide) rfl (by decide) rfl (by decide) rfl) 15 120 (by decide) (by decide) ?_
          show Go _ _ _ _ 411 [.val (.int x0), .val (.int x1), .val (.int x2), .val (.int x3), .val (.int x4), .val (.int x5), .val (.int 4), .val (.int 1), .val (.int b0), .val (.int b1), .val (.int b2), .val (.int b3), .val (.int w12), .val (.ref 0), .val (.int (b1 &&& 63)), .val (.int (b2 &&& 63)), .val (.int (b3 &&& 63)), .val (.int (((((b0 &&& 7) <<< (18 &&& 31)) ||| ((b1 &&& 63) <<< (12 &&& 31))) ||| ((b2 &&& 63) <<< (6 &&& 31))) ||| (b3 &&& 63))), .val (.int (((((b0 &&& 7) <<< (18 &&& 31)) ||| ((b1 &&& 63) <<< (12 &&& 31))) ||| ((b2 &&& 63) <<< (6 &&& 31))) ||| (b3 &&& 63)))] [.int (own_cp4 y0 y1 y2 y3)] [.inr (.byte, [.int fv, .int y0, .int y1, .int y2, .int y3, .int fv, .int fv, .int fv])] _
          refine Go.iload d0_411 rfl ?_
          refine Go.icmpF d0_413 (XT.ii_ne_f (by rw [own_e4 hz0 hz1 hz2 hz3, if_neg h368, if_neg h376, if_neg h384, if_neg h391])) ?_
          refine Go.iconst d0_416 (v := 1) rfl ?_
          refine Go.goto d0_417 j0_417 ?_
          exact Go.ireturnZ d0_421 rfl (by decide) rfl HOk.any
theorem go_t86_4_2 (K : Ctx) (hw : ∀ d ∈ tables_1, d.before K.2.2.1 K.2.1 = true) (x0 x1 x2 x3 x4 x5 b0 b1 b2 b3 w12 fv y0 y1 y2 y3 : Int32) (hf : nar .byte w12 = fv) (hy0 : nar .byte ((Int32.toInt8 b0).toInt32) = y0) (hy1 : nar .byte ((Int32.toInt8 b1).toInt32) = y1) (hy2 : nar .byte ((Int32.toInt8 b2).toInt32) = y2) (hy3 : nar .byte ((Int32.toInt8 b3).toInt32) = y3) (hz0 : y0 &&& 7 = b0 &&& 7) (hz1 : y1 &&& 255 = b1)  (hz2 : y2 &&& 255 = b2)  (hz3 : y3 &&& 255 = b3) : Go K m0 4 112 86 [.val (.int x0), .val (.int x1), .val (.int x2), .val (.int x3), .val (.int x4), .val (.int x5), .val (.int 4), .val (.int 2), .val (.int b0), .val (.int b1), .val (.int b2), .val (.int b3), .val (.int w12), .unset, .unset, .unset, .unset, .unset, .unset] [] [] (some (.int 1), none, 16, 128) := by
  refine Go.bipush d0_86 (v := 8) rfl ?_
  refine Go.newarray 8 d0_88 (hw _ (List.mem_of_getElem? (i := 7) rfl)) (t := .byte) rfl (by decide) (by decide) (by decide) (vs := [.int 0, .int 0, .int 0, .int 0, .int 0, .int 0, .int 0, .int 0]) rfl (i := 0) rfl 15 120 (by decide) (by decide) ?_
  show Go _ _ _ _ 90 [.val (.int x0), .val (.int x1), .val (.int x2), .val (.int x3), .val (.int x4), .val (.int x5), .val (.int 4), .val (.int 2), .val (.int b0), .val (.int b1), .val (.int b2), .val (.int b3), .val (.int w12), .unset, .unset, .unset, .unset, .unset, .unset] [.ref 0] [.inr (.byte, [.int 0, .int 0, .int 0, .int 0, .int 0, .int 0, .int 0, .int 0])] _
  refine Go.astore d0_90 (ls' := [.val (.int x0), .val (.int x1), .val (.int x2), .val (.int x3), .val (.int x4), .val (.int x5), .val (.int 4), .val (.int 2), .val (.int b0), .val (.int b1), .val (.int b2), .val (.int b3), .val (.int w12), .val (.ref 0), .unset, .unset, .unset, .unset, .unset]) rfl rfl ?_
  refine Go.aload d0_92 rfl rfl ?_
  refine Go.iconst d0_94 (v := 0) rfl ?_
  refine Go.iload d0_95 rfl ?_
  refine Go.bastore d0_97 rfl (by decide) (Nat.le_of_ble_eq_true rfl) (H1 := [.inr (.byte, [.int fv, .int 0, .int 0, .int 0, .int 0, .int 0, .int 0, .int 0])]) (by rw [hf]; rfl) ?_
  refine Go.aload d0_98 rfl rfl ?_
  refine Go.iconst d0_100 (v := 1) rfl ?_
  refine Go.iload d0_101 rfl ?_
  refine Go.bastore d0_103 rfl (by decide) (Nat.le_of_ble_eq_true rfl) (H1 := [.inr (.byte, [.int fv, .int fv, .int 0, .int 0, .int 0, .int 0, .int 0, .int 0])]) (by rw [hf]; rfl) ?_
  refine Go.aload d0_104 rfl rfl ?_
  refine Go.iconst d0_106 (v := 2) rfl ?_
  refine Go.iload d0_107 rfl ?_
  refine Go.bastore d0_109 rfl (by decide) (Nat.le_of_ble_eq_true rfl) (H1 := [.inr (.byte, [.int fv, .int fv, .int fv, .int 0, .int 0, .int 0, .int 0, .int 0])]) (by rw [hf]; rfl) ?_
  refine Go.aload d0_110 rfl rfl ?_
  refine Go.iconst d0_112 (v := 3) rfl ?_
  refine Go.iload d0_113 rfl ?_
  refine Go.bastore d0_115 rfl (by decide) (Nat.le_of_ble_eq_true rfl) (H1 := [.inr (.byte, [.int fv, .int fv, .int fv, .int fv, .int 0, .int 0, .int 0, .int 0])]) (by rw [hf]; rfl) ?_
  refine Go.aload d0_116 rfl rfl ?_
  refine Go.iconst d0_118 (v := 4) rfl ?_
  refine Go.iload d0_119 rfl ?_
  refine Go.bastore d0_121 rfl (by decide) (Nat.le_of_ble_eq_true rfl) (H1 := [.inr (.byte, [.int fv, .int fv, .int fv, .int fv, .int fv, .int 0, .int 0, .int 0])]) (by rw [hf]; rfl) ?_
  refine Go.aload d0_122 rfl rfl ?_
  refine Go.iconst d0_124 (v := 5) rfl ?_
  refine Go.iload d0_125 rfl ?_
  refine Go.bastore d0_127 rfl (by decide) (Nat.le_of_ble_eq_true rfl) (H1 := [.inr (.byte, [.int fv, .int fv, .int fv, .int fv, .int fv, .int fv, .int 0, .int 0])]) (by rw [hf]; rfl) ?_
  refine Go.aload d0_128 rfl rfl ?_
  refine Go.bipush d0_130 (v := 6) rfl ?_
  refine Go.iload d0_132 rfl ?_
  refine Go.bastore d0_134 rfl (by decide) (Nat.le_of_ble_eq_true rfl) (H1 := [.inr (.byte, [.int fv, .int fv, .int fv, .int fv, .int fv, .int fv, .int fv, .int 0])]) (by rw [hf]; rfl) ?_
  refine Go.aload d0_135 rfl rfl ?_
  refine Go.bipush d0_137 (v := 7) rfl ?_
  refine Go.iload d0_139 rfl ?_
  refine Go.bastore d0_141 rfl (by decide) (Nat.le_of_ble_eq_true rfl) (H1 := [.inr (.byte, [.int fv, .int fv, .int fv, .int fv, .int fv, .int fv, .int fv, .int fv])]) (by rw [hf]; rfl) ?_
  refine Go.aload d0_142 rfl rfl ?_
  refine Go.iload d0_144 rfl ?_
  refine Go.iload d0_146 rfl ?_
  refine Go.i2b d0_148 ?_
  refine Go.bastore d0_149 rfl (by decide) (Nat.le_of_ble_eq_true rfl) (H1 := [.inr (.byte, [.int fv, .int fv, .int y0, .int fv, .int fv, .int fv, .int fv, .int fv])]) (by rw [hy0]; rfl) ?_
  refine Go.iload d0_150 rfl ?_
  refine Go.iconst d0_152 (v := 2) rfl ?_
  refine Go.icmpF d0_153 (XT.ii_lt_f (by decide)) ?_
  refine Go.aload d0_156 rfl rfl ?_
  refine Go.iload d0_158 rfl ?_
  refine Go.iconst d0_160 (v := 1) rfl ?_
  refine Go.iadd d0_161 ?_
  show Go _ _ _ _ 162 [.val (.int x0), .val (.int x1), .val (.int x2), .val (.int x3), .val (.int x4), .val (.int x5), .val (.int 4), .val (.int 2), .val (.int b0), .val (.int b1), .val (.int b2), .val (.int b3), .val (.int w12), .val (.ref 0), .unset, .unset, .unset, .unset, .unset] [.int 3, .ref 0] [.inr (.byte, [.int fv, .int fv, .int y0, .int fv, .int fv, .int fv, .int fv, .int fv])] _
  refine Go.iload d0_162 rfl ?_
  refine Go.i2b d0_164 ?_
  refine Go.bastore d0_165 rfl (by decide) (Nat.le_of_ble_eq_true rfl) (H1 := [.inr (.byte, [.int fv, .int fv, .int y0, .int y1, .int fv, .int fv, .int fv, .int fv])]) (by rw [hy1]; rfl) ?_
  refine Go.iload d0_166 rfl ?_
  refine Go.iconst d0_168 (v := 3) rfl ?_
  refine Go.icmpF d0_169 (XT.ii_lt_f (by decide)) ?_
  refine Go.aload d0_172 rfl rfl ?_
  refine Go.iload d0_174 rfl ?_
  refine Go.iconst d0_176 (v := 2) rfl ?_
  refine Go.iadd d0_177 ?_
  show Go _ _ _ _ 178 [.val (.int x0), .val (.int x1), .val (.int x2), .val (.int x3), .val (.int x4), .val (.int x5), .val (.int 4), .val (.int 2), .val (.int b0), .val (.int b1), .val (.int b2), .val (.int b3), .val (.int w12), .val (.ref 0), .unset, .unset, .unset, .unset, .unset] [.int 4, .ref 0] [.inr (.byte, [.int fv, .int fv, .int y0, .int y1, .int fv, .int fv, .int fv, .int fv])] _
  refine Go.iload d0_178 rfl ?_
  refine Go.i2b d0_180 ?_
  refine Go.bastore d0_181 rfl (by decide) (Nat.le_of_ble_eq_true rfl) (H1 := [.inr (.byte, [.int fv, .int fv, .int y0, .int y1, .int y2, .int fv, .int fv, .int fv])]) (by rw [hy2]; rfl) ?_
  refine Go.iload d0_182 rfl ?_
  refine Go.iconst d0_184 (v := 4) rfl ?_
  refine Go.icmpF d0_185 (XT.ii_lt_f (by decide)) ?_
  refine Go.aload d0_188 rfl rfl ?_
  refine Go.iload d0_190 rfl ?_
  refine Go.iconst d0_192 (v := 3) rfl ?_
  refine Go.iadd d0_193 ?_
  show Go _ _ _ _ 194 [.val (.int x0), .val (.int x1), .val (.int x2), .val (.int x3), .val (.int x4), .val (.int x5), .val (.int 4), .val (.int 2), .val (.int b0), .val (.int b1), .val (.int b2), .val (.int b3), .val (.int w12), .val (.ref 0), .unset, .unset, .unset, .unset, .unset] [.int 5, .ref 0] [.inr (.byte, [.int fv, .int fv, .int y0, .int y1, .int y2, .int fv, .int fv, .int fv])] _
  refine Go.iload d0_194 rfl ?_
  refine Go.i2b d0_196 ?_
  refine Go.bastore d0_197 rfl (by decide) (Nat.le_of_ble_eq_true rfl) (H1 := [.inr (.byte, [.int fv, .int fv, .int y0, .int y1, .int y2, .int y3, .int fv, .int fv])]) (by rw [hy3]; rfl) ?_
  refine Go.iload d0_198 rfl ?_
  refine Go.bipush d0_200 (v := 63) rfl ?_
  refine Go.iand d0_202 ?_
  refine Go.istore d0_203 (ls' := [.val (.int x0), .val (.int x1), .val (.int x2), .val (.int x3), .val (.int x4), .val (.int x5), .val (.int 4), .val (.int 2), .val (.int b0), .val (.int b1), .val (.int b2), .val (.int b3), .val (.int w12), .val (.ref 0), .val (.int (b1 &&& 63)), .unset, .unset, .unset, .unset]) rfl ?_
  refine Go.iload d0_205 rfl ?_
  refine Go.bipush d0_207 (v := 63) rfl ?_
  refine Go.iand d0_209 ?_
  refine Go.istore d0_210 (ls' := [.val (.int x0), .val (.int x1), .val (.int x2), .val (.int x3), .val (.int x4), .val (.int x5), .val (.int 4), .val (.int 2), .val (.int b0), .val (.int b1), .val (.int b2), .val (.int b3), .val (.int w12), .val (.ref 0), .val (.int (b1 &&& 63)), .val (.int (b2 &&& 63)), .unset, .unset, .unset]) rfl ?_
  refine Go.iload d0_212 rfl ?_
  refine Go.bipush d0_214 (v := 63) rfl ?_
  refine Go.iand d0_216 ?_
  refine Go.istore d0_217 (ls' := [.val (.int x0), .val (.int x1), .val (.int x2), .val (.int x3), .val (.int x4), .val (.int x5), .val (.int 4), .val (.int 2), .val (.int b0), .val (.int b1), .val (.int b2), .val (.int b3), .val (.int w12), .val (.ref 0), .val (.int (b1 &&& 63)), .val (.int (b2 &&& 63)), .val (.int (b3 &&& 63)), .unset, .unset]) rfl ?_
  refine Go.iload d0_219 rfl ?_
  refine Go.iconst d0_221 (v := 1) rfl ?_
  refine Go.icmpT d0_222 j0_222 (XT.ii_ne_t (by decide)) ?_
  refine Go.iload d0_232 rfl ?_
  refine Go.iconst d0_234 (v := 2) rfl ?_
  refine Go.icmpT d0_235 j0_235 (XT.ii_ne_t (by decide)) ?_
  refine Go.iload d0_278 rfl ?_
  refine Go.iconst d0_280 (v := 3) rfl ?_
  refine Go.icmpT d0_281 j0_281 (XT.ii_ne_t (by decide)) ?_
  refine Go.iload d0_338 rfl ?_
  refine Go.bipush d0_340 (v := 7) rfl ?_
  refine Go.iand d0_342 ?_
  refine Go.bipush d0_343 (v := 18) rfl ?_
  refine Go.ishl d0_345 ?_
  refine Go.iload d0_346 rfl ?_
  refine Go.bipush d0_348 (v := 12) rfl ?_
  refine Go.ishl d0_350 ?_
  refine Go.ior d0_351 ?_
  refine Go.iload d0_352 rfl ?_
  refine Go.bipush d0_354 (v := 6) rfl ?_
  refine Go.ishl d0_356 ?_
  refine Go.ior d0_357 ?_
  refine Go.iload d0_358 rfl ?_
  refine Go.ior d0_360 ?_
  refine Go.istore d0_361 (ls' := [.val (.int x0), .val (.int x1), .val (.int x2), .val (.int x3), .val (.int x4), .val (.int x5), .val (.int 4), .val (.int 2), .val (.int b0), .val (.int b1), .val (.int b2), .val (.int b3), .val (.int w12), .val (.ref 0), .val (.int (b1 &&& 63)), .val (.int (b2 &&& 63)), .val (.int (b3 &&& 63)), .unset, .val (.int (((((b0 &&& 7) <<< (18 &&& 31)) ||| ((b1 &&& 63) <<< (12 &&& 31))) ||| ((b2 &&& 63) <<< (6 &&& 31))) ||| (b3 &&& 63)))]) rfl ?_
  refine Go.iload d0_363 rfl ?_
  refine Go.callS (M' := m4) d0_365 (hw _ (List.mem_of_getElem? (i := 13) rfl)) (hw _ (List.mem_of_getElem? (i := 14) rfl)) (hw _ (List.mem_of_getElem? (i := 2) rfl)) (hw _ (List.mem_of_getElem? (i := 15) rfl)) mi4 (as := [.int b1]) rfl rfl (st := []) rfl (ls1 := [.val (.int b1)]) rfl (W := 0) rfl (by decide) (by decide) (go_own_ic K hw b1 _) 15 120 (by decide) (by decide) ?_
  show Go _ _ _ _ 368 [.val (.int x0), .val (.int x1), .val (.int x2), .val (.int x3), .val (.int x4), .val (.int x5), .val (.int 4), .val (.int 2), .val (.int b0), .val (.int b1), .val (.int b2), .val (.int b3), .val (.int w12), .val (.ref 0), .val (.int (b1 &&& 63)), .val (.int (b2 &&& 63)), .val (.int (b3 &&& 63)), .unset, .val (.int (((((b0 &&& 7) <<< (18 &&& 31)) ||| ((b1 &&& 63) <<< (12 &&& 31))) ||| ((b2 &&& 63) <<< (6 &&& 31))) ||| (b3 &&& 63)))] [.int (own_ic b1)] [.inr (.byte, [.int fv, .int fv, .int y0, .int y1, .int y2, .int y3, .int fv, .int fv])] _
  refine Go.if_eq d0_368 j0_368 (fun h368 => ?_) (fun h368 => ?_)
  · -- pc 368 taken
    refine Go.iconst d0_399 (v := (-1)) rfl ?_
    refine Go.istore d0_400 (ls' := [.val (.int x0), .val (.int x1), .val (.int x2), .val (.int x3), .val (.int x4), .val (.int x5), .val (.int 4), .val (.int 2), .val (.int b0), .val (.int b1), .val (.int b2), .val (.int b3), .val (.int w12), .val (.ref 0), .val (.int (b1 &&& 63)), .val (.int (b2 &&& 63)), .val (.int (b3 &&& 63)), .val (.int (-1)), .val (.int (((((b0 &&& 7) <<< (18 &&& 31)) ||| ((b1 &&& 63) <<< (12 &&& 31))) ||| ((b2 &&& 63) <<< (6 &&& 31))) ||| (b3 &&& 63)))]) rfl ?_
    refine Go.aload d0_402 rfl rfl ?_
    refine Go.iload d0_404 rfl ?_
    refine Go.iload d0_406 rfl ?_
    refine Go.callS (M' := m3) d0_408 (hw _ (List.mem_of_getElem? (i := 8) rfl)) (hw _ (List.mem_of_getElem? (i := 9) rfl)) (hw _ (List.mem_of_getElem? (i := 10) rfl)) (hw _ (List.mem_of_getElem? (i := 11) rfl)) mi3 (as := [.ref 0, .int 2, .int 4]) rfl rfl (st := []) rfl (ls1 := [.val (.ref 0), .val (.int 2), .val (.int 4), .unset, .unset, .unset, .unset]) rfl (W := 0) rfl (by decide) (by decide) (go_own_cp4 K hw _ 0 _ 2 y0 y1 y2 y3 rfl (by decide) rfl (by decide) rfl (by decide) rfl (by decide) rfl) 15 120 (by decide) (by decide) ?_
    show Go _ _ _ _ 411 [.val (.int x0), .val (.int x1), .val (.int x2), .val (.int x3), .val (.int x4), .val (.int x5), .val (.int 4), .val (.int 2), .val (.int b0), .val (.int b1), .val (.int b2), .val (.int b3), .val (.int w12), .val (.ref 0), .val (.int (b1 &&& 63)), .val (.int (b2 &&& 63)), .val (.int (b3 &&& 63)), .val (.int (-1)), .val (.int (((((b0 &&& 7) <<< (18 &&& 31)) ||| ((b1 &&& 63) <<< (12 &&& 31))) ||| ((b2 &&& 63) <<< (6 &&& 31))) ||| (b3 &&& 63)))] [.int (own_cp4 y0 y1 y2 y3)] [.inr (.byte, [.int fv, .int fv, .int y0, .int y1, .int y2, .int y3, .int fv, .int fv])] _
    refine Go.iload d0_411 rfl ?_
    refine Go.icmpF d0_413 (XT.ii_ne_f (by rw [own_e4 hz0 hz1 hz2 hz3, if_pos h368])) ?_
    refine Go.iconst d0_416 (v := 1) rfl ?_
    refine Go.goto d0_417 j0_417 ?_
    exact Go.ireturnZ d0_421 rfl (by decide) rfl HOk.any
  · -- pc 368 not taken
    refine Go.iload d0_371 rfl ?_
    refine Go.callS (M' := m4) d0_373 (hw _ (List.mem_of_getElem? (i := 13) rfl)) (hw _ (List.mem_of_getElem? (i := 14) rfl)) (hw _ (List.mem_of_getElem? (i := 2) rfl)) (hw _ (List.mem_of_getElem? (i := 15) rfl)) mi4 (as := [.int b2]) rfl rfl (st := []) rfl (ls1 := [.val (.int b2)]) rfl (W := 0) rfl (by decide) (by decide) (go_own_ic K hw b2 _) 15 120 (by decide) (by decide) ?_
    show Go _ _ _ _ 376 [.val (.int x0), .val (.int x1), .val (.int x2), .val (.int x3), .val (.int x4), .val (.int x5), .val (.int 4), .val (.int 2), .val (.int b0), .val (.int b1), .val (.int b2), .val (.int b3), .val (.int w12), .val (.ref 0), .val (.int (b1 &&& 63)), .val (.int (b2 &&& 63)), .val (.int (b3 &&& 63)), .unset, .val (.int (((((b0 &&& 7) <<< (18 &&& 31)) ||| ((b1 &&& 63) <<< (12 &&& 31))) ||| ((b2 &&& 63) <<< (6 &&& 31))) ||| (b3 &&& 63)))] [.int (own_ic b2)] [.inr (.byte, [.int fv, .int fv, .int y0, .int y1, .int y2, .int y3, .int fv, .int fv])] _
    refine Go.if_eq d0_376 j0_376 (fun h376 => ?_) (fun h376 => ?_)
    · -- pc 376 taken
      refine Go.iconst d0_399 (v := (-1)) rfl ?_
      refine Go.istore d0_400 (ls' := [.val (.int x0), .val (.int x1), .val (.int x2), .val (.int x3), .val (.int x4), .val (.int x5), .val (.int 4), .val (.int 2), .val (.int b0), .val (.int b1), .val (.int b2), .val (.int b3), .val (.int w12), .val (.ref 0), .val (.int (b1 &&& 63)), .val (.int (b2 &&& 63)), .val (.int (b3 &&& 63)), .val (.int (-1)), .val (.int (((((b0 &&& 7) <<< (18 &&& 31)) ||| ((b1 &&& 63) <<< (12 &&& 31))) ||| ((b2 &&& 63) <<< (6 &&& 31))) ||| (b3 &&& 63)))]) rfl ?_
      refine Go.aload d0_402 rfl rfl ?_
      refine Go.iload d0_404 rfl ?_
      refine Go.iload d0_406 rfl ?_
      refine Go.callS (M' := m3) d0_408 (hw _ (List.mem_of_getElem? (i := 8) rfl)) (hw _ (List.mem_of_getElem? (i := 9) rfl)) (hw _ (List.mem_of_getElem? (i := 10) rfl)) (hw _ (List.mem_of_getElem? (i := 11) rfl)) mi3 (as := [.ref 0, .int 2, .int 4]) rfl rfl (st := []) rfl (ls1 := [.val (.ref 0), .val (.int 2), .val (.int 4), .unset, .unset, .unset, .unset]) rfl (W := 0) rfl (by decide) (by decide) (go_own_cp4 K hw _ 0 _ 2 y0 y1 y2 y3 rfl (by decide) rfl (by decide) rfl (by decide) rfl (by decide) rfl) 15 120 (by decide) (by decide) ?_
      show Go _ _ _ _ 411 [.val (.int x0), .val (.int x1), .val (.int x2), .val (.int x3), .val (.int x4), .val (.int x5), .val (.int 4), .val (.int 2), .val (.int b0), .val (.int b1), .val (.int b2), .val (.int b3), .val (.int w12), .val (.ref 0), .val (.int (b1 &&& 63)), .val (.int (b2 &&& 63)), .val (.int (b3 &&& 63)), .val (.int (-1)), .val (.int (((((b0 &&& 7) <<< (18 &&& 31)) ||| ((b1 &&& 63) <<< (12 &&& 31))) ||| ((b2 &&& 63) <<< (6 &&& 31))) ||| (b3 &&& 63)))] [.int (own_cp4 y0 y1 y2 y3)] [.inr (.byte, [.int fv, .int fv, .int y0, .int y1, .int y2, .int y3, .int fv, .int fv])] _
      refine Go.iload d0_411 rfl ?_
      refine Go.icmpF d0_413 (XT.ii_ne_f (by rw [own_e4 hz0 hz1 hz2 hz3, if_neg h368, if_pos h376])) ?_
      refine Go.iconst d0_416 (v := 1) rfl ?_
      refine Go.goto d0_417 j0_417 ?_
      exact Go.ireturnZ d0_421 rfl (by decide) rfl HOk.any
    · -- pc 376 not taken
      refine Go.iload d0_379 rfl ?_
      refine Go.callS (M' := m4) d0_381 (hw _ (List.mem_of_getElem? (i := 13) rfl)) (hw _ (List.mem_of_getElem? (i := 14) rfl)) (hw _ (List.mem_of_getElem? (i := 2) rfl)) (hw _ (List.mem_of_getElem? (i := 15) rfl)) mi4 (as := [.int b3]) rfl rfl (st := []) rfl (ls1 := [.val (.int b3)]) rfl (W := 0) rfl (by decide) (by decide) (go_own_ic K hw b3 _) 15 120 (by decide) (by decide) ?_
      show Go _ _ _ _ 384 [.val (.int x0), .val (.int x1), .val (.int x2), .val (.int x3), .val (.int x4), .val (.int x5), .val (.int 4), .val (.int 2), .val (.int b0), .val (.int b1), .val (.int b2), .val (.int b3), .val (.int w12), .val (.ref 0), .val (.int (b1 &&& 63)), .val (.int (b2 &&& 63)), .val (.int (b3 &&& 63)), .unset, .val (.int (((((b0 &&& 7) <<< (18 &&& 31)) ||| ((b1 &&& 63) <<< (12 &&& 31))) ||| ((b2 &&& 63) <<< (6 &&& 31))) ||| (b3 &&& 63)))] [.int (own_ic b3)] [.inr (.byte, [.int fv, .int fv, .int y0, .int y1, .int y2, .int y3, .int fv, .int fv])] _
      refine Go.if_eq d0_384 j0_384 (fun h384 => ?_) (fun h384 => ?_)
      · -- pc 384 taken
        refine Go.iconst d0_399 (v := (-1)) rfl ?_
        refine Go.istore d0_400 (ls' := [.val (.int x0), .val (.int x1), .val (.int x2), .val (.int x3), .val (.int x4), .val (.int x5), .val (.int 4), .val (.int 2), .val (.int b0), .val (.int b1), .val (.int b2), .val (.int b3), .val (.int w12), .val (.ref 0), .val (.int (b1 &&& 63)), .val (.int (b2 &&& 63)), .val (.int (b3 &&& 63)), .val (.int (-1)), .val (.int (((((b0 &&& 7) <<< (18 &&& 31)) ||| ((b1 &&& 63) <<< (12 &&& 31))) ||| ((b2 &&& 63) <<< (6 &&& 31))) ||| (b3 &&& 63)))]) rfl ?_
        refine Go.aload d0_402 rfl rfl ?_
        refine Go.iload d0_404 rfl ?_
        refine Go.iload d0_406 rfl ?_
        refine Go.callS (M' := m3) d0_408 (hw _ (List.mem_of_getElem? (i := 8) rfl)) (hw _ (List.mem_of_getElem? (i := 9) rfl)) (hw _ (List.mem_of_getElem? (i := 10) rfl)) (hw _ (List.mem_of_getElem? (i := 11) rfl)) mi3 (as := [.ref 0, .int 2, .int 4]) rfl rfl (st := []) rfl (ls1 := [.val (.ref 0), .val (.int 2), .val (.int 4), .unset, .unset, .unset, .unset]) rfl (W := 0) rfl (by decide) (by decide) (go_own_cp4 K hw _ 0 _ 2 y0 y1 y2 y3 rfl (by decide) rfl (by decide) rfl (by decide) rfl (by decide) rfl) 15 120 (by decide) (by decide) ?_
        show Go _ _ _ _ 411 [.val (.int x0), .val (.int x1), .val (.int x2), .val (.int x3), .val (.int x4), .val (.int x5), .val (.int 4), .val (.int 2), .val (.int b0), .val (.int b1), .val (.int b2), .val (.int b3), .val (.int w12), .val (.ref 0), .val (.int (b1 &&& 63)), .val (.int (b2 &&& 63)), .val (.int (b3 &&& 63)), .val (.int (-1)), .val (.int (((((b0 &&& 7) <<< (18 &&& 31)) ||| ((b1 &&& 63) <<< (12 &&& 31))) ||| ((b2 &&& 63) <<< (6 &&& 31))) ||| (b3 &&& 63)))] [.int (own_cp4 y0 y1 y2 y3)] [.inr (.byte, [.int fv, .int fv, .int y0, .int y1, .int y2, .int y3, .int fv, .int fv])] _
        refine Go.iload d0_411 rfl ?_
        refine Go.icmpF d0_413 (XT.ii_ne_f (by rw [own_e4 hz0 hz1 hz2 hz3, if_neg h368, if_neg h376, if_pos h384])) ?_
        refine Go.iconst d0_416 (v := 1) rfl ?_
        refine Go.goto d0_417 j0_417 ?_
        exact Go.ireturnZ d0_421 rfl (by decide) rfl HOk.any
      · -- pc 384 not taken
        refine Go.iload d0_387 rfl ?_
        refine Go.ldc d0_389 (hw _ (List.mem_of_getElem? (i := 16) rfl)) ?_
        refine Go.icmp_lt d0_391 j0_391 (fun h391 => ?_) (fun h391 => ?_)
        · -- pc 391 taken
          refine Go.iconst d0_399 (v := (-1)) rfl ?_
          refine Go.istore d0_400 (ls' := [.val (.int x0), .val (.int x1), .val (.int x2), .val (.int x3), .val (.int x4), .val (.int x5), .val (.int 4), .val (.int 2), .val (.int b0), .val (.int b1), .val (.int b2), .val (.int b3), .val (.int w12), .val (.ref 0), .val (.int (b1 &&& 63)), .val (.int (b2 &&& 63)), .val (.int (b3 &&& 63)), .val (.int (-1)), .val (.int (((((b0 &&& 7) <<< (18 &&& 31)) ||| ((b1 &&& 63) <<< (12 &&& 31))) ||| ((b2 &&& 63) <<< (6 &&& 31))) ||| (b3 &&& 63)))]) rfl ?_
          refine Go.aload d0_402 rfl rfl ?_
          refine Go.iload d0_404 rfl ?_
          refine Go.iload d0_406 rfl ?_
          refine Go.callS (M' := m3) d0_408 (hw _ (List.mem_of_getElem? (i := 8) rfl)) (hw _ (List.mem_of_getElem? (i := 9) rfl)) (hw _ (List.mem_of_getElem? (i := 10) rfl)) (hw _ (List.mem_of_getElem? (i := 11) rfl)) mi3 (as := [.ref 0, .int 2, .int 4]) rfl rfl (st := []) rfl (ls1 := [.val (.ref 0), .val (.int 2), .val (.int 4), .unset, .unset, .unset, .unset]) rfl (W := 0) rfl (by decide) (by decide) (go_own_cp4 K hw _ 0 _ 2 y0 y1 y2 y3 rfl (by decide) rfl (by decide) rfl (by decide) rfl (by decide) rfl) 15 120 (by decide) (by decide) ?_
          show Go _ _ _ _ 411 [.val (.int x0), .val (.int x1), .val (.int x2), .val (.int x3), .val (.int x4), .val (.int x5), .val (.int 4), .val (.int 2), .val (.int b0), .val (.int b1), .val (.int b2), .val (.int b3), .val (.int w12), .val (.ref 0), .val (.int (b1 &&& 63)), .val (.int (b2 &&& 63)), .val (.int (b3 &&& 63)), .val (.int (-1)), .val (.int (((((b0 &&& 7) <<< (18 &&& 31)) ||| ((b1 &&& 63) <<< (12 &&& 31))) ||| ((b2 &&& 63) <<< (6 &&& 31))) ||| (b3 &&& 63)))] [.int (own_cp4 y0 y1 y2 y3)] [.inr (.byte, [.int fv, .int fv, .int y0, .int y1, .int y2, .int y3, .int fv, .int fv])] _
          refine Go.iload d0_411 rfl ?_
          refine Go.icmpF d0_413 (XT.ii_ne_f (by rw [own_e4 hz0 hz1 hz2 hz3, if_neg h368, if_neg h376, if_neg h384, if_pos h391])) ?_
          refine Go.iconst d0_416 (v := 1) rfl ?_
          refine Go.goto d0_417 j0_417 ?_
          exact Go.ireturnZ d0_421 rfl (by decide) rfl HOk.any
        · -- pc 391 not taken
          refine Go.iload d0_394 rfl ?_
          refine Go.goto d0_396 j0_396 ?_
          refine Go.istore d0_400 (ls' := [.val (.int x0), .val (.int x1), .val (.int x2), .val (.int x3), .val (.int x4), .val (.int x5), .val (.int 4), .val (.int 2), .val (.int b0), .val (.int b1), .val (.int b2), .val (.int b3), .val (.int w12), .val (.ref 0), .val (.int (b1 &&& 63)), .val (.int (b2 &&& 63)), .val (.int (b3 &&& 63)), .val (.int (((((b0 &&& 7) <<< (18 &&& 31)) ||| ((b1 &&& 63) <<< (12 &&& 31))) ||| ((b2 &&& 63) <<< (6 &&& 31))) ||| (b3 &&& 63))), .val (.int (((((b0 &&& 7) <<< (18 &&& 31)) ||| ((b1 &&& 63) <<< (12 &&& 31))) ||| ((b2 &&& 63) <<< (6 &&& 31))) ||| (b3 &&& 63)))]) rfl ?_
          refine Go.aload d0_402 rfl rfl ?_
          refine Go.iload d0_404 rfl ?_
          refine Go.iload d0_406 rfl ?_
          refine Go.callS (M' := m3) d0_408 (hw _ (List.mem_of_getElem? (i := 8) rfl)) (hw _ (List.mem_of_getElem? (i := 9) rfl)) (hw _ (List.mem_of_getElem? (i := 10) rfl)) (hw _ (List.mem_of_getElem? (i := 11) rfl)) mi3 (as := [.ref 0, .int 2, .int 4]) rfl rfl (st := []) rfl (ls1 := [.val (.ref 0), .val (.int 2), .val (.int 4), .unset, .unset, .unset, .unset]) rfl (W := 0) rfl (by decide) (by decide) (go_own_cp4 K hw _ 0 _ 2 y0 y1 y2 y3 rfl (by decide) rfl (by decide) rfl (by decide) rfl (by decide) rfl) 15 120 (by decide) (by decide) ?_
          show Go _ _ _ _ 411 [.val (.int x0), .val (.int x1), .val (.int x2), .val (.int x3), .val (.int x4), .val (.int x5), .val (.int 4), .val (.int 2), .val (.int b0), .val (.int b1), .val (.int b2), .val (.int b3), .val (.int w12), .val (.ref 0), .val (.int (b1 &&& 63)), .val (.int (b2 &&& 63)), .val (.int (b3 &&& 63)), .val (.int (((((b0 &&& 7) <<< (18 &&& 31)) ||| ((b1 &&& 63) <<< (12 &&& 31))) ||| ((b2 &&& 63) <<< (6 &&& 31))) ||| (b3 &&& 63))), .val (.int (((((b0 &&& 7) <<< (18 &&& 31)) ||| ((b1 &&& 63) <<< (12 &&& 31))) ||| ((b2 &&& 63) <<< (6 &&& 31))) ||| (b3 &&& 63)))] [.int (own_cp4 y0 y1 y2 y3)] [.inr (.byte, [.int fv, .int fv, .int y0, .int y1, .int y2, .int y3, .int fv, .int fv])] _
          refine Go.iload d0_411 rfl ?_
          refine Go.icmpF d0_413 (XT.ii_ne_f (by rw [own_e4 hz0 hz1 hz2 hz3, if_neg h368, if_neg h376, if_neg h384, if_neg h391])) ?_
          refine Go.iconst d0_416 (v := 1) rfl ?_
          refine Go.goto d0_417 j0_417 ?_
          exact Go.ireturnZ d0_421 rfl (by decide) rfl HOk.any
theorem go_t86_4_3 (K : Ctx) (hw : ∀ d ∈ tables_1, d.before K.2.2.1 K.2.1 = true) (x0 x1 x2 x3 x4 x5 b0 b1 b2 b3 w12 fv y0 y1 y2 y3 : Int32) (hf : nar .byte w12 = fv) (hy0 : nar .byte ((Int32.toInt8 b0).toInt32) = y0) (hy1 : nar .byte ((Int32.toInt8 b1).toInt32) = y1) (hy2 : nar .byte ((Int32.toInt8 b2).toInt32) = y2) (hy3 : nar .byte ((Int32.toInt8 b3).toInt32) = y3) (hz0 : y0 &&& 7 = b0 &&& 7) (hz1 : y1 &&& 255 = b1)  (hz2 : y2 &&& 255 = b2)  (hz3 : y3 &&& 255 = b3) : Go K m0 4 112 86 [.val (.int x0), .val (.int x1), .val (.int x2), .val (.int x3), .val (.int x4), .val (.int x5), .val (.int 4), .val (.int 3), .val (.int b0), .val (.int b1), .val (.int b2), .val (.int b3), .val (.int w12), .unset, .unset, .unset, .unset, .unset, .unset] [] [] (some (.int 1), none, 16, 128) := by
  refine Go.bipush d0_86 (v := 8) rfl ?_
  refine Go.newarray 8 d0_88 (hw _ (List.mem_of_getElem? (i := 7) rfl)) (t := .byte) rfl (by decide) (by decide) (by decide) (vs := [.int 0, .int 0, .int 0, .int 0, .int 0, .int 0, .int 0, .int 0]) rfl (i := 0) rfl 15 120 (by decide) (by decide) ?_
  show Go _ _ _ _ 90 [.val (.int x0), .val (.int x1), .val (.int x2), .val (.int x3), .val (.int x4), .val (.int x5), .val (.int 4), .val (.int 3), .val (.int b0), .val (.int b1), .val (.int b2), .val (.int b3), .val (.int w12), .unset, .unset, .unset, .unset, .unset, .unset] [.ref 0] [.inr (.byte, [.int 0, .int 0, .int 0, .int 0, .int 0, .int 0, .int 0, .int 0])] _
  refine Go.astore d0_90 (ls' := [.val (.int x0), .val (.int x1), .val (.int x2), .val (.int x3), .val (.int x4), .val (.int x5), .val (.int 4), .val (.int 3), .val (.int b0), .val (.int b1), .val (.int b2), .val (.int b3), .val (.int w12), .val (.ref 0), .unset, .unset, .unset, .unset, .unset]) rfl rfl ?_
  refine Go.aload d0_92 rfl rfl ?_
  refine Go.iconst d0_94 (v := 0) rfl ?_
  refine Go.iload d0_95 rfl ?_
  refine Go.bastore d0_97 rfl (by decide) (Nat.le_of_ble_eq_true rfl) (H1 := [.inr (.byte, [.int fv, .int 0, .int 0, .int 0, .int 0, .int 0, .int 0, .int 0])]) (by rw [hf]; rfl) ?_
  refine Go.aload d0_98 rfl rfl ?_
  refine Go.iconst d0_100 (v := 1) rfl ?_
  refine Go.iload d0_101 rfl ?_
  refine Go.bastore d0_103 rfl (by decide) (Nat.le_of_ble_eq_true rfl) (H1 := [.inr (.byte, [.int fv, .int fv, .int 0, .int 0, .int 0, .int 0, .int 0, .int 0])]) (by rw [hf]; rfl) ?_
  refine Go.aload d0_104 rfl rfl ?_
  refine Go.iconst d0_106 (v := 2) rfl ?_
  refine Go.iload d0_107 rfl ?_
  refine Go.bastore d0_109 rfl (by decide) (Nat.le_of_ble_eq_true rfl) (H1 := [.inr (.byte, [.int fv, .int fv, .int fv, .int 0, .int 0, .int 0, .int 0, .int 0])]) (by rw [hf]; rfl) ?_
  refine Go.aload d0_110 rfl rfl ?_
  refine Go.iconst d0_112 (v := 3) rfl ?_
  refine Go.iload d0_113 rfl ?_
  refine Go.bastore d0_115 rfl (by decide) (Nat.le_of_ble_eq_true rfl) (H1 := [.inr (.byte, [.int fv, .int fv, .int fv, .int fv, .int 0, .int 0, .int 0, .int 0])]) (by rw [hf]; rfl) ?_
  refine Go.aload d0_116 rfl rfl ?_
  refine Go.iconst d0_118 (v := 4) rfl ?_
  refine Go.iload d0_119 rfl ?_
  refine Go.bastore d0_121 rfl (by decide) (Nat.le_of_ble_eq_true rfl) (H1 := [.inr (.byte, [.int fv, .int fv, .int fv, .int fv, .int fv, .int 0, .int 0, .int 0])]) (by rw [hf]; rfl) ?_
  refine Go.aload d0_122 rfl rfl ?_
  refine Go.iconst d0_124 (v := 5) rfl ?_
  refine Go.iload d0_125 rfl ?_
  refine Go.bastore d0_127 rfl (by decide) (Nat.le_of_ble_eq_true rfl) (H1 := [.inr (.byte, [.int fv, .int fv, .int fv, .int fv, .int fv, .int fv, .int 0, .int 0])]) (by rw [hf]; rfl) ?_
  refine Go.aload d0_128 rfl rfl ?_
  refine Go.bipush d0_130 (v := 6) rfl ?_
  refine Go.iload d0_132 rfl ?_
  refine Go.bastore d0_134 rfl (by decide) (Nat.le_of_ble_eq_true rfl) (H1 := [.inr (.byte, [.int fv, .int fv, .int fv, .int fv, .int fv, .int fv, .int fv, .int 0])]) (by rw [hf]; rfl) ?_
  refine Go.aload d0_135 rfl rfl ?_
  refine Go.bipush d0_137 (v := 7) rfl ?_
  refine Go.iload d0_139 rfl ?_
  refine Go.bastore d0_141 rfl (by decide) (Nat.le_of_ble_eq_true rfl) (H1 := [.inr (.byte, [.int fv, .int fv, .int fv, .int fv, .int fv, .int fv, .int fv, .int fv])]) (by rw [hf]; rfl) ?_
  refine Go.aload d0_142 rfl rfl ?_
  refine Go.iload d0_144 rfl ?_
  refine Go.iload d0_146 rfl ?_
  refine Go.i2b d0_148 ?_
  refine Go.bastore d0_149 rfl (by decide) (Nat.le_of_ble_eq_true rfl) (H1 := [.inr (.byte, [.int fv, .int fv, .int fv, .int y0, .int fv, .int fv, .int fv, .int fv])]) (by rw [hy0]; rfl) ?_
  refine Go.iload d0_150 rfl ?_
  refine Go.iconst d0_152 (v := 2) rfl ?_
  refine Go.icmpF d0_153 (XT.ii_lt_f (by decide)) ?_
  refine Go.aload d0_156 rfl rfl ?_
  refine Go.iload d0_158 rfl ?_
  refine Go.iconst d0_160 (v := 1) rfl ?_
  refine Go.iadd d0_161 ?_
  show Go _ _ _ _ 162 [.val (.int x0), .val (.int x1), .val (.int x2), .val (.int x3), .val (.int x4), .val (.int x5), .val (.int 4), .val (.int 3), .val (.int b0), .val (.int b1), .val (.int b2), .val (.int b3), .val (.int w12), .val (.ref 0), .unset, .unset, .unset, .unset, .unset] [.int 4, .ref 0] [.inr (.byte, [.int fv, .int fv, .int fv, .int y0, .int fv, .int fv, .int fv, .int fv])] _
  refine Go.iload d0_162 rfl ?_
  refine Go.i2b d0_164 ?_
  refine Go.bastore d0_165 rfl (by decide) (Nat.le_of_ble_eq_true rfl) (H1 := [.inr (.byte, [.int fv, .int fv, .int fv, .int y0, .int y1, .int fv, .int fv, .int fv])]) (by rw [hy1]; rfl) ?_
  refine Go.iload d0_166 rfl ?_
  refine Go.iconst d0_168 (v := 3) rfl ?_
  refine Go.icmpF d0_169 (XT.ii_lt_f (by decide)) ?_
  refine Go.aload d0_172 rfl rfl ?_
  refine Go.iload d0_174 rfl ?_
  refine Go.iconst d0_176 (v := 2) rfl ?_
  refine Go.iadd d0_177 ?_
  show Go _ _ _ _ 178 [.val (.int x0), .val (.int x1), .val (.int x2), .val (.int x3), .val (.int x4), .val (.int x5), .val (.int 4), .val (.int 3), .val (.int b0), .val (.int b1), .val (.int b2), .val (.int b3), .val (.int w12), .val (.ref 0), .unset, .unset, .unset, .unset, .unset] [.int 5, .ref 0] [.inr (.byte, [.int fv, .int fv, .int fv, .int y0, .int y1, .int fv, .int fv, .int fv])] _
  refine Go.iload d0_178 rfl ?_
  refine Go.i2b d0_180 ?_
  refine Go.bastore d0_181 rfl (by decide) (Nat.le_of_ble_eq_true rfl) (H1 := [.inr (.byte, [.int fv, .int fv, .int fv, .int y0, .int y1, .int y2, .int fv, .int fv])]) (by rw [hy2]; rfl) ?_
  refine Go.iload d0_182 rfl ?_
  refine Go.iconst d0_184 (v := 4) rfl ?_
  refine Go.icmpF d0_185 (XT.ii_lt_f (by decide)) ?_
  refine Go.aload d0_188 rfl rfl ?_
  refine Go.iload d0_190 rfl ?_
  refine Go.iconst d0_192 (v := 3) rfl ?_
  refine Go.iadd d0_193 ?_
  show Go _ _ _ _ 194 [.val (.int x0), .val (.int x1), .val (.int x2), .val (.int x3), .val (.int x4), .val (.int x5), .val (.int 4), .val (.int 3), .val (.int b0), .val (.int b1), .val (.int b2), .val (.int b3), .val (.int w12), .val (.ref 0), .unset, .unset, .unset, .unset, .unset] [.int 6, .ref 0] [.inr (.byte, [.int fv, .int fv, .int fv, .int y0, .int y1, .int y2, .int fv, .int fv])] _
  refine Go.iload d0_194 rfl ?_
  refine Go.i2b d0_196 ?_
  refine Go.bastore d0_197 rfl (by decide) (Nat.le_of_ble_eq_true rfl) (H1 := [.inr (.byte, [.int fv, .int fv, .int fv, .int y0, .int y1, .int y2, .int y3, .int fv])]) (by rw [hy3]; rfl) ?_
  refine Go.iload d0_198 rfl ?_
  refine Go.bipush d0_200 (v := 63) rfl ?_
  refine Go.iand d0_202 ?_
  refine Go.istore d0_203 (ls' := [.val (.int x0), .val (.int x1), .val (.int x2), .val (.int x3), .val (.int x4), .val (.int x5), .val (.int 4), .val (.int 3), .val (.int b0), .val (.int b1), .val (.int b2), .val (.int b3), .val (.int w12), .val (.ref 0), .val (.int (b1 &&& 63)), .unset, .unset, .unset, .unset]) rfl ?_
  refine Go.iload d0_205 rfl ?_
  refine Go.bipush d0_207 (v := 63) rfl ?_
  refine Go.iand d0_209 ?_
  refine Go.istore d0_210 (ls' := [.val (.int x0), .val (.int x1), .val (.int x2), .val (.int x3), .val (.int x4), .val (.int x5), .val (.int 4), .val (.int 3), .val (.int b0), .val (.int b1), .val (.int b2), .val (.int b3), .val (.int w12), .val (.ref 0), .val (.int (b1 &&& 63)), .val (.int (b2 &&& 63)), .unset, .unset, .unset]) rfl ?_
  refine Go.iload d0_212 rfl ?_
  refine Go.bipush d0_214 (v := 63) rfl ?_
  refine Go.iand d0_216 ?_
  refine Go.istore d0_217 (ls' := [.val (.int x0), .val (.int x1), .val (.int x2), .val (.int x3), .val (.int x4), .val (.int x5), .val (.int 4), .val (.int 3), .val (.int b0), .val (.int b1), .val (.int b2), .val (.int b3), .val (.int w12), .val (.ref 0), .val (.int (b1 &&& 63)), .val (.int (b2 &&& 63)), .val (.int (b3 &&& 63)), .unset, .unset]) rfl ?_
  refine Go.iload d0_219 rfl ?_
  refine Go.iconst d0_221 (v := 1) rfl ?_
  refine Go.icmpT d0_222 j0_222 (XT.ii_ne_t (by decide)) ?_
  refine Go.iload d0_232 rfl ?_
  refine Go.iconst d0_234 (v := 2) rfl ?_
  refine Go.icmpT d0_235 j0_235 (XT.ii_ne_t (by decide)) ?_
  refine Go.iload d0_278 rfl ?_
  refine Go.iconst d0_280 (v := 3) rfl ?_
  refine Go.icmpT d0_281 j0_281 (XT.ii_ne_t (by decide)) ?_
  refine Go.iload d0_338 rfl ?_
  refine Go.bipush d0_340 (v := 7) rfl ?_
  refine Go.iand d0_342 ?_
  refine Go.bipush d0_343 (v := 18) rfl ?_
  refine Go.ishl d0_345 ?_
  refine Go.iload d0_346 rfl ?_
  refine Go.bipush d0_348 (v := 12) rfl ?_
  refine Go.ishl d0_350 ?_
  refine Go.ior d0_351 ?_
  refine Go.iload d0_352 rfl ?_
  refine Go.bipush d0_354 (v := 6) rfl ?_
  refine Go.ishl d0_356 ?_
  refine Go.ior d0_357 ?_
  refine Go.iload d0_358 rfl ?_
  refine Go.ior d0_360 ?_
  refine Go.istore d0_361 (ls' := [.val (.int x0), .val (.int x1), .val (.int x2), .val (.int x3), .val (.int x4), .val (.int x5), .val (.int 4), .val (.int 3), .val (.int b0), .val (.int b1), .val (.int b2), .val (.int b3), .val (.int w12), .val (.ref 0), .val (.int (b1 &&& 63)), .val (.int (b2 &&& 63)), .val (.int (b3 &&& 63)), .unset, .val (.int (((((b0 &&& 7) <<< (18 &&& 31)) ||| ((b1 &&& 63) <<< (12 &&& 31))) ||| ((b2 &&& 63) <<< (6 &&& 31))) ||| (b3 &&& 63)))]) rfl ?_
  refine Go.iload d0_363 rfl ?_
  refine Go.callS (M' := m4) d0_365 (hw _ (List.mem_of_getElem? (i := 13) rfl)) (hw _ (List.mem_of_getElem? (i := 14) rfl)) (hw _ (List.mem_of_getElem? (i := 2) rfl)) (hw _ (List.mem_of_getElem? (i := 15) rfl)) mi4 (as := [.int b1]) rfl rfl (st := []) rfl (ls1 := [.val (.int b1)]) rfl (W := 0) rfl (by decide) (by decide) (go_own_ic K hw b1 _) 15 120 (by decide) (by decide) ?_
  show Go _ _ _ _ 368 [.val (.int x0), .val (.int x1), .val (.int x2), .val (.int x3), .val (.int x4), .val (.int x5), .val (.int 4), .val (.int 3), .val (.int b0), .val (.int b1), .val (.int b2), .val (.int b3), .val (.int w12), .val (.ref 0), .val (.int (b1 &&& 63)), .val (.int (b2 &&& 63)), .val (.int (b3 &&& 63)), .unset, .val (.int (((((b0 &&& 7) <<< (18 &&& 31)) ||| ((b1 &&& 63) <<< (12 &&& 31))) ||| ((b2 &&& 63) <<< (6 &&& 31))) ||| (b3 &&& 63)))] [.int (own_ic b1)] [.inr (.byte, [.int fv, .int fv, .int fv, .int y0, .int y1, .int y2, .int y3, .int fv])] _
  refine Go.if_eq d0_368 j0_368 (fun h368 => ?_) (fun h368 => ?_)
  · -- pc 368 taken
    refine Go.iconst d0_399 (v := (-1)) rfl ?_
    refine Go.istore d0_400 (ls' := [.val (.int x0), .val (.int x1), .val (.int x2), .val (.int x3), .val (.int x4), .val (.int x5), .val (.int 4), .val (.int 3), .val (.int b0), .val (.int b1), .val (.int b2), .val (.int b3), .val (.int w12), .val (.ref 0), .val (.int (b1 &&& 63)), .val (.int (b2 &&& 63)), .val (.int (b3 &&& 63)), .val (.int (-1)), .val (.int (((((b0 &&& 7) <<< (18 &&& 31)) ||| ((b1 &&& 63) <<< (12 &&& 31))) ||| ((b2 &&& 63) <<< (6 &&& 31))) ||| (b3 &&& 63)))]) rfl ?_
    refine Go.aload d0_402 rfl rfl ?_
    refine Go.iload d0_404 rfl ?_
    refine Go.iload d0_406 rfl ?_
    refine Go.callS (M' := m3) d0_408 (hw _ (List.mem_of_getElem? (i := 8) rfl)) (hw _ (List.mem_of_getElem? (i := 9) rfl)) (hw _ (List.mem_of_getElem? (i := 10) rfl)) (hw _ (List.mem_of_getElem? (i := 11) rfl)) mi3 (as := [.ref 0, .int 3, .int 4]) rfl rfl (st := []) rfl (ls1 := [.val (.ref 0), .val (.int 3), .val (.int 4), .unset, .unset, .unset, .unset]) rfl (W := 0) rfl (by decide) (by decide) (go_own_cp4 K hw _ 0 _ 3 y0 y1 y2 y3 rfl (by decide) rfl (by decide) rfl (by decide) rfl (by decide) rfl) 15 120 (by decide) (by decide) ?_
    show Go _ _ _ _ 411 [.val (.int x0), .val (.int x1), .val (.int x2), .val (.int x3), .val (.int x4), .val (.int x5), .val (.int 4), .val (.int 3), .val (.int b0), .val (.int b1), .val (.int b2), .val (.int b3), .val (.int w12), .val (.ref 0), .val (.int (b1 &&& 63)), .val (.int (b2 &&& 63)), .val (.int (b3 &&& 63)), .val (.int (-1)), .val (.int (((((b0 &&& 7) <<< (18 &&& 31)) ||| ((b1 &&& 63) <<< (12 &&& 31))) ||| ((b2 &&& 63) <<< (6 &&& 31))) ||| (b3 &&& 63)))] [.int (own_cp4 y0 y1 y2 y3)] [.inr (.byte, [.int fv, .int fv, .int fv, .int y0, .int y1, .int y2, .int y3, .int fv])] _
    refine Go.iload d0_411 rfl ?_
    refine Go.icmpF d0_413 (XT.ii_ne_f (by rw [own_e4 hz0 hz1 hz2 hz3, if_pos h368])) ?_
    refine Go.iconst d0_416 (v := 1) rfl ?_
    refine Go.goto d0_417 j0_417 ?_
    exact Go.ireturnZ d0_421 rfl (by decide) rfl HOk.any
  · -- pc 368 not taken
    refine Go.iload d0_371 rfl ?_
    refine Go.callS (M' := m4) d0_373 (hw _ (List.mem_of_getElem? (i := 13) rfl)) (hw _ (List.mem_of_getElem? (i := 14) rfl)) (hw _ (List.mem_of_getElem? (i := 2) rfl)) (hw _ (List.mem_of_getElem? (i := 15) rfl)) mi4 (as := [.int b2]) rfl rfl (st := []) rfl (ls1 := [.val (.int b2)]) rfl (W := 0) rfl (by decide) (by decide) (go_own_ic K hw b2 _) 15 120 (by decide) (by decide) ?_
    show Go _ _ _ _ 376 [.val (.int x0), .val (.int x1), .val (.int x2), .val (.int x3), .val (.int x4), .val (.int x5), .val (.int 4), .val (.int 3), .val (.int b0), .val (.int b1), .val (.int b2), .val (.int b3), .val (.int w12), .val (.ref 0), .val (.int (b1 &&& 63)), .val (.int (b2 &&& 63)), .val (.int (b3 &&& 63)), .unset, .val (.int (((((b0 &&& 7) <<< (18 &&& 31)) ||| ((b1 &&& 63) <<< (12 &&& 31))) ||| ((b2 &&& 63) <<< (6 &&& 31))) ||| (b3 &&& 63)))] [.int (own_ic b2)] [.inr (.byte, [.int fv, .int fv, .int fv, .int y0, .int y1, .int y2, .int y3, .int fv])] _
    refine Go.if_eq d0_376 j0_376 (fun h376 => ?_) (fun h376 => ?_)
    · -- pc 376 taken
      refine Go.iconst d0_399 (v := (-1)) rfl ?_
      refine Go.istore d0_400 (ls' := [.val (.int x0), .val (.int x1), .val (.int x2), .val (.int x3), .val (.int x4), .val (.int x5), .val (.int 4), .val (.int 3), .val (.int b0), .val (.int b1), .val (.int b2), .val (.int b3), .val (.int w12), .val (.ref 0), .val (.int (b1 &&& 63)), .val (.int (b2 &&& 63)), .val (.int (b3 &&& 63)), .val (.int (-1)), .val (.int (((((b0 &&& 7) <<< (18 &&& 31)) ||| ((b1 &&& 63) <<< (12 &&& 31))) ||| ((b2 &&& 63) <<< (6 &&& 31))) ||| (b3 &&& 63)))]) rfl ?_
      refine Go.aload d0_402 rfl rfl ?_
      refine Go.iload d0_404 rfl ?_
      refine Go.iload d0_406 rfl ?_
      refine Go.callS (M' := m3) d0_408 (hw _ (List.mem_of_getElem? (i := 8) rfl)) (hw _ (List.mem_of_getElem? (i := 9) rfl)) (hw _ (List.mem_of_getElem? (i := 10) rfl)) (hw _ (List.mem_of_getElem? (i := 11) rfl)) mi3 (as := [.ref 0, .int 3, .int 4]) rfl rfl (st := []) rfl (ls1 := [.val (.ref 0), .val (.int 3), .val (.int 4), .unset, .unset, .unset, .unset]) rfl (W := 0) rfl (by decide) (by decide) (go_own_cp4 K hw _ 0 _ 3 y0 y1 y2 y3 rfl (by decide) rfl (by decide) rfl (by decide) rfl (by decide) rfl) 15 120 (by decide) (by decide) ?_
      show Go _ _ _ _ 411 [.val (.int x0), .val (.int x1), .val (.int x2), .val (.int x3), .val (.int x4), .val (.int x5), .val (.int 4), .val (.int 3), .val (.int b0), .val (.int b1), .val (.int b2), .val (.int b3), .val (.int w12), .val (.ref 0), .val (.int (b1 &&& 63)), .val (.int (b2 &&& 63)), .val (.int (b3 &&& 63)), .val (.int (-1)), .val (.int (((((b0 &&& 7) <<< (18 &&& 31)) ||| ((b1 &&& 63) <<< (12 &&& 31))) ||| ((b2 &&& 63) <<< (6 &&& 31))) ||| (b3 &&& 63)))] [.int (own_cp4 y0 y1 y2 y3)] [.inr (.byte, [.int fv, .int fv, .int fv, .int y0, .int y1, .int y2, .int y3, .int fv])] _
      refine Go.iload d0_411 rfl ?_
      refine Go.icmpF d0_413 (XT.ii_ne_f (by rw [own_e4 hz0 hz1 hz2 hz3, if_neg h368, if_pos h376])) ?_
      refine Go.iconst d0_416 (v := 1) rfl ?_
      refine Go.goto d0_417 j0_417 ?_
      exact Go.ireturnZ d0_421 rfl (by decide) rfl HOk.any
    · -- pc 376 not taken
      refine Go.iload d0_379 rfl ?_
      refine Go.callS (M' := m4) d0_381 (hw _ (List.mem_of_getElem? (i := 13) rfl)) (hw _ (List.mem_of_getElem? (i := 14) rfl)) (hw _ (List.mem_of_getElem? (i := 2) rfl)) (hw _ (List.mem_of_getElem? (i := 15) rfl)) mi4 (as := [.int b3]) rfl rfl (st := []) rfl (ls1 := [.val (.int b3)]) rfl (W := 0) rfl (by decide) (by decide) (go_own_ic K hw b3 _) 15 120 (by decide) (by decide) ?_
      show Go _ _ _ _ 384 [.val (.int x0), .val (.int x1), .val (.int x2), .val (.int x3), .val (.int x4), .val (.int x5), .val (.int 4), .val (.int 3), .val (.int b0), .val (.int b1), .val (.int b2), .val (.int b3), .val (.int w12), .val (.ref 0), .val (.int (b1 &&& 63)), .val (.int (b2 &&& 63)), .val (.int (b3 &&& 63)), .unset, .val (.int (((((b0 &&& 7) <<< (18 &&& 31)) ||| ((b1 &&& 63) <<< (12 &&& 31))) ||| ((b2 &&& 63) <<< (6 &&& 31))) ||| (b3 &&& 63)))] [.int (own_ic b3)] [.inr (.byte, [.int fv, .int fv, .int fv, .int y0, .int y1, .int y2, .int y3, .int fv])] _
      refine Go.if_eq d0_384 j0_384 (fun h384 => ?_) (fun h384 => ?_)
      · -- pc 384 taken
        refine Go.iconst d0_399 (v := (-1)) rfl ?_
        refine Go.istore d0_400 (ls' := [.val (.int x0), .val (.int x1), .val (.int x2), .val (.int x3), .val (.int x4), .val (.int x5), .val (.int 4), .val (.int 3), .val (.int b0), .val (.int b1), .val (.int b2), .val (.int b3), .val (.int w12), .val (.ref 0), .val (.int (b1 &&& 63)), .val (.int (b2 &&& 63)), .val (.int (b3 &&& 63)), .val (.int (-1)), .val (.int (((((b0 &&& 7) <<< (18 &&& 31)) ||| ((b1 &&& 63) <<< (12 &&& 31))) ||| ((b2 &&& 63) <<< (6 &&& 31))) ||| (b3 &&& 63)))]) rfl ?_
        refine Go.aload d0_402 rfl rfl ?_
        refine Go.iload d0_404 rfl ?_
        refine Go.iload d0_406 rfl ?_
        refine Go.callS (M' := m3) d0_408 (hw _ (List.mem_of_getElem? (i := 8) rfl)) (hw _ (List.mem_of_getElem? (i := 9) rfl)) (hw _ (List.mem_of_getElem? (i := 10) rfl)) (hw _ (List.mem_of_getElem? (i := 11) rfl)) mi3 (as := [.ref 0, .int 3, .int 4]) rfl rfl (st := []) rfl (ls1 := [.val (.ref 0), .val (.int 3), .val (.int 4), .unset, .unset, .unset, .unset]) rfl (W := 0) rfl (by decide) (by decide) (go_own_cp4 K hw _ 0 _ 3 y0 y1 y2 y3 rfl (by decide) rfl (by decide) rfl (by decide) rfl (by decide) rfl) 15 120 (by decide) (by decide) ?_
        show Go _ _ _ _ 411 [.val (.int x0), .val (.int x1), .val (.int x2), .val (.int x3), .val (.int x4), .val (.int x5), .val (.int 4), .val (.int 3), .val (.int b0), .val (.int b1), .val (.int b2), .val (.int b3), .val (.int w12), .val (.ref 0), .val (.int (b1 &&& 63)), .val (.int (b2 &&& 63)), .val (.int (b3 &&& 63)), .val (.int (-1)), .val (.int (((((b0 &&& 7) <<< (18 &&& 31)) ||| ((b1 &&& 63) <<< (12 &&& 31))) ||| ((b2 &&& 63) <<< (6 &&& 31))) ||| (b3 &&& 63)))] [.int (own_cp4 y0 y1 y2 y3)] [.inr (.byte, [.int fv, .int fv, .int fv, .int y0, .int y1, .int y2, .int y3, .int fv])] _
        refine Go.iload d0_411 rfl ?_
        refine Go.icmpF d0_413 (XT.ii_ne_f (by rw [own_e4 hz0 hz1 hz2 hz3, if_neg h368, if_neg h376, if_pos h384])) ?_
        refine Go.iconst d0_416 (v := 1) rfl ?_
        refine Go.goto d0_417 j0_417 ?_
        exact Go.ireturnZ d0_421 rfl (by decide) rfl HOk.any
      · -- pc 384 not taken
        refine Go.iload d0_387 rfl ?_
        refine Go.ldc d0_389 (hw _ (List.mem_of_getElem? (i := 16) rfl)) ?_
        refine Go.icmp_lt d0_391 j0_391 (fun h391 => ?_) (fun h391 => ?_)
        · -- pc 391 taken
          refine Go.iconst d0_399 (v := (-1)) rfl ?_
          refine Go.istore d0_400 (ls' := [.val (.int x0), .val (.int x1), .val (.int x2), .val (.int x3), .val (.int x4), .val (.int x5), .val (.int 4), .val (.int 3), .val (.int b0), .val (.int b1), .val (.int b2), .val (.int b3), .val (.int w12), .val (.ref 0), .val (.int (b1 &&& 63)), .val (.int (b2 &&& 63)), .val (.int (b3 &&& 63)), .val (.int (-1)), .val (.int (((((b0 &&& 7) <<< (18 &&& 31)) ||| ((b1 &&& 63) <<< (12 &&& 31))) ||| ((b2 &&& 63) <<< (6 &&& 31))) ||| (b3 &&& 63)))]) rfl ?_
          refine Go.aload d0_402 rfl rfl ?_
          refine Go.iload d0_404 rfl ?_
          refine Go.iload d0_406 rfl ?_
          refine Go.callS (M' := m3) d0_408 (hw _ (List.mem_of_getElem? (i := 8) rfl)) (hw _ (List.mem_of_getElem? (i := 9) rfl)) (hw _ (List.mem_of_getElem? (i := 10) rfl)) (hw _ (List.mem_of_getElem? (i := 11) rfl)) mi3 (as := [.ref 0, .int 3, .int 4]) rfl rfl (st := []) rfl (ls1 := [.val (.ref 0), .val (.int 3), .val (.int 4), .unset, .unset, .unset, .unset]) rfl (W := 0) rfl (by decide) (by decide) (go_own_cp4 K hw _ 0 _ 3 y0 y1 y2 y3 rfl (by decide) rfl (by decide) rfl (by decide) rfl (by decide) rfl) 15 120 (by decide) (by decide) ?_
          show Go _ _ _ _ 411 [.val (.int x0), .val (.int x1), .val (.int x2), .val (.int x3), .val (.int x4), .val (.int x5), .val (.int 4), .val (.int 3), .val (.int b0), .val (.int b1), .val (.int b2), .val (.int b3), .val (.int w12), .val (.ref 0), .val (.int (b1 &&& 63)), .val (.int (b2 &&& 63)), .val (.int (b3 &&& 63)), .val (.int (-1)), .val (.int (((((b0 &&& 7) <<< (18 &&& 31)) ||| ((b1 &&& 63) <<< (12 &&& 31))) ||| ((b2 &&& 63) <<< (6 &&& 31))) ||| (b3 &&& 63)))] [.int (own_cp4 y0 y1 y2 y3)] [.inr (.byte, [.int fv, .int fv, .int fv, .int y0, .int y1, .int y2, .int y3, .int fv])] _
          refine Go.iload d0_411 rfl ?_
          refine Go.icmpF d0_413 (XT.ii_ne_f (by rw [own_e4 hz0 hz1 hz2 hz3, if_neg h368, if_neg h376, if_neg h384, if_pos h391])) ?_
          refine Go.iconst d0_416 (v := 1) rfl ?_
          refine Go.goto d0_417 j0_417 ?_
          exact Go.ireturnZ d0_421 rfl (by decide) rfl HOk.any
        · -- pc 391 not taken
          refine Go.iload d0_394 rfl ?_
          refine Go.goto d0_396 j0_396 ?_
          refine Go.istore d0_400 (ls' := [.val (.int x0), .val (.int x1), .val (.int x2), .val (.int x3), .val (.int x4), .val (.int x5), .val (.int 4), .val (.int 3), .val (.int b0), .val (.int b1), .val (.int b2), .val (.int b3), .val (.int w12), .val (.ref 0), .val (.int (b1 &&& 63)), .val (.int (b2 &&& 63)), .val (.int (b3 &&& 63)), .val (.int (((((b0 &&& 7) <<< (18 &&& 31)) ||| ((b1 &&& 63) <<< (12 &&& 31))) ||| ((b2 &&& 63) <<< (6 &&& 31))) ||| (b3 &&& 63))), .val (.int (((((b0 &&& 7) <<< (18 &&& 31)) ||| ((b1 &&& 63) <<< (12 &&& 31))) ||| ((b2 &&& 63) <<< (6 &&& 31))) ||| (b3 &&& 63)))]) rfl ?_
          refine Go.aload d0_402 rfl rfl ?_
          refine Go.iload d0_404 rfl ?_
          refine Go.iload d0_406 rfl ?_
          refine Go.callS (M' := m3) d0_408 (hw _ (List.mem_of_getElem? (i := 8) rfl)) (hw _ (List.mem_of_getElem? (i := 9) rfl)) (hw _ (List.mem_of_getElem? (i := 10) rfl)) (hw _ (List.mem_of_getElem? (i := 11) rfl)) mi3 (as := [.ref 0, .int 3, .int 4]) rfl rfl (st := []) rfl (ls1 := [.val (.ref 0), .val (.int 3), .val (.int 4), .unset, .unset, .unset, .unset]) rfl (W := 0) rfl (by decide) (by decide) (go_own_cp4 K hw _ 0 _ 3 y0 y1 y2 y3 rfl (by decide) rfl (by decide) rfl (by decide) rfl (by decide) rfl) 15 120 (by decide) (by decide) ?_
          show Go _ _ _ _ 411 [.val (.int x0), .val (.int x1), .val (.int x2), .val (.int x3), .val (.int x4), .val (.int x5), .val (.int 4), .val (.int 3), .val (.int b0), .val (.int b1), .val (.int b2), .val (.int b3), .val (.int w12), .val (.ref 0), .val (.int (b1 &&& 63)), .val (.int (b2 &&& 63)), .val (.int (b3 &&& 63)), .val (.int (((((b0 &&& 7) <<< (18 &&& 31)) ||| ((b1 &&& 63) <<< (12 &&& 31))) ||| ((b2 &&& 63) <<< (6 &&& 31))) ||| (b3 &&& 63))), .val (.int (((((b0 &&& 7) <<< (18 &&& 31)) ||| ((b1 &&& 63) <<< (12 &&& 31))) ||| ((b2 &&& 63) <<< (6 &&& 31))) ||| (b3 &&& 63)))] [.int (own_cp4 y0 y1 y2 y3)] [.inr (.byte, [.int fv, .int fv, .int fv, .int y0, .int y1, .int y2, .int y3, .int fv])] _
          refine Go.iload d0_411 rfl ?_
          refine Go.icmpF d0_413 (XT.ii_ne_f (by rw [own_e4 hz0 hz1 hz2 hz3, if_neg h368, if_neg h376, if_neg h384, if_neg h391])) ?_
          refine Go.iconst d0_416 (v := 1) rfl ?_
          refine Go.goto d0_417 j0_417 ?_
          exact Go.ireturnZ d0_421 rfl (by decide) rfl HOk.any
theorem go_t86 (K : Ctx) (hw : ∀ d ∈ tables_1, d.before K.2.2.1 K.2.1 = true) (x0 x1 x2 x3 x4 x5 ln a b0 b1 b2 b3 w12 : Int32) (hl : ln = 1 ∧ b0.toInt < 128 ∨ ln = 2 ∨ ln = 3 ∨ ln = 4) (ha : a = 0 ∨ a = 1 ∨ a = 2 ∨ a = 3) (c0 : own_B b0) (c1 : own_B b1) (c2 : own_B b2) (c3 : own_B b3) : Go K m0 4 112 86 [.val (.int x0), .val (.int x1), .val (.int x2), .val (.int x3), .val (.int x4), .val (.int x5), .val (.int ln), .val (.int a), .val (.int b0), .val (.int b1), .val (.int b2), .val (.int b3), .val (.int w12), .unset, .unset, .unset, .unset, .unset, .unset] [] [] (some (.int 1), none, 16, 128) := by
  rcases hl with ⟨rfl, hb⟩ | rfl | rfl | rfl <;> rcases ha with rfl | rfl | rfl | rfl
  · exact go_t86_1_0 K hw _ _ _ _ _ _ _ _ _ _ _ _ _ _ _ _ rfl rfl rfl rfl rfl (own_z1 c0 hb) (own_zz c1) (own_zz c2) (own_zz c3)
  · exact go_t86_1_1 K hw _ _ _ _ _ _ _ _ _ _ _ _ _ _ _ _ rfl rfl rfl rfl rfl (own_z1 c0 hb) (own_zz c1) (own_zz c2) (own_zz c3)
  · exact go_t86_1_2 K hw _ _ _ _ _ _ _ _ _ _ _ _ _ _ _ _ rfl rfl rfl rfl rfl (own_z1 c0 hb) (own_zz c1) (own_zz c2) (own_zz c3)
  · exact go_t86_1_3 K hw _ _ _ _ _ _ _ _ _ _ _ _ _ _ _ _ rfl rfl rfl rfl rfl (own_z1 c0 hb) (own_zz c1) (own_zz c2) (own_zz c3)
  · exact go_t86_2_0 K hw _ _ _ _ _ _ _ _ _ _ _ _ _ _ _ _ rfl rfl rfl rfl rfl (own_z2 c0) (own_zz c1) (own_zz c2) (own_zz c3)
  · exact go_t86_2_1 K hw _ _ _ _ _ _ _ _ _ _ _ _ _ _ _ _ rfl rfl rfl rfl rfl (own_z2 c0) (own_zz c1) (own_zz c2) (own_zz c3)
  · exact go_t86_2_2 K hw _ _ _ _ _ _ _ _ _ _ _ _ _ _ _ _ rfl rfl rfl rfl rfl (own_z2 c0) (own_zz c1) (own_zz c2) (own_zz c3)
  · exact go_t86_2_3 K hw _ _ _ _ _ _ _ _ _ _ _ _ _ _ _ _ rfl rfl rfl rfl rfl (own_z2 c0) (own_zz c1) (own_zz c2) (own_zz c3)
  · exact go_t86_3_0 K hw _ _ _ _ _ _ _ _ _ _ _ _ _ _ _ _ rfl rfl rfl rfl rfl (own_z3 c0) (own_zz c1) (own_zz c2) (own_zz c3)
  · exact go_t86_3_1 K hw _ _ _ _ _ _ _ _ _ _ _ _ _ _ _ _ rfl rfl rfl rfl rfl (own_z3 c0) (own_zz c1) (own_zz c2) (own_zz c3)
  · exact go_t86_3_2 K hw _ _ _ _ _ _ _ _ _ _ _ _ _ _ _ _ rfl rfl rfl rfl rfl (own_z3 c0) (own_zz c1) (own_zz c2) (own_zz c3)
  · exact go_t86_3_3 K hw _ _ _ _ _ _ _ _ _ _ _ _ _ _ _ _ rfl rfl rfl rfl rfl (own_z3 c0) (own_zz c1) (own_zz c2) (own_zz c3)
  · exact go_t86_4_0 K hw _ _ _ _ _ _ _ _ _ _ _ _ _ _ _ _ rfl rfl rfl rfl rfl (own_z4 c0) (own_zz c1) (own_zz c2) (own_zz c3)
  · exact go_t86_4_1 K hw _ _ _ _ _ _ _ _ _ _ _ _ _ _ _ _ rfl rfl rfl rfl rfl (own_z4 c0) (own_zz c1) (own_zz c2) (own_zz c3)
  · exact go_t86_4_2 K hw _ _ _ _ _ _ _ _ _ _ _ _ _ _ _ _ rfl rfl rfl rfl rfl (own_z4 c0) (own_zz c1) (own_zz c2) (own_zz c3)
  · exact go_t86_4_3 K hw _ _ _ _ _ _ _ _ _ _ _ _ _ _ _ _ rfl rfl rfl rfl rfl (own_z4 c0) (own_zz c1) (own_zz c2) (own_zz c3)
theorem go_t60 (K : Ctx) (hw : ∀ d ∈ tables_1, d.before K.2.2.1 K.2.1 = true) (x0 x1 x2 x3 x4 x5 ln a b0 b1 b2 : Int32) (hl : ln = 1 ∧ b0.toInt < 128 ∨ ln = 2 ∨ ln = 3 ∨ ln = 4) (ha : a = 0 ∨ a = 1 ∨ a = 2 ∨ a = 3) (c0 : own_B b0) (c1 : own_B b1) (c2 : own_B b2) : Go K m0 4 112 60 [.val (.int x0), .val (.int x1), .val (.int x2), .val (.int x3), .val (.int x4), .val (.int x5), .val (.int ln), .val (.int a), .val (.int b0), .val (.int b1), .val (.int b2), .unset, .unset, .unset, .unset, .unset, .unset, .unset, .unset] [] [] (some (.int 1), none, 16, 128) := by
  refine Go.iload d0_60 rfl ?_
  refine Go.iloadN d0_62 rfl ?_
  refine Go.bipush d0_63 (v := 6) rfl ?_
  refine Go.iushr d0_65 ?_
  refine Go.iconst d0_66 (v := 1) rfl ?_
  refine Go.iand d0_67 ?_
  refine Go.if_eq d0_68 j0_68 (fun h68 => ?_) (fun h68 => ?_)
  · -- pc 68 taken
    refine Go.iconst d0_75 (v := 0) rfl ?_
    refine Go.callS (M' := m2) d0_76 (hw _ (List.mem_of_getElem? (i := 4) rfl)) (hw _ (List.mem_of_getElem? (i := 5) rfl)) (hw _ (List.mem_of_getElem? (i := 2) rfl)) (hw _ (List.mem_of_getElem? (i := 6) rfl)) mi2 (as := [.int x4, .int 0]) rfl rfl (st := []) rfl (ls1 := [.val (.int x4), .val (.int 0)]) rfl (W := 0) rfl (by decide) (by decide) (go_own_ct K hw x4 0 _) 16 128 (by decide) (by decide) ?_
    show Go _ _ _ _ 79 [.val (.int x0), .val (.int x1), .val (.int x2), .val (.int x3), .val (.int x4), .val (.int x5), .val (.int ln), .val (.int a), .val (.int b0), .val (.int b1), .val (.int b2), .unset, .unset, .unset, .unset, .unset, .unset, .unset, .unset] [.int (own_ct x4 0)] [] _
    refine Go.istore d0_79 (ls' := [.val (.int x0), .val (.int x1), .val (.int x2), .val (.int x3), .val (.int x4), .val (.int x5), .val (.int ln), .val (.int a), .val (.int b0), .val (.int b1), .val (.int b2), .val (.int (own_ct x4 0)), .unset, .unset, .unset, .unset, .unset, .unset, .unset]) rfl ?_
    refine Go.iload d0_81 rfl ?_
    refine Go.i2b d0_83 ?_
    refine Go.istore d0_84 (ls' := [.val (.int x0), .val (.int x1), .val (.int x2), .val (.int x3), .val (.int x4), .val (.int x5), .val (.int ln), .val (.int a), .val (.int b0), .val (.int b1), .val (.int b2), .val (.int (own_ct x4 0)), .val (.int ((Int32.toInt8 x5).toInt32)), .unset, .unset, .unset, .unset, .unset, .unset]) rfl ?_
    exact go_t86 K hw _ _ _ _ _ _ _ _ _ _ _ _ _ hl ha c0 c1 c2 (own_ctB _ _)
  · -- pc 68 not taken
    refine Go.iconst d0_71 (v := 1) rfl ?_
    refine Go.goto d0_72 j0_72 ?_
    refine Go.callS (M' := m2) d0_76 (hw _ (List.mem_of_getElem? (i := 4) rfl)) (hw _ (List.mem_of_getElem? (i := 5) rfl)) (hw _ (List.mem_of_getElem? (i := 2) rfl)) (hw _ (List.mem_of_getElem? (i := 6) rfl)) mi2 (as := [.int x4, .int 1]) rfl rfl (st := []) rfl (ls1 := [.val (.int x4), .val (.int 1)]) rfl (W := 0) rfl (by decide) (by decide) (go_own_ct K hw x4 1 _) 16 128 (by decide) (by decide) ?_
    show Go _ _ _ _ 79 [.val (.int x0), .val (.int x1), .val (.int x2), .val (.int x3), .val (.int x4), .val (.int x5), .val (.int ln), .val (.int a), .val (.int b0), .val (.int b1), .val (.int b2), .unset, .unset, .unset, .unset, .unset, .unset, .unset, .unset] [.int (own_ct x4 1)] [] _
    refine Go.istore d0_79 (ls' := [.val (.int x0), .val (.int x1), .val (.int x2), .val (.int x3), .val (.int x4), .val (.int x5), .val (.int ln), .val (.int a), .val (.int b0), .val (.int b1), .val (.int b2), .val (.int (own_ct x4 1)), .unset, .unset, .unset, .unset, .unset, .unset, .unset]) rfl ?_
    refine Go.iload d0_81 rfl ?_
    refine Go.i2b d0_83 ?_
    refine Go.istore d0_84 (ls' := [.val (.int x0), .val (.int x1), .val (.int x2), .val (.int x3), .val (.int x4), .val (.int x5), .val (.int ln), .val (.int a), .val (.int b0), .val (.int b1), .val (.int b2), .val (.int (own_ct x4 1)), .val (.int ((Int32.toInt8 x5).toInt32)), .unset, .unset, .unset, .unset, .unset, .unset]) rfl ?_
    exact go_t86 K hw _ _ _ _ _ _ _ _ _ _ _ _ _ hl ha c0 c1 c2 (own_ctB _ _)
theorem go_t41 (K : Ctx) (hw : ∀ d ∈ tables_1, d.before K.2.2.1 K.2.1 = true) (x0 x1 x2 x3 x4 x5 ln a b0 b1 : Int32) (hl : ln = 1 ∧ b0.toInt < 128 ∨ ln = 2 ∨ ln = 3 ∨ ln = 4) (ha : a = 0 ∨ a = 1 ∨ a = 2 ∨ a = 3) (c0 : own_B b0) (c1 : own_B b1) : Go K m0 4 112 41 [.val (.int x0), .val (.int x1), .val (.int x2), .val (.int x3), .val (.int x4), .val (.int x5), .val (.int ln), .val (.int a), .val (.int b0), .val (.int b1), .unset, .unset, .unset, .unset, .unset, .unset, .unset, .unset, .unset] [] [] (some (.int 1), none, 16, 128) := by
  refine Go.iloadN d0_41 rfl ?_
  refine Go.iloadN d0_42 rfl ?_
  refine Go.iconst d0_43 (v := 5) rfl ?_
  refine Go.iushr d0_44 ?_
  refine Go.iconst d0_45 (v := 1) rfl ?_
  refine Go.iand d0_46 ?_
  refine Go.if_eq d0_47 j0_47 (fun h47 => ?_) (fun h47 => ?_)
  · -- pc 47 taken
    refine Go.iconst d0_54 (v := 0) rfl ?_
    refine Go.callS (M' := m2) d0_55 (hw _ (List.mem_of_getElem? (i := 4) rfl)) (hw _ (List.mem_of_getElem? (i := 5) rfl)) (hw _ (List.mem_of_getElem? (i := 2) rfl)) (hw _ (List.mem_of_getElem? (i := 6) rfl)) mi2 (as := [.int x3, .int 0]) rfl rfl (st := []) rfl (ls1 := [.val (.int x3), .val (.int 0)]) rfl (W := 0) rfl (by decide) (by decide) (go_own_ct K hw x3 0 _) 16 128 (by decide) (by decide) ?_
    show Go _ _ _ _ 58 [.val (.int x0), .val (.int x1), .val (.int x2), .val (.int x3), .val (.int x4), .val (.int x5), .val (.int ln), .val (.int a), .val (.int b0), .val (.int b1), .unset, .unset, .unset, .unset, .unset, .unset, .unset, .unset, .unset] [.int (own_ct x3 0)] [] _
    refine Go.istore d0_58 (ls' := [.val (.int x0), .val (.int x1), .val (.int x2), .val (.int x3), .val (.int x4), .val (.int x5), .val (.int ln), .val (.int a), .val (.int b0), .val (.int b1), .val (.int (own_ct x3 0)), .unset, .unset, .unset, .unset, .unset, .unset, .unset, .unset]) rfl ?_
    exact go_t60 K hw _ _ _ _ _ _ _ _ _ _ _ hl ha c0 c1 (own_ctB _ _)
  · -- pc 47 not taken
    refine Go.iconst d0_50 (v := 1) rfl ?_
    refine Go.goto d0_51 j0_51 ?_
    refine Go.callS (M' := m2) d0_55 (hw _ (List.mem_of_getElem? (i := 4) rfl)) (hw _ (List.mem_of_getElem? (i := 5) rfl)) (hw _ (List.mem_of_getElem? (i := 2) rfl)) (hw _ (List.mem_of_getElem? (i := 6) rfl)) mi2 (as := [.int x3, .int 1]) rfl rfl (st := []) rfl (ls1 := [.val (.int x3), .val (.int 1)]) rfl (W := 0) rfl (by decide) (by decide) (go_own_ct K hw x3 1 _) 16 128 (by decide) (by decide) ?_
    show Go _ _ _ _ 58 [.val (.int x0), .val (.int x1), .val (.int x2), .val (.int x3), .val (.int x4), .val (.int x5), .val (.int ln), .val (.int a), .val (.int b0), .val (.int b1), .unset, .unset, .unset, .unset, .unset, .unset, .unset, .unset, .unset] [.int (own_ct x3 1)] [] _
    refine Go.istore d0_58 (ls' := [.val (.int x0), .val (.int x1), .val (.int x2), .val (.int x3), .val (.int x4), .val (.int x5), .val (.int ln), .val (.int a), .val (.int b0), .val (.int b1), .val (.int (own_ct x3 1)), .unset, .unset, .unset, .unset, .unset, .unset, .unset, .unset]) rfl ?_
    exact go_t60 K hw _ _ _ _ _ _ _ _ _ _ _ hl ha c0 c1 (own_ctB _ _)
theorem go_law (K : Ctx) (hw : ∀ d ∈ tables_1, d.before K.2.2.1 K.2.1 = true) (x0 : Int32) (x1 : Int32) (x2 : Int32) (x3 : Int32) (x4 : Int32) (x5 : Int32) : Go K m0 4 112 0 [.val (.int x0), .val (.int x1), .val (.int x2), .val (.int x3), .val (.int x4), .val (.int x5), .unset, .unset, .unset, .unset, .unset, .unset, .unset, .unset, .unset, .unset, .unset, .unset, .unset] [] [] (some (.int 1), none, 16, 128) := by
  refine Go.iloadN d0_0 rfl ?_
  refine Go.iconst d0_1 (v := 3) rfl ?_
  refine Go.iand d0_2 ?_
  refine Go.iconst d0_3 (v := 1) rfl ?_
  refine Go.iadd d0_4 ?_
  refine Go.istore d0_5 (ls' := [.val (.int x0), .val (.int x1), .val (.int x2), .val (.int x3), .val (.int x4), .val (.int x5), .val (.int ((x0 &&& 3) + 1)), .unset, .unset, .unset, .unset, .unset, .unset, .unset, .unset, .unset, .unset, .unset, .unset]) rfl ?_
  refine Go.iloadN d0_7 rfl ?_
  refine Go.iconst d0_8 (v := 2) rfl ?_
  refine Go.iushr d0_9 ?_
  refine Go.iconst d0_10 (v := 3) rfl ?_
  refine Go.iand d0_11 ?_
  refine Go.istore d0_12 (ls' := [.val (.int x0), .val (.int x1), .val (.int x2), .val (.int x3), .val (.int x4), .val (.int x5), .val (.int ((x0 &&& 3) + 1)), .val (.int ((XT.ushr x0 2) &&& 3)), .unset, .unset, .unset, .unset, .unset, .unset, .unset, .unset, .unset, .unset, .unset]) rfl ?_
  refine Go.iload d0_14 rfl ?_
  refine Go.iloadN d0_16 rfl ?_
  refine Go.callS (M' := m1) d0_17 (hw _ (List.mem_of_getElem? (i := 0) rfl)) (hw _ (List.mem_of_getElem? (i := 1) rfl)) (hw _ (List.mem_of_getElem? (i := 2) rfl)) (hw _ (List.mem_of_getElem? (i := 3) rfl)) mi1 (as := [.int ((x0 &&& 3) + 1), .int x1]) rfl rfl (st := []) rfl (ls1 := [.val (.int ((x0 &&& 3) + 1)), .val (.int x1), .unset]) rfl (W := 0) rfl (by decide) (by decide) (go_own_fb K hw ((x0 &&& 3) + 1) x1 _) 16 128 (by decide) (by decide) ?_
  show Go _ _ _ _ 20 [.val (.int x0), .val (.int x1), .val (.int x2), .val (.int x3), .val (.int x4), .val (.int x5), .val (.int ((x0 &&& 3) + 1)), .val (.int ((XT.ushr x0 2) &&& 3)), .unset, .unset, .unset, .unset, .unset, .unset, .unset, .unset, .unset, .unset, .unset] [.int (own_fb ((x0 &&& 3) + 1) x1)] [] _
  refine Go.istore d0_20 (ls' := [.val (.int x0), .val (.int x1), .val (.int x2), .val (.int x3), .val (.int x4), .val (.int x5), .val (.int ((x0 &&& 3) + 1)), .val (.int ((XT.ushr x0 2) &&& 3)), .val (.int (own_fb ((x0 &&& 3) + 1) x1)), .unset, .unset, .unset, .unset, .unset, .unset, .unset, .unset, .unset, .unset]) rfl ?_
  refine Go.iloadN d0_22 rfl ?_
  refine Go.iloadN d0_23 rfl ?_
  refine Go.iconst d0_24 (v := 4) rfl ?_
  refine Go.iushr d0_25 ?_
  refine Go.iconst d0_26 (v := 1) rfl ?_
  refine Go.iand d0_27 ?_
  refine Go.if_eq d0_28 j0_28 (fun h28 => ?_) (fun h28 => ?_)
  · -- pc 28 taken
    refine Go.iconst d0_35 (v := 0) rfl ?_
    refine Go.callS (M' := m2) d0_36 (hw _ (List.mem_of_getElem? (i := 4) rfl)) (hw _ (List.mem_of_getElem? (i := 5) rfl)) (hw _ (List.mem_of_getElem? (i := 2) rfl)) (hw _ (List.mem_of_getElem? (i := 6) rfl)) mi2 (as := [.int x2, .int 0]) rfl rfl (st := []) rfl (ls1 := [.val (.int x2), .val (.int 0)]) rfl (W := 0) rfl (by decide) (by decide) (go_own_ct K hw x2 0 _) 16 128 (by decide) (by decide) ?_
    show Go _ _ _ _ 39 [.val (.int x0), .val (.int x1), .val (.int x2), .val (.int x3), .val (.int x4), .val (.int x5), .val (.int ((x0 &&& 3) + 1)), .val (.int ((XT.ushr x0 2) &&& 3)), .val (.int (own_fb ((x0 &&& 3) + 1) x1)), .unset, .unset, .unset, .unset, .unset, .unset, .unset, .unset, .unset, .unset] [.int (own_ct x2 0)] [] _
    refine Go.istore d0_39 (ls' := [.val (.int x0), .val (.int x1), .val (.int x2), .val (.int x3), .val (.int x4), .val (.int x5), .val (.int ((x0 &&& 3) + 1)), .val (.int ((XT.ushr x0 2) &&& 3)), .val (.int (own_fb ((x0 &&& 3) + 1) x1)), .val (.int (own_ct x2 0)), .unset, .unset, .unset, .unset, .unset, .unset, .unset, .unset, .unset]) rfl ?_
    exact go_t41 K hw _ _ _ _ _ _ _ _ _ _ (own_len x0 x1) (own_at x0) (own_fbB x0 x1) (own_ctB _ _)
  · -- pc 28 not taken
    refine Go.iconst d0_31 (v := 1) rfl ?_
    refine Go.goto d0_32 j0_32 ?_
    refine Go.callS (M' := m2) d0_36 (hw _ (List.mem_of_getElem? (i := 4) rfl)) (hw _ (List.mem_of_getElem? (i := 5) rfl)) (hw _ (List.mem_of_getElem? (i := 2) rfl)) (hw _ (List.mem_of_getElem? (i := 6) rfl)) mi2 (as := [.int x2, .int 1]) rfl rfl (st := []) rfl (ls1 := [.val (.int x2), .val (.int 1)]) rfl (W := 0) rfl (by decide) (by decide) (go_own_ct K hw x2 1 _) 16 128 (by decide) (by decide) ?_
    show Go _ _ _ _ 39 [.val (.int x0), .val (.int x1), .val (.int x2), .val (.int x3), .val (.int x4), .val (.int x5), .val (.int ((x0 &&& 3) + 1)), .val (.int ((XT.ushr x0 2) &&& 3)), .val (.int (own_fb ((x0 &&& 3) + 1) x1)), .unset, .unset, .unset, .unset, .unset, .unset, .unset, .unset, .unset, .unset] [.int (own_ct x2 1)] [] _
    refine Go.istore d0_39 (ls' := [.val (.int x0), .val (.int x1), .val (.int x2), .val (.int x3), .val (.int x4), .val (.int x5), .val (.int ((x0 &&& 3) + 1)), .val (.int ((XT.ushr x0 2) &&& 3)), .val (.int (own_fb ((x0 &&& 3) + 1) x1)), .val (.int (own_ct x2 1)), .unset, .unset, .unset, .unset, .unset, .unset, .unset, .unset, .unset]) rfl ?_
    exact go_t41 K hw _ _ _ _ _ _ _ _ _ _ (own_len x0 x1) (own_at x0) (own_fbB x0 x1) (own_ctB _ _)
set_option maxRecDepth 65536 in
set_option maxHeartbeats 40000000 in
theorem comes_1 {Post : Tables → Env → Array Value → State → Outcome → State → Prop} (hpost : ∀ tb e args s v u, (limb_1_1.after args s (.returned v) u = true ∧ limb_1_2.after args s (.returned v) u = true ∧ True) → FrameEnd s (.returned v) u (Jvm.fieldLocs frame_1_writes args s ++ Jvm.arrayLocs frame_1_arrays args s ++ Jvm.staticLocs frame_1_statics s) 16 128 → Post tb e args s (.returned v) u) :
    ArmFor flags0 classFile x code maxLocals ret World_1 tables_1 room_1 Calls_1 rest_1 Pre_1 Post := by
  intro l hfl _ _ p e ha hc hk s m args below hf hA hF happ hP
  obtain ⟨hcalls, hrest, hpre⟩ := hP
  obtain ⟨-, -, -, hnamed, -, -, -, hat⟩ := (Spec.applies_iff hf).mp happ
  obtain ⟨hg, hn⟩ := and_e (Cond.before_iff.mp (show (Jvm.Cond.and given_1 narrow_1).before args s = true from hpre))
  obtain ⟨h1, g0⟩ := and_e hg
  obtain ⟨w0, w1, w2, w3, w4, w5, rfl⟩ : ∃ w0 w1 w2 w3 w4 w5 : Value, args = #[w0, w1, w2, w3, w4, w5] := by
    have hs : args.size = 6 := by simpa [Cond.value, given_1] using h1
    obtain ⟨L⟩ := args
    match L, hs with
    | [w0, w1, w2, w3, w4, w5], _ => exact ⟨w0, w1, w2, w3, w4, w5, rfl⟩
  have hw := fun d (hd : d ∈ tables_1) => atoms_spec (ws := Jvm.Cond.code x code maxLocals ret :: tables_1) hat d (List.mem_cons_of_mem _ hd)
  obtain ⟨q0, g1⟩ := and_e g0
  obtain ⟨i0, e0⟩ := is_v q0
  obtain rfl : w0 = (.int i0) := Option.some.inj e0
  obtain ⟨q1, g2⟩ := and_e g1
  obtain ⟨i1, e1⟩ := is_v q1
  obtain rfl : w1 = (.int i1) := Option.some.inj e1
  obtain ⟨q2, g3⟩ := and_e g2
  obtain ⟨i2, e2⟩ := is_v q2
  obtain rfl : w2 = (.int i2) := Option.some.inj e2
  obtain ⟨q3, g4⟩ := and_e g3
  obtain ⟨i3, e3⟩ := is_v q3
  obtain rfl : w3 = (.int i3) := Option.some.inj e3
  obtain ⟨q4, g5⟩ := and_e g4
  obtain ⟨i4, e4⟩ := is_v q4
  obtain rfl : w4 = (.int i4) := Option.some.inj e4
  obtain ⟨i5, e5⟩ := is_v g5
  obtain rfl : w5 = (.int i5) := Option.some.inj e5
  have gl := go_law (l, s, _, s.heap.size) hw i0 i1 i2 i3 i4 i5
  obtain ⟨n, o, h1, h2, h3, _, L, rfl, ⟨rfl, -, N⟩, hq⟩ := Go.met (K := (l, s, _, s.heap.size)) (M := m0) (as := [.int i0, .int i1, .int i2, .int i3, .int i4, .int i5]) (ws := tables_1) (rm := room_1) (rv := some (.int 1)) (h := s.heap) (H := []) (by decide +kernel) ⟨rfl, fun i o h => by simp at h⟩ rfl gl p e ha hc hk s m _ below hf ((Spec.applies_iff_loose hf).mp happ).1 ⟨rfl, State.Warmed39.refl s, rfl⟩ trivial
  refine ⟨n, _, h1, h2, h3, hpost _ _ _ _ _ _ ⟨Cond.after_iff.mpr rfl, Cond.after_iff.mpr (eq_i res_at (Term.int_eval (1)) rfl), trivial⟩ ⟨hq.1, hq.2.1, (hq.2.2.sift fun y hy => Or.inr (N y hy)).mono (by decide) (by decide)⟩⟩
theorem main_1_1 : Claimed_1_1 := comes_1 fun _ _ _ _ _ _ h hF => ⟨h.1, hF⟩
theorem main_1_2 : Claimed_1_2 := comes_1 fun _ _ _ _ _ _ h hF => ⟨h.2.1, hF⟩
end Jvm.Pilot.@@N@@
namespace Jvm.Pilot.@@N@@
open Jvm Jvm.ClassFile Sem Op Lib Jvm.Free Jvm.Stand Jvm.Pilot.@@N@@.Jvm.D
/-! MADE BY PROGRAM (witnessworld.py) out of the Statement's table words and the real class files: 9 classes; the members and pool entries that the words name. The judged class is class 1, her method 4. -/
namespace start1
open Jvm.ClassFile
def u (s : String) : CpInfo := .utf8 (stringToUtf16 s)
/-- a pool by its gaps: so many unusable entries, then the entry; so many at the end -/
def gap : Nat → List CpInfo → List CpInfo
  | 0, r => r
  | n + 1, r => .unusable :: gap n r
def poolList (es : List (Nat × CpInfo)) (last : Nat) : List CpInfo := es.foldr (fun e r => gap e.1 (e.2 :: r)) (gap last [])
def pool (es : List (Nat × CpInfo)) (last : Nat) : Array CpInfo := ⟨poolList es last⟩
def fileOf (pool : Array CpInfo) (this : Nat) (attrs : Array Attribute := #[]) (ms : Array MethodInfo := #[]) (fl : Nat := 33) (sup : Nat := 0) (ifs : Array Nat := #[]) (fds : Array FieldInfo := #[]) : ClassFile where
  minorVersion := 0
  majorVersion := 65
  constantPool := pool
  accessFlags := fl
  thisClass := this
  superClass := sup
  interfaces := ifs
  fields := fds
  methods := ms
  attributes := attrs
def plain (name : String) (sup : Option ClassId) : Class where
  name := name
  kind := .ordinary
  loader := none
  accessFlags := 33
  super := sup
  interfaces := #[]
  cf := none
  fields := #[]
  methods := #[]
  instanceTypes := #[]
  staticTypes := #[]
  resolved := #[]
  callSites := []
  init := .initialized
  statics := none
  mirror := none

def pool0 : Array CpInfo := pool [(5, u "<init>"), (0, u "()V"), (1, .class_ 10), (1, u "java/lang/Object")] 113

def k0m0 : Method := { name := "<init>", desc := "()V", sig := { parameters := [], returnType := none }, accessFlags := 1, code := none }
/-- java/lang/Object -/
def k0 : Class := { plain "java/lang/Object" none with
  accessFlags := 33
  interfaces := #[]
  cf := some (fileOf pool0 8 #[] #[{ accessFlags := 1, nameIndex := 5, descriptorIndex := 6, attributes := #[] }] 33 0 #[] #[])
  fields := #[]
  methods := #[k0m0]
  instanceTypes := #[]
  staticTypes := #[]
  resolved := Array.replicate 124 none
  statics := none }

def pool1 : Array CpInfo := pool [(2, .class_ 4), (1, u "java/lang/Object"), (0, u "<init>"), (0, u "()V"), (0, .methodref 8 9), (0, .class_ 10), (0, .nameAndType 11 12), (0, u "com/example/psvi/psvi/xml/Utf8CodePointPinLaw"), (0, u "firstByte"), (0, u "(II)I"), (0, .methodref 8 14), (0, .nameAndType 15 16), (0, u "cont"), (0, u "(IZ)I"), (0, .methodref 8 18), (0, .nameAndType 19 20), (0, u "isCont"), (0, u "(I)Z"), (0, .integer 65536), (0, .methodref 23 24), (0, .class_ 25), (0, .nameAndType 26 27), (0, u "com/example/psvi/psvi/xml/Utf8"), (0, u "codePoint"), (0, u "([BII)I"), (3, u "law"), (0, u "(IIIIII)Z")] 4

def k1m0 : Method := { name := "<init>", desc := "()V", sig := { parameters := [], returnType := none }, accessFlags := 2, code := none }
def k1c1 : Code := { maxStack := 3, maxLocals := 2, code := method_2_code, exceptionTable := #[], attributes := #[] }
def k1m1 : Method := { name := "cont", desc := "(IZ)I", sig := { parameters := [.int, .boolean], returnType := some .int }, accessFlags := 10, code := some k1c1 }
def k1c2 : Code := { maxStack := 2, maxLocals := 1, code := method_3_code, exceptionTable := #[], attributes := #[] }
def k1m2 : Method := { name := "isCont", desc := "(I)Z", sig := { parameters := [.int], returnType := some .boolean }, accessFlags := 10, code := some k1c2 }
def k1c3 : Code := { maxStack := 3, maxLocals := 3, code := method_4_code, exceptionTable := #[], attributes := #[] }
def k1m3 : Method := { name := "firstByte", desc := "(II)I", sig := { parameters := [.int, .int], returnType := some .int }, accessFlags := 10, code := some k1c3 }
def k1c4 : Code := { maxStack := 3, maxLocals := 19, code := code, exceptionTable := #[], attributes := #[] }
def k1m4 : Method := { name := "law", desc := "(IIIIII)Z", sig := { parameters := [.int, .int, .int, .int, .int, .int], returnType := some .boolean }, accessFlags := 9, code := some k1c4 }
/-- com/example/psvi/psvi/xml/Utf8CodePointPinLaw -/
def k1 : Class := { plain "com/example/psvi/psvi/xml/Utf8CodePointPinLaw" (some 0) with
  accessFlags := 49
  interfaces := #[]
  cf := some (fileOf pool1 8 #[] #[{ accessFlags := 2, nameIndex := 5, descriptorIndex := 6, attributes := #[] }, { accessFlags := 10, nameIndex := 15, descriptorIndex := 16, attributes := #[] }, { accessFlags := 10, nameIndex := 19, descriptorIndex := 20, attributes := #[] }, { accessFlags := 10, nameIndex := 11, descriptorIndex := 12, attributes := #[] }, { accessFlags := 9, nameIndex := 31, descriptorIndex := 32, attributes := #[] }] 49 2 #[] #[])
  fields := #[]
  methods := #[k1m0, k1m1, k1m2, k1m3, k1m4]
  instanceTypes := #[]
  staticTypes := #[]
  resolved := Array.replicate 37 none
  statics := none }

def pool2 : Array CpInfo := pool [(2, .class_ 4), (1, u "java/lang/Object"), (0, u "<init>"), (0, u "()V"), (2, .integer 65536), (0, .class_ 11), (0, u "com/example/psvi/psvi/xml/Utf8"), (5, u "codePoint"), (0, u "([BII)I")] 2

def k2m0 : Method := { name := "<init>", desc := "()V", sig := { parameters := [], returnType := none }, accessFlags := 2, code := none }
def k2c1 : Code := { maxStack := 3, maxLocals := 7, code := prog_208_method_3_code, exceptionTable := #[], attributes := #[] }
def k2m1 : Method := { name := "codePoint", desc := "([BII)I", sig := { parameters := [(.array .byte), .int, .int], returnType := some .int }, accessFlags := 8, code := some k2c1 }
/-- com/example/psvi/psvi/xml/Utf8 -/
def k2 : Class := { plain "com/example/psvi/psvi/xml/Utf8" (some 0) with
  accessFlags := 32
  interfaces := #[]
  cf := some (fileOf pool2 10 #[] #[{ accessFlags := 2, nameIndex := 5, descriptorIndex := 6, attributes := #[] }, { accessFlags := 8, nameIndex := 17, descriptorIndex := 18, attributes := #[] }] 32 2 #[] #[])
  fields := #[]
  methods := #[k2m0, k2m1]
  instanceTypes := #[]
  staticTypes := #[]
  resolved := Array.replicate 21 none
  statics := none }

def pool3 : Array CpInfo := pool [(1, u "java/lang/Cloneable"), (0, .class_ 1), (0, u "java/lang/Object"), (0, .class_ 3)] 3

/-- java/lang/Cloneable -/
def k3 : Class := { plain "java/lang/Cloneable" (some 0) with
  accessFlags := 1537
  interfaces := #[]
  cf := some (fileOf pool3 2 #[] #[] 1537 4 #[] #[])
  fields := #[]
  methods := #[]
  instanceTypes := #[]
  staticTypes := #[]
  resolved := Array.replicate 8 none
  statics := none }

def pool4 : Array CpInfo := pool [(1, u "java/io/Serializable"), (0, .class_ 1), (0, u "java/lang/Object"), (0, .class_ 3)] 3

/-- java/io/Serializable -/
def k4 : Class := { plain "java/io/Serializable" (some 0) with
  accessFlags := 1537
  interfaces := #[]
  cf := some (fileOf pool4 2 #[] #[] 1537 4 #[] #[])
  fields := #[]
  methods := #[]
  instanceTypes := #[]
  staticTypes := #[]
  resolved := Array.replicate 8 none
  statics := none }

/-- the primitive byte -/
def k5 : Class := { plain "byte" none with kind := .primitive 'B', accessFlags := 0x411 }
/-- [B -/
def k6 : Class := { plain "[B" (some 0) with kind := .array 5 .byte, interfaces := #[3, 4], accessFlags := 1041 }

/-- the primitive int -/
def k7 : Class := { plain "int" none with kind := .primitive 'I', accessFlags := 0x411 }
/-- [I -/
def k8 : Class := { plain "[I" (some 0) with kind := .array 7 .int, interfaces := #[3, 4], accessFlags := 1041 }

def heap : Heap := #[]
def classes : Array Class := #[k0, k1, k2, k3, k4, k5, k6, k7, k8]
def interned : List (Array UInt16 × Addr) := []
def slotsUsed : Nat := 0
def theMethod : MethodId := ⟨1, 4⟩
def args0 : Array Value := #[.int 5, .int 7, .int 6, .int 2, .int 3, .int 4]
def aboutOver (below : List Frame) : State where
  vm := { classes := classes, interned := interned.toArray }
  heap := heap
  slotsUsed := slotsUsed
  threads := #[{ frames := .invoking theMethod args0 :: below }]
def below0 : List Frame := [.native { method := ⟨0, 0⟩, args := #[] }]
def about1 : State := aboutOver below0
def p0 : Program := .bare "" "" ""
def e0 : Env := launch0.env 0 0 0
theorem w_frames : about1.frames = Frame.invoking theMethod args0 :: below0 := rfl
set_option maxRecDepth 65536 in
theorem w_args : argsFit about1.vm theMethod args0 = true := by decide +kernel
set_option maxRecDepth 65536 in
theorem w_heap : heapFits about1 = true := by decide +kernel
set_option maxRecDepth 65536 in
theorem w_runnable : about1.curStatus? = some .runnable := by decide +kernel
set_option maxRecDepth 65536 in
theorem w_alone : about1.alone = true := by decide +kernel
set_option maxRecDepth 65536 in
theorem w_named : about1.methodNamed? x = some theMethod := by decide +kernel
set_option maxRecDepth 65536 in
theorem w_hears : about1.hears theMethod below0 = true := by decide +kernel
set_option maxRecDepth 65536 in
theorem w_ripe : about1.ripe theMethod args0 below0 = true := by decide +kernel
theorem w_running : about1.status = .running := rfl
set_option maxRecDepth 65536 in
theorem w_room : about1.hasRoom e0.platform room_1 = true :=
  launch0.hasRoom_least _ room_1 (by decide +kernel) (by decide +kernel) (by decide +kernel) (by decide +kernel) (by decide +kernel) (by decide +kernel)
theorem allAtoms_all (ts : List Jvm.Cond) (a : Array Jvm.Value) (st : Jvm.State) : (allAtoms ts).before a st = ts.all (fun c => c.before a st) := by
  induction ts with
  | nil => rfl
  | cons c t ih =>
    show (Jvm.Cond.and c (allAtoms t)).before a st = _
    rw [Jvm.Cond.before_and, ih, List.all_cons]
def words1 : List Jvm.Cond := Jvm.Cond.code x code maxLocals ret :: tables_1
/-- a 'code' word, met by the world's own term for the bytes: nothing is compared byte by byte -/
theorem code_word {y : MethodName} {bytes : ByteArray} {mx : Nat} {rt : Option FieldType} {a : Array Value} {s : State} {m : MethodId} {meth : Method} {c : Code} (h1 : s.methodNamed? y = some m) (h2 : s.vm.method? m = some meth) (h3 : meth.code = some c) (h4 : c.code = bytes)
    (h5 : (c.maxLocals == mx && c.exceptionTable.isEmpty && decide (c.maxStack ≤ mostOperands) && decide (meth.sig.returnType = rt) && !meth.locks && decide (parseMethodDescriptor y.desc = some meth.sig)) = true) : (Jvm.Cond.code y bytes mx rt).before a s = true := by
  simp only [Bool.and_eq_true, beq_iff_eq, Bool.not_eq_true', decide_eq_true_eq] at h5
  obtain ⟨⟨⟨⟨⟨g1, g2⟩, g3⟩, g4⟩, g5⟩, g6⟩ := h5
  simp [Cond.before, Cond.holds, Cond.value, h1, h2, h3, h4, g1, g2, g3, g4, g5, g6]
def isCode : Jvm.Cond → Bool
  | .code _ _ _ _ => true
  | _ => false
theorem all_split {L : List Jvm.Cond} {P : Jvm.Cond → Bool} (h1 : L.all (fun c => isCode c || P c) = true) (h2 : ∀ c ∈ L.filter isCode, P c = true) : L.all P = true := by
  refine List.all_eq_true.mpr fun c hc => ?_
  have h := List.all_eq_true.mp h1 c hc
  rcases Bool.eq_false_or_eq_true (isCode c) with hi | hi
  · exact h2 c (List.mem_filter.mpr ⟨hc, hi⟩)
  · simpa [hi] using h
set_option maxRecDepth 65536 in
theorem w_c0 : (Jvm.Cond.code x code maxLocals ret).before args0 about1 = true := code_word (m := ⟨1, 4⟩) (meth := k1m4) (c := k1c4) (by decide +kernel) rfl rfl rfl (by decide +kernel)
set_option maxRecDepth 65536 in
theorem w_c1 : (Jvm.Cond.code ({ cls := "com/example/psvi/psvi/xml/Utf8CodePointPinLaw", name := "firstByte", desc := "(II)I" } : Jvm.MethodName) method_4_code (3 : Nat) (Option.some Jvm.ClassFile.FieldType.int)).before args0 about1 = true := code_word (m := ⟨1, 3⟩) (meth := k1m3) (c := k1c3) (by decide +kernel) rfl rfl rfl (by decide +kernel)
set_option maxRecDepth 65536 in
theorem w_c2 : (Jvm.Cond.code ({ cls := "com/example/psvi/psvi/xml/Utf8CodePointPinLaw", name := "cont", desc := "(IZ)I" } : Jvm.MethodName) method_2_code (2 : Nat) (Option.some Jvm.ClassFile.FieldType.int)).before args0 about1 = true := code_word (m := ⟨1, 1⟩) (meth := k1m1) (c := k1c1) (by decide +kernel) rfl rfl rfl (by decide +kernel)
set_option maxRecDepth 65536 in
theorem w_c3 : (Jvm.Cond.code ({ cls := "com/example/psvi/psvi/xml/Utf8", name := "codePoint", desc := "([BII)I" } : Jvm.MethodName) prog_208_method_3_code (7 : Nat) (Option.some Jvm.ClassFile.FieldType.int)).before args0 about1 = true := code_word (m := ⟨2, 1⟩) (meth := k2m1) (c := k2c1) (by decide +kernel) rfl rfl rfl (by decide +kernel)
set_option maxRecDepth 65536 in
theorem w_c4 : (Jvm.Cond.code ({ cls := "com/example/psvi/psvi/xml/Utf8CodePointPinLaw", name := "isCont", desc := "(I)Z" } : Jvm.MethodName) method_3_code (1 : Nat) (Option.some Jvm.ClassFile.FieldType.boolean)).before args0 about1 = true := code_word (m := ⟨1, 2⟩) (meth := k1m2) (c := k1c2) (by decide +kernel) rfl rfl rfl (by decide +kernel)
def codes1 : List Jvm.Cond := [Jvm.Cond.code x code maxLocals ret, Jvm.Cond.code ({ cls := "com/example/psvi/psvi/xml/Utf8CodePointPinLaw", name := "firstByte", desc := "(II)I" } : Jvm.MethodName) method_4_code (3 : Nat) (Option.some Jvm.ClassFile.FieldType.int), Jvm.Cond.code ({ cls := "com/example/psvi/psvi/xml/Utf8CodePointPinLaw", name := "cont", desc := "(IZ)I" } : Jvm.MethodName) method_2_code (2 : Nat) (Option.some Jvm.ClassFile.FieldType.int), Jvm.Cond.code ({ cls := "com/example/psvi/psvi/xml/Utf8", name := "codePoint", desc := "([BII)I" } : Jvm.MethodName) prog_208_method_3_code (7 : Nat) (Option.some Jvm.ClassFile.FieldType.int), Jvm.Cond.code ({ cls := "com/example/psvi/psvi/xml/Utf8CodePointPinLaw", name := "isCont", desc := "(I)Z" } : Jvm.MethodName) method_3_code (1 : Nat) (Option.some Jvm.ClassFile.FieldType.boolean)]
set_option maxRecDepth 65536 in
theorem codes_eq : words1.filter isCode = codes1 := rfl
theorem w_codes : ∀ c ∈ words1.filter isCode, c.before args0 about1 = true := by
  rw [codes_eq]
  intro c hc
  simp only [codes1, List.mem_cons, List.not_mem_nil, or_false] at hc
  rcases hc with rfl | rfl | rfl | rfl | rfl
  · exact w_c0
  · exact w_c1
  · exact w_c2
  · exact w_c3
  · exact w_c4
set_option maxRecDepth 65536 in
theorem w_t1 : words1.all (fun c => isCode c || c.before args0 about1) = true := by decide +kernel
theorem w_tables : (allAtoms (Jvm.Cond.code x code maxLocals ret :: tables_1)).before args0 about1 = true := by
  rw [allAtoms_all]
  show words1.all (fun c => c.before args0 about1) = true
  refine all_split ?_ w_codes
  rw [w_t1]
set_option maxRecDepth 65536 in
theorem w_case : (Jvm.Cond.and given_1 narrow_1).before args0 about1 = true := by decide +kernel
theorem w_applies : (headSpec (Jvm.Cond.code x code maxLocals ret :: tables_1) room_1).applies x e0.platform about1 = true :=
  (Spec.applies_iff w_frames).mpr ⟨w_running, w_runnable, w_alone, w_named, w_hears, w_ripe, w_room, w_tables⟩
theorem atStart : AtStart classFile x code maxLocals ret World_1 tables_1 room_1 Calls_1 rest_1 Pre_1 launch0 p0 e0 about1 theMethod args0 below0 :=
  ⟨lists_1, trivial, launch0.admits_env _ _ _, launch0.least_env, fairChoices_fair.cas, fairChoices_fair.clock, w_frames, w_args, w_heap, w_applies, trivial, trivial, w_case⟩
end start1
theorem witness_1 : WitnessClaimed_1 := ⟨start1.p0, start1.e0, start1.about1, start1.theMethod, start1.args0, start1.below0, start1.atStart⟩
end Jvm.Pilot.@@N@@
