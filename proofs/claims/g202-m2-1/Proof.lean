import JvmDerived
import JvmDerived.Pilot.@@N@@Statement
import JvmDerived.Pilot.@@N@@Code
set_option linter.unusedVariables false
set_option linter.unusedSimpArgs false
@@BLOCK:NumsL.lean.txt@@
namespace Jvm.OwnGo
open Jvm Sem ClassFile Op Lib Jvm.Stand Jvm.Free Jvm.LawKit Jvm.RoadKit
/-! ## 1. plain values: a reference is a place in the list of the objects that the law has made -/
def sv (n0 : Nat) : Value → Value
  | .ref a => .ref (n0 + a)
  | .int x => .int x
  | .long x => .long x
  | .null => .null
  | .float x => .float x
  | .double x => .double x
  | .retAddr x => .retAddr x
def ss (n0 : Nat) : Slot → Slot
  | .val v => .val (sv n0 v)
  | .unset => .unset
  | .second => .second
abbrev Obj := (String × List (String × String × Value)) ⊕ (FieldType × List Value)
abbrev Hp := List Obj
abbrev Ctx := Launch × State × Array Value × Nat
abbrev Mt := MethodName × ByteArray × Nat × Option FieldType
abbrev Res := Option Value × Option Hp × Nat × Nat
abbrev LL (n0 : Nat) (ls : List Slot) : Array Slot := (ls.map (ss n0)).toArray
abbrev SS (n0 : Nat) (st : List Value) : List Value := st.map (sv n0)
theorem sv_cat (n0 : Nat) (v : Value) : (sv n0 v).category = v.category := by cases v <;> rfl
theorem sv_ref (n0 : Nat) (v : Value) : (sv n0 v).isRef = v.isRef := by cases v <;> rfl
theorem LL_get {n0 : Nat} {ls : List Slot} {k : Nat} {x : Slot} (h : ls[k]? = some x) : (LL n0 ls)[k]? = some (ss n0 x) := by simp [LL, h]
theorem LL_size (n0 : Nat) (ls : List Slot) : (LL n0 ls).size = ls.length := by simp [LL]
theorem cats (n0 : Nat) (st : List Value) : ((SS n0 st).map fun v => v.category).sum = (st.map fun v => v.category).sum := by
  induction st with
  | nil => rfl
  | cons v r ih => simp only [SS, List.map_cons, List.sum_cons, sv_cat] at ih ⊢; rw [ih]
/-! ## 2. what an object of the list is in the heap -/
def COk (Z : State) (a0 : Array Value) (n0 : Nat) (h : Heap) (a : Addr) : Obj → Prop
  | .inl o => Exa Z h a o.1 ∧ (o.2.map (fun f => f.1)).Nodup ∧ ∀ f ∈ o.2, Laid Z a0 o.1 o.1 f.1 f.2.1 ∧ (∃ ty, parseFieldDescriptor f.2.1 = some ty) ∧ Fld Z h a o.1 f.1 f.2.1 (sv n0 f.2.2)
  | .inr o => ∃ c : Cell, Arr Z h a c o.1 ∧ c.slots = (o.2.map (sv n0)).toArray
def Sim (K : Ctx) (h : Heap) (H : Hp) : Prop := h.size = K.2.2.2 + H.length ∧ ∀ (i : Nat) (o : Obj), H[i]? = some o → COk K.2.1 K.2.2.1 K.2.2.2 h (K.2.2.2 + i) o
theorem COk.ext {Z : State} {a0 : Array Value} {n0 : Nat} {h h' : Heap} {a : Addr} {o : Obj} (E : Ext h h') (C : COk Z a0 n0 h a o) : COk Z a0 n0 h' a o := by
  cases o with
  | inl o => exact ⟨C.1.ext E, C.2.1, fun f hf => ⟨(C.2.2 f hf).1, (C.2.2 f hf).2.1, (C.2.2 f hf).2.2.ext E⟩⟩
  | inr o => obtain ⟨c, A, q⟩ := C; exact ⟨c, A.ext E, q⟩
theorem COk.other {Z : State} {a0 : Array Value} {n0 : Nat} {h h' : Heap} {a b : Addr} {o : Obj} {sl : Nat} {v : Value} (W : Wr h h' b sl v) (ne : a ≠ b) (C : COk Z a0 n0 h a o) : COk Z a0 n0 h' a o := by
  cases o with
  | inl o => exact ⟨C.1.wr W, C.2.1, fun f hf => ⟨(C.2.2 f hf).1, (C.2.2 f hf).2.1, (C.2.2 f hf).2.2.other W (Or.inl ne)⟩⟩
  | inr o => obtain ⟨c, A, q⟩ := C; exact ⟨c, A.other W ne, q⟩
theorem Sim.push {K : Ctx} {h h' : Heap} {H : Hp} {o : Obj} (S : Sim K h H) (E : Ext h h') (hs : h'.size = h.size + 1) (C : COk K.2.1 K.2.2.1 K.2.2.2 h' (K.2.2.2 + H.length) o) : Sim K h' (H ++ [o]) := by
  refine ⟨by rw [hs, S.1, List.length_append]; rfl, fun i o' hi => ?_⟩
  by_cases q : i < H.length
  · rw [List.getElem?_append_left q] at hi
    exact (S.2 i o' hi).ext E
  · have hl := (List.getElem?_eq_some_iff.mp hi).1
    rw [List.length_append, List.length_singleton] at hl
    obtain rfl : i = H.length := by omega
    rw [List.getElem?_append_right (Nat.le_refl _), Nat.sub_self] at hi
    cases hi
    exact C
theorem Sim.set {K : Ctx} {h h' : Heap} {H : Hp} {o o' : Obj} {i sl : Nat} {v : Value} (S : Sim K h H) (W : Wr h h' (K.2.2.2 + i) sl v) (hi : H[i]? = some o) (C : COk K.2.1 K.2.2.1 K.2.2.2 h' (K.2.2.2 + i) o') : Sim K h' (H.set i o') := by
  refine ⟨by rw [W.size, S.1, List.length_set], fun j u hj => ?_⟩
  by_cases q : j = i
  · subst q
    rw [List.getElem?_set_self (List.getElem?_eq_some_iff.mp hi).1] at hj
    cases hj
    exact C
  · rw [List.getElem?_set_ne (Ne.symm q)] at hj
    exact (S.2 j u hj).other W (fun z => q (Nat.add_left_cancel z))
/-! ## 3. 'Go': from here the invocation comes to its end with r: the value, the objects, at the most so many cells and slots made -/
def FinH (K : Ctx) (h : Heap) (o : Option Hp) : Prop := ∀ H', o = some H' → Sim K h H'
def HOk (H : Hp) (o : Option Hp) : Prop := ∀ H', o = some H' → H = H'
theorem HOk.any {H : Hp} : HOk H none := fun _ h => nomatch h
theorem HOk.eq {H H' : Hp} (h : H = H') : HOk H (some H') := fun _ e => h.trans (Option.some.inj e)
theorem HOk.fin {K : Ctx} {h : Heap} {H : Hp} {o : Option Hp} (q : HOk H o) (S : Sim K h H) : FinH K h o := fun H' e => q H' e ▸ S
def Go (K : Ctx) (M : Mt) (F Lo : Nat) (pc : Nat) (ls : List Slot) (st : List Value) (H : Hp) (r : Res) : Prop :=
  ∀ (R : Room) (cells slots : Nat) (p : Program) (e : Env) (s : State) (m : MethodId) (args : Array Value) (below : List Frame) (meth : Method) (c : Code) (T : State) (locs : List Loc),
    F ≤ R.frames → Lo ≤ R.locals → cells + r.2.2.1 ≤ R.cells → slots + r.2.2.2 ≤ R.slots → p.tables.exec = Jvm.exec → K.2.1.Warmed39 s.vm → c.code = M.2.1 → c.maxLocals = M.2.2.1 → meth.sig.returnType = M.2.2.2 → meth.locks = false → s.vm.findClass M.1.cls = some m.cls → meth.name = M.1.name →
    Stand p K.1 e R s m args below meth c T locs cells slots → Sim K T.heap H → Fr K.2.2.2 locs →
    ∃ (s₂ : State) (L : List Loc), Steps p.tables e below (T.setTop (mkF m pc (LL K.2.2.2 ls) (SS K.2.2.2 st))) s₂ ∧ s₂.status = .running ∧ Ended s₂ below (.returned (r.1.map (sv K.2.2.2))) ∧ FinH K s₂.heap r.2.1 ∧ Fr K.2.2.2 L ∧ FrameEnd s (.returned (r.1.map (sv K.2.2.2))) s₂ L (cells + r.2.2.1) (slots + r.2.2.2)
def Dec (M : Mt) (pc : Nat) (i : Instr) (n pc' : Nat) : Prop := decode M.2.1 pc = .ok (i, n) ∧ pc + n = pc'
def Jmp (pc : Nat) (o : Int) (pc' : Nat) : Prop := 0 ≤ (pc : Int) + o ∧ ((pc : Int) + o).toNat = pc'
instance (M : Mt) (pc : Nat) (i : Instr) (n pc' : Nat) : Decidable (Dec M pc i n pc') := inferInstanceAs (Decidable (_ ∧ _))
instance (pc : Nat) (o : Int) (pc' : Nat) : Decidable (Jmp pc o pc') := inferInstanceAs (Decidable (_ ∧ _))
section G
variable {K : Ctx} {M : Mt} {F Lo pc pc' pt : Nat} {ls ls' : List Slot} {st st' : List Value} {H : Hp} {r : Res}
theorem Go.mono {F' Lo' : Nat} {rv : Option Value} {H' : Option Hp} {dc ds dc' ds' : Nat} (h : Go K M F Lo pc ls st H (rv, H', dc, ds)) (h1 : F ≤ F') (h2 : Lo ≤ Lo') (h3 : dc ≤ dc') (h4 : ds ≤ ds') : Go K M F' Lo' pc ls st H (rv, H', dc', ds') := by
  intro R cells slots p e s m args below meth c T locs a1 a2 a3 a4 b1 b2 b3 b4 b5 b6 b7 b8 X S N
  obtain ⟨s₂, L, q1, q2, q3, q4, q5, q6⟩ := h R cells slots p e s m args below meth c T locs (Nat.le_trans h1 a1) (Nat.le_trans h2 a2) (Nat.le_trans (Nat.add_le_add_left h3 _) a3) (Nat.le_trans (Nat.add_le_add_left h4 _) a4) b1 b2 b3 b4 b5 b6 b7 b8 X S N
  exact ⟨s₂, L, q1, q2, q3, q4, q5, q6.1, q6.2.1, q6.2.2.mono (Nat.add_le_add_left h3 _) (Nat.add_le_add_left h4 _)⟩
theorem Go.cast {r' : Res} (h : Go K M F Lo pc ls st H r) (e : r = r') : Go K M F Lo pc ls st H r' := e ▸ h
theorem Go.pureS (hs : ∀ {p : Program} {e : Env} {below : List Frame} {T target : State} {m : MethodId} {c : Code}, At T m c below → p.tables.exec = Jvm.exec → c.code = M.2.1 → Steps p.tables e below (T.setTop (mkF m pc' (LL K.2.2.2 ls') (SS K.2.2.2 st'))) target → Steps p.tables e below (T.setTop (mkF m pc (LL K.2.2.2 ls) (SS K.2.2.2 st))) target)
    (h : Go K M F Lo pc' ls' st' H r) : Go K M F Lo pc ls st H r := by
  intro R cells slots p e s m args below meth c T locs a1 a2 a3 a4 b1 b2 b3 b4 b5 b6 b7 b8 X S N
  obtain ⟨s₂, L, q1, q⟩ := h R cells slots p e s m args below meth c T locs a1 a2 a3 a4 b1 b2 b3 b4 b5 b6 b7 b8 X S N
  exact ⟨s₂, L, hs X.here b1 b3 q1, q⟩
theorem Dec.at {M : Mt} {pc n pc' : Nat} {i : Instr} (d : Dec M pc i n pc') {c : Code} (hc : c.code = M.2.1) : decode c.code pc = .ok (i, n) := hc ▸ d.1
/-! ## 4. one law a plain instruction -/
theorem rem_mod (x y : Int32) : x - (x / y) * y = x % y := irem_eq_mod x y
def setM (n0 : Nat) (A : Array Slot) : Array Slot := A.map (ss n0)
theorem setAt_map (n0 : Nat) (A : Array Slot) (i : Nat) (x : Slot) : setAt (setM n0 A) i (ss n0 x) = (setAt A i x).map (setM n0) := by
  simp only [setAt, setM, Array.size_map]
  split
  · show some ((A.map (ss n0)).setIfInBounds i (ss n0 x)) = some ((A.setIfInBounds i x).map (ss n0))
    rw [Array.map_setIfInBounds]
  · rfl
theorem setM_get (n0 : Nat) (A : Array Slot) (i : Nat) : (setM n0 A)[i]? = (A[i]?).map (ss n0) := by simp [setM]
theorem storeSelf_map (n0 : Nat) (A : Array Slot) (i : Nat) (v : Value) : storeSelf (setM n0 A) i (sv n0 v) = (storeSelf A i v).map (setM n0) := by
  have e0 : setAt (setM n0 A) i (.val (sv n0 v)) = (setAt A i (.val v)).map (setM n0) := setAt_map n0 A i (.val v)
  have eu : ∀ B j, setAt (setM n0 B) j .unset = (setAt B j .unset).map (setM n0) := fun B j => setAt_map n0 B j .unset
  have es : ∀ B j, setAt (setM n0 B) j .second = (setAt B j .second).map (setM n0) := fun B j => setAt_map n0 B j .second
  simp only [storeSelf, e0, sv_cat]
  cases setAt A i (.val v) with
  | none => rfl
  | some B =>
    simp only [Option.map_some, Option.bind_eq_bind, Option.bind_some, setM_get]
    split
    · cases B[i + 1]? with
      | none => rfl
      | some x =>
        cases x with
        | unset => simp only [Option.map_some, Option.bind_some, ss, es]
        | second => simp only [Option.map_some, Option.bind_some, ss, es]
        | val w =>
          simp only [Option.map_some, Option.bind_some, ss, sv_cat]
          split
          · rw [eu]
            cases setAt B (i + 2) .unset with
            | none => rfl
            | some D => simp only [Option.map_some, Option.bind_some, es]
          · rw [es]
    · rfl
theorem storeLocals_map (n0 : Nat) (A : Array Slot) (i : Nat) (v : Value) : storeLocals (setM n0 A) i (sv n0 v) = (storeLocals A i v).map (setM n0) := by
  have eu : ∀ B j, setAt (setM n0 B) j .unset = (setAt B j .unset).map (setM n0) := fun B j => setAt_map n0 B j .unset
  simp only [storeLocals, setM_get, Option.bind_eq_bind]
  cases A[i]? with
  | none => rfl
  | some x =>
    cases x with
    | unset => simp only [Option.map_some, Option.bind_some, ss, storeSelf_map]
    | second =>
      simp only [Option.map_some, Option.bind_some, ss, eu]
      cases setAt A (i - 1) .unset with
      | none => rfl
      | some D => simp only [Option.map_some, Option.bind_some, storeSelf_map]
    | val w =>
      simp only [Option.map_some, Option.bind_some, ss, sv_cat]
      split
      · rw [eu]
        cases setAt A (i + 1) .unset with
        | none => rfl
        | some D => simp only [Option.map_some, Option.bind_some, storeSelf_map]
      · rw [storeSelf_map]
def stl (ls : List Slot) (k : Nat) (v : Value) : Option (List Slot) := (storeLocals ls.toArray k v).map Array.toList
theorem stl_ok {n0 : Nat} {ls ls' : List Slot} {k : Nat} {v : Value} (h : stl ls k v = some ls') : storeLocals (LL n0 ls) k (sv n0 v) = some (LL n0 ls') := by
  have e : LL n0 ls = setM n0 ls.toArray := by simp [LL, setM]
  rw [e, storeLocals_map]
  simp only [stl] at h
  cases hq : storeLocals ls.toArray k v with
  | none => rw [hq] at h; cases h
  | some B =>
    rw [hq] at h
    cases h
    show some (setM n0 B) = some (LL n0 B.toList)
    congr 1
    apply Array.toList_inj.mp
    simp [LL, setM]
theorem Go.iloadN {k : Fin 4} {v : Int32} (hd : Dec M pc (.iload_n k) 1 pc') (hl : ls[k.val]? = some (.val (.int v))) (h : Go K M F Lo pc' ls (.int v :: st) H r) : Go K M F Lo pc ls st H r := by
  obtain ⟨hd, rfl⟩ := hd
  exact h.pureS fun A hx hc k => XS.iloadN A hx rfl (hc ▸ hd) (LL_get hl) k
theorem Go.iload {k : Nat} {v : Int32} (hd : Dec M pc (.iload k) 2 pc') (hl : ls[k]? = some (.val (.int v))) (h : Go K M F Lo pc' ls (.int v :: st) H r) : Go K M F Lo pc ls st H r := by
  obtain ⟨hd, rfl⟩ := hd
  exact h.pureS fun A hx hc k => XS.iload A hx rfl (hc ▸ hd) (LL_get hl) k
theorem Go.istoreN {k : Fin 4} {v : Int32} (hd : Dec M pc (.istore_n k) 1 pc') (hl : stl ls k.val (.int v) = some ls') (h : Go K M F Lo pc' ls' st H r) : Go K M F Lo pc ls (.int v :: st) H r := by
  obtain ⟨hd, rfl⟩ := hd
  exact h.pureS fun A hx hc k => XS.istoreN A hx rfl (hc ▸ hd) rfl (stl_ok (n0 := K.2.2.2) hl) k
theorem Go.istore {k : Nat} {v : Int32} (hd : Dec M pc (.istore k) 2 pc') (hl : stl ls k (.int v) = some ls') (h : Go K M F Lo pc' ls' st H r) : Go K M F Lo pc ls (.int v :: st) H r := by
  obtain ⟨hd, rfl⟩ := hd
  exact h.pureS fun A hx hc k => XS.istore A hx rfl (hc ▸ hd) rfl (stl_ok (n0 := K.2.2.2) hl) k
theorem Go.lloadN {k : Fin 4} {v : Int64} (hd : Dec M pc (.lload_n k) 1 pc') (hl : ls[k.val]? = some (.val (.long v))) (h : Go K M F Lo pc' ls (.long v :: st) H r) : Go K M F Lo pc ls st H r := by
  obtain ⟨hd, rfl⟩ := hd
  exact h.pureS fun A hx hc k => XT.lloadN A hx rfl (hc ▸ hd) (LL_get hl) k
theorem Go.lload {k : Nat} {v : Int64} (hd : Dec M pc (.lload k) 2 pc') (hl : ls[k]? = some (.val (.long v))) (h : Go K M F Lo pc' ls (.long v :: st) H r) : Go K M F Lo pc ls st H r := by
  obtain ⟨hd, rfl⟩ := hd
  exact h.pureS fun A hx hc k => XT.lload A hx rfl (hc ▸ hd) (LL_get hl) k
theorem Go.lstoreN {k : Fin 4} {v : Int64} (hd : Dec M pc (.lstore_n k) 1 pc') (hl : stl ls k.val (.long v) = some ls') (h : Go K M F Lo pc' ls' st H r) : Go K M F Lo pc ls (.long v :: st) H r := by
  obtain ⟨hd, rfl⟩ := hd
  exact h.pureS fun A hx hc k => XT.lstoreN A hx rfl (hc ▸ hd) rfl (stl_ok (n0 := K.2.2.2) hl) k
theorem Go.lstore {k : Nat} {v : Int64} (hd : Dec M pc (.lstore k) 2 pc') (hl : stl ls k (.long v) = some ls') (h : Go K M F Lo pc' ls' st H r) : Go K M F Lo pc ls (.long v :: st) H r := by
  obtain ⟨hd, rfl⟩ := hd
  exact h.pureS fun A hx hc k => XT.lstore A hx rfl (hc ▸ hd) rfl (stl_ok (n0 := K.2.2.2) hl) k
theorem Go.aloadN {k : Fin 4} {v : Value} (hd : Dec M pc (.aload_n k) 1 pc') (hl : ls[k.val]? = some (.val v)) (hv : v.isRef = true) (h : Go K M F Lo pc' ls (v :: st) H r) : Go K M F Lo pc ls st H r := by
  obtain ⟨hd, rfl⟩ := hd
  exact h.pureS fun A hx hc k => XS.aloadN A hx rfl (hc ▸ hd) (LL_get hl) (by rw [sv_ref]; exact hv) k
theorem Go.aload {k : Nat} {v : Value} (hd : Dec M pc (.aload k) 2 pc') (hl : ls[k]? = some (.val v)) (hv : v.isRef = true) (h : Go K M F Lo pc' ls (v :: st) H r) : Go K M F Lo pc ls st H r := by
  obtain ⟨hd, rfl⟩ := hd
  exact h.pureS fun A hx hc k => XS.aload A hx rfl (hc ▸ hd) (LL_get hl) (by rw [sv_ref]; exact hv) k
theorem Go.astoreN {k : Fin 4} {v : Value} (hd : Dec M pc (.astore_n k) 1 pc') (hl : stl ls k.val v = some ls') (hv : v.isRef = true) (h : Go K M F Lo pc' ls' st H r) : Go K M F Lo pc ls (v :: st) H r := by
  obtain ⟨hd, rfl⟩ := hd
  exact h.pureS fun A hx hc k => XS.astoreN A hx rfl (hc ▸ hd) rfl (by rw [sv_ref]; exact hv) (stl_ok (n0 := K.2.2.2) hl) k
theorem Go.astore {k : Nat} {v : Value} (hd : Dec M pc (.astore k) 2 pc') (hl : stl ls k v = some ls') (hv : v.isRef = true) (h : Go K M F Lo pc' ls' st H r) : Go K M F Lo pc ls (v :: st) H r := by
  obtain ⟨hd, rfl⟩ := hd
  exact h.pureS fun A hx hc k => XS.astore A hx rfl (hc ▸ hd) rfl (by rw [sv_ref]; exact hv) (stl_ok (n0 := K.2.2.2) hl) k
theorem Go.iconst {i : Int} {v : Int32} (hd : Dec M pc (.iconst i) 1 pc') (hv : Int32.ofInt i = v) (h : Go K M F Lo pc' ls (.int v :: st) H r) : Go K M F Lo pc ls st H r := by
  obtain ⟨hd, rfl⟩ := hd
  exact h.pureS fun A hx hc k => XT.iconstV A hx rfl v (hc ▸ hd) hv k
theorem Go.bipush {i : Int} {v : Int32} (hd : Dec M pc (.bipush i) 2 pc') (hv : (Int8.ofInt i).toInt32 = v) (h : Go K M F Lo pc' ls (.int v :: st) H r) : Go K M F Lo pc ls st H r := by
  obtain ⟨hd, rfl⟩ := hd
  exact h.pureS fun A hx hc k => XT.bipushV A hx rfl v (hc ▸ hd) hv k
theorem Go.sipush {i : Int} {v : Int32} (hd : Dec M pc (.sipush i) 3 pc') (hv : (Int16.ofInt i).toInt32 = v) (h : Go K M F Lo pc' ls (.int v :: st) H r) : Go K M F Lo pc ls st H r := by
  obtain ⟨hd, rfl⟩ := hd
  exact h.pureS fun A hx hc k => XT.sipushV A hx rfl v (hc ▸ hd) hv k
theorem Go.lconst {i : Fin 2} {v : Int64} (hd : Dec M pc (.lconst i) 1 pc') (hv : Int64.ofNat i = v) (h : Go K M F Lo pc' ls (.long v :: st) H r) : Go K M F Lo pc ls st H r := by
  obtain ⟨hd, rfl⟩ := hd
  exact h.pureS fun A hx hc k => XT.lconstV A hx rfl v (hc ▸ hd) hv k
theorem Go.aconstNull  (hd : Dec M pc .aconst_null 1 pc') (h : Go K M F Lo pc' ls (.null :: st) H r) : Go K M F Lo pc ls st H r := by
  obtain ⟨hd, rfl⟩ := hd
  exact h.pureS fun A hx hc k => XS.aconstNull A hx rfl (hc ▸ hd) k
theorem Go.iadd {x y : Int32} (hd : Dec M pc .iadd 1 pc') (h : Go K M F Lo pc' ls (.int (x + y) :: st) H r) : Go K M F Lo pc ls (.int y :: .int x :: st) H r := by
  obtain ⟨hd, rfl⟩ := hd
  exact h.pureS fun A hx hc k => XS.iadd A hx rfl (hc ▸ hd) rfl k
theorem Go.isub {x y : Int32} (hd : Dec M pc .isub 1 pc') (h : Go K M F Lo pc' ls (.int (x - y) :: st) H r) : Go K M F Lo pc ls (.int y :: .int x :: st) H r := by
  obtain ⟨hd, rfl⟩ := hd
  exact h.pureS fun A hx hc k => XS.isub A hx rfl (hc ▸ hd) rfl k
theorem Go.imul {x y : Int32} (hd : Dec M pc .imul 1 pc') (h : Go K M F Lo pc' ls (.int (x * y) :: st) H r) : Go K M F Lo pc ls (.int y :: .int x :: st) H r := by
  obtain ⟨hd, rfl⟩ := hd
  exact h.pureS fun A hx hc k => XS.imul A hx rfl (hc ▸ hd) rfl k
theorem Go.iand {x y : Int32} (hd : Dec M pc .iand 1 pc') (h : Go K M F Lo pc' ls (.int (x &&& y) :: st) H r) : Go K M F Lo pc ls (.int y :: .int x :: st) H r := by
  obtain ⟨hd, rfl⟩ := hd
  exact h.pureS fun A hx hc k => XS.iand A hx rfl (hc ▸ hd) rfl k
theorem Go.ior {x y : Int32} (hd : Dec M pc .ior 1 pc') (h : Go K M F Lo pc' ls (.int (x ||| y) :: st) H r) : Go K M F Lo pc ls (.int y :: .int x :: st) H r := by
  obtain ⟨hd, rfl⟩ := hd
  exact h.pureS fun A hx hc k => XT.ior A hx rfl (hc ▸ hd) rfl k
theorem Go.ixor {x y : Int32} (hd : Dec M pc .ixor 1 pc') (h : Go K M F Lo pc' ls (.int (x ^^^ y) :: st) H r) : Go K M F Lo pc ls (.int y :: .int x :: st) H r := by
  obtain ⟨hd, rfl⟩ := hd
  exact h.pureS fun A hx hc k => XT.ixor A hx rfl (hc ▸ hd) rfl k
theorem Go.ishl {x y : Int32} (hd : Dec M pc .ishl 1 pc') (h : Go K M F Lo pc' ls (.int (x <<< (y &&& 31)) :: st) H r) : Go K M F Lo pc ls (.int y :: .int x :: st) H r := by
  obtain ⟨hd, rfl⟩ := hd
  exact h.pureS fun A hx hc k => XT.ishl A hx rfl (hc ▸ hd) rfl k
theorem Go.ishr {x y : Int32} (hd : Dec M pc .ishr 1 pc') (h : Go K M F Lo pc' ls (.int (x >>> (y &&& 31)) :: st) H r) : Go K M F Lo pc ls (.int y :: .int x :: st) H r := by
  obtain ⟨hd, rfl⟩ := hd
  exact h.pureS fun A hx hc k => XT.ishr A hx rfl (hc ▸ hd) rfl k
theorem Go.iushr {x y : Int32} (hd : Dec M pc .iushr 1 pc') (h : Go K M F Lo pc' ls (.int (XT.ushr x y) :: st) H r) : Go K M F Lo pc ls (.int y :: .int x :: st) H r := by
  obtain ⟨hd, rfl⟩ := hd
  exact h.pureS fun A hx hc k => XT.iushr A hx rfl (hc ▸ hd) rfl k
theorem Go.irem {x y : Int32} (hd : Dec M pc .irem 1 pc') (hy : y ≠ 0) (h : Go K M F Lo pc' ls (.int (x % y) :: st) H r) : Go K M F Lo pc ls (.int y :: .int x :: st) H r := by
  obtain ⟨hd, rfl⟩ := hd
  exact h.pureS fun A hx hc k => XS.irem A hx rfl (hc ▸ hd) rfl hy (by rw [rem_mod]; exact k)
theorem Go.idiv {x y : Int32} (hd : Dec M pc .idiv 1 pc') (hy : y ≠ 0) (h : Go K M F Lo pc' ls (.int (x / y) :: st) H r) : Go K M F Lo pc ls (.int y :: .int x :: st) H r := by
  obtain ⟨hd, rfl⟩ := hd
  exact h.pureS fun A hx hc k => XS.idiv A hx rfl (hc ▸ hd) rfl hy k
theorem Go.ineg {x : Int32} (hd : Dec M pc .ineg 1 pc') (h : Go K M F Lo pc' ls (.int (-x) :: st) H r) : Go K M F Lo pc ls (.int x :: st) H r := by
  obtain ⟨hd, rfl⟩ := hd
  exact h.pureS fun A hx hc k => XS.ineg A hx rfl (hc ▸ hd) rfl k
theorem Go.iinc {i : Nat} {cst : Int} {v x : Int32} (hd : Dec M pc (.iinc i cst) 3 pc') (hv : Int32.ofInt cst = v) (hl : ls[i]? = some (.val (.int x))) (hl' : stl ls i (.int (x + v)) = some ls') (h : Go K M F Lo pc' ls' st H r) : Go K M F Lo pc ls st H r := by
  obtain ⟨hd, rfl⟩ := hd
  exact h.pureS fun A hx hc k => XT.iincV A hx rfl v (hc ▸ hd) hv (LL_get hl) (stl_ok (n0 := K.2.2.2) hl') k
theorem Go.ladd {x y : Int64} (hd : Dec M pc .ladd 1 pc') (h : Go K M F Lo pc' ls (.long (x + y) :: st) H r) : Go K M F Lo pc ls (.long y :: .long x :: st) H r := by
  obtain ⟨hd, rfl⟩ := hd
  exact h.pureS fun A hx hc k => XT.ladd A hx rfl (hc ▸ hd) rfl k
theorem Go.lsub {x y : Int64} (hd : Dec M pc .lsub 1 pc') (h : Go K M F Lo pc' ls (.long (x - y) :: st) H r) : Go K M F Lo pc ls (.long y :: .long x :: st) H r := by
  obtain ⟨hd, rfl⟩ := hd
  exact h.pureS fun A hx hc k => XT.lsub A hx rfl (hc ▸ hd) rfl k
theorem Go.lmul {x y : Int64} (hd : Dec M pc .lmul 1 pc') (h : Go K M F Lo pc' ls (.long (x * y) :: st) H r) : Go K M F Lo pc ls (.long y :: .long x :: st) H r := by
  obtain ⟨hd, rfl⟩ := hd
  exact h.pureS fun A hx hc k => XT.lmul A hx rfl (hc ▸ hd) rfl k
theorem Go.land {x y : Int64} (hd : Dec M pc .land 1 pc') (h : Go K M F Lo pc' ls (.long (x &&& y) :: st) H r) : Go K M F Lo pc ls (.long y :: .long x :: st) H r := by
  obtain ⟨hd, rfl⟩ := hd
  exact h.pureS fun A hx hc k => XT.land A hx rfl (hc ▸ hd) rfl k
theorem Go.lor {x y : Int64} (hd : Dec M pc .lor 1 pc') (h : Go K M F Lo pc' ls (.long (x ||| y) :: st) H r) : Go K M F Lo pc ls (.long y :: .long x :: st) H r := by
  obtain ⟨hd, rfl⟩ := hd
  exact h.pureS fun A hx hc k => XT.lor A hx rfl (hc ▸ hd) rfl k
theorem Go.lxor {x y : Int64} (hd : Dec M pc .lxor 1 pc') (h : Go K M F Lo pc' ls (.long (x ^^^ y) :: st) H r) : Go K M F Lo pc ls (.long y :: .long x :: st) H r := by
  obtain ⟨hd, rfl⟩ := hd
  exact h.pureS fun A hx hc k => XT.lxor A hx rfl (hc ▸ hd) rfl k
theorem Go.lshl {x : Int64} {y : Int32} (hd : Dec M pc .lshl 1 pc') (h : Go K M F Lo pc' ls (.long (x <<< (y.toInt64 &&& 63)) :: st) H r) : Go K M F Lo pc ls (.int y :: .long x :: st) H r := by
  obtain ⟨hd, rfl⟩ := hd
  exact h.pureS fun A hx hc k => XT.lshl A hx rfl (hc ▸ hd) rfl k
theorem Go.lshr {x : Int64} {y : Int32} (hd : Dec M pc .lshr 1 pc') (h : Go K M F Lo pc' ls (.long (x >>> (y.toInt64 &&& 63)) :: st) H r) : Go K M F Lo pc ls (.int y :: .long x :: st) H r := by
  obtain ⟨hd, rfl⟩ := hd
  exact h.pureS fun A hx hc k => XT.lshr A hx rfl (hc ▸ hd) rfl k
theorem Go.lushr {x : Int64} {y : Int32} (hd : Dec M pc .lushr 1 pc') (h : Go K M F Lo pc' ls (.long (XT.ushrL x y) :: st) H r) : Go K M F Lo pc ls (.int y :: .long x :: st) H r := by
  obtain ⟨hd, rfl⟩ := hd
  exact h.pureS fun A hx hc k => XT.lushr A hx rfl (hc ▸ hd) rfl k
theorem Go.lrem {x y : Int64} (hd : Dec M pc .lrem 1 pc') (hy : y ≠ 0) (h : Go K M F Lo pc' ls (.long (x % y) :: st) H r) : Go K M F Lo pc ls (.long y :: .long x :: st) H r := by
  obtain ⟨hd, rfl⟩ := hd
  exact h.pureS fun A hx hc k => XT.lrem A hx rfl (hc ▸ hd) rfl hy (by rw [lrem_mod]; exact k)
theorem Go.ldiv {x y : Int64} (hd : Dec M pc .ldiv 1 pc') (hy : y ≠ 0) (h : Go K M F Lo pc' ls (.long (x / y) :: st) H r) : Go K M F Lo pc ls (.long y :: .long x :: st) H r := by
  obtain ⟨hd, rfl⟩ := hd
  exact h.pureS fun A hx hc k => XT.ldiv A hx rfl (hc ▸ hd) rfl hy k
theorem Go.lneg {x : Int64} (hd : Dec M pc .lneg 1 pc') (h : Go K M F Lo pc' ls (.long (-x) :: st) H r) : Go K M F Lo pc ls (.long x :: st) H r := by
  obtain ⟨hd, rfl⟩ := hd
  exact h.pureS fun A hx hc k => XT.lneg A hx rfl (hc ▸ hd) rfl k
theorem Go.lcmp {x y : Int64} (hd : Dec M pc .lcmp 1 pc') (h : Go K M F Lo pc' ls (.int (XT.cmpL x y) :: st) H r) : Go K M F Lo pc ls (.long y :: .long x :: st) H r := by
  obtain ⟨hd, rfl⟩ := hd
  exact h.pureS fun A hx hc k => XT.lcmp A hx rfl (hc ▸ hd) rfl k
theorem Go.i2l {x : Int32} (hd : Dec M pc .i2l 1 pc') (h : Go K M F Lo pc' ls (.long x.toInt64 :: st) H r) : Go K M F Lo pc ls (.int x :: st) H r := by
  obtain ⟨hd, rfl⟩ := hd
  exact h.pureS fun A hx hc k => XT.i2l A hx rfl (hc ▸ hd) rfl k
theorem Go.l2i {x : Int64} (hd : Dec M pc .l2i 1 pc') (h : Go K M F Lo pc' ls (.int x.toInt32 :: st) H r) : Go K M F Lo pc ls (.long x :: st) H r := by
  obtain ⟨hd, rfl⟩ := hd
  exact h.pureS fun A hx hc k => XT.l2i A hx rfl (hc ▸ hd) rfl k
theorem Go.i2b {x : Int32} (hd : Dec M pc .i2b 1 pc') (h : Go K M F Lo pc' ls (.int x.toInt8.toInt32 :: st) H r) : Go K M F Lo pc ls (.int x :: st) H r := by
  obtain ⟨hd, rfl⟩ := hd
  exact h.pureS fun A hx hc k => XT.i2b A hx rfl (hc ▸ hd) rfl k
theorem Go.i2c {x : Int32} (hd : Dec M pc .i2c 1 pc') (h : Go K M F Lo pc' ls (.int x.toUInt32.toUInt16.toUInt32.toInt32 :: st) H r) : Go K M F Lo pc ls (.int x :: st) H r := by
  obtain ⟨hd, rfl⟩ := hd
  exact h.pureS fun A hx hc k => XT.i2c A hx rfl (hc ▸ hd) rfl k
theorem Go.i2s {x : Int32} (hd : Dec M pc .i2s 1 pc') (h : Go K M F Lo pc' ls (.int x.toInt16.toInt32 :: st) H r) : Go K M F Lo pc ls (.int x :: st) H r := by
  obtain ⟨hd, rfl⟩ := hd
  exact h.pureS fun A hx hc k => XT.i2s A hx rfl (hc ▸ hd) rfl k
theorem Go.pop {x : Value} (hd : Dec M pc .pop 1 pc') (hx1 : x.category = 1) (h : Go K M F Lo pc' ls st H r) : Go K M F Lo pc ls (x :: st) H r := by
  obtain ⟨hd, rfl⟩ := hd
  exact h.pureS fun A hx hc k => XT.pop A hx rfl (hc ▸ hd) rfl (by rw [sv_cat]; exact hx1) k
theorem Go.dup {x : Value} (hd : Dec M pc .dup 1 pc') (hx1 : x.category = 1) (h : Go K M F Lo pc' ls (x :: x :: st) H r) : Go K M F Lo pc ls (x :: st) H r := by
  obtain ⟨hd, rfl⟩ := hd
  exact h.pureS fun A hx hc k => XS.dup A hx rfl (hc ▸ hd) rfl (by rw [sv_cat]; exact hx1) k
theorem Go.dupX1 {x y : Value} (hd : Dec M pc .dup_x1 1 pc') (hx1 : x.category = 1) (hy1 : y.category = 1) (h : Go K M F Lo pc' ls (x :: y :: x :: st) H r) : Go K M F Lo pc ls (x :: y :: st) H r := by
  obtain ⟨hd, rfl⟩ := hd
  exact h.pureS fun A hx hc k => XT.dupX1 A hx rfl (hc ▸ hd) rfl (by rw [sv_cat]; exact hx1) (by rw [sv_cat]; exact hy1) k
theorem Go.dup2 {x y : Value} (hd : Dec M pc .dup2 1 pc') (hx1 : x.category = 1) (hy1 : y.category = 1) (h : Go K M F Lo pc' ls (x :: y :: x :: y :: st) H r) : Go K M F Lo pc ls (x :: y :: st) H r := by
  obtain ⟨hd, rfl⟩ := hd
  exact h.pureS fun A hx hc k => XT.dup2 A hx rfl (hc ▸ hd) rfl (by rw [sv_cat]; exact hx1) (by rw [sv_cat]; exact hy1) k
theorem Go.dup2L {x : Int64} (hd : Dec M pc .dup2 1 pc') (h : Go K M F Lo pc' ls (.long x :: .long x :: st) H r) : Go K M F Lo pc ls (.long x :: st) H r := by
  obtain ⟨hd, rfl⟩ := hd
  exact h.pureS fun A hx hc k => XT.dup2L A hx rfl (hc ▸ hd) rfl k
theorem hset_self {H : Hp} {i : Nat} {o o' : Obj} (h : H[i]? = some o) : (H.set i o')[i]? = some o' := List.getElem?_set_self (List.getElem?_eq_some_iff.mp h).1
theorem hset_ne {H : Hp} {i j : Nat} {o o' : Obj} (h : H[j]? = some o) (ne : i ≠ j) : (H.set i o')[j]? = some o := (List.getElem?_set_ne ne).trans h
theorem happ {H : Hp} {i : Nat} {o : Obj} (h : H[i]? = some o) (L : Hp) : (H ++ L)[i]? = some o := (List.getElem?_append_left (List.getElem?_eq_some_iff.mp h).1).trans h
theorem happ_last {H : Hp} {i : Nat} {o : Obj} (h : H.length = i) : (H ++ [o])[i]? = some o := by subst h; simp
theorem Go.goto {o : Int} (hd : Dec M pc (.goto o) 3 pc') (hj : Jmp pc o pt) (h : Go K M F Lo pt ls st H r) : Go K M F Lo pc ls st H r :=
  h.pureS fun A hx hc k => XS.goto A hx rfl rfl (hd.at hc) hj.1 hj.2 k
theorem Go.icmpT {cd : ClassFile.Cond} {x y : Int32} {o : Int} (hd : Dec M pc (.if_icmp cd o) 3 pc') (hj : Jmp pc o pt) (hv : if_icmp.holds cd x y = true) (h : Go K M F Lo pt ls st H r) : Go K M F Lo pc ls (.int y :: .int x :: st) H r :=
  h.pureS fun A hx hc k => XS.icmpYes A hx rfl rfl (hd.at hc) rfl hv hj.1 hj.2 k
theorem Go.icmpF {cd : ClassFile.Cond} {x y : Int32} {o : Int} (hd : Dec M pc (.if_icmp cd o) 3 pc') (hv : if_icmp.holds cd x y = false) (h : Go K M F Lo pc' ls st H r) : Go K M F Lo pc ls (.int y :: .int x :: st) H r := by
  obtain ⟨hd, rfl⟩ := hd
  exact h.pureS fun A hx hc k => XS.icmpNo A hx rfl (hc ▸ hd) rfl hv k
theorem Go.ifT {cd : ClassFile.Cond} {x : Int32} {o : Int} (hd : Dec M pc (.ifCond cd o) 3 pc') (hj : Jmp pc o pt) (hv : ifCond.holds cd x = true) (h : Go K M F Lo pt ls st H r) : Go K M F Lo pc ls (.int x :: st) H r :=
  h.pureS fun A hx hc k => XS.ifYes A hx rfl rfl (hd.at hc) rfl hv hj.1 hj.2 k
theorem Go.ifF {cd : ClassFile.Cond} {x : Int32} {o : Int} (hd : Dec M pc (.ifCond cd o) 3 pc') (hv : ifCond.holds cd x = false) (h : Go K M F Lo pc' ls st H r) : Go K M F Lo pc ls (.int x :: st) H r := by
  obtain ⟨hd, rfl⟩ := hd
  exact h.pureS fun A hx hc k => XS.ifNo A hx rfl (hc ▸ hd) rfl hv k
theorem Go.icmp_lt {x y : Int32} {o : Int} (hd : Dec M pc (.if_icmp .lt o) 3 pc') (hj : Jmp pc o pt) (hT : x < y → Go K M F Lo pt ls st H r) (hF : ¬ x < y → Go K M F Lo pc' ls st H r) : Go K M F Lo pc ls (.int y :: .int x :: st) H r := by
  by_cases q : x < y
  · exact Go.icmpT hd hj (XT.ii_lt_t q) (hT q)
  · exact Go.icmpF hd (XT.ii_lt_f q) (hF q)
theorem Go.if_lt {x : Int32} {o : Int} (hd : Dec M pc (.ifCond .lt o) 3 pc') (hj : Jmp pc o pt) (hT : x < 0 → Go K M F Lo pt ls st H r) (hF : ¬ x < 0 → Go K M F Lo pc' ls st H r) : Go K M F Lo pc ls (.int x :: st) H r := by
  by_cases q : x < 0
  · exact Go.ifT hd hj (XT.i0_lt_t q) (hT q)
  · exact Go.ifF hd (XT.i0_lt_f q) (hF q)
theorem Go.lif_lt {x y : Int64} {o : Int} (hd : Dec M pc (.ifCond .lt o) 3 pc') (hj : Jmp pc o pt) (hT : x < y → Go K M F Lo pt ls st H r) (hF : ¬ x < y → Go K M F Lo pc' ls st H r) : Go K M F Lo pc ls (.int (XT.cmpL x y) :: st) H r := by
  by_cases q : x < y
  · exact Go.ifT hd hj (XT.ll_lt_t q) (hT q)
  · exact Go.ifF hd (XT.ll_lt_f q) (hF q)
theorem Go.icmp_ge {x y : Int32} {o : Int} (hd : Dec M pc (.if_icmp .ge o) 3 pc') (hj : Jmp pc o pt) (hT : ¬ x < y → Go K M F Lo pt ls st H r) (hF : x < y → Go K M F Lo pc' ls st H r) : Go K M F Lo pc ls (.int y :: .int x :: st) H r := by
  by_cases q : x < y
  · exact Go.icmpF hd (XT.ii_ge_f q) (hF q)
  · exact Go.icmpT hd hj (XT.ii_ge_t q) (hT q)
theorem Go.if_ge {x : Int32} {o : Int} (hd : Dec M pc (.ifCond .ge o) 3 pc') (hj : Jmp pc o pt) (hT : ¬ x < 0 → Go K M F Lo pt ls st H r) (hF : x < 0 → Go K M F Lo pc' ls st H r) : Go K M F Lo pc ls (.int x :: st) H r := by
  by_cases q : x < 0
  · exact Go.ifF hd (XT.i0_ge_f q) (hF q)
  · exact Go.ifT hd hj (XT.i0_ge_t q) (hT q)
theorem Go.lif_ge {x y : Int64} {o : Int} (hd : Dec M pc (.ifCond .ge o) 3 pc') (hj : Jmp pc o pt) (hT : ¬ x < y → Go K M F Lo pt ls st H r) (hF : x < y → Go K M F Lo pc' ls st H r) : Go K M F Lo pc ls (.int (XT.cmpL x y) :: st) H r := by
  by_cases q : x < y
  · exact Go.ifF hd (XT.ll_ge_f q) (hF q)
  · exact Go.ifT hd hj (XT.ll_ge_t q) (hT q)
theorem Go.icmp_gt {x y : Int32} {o : Int} (hd : Dec M pc (.if_icmp .gt o) 3 pc') (hj : Jmp pc o pt) (hT : y < x → Go K M F Lo pt ls st H r) (hF : ¬ y < x → Go K M F Lo pc' ls st H r) : Go K M F Lo pc ls (.int y :: .int x :: st) H r := by
  by_cases q : y < x
  · exact Go.icmpT hd hj (XT.ii_gt_t q) (hT q)
  · exact Go.icmpF hd (XT.ii_gt_f q) (hF q)
theorem Go.if_gt {x : Int32} {o : Int} (hd : Dec M pc (.ifCond .gt o) 3 pc') (hj : Jmp pc o pt) (hT : 0 < x → Go K M F Lo pt ls st H r) (hF : ¬ 0 < x → Go K M F Lo pc' ls st H r) : Go K M F Lo pc ls (.int x :: st) H r := by
  by_cases q : 0 < x
  · exact Go.ifT hd hj (XT.i0_gt_t q) (hT q)
  · exact Go.ifF hd (XT.i0_gt_f q) (hF q)
theorem Go.lif_gt {x y : Int64} {o : Int} (hd : Dec M pc (.ifCond .gt o) 3 pc') (hj : Jmp pc o pt) (hT : y < x → Go K M F Lo pt ls st H r) (hF : ¬ y < x → Go K M F Lo pc' ls st H r) : Go K M F Lo pc ls (.int (XT.cmpL x y) :: st) H r := by
  by_cases q : y < x
  · exact Go.ifT hd hj (XT.ll_gt_t q) (hT q)
  · exact Go.ifF hd (XT.ll_gt_f q) (hF q)
theorem Go.icmp_le {x y : Int32} {o : Int} (hd : Dec M pc (.if_icmp .le o) 3 pc') (hj : Jmp pc o pt) (hT : ¬ y < x → Go K M F Lo pt ls st H r) (hF : y < x → Go K M F Lo pc' ls st H r) : Go K M F Lo pc ls (.int y :: .int x :: st) H r := by
  by_cases q : y < x
  · exact Go.icmpF hd (XT.ii_le_f q) (hF q)
  · exact Go.icmpT hd hj (XT.ii_le_t q) (hT q)
theorem Go.if_le {x : Int32} {o : Int} (hd : Dec M pc (.ifCond .le o) 3 pc') (hj : Jmp pc o pt) (hT : ¬ 0 < x → Go K M F Lo pt ls st H r) (hF : 0 < x → Go K M F Lo pc' ls st H r) : Go K M F Lo pc ls (.int x :: st) H r := by
  by_cases q : 0 < x
  · exact Go.ifF hd (XT.i0_le_f q) (hF q)
  · exact Go.ifT hd hj (XT.i0_le_t q) (hT q)
theorem Go.lif_le {x y : Int64} {o : Int} (hd : Dec M pc (.ifCond .le o) 3 pc') (hj : Jmp pc o pt) (hT : ¬ y < x → Go K M F Lo pt ls st H r) (hF : y < x → Go K M F Lo pc' ls st H r) : Go K M F Lo pc ls (.int (XT.cmpL x y) :: st) H r := by
  by_cases q : y < x
  · exact Go.ifF hd (XT.ll_le_f q) (hF q)
  · exact Go.ifT hd hj (XT.ll_le_t q) (hT q)
theorem Go.icmp_eq {x y : Int32} {o : Int} (hd : Dec M pc (.if_icmp .eq o) 3 pc') (hj : Jmp pc o pt) (hT : x = y → Go K M F Lo pt ls st H r) (hF : ¬ x = y → Go K M F Lo pc' ls st H r) : Go K M F Lo pc ls (.int y :: .int x :: st) H r := by
  by_cases q : x = y
  · exact Go.icmpT hd hj (XT.ii_eq_t q) (hT q)
  · exact Go.icmpF hd (XT.ii_eq_f q) (hF q)
theorem Go.if_eq {x : Int32} {o : Int} (hd : Dec M pc (.ifCond .eq o) 3 pc') (hj : Jmp pc o pt) (hT : x = 0 → Go K M F Lo pt ls st H r) (hF : ¬ x = 0 → Go K M F Lo pc' ls st H r) : Go K M F Lo pc ls (.int x :: st) H r := by
  by_cases q : x = 0
  · exact Go.ifT hd hj (XT.i0_eq_t q) (hT q)
  · exact Go.ifF hd (XT.i0_eq_f q) (hF q)
theorem Go.lif_eq {x y : Int64} {o : Int} (hd : Dec M pc (.ifCond .eq o) 3 pc') (hj : Jmp pc o pt) (hT : x = y → Go K M F Lo pt ls st H r) (hF : ¬ x = y → Go K M F Lo pc' ls st H r) : Go K M F Lo pc ls (.int (XT.cmpL x y) :: st) H r := by
  by_cases q : x = y
  · exact Go.ifT hd hj (XT.ll_eq_t q) (hT q)
  · exact Go.ifF hd (XT.ll_eq_f q) (hF q)
theorem Go.icmp_ne {x y : Int32} {o : Int} (hd : Dec M pc (.if_icmp .ne o) 3 pc') (hj : Jmp pc o pt) (hT : ¬ x = y → Go K M F Lo pt ls st H r) (hF : x = y → Go K M F Lo pc' ls st H r) : Go K M F Lo pc ls (.int y :: .int x :: st) H r := by
  by_cases q : x = y
  · exact Go.icmpF hd (XT.ii_ne_f q) (hF q)
  · exact Go.icmpT hd hj (XT.ii_ne_t q) (hT q)
theorem Go.if_ne {x : Int32} {o : Int} (hd : Dec M pc (.ifCond .ne o) 3 pc') (hj : Jmp pc o pt) (hT : ¬ x = 0 → Go K M F Lo pt ls st H r) (hF : x = 0 → Go K M F Lo pc' ls st H r) : Go K M F Lo pc ls (.int x :: st) H r := by
  by_cases q : x = 0
  · exact Go.ifF hd (XT.i0_ne_f q) (hF q)
  · exact Go.ifT hd hj (XT.i0_ne_t q) (hT q)
theorem Go.lif_ne {x y : Int64} {o : Int} (hd : Dec M pc (.ifCond .ne o) 3 pc') (hj : Jmp pc o pt) (hT : ¬ x = y → Go K M F Lo pt ls st H r) (hF : x = y → Go K M F Lo pc' ls st H r) : Go K M F Lo pc ls (.int (XT.cmpL x y) :: st) H r := by
  by_cases q : x = y
  · exact Go.ifF hd (XT.ll_ne_f q) (hF q)
  · exact Go.ifT hd hj (XT.ll_ne_t q) (hT q)
theorem Go.ifnullT {o : Int} (hd : Dec M pc (.ifnull o) 3 pc') (hj : Jmp pc o pt) (h : Go K M F Lo pt ls st H r) : Go K M F Lo pc ls (.null :: st) H r :=
  h.pureS fun A hx hc k => XS.ifnullYes A hx rfl rfl (hd.at hc) rfl hj.1 hj.2 k
theorem Go.ifnullF {i : Nat} {o : Int} (hd : Dec M pc (.ifnull o) 3 pc') (h : Go K M F Lo pc' ls st H r) : Go K M F Lo pc ls (.ref i :: st) H r := by
  obtain ⟨hd, rfl⟩ := hd
  exact h.pureS fun A hx hc k => XS.ifnullNo A hx rfl (hc ▸ hd) rfl k
theorem Go.ifnonnullT {i : Nat} {o : Int} (hd : Dec M pc (.ifnonnull o) 3 pc') (hj : Jmp pc o pt) (h : Go K M F Lo pt ls st H r) : Go K M F Lo pc ls (.ref i :: st) H r :=
  h.pureS fun A hx hc k => XT.ifnonnullYes A hx rfl rfl (hd.at hc) rfl hj.1 hj.2 k
theorem Go.ifnonnullF {o : Int} (hd : Dec M pc (.ifnonnull o) 3 pc') (h : Go K M F Lo pc' ls st H r) : Go K M F Lo pc ls (.null :: st) H r := by
  obtain ⟨hd, rfl⟩ := hd
  exact h.pureS fun A hx hc k => XT.ifnonnullNo A hx rfl (hc ▸ hd) rfl k
theorem sv_inj (n0 : Nat) {x y : Value} : sv n0 x = sv n0 y ↔ x = y := by
  cases x <;> cases y <;> simp [sv]
theorem acmp_sv (n0 : Nat) (cd : ClassFile.ACond) (x y : Value) : XT.acmp cd (sv n0 x) (sv n0 y) = XT.acmp cd x y := by
  cases cd <;> simp [XT.acmp, sv_inj]
theorem Go.acmpT {cd : ClassFile.ACond} {x y : Value} {o : Int} (hd : Dec M pc (.if_acmp cd o) 3 pc') (hj : Jmp pc o pt) (h1 : x.isRef = true) (h2 : y.isRef = true) (hv : XT.acmp cd x y = true) (h : Go K M F Lo pt ls st H r) : Go K M F Lo pc ls (y :: x :: st) H r :=
  h.pureS fun A hx hc k => XT.acmpYes A hx rfl rfl (hd.at hc) rfl (by rw [sv_ref]; exact h1) (by rw [sv_ref]; exact h2) (by rw [acmp_sv]; exact hv) hj.1 hj.2 k
theorem Go.acmpF {cd : ClassFile.ACond} {x y : Value} {o : Int} (hd : Dec M pc (.if_acmp cd o) 3 pc') (h1 : x.isRef = true) (h2 : y.isRef = true) (hv : XT.acmp cd x y = false) (h : Go K M F Lo pc' ls st H r) : Go K M F Lo pc ls (y :: x :: st) H r := by
  obtain ⟨hd, rfl⟩ := hd
  exact h.pureS fun A hx hc k => XT.acmpNo A hx rfl (hc ▸ hd) rfl (by rw [sv_ref]; exact h1) (by rw [sv_ref]; exact h2) (by rw [acmp_sv]; exact hv) k
/-! ## 5. constants of the pool -/
theorem Go.ldc {idx : Nat} {v : Int32} (hd : Dec M pc (.ldc idx) 2 pc') (w : (Cond.constant M.1.cls idx v).before K.2.2.1 K.2.1 = true) (h : Go K M F Lo pc' ls (.int v :: st) H r) : Go K M F Lo pc ls st H r := by
  obtain ⟨hd, rfl⟩ := hd
  intro R cells slots p e s m args below meth c T locs a1 a2 a3 a4 b1 b2 b3 b4 b5 b6 b7 b8 X S N
  obtain ⟨s₂, L, q1, q⟩ := h R cells slots p e s m args below meth c T locs a1 a2 a3 a4 b1 b2 b3 b4 b5 b6 b7 b8 X S N
  exact ⟨s₂, L, X.ldcI b1 b7 (mvT b2 w) rfl (b3 ▸ hd) q1, q⟩
theorem Go.ldc2 {idx : Nat} {v : Int64} (hd : Dec M pc (.ldc2_w idx) 3 pc') (w : (Cond.constantLong M.1.cls idx v).before K.2.2.1 K.2.1 = true) (h : Go K M F Lo pc' ls (.long v :: st) H r) : Go K M F Lo pc ls st H r := by
  obtain ⟨hd, rfl⟩ := hd
  intro R cells slots p e s m args below meth c T locs a1 a2 a3 a4 b1 b2 b3 b4 b5 b6 b7 b8 X S N
  obtain ⟨s₂, L, q1, q⟩ := h R cells slots p e s m args below meth c T locs a1 a2 a3 a4 b1 b2 b3 b4 b5 b6 b7 b8 X S N
  exact ⟨s₂, L, X.ldc2J b1 b7 (mvT b2 w) rfl (b3 ▸ hd) q1, q⟩
/-! ## 6. fields -/
theorem Go.getfield {idx i : Nat} (j : Nat) {C n d : String} {fs : List (String × String × Value)} {v : Value} (hd : Dec M pc (.getfield idx) 3 pc') (w : (Cond.fieldLink M.1.cls idx C n d).before K.2.2.1 K.2.1 = true) (hH : H[i]? = some (.inl (C, fs))) (hf : fs[j]? = some (n, d, v))
    (h : Go K M F Lo pc' ls (v :: st) H r) : Go K M F Lo pc ls (.ref i :: st) H r := by
  obtain ⟨hd, rfl⟩ := hd
  intro R cells slots p e s m args below meth c T locs a1 a2 a3 a4 b1 b2 b3 b4 b5 b6 b7 b8 X S N
  have C0 := S.2 i _ hH
  have Fl := (C0.2.2 _ (List.mem_of_getElem? hf)).2.2
  obtain ⟨T', X', e', stp⟩ := getF X b1 b2 b7 (host := "") (Or.inl w) Via.refl rfl Fl (g := mkF m pc (LL K.2.2.2 ls) (SS K.2.2.2 (.ref i :: st))) rfl rfl (b3 ▸ hd)
  obtain ⟨s₂, L, q1, q⟩ := h R cells slots p e s m args below meth c T' locs a1 a2 a3 a4 b1 b2 b3 b4 b5 b6 b7 b8 X' (e' ▸ S) N
  exact ⟨s₂, L, stp _ q1, q⟩
def PutOk (ty : FieldType) (v : Value) : Prop := ∀ n0, narrow ty (sv n0 v) = sv n0 v ∧ fits ty (sv n0 v) = true
theorem names_set {fs : List (String × String × Value)} {j : Nat} {n d : String} {v w : Value} (hf : fs[j]? = some (n, d, w)) : (fs.set j (n, d, v)).map (fun f => f.1) = fs.map (fun f => f.1) := by
  apply List.ext_getElem?
  intro k
  rw [List.getElem?_map, List.getElem?_map]
  by_cases q : j = k
  · subst q
    rw [List.getElem?_set_self (List.getElem?_eq_some_iff.mp hf).1, hf]; rfl
  · rw [List.getElem?_set_ne q]
theorem fields_set {K : Ctx} {h h' : Heap} {a : Addr} {C n d : String} {fs : List (String × String × Value)} {j : Nat} {v old : Value} {ty : FieldType} (Ck : COk K.2.1 K.2.2.1 K.2.2.2 h a (.inl (C, fs))) (hf : fs[j]? = some (n, d, old)) (hty : parseFieldDescriptor d = some ty)
    (L : Laid K.2.1 K.2.2.1 C C n d) (W : Wr h h' a (Jvm.RoadKit.slotOf K.2.1 C n d) (sv K.2.2.2 v)) : COk K.2.1 K.2.2.1 K.2.2.2 h' a (.inl (C, fs.set j (n, d, v))) := by
  obtain ⟨E, nd, al⟩ := Ck
  refine ⟨E.wr W, by rw [names_set hf]; exact nd, fun f hm => ?_⟩
  obtain ⟨k, hk⟩ := List.mem_iff_getElem?.mp hm
  by_cases q : j = k
  · subst q
    rw [List.getElem?_set_self (List.getElem?_eq_some_iff.mp hf).1] at hk
    cases hk
    exact ⟨L, ⟨ty, hty⟩, (al _ (List.mem_of_getElem? hf)).2.2.same W⟩
  · rw [List.getElem?_set_ne q] at hk
    obtain ⟨l1, ⟨t1, p1⟩, f1⟩ := al f (List.mem_of_getElem? hk)
    refine ⟨l1, ⟨t1, p1⟩, f1.other W (Or.inr (slot_ne l1 L ?_ p1 hty))⟩
    intro e
    have h1 : (fs.map (fun f => f.1))[k]? = some f.1 := by rw [List.getElem?_map, hk]; rfl
    have h2 : (fs.map (fun f => f.1))[j]? = some f.1 := by rw [List.getElem?_map, hf, e]; rfl
    exact q ((List.getElem?_inj (List.getElem?_eq_some_iff.mp h2).1 nd).mp (h2.trans h1.symm))
theorem Go.putfield {idx i kk : Nat} (j : Nat) {C n d : String} {ty : FieldType} {fs : List (String × String × Value)} {v old : Value} {H1 : Hp} (hd : Dec M pc (.putfield idx) 3 pc') (w : (Cond.fieldLink M.1.cls idx C n d).before K.2.2.1 K.2.1 = true)
    (wl : (Cond.lays C C n d).before K.2.2.1 K.2.1 = true ∨ ((Cond.laysFinal C C n d).before K.2.2.1 K.2.1 = true ∧ M.1.cls = C ∧ M.1.name = "<init>")) (wi : (Cond.instantiable C kk).before K.2.2.1 K.2.1 = true) (hty : parseFieldDescriptor d = some ty) (hv : PutOk ty v)
    (hH : H[i]? = some (.inl (C, fs))) (hf : fs[j]? = some (n, d, old)) (hH1 : H.set i (.inl (C, fs.set j (n, d, v))) = H1) (h : Go K M F Lo pc' ls st H1 r) : Go K M F Lo pc ls (v :: .ref i :: st) H r := by
  obtain ⟨hd, rfl⟩ := hd
  intro R cells slots p e s m args below meth c T locs a1 a2 a3 a4 b1 b2 b3 b4 b5 b6 b7 b8 X S N
  subst hH1
  have C0 := S.2 i _ hH
  have Fl := (C0.2.2 _ (List.mem_of_getElem? hf)).2.2
  have L0 : Laid K.2.1 K.2.2.1 C C n d := wl.imp id (fun q => q.1)
  obtain ⟨T', h', X', e', W, stp⟩ := putF X b1 b2 b7 (host := "") (Or.inl w) Via.refl rfl Fl C0.1 (wl.imp id (fun q => ⟨q.1, q.2.1, b8.trans q.2.2⟩)) wi hty (hv K.2.2.2).1 (hv K.2.2.2).2 (g := mkF m pc (LL K.2.2.2 ls) (SS K.2.2.2 (v :: .ref i :: st))) rfl rfl (b3 ▸ hd)
  subst e'
  obtain ⟨s₂, L, q1, q⟩ := h R cells slots p e s m args below meth c T' _ a1 a2 a3 a4 b1 b2 b3 b4 b5 b6 b7 b8 X' (S.set W hH (fields_set C0 hf hty L0 W)) (Fr.snoc X' N (Nat.le_add_right _ _))
  exact ⟨s₂, L, stp _ q1, q⟩
/-! ## 7. new -/
theorem sv_dflt (n0 : Nat) (ty : FieldType) : sv n0 (defaultValue ty) = defaultValue ty := by cases ty <;> rfl
theorem Go.new {idx k i : Nat} {C : String} (fs : List (String × String × Value)) {rv : Option Value} {H' : Option Hp} {dct dst : Nat} (hd : Dec M pc (.new idx) 3 pc') (w1 : (Cond.classLink M.1.cls idx C).before K.2.2.1 K.2.1 = true) (w2 : (Cond.instantiable C k).before K.2.2.1 K.2.1 = true) (w3 : (Cond.initialized C).before K.2.2.1 K.2.1 = true)
    (hnd : (fs.map (fun f => f.1)).Nodup) (hfs : ∀ f ∈ fs, Laid K.2.1 K.2.2.1 C C f.1 f.2.1 ∧ ∃ ty, parseFieldDescriptor f.2.1 = some ty ∧ f.2.2 = defaultValue ty) (hi : H.length = i)
    (dc ds : Nat) (hdc : dc + 1 ≤ dct) (hds : ds + k ≤ dst) (h : Go K M F Lo pc' ls (.ref i :: st) (H ++ [.inl (C, fs)]) (rv, H', dc, ds)) : Go K M F Lo pc ls st H (rv, H', dct, dst) := by
  obtain ⟨hd, rfl⟩ := hd
  intro R cells slots p e s m args below meth c T locs a1 a2 a3 a4 b1 b2 b3 b4 b5 b6 b7 b8 X S N
  subst hi
  have a3' : cells + dct ≤ R.cells := a3
  have a4' : slots + dst ≤ R.slots := a4
  obtain ⟨vm', cC, kC, h1, h2, h3, h4, X', stp⟩ := X.newCold b1 b7 (mv b2 w1) (mv b2 w2) (mv b2 w3) (g := mkF m pc (LL K.2.2.2 ls) (SS K.2.2.2 st)) rfl (b3 ▸ hd) (by omega) (by omega)
  rw [b2.alike.findClass] at h1
  obtain ⟨kZ, z1, -⟩ := Vm.findClass_spec h1
  obtain ⟨k', z2, z3⟩ := b2.alike.2.2 _ _ z1
  cases h2.symm.trans z2
  have ei : kC.instanceTypes = kZ.instanceTypes := by rw [z3]
  have hN : (T.heap.push { cls := cC, slots := kC.instanceTypes.map defaultValue, vm := .none })[T.heap.size]? = some { cls := cC, slots := kC.instanceTypes.map defaultValue, vm := .none } := by simp
  have E : Ext T.heap (T.heap.push { cls := cC, slots := kC.instanceTypes.map defaultValue, vm := .none }) := ⟨by simp, fun a c h => by
    rw [Array.getElem?_push_lt (Array.getElem?_eq_some_iff.mp h).1]; exact (Array.getElem?_eq_getElem _).symm.trans h⟩
  have S' : Sim K (T.heap.push { cls := cC, slots := kC.instanceTypes.map defaultValue, vm := .none }) (H ++ [.inl (C, fs)]) := by
    refine S.push E (by simp) ?_
    rw [← S.1]
    refine ⟨⟨_, kZ, hN, h1, z1, rfl, fun _ => by simp [ei]⟩, hnd, fun f hf => ?_⟩
    obtain ⟨Lf, ty, ht, hv⟩ := hfs f hf
    refine ⟨Lf, ⟨ty, ht⟩, ?_⟩
    rw [hv, sv_dflt]
    obtain ⟨c1, k1, cf, kf, i, f', y1, y2, y3, y4, y5, y6, -⟩ := Lf.spec
    cases h1.symm.trans y1
    cases z1.symm.trans y2
    exact ⟨_, cf, kf, i, f', hN, y3, y4, by simp, rfl, y5, by simp [ei, y6, (State.fieldFound?_type y3 ht).2]⟩
  obtain ⟨s₂, L, q1, q2, q3, q4, q5, q6⟩ := h R (cells + 1) (slots + k) p e s m args below meth c _ locs a1 a2 (by show cells + 1 + dc ≤ _; omega) (by show slots + k + ds ≤ _; omega) b1 b2 b3 b4 b5 b6 b7 b8 X' S' N
  refine ⟨s₂, L, stp _ ?_, q2, q3, q4, q5, q6.1, q6.2.1, q6.2.2.mono (by show cells + 1 + dc ≤ cells + dct; omega) (by show slots + k + ds ≤ slots + dst; omega)⟩
  have e : SS K.2.2.2 (.ref H.length :: st) = .ref T.heap.size :: SS K.2.2.2 st := by rw [S.1]; rfl
  rw [e] at q1
  exact q1
theorem Go.newarray {aty : ArrayType} {t : FieldType} {n : Int32} {i : Nat} (cap : Nat) {vs : List Value} {rv : Option Value} {H' : Option Hp} {dct dst : Nat} (hd : Dec M pc (.newarray aty) 2 pc') (w : (Cond.arrayClass (newarray.typeOf aty)).before K.2.2.1 K.2.1 = true) (ht : newarray.typeOf aty = t)
    (hn : ¬ n < 0) (hcap : n.toNatClampNeg ≤ cap) (hb : cap * 8 ≤ 536870912) (hvs : List.replicate n.toNatClampNeg (defaultValue t) = vs) (hi : H.length = i)
    (dc ds : Nat) (hdc : dc + 1 ≤ dct) (hds : ds + cap ≤ dst) (h : Go K M F Lo pc' ls (.ref i :: st) (H ++ [.inr (t, vs)]) (rv, H', dc, ds)) : Go K M F Lo pc ls (.int n :: st) H (rv, H', dct, dst) := by
  obtain ⟨hd, rfl⟩ := hd
  intro R cells slots p e s m args below meth c T locs a1 a2 a3 a4 b1 b2 b3 b4 b5 b6 b7 b8 X S N
  subst hi ht hvs
  have a3' : cells + dct ≤ R.cells := a3
  have a4' : slots + dst ≤ R.slots := a4
  have hcb : componentBytes (newarray.typeOf aty) ≤ 8 := by cases aty <;> decide
  obtain ⟨cA, kA, comp, h1, h2, h3, X', stp⟩ := X.newarrayPrim b1 (mvA b2 w) (g := mkF m pc (LL K.2.2.2 ls) (SS K.2.2.2 (.int n :: st))) rfl (b3 ▸ hd) (n := n) (rest := SS K.2.2.2 st) rfl hn (Nat.le_trans (Nat.mul_le_mul hcap hcb) hb) (by omega) (by omega)
  rw [b2.alike.findClass] at h1
  obtain ⟨kZ, z1, -⟩ := Vm.findClass_spec h1
  obtain ⟨k', z2, z3⟩ := b2.alike.2.2 _ _ z1
  cases h2.symm.trans z2
  have hN : (T.heap.push { cls := cA, slots := Array.replicate n.toNatClampNeg (defaultValue (newarray.typeOf aty)), vm := .none })[T.heap.size]? = some { cls := cA, slots := Array.replicate n.toNatClampNeg (defaultValue (newarray.typeOf aty)), vm := .none } := by simp
  have E : Ext T.heap (T.heap.push { cls := cA, slots := Array.replicate n.toNatClampNeg (defaultValue (newarray.typeOf aty)), vm := .none }) := ⟨by simp, fun a c h => by
    rw [Array.getElem?_push_lt (Array.getElem?_eq_some_iff.mp h).1]; exact (Array.getElem?_eq_getElem _).symm.trans h⟩
  have S' : Sim K (T.heap.push { cls := cA, slots := Array.replicate n.toNatClampNeg (defaultValue (newarray.typeOf aty)), vm := .none }) (H ++ [.inr (newarray.typeOf aty, List.replicate n.toNatClampNeg (defaultValue (newarray.typeOf aty)))]) := by
    refine S.push E (by simp) ?_
    rw [← S.1]
    refine ⟨_, ⟨hN, ⟨by simp, kZ, z1, comp, by rw [← h3, z3]⟩, by simp⟩, ?_⟩
    simp [sv_dflt]
  obtain ⟨s₂, L, q1, q2, q3, q4, q5, q6⟩ := h R (cells + 1) (slots + cap) p e s m args below meth c _ locs a1 a2 (by show cells + 1 + dc ≤ _; omega) (by show slots + cap + ds ≤ _; omega) b1 b2 b3 b4 b5 b6 b7 b8 (X'.more (Nat.le_refl _) (by omega)) S' N
  refine ⟨s₂, L, stp _ ?_, q2, q3, q4, q5, q6.1, q6.2.1, q6.2.2.mono (by show cells + 1 + dc ≤ cells + dct; omega) (by show slots + cap + ds ≤ slots + dst; omega)⟩
  have e : SS K.2.2.2 (.ref H.length :: st) = .ref T.heap.size :: SS K.2.2.2 st := by rw [S.1]; rfl
  rw [e] at q1
  exact q1
/-! ## 8. arrays -/
theorem Go.arraylength {i : Nat} {t : FieldType} {vs : List Value} {z : Int32} (hd : Dec M pc .arraylength 1 pc') (hH : H[i]? = some (.inr (t, vs))) (hz : vs.length.toInt32 = z) (h : Go K M F Lo pc' ls (.int z :: st) H r) : Go K M F Lo pc ls (.ref i :: st) H r := by
  obtain ⟨hd, rfl⟩ := hd
  intro R cells slots p e s m args below meth c T locs a1 a2 a3 a4 b1 b2 b3 b4 b5 b6 b7 b8 X S N
  obtain ⟨cl, Ar, hc⟩ := S.2 i _ hH
  obtain ⟨s₂, L, q1, q⟩ := h R cells slots p e s m args below meth c T locs a1 a2 a3 a4 b1 b2 b3 b4 b5 b6 b7 b8 X S N
  refine ⟨s₂, L, X.arraylength b1 Ar.1 (State.isArrayOf_alike b2.alike Ar.2.1) (g := mkF m pc (LL K.2.2.2 ls) (SS K.2.2.2 (.ref i :: st))) rfl (rest := SS K.2.2.2 st) rfl (b3 ▸ hd) _ ?_, q⟩
  have e : cl.slots.size.toInt32 = z := by rw [hc, ← hz]; simp
  rw [e]; exact q1
theorem in_of {cl : Cell} {n0 : Nat} {vs : List Value} {j : Int32} {v : Value} (hc : cl.slots = (vs.map (sv n0)).toArray) (hj : ¬ j < 0) (hv : vs[j.toNatClampNeg]? = some v) : ¬ (j < 0 ∨ cl.slots.size ≤ j.toNatClampNeg) ∧ cl.slots[j.toNatClampNeg]? = some (sv n0 v) := by
  have hl := (List.getElem?_eq_some_iff.mp hv).1
  refine ⟨?_, by rw [hc]; simp [hv]⟩
  rintro (q | q)
  · exact hj q
  · rw [hc] at q; simp at q; omega
theorem Go.iaload {i : Nat} {vs : List Value} {j : Int32} {v : Value} (hd : Dec M pc .iaload 1 pc') (hH : H[i]? = some (.inr (.int, vs))) (hj : ¬ j < 0) (hv : vs[j.toNatClampNeg]? = some v) (h : Go K M F Lo pc' ls (v :: st) H r) : Go K M F Lo pc ls (.int j :: .ref i :: st) H r := by
  obtain ⟨hd, rfl⟩ := hd
  intro R cells slots p e s m args below meth c T locs a1 a2 a3 a4 b1 b2 b3 b4 b5 b6 b7 b8 X S N
  obtain ⟨cl, Ar, hc⟩ := S.2 i _ hH
  obtain ⟨hin, hat⟩ := in_of hc hj hv
  obtain ⟨s₂, L, q1, q⟩ := h R cells slots p e s m args below meth c T locs a1 a2 a3 a4 b1 b2 b3 b4 b5 b6 b7 b8 X S N
  exact ⟨s₂, L, X.iaload b1 Ar.1 (State.isArrayOf_alike b2.alike Ar.2.1) Ar.2.2 hin hat (g := mkF m pc (LL K.2.2.2 ls) (SS K.2.2.2 (.int j :: .ref i :: st))) rfl (rest := SS K.2.2.2 st) rfl (b3 ▸ hd) _ q1, q⟩
theorem Go.laload {i : Nat} {vs : List Value} {j : Int32} {v : Value} (hd : Dec M pc .laload 1 pc') (hH : H[i]? = some (.inr (.long, vs))) (hj : ¬ j < 0) (hv : vs[j.toNatClampNeg]? = some v) (h : Go K M F Lo pc' ls (v :: st) H r) : Go K M F Lo pc ls (.int j :: .ref i :: st) H r := by
  obtain ⟨hd, rfl⟩ := hd
  intro R cells slots p e s m args below meth c T locs a1 a2 a3 a4 b1 b2 b3 b4 b5 b6 b7 b8 X S N
  obtain ⟨cl, Ar, hc⟩ := S.2 i _ hH
  obtain ⟨hin, hat⟩ := in_of hc hj hv
  obtain ⟨s₂, L, q1, q⟩ := h R cells slots p e s m args below meth c T locs a1 a2 a3 a4 b1 b2 b3 b4 b5 b6 b7 b8 X S N
  exact ⟨s₂, L, X.laload b1 Ar.1 (State.isArrayOf_alike b2.alike Ar.2.1) Ar.2.2 hin hat (g := mkF m pc (LL K.2.2.2 ls) (SS K.2.2.2 (.int j :: .ref i :: st))) rfl (rest := SS K.2.2.2 st) rfl (b3 ▸ hd) _ q1, q⟩
theorem Go.caload {i : Nat} {vs : List Value} {j : Int32} {v : Value} (hd : Dec M pc .caload 1 pc') (hH : H[i]? = some (.inr (.char, vs))) (hj : ¬ j < 0) (hv : vs[j.toNatClampNeg]? = some v) (h : Go K M F Lo pc' ls (v :: st) H r) : Go K M F Lo pc ls (.int j :: .ref i :: st) H r := by
  obtain ⟨hd, rfl⟩ := hd
  intro R cells slots p e s m args below meth c T locs a1 a2 a3 a4 b1 b2 b3 b4 b5 b6 b7 b8 X S N
  obtain ⟨cl, Ar, hc⟩ := S.2 i _ hH
  obtain ⟨hin, hat⟩ := in_of hc hj hv
  obtain ⟨s₂, L, q1, q⟩ := h R cells slots p e s m args below meth c T locs a1 a2 a3 a4 b1 b2 b3 b4 b5 b6 b7 b8 X S N
  exact ⟨s₂, L, X.caload b1 Ar.1 (State.isArrayOf_alike b2.alike Ar.2.1) Ar.2.2 hin hat (g := mkF m pc (LL K.2.2.2 ls) (SS K.2.2.2 (.int j :: .ref i :: st))) rfl (rest := SS K.2.2.2 st) rfl (b3 ▸ hd) _ q1, q⟩
theorem Go.baload {i : Nat} {vs : List Value} {j : Int32} {v : Value} (hd : Dec M pc .baload 1 pc') (hH : H[i]? = some (.inr (.byte, vs))) (hj : ¬ j < 0) (hv : vs[j.toNatClampNeg]? = some v) (h : Go K M F Lo pc' ls (v :: st) H r) : Go K M F Lo pc ls (.int j :: .ref i :: st) H r := by
  obtain ⟨hd, rfl⟩ := hd
  intro R cells slots p e s m args below meth c T locs a1 a2 a3 a4 b1 b2 b3 b4 b5 b6 b7 b8 X S N
  obtain ⟨cl, Ar, hc⟩ := S.2 i _ hH
  obtain ⟨hin, hat⟩ := in_of hc hj hv
  obtain ⟨s₂, L, q1, q⟩ := h R cells slots p e s m args below meth c T locs a1 a2 a3 a4 b1 b2 b3 b4 b5 b6 b7 b8 X S N
  exact ⟨s₂, L, X.baloadBytes b1 Ar.1 (State.isArrayOf_alike b2.alike Ar.2.1) Ar.2.2 hin hat (g := mkF m pc (LL K.2.2.2 ls) (SS K.2.2.2 (.int j :: .ref i :: st))) rfl (rest := SS K.2.2.2 st) rfl (b3 ▸ hd) _ q1, q⟩
theorem arr_set {K : Ctx} {h h' : Heap} {a : Addr} {cl : Cell} {t : FieldType} {vs : List Value} {k : Nat} {v : Value} (Ar : Arr K.2.1 h a cl t) (hc : cl.slots = (vs.map (sv K.2.2.2)).toArray) (W : Wr h h' a k (sv K.2.2.2 v)) : COk K.2.1 K.2.2.1 K.2.2.2 h' a (.inr (t, vs.set k v)) :=
  ⟨_, Ar.same W, by simp [Cell.setSlot, hc, List.map_set]⟩
theorem Go.iastore {i : Nat} {vs : List Value} {j : Int32} {x : Int32} {H1 : Hp} (hd : Dec M pc .iastore 1 pc') (hH : H[i]? = some (.inr (.int, vs))) (hj : ¬ j < 0) (hl : j.toNatClampNeg < vs.length) (hH1 : H.set i (.inr (.int, vs.set j.toNatClampNeg (.int x))) = H1) (h : Go K M F Lo pc' ls st H1 r) : Go K M F Lo pc ls (.int x :: .int j :: .ref i :: st) H r := by
  obtain ⟨hd, rfl⟩ := hd
  intro R cells slots p e s m args below meth c T locs a1 a2 a3 a4 b1 b2 b3 b4 b5 b6 b7 b8 X S N
  subst hH1
  obtain ⟨cl, Ar, hc⟩ := S.2 i _ hH
  have hin : ¬ (j < 0 ∨ cl.slots.size ≤ j.toNatClampNeg) := by
    rintro (q | q)
    · exact hj q
    · rw [hc] at q; simp at q; omega
  obtain ⟨T', h', X', e', W, stp⟩ := stI X b1 b2 rfl Ar hin (g := mkF m pc (LL K.2.2.2 ls) (SS K.2.2.2 (.int x :: .int j :: .ref i :: st))) rfl (rest := SS K.2.2.2 st) rfl (b3 ▸ hd)
  subst e'
  obtain ⟨s₂, L, q1, q⟩ := h R cells slots p e s m args below meth c T' _ a1 a2 a3 a4 b1 b2 b3 b4 b5 b6 b7 b8 X' (S.set W hH (arr_set (v := .int x) Ar hc W)) (Fr.snoc X' N (Nat.le_add_right _ _))
  exact ⟨s₂, L, stp _ q1, q⟩
theorem Go.lastore {i : Nat} {vs : List Value} {j : Int32} {x : Int64} {H1 : Hp} (hd : Dec M pc .lastore 1 pc') (hH : H[i]? = some (.inr (.long, vs))) (hj : ¬ j < 0) (hl : j.toNatClampNeg < vs.length) (hH1 : H.set i (.inr (.long, vs.set j.toNatClampNeg (.long x))) = H1) (h : Go K M F Lo pc' ls st H1 r) : Go K M F Lo pc ls (.long x :: .int j :: .ref i :: st) H r := by
  obtain ⟨hd, rfl⟩ := hd
  intro R cells slots p e s m args below meth c T locs a1 a2 a3 a4 b1 b2 b3 b4 b5 b6 b7 b8 X S N
  subst hH1
  obtain ⟨cl, Ar, hc⟩ := S.2 i _ hH
  have hin : ¬ (j < 0 ∨ cl.slots.size ≤ j.toNatClampNeg) := by
    rintro (q | q)
    · exact hj q
    · rw [hc] at q; simp at q; omega
  obtain ⟨T', h', X', e', W, stp⟩ := stJ X b1 b2 rfl Ar hin (g := mkF m pc (LL K.2.2.2 ls) (SS K.2.2.2 (.long x :: .int j :: .ref i :: st))) rfl (rest := SS K.2.2.2 st) rfl (b3 ▸ hd)
  subst e'
  obtain ⟨s₂, L, q1, q⟩ := h R cells slots p e s m args below meth c T' _ a1 a2 a3 a4 b1 b2 b3 b4 b5 b6 b7 b8 X' (S.set W hH (arr_set (v := .long x) Ar hc W)) (Fr.snoc X' N (Nat.le_add_right _ _))
  exact ⟨s₂, L, stp _ q1, q⟩
theorem Go.castore {i : Nat} {vs : List Value} {j : Int32} {x : Int32} {H1 : Hp} (hd : Dec M pc .castore 1 pc') (hH : H[i]? = some (.inr (.char, vs))) (hj : ¬ j < 0) (hl : j.toNatClampNeg < vs.length) (hH1 : H.set i (.inr (.char, vs.set j.toNatClampNeg (.int (nar .char x)))) = H1) (h : Go K M F Lo pc' ls st H1 r) : Go K M F Lo pc ls (.int x :: .int j :: .ref i :: st) H r := by
  obtain ⟨hd, rfl⟩ := hd
  intro R cells slots p e s m args below meth c T locs a1 a2 a3 a4 b1 b2 b3 b4 b5 b6 b7 b8 X S N
  subst hH1
  obtain ⟨cl, Ar, hc⟩ := S.2 i _ hH
  have hin : ¬ (j < 0 ∨ cl.slots.size ≤ j.toNatClampNeg) := by
    rintro (q | q)
    · exact hj q
    · rw [hc] at q; simp at q; omega
  obtain ⟨T', h', X', e', W, stp⟩ := stC X b1 b2 rfl Ar hin (g := mkF m pc (LL K.2.2.2 ls) (SS K.2.2.2 (.int x :: .int j :: .ref i :: st))) rfl (rest := SS K.2.2.2 st) rfl (b3 ▸ hd)
  subst e'
  obtain ⟨s₂, L, q1, q⟩ := h R cells slots p e s m args below meth c T' _ a1 a2 a3 a4 b1 b2 b3 b4 b5 b6 b7 b8 X' (S.set W hH (arr_set (v := .int (nar .char x)) Ar hc W)) (Fr.snoc X' N (Nat.le_add_right _ _))
  exact ⟨s₂, L, stp _ q1, q⟩
theorem Go.bastore {i : Nat} {vs : List Value} {j : Int32} {x : Int32} {H1 : Hp} (hd : Dec M pc .bastore 1 pc') (hH : H[i]? = some (.inr (.byte, vs))) (hj : ¬ j < 0) (hl : j.toNatClampNeg < vs.length) (hH1 : H.set i (.inr (.byte, vs.set j.toNatClampNeg (.int (nar .byte x)))) = H1) (h : Go K M F Lo pc' ls st H1 r) : Go K M F Lo pc ls (.int x :: .int j :: .ref i :: st) H r := by
  obtain ⟨hd, rfl⟩ := hd
  intro R cells slots p e s m args below meth c T locs a1 a2 a3 a4 b1 b2 b3 b4 b5 b6 b7 b8 X S N
  subst hH1
  obtain ⟨cl, Ar, hc⟩ := S.2 i _ hH
  have hin : ¬ (j < 0 ∨ cl.slots.size ≤ j.toNatClampNeg) := by
    rintro (q | q)
    · exact hj q
    · rw [hc] at q; simp at q; omega
  obtain ⟨T', h', X', e', W, stp⟩ := stB X b1 b2 rfl Ar hin (g := mkF m pc (LL K.2.2.2 ls) (SS K.2.2.2 (.int x :: .int j :: .ref i :: st))) rfl (rest := SS K.2.2.2 st) rfl (b3 ▸ hd)
  subst e'
  obtain ⟨s₂, L, q1, q⟩ := h R cells slots p e s m args below meth c T' _ a1 a2 a3 a4 b1 b2 b3 b4 b5 b6 b7 b8 X' (S.set W hH (arr_set (v := .int (nar .byte x)) Ar hc W)) (Fr.snoc X' N (Nat.le_add_right _ _))
  exact ⟨s₂, L, stp _ q1, q⟩
/-! ## 9. returns -/
theorem Go.retW {i : Instr} {v : Value} {t : FieldType} {dc ds : Nat} {H' : Option Hp} (hH : HOk H H') (hd : Dec M pc i 1 pc') (ht : M.2.2.2 = some t) (hn : ∀ n0, narrow t (sv n0 v) = sv n0 v)
    (hi : ∀ n0, (i = .ireturn ∧ (t = .int ∨ t = .boolean ∨ t = .byte ∨ t = .char ∨ t = .short) ∧ ∃ z, sv n0 v = .int z) ∨ (i = .lreturn ∧ t = .long ∧ ∃ z, sv n0 v = .long z) ∨ (i = .dreturn ∧ t = .double ∧ ∃ z, sv n0 v = .double z) ∨ (i = .freturn ∧ t = .float ∧ ∃ z, sv n0 v = .float z) ∨ (i = .areturn ∧ t.isReference = true ∧ (sv n0 v).isRef = true)) : Go K M F Lo pc ls (v :: st) H (some v, H', dc, ds) := by
  intro R cells slots p e s m args below meth c T locs a1 a2 a3 a4 b1 b2 b3 b4 b5 b6 b7 b8 X S N
  obtain ⟨fs, hr, hrun, hended, hW, hsame⟩ := X.leave (v := some (sv K.2.2.2 v)) (fun q => by rw [b5, ht] at q; cases q) b6
  exact ⟨_, locs, retOut X b1 (b5.trans ht) (hn _) (hi _) (b3 ▸ hd.1) hr, hrun, hended, hH.fin S, N, ⟨_, rfl⟩, hW, hsame.mono (Nat.le_add_right _ _) (Nat.le_add_right _ _)⟩
theorem Go.ireturn {v : Int32} {dc ds : Nat} {rv : Option Value} {H' : Option Hp} (hd : Dec M pc .ireturn 1 pc') (ht : M.2.2.2 = some .int) (hv : rv = some (.int v)) (hH : HOk H H') : Go K M F Lo pc ls (.int v :: st) H (rv, H', dc, ds) := by
  subst hv
  exact Go.retW hH hd ht (fun _ => rfl) (fun _ => Or.inl ⟨rfl, Or.inl rfl, _, rfl⟩)
theorem Go.ireturnZ {v : Int32} {dc ds : Nat} {rv : Option Value} {H' : Option Hp} (hd : Dec M pc .ireturn 1 pc') (ht : M.2.2.2 = some .boolean) (h01 : v = 0 ∨ v = 1) (hv : rv = some (.int v)) (hH : HOk H H') : Go K M F Lo pc ls (.int v :: st) H (rv, H', dc, ds) := by
  subst hv
  exact Go.retW hH hd ht (fun _ => by rcases h01 with rfl | rfl <;> rfl) (fun _ => Or.inl ⟨rfl, Or.inr (Or.inl rfl), _, rfl⟩)
theorem Go.lreturn {v : Int64} {dc ds : Nat} {rv : Option Value} {H' : Option Hp} (hd : Dec M pc .lreturn 1 pc') (ht : M.2.2.2 = some .long) (hv : rv = some (.long v)) (hH : HOk H H') : Go K M F Lo pc ls (.long v :: st) H (rv, H', dc, ds) := by
  subst hv
  exact Go.retW hH hd ht (fun _ => rfl) (fun _ => Or.inr (Or.inl ⟨rfl, rfl, _, rfl⟩))
theorem Go.areturn {v : Value} {t : FieldType} {dc ds : Nat} {rv : Option Value} {H' : Option Hp} (hd : Dec M pc .areturn 1 pc') (ht : M.2.2.2 = some t) (htr : t.isReference = true) (hr : v.isRef = true) (hv : rv = some v) (hH : HOk H H') : Go K M F Lo pc ls (v :: st) H (rv, H', dc, ds) := by
  subst hv
  refine Go.retW hH hd ht (fun _ => ?_) (fun _ => Or.inr (Or.inr (Or.inr (Or.inr ⟨rfl, htr, by rw [sv_ref]; exact hr⟩))))
  rcases ref_cases hr with rfl | ⟨a, rfl⟩ <;> cases t <;> first | rfl | (simp [FieldType.isReference] at htr)
theorem Go.ret {dc ds : Nat} {rv : Option Value} {H' : Option Hp} (hd : Dec M pc .return_ 1 pc') (ht : M.2.2.2 = none) (hv : rv = none) (hH : HOk H H') : Go K M F Lo pc ls [] H (rv, H', dc, ds) := by
  subst hv
  intro R cells slots p e s m args below meth c T locs a1 a2 a3 a4 b1 b2 b3 b4 b5 b6 b7 b8 X S N
  obtain ⟨fs, hr, hrun, hended, hW, hsame⟩ := X.leave (v := none) (fun _ => rfl) b6
  exact ⟨_, locs, X.returnOut b1 (b5.trans ht) (b3 ▸ hd.1) hr, hrun, hended, hH.fin S, N, ⟨_, rfl⟩, hW, hsame.mono (Nat.le_add_right _ _) (Nat.le_add_right _ _)⟩
/-! ## 10. a whole invocation; calls -/
def ent (as : List Value) (mx : Nat) : List Slot := Jvm.Sym.laidSlots as ++ List.replicate (mx - (Jvm.Sym.laidSlots as).length) .unset
theorem laid_map (n0 : Nat) (as : List Value) : Jvm.Sym.laidSlots (as.map (sv n0)) = (Jvm.Sym.laidSlots as).map (ss n0) := by
  induction as with
  | nil => rfl
  | cons v r ih =>
    simp only [List.map_cons, Jvm.Sym.laidSlots, sv_cat, ih]
    split <;> rfl
theorem ent_map (n0 : Nat) (as : List Value) (mx : Nat) : Jvm.Sym.laidSlots (as.map (sv n0)) ++ List.replicate (mx - (Jvm.Sym.laidSlots (as.map (sv n0))).length) .unset = (LL n0 (ent as mx)).toList := by
  rw [laid_map, List.length_map, LL, ent, List.map_append, List.map_replicate]
  rfl
theorem Go.met {as : List Value} {ws : List Jvm.Cond} {rm : Room} {h : Heap} {rv : Option Value} {H' : Option Hp} (hpn : plainFor M.1 = true) (S : Sim K h H) (hls : ent as M.2.2.1 = ls) (g : Go K M rm.frames rm.locals 0 ls [] H (rv, H', rm.cells, rm.slots)) :
    MetFree K.1 M.1 (head1 (Jvm.Cond.code M.1 M.2.1 M.2.2.1 M.2.2.2 :: ws) rm) (fun a U => a = (SS K.2.2.2 as).toArray ∧ K.2.1.Warmed39 U.vm ∧ U.heap = h) (fun _ _ _ _ _ => True)
      (fun _ U o U' => ∃ v L, o = .returned v ∧ (v = rv.map (sv K.2.2.2) ∧ FinH K U'.heap H' ∧ Fr K.2.2.2 L) ∧ FrameEnd U o U' L rm.cells rm.slots) := by
  refine MetFree.of_bodySF hpn hisR ?_
  intro p e s m args below meth c s₁ Bd hml0 hP hK
  obtain ⟨rfl, hZ, hh⟩ := hP
  subst hls
  have X0 : Stand p K.1 e rm s m (SS K.2.2.2 as).toArray below meth c s₁ [] 0 0 := Stand.of_body Bd
  have e0 : s₁.heap = h := by rw [← hh, Bd.state]; rfl
  obtain ⟨s₂, L, q1, q2, q3, q4, q5, q6⟩ := g rm 0 0 p e s m _ below meth c s₁ [] (Nat.le_refl _) (Nat.le_refl _) (Nat.le_of_eq (Nat.zero_add _)) (Nat.le_of_eq (Nat.zero_add _)) Bd.exec hZ Bd.bytes hml0 Bd.returns Bd.notSynchronized (findClass_of_methodNamed Bd.named) (name_of_methodNamed Bd.named Bd.method).1 X0 (by rw [e0]; exact S) (Fr.nil _)
  refine ⟨s₂, _, (XT.entry (Ls := LL K.2.2.2 (ent as M.2.2.1)) (by simpa using ent_map K.2.2.2 as M.2.2.1)).trans q1, q2, q3, _, L, rfl, ⟨rfl, q4, q5⟩, ?_⟩
  have e1 : (0 : Nat) + rm.cells = rm.cells := Nat.zero_add _
  have e2 : (0 : Nat) + rm.slots = rm.slots := Nat.zero_add _
  simp only [e1, e2] at q6
  exact q6
def MInfo (M : Mt) (na : Nat) : Prop := plainFor M.1 = true ∧ (M.1.cls ≠ "java/lang/invoke/MethodHandle" ∧ M.1.cls ≠ "java/lang/invoke/VarHandle") ∧ (parseMethodDescriptor M.1.desc).map (fun q => q.parameters.length) = some na
instance (M : Mt) (na : Nat) : Decidable (MInfo M na) := inferInstanceAs (Decidable (_ ∧ _ ∧ _))
theorem MInfo.len {M : Mt} {na : Nat} (mi : MInfo M na) {n0 : Nat} {as : List Value} (h : as.length = na) : ∀ sig, parseMethodDescriptor M.1.desc = some sig → (SS n0 as).length = sig.parameters.length := fun sig hs => by
  have q := mi.2.2
  rw [hs] at q
  rw [List.length_map, h]
  exact (Option.some.inj q).symm
theorem Go.back {M' : Mt} {F' Lo' W dc1 ds1 : Nat} {as : List Value} {ls1 : List Slot} {h : Heap} {rv1 : Option Value} {H1 : Hp} {R : Room} {p : Program} {e : Env} {below : List Frame} {s : State} {sargs : Array Value} (g : Go K M' F' Lo' 0 ls1 [] H (rv1, some H1, dc1, ds1)) (hls : ent as M'.2.2.1 = ls1) (hpn : plainFor M'.1 = true) (S : Sim K h H)
    (hZ : K.2.1.Warmed39 s.vm) (wc : (Jvm.Cond.code M'.1 M'.2.1 M'.2.2.1 M'.2.2.2).before K.2.2.1 K.2.1 = true) (wz : (Jvm.Cond.initialized M'.1.cls).before K.2.2.1 K.2.1 = true) (hf : F' + 1 ≤ R.frames) (hl : W + (M'.2.2.1 + 11) + Lo' ≤ R.locals) :
    Back K.1 R p e below s sargs M'.1 3 W (fun A a => a = (SS K.2.2.2 as).toArray ∧ A.U.heap = h ∧ A.cells + dc1 ≤ R.cells ∧ A.slots + ds1 ≤ R.slots)
      (fun A _ v B => ∃ L, (v = rv1.map (sv K.2.2.2) ∧ FinH K B.U.heap (some H1) ∧ Fr K.2.2.2 L) ∧ B.locs = A.locs ++ L ∧ B.cells = A.cells + dc1 ∧ B.slots = A.slots + ds1) :=
  backOf (rm := ({ frames := F', cells := dc1, slots := ds1, locals := Lo' } : Room)) (Q := fun v hp L => v = rv1.map (sv K.2.2.2) ∧ FinH K hp (some H1) ∧ Fr K.2.2.2 L) (Go.met (ws := []) hpn S hls g) hZ wc wz hf hl
theorem SS_app (n0 : Nat) (as st : List Value) : SS n0 (as.reverse ++ st) = (SS n0 as).reverse ++ SS n0 st := by simp [SS]
theorem SS_ret (n0 : Nat) (rv : Option Value) (st : List Value) : (rv.map (sv n0)).toList ++ SS n0 st = SS n0 (rv.toList ++ st) := by cases rv <;> rfl
theorem Go.callS {idx na W F' Lo' dc1 ds1 dct dst : Nat} {M' : Mt} {as : List Value} {ls1 : List Slot} {st0 : List Value} {rv1 rv : Option Value} {H1 : Hp} {H' : Option Hp} (hd : Dec M pc (.invokestatic idx) 3 pc') (w1 : (Jvm.Cond.methodLink M.1.cls idx M'.1).before K.2.2.1 K.2.1 = true) (w2 : (Jvm.Cond.static M'.1).before K.2.2.1 K.2.1 = true) (w3 : (Jvm.Cond.initialized M'.1.cls).before K.2.2.1 K.2.1 = true) (w4 : (Jvm.Cond.code M'.1 M'.2.1 M'.2.2.1 M'.2.2.2).before K.2.2.1 K.2.1 = true)
    (mi : MInfo M' na) (has : as.length = na) (hsz : ls.length = M.2.2.1) (hst : as.reverse ++ st = st0) (hls : ent as M'.2.2.1 = ls1) (hW : (st.map fun v => v.category).sum = W) (hF : F' + 1 ≤ F) (hLo : W + (M'.2.2.1 + 11) + Lo' ≤ Lo) (g : Go K M' F' Lo' 0 ls1 [] H (rv1, some H1, dc1, ds1))
    (dc ds : Nat) (hdc : dc + dc1 ≤ dct) (hds : ds + ds1 ≤ dst) (h : Go K M F Lo pc' ls (rv1.toList ++ st) H1 (rv, H', dc, ds)) : Go K M F Lo pc ls st0 H (rv, H', dct, dst) := by
  obtain ⟨hd, rfl⟩ := hd
  intro R cells slots p e s m args below meth c T locs a1 a2 a3 a4 b1 b2 b3 b4 b5 b6 b7 b8 X S N
  subst hst
  have a3' : cells + dct ≤ R.cells := a3
  have a4' : slots + dst ≤ R.slots := a4
  obtain ⟨v, vm₁, ⟨T', L1, k1, n1⟩, -, X', ⟨Lc, ⟨hv, S', N'⟩, l1, l2, l3⟩, stp⟩ := Jvm.LawKit.callS X b1 (y := M'.1) b7 (mvT b2 w1) (mvT b2 w2) (mvT b2 w3) (mvT b2 w4) mi.2.1 (g.back (W := W) hls mi.1 S b2 w4 w3 (Nat.le_trans hF a1) (Nat.le_trans hLo a2)) (g := mkF m pc (LL K.2.2.2 ls) (SS K.2.2.2 (as.reverse ++ st))) rfl (by rw [b4, ← hsz]; exact LL_size _ _) (argsL := SS K.2.2.2 as) (rest := SS K.2.2.2 st) (mi.len has) (SS_app _ _ _) (by show 2 * 0 + _ ≤ W; rw [cats, hW]; omega) (b3 ▸ hd) (fun _ _ => ⟨rfl, rfl, by show cells + dc1 ≤ _; omega, by show slots + ds1 ≤ _; omega⟩)
  dsimp only [Pt.U, Pt.locs, Pt.cells, Pt.slots] at X' l1 l2 l3 stp S' hv
  subst l1 l2 l3 hv
  obtain ⟨s₂, L, q1, q2, q3, q4, q5, q6⟩ := h R (cells + dc1) (slots + ds1) p e s m args below meth c T' _ a1 a2 (by show cells + dc1 + dc ≤ _; omega) (by show slots + ds1 + ds ≤ _; omega) b1 b2 b3 b4 b5 b6 b7 b8 X' (S' _ rfl) (N.app N')
  refine ⟨s₂, L, stp _ ?_, q2, q3, q4, q5, q6.1, q6.2.1, q6.2.2.mono (by show cells + dc1 + dc ≤ cells + dct; omega) (by show slots + ds1 + ds ≤ slots + dst; omega)⟩
  rw [← SS_ret] at q1
  exact q1
theorem Go.callI {idx na W F' Lo' dc1 ds1 dct dst i : Nat} {M' : Mt} {as : List Value} {ls1 : List Slot} {st0 : List Value} {rv1 rv : Option Value} {H1 : Hp} {H' : Option Hp} (hd : Dec M pc (.invokespecial idx) 3 pc') (hnm : M'.1.name = "<init>") (hrn : M'.2.2.2 = none) (w1 : (Jvm.Cond.methodLink M.1.cls idx M'.1).before K.2.2.1 K.2.1 = true) (w2 : (Jvm.Cond.instanceMethod M'.1).before K.2.2.1 K.2.1 = true) (w3 : (Jvm.Cond.initialized M'.1.cls).before K.2.2.1 K.2.1 = true) (w4 : (Jvm.Cond.code M'.1 M'.2.1 M'.2.2.1 M'.2.2.2).before K.2.2.1 K.2.1 = true)
    (mi : MInfo M' na) (has : as.length = na) (hsz : ls.length = M.2.2.1) (hst : as.reverse ++ .ref i :: st = st0) (hls : ent (.ref i :: as) M'.2.2.1 = ls1) (hW : (st.map fun v => v.category).sum = W) (hF : F' + 1 ≤ F) (hLo : W + (M'.2.2.1 + 11) + Lo' ≤ Lo) (g : Go K M' F' Lo' 0 ls1 [] H (rv1, some H1, dc1, ds1))
    (dc ds : Nat) (hdc : dc + dc1 ≤ dct) (hds : ds + ds1 ≤ dst) (h : Go K M F Lo pc' ls (rv1.toList ++ st) H1 (rv, H', dc, ds)) : Go K M F Lo pc ls st0 H (rv, H', dct, dst) := by
  obtain ⟨hd, rfl⟩ := hd
  intro R cells slots p e s m args below meth c T locs a1 a2 a3 a4 b1 b2 b3 b4 b5 b6 b7 b8 X S N
  subst hst
  have a3' : cells + dct ≤ R.cells := a3
  have a4' : slots + dst ≤ R.slots := a4
  have hstk : SS K.2.2.2 (as.reverse ++ .ref i :: st) = (SS K.2.2.2 as).reverse ++ .ref (K.2.2.2 + i) :: SS K.2.2.2 st := SS_app _ _ _
  obtain ⟨v, vm₁, ⟨T', L1, k1, n1⟩, -, X', ⟨Lc, ⟨hv, S', N'⟩, l1, l2, l3⟩, stp⟩ := X.specialBack b1 (y := M'.1) hnm b7 (mvT b2 w1) (mvT b2 w2) (mvT b2 (hrn ▸ w4)) mi.2.1 (g.back (as := .ref i :: as) (W := W) hls mi.1 S b2 w4 w3 (Nat.le_trans hF a1) (Nat.le_trans hLo a2)) (g := mkF m pc (LL K.2.2.2 ls) (SS K.2.2.2 (as.reverse ++ .ref i :: st))) rfl (by rw [b4, ← hsz]; exact LL_size _ _) (Steps.refl _) (a := K.2.2.2 + i) (argsL := SS K.2.2.2 as) (rest := SS K.2.2.2 st) (mi.len has) hstk (by show 2 * 0 + _ ≤ W; rw [cats, hW]; omega) (b3 ▸ hd) (fun _ _ => ⟨rfl, rfl, by show cells + dc1 ≤ _; omega, by show slots + ds1 ≤ _; omega⟩)
  dsimp only [Pt.U, Pt.locs, Pt.cells, Pt.slots] at X' l1 l2 l3 stp S' hv
  subst l1 l2 l3 hv
  obtain ⟨s₂, L, q1, q2, q3, q4, q5, q6⟩ := h R (cells + dc1) (slots + ds1) p e s m args below meth c T' _ a1 a2 (by show cells + dc1 + dc ≤ _; omega) (by show slots + ds1 + ds ≤ _; omega) b1 b2 b3 b4 b5 b6 b7 b8 X' (S' _ rfl) (N.app N')
  refine ⟨s₂, L, stp.trans ?_, q2, q3, q4, q5, q6.1, q6.2.1, q6.2.2.mono (by show cells + dc1 + dc ≤ cells + dct; omega) (by show slots + ds1 + ds ≤ slots + dst; omega)⟩
  rw [← SS_ret] at q1
  exact q1
theorem Go.callV {idx na W F' Lo' dc1 ds1 dct dst i : Nat} {M' : Mt} {as : List Value} {ls1 : List Slot} {st0 : List Value} {rv1 rv : Option Value} {H1 : Hp} {H' : Option Hp} {fs : List (String × String × Value)} (hd : Dec M pc (.invokevirtual idx) 3 pc') (hH : H[i]? = some (.inl (M'.1.cls, fs))) (w1 : (Jvm.Cond.methodLink M.1.cls idx M'.1).before K.2.2.1 K.2.1 = true) (w2 : (Jvm.Cond.instanceMethod M'.1).before K.2.2.1 K.2.1 = true) (w3 : (Jvm.Cond.initialized M'.1.cls).before K.2.2.1 K.2.1 = true) (w5 : (Jvm.Cond.declares M'.1).before K.2.2.1 K.2.1 = true) (w6 : (Jvm.Cond.selects M'.1.cls M'.1 M'.1).before K.2.2.1 K.2.1 = true) (w4 : (Jvm.Cond.code M'.1 M'.2.1 M'.2.2.1 M'.2.2.2).before K.2.2.1 K.2.1 = true)
    (mi : MInfo M' na) (has : as.length = na) (hsz : ls.length = M.2.2.1) (hst : as.reverse ++ .ref i :: st = st0) (hls : ent (.ref i :: as) M'.2.2.1 = ls1) (hW : (st.map fun v => v.category).sum = W) (hF : F' + 1 ≤ F) (hLo : W + (M'.2.2.1 + 11) + Lo' ≤ Lo) (g : Go K M' F' Lo' 0 ls1 [] H (rv1, some H1, dc1, ds1))
    (dc ds : Nat) (hdc : dc + dc1 ≤ dct) (hds : ds + ds1 ≤ dst) (h : Go K M F Lo pc' ls (rv1.toList ++ st) H1 (rv, H', dc, ds)) : Go K M F Lo pc ls st0 H (rv, H', dct, dst) := by
  obtain ⟨hd, rfl⟩ := hd
  intro R cells slots p e s m args below meth c T locs a1 a2 a3 a4 b1 b2 b3 b4 b5 b6 b7 b8 X S N
  subst hst
  have a3' : cells + dct ≤ R.cells := a3
  have a4' : slots + dst ≤ R.slots := a4
  have hstk : SS K.2.2.2 (as.reverse ++ .ref i :: st) = (SS K.2.2.2 as).reverse ++ .ref (K.2.2.2 + i) :: SS K.2.2.2 st := SS_app _ _ _
  obtain ⟨cq, kq, qa, qb, qc⟩ := isOf b2 rfl (S.2 i _ hH).1
  obtain ⟨v, vm₁, ⟨T', L1, k1, n1⟩, -, X', ⟨Lc, ⟨hv, S', N'⟩, l1, l2, l3⟩, stp⟩ := X.virtualBack b1 (y := M'.1) (z := M'.1) b7 (mvT b2 w1) (mvT b2 w5) (notFace_of_selects (args := #[]) (mvT b2 w6)) (mvT b2 w6) (mvT b2 w2) mi.2.1 (g.back (as := .ref i :: as) (W := W) hls mi.1 S b2 w4 w3 (Nat.le_trans hF a1) (Nat.le_trans hLo a2)) qa qc (g := mkF m pc (LL K.2.2.2 ls) (SS K.2.2.2 (as.reverse ++ .ref i :: st))) rfl (by rw [b4, ← hsz]; exact LL_size _ _) (Steps.refl _) (argsL := SS K.2.2.2 as) (rest := SS K.2.2.2 st) (mi.len has) hstk (by show 2 * 0 + _ ≤ W; rw [cats, hW]; omega) (b3 ▸ hd) (fun _ _ => ⟨rfl, rfl, by show cells + dc1 ≤ _; omega, by show slots + ds1 ≤ _; omega⟩)
  dsimp only [Pt.U, Pt.locs, Pt.cells, Pt.slots] at X' l1 l2 l3 stp S' hv
  subst l1 l2 l3 hv
  obtain ⟨s₂, L, q1, q2, q3, q4, q5, q6⟩ := h R (cells + dc1) (slots + ds1) p e s m args below meth c T' _ a1 a2 (by show cells + dc1 + dc ≤ _; omega) (by show slots + ds1 + ds ≤ _; omega) b1 b2 b3 b4 b5 b6 b7 b8 X' (S' _ rfl) (N.app N')
  refine ⟨s₂, L, stp.trans ?_, q2, q3, q4, q5, q6.1, q6.2.1, q6.2.2.mono (by show cells + dc1 + dc ≤ cells + dct; omega) (by show slots + ds1 + ds ≤ slots + dst; omega)⟩
  rw [← SS_ret] at q1
  exact q1
theorem Go.callP {idx na W F' Lo' dc1 ds1 dct dst i : Nat} {M' : Mt} {as : List Value} {ls1 : List Slot} {st0 : List Value} {rv1 rv : Option Value} {H1 : Hp} {H' : Option Hp} {kk : Nat} {fs : List (String × String × Value)} (hd : Dec M pc (.invokevirtual idx) 3 pc') (hH : H[i]? = some (.inl (M'.1.cls, fs))) (w1 : (Jvm.Cond.methodLink M.1.cls idx M'.1).before K.2.2.1 K.2.1 = true) (w2 : (Jvm.Cond.instanceMethod M'.1).before K.2.2.1 K.2.1 = true) (w3 : (Jvm.Cond.initialized M'.1.cls).before K.2.2.1 K.2.1 = true) (w5 : (Jvm.Cond.privateMethod M'.1).before K.2.2.1 K.2.1 = true) (w6 : (Jvm.Cond.instantiable M'.1.cls kk).before K.2.2.1 K.2.1 = true) (w4 : (Jvm.Cond.code M'.1 M'.2.1 M'.2.2.1 M'.2.2.2).before K.2.2.1 K.2.1 = true)
    (mi : MInfo M' na) (has : as.length = na) (hsz : ls.length = M.2.2.1) (hst : as.reverse ++ .ref i :: st = st0) (hls : ent (.ref i :: as) M'.2.2.1 = ls1) (hW : (st.map fun v => v.category).sum = W) (hF : F' + 1 ≤ F) (hLo : W + (M'.2.2.1 + 11) + Lo' ≤ Lo) (g : Go K M' F' Lo' 0 ls1 [] H (rv1, some H1, dc1, ds1))
    (dc ds : Nat) (hdc : dc + dc1 ≤ dct) (hds : ds + ds1 ≤ dst) (h : Go K M F Lo pc' ls (rv1.toList ++ st) H1 (rv, H', dc, ds)) : Go K M F Lo pc ls st0 H (rv, H', dct, dst) := by
  obtain ⟨hd, rfl⟩ := hd
  intro R cells slots p e s m args below meth c T locs a1 a2 a3 a4 b1 b2 b3 b4 b5 b6 b7 b8 X S N
  subst hst
  have a3' : cells + dct ≤ R.cells := a3
  have a4' : slots + dst ≤ R.slots := a4
  have hstk : SS K.2.2.2 (as.reverse ++ .ref i :: st) = (SS K.2.2.2 as).reverse ++ .ref (K.2.2.2 + i) :: SS K.2.2.2 st := SS_app _ _ _
  obtain ⟨cq, qa, qb⟩ := (S.2 i _ hH).1.cell
  have hpr : s.PrivateAt M'.1 := Cond.privateMethod_at (mvP b2 w5 (args := #[]))
  have hsel : (Jvm.Cond.selects M'.1.cls M'.1 M'.1).before args s = true := by
    obtain ⟨c9, k9, z1, z2, z3, z4, -⟩ := Cond.instantiable_spec (mvT (args := args) b2 w6)
    refine selects_self_of_private z1 z2 ?_ hpr (mvT b2 w2) mi.2.1
    simp only [Bool.or_eq_false_iff] at z4
    exact z4.1
  obtain ⟨v, vm₁, ⟨T', L1, k1, n1⟩, -, X', ⟨Lc, ⟨hv, S', N'⟩, l1, l2, l3⟩, stp⟩ := X.privateBack b1 (y := M'.1) b7 (mvT b2 w1) (mvT b2 w2) hsel hpr (mvT b2 w4) mi.2.1 (g.back (as := .ref i :: as) (W := W) hls mi.1 S b2 w4 w3 (Nat.le_trans hF a1) (Nat.le_trans hLo a2)) (g := mkF m pc (LL K.2.2.2 ls) (SS K.2.2.2 (as.reverse ++ .ref i :: st))) rfl (by rw [b4, ← hsz]; exact LL_size _ _) (Steps.refl _) (a := K.2.2.2 + i) qa qb (argsL := SS K.2.2.2 as) (rest := SS K.2.2.2 st) (mi.len has) hstk (by show 2 * 0 + _ ≤ W; rw [cats, hW]; omega) (b3 ▸ hd) (fun _ _ => ⟨rfl, rfl, by show cells + dc1 ≤ _; omega, by show slots + ds1 ≤ _; omega⟩)
  dsimp only [Pt.U, Pt.locs, Pt.cells, Pt.slots] at X' l1 l2 l3 stp S' hv
  subst l1 l2 l3 hv
  obtain ⟨s₂, L, q1, q2, q3, q4, q5, q6⟩ := h R (cells + dc1) (slots + ds1) p e s m args below meth c T' _ a1 a2 (by show cells + dc1 + dc ≤ _; omega) (by show slots + ds1 + ds ≤ _; omega) b1 b2 b3 b4 b5 b6 b7 b8 X' (S' _ rfl) (N.app N')
  refine ⟨s₂, L, stp.trans ?_, q2, q3, q4, q5, q6.1, q6.2.1, q6.2.2.mono (by show cells + dc1 + dc ≤ cells + dct; omega) (by show slots + ds1 + ds ≤ slots + dst; omega)⟩
  rw [← SS_ret] at q1
  exact q1
theorem Go.initObj {idx i W : Nat} (hd : Dec M pc (.invokespecial idx) 3 pc') (w1 : (Jvm.Cond.methodLink M.1.cls idx Lib.objectInit).before K.2.2.1 K.2.1 = true) (w2 : (Jvm.Cond.instanceMethod Lib.objectInit).before K.2.2.1 K.2.1 = true) (w3 : (Jvm.Cond.code Lib.objectInit ⟨#[0xb1]⟩ 1 none).before K.2.2.1 K.2.1 = true)
    (hsz : ls.length = M.2.2.1) (hW : (st.map fun v => v.category).sum = W) (hF : 1 ≤ F) (hLo : W + 12 ≤ Lo) (h : Go K M F Lo pc' ls st H r) : Go K M F Lo pc ls (.ref i :: st) H r := by
  obtain ⟨hd, rfl⟩ := hd
  intro R cells slots p e s m args below meth c T locs a1 a2 a3 a4 b1 b2 b3 b4 b5 b6 b7 b8 X S N
  obtain ⟨T', X', e', stp⟩ := initO X b1 b2 b7 w1 w2 w3 rfl (g := mkF m pc (LL K.2.2.2 ls) (SS K.2.2.2 (.ref i :: st))) rfl (by rw [b4, ← hsz]; exact LL_size _ _) (rest := SS K.2.2.2 st) rfl (b3 ▸ hd) (Nat.le_trans hF a1) (W := W) (by show 2 * 0 + _ ≤ W; rw [cats, hW]; omega) (Nat.le_trans hLo a2)
  obtain ⟨s₂, L, q1, q⟩ := h R cells slots p e s m args below meth c T' locs a1 a2 a3 a4 b1 b2 b3 b4 b5 b6 b7 b8 X' (e' ▸ S) N
  exact ⟨s₂, L, stp _ q1, q⟩
end G
end Jvm.OwnGo
namespace Jvm.Pilot.@@N@@
open Jvm Jvm.ClassFile Sem Op Lib Jvm.Free Jvm.Stand Jvm.LawKit Jvm.RoadKit Bundle Jvm.Pilot.@@N@@.Jvm.D Jvm.OwnGo
abbrev m0 : Mt := (x, code, maxLocals, ret)
theorem mi0 : MInfo m0 5 := by decide +kernel
theorem d0_0 : Dec m0 0 (.iload_n 0) 1 1 := by decide +kernel
theorem d0_1 : Dec m0 1 (.bipush 7) 2 3 := by decide +kernel
theorem d0_3 : Dec m0 3 (.iand) 1 4 := by decide +kernel
theorem d0_4 : Dec m0 4 (.iconst 5) 1 5 := by decide +kernel
theorem d0_5 : Dec m0 5 (.irem) 1 6 := by decide +kernel
theorem d0_6 : Dec m0 6 (.istore 5) 2 8 := by decide +kernel
theorem d0_8 : Dec m0 8 (.iload_n 1) 1 9 := by decide +kernel
theorem d0_9 : Dec m0 9 (.invokestatic 7) 3 12 := by decide +kernel
theorem d0_12 : Dec m0 12 (.istore 6) 2 14 := by decide +kernel
theorem d0_14 : Dec m0 14 (.iload_n 2) 1 15 := by decide +kernel
theorem d0_15 : Dec m0 15 (.invokestatic 7) 3 18 := by decide +kernel
theorem d0_18 : Dec m0 18 (.istore 7) 2 20 := by decide +kernel
theorem d0_20 : Dec m0 20 (.iload_n 3) 1 21 := by decide +kernel
theorem d0_21 : Dec m0 21 (.invokestatic 7) 3 24 := by decide +kernel
theorem d0_24 : Dec m0 24 (.istore 8) 2 26 := by decide +kernel
theorem d0_26 : Dec m0 26 (.iload 4) 2 28 := by decide +kernel
theorem d0_28 : Dec m0 28 (.invokestatic 7) 3 31 := by decide +kernel
theorem d0_31 : Dec m0 31 (.istore 9) 2 33 := by decide +kernel
theorem d0_33 : Dec m0 33 (.iload 5) 2 35 := by decide +kernel
theorem d0_35 : Dec m0 35 (.newarray .byte) 2 37 := by decide +kernel
theorem d0_37 : Dec m0 37 (.astore 10) 2 39 := by decide +kernel
theorem d0_39 : Dec m0 39 (.iload 5) 2 41 := by decide +kernel
theorem d0_41 : Dec m0 41 (.ifCond .le 10) 3 44 := by decide +kernel
theorem j0_41 : Jmp 41 (10) 51 := by decide
theorem d0_44 : Dec m0 44 (.aload 10) 2 46 := by decide +kernel
theorem d0_46 : Dec m0 46 (.iconst 0) 1 47 := by decide +kernel
theorem d0_47 : Dec m0 47 (.iload 6) 2 49 := by decide +kernel
theorem d0_49 : Dec m0 49 (.i2b) 1 50 := by decide +kernel
theorem d0_50 : Dec m0 50 (.bastore) 1 51 := by decide +kernel
theorem d0_51 : Dec m0 51 (.iload 5) 2 53 := by decide +kernel
theorem d0_53 : Dec m0 53 (.iconst 1) 1 54 := by decide +kernel
theorem d0_54 : Dec m0 54 (.if_icmp .le 10) 3 57 := by decide +kernel
theorem j0_54 : Jmp 54 (10) 64 := by decide
theorem d0_57 : Dec m0 57 (.aload 10) 2 59 := by decide +kernel
theorem d0_59 : Dec m0 59 (.iconst 1) 1 60 := by decide +kernel
theorem d0_60 : Dec m0 60 (.iload 7) 2 62 := by decide +kernel
theorem d0_62 : Dec m0 62 (.i2b) 1 63 := by decide +kernel
theorem d0_63 : Dec m0 63 (.bastore) 1 64 := by decide +kernel
theorem d0_64 : Dec m0 64 (.iload 5) 2 66 := by decide +kernel
theorem d0_66 : Dec m0 66 (.iconst 2) 1 67 := by decide +kernel
theorem d0_67 : Dec m0 67 (.if_icmp .le 10) 3 70 := by decide +kernel
theorem j0_67 : Jmp 67 (10) 77 := by decide
theorem d0_70 : Dec m0 70 (.aload 10) 2 72 := by decide +kernel
theorem d0_72 : Dec m0 72 (.iconst 2) 1 73 := by decide +kernel
theorem d0_73 : Dec m0 73 (.iload 8) 2 75 := by decide +kernel
theorem d0_75 : Dec m0 75 (.i2b) 1 76 := by decide +kernel
theorem d0_76 : Dec m0 76 (.bastore) 1 77 := by decide +kernel
theorem d0_77 : Dec m0 77 (.iload 5) 2 79 := by decide +kernel
theorem d0_79 : Dec m0 79 (.iconst 3) 1 80 := by decide +kernel
theorem d0_80 : Dec m0 80 (.if_icmp .le 10) 3 83 := by decide +kernel
theorem j0_80 : Jmp 80 (10) 90 := by decide
theorem d0_83 : Dec m0 83 (.aload 10) 2 85 := by decide +kernel
theorem d0_85 : Dec m0 85 (.iconst 3) 1 86 := by decide +kernel
theorem d0_86 : Dec m0 86 (.iload 9) 2 88 := by decide +kernel
theorem d0_88 : Dec m0 88 (.i2b) 1 89 := by decide +kernel
theorem d0_89 : Dec m0 89 (.bastore) 1 90 := by decide +kernel
theorem d0_90 : Dec m0 90 (.iload 5) 2 92 := by decide +kernel
theorem d0_92 : Dec m0 92 (.ifCond .le 10) 3 95 := by decide +kernel
theorem j0_92 : Jmp 92 (10) 102 := by decide
theorem d0_95 : Dec m0 95 (.iload 6) 2 97 := by decide +kernel
theorem d0_97 : Dec m0 97 (.bipush 10) 2 99 := by decide +kernel
theorem d0_99 : Dec m0 99 (.if_icmp .eq 42) 3 102 := by decide +kernel
theorem j0_99 : Jmp 99 (42) 141 := by decide
theorem d0_102 : Dec m0 102 (.iload 5) 2 104 := by decide +kernel
theorem d0_104 : Dec m0 104 (.iconst 1) 1 105 := by decide +kernel
theorem d0_105 : Dec m0 105 (.if_icmp .le 10) 3 108 := by decide +kernel
theorem j0_105 : Jmp 105 (10) 115 := by decide
theorem d0_108 : Dec m0 108 (.iload 7) 2 110 := by decide +kernel
theorem d0_110 : Dec m0 110 (.bipush 10) 2 112 := by decide +kernel
theorem d0_112 : Dec m0 112 (.if_icmp .eq 29) 3 115 := by decide +kernel
theorem j0_112 : Jmp 112 (29) 141 := by decide
theorem d0_115 : Dec m0 115 (.iload 5) 2 117 := by decide +kernel
theorem d0_117 : Dec m0 117 (.iconst 2) 1 118 := by decide +kernel
theorem d0_118 : Dec m0 118 (.if_icmp .le 10) 3 121 := by decide +kernel
theorem j0_118 : Jmp 118 (10) 128 := by decide
theorem d0_121 : Dec m0 121 (.iload 8) 2 123 := by decide +kernel
theorem d0_123 : Dec m0 123 (.bipush 10) 2 125 := by decide +kernel
theorem d0_125 : Dec m0 125 (.if_icmp .eq 16) 3 128 := by decide +kernel
theorem j0_125 : Jmp 125 (16) 141 := by decide
theorem d0_128 : Dec m0 128 (.iload 5) 2 130 := by decide +kernel
theorem d0_130 : Dec m0 130 (.iconst 3) 1 131 := by decide +kernel
theorem d0_131 : Dec m0 131 (.if_icmp .le 14) 3 134 := by decide +kernel
theorem j0_131 : Jmp 131 (14) 145 := by decide
theorem d0_134 : Dec m0 134 (.iload 9) 2 136 := by decide +kernel
theorem d0_136 : Dec m0 136 (.bipush 10) 2 138 := by decide +kernel
theorem d0_138 : Dec m0 138 (.if_icmp .ne 7) 3 141 := by decide +kernel
theorem j0_138 : Jmp 138 (7) 145 := by decide
theorem d0_141 : Dec m0 141 (.iconst 1) 1 142 := by decide +kernel
theorem d0_142 : Dec m0 142 (.goto 4) 3 145 := by decide +kernel
theorem j0_142 : Jmp 142 (4) 146 := by decide
theorem d0_145 : Dec m0 145 (.iconst 0) 1 146 := by decide +kernel
theorem d0_146 : Dec m0 146 (.istore 11) 2 148 := by decide +kernel
theorem d0_148 : Dec m0 148 (.iconst (-1)) 1 149 := by decide +kernel
theorem d0_149 : Dec m0 149 (.istore 12) 2 151 := by decide +kernel
theorem d0_151 : Dec m0 151 (.iload 5) 2 153 := by decide +kernel
theorem d0_153 : Dec m0 153 (.iconst 1) 1 154 := by decide +kernel
theorem d0_154 : Dec m0 154 (.if_icmp .ne 10) 3 157 := by decide +kernel
theorem j0_154 : Jmp 154 (10) 164 := by decide
theorem d0_157 : Dec m0 157 (.iload 6) 2 159 := by decide +kernel
theorem d0_159 : Dec m0 159 (.istore 12) 2 161 := by decide +kernel
theorem d0_161 : Dec m0 161 (.goto 39) 3 164 := by decide +kernel
theorem j0_161 : Jmp 161 (39) 200 := by decide
theorem d0_164 : Dec m0 164 (.iload 5) 2 166 := by decide +kernel
theorem d0_166 : Dec m0 166 (.iconst 2) 1 167 := by decide +kernel
theorem d0_167 : Dec m0 167 (.if_icmp .ne 10) 3 170 := by decide +kernel
theorem j0_167 : Jmp 167 (10) 177 := by decide
theorem d0_170 : Dec m0 170 (.iload 7) 2 172 := by decide +kernel
theorem d0_172 : Dec m0 172 (.istore 12) 2 174 := by decide +kernel
theorem d0_174 : Dec m0 174 (.goto 26) 3 177 := by decide +kernel
theorem j0_174 : Jmp 174 (26) 200 := by decide
theorem d0_177 : Dec m0 177 (.iload 5) 2 179 := by decide +kernel
theorem d0_179 : Dec m0 179 (.iconst 3) 1 180 := by decide +kernel
theorem d0_180 : Dec m0 180 (.if_icmp .ne 10) 3 183 := by decide +kernel
theorem j0_180 : Jmp 180 (10) 190 := by decide
theorem d0_183 : Dec m0 183 (.iload 8) 2 185 := by decide +kernel
theorem d0_185 : Dec m0 185 (.istore 12) 2 187 := by decide +kernel
theorem d0_187 : Dec m0 187 (.goto 13) 3 190 := by decide +kernel
theorem j0_187 : Jmp 187 (13) 200 := by decide
theorem d0_190 : Dec m0 190 (.iload 5) 2 192 := by decide +kernel
theorem d0_192 : Dec m0 192 (.iconst 4) 1 193 := by decide +kernel
theorem d0_193 : Dec m0 193 (.if_icmp .ne 7) 3 196 := by decide +kernel
theorem j0_193 : Jmp 193 (7) 200 := by decide
theorem d0_196 : Dec m0 196 (.iload 9) 2 198 := by decide +kernel
theorem d0_198 : Dec m0 198 (.istore 12) 2 200 := by decide +kernel
theorem d0_200 : Dec m0 200 (.iload 11) 2 202 := by decide +kernel
theorem d0_202 : Dec m0 202 (.ifCond .ne 14) 3 205 := by decide +kernel
theorem j0_202 : Jmp 202 (14) 216 := by decide
theorem d0_205 : Dec m0 205 (.iload 12) 2 207 := by decide +kernel
theorem d0_207 : Dec m0 207 (.bipush 13) 2 209 := by decide +kernel
theorem d0_209 : Dec m0 209 (.if_icmp .eq 7) 3 212 := by decide +kernel
theorem j0_209 : Jmp 209 (7) 216 := by decide
theorem d0_212 : Dec m0 212 (.iconst 1) 1 213 := by decide +kernel
theorem d0_213 : Dec m0 213 (.goto 4) 3 216 := by decide +kernel
theorem j0_213 : Jmp 213 (4) 217 := by decide
theorem d0_216 : Dec m0 216 (.iconst 0) 1 217 := by decide +kernel
theorem d0_217 : Dec m0 217 (.istore 13) 2 219 := by decide +kernel
theorem d0_219 : Dec m0 219 (.aload 10) 2 221 := by decide +kernel
theorem d0_221 : Dec m0 221 (.invokestatic 13) 3 224 := by decide +kernel
theorem d0_224 : Dec m0 224 (.iload 13) 2 226 := by decide +kernel
theorem d0_226 : Dec m0 226 (.if_icmp .ne 7) 3 229 := by decide +kernel
theorem j0_226 : Jmp 226 (7) 233 := by decide
theorem d0_229 : Dec m0 229 (.iconst 1) 1 230 := by decide +kernel
theorem d0_230 : Dec m0 230 (.goto 4) 3 233 := by decide +kernel
theorem j0_230 : Jmp 230 (4) 234 := by decide
theorem d0_233 : Dec m0 233 (.iconst 0) 1 234 := by decide +kernel
theorem d0_234 : Dec m0 234 (.ireturn) 1 235 := by decide +kernel
abbrev m1 : Mt := (⟨"com/example/skew/skew/RoutingTableCanListPinLaw", "pick", "(I)I"⟩, method_2_code, 2, some .int)
theorem mi1 : MInfo m1 1 := by decide +kernel
theorem d1_0 : Dec m1 0 (.iload_n 0) 1 1 := by decide +kernel
theorem d1_1 : Dec m1 1 (.iconst 3) 1 2 := by decide +kernel
theorem d1_2 : Dec m1 2 (.iand) 1 3 := by decide +kernel
theorem d1_3 : Dec m1 3 (.istore_n 1) 1 4 := by decide +kernel
theorem d1_4 : Dec m1 4 (.iload_n 1) 1 5 := by decide +kernel
theorem d1_5 : Dec m1 5 (.ifCond .ne 6) 3 8 := by decide +kernel
theorem j1_5 : Jmp 5 (6) 11 := by decide
theorem d1_8 : Dec m1 8 (.bipush 10) 2 10 := by decide +kernel
theorem d1_10 : Dec m1 10 (.ireturn) 1 11 := by decide +kernel
theorem d1_11 : Dec m1 11 (.iload_n 1) 1 12 := by decide +kernel
theorem d1_12 : Dec m1 12 (.iconst 1) 1 13 := by decide +kernel
theorem d1_13 : Dec m1 13 (.if_icmp .ne 6) 3 16 := by decide +kernel
theorem j1_13 : Jmp 13 (6) 19 := by decide
theorem d1_16 : Dec m1 16 (.bipush 13) 2 18 := by decide +kernel
theorem d1_18 : Dec m1 18 (.ireturn) 1 19 := by decide +kernel
theorem d1_19 : Dec m1 19 (.iload_n 0) 1 20 := by decide +kernel
theorem d1_20 : Dec m1 20 (.iconst 2) 1 21 := by decide +kernel
theorem d1_21 : Dec m1 21 (.ishr) 1 22 := by decide +kernel
theorem d1_22 : Dec m1 22 (.i2b) 1 23 := by decide +kernel
theorem d1_23 : Dec m1 23 (.ireturn) 1 24 := by decide +kernel
abbrev m2 : Mt := (⟨"com/example/skew/skew/RoutingTable", "canList", "([B)Z"⟩, prog_24_method_7_code, 3, some .boolean)
theorem mi2 : MInfo m2 1 := by decide +kernel
theorem d2_0 : Dec m2 0 (.aload_n 0) 1 1 := by decide +kernel
theorem d2_1 : Dec m2 1 (.arraylength) 1 2 := by decide +kernel
theorem d2_2 : Dec m2 2 (.ifCond .eq 14) 3 5 := by decide +kernel
theorem j2_2 : Jmp 2 (14) 16 := by decide
theorem d2_5 : Dec m2 5 (.aload_n 0) 1 6 := by decide +kernel
theorem d2_6 : Dec m2 6 (.aload_n 0) 1 7 := by decide +kernel
theorem d2_7 : Dec m2 7 (.arraylength) 1 8 := by decide +kernel
theorem d2_8 : Dec m2 8 (.iconst 1) 1 9 := by decide +kernel
theorem d2_9 : Dec m2 9 (.isub) 1 10 := by decide +kernel
theorem d2_10 : Dec m2 10 (.baload) 1 11 := by decide +kernel
theorem d2_11 : Dec m2 11 (.bipush 13) 2 13 := by decide +kernel
theorem d2_13 : Dec m2 13 (.if_icmp .eq 7) 3 16 := by decide +kernel
theorem j2_13 : Jmp 13 (7) 20 := by decide
theorem d2_16 : Dec m2 16 (.iconst 1) 1 17 := by decide +kernel
theorem d2_17 : Dec m2 17 (.goto 4) 3 20 := by decide +kernel
theorem j2_17 : Jmp 17 (4) 21 := by decide
theorem d2_20 : Dec m2 20 (.iconst 0) 1 21 := by decide +kernel
theorem d2_21 : Dec m2 21 (.istore_n 1) 1 22 := by decide +kernel
theorem d2_22 : Dec m2 22 (.iconst 0) 1 23 := by decide +kernel
theorem d2_23 : Dec m2 23 (.istore_n 2) 1 24 := by decide +kernel
theorem d2_24 : Dec m2 24 (.iload_n 2) 1 25 := by decide +kernel
theorem d2_25 : Dec m2 25 (.aload_n 0) 1 26 := by decide +kernel
theorem d2_26 : Dec m2 26 (.arraylength) 1 27 := by decide +kernel
theorem d2_27 : Dec m2 27 (.if_icmp .ge 27) 3 30 := by decide +kernel
theorem j2_27 : Jmp 27 (27) 54 := by decide
theorem d2_30 : Dec m2 30 (.iload_n 1) 1 31 := by decide +kernel
theorem d2_31 : Dec m2 31 (.ifCond .eq 23) 3 34 := by decide +kernel
theorem j2_31 : Jmp 31 (23) 54 := by decide
theorem d2_34 : Dec m2 34 (.aload_n 0) 1 35 := by decide +kernel
theorem d2_35 : Dec m2 35 (.iload_n 2) 1 36 := by decide +kernel
theorem d2_36 : Dec m2 36 (.baload) 1 37 := by decide +kernel
theorem d2_37 : Dec m2 37 (.bipush 10) 2 39 := by decide +kernel
theorem d2_39 : Dec m2 39 (.if_icmp .eq 7) 3 42 := by decide +kernel
theorem j2_39 : Jmp 39 (7) 46 := by decide
theorem d2_42 : Dec m2 42 (.iconst 1) 1 43 := by decide +kernel
theorem d2_43 : Dec m2 43 (.goto 4) 3 46 := by decide +kernel
theorem j2_43 : Jmp 43 (4) 47 := by decide
theorem d2_46 : Dec m2 46 (.iconst 0) 1 47 := by decide +kernel
theorem d2_47 : Dec m2 47 (.istore_n 1) 1 48 := by decide +kernel
theorem d2_48 : Dec m2 48 (.iinc 2 1) 3 51 := by decide +kernel
theorem d2_51 : Dec m2 51 (.goto (-27)) 3 54 := by decide +kernel
theorem j2_51 : Jmp 51 (-27) 24 := by decide
theorem d2_54 : Dec m2 54 (.iload_n 1) 1 55 := by decide +kernel
theorem d2_55 : Dec m2 55 (.ireturn) 1 56 := by decide +kernel
def own_pick (x0 : Int32) : Int32 := (if (x0 &&& 3) = 0 then 10 else (if (x0 &&& 3) = 1 then 13 else ((Int32.toInt8 (x0 >>> (2 &&& 31))).toInt32)))
theorem go_own_pick (K : Ctx) (hw : ∀ d ∈ tables_1, d.before K.2.2.1 K.2.1 = true) (x0 : Int32) (H : Hp) : Go K m1 0 0 0 [.val (.int x0), .unset] [] H (some (.int (own_pick x0)), some H, 0, 0) := by
  refine Go.iloadN d1_0 rfl ?_
  refine Go.iconst d1_1 (v := 3) rfl ?_
  refine Go.iand d1_2 ?_
  refine Go.istoreN d1_3 (ls' := [.val (.int x0), .val (.int (x0 &&& 3))]) rfl ?_
  refine Go.iloadN d1_4 rfl ?_
  refine Go.if_ne d1_5 j1_5 (fun h5 => ?_) (fun h5 => ?_)
  · -- pc 5 taken
    refine Go.iloadN d1_11 rfl ?_
    refine Go.iconst d1_12 (v := 1) rfl ?_
    refine Go.icmp_ne d1_13 j1_13 (fun h13 => ?_) (fun h13 => ?_)
    · -- pc 13 taken
      refine Go.iloadN d1_19 rfl ?_
      refine Go.iconst d1_20 (v := 2) rfl ?_
      refine Go.ishr d1_21 ?_
      refine Go.i2b d1_22 ?_
      exact Go.ireturn d1_23 rfl (by rw [own_pick, if_neg h5, if_neg h13]) (HOk.eq rfl)
    · -- pc 13 not taken
      refine Go.bipush d1_16 (v := 13) rfl ?_
      exact Go.ireturn d1_18 rfl (by rw [own_pick, if_neg h5, if_pos h13]) (HOk.eq rfl)
  · -- pc 5 not taken
    refine Go.bipush d1_8 (v := 10) rfl ?_
    exact Go.ireturn d1_10 rfl (by rw [own_pick, if_pos h5]) (HOk.eq rfl)
def own_can0  : Int32 := 1
theorem go_own_can0 (K : Ctx) (hw : ∀ d ∈ tables_1, d.before K.2.2.1 K.2.1 = true)  : Go K m2 0 0 0 [.val (.ref 0), .unset, .unset] [] [.inr (.byte, [])] (some (.int (own_can0 )), some [.inr (.byte, [])], 0, 0) := by
  refine Go.aloadN d2_0 rfl rfl ?_
  refine Go.arraylength d2_1 rfl (z := 0) rfl ?_
  refine Go.ifT d2_2 j2_2 (XT.i0_eq_t (by decide)) ?_
  refine Go.iconst d2_16 (v := 1) rfl ?_
  refine Go.goto d2_17 j2_17 ?_
  refine Go.istoreN d2_21 (ls' := [.val (.ref 0), .val (.int 1), .unset]) rfl ?_
  refine Go.iconst d2_22 (v := 0) rfl ?_
  refine Go.istoreN d2_23 (ls' := [.val (.ref 0), .val (.int 1), .val (.int 0)]) rfl ?_
  refine Go.iloadN d2_24 rfl ?_
  refine Go.aloadN d2_25 rfl rfl ?_
  refine Go.arraylength d2_26 rfl (z := 0) rfl ?_
  refine Go.icmpT d2_27 j2_27 (XT.ii_ge_t (by decide)) ?_
  refine Go.iloadN d2_54 rfl ?_
  exact Go.ireturnZ d2_55 rfl (by decide) (by rw [own_can0]) (HOk.eq rfl)
def own_can1 (v0 : Int32) : Int32 := (if v0 = 13 then 0 else (if v0 = 10 then 0 else 1))
theorem go_own_can1 (K : Ctx) (hw : ∀ d ∈ tables_1, d.before K.2.2.1 K.2.1 = true) (v0 : Int32) : Go K m2 0 0 0 [.val (.ref 0), .unset, .unset] [] [.inr (.byte, [.int v0])] (some (.int (own_can1 v0)), some [.inr (.byte, [.int v0])], 0, 0) := by
  refine Go.aloadN d2_0 rfl rfl ?_
  refine Go.arraylength d2_1 rfl (z := 1) rfl ?_
  refine Go.ifF d2_2 (XT.i0_eq_f (by decide)) ?_
  refine Go.aloadN d2_5 rfl rfl ?_
  refine Go.aloadN d2_6 rfl rfl ?_
  refine Go.arraylength d2_7 rfl (z := 1) rfl ?_
  refine Go.iconst d2_8 (v := 1) rfl ?_
  refine Go.isub d2_9 ?_
  show Go _ _ _ _ 10 [.val (.ref 0), .unset, .unset] [.int 0, .ref 0] [.inr (.byte, [.int v0])] _
  refine Go.baload d2_10 rfl (by decide) rfl ?_
  refine Go.bipush d2_11 (v := 13) rfl ?_
  refine Go.icmp_eq d2_13 j2_13 (fun h13 => ?_) (fun h13 => ?_)
  · -- pc 13 taken
    refine Go.iconst d2_20 (v := 0) rfl ?_
    refine Go.istoreN d2_21 (ls' := [.val (.ref 0), .val (.int 0), .unset]) rfl ?_
    refine Go.iconst d2_22 (v := 0) rfl ?_
    refine Go.istoreN d2_23 (ls' := [.val (.ref 0), .val (.int 0), .val (.int 0)]) rfl ?_
    refine Go.iloadN d2_24 rfl ?_
    refine Go.aloadN d2_25 rfl rfl ?_
    refine Go.arraylength d2_26 rfl (z := 1) rfl ?_
    refine Go.icmpF d2_27 (XT.ii_ge_f (by decide)) ?_
    refine Go.iloadN d2_30 rfl ?_
    refine Go.ifT d2_31 j2_31 (XT.i0_eq_t (by decide)) ?_
    refine Go.iloadN d2_54 rfl ?_
    exact Go.ireturnZ d2_55 rfl (by decide) (by rw [own_can1, if_pos h13]) (HOk.eq rfl)
  · -- pc 13 not taken
    refine Go.iconst d2_16 (v := 1) rfl ?_
    refine Go.goto d2_17 j2_17 ?_
    refine Go.istoreN d2_21 (ls' := [.val (.ref 0), .val (.int 1), .unset]) rfl ?_
    refine Go.iconst d2_22 (v := 0) rfl ?_
    refine Go.istoreN d2_23 (ls' := [.val (.ref 0), .val (.int 1), .val (.int 0)]) rfl ?_
    refine Go.iloadN d2_24 rfl ?_
    refine Go.aloadN d2_25 rfl rfl ?_
    refine Go.arraylength d2_26 rfl (z := 1) rfl ?_
    refine Go.icmpF d2_27 (XT.ii_ge_f (by decide)) ?_
    refine Go.iloadN d2_30 rfl ?_
    refine Go.ifF d2_31 (XT.i0_eq_f (by decide)) ?_
    refine Go.aloadN d2_34 rfl rfl ?_
    refine Go.iloadN d2_35 rfl ?_
    refine Go.baload d2_36 rfl (by decide) rfl ?_
    refine Go.bipush d2_37 (v := 10) rfl ?_
    refine Go.icmp_eq d2_39 j2_39 (fun h39 => ?_) (fun h39 => ?_)
    · -- pc 39 taken
      refine Go.iconst d2_46 (v := 0) rfl ?_
      refine Go.istoreN d2_47 (ls' := [.val (.ref 0), .val (.int 0), .val (.int 0)]) rfl ?_
      refine Go.iinc d2_48 (v := 1) rfl rfl (ls' := [.val (.ref 0), .val (.int 0), .val (.int 1)]) rfl ?_
      refine Go.goto d2_51 j2_51 ?_
      refine Go.iloadN d2_24 rfl ?_
      refine Go.aloadN d2_25 rfl rfl ?_
      refine Go.arraylength d2_26 rfl (z := 1) rfl ?_
      refine Go.icmpT d2_27 j2_27 (XT.ii_ge_t (by decide)) ?_
      refine Go.iloadN d2_54 rfl ?_
      exact Go.ireturnZ d2_55 rfl (by decide) (by rw [own_can1, if_neg h13, if_pos h39]) (HOk.eq rfl)
    · -- pc 39 not taken
      refine Go.iconst d2_42 (v := 1) rfl ?_
      refine Go.goto d2_43 j2_43 ?_
      refine Go.istoreN d2_47 (ls' := [.val (.ref 0), .val (.int 1), .val (.int 0)]) rfl ?_
      refine Go.iinc d2_48 (v := 1) rfl rfl (ls' := [.val (.ref 0), .val (.int 1), .val (.int 1)]) rfl ?_
      refine Go.goto d2_51 j2_51 ?_
      refine Go.iloadN d2_24 rfl ?_
      refine Go.aloadN d2_25 rfl rfl ?_
      refine Go.arraylength d2_26 rfl (z := 1) rfl ?_
      refine Go.icmpT d2_27 j2_27 (XT.ii_ge_t (by decide)) ?_
      refine Go.iloadN d2_54 rfl ?_
      exact Go.ireturnZ d2_55 rfl (by decide) (by rw [own_can1, if_neg h13, if_neg h39]) (HOk.eq rfl)
def own_can2 (v0 v1 : Int32) : Int32 := (if v1 = 13 then 0 else (if v0 = 10 then 0 else (if v1 = 10 then 0 else 1)))
theorem go_own_can2 (K : Ctx) (hw : ∀ d ∈ tables_1, d.before K.2.2.1 K.2.1 = true) (v0 v1 : Int32) : Go K m2 0 0 0 [.val (.ref 0), .unset, .unset] [] [.inr (.byte, [.int v0, .int v1])] (some (.int (own_can2 v0 v1)), some [.inr (.byte, [.int v0, .int v1])], 0, 0) := by
  refine Go.aloadN d2_0 rfl rfl ?_
  refine Go.arraylength d2_1 rfl (z := 2) rfl ?_
  refine Go.ifF d2_2 (XT.i0_eq_f (by decide)) ?_
  refine Go.aloadN d2_5 rfl rfl ?_
  refine Go.aloadN d2_6 rfl rfl ?_
  refine Go.arraylength d2_7 rfl (z := 2) rfl ?_
  refine Go.iconst d2_8 (v := 1) rfl ?_
  refine Go.isub d2_9 ?_
  show Go _ _ _ _ 10 [.val (.ref 0), .unset, .unset] [.int 1, .ref 0] [.inr (.byte, [.int v0, .int v1])] _
  refine Go.baload d2_10 rfl (by decide) rfl ?_
  refine Go.bipush d2_11 (v := 13) rfl ?_
  refine Go.icmp_eq d2_13 j2_13 (fun h13 => ?_) (fun h13 => ?_)
  · -- pc 13 taken
    refine Go.iconst d2_20 (v := 0) rfl ?_
    refine Go.istoreN d2_21 (ls' := [.val (.ref 0), .val (.int 0), .unset]) rfl ?_
    refine Go.iconst d2_22 (v := 0) rfl ?_
    refine Go.istoreN d2_23 (ls' := [.val (.ref 0), .val (.int 0), .val (.int 0)]) rfl ?_
    refine Go.iloadN d2_24 rfl ?_
    refine Go.aloadN d2_25 rfl rfl ?_
    refine Go.arraylength d2_26 rfl (z := 2) rfl ?_
    refine Go.icmpF d2_27 (XT.ii_ge_f (by decide)) ?_
    refine Go.iloadN d2_30 rfl ?_
    refine Go.ifT d2_31 j2_31 (XT.i0_eq_t (by decide)) ?_
    refine Go.iloadN d2_54 rfl ?_
    exact Go.ireturnZ d2_55 rfl (by decide) (by rw [own_can2, if_pos h13]) (HOk.eq rfl)
  · -- pc 13 not taken
    refine Go.iconst d2_16 (v := 1) rfl ?_
    refine Go.goto d2_17 j2_17 ?_
    refine Go.istoreN d2_21 (ls' := [.val (.ref 0), .val (.int 1), .unset]) rfl ?_
    refine Go.iconst d2_22 (v := 0) rfl ?_
    refine Go.istoreN d2_23 (ls' := [.val (.ref 0), .val (.int 1), .val (.int 0)]) rfl ?_
    refine Go.iloadN d2_24 rfl ?_
    refine Go.aloadN d2_25 rfl rfl ?_
    refine Go.arraylength d2_26 rfl (z := 2) rfl ?_
    refine Go.icmpF d2_27 (XT.ii_ge_f (by decide)) ?_
    refine Go.iloadN d2_30 rfl ?_
    refine Go.ifF d2_31 (XT.i0_eq_f (by decide)) ?_
    refine Go.aloadN d2_34 rfl rfl ?_
    refine Go.iloadN d2_35 rfl ?_
    refine Go.baload d2_36 rfl (by decide) rfl ?_
    refine Go.bipush d2_37 (v := 10) rfl ?_
    refine Go.icmp_eq d2_39 j2_39 (fun h39 => ?_) (fun h39 => ?_)
    · -- pc 39 taken
      refine Go.iconst d2_46 (v := 0) rfl ?_
      refine Go.istoreN d2_47 (ls' := [.val (.ref 0), .val (.int 0), .val (.int 0)]) rfl ?_
      refine Go.iinc d2_48 (v := 1) rfl rfl (ls' := [.val (.ref 0), .val (.int 0), .val (.int 1)]) rfl ?_
      refine Go.goto d2_51 j2_51 ?_
      refine Go.iloadN d2_24 rfl ?_
      refine Go.aloadN d2_25 rfl rfl ?_
      refine Go.arraylength d2_26 rfl (z := 2) rfl ?_
      refine Go.icmpF d2_27 (XT.ii_ge_f (by decide)) ?_
      refine Go.iloadN d2_30 rfl ?_
      refine Go.ifT d2_31 j2_31 (XT.i0_eq_t (by decide)) ?_
      refine Go.iloadN d2_54 rfl ?_
      exact Go.ireturnZ d2_55 rfl (by decide) (by rw [own_can2, if_neg h13, if_pos h39]) (HOk.eq rfl)
    · -- pc 39 not taken
      refine Go.iconst d2_42 (v := 1) rfl ?_
      refine Go.goto d2_43 j2_43 ?_
      refine Go.istoreN d2_47 (ls' := [.val (.ref 0), .val (.int 1), .val (.int 0)]) rfl ?_
      refine Go.iinc d2_48 (v := 1) rfl rfl (ls' := [.val (.ref 0), .val (.int 1), .val (.int 1)]) rfl ?_
      refine Go.goto d2_51 j2_51 ?_
      refine Go.iloadN d2_24 rfl ?_
      refine Go.aloadN d2_25 rfl rfl ?_
      refine Go.arraylength d2_26 rfl (z := 2) rfl ?_
      refine Go.icmpF d2_27 (XT.ii_ge_f (by decide)) ?_
      refine Go.iloadN d2_30 rfl ?_
      refine Go.ifF d2_31 (XT.i0_eq_f (by decide)) ?_
      refine Go.aloadN d2_34 rfl rfl ?_
      refine Go.iloadN d2_35 rfl ?_
      refine Go.baload d2_36 rfl (by decide) rfl ?_
      refine Go.bipush d2_37 (v := 10) rfl ?_
      refine Go.icmp_eq d2_39 j2_39 (fun h39_1 => ?_) (fun h39_1 => ?_)
      · -- pc 39 taken
        refine Go.iconst d2_46 (v := 0) rfl ?_
        refine Go.istoreN d2_47 (ls' := [.val (.ref 0), .val (.int 0), .val (.int 1)]) rfl ?_
        refine Go.iinc d2_48 (v := 1) rfl rfl (ls' := [.val (.ref 0), .val (.int 0), .val (.int 2)]) rfl ?_
        refine Go.goto d2_51 j2_51 ?_
        refine Go.iloadN d2_24 rfl ?_
        refine Go.aloadN d2_25 rfl rfl ?_
        refine Go.arraylength d2_26 rfl (z := 2) rfl ?_
        refine Go.icmpT d2_27 j2_27 (XT.ii_ge_t (by decide)) ?_
        refine Go.iloadN d2_54 rfl ?_
        exact Go.ireturnZ d2_55 rfl (by decide) (by rw [own_can2, if_neg h13, if_neg h39, if_pos h39_1]) (HOk.eq rfl)
      · -- pc 39 not taken
        refine Go.iconst d2_42 (v := 1) rfl ?_
        refine Go.goto d2_43 j2_43 ?_
        refine Go.istoreN d2_47 (ls' := [.val (.ref 0), .val (.int 1), .val (.int 1)]) rfl ?_
        refine Go.iinc d2_48 (v := 1) rfl rfl (ls' := [.val (.ref 0), .val (.int 1), .val (.int 2)]) rfl ?_
        refine Go.goto d2_51 j2_51 ?_
        refine Go.iloadN d2_24 rfl ?_
        refine Go.aloadN d2_25 rfl rfl ?_
        refine Go.arraylength d2_26 rfl (z := 2) rfl ?_
        refine Go.icmpT d2_27 j2_27 (XT.ii_ge_t (by decide)) ?_
        refine Go.iloadN d2_54 rfl ?_
        exact Go.ireturnZ d2_55 rfl (by decide) (by rw [own_can2, if_neg h13, if_neg h39, if_neg h39_1]) (HOk.eq rfl)
def own_can3 (v0 v1 v2 : Int32) : Int32 := (if v2 = 13 then 0 else (if v0 = 10 then 0 else (if v1 = 10 then 0 else (if v2 = 10 then 0 else 1))))
theorem go_own_can3 (K : Ctx) (hw : ∀ d ∈ tables_1, d.before K.2.2.1 K.2.1 = true) (v0 v1 v2 : Int32) : Go K m2 0 0 0 [.val (.ref 0), .unset, .unset] [] [.inr (.byte, [.int v0, .int v1, .int v2])] (some (.int (own_can3 v0 v1 v2)), some [.inr (.byte, [.int v0, .int v1, .int v2])], 0, 0) := by
  refine Go.aloadN d2_0 rfl rfl ?_
  refine Go.arraylength d2_1 rfl (z := 3) rfl ?_
  refine Go.ifF d2_2 (XT.i0_eq_f (by decide)) ?_
  refine Go.aloadN d2_5 rfl rfl ?_
  refine Go.aloadN d2_6 rfl rfl ?_
  refine Go.arraylength d2_7 rfl (z := 3) rfl ?_
  refine Go.iconst d2_8 (v := 1) rfl ?_
  refine Go.isub d2_9 ?_
  show Go _ _ _ _ 10 [.val (.ref 0), .unset, .unset] [.int 2, .ref 0] [.inr (.byte, [.int v0, .int v1, .int v2])] _
  refine Go.baload d2_10 rfl (by decide) rfl ?_
  refine Go.bipush d2_11 (v := 13) rfl ?_
  refine Go.icmp_eq d2_13 j2_13 (fun h13 => ?_) (fun h13 => ?_)
  · -- pc 13 taken
    refine Go.iconst d2_20 (v := 0) rfl ?_
    refine Go.istoreN d2_21 (ls' := [.val (.ref 0), .val (.int 0), .unset]) rfl ?_
    refine Go.iconst d2_22 (v := 0) rfl ?_
    refine Go.istoreN d2_23 (ls' := [.val (.ref 0), .val (.int 0), .val (.int 0)]) rfl ?_
    refine Go.iloadN d2_24 rfl ?_
    refine Go.aloadN d2_25 rfl rfl ?_
    refine Go.arraylength d2_26 rfl (z := 3) rfl ?_
    refine Go.icmpF d2_27 (XT.ii_ge_f (by decide)) ?_
    refine Go.iloadN d2_30 rfl ?_
    refine Go.ifT d2_31 j2_31 (XT.i0_eq_t (by decide)) ?_
    refine Go.iloadN d2_54 rfl ?_
    exact Go.ireturnZ d2_55 rfl (by decide) (by rw [own_can3, if_pos h13]) (HOk.eq rfl)
  · -- pc 13 not taken
    refine Go.iconst d2_16 (v := 1) rfl ?_
    refine Go.goto d2_17 j2_17 ?_
    refine Go.istoreN d2_21 (ls' := [.val (.ref 0), .val (.int 1), .unset]) rfl ?_
    refine Go.iconst d2_22 (v := 0) rfl ?_
    refine Go.istoreN d2_23 (ls' := [.val (.ref 0), .val (.int 1), .val (.int 0)]) rfl ?_
    refine Go.iloadN d2_24 rfl ?_
    refine Go.aloadN d2_25 rfl rfl ?_
    refine Go.arraylength d2_26 rfl (z := 3) rfl ?_
    refine Go.icmpF d2_27 (XT.ii_ge_f (by decide)) ?_
    refine Go.iloadN d2_30 rfl ?_
    refine Go.ifF d2_31 (XT.i0_eq_f (by decide)) ?_
    refine Go.aloadN d2_34 rfl rfl ?_
    refine Go.iloadN d2_35 rfl ?_
    refine Go.baload d2_36 rfl (by decide) rfl ?_
    refine Go.bipush d2_37 (v := 10) rfl ?_
    refine Go.icmp_eq d2_39 j2_39 (fun h39 => ?_) (fun h39 => ?_)
    · -- pc 39 taken
      refine Go.iconst d2_46 (v := 0) rfl ?_
      refine Go.istoreN d2_47 (ls' := [.val (.ref 0), .val (.int 0), .val (.int 0)]) rfl ?_
      refine Go.iinc d2_48 (v := 1) rfl rfl (ls' := [.val (.ref 0), .val (.int 0), .val (.int 1)]) rfl ?_
      refine Go.goto d2_51 j2_51 ?_
      refine Go.iloadN d2_24 rfl ?_
      refine Go.aloadN d2_25 rfl rfl ?_
      refine Go.arraylength d2_26 rfl (z := 3) rfl ?_
      refine Go.icmpF d2_27 (XT.ii_ge_f (by decide)) ?_
      refine Go.iloadN d2_30 rfl ?_
      refine Go.ifT d2_31 j2_31 (XT.i0_eq_t (by decide)) ?_
      refine Go.iloadN d2_54 rfl ?_
      exact Go.ireturnZ d2_55 rfl (by decide) (by rw [own_can3, if_neg h13, if_pos h39]) (HOk.eq rfl)
    · -- pc 39 not taken
      refine Go.iconst d2_42 (v := 1) rfl ?_
      refine Go.goto d2_43 j2_43 ?_
      refine Go.istoreN d2_47 (ls' := [.val (.ref 0), .val (.int 1), .val (.int 0)]) rfl ?_
      refine Go.iinc d2_48 (v := 1) rfl rfl (ls' := [.val (.ref 0), .val (.int 1), .val (.int 1)]) rfl ?_
      refine Go.goto d2_51 j2_51 ?_
      refine Go.iloadN d2_24 rfl ?_
      refine Go.aloadN d2_25 rfl rfl ?_
      refine Go.arraylength d2_26 rfl (z := 3) rfl ?_
      refine Go.icmpF d2_27 (XT.ii_ge_f (by decide)) ?_
      refine Go.iloadN d2_30 rfl ?_
      refine Go.ifF d2_31 (XT.i0_eq_f (by decide)) ?_
      refine Go.aloadN d2_34 rfl rfl ?_
      refine Go.iloadN d2_35 rfl ?_
      refine Go.baload d2_36 rfl (by decide) rfl ?_
      refine Go.bipush d2_37 (v := 10) rfl ?_
      refine Go.icmp_eq d2_39 j2_39 (fun h39_1 => ?_) (fun h39_1 => ?_)
      · -- pc 39 taken
        refine Go.iconst d2_46 (v := 0) rfl ?_
        refine Go.istoreN d2_47 (ls' := [.val (.ref 0), .val (.int 0), .val (.int 1)]) rfl ?_
        refine Go.iinc d2_48 (v := 1) rfl rfl (ls' := [.val (.ref 0), .val (.int 0), .val (.int 2)]) rfl ?_
        refine Go.goto d2_51 j2_51 ?_
        refine Go.iloadN d2_24 rfl ?_
        refine Go.aloadN d2_25 rfl rfl ?_
        refine Go.arraylength d2_26 rfl (z := 3) rfl ?_
        refine Go.icmpF d2_27 (XT.ii_ge_f (by decide)) ?_
        refine Go.iloadN d2_30 rfl ?_
        refine Go.ifT d2_31 j2_31 (XT.i0_eq_t (by decide)) ?_
        refine Go.iloadN d2_54 rfl ?_
        exact Go.ireturnZ d2_55 rfl (by decide) (by rw [own_can3, if_neg h13, if_neg h39, if_pos h39_1]) (HOk.eq rfl)
      · -- pc 39 not taken
        refine Go.iconst d2_42 (v := 1) rfl ?_
        refine Go.goto d2_43 j2_43 ?_
        refine Go.istoreN d2_47 (ls' := [.val (.ref 0), .val (.int 1), .val (.int 1)]) rfl ?_
        refine Go.iinc d2_48 (v := 1) rfl rfl (ls' := [.val (.ref 0), .val (.int 1), .val (.int 2)]) rfl ?_
        refine Go.goto d2_51 j2_51 ?_
        refine Go.iloadN d2_24 rfl ?_
        refine Go.aloadN d2_25 rfl rfl ?_
        refine Go.arraylength d2_26 rfl (z := 3) rfl ?_
        refine Go.icmpF d2_27 (XT.ii_ge_f (by decide)) ?_
        refine Go.iloadN d2_30 rfl ?_
        refine Go.ifF d2_31 (XT.i0_eq_f (by decide)) ?_
        refine Go.aloadN d2_34 rfl rfl ?_
        refine Go.iloadN d2_35 rfl ?_
        refine Go.baload d2_36 rfl (by decide) rfl ?_
        refine Go.bipush d2_37 (v := 10) rfl ?_
        refine Go.icmp_eq d2_39 j2_39 (fun h39_2 => ?_) (fun h39_2 => ?_)
        · -- pc 39 taken
          refine Go.iconst d2_46 (v := 0) rfl ?_
          refine Go.istoreN d2_47 (ls' := [.val (.ref 0), .val (.int 0), .val (.int 2)]) rfl ?_
          refine Go.iinc d2_48 (v := 1) rfl rfl (ls' := [.val (.ref 0), .val (.int 0), .val (.int 3)]) rfl ?_
          refine Go.goto d2_51 j2_51 ?_
          refine Go.iloadN d2_24 rfl ?_
          refine Go.aloadN d2_25 rfl rfl ?_
          refine Go.arraylength d2_26 rfl (z := 3) rfl ?_
          refine Go.icmpT d2_27 j2_27 (XT.ii_ge_t (by decide)) ?_
          refine Go.iloadN d2_54 rfl ?_
          exact Go.ireturnZ d2_55 rfl (by decide) (by rw [own_can3, if_neg h13, if_neg h39, if_neg h39_1, if_pos h39_2]) (HOk.eq rfl)
        · -- pc 39 not taken
          refine Go.iconst d2_42 (v := 1) rfl ?_
          refine Go.goto d2_43 j2_43 ?_
          refine Go.istoreN d2_47 (ls' := [.val (.ref 0), .val (.int 1), .val (.int 2)]) rfl ?_
          refine Go.iinc d2_48 (v := 1) rfl rfl (ls' := [.val (.ref 0), .val (.int 1), .val (.int 3)]) rfl ?_
          refine Go.goto d2_51 j2_51 ?_
          refine Go.iloadN d2_24 rfl ?_
          refine Go.aloadN d2_25 rfl rfl ?_
          refine Go.arraylength d2_26 rfl (z := 3) rfl ?_
          refine Go.icmpT d2_27 j2_27 (XT.ii_ge_t (by decide)) ?_
          refine Go.iloadN d2_54 rfl ?_
          exact Go.ireturnZ d2_55 rfl (by decide) (by rw [own_can3, if_neg h13, if_neg h39, if_neg h39_1, if_neg h39_2]) (HOk.eq rfl)
def own_can4 (v0 v1 v2 v3 : Int32) : Int32 := (if v3 = 13 then 0 else (if v0 = 10 then 0 else (if v1 = 10 then 0 else (if v2 = 10 then 0 else (if v3 = 10 then 0 else 1)))))
theorem go_own_can4 (K : Ctx) (hw : ∀ d ∈ tables_1, d.before K.2.2.1 K.2.1 = true) (v0 v1 v2 v3 : Int32) : Go K m2 0 0 0 [.val (.ref 0), .unset, .unset] [] [.inr (.byte, [.int v0, .int v1, .int v2, .int v3])] (some (.int (own_can4 v0 v1 v2 v3)), some [.inr (.byte, [.int v0, .int v1, .int v2, .int v3])], 0, 0) := by
  refine Go.aloadN d2_0 rfl rfl ?_
  refine Go.arraylength d2_1 rfl (z := 4) rfl ?_
  refine Go.ifF d2_2 (XT.i0_eq_f (by decide)) ?_
  refine Go.aloadN d2_5 rfl rfl ?_
  refine Go.aloadN d2_6 rfl rfl ?_
  refine Go.arraylength d2_7 rfl (z := 4) rfl ?_
  refine Go.iconst d2_8 (v := 1) rfl ?_
  refine Go.isub d2_9 ?_
  show Go _ _ _ _ 10 [.val (.ref 0), .unset, .unset] [.int 3, .ref 0] [.inr (.byte, [.int v0, .int v1, .int v2, .int v3])] _
  refine Go.baload d2_10 rfl (by decide) rfl ?_
  refine Go.bipush d2_11 (v := 13) rfl ?_
  refine Go.icmp_eq d2_13 j2_13 (fun h13 => ?_) (fun h13 => ?_)
  · -- pc 13 taken
    refine Go.iconst d2_20 (v := 0) rfl ?_
    refine Go.istoreN d2_21 (ls' := [.val (.ref 0), .val (.int 0), .unset]) rfl ?_
    refine Go.iconst d2_22 (v := 0) rfl ?_
    refine Go.istoreN d2_23 (ls' := [.val (.ref 0), .val (.int 0), .val (.int 0)]) rfl ?_
    refine Go.iloadN d2_24 rfl ?_
    refine Go.aloadN d2_25 rfl rfl ?_
    refine Go.arraylength d2_26 rfl (z := 4) rfl ?_
    refine Go.icmpF d2_27 (XT.ii_ge_f (by decide)) ?_
    refine Go.iloadN d2_30 rfl ?_
    refine Go.ifT d2_31 j2_31 (XT.i0_eq_t (by decide)) ?_
    refine Go.iloadN d2_54 rfl ?_
    exact Go.ireturnZ d2_55 rfl (by decide) (by rw [own_can4, if_pos h13]) (HOk.eq rfl)
  · -- pc 13 not taken
    refine Go.iconst d2_16 (v := 1) rfl ?_
    refine Go.goto d2_17 j2_17 ?_
    refine Go.istoreN d2_21 (ls' := [.val (.ref 0), .val (.int 1), .unset]) rfl ?_
    refine Go.iconst d2_22 (v := 0) rfl ?_
    refine Go.istoreN d2_23 (ls' := [.val (.ref 0), .val (.int 1), .val (.int 0)]) rfl ?_
    refine Go.iloadN d2_24 rfl ?_
    refine Go.aloadN d2_25 rfl rfl ?_
    refine Go.arraylength d2_26 rfl (z := 4) rfl ?_
    refine Go.icmpF d2_27 (XT.ii_ge_f (by decide)) ?_
    refine Go.iloadN d2_30 rfl ?_
    refine Go.ifF d2_31 (XT.i0_eq_f (by decide)) ?_
    refine Go.aloadN d2_34 rfl rfl ?_
    refine Go.iloadN d2_35 rfl ?_
    refine Go.baload d2_36 rfl (by decide) rfl ?_
    refine Go.bipush d2_37 (v := 10) rfl ?_
    refine Go.icmp_eq d2_39 j2_39 (fun h39 => ?_) (fun h39 => ?_)
    · -- pc 39 taken
      refine Go.iconst d2_46 (v := 0) rfl ?_
      refine Go.istoreN d2_47 (ls' := [.val (.ref 0), .val (.int 0), .val (.int 0)]) rfl ?_
      refine Go.iinc d2_48 (v := 1) rfl rfl (ls' := [.val (.ref 0), .val (.int 0), .val (.int 1)]) rfl ?_
      refine Go.goto d2_51 j2_51 ?_
      refine Go.iloadN d2_24 rfl ?_
      refine Go.aloadN d2_25 rfl rfl ?_
      refine Go.arraylength d2_26 rfl (z := 4) rfl ?_
      refine Go.icmpF d2_27 (XT.ii_ge_f (by decide)) ?_
      refine Go.iloadN d2_30 rfl ?_
      refine Go.ifT d2_31 j2_31 (XT.i0_eq_t (by decide)) ?_
      refine Go.iloadN d2_54 rfl ?_
      exact Go.ireturnZ d2_55 rfl (by decide) (by rw [own_can4, if_neg h13, if_pos h39]) (HOk.eq rfl)
    · -- pc 39 not taken
      refine Go.iconst d2_42 (v := 1) rfl ?_
      refine Go.goto d2_43 j2_43 ?_
      refine Go.istoreN d2_47 (ls' := [.val (.ref 0), .val (.int 1), .val (.int 0)]) rfl ?_
      refine Go.iinc d2_48 (v := 1) rfl rfl (ls' := [.val (.ref 0), .val (.int 1), .val (.int 1)]) rfl ?_
      refine Go.goto d2_51 j2_51 ?_
      refine Go.iloadN d2_24 rfl ?_
      refine Go.aloadN d2_25 rfl rfl ?_
      refine Go.arraylength d2_26 rfl (z := 4) rfl ?_
      refine Go.icmpF d2_27 (XT.ii_ge_f (by decide)) ?_
      refine Go.iloadN d2_30 rfl ?_
      refine Go.ifF d2_31 (XT.i0_eq_f (by decide)) ?_
      refine Go.aloadN d2_34 rfl rfl ?_
      refine Go.iloadN d2_35 rfl ?_
      refine Go.baload d2_36 rfl (by decide) rfl ?_
      refine Go.bipush d2_37 (v := 10) rfl ?_
      refine Go.icmp_eq d2_39 j2_39 (fun h39_1 => ?_) (fun h39_1 => ?_)
      · -- pc 39 taken
        refine Go.iconst d2_46 (v := 0) rfl ?_
        refine Go.istoreN d2_47 (ls' := [.val (.ref 0), .val (.int 0), .val (.int 1)]) rfl ?_
        refine Go.iinc d2_48 (v := 1) rfl rfl (ls' := [.val (.ref 0), .val (.int 0), .val (.int 2)]) rfl ?_
        refine Go.goto d2_51 j2_51 ?_
        refine Go.iloadN d2_24 rfl ?_
        refine Go.aloadN d2_25 rfl rfl ?_
        refine Go.arraylength d2_26 rfl (z := 4) rfl ?_
        refine Go.icmpF d2_27 (XT.ii_ge_f (by decide)) ?_
        refine Go.iloadN d2_30 rfl ?_
        refine Go.ifT d2_31 j2_31 (XT.i0_eq_t (by decide)) ?_
        refine Go.iloadN d2_54 rfl ?_
        exact Go.ireturnZ d2_55 rfl (by decide) (by rw [own_can4, if_neg h13, if_neg h39, if_pos h39_1]) (HOk.eq rfl)
      · -- pc 39 not taken
        refine Go.iconst d2_42 (v := 1) rfl ?_
        refine Go.goto d2_43 j2_43 ?_
        refine Go.istoreN d2_47 (ls' := [.val (.ref 0), .val (.int 1), .val (.int 1)]) rfl ?_
        refine Go.iinc d2_48 (v := 1) rfl rfl (ls' := [.val (.ref 0), .val (.int 1), .val (.int 2)]) rfl ?_
        refine Go.goto d2_51 j2_51 ?_
        refine Go.iloadN d2_24 rfl ?_
        refine Go.aloadN d2_25 rfl rfl ?_
        refine Go.arraylength d2_26 rfl (z := 4) rfl ?_
        refine Go.icmpF d2_27 (XT.ii_ge_f (by decide)) ?_
        refine Go.iloadN d2_30 rfl ?_
        refine Go.ifF d2_31 (XT.i0_eq_f (by decide)) ?_
        refine Go.aloadN d2_34 rfl rfl ?_
        refine Go.iloadN d2_35 rfl ?_
        refine Go.baload d2_36 rfl (by decide) rfl ?_
        refine Go.bipush d2_37 (v := 10) rfl ?_
        refine Go.icmp_eq d2_39 j2_39 (fun h39_2 => ?_) (fun h39_2 => ?_)
        · -- pc 39 taken
          refine Go.iconst d2_46 (v := 0) rfl ?_
          refine Go.istoreN d2_47 (ls' := [.val (.ref 0), .val (.int 0), .val (.int 2)]) rfl ?_
          refine Go.iinc d2_48 (v := 1) rfl rfl (ls' := [.val (.ref 0), .val (.int 0), .val (.int 3)]) rfl ?_
          refine Go.goto d2_51 j2_51 ?_
          refine Go.iloadN d2_24 rfl ?_
          refine Go.aloadN d2_25 rfl rfl ?_
          refine Go.arraylength d2_26 rfl (z := 4) rfl ?_
          refine Go.icmpF d2_27 (XT.ii_ge_f (by decide)) ?_
          refine Go.iloadN d2_30 rfl ?_
          refine Go.ifT d2_31 j2_31 (XT.i0_eq_t (by decide)) ?_
          refine Go.iloadN d2_54 rfl ?_
          exact Go.ireturnZ d2_55 rfl (by decide) (by rw [own_can4, if_neg h13, if_neg h39, if_neg h39_1, if_pos h39_2]) (HOk.eq rfl)
        · -- pc 39 not taken
          refine Go.iconst d2_42 (v := 1) rfl ?_
          refine Go.goto d2_43 j2_43 ?_
          refine Go.istoreN d2_47 (ls' := [.val (.ref 0), .val (.int 1), .val (.int 2)]) rfl ?_
          refine Go.iinc d2_48 (v := 1) rfl rfl (ls' := [.val (.ref 0), .val (.int 1), .val (.int 3)]) rfl ?_
          refine Go.goto d2_51 j2_51 ?_
          refine Go.iloadN d2_24 rfl ?_
          refine Go.aloadN d2_25 rfl rfl ?_
          refine Go.arraylength d2_26 rfl (z := 4) rfl ?_
          refine Go.icmpF d2_27 (XT.ii_ge_f (by decide)) ?_
          refine Go.iloadN d2_30 rfl ?_
          refine Go.ifF d2_31 (XT.i0_eq_f (by decide)) ?_
          refine Go.aloadN d2_34 rfl rfl ?_
          refine Go.iloadN d2_35 rfl ?_
          refine Go.baload d2_36 rfl (by decide) rfl ?_
          refine Go.bipush d2_37 (v := 10) rfl ?_
          refine Go.icmp_eq d2_39 j2_39 (fun h39_3 => ?_) (fun h39_3 => ?_)
          · -- pc 39 taken
            refine Go.iconst d2_46 (v := 0) rfl ?_
            refine Go.istoreN d2_47 (ls' := [.val (.ref 0), .val (.int 0), .val (.int 3)]) rfl ?_
            refine Go.iinc d2_48 (v := 1) rfl rfl (ls' := [.val (.ref 0), .val (.int 0), .val (.int 4)]) rfl ?_
            refine Go.goto d2_51 j2_51 ?_
            refine Go.iloadN d2_24 rfl ?_
            refine Go.aloadN d2_25 rfl rfl ?_
            refine Go.arraylength d2_26 rfl (z := 4) rfl ?_
            refine Go.icmpT d2_27 j2_27 (XT.ii_ge_t (by decide)) ?_
            refine Go.iloadN d2_54 rfl ?_
            exact Go.ireturnZ d2_55 rfl (by decide) (by rw [own_can4, if_neg h13, if_neg h39, if_neg h39_1, if_neg h39_2, if_pos h39_3]) (HOk.eq rfl)
          · -- pc 39 not taken
            refine Go.iconst d2_42 (v := 1) rfl ?_
            refine Go.goto d2_43 j2_43 ?_
            refine Go.istoreN d2_47 (ls' := [.val (.ref 0), .val (.int 1), .val (.int 3)]) rfl ?_
            refine Go.iinc d2_48 (v := 1) rfl rfl (ls' := [.val (.ref 0), .val (.int 1), .val (.int 4)]) rfl ?_
            refine Go.goto d2_51 j2_51 ?_
            refine Go.iloadN d2_24 rfl ?_
            refine Go.aloadN d2_25 rfl rfl ?_
            refine Go.arraylength d2_26 rfl (z := 4) rfl ?_
            refine Go.icmpT d2_27 j2_27 (XT.ii_ge_t (by decide)) ?_
            refine Go.iloadN d2_54 rfl ?_
            exact Go.ireturnZ d2_55 rfl (by decide) (by rw [own_can4, if_neg h13, if_neg h39, if_neg h39_1, if_neg h39_2, if_neg h39_3]) (HOk.eq rfl)
theorem own_i5 (x : Int32) : ((x &&& 7) % 5) = 0 ∨ ((x &&& 7) % 5) = 1 ∨ ((x &&& 7) % 5) = 2 ∨ ((x &&& 7) % 5) = 3 ∨ ((x &&& 7) % 5) = 4 := by
  have h0 := Jvm.Kit.i32_mask x 7 (k := 3) (by decide) (by decide)
  have h := Jvm.Kit.i32_rem_nonneg (x := x &&& 7) (y := 5) (by omega)
  have e3 : (5 : Int32).toInt = 5 := by decide
  rw [e3] at h
  rcases (by omega : (x &&& 7).toInt % 5 = 0 ∨ (x &&& 7).toInt % 5 = 1 ∨ (x &&& 7).toInt % 5 = 2 ∨ (x &&& 7).toInt % 5 = 3 ∨ (x &&& 7).toInt % 5 = 4) with q | q | q | q | q
  · exact Or.inl (Int32.toInt_inj.mp (by rw [h, q]; rfl))
  · exact Or.inr (Or.inl (Int32.toInt_inj.mp (by rw [h, q]; rfl)))
  · exact Or.inr (Or.inr (Or.inl (Int32.toInt_inj.mp (by rw [h, q]; rfl))))
  · exact Or.inr (Or.inr (Or.inr (Or.inl (Int32.toInt_inj.mp (by rw [h, q]; rfl)))))
  · exact Or.inr (Or.inr (Or.inr (Or.inr (Int32.toInt_inj.mp (by rw [h, q]; rfl)))))
theorem own_nb (x : Int32) : nar .byte ((Int32.toInt8 x).toInt32) = (Int32.toInt8 x).toInt32 := by simp [nar]
theorem own_pk (x : Int32) : nar .byte ((Int32.toInt8 (own_pick x)).toInt32) = own_pick x := by
  rw [own_nb, own_pick]
  split
  · rfl
  · split
    · rfl
    · simp
theorem go_tail0 (K : Ctx) (hw : ∀ d ∈ tables_1, d.before K.2.2.1 K.2.1 = true) (x0 x1 x2 x3 x4 v0 v1 v2 v3 : Int32) (h0 : nar .byte ((Int32.toInt8 v0).toInt32) = v0) (h1 : nar .byte ((Int32.toInt8 v1).toInt32) = v1) (h2 : nar .byte ((Int32.toInt8 v2).toInt32) = v2) (h3 : nar .byte ((Int32.toInt8 v3).toInt32) = v3) : Go K m0 4 112 33 [.val (.int x0), .val (.int x1), .val (.int x2), .val (.int x3), .val (.int x4), .val (.int 0), .val (.int v0), .val (.int v1), .val (.int v2), .val (.int v3), .unset, .unset, .unset, .unset] [] [] (some (.int 1), none, 16, 128) := by
  refine Go.iload d0_33 rfl ?_
  refine Go.newarray 0 d0_35 (hw _ (List.mem_of_getElem? (i := 4) rfl)) (t := .byte) rfl (by decide) (by decide) (by decide) (vs := []) rfl (i := 0) rfl 15 128 (by decide) (by decide) ?_
  show Go _ _ _ _ 37 [.val (.int x0), .val (.int x1), .val (.int x2), .val (.int x3), .val (.int x4), .val (.int 0), .val (.int v0), .val (.int v1), .val (.int v2), .val (.int v3), .unset, .unset, .unset, .unset] [.ref 0] [.inr (.byte, [])] _
  refine Go.astore d0_37 (ls' := [.val (.int x0), .val (.int x1), .val (.int x2), .val (.int x3), .val (.int x4), .val (.int 0), .val (.int v0), .val (.int v1), .val (.int v2), .val (.int v3), .val (.ref 0), .unset, .unset, .unset]) rfl rfl ?_
  refine Go.iload d0_39 rfl ?_
  refine Go.ifT d0_41 j0_41 (XT.i0_le_t (by decide)) ?_
  refine Go.iload d0_51 rfl ?_
  refine Go.iconst d0_53 (v := 1) rfl ?_
  refine Go.icmpT d0_54 j0_54 (XT.ii_le_t (by decide)) ?_
  refine Go.iload d0_64 rfl ?_
  refine Go.iconst d0_66 (v := 2) rfl ?_
  refine Go.icmpT d0_67 j0_67 (XT.ii_le_t (by decide)) ?_
  refine Go.iload d0_77 rfl ?_
  refine Go.iconst d0_79 (v := 3) rfl ?_
  refine Go.icmpT d0_80 j0_80 (XT.ii_le_t (by decide)) ?_
  refine Go.iload d0_90 rfl ?_
  refine Go.ifT d0_92 j0_92 (XT.i0_le_t (by decide)) ?_
  refine Go.iload d0_102 rfl ?_
  refine Go.iconst d0_104 (v := 1) rfl ?_
  refine Go.icmpT d0_105 j0_105 (XT.ii_le_t (by decide)) ?_
  refine Go.iload d0_115 rfl ?_
  refine Go.iconst d0_117 (v := 2) rfl ?_
  refine Go.icmpT d0_118 j0_118 (XT.ii_le_t (by decide)) ?_
  refine Go.iload d0_128 rfl ?_
  refine Go.iconst d0_130 (v := 3) rfl ?_
  refine Go.icmpT d0_131 j0_131 (XT.ii_le_t (by decide)) ?_
  refine Go.iconst d0_145 (v := 0) rfl ?_
  refine Go.istore d0_146 (ls' := [.val (.int x0), .val (.int x1), .val (.int x2), .val (.int x3), .val (.int x4), .val (.int 0), .val (.int v0), .val (.int v1), .val (.int v2), .val (.int v3), .val (.ref 0), .val (.int 0), .unset, .unset]) rfl ?_
  refine Go.iconst d0_148 (v := (-1)) rfl ?_
  refine Go.istore d0_149 (ls' := [.val (.int x0), .val (.int x1), .val (.int x2), .val (.int x3), .val (.int x4), .val (.int 0), .val (.int v0), .val (.int v1), .val (.int v2), .val (.int v3), .val (.ref 0), .val (.int 0), .val (.int (-1)), .unset]) rfl ?_
  refine Go.iload d0_151 rfl ?_
  refine Go.iconst d0_153 (v := 1) rfl ?_
  refine Go.icmpT d0_154 j0_154 (XT.ii_ne_t (by decide)) ?_
  refine Go.iload d0_164 rfl ?_
  refine Go.iconst d0_166 (v := 2) rfl ?_
  refine Go.icmpT d0_167 j0_167 (XT.ii_ne_t (by decide)) ?_
  refine Go.iload d0_177 rfl ?_
  refine Go.iconst d0_179 (v := 3) rfl ?_
  refine Go.icmpT d0_180 j0_180 (XT.ii_ne_t (by decide)) ?_
  refine Go.iload d0_190 rfl ?_
  refine Go.iconst d0_192 (v := 4) rfl ?_
  refine Go.icmpT d0_193 j0_193 (XT.ii_ne_t (by decide)) ?_
  refine Go.iload d0_200 rfl ?_
  refine Go.ifF d0_202 (XT.i0_ne_f (by decide)) ?_
  refine Go.iload d0_205 rfl ?_
  refine Go.bipush d0_207 (v := 13) rfl ?_
  refine Go.icmpF d0_209 (XT.ii_eq_f (by decide)) ?_
  refine Go.iconst d0_212 (v := 1) rfl ?_
  refine Go.goto d0_213 j0_213 ?_
  refine Go.istore d0_217 (ls' := [.val (.int x0), .val (.int x1), .val (.int x2), .val (.int x3), .val (.int x4), .val (.int 0), .val (.int v0), .val (.int v1), .val (.int v2), .val (.int v3), .val (.ref 0), .val (.int 0), .val (.int (-1)), .val (.int 1)]) rfl ?_
  refine Go.aload d0_219 rfl rfl ?_
  refine Go.callS (M' := m2) d0_221 (hw _ (List.mem_of_getElem? (i := 5) rfl)) (hw _ (List.mem_of_getElem? (i := 6) rfl)) (hw _ (List.mem_of_getElem? (i := 7) rfl)) (hw _ (List.mem_of_getElem? (i := 8) rfl)) mi2 (as := [.ref 0]) rfl rfl (st := []) rfl (ls1 := [.val (.ref 0), .unset, .unset]) rfl (W := 0) rfl (by decide) (by decide) (go_own_can0 K hw ) 15 128 (by decide) (by decide) ?_
  show Go _ _ _ _ 224 [.val (.int x0), .val (.int x1), .val (.int x2), .val (.int x3), .val (.int x4), .val (.int 0), .val (.int v0), .val (.int v1), .val (.int v2), .val (.int v3), .val (.ref 0), .val (.int 0), .val (.int (-1)), .val (.int 1)] [.int own_can0] [.inr (.byte, [])] _
  refine Go.iload d0_224 rfl ?_
  refine Go.icmpF d0_226 (XT.ii_ne_f (by
                  simp only [own_can0]
                  all_goals (first | rfl | (repeat' split) <;> simp_all))) ?_
  refine Go.iconst d0_229 (v := 1) rfl ?_
  refine Go.goto d0_230 j0_230 ?_
  exact Go.ireturnZ d0_234 rfl (by decide) rfl HOk.any
theorem go_tail1 (K : Ctx) (hw : ∀ d ∈ tables_1, d.before K.2.2.1 K.2.1 = true) (x0 x1 x2 x3 x4 v0 v1 v2 v3 : Int32) (h0 : nar .byte ((Int32.toInt8 v0).toInt32) = v0) (h1 : nar .byte ((Int32.toInt8 v1).toInt32) = v1) (h2 : nar .byte ((Int32.toInt8 v2).toInt32) = v2) (h3 : nar .byte ((Int32.toInt8 v3).toInt32) = v3) : Go K m0 4 112 33 [.val (.int x0), .val (.int x1), .val (.int x2), .val (.int x3), .val (.int x4), .val (.int 1), .val (.int v0), .val (.int v1), .val (.int v2), .val (.int v3), .unset, .unset, .unset, .unset] [] [] (some (.int 1), none, 16, 128) := by
  refine Go.iload d0_33 rfl ?_
  refine Go.newarray 1 d0_35 (hw _ (List.mem_of_getElem? (i := 4) rfl)) (t := .byte) rfl (by decide) (by decide) (by decide) (vs := [.int 0]) rfl (i := 0) rfl 15 127 (by decide) (by decide) ?_
  show Go _ _ _ _ 37 [.val (.int x0), .val (.int x1), .val (.int x2), .val (.int x3), .val (.int x4), .val (.int 1), .val (.int v0), .val (.int v1), .val (.int v2), .val (.int v3), .unset, .unset, .unset, .unset] [.ref 0] [.inr (.byte, [.int 0])] _
  refine Go.astore d0_37 (ls' := [.val (.int x0), .val (.int x1), .val (.int x2), .val (.int x3), .val (.int x4), .val (.int 1), .val (.int v0), .val (.int v1), .val (.int v2), .val (.int v3), .val (.ref 0), .unset, .unset, .unset]) rfl rfl ?_
  refine Go.iload d0_39 rfl ?_
  refine Go.ifF d0_41 (XT.i0_le_f (by decide)) ?_
  refine Go.aload d0_44 rfl rfl ?_
  refine Go.iconst d0_46 (v := 0) rfl ?_
  refine Go.iload d0_47 rfl ?_
  refine Go.i2b d0_49 ?_
  refine Go.bastore d0_50 rfl (by decide) (Nat.le_of_ble_eq_true rfl) (H1 := [.inr (.byte, [.int v0])]) (by rw [h0]; rfl) ?_
  refine Go.iload d0_51 rfl ?_
  refine Go.iconst d0_53 (v := 1) rfl ?_
  refine Go.icmpT d0_54 j0_54 (XT.ii_le_t (by decide)) ?_
  refine Go.iload d0_64 rfl ?_
  refine Go.iconst d0_66 (v := 2) rfl ?_
  refine Go.icmpT d0_67 j0_67 (XT.ii_le_t (by decide)) ?_
  refine Go.iload d0_77 rfl ?_
  refine Go.iconst d0_79 (v := 3) rfl ?_
  refine Go.icmpT d0_80 j0_80 (XT.ii_le_t (by decide)) ?_
  refine Go.iload d0_90 rfl ?_
  refine Go.ifF d0_92 (XT.i0_le_f (by decide)) ?_
  refine Go.iload d0_95 rfl ?_
  refine Go.bipush d0_97 (v := 10) rfl ?_
  refine Go.icmp_eq d0_99 j0_99 (fun h99 => ?_) (fun h99 => ?_)
  · -- pc 99 taken
    refine Go.iconst d0_141 (v := 1) rfl ?_
    refine Go.goto d0_142 j0_142 ?_
    refine Go.istore d0_146 (ls' := [.val (.int x0), .val (.int x1), .val (.int x2), .val (.int x3), .val (.int x4), .val (.int 1), .val (.int v0), .val (.int v1), .val (.int v2), .val (.int v3), .val (.ref 0), .val (.int 1), .unset, .unset]) rfl ?_
    refine Go.iconst d0_148 (v := (-1)) rfl ?_
    refine Go.istore d0_149 (ls' := [.val (.int x0), .val (.int x1), .val (.int x2), .val (.int x3), .val (.int x4), .val (.int 1), .val (.int v0), .val (.int v1), .val (.int v2), .val (.int v3), .val (.ref 0), .val (.int 1), .val (.int (-1)), .unset]) rfl ?_
    refine Go.iload d0_151 rfl ?_
    refine Go.iconst d0_153 (v := 1) rfl ?_
    refine Go.icmpF d0_154 (XT.ii_ne_f (by decide)) ?_
    refine Go.iload d0_157 rfl ?_
    refine Go.istore d0_159 (ls' := [.val (.int x0), .val (.int x1), .val (.int x2), .val (.int x3), .val (.int x4), .val (.int 1), .val (.int v0), .val (.int v1), .val (.int v2), .val (.int v3), .val (.ref 0), .val (.int 1), .val (.int v0), .unset]) rfl ?_
    refine Go.goto d0_161 j0_161 ?_
    refine Go.iload d0_200 rfl ?_
    refine Go.ifT d0_202 j0_202 (XT.i0_ne_t (by decide)) ?_
    refine Go.iconst d0_216 (v := 0) rfl ?_
    refine Go.istore d0_217 (ls' := [.val (.int x0), .val (.int x1), .val (.int x2), .val (.int x3), .val (.int x4), .val (.int 1), .val (.int v0), .val (.int v1), .val (.int v2), .val (.int v3), .val (.ref 0), .val (.int 1), .val (.int v0), .val (.int 0)]) rfl ?_
    refine Go.aload d0_219 rfl rfl ?_
    refine Go.callS (M' := m2) d0_221 (hw _ (List.mem_of_getElem? (i := 5) rfl)) (hw _ (List.mem_of_getElem? (i := 6) rfl)) (hw _ (List.mem_of_getElem? (i := 7) rfl)) (hw _ (List.mem_of_getElem? (i := 8) rfl)) mi2 (as := [.ref 0]) rfl rfl (st := []) rfl (ls1 := [.val (.ref 0), .unset, .unset]) rfl (W := 0) rfl (by decide) (by decide) (go_own_can1 K hw v0) 15 127 (by decide) (by decide) ?_
    show Go _ _ _ _ 224 [.val (.int x0), .val (.int x1), .val (.int x2), .val (.int x3), .val (.int x4), .val (.int 1), .val (.int v0), .val (.int v1), .val (.int v2), .val (.int v3), .val (.ref 0), .val (.int 1), .val (.int v0), .val (.int 0)] [.int (own_can1 v0)] [.inr (.byte, [.int v0])] _
    refine Go.iload d0_224 rfl ?_
    refine Go.icmpF d0_226 (XT.ii_ne_f (by
                  simp only [own_can1]
                  all_goals (first | rfl | (repeat' split) <;> simp_all))) ?_
    refine Go.iconst d0_229 (v := 1) rfl ?_
    refine Go.goto d0_230 j0_230 ?_
    exact Go.ireturnZ d0_234 rfl (by decide) rfl HOk.any
  · -- pc 99 not taken
    refine Go.iload d0_102 rfl ?_
    refine Go.iconst d0_104 (v := 1) rfl ?_
    refine Go.icmpT d0_105 j0_105 (XT.ii_le_t (by decide)) ?_
    refine Go.iload d0_115 rfl ?_
    refine Go.iconst d0_117 (v := 2) rfl ?_
    refine Go.icmpT d0_118 j0_118 (XT.ii_le_t (by decide)) ?_
    refine Go.iload d0_128 rfl ?_
    refine Go.iconst d0_130 (v := 3) rfl ?_
    refine Go.icmpT d0_131 j0_131 (XT.ii_le_t (by decide)) ?_
    refine Go.iconst d0_145 (v := 0) rfl ?_
    refine Go.istore d0_146 (ls' := [.val (.int x0), .val (.int x1), .val (.int x2), .val (.int x3), .val (.int x4), .val (.int 1), .val (.int v0), .val (.int v1), .val (.int v2), .val (.int v3), .val (.ref 0), .val (.int 0), .unset, .unset]) rfl ?_
    refine Go.iconst d0_148 (v := (-1)) rfl ?_
    refine Go.istore d0_149 (ls' := [.val (.int x0), .val (.int x1), .val (.int x2), .val (.int x3), .val (.int x4), .val (.int 1), .val (.int v0), .val (.int v1), .val (.int v2), .val (.int v3), .val (.ref 0), .val (.int 0), .val (.int (-1)), .unset]) rfl ?_
    refine Go.iload d0_151 rfl ?_
    refine Go.iconst d0_153 (v := 1) rfl ?_
    refine Go.icmpF d0_154 (XT.ii_ne_f (by decide)) ?_
    refine Go.iload d0_157 rfl ?_
    refine Go.istore d0_159 (ls' := [.val (.int x0), .val (.int x1), .val (.int x2), .val (.int x3), .val (.int x4), .val (.int 1), .val (.int v0), .val (.int v1), .val (.int v2), .val (.int v3), .val (.ref 0), .val (.int 0), .val (.int v0), .unset]) rfl ?_
    refine Go.goto d0_161 j0_161 ?_
    refine Go.iload d0_200 rfl ?_
    refine Go.ifF d0_202 (XT.i0_ne_f (by decide)) ?_
    refine Go.iload d0_205 rfl ?_
    refine Go.bipush d0_207 (v := 13) rfl ?_
    refine Go.icmp_eq d0_209 j0_209 (fun h209 => ?_) (fun h209 => ?_)
    · -- pc 209 taken
      refine Go.iconst d0_216 (v := 0) rfl ?_
      refine Go.istore d0_217 (ls' := [.val (.int x0), .val (.int x1), .val (.int x2), .val (.int x3), .val (.int x4), .val (.int 1), .val (.int v0), .val (.int v1), .val (.int v2), .val (.int v3), .val (.ref 0), .val (.int 0), .val (.int v0), .val (.int 0)]) rfl ?_
      refine Go.aload d0_219 rfl rfl ?_
      refine Go.callS (M' := m2) d0_221 (hw _ (List.mem_of_getElem? (i := 5) rfl)) (hw _ (List.mem_of_getElem? (i := 6) rfl)) (hw _ (List.mem_of_getElem? (i := 7) rfl)) (hw _ (List.mem_of_getElem? (i := 8) rfl)) mi2 (as := [.ref 0]) rfl rfl (st := []) rfl (ls1 := [.val (.ref 0), .unset, .unset]) rfl (W := 0) rfl (by decide) (by decide) (go_own_can1 K hw v0) 15 127 (by decide) (by decide) ?_
      show Go _ _ _ _ 224 [.val (.int x0), .val (.int x1), .val (.int x2), .val (.int x3), .val (.int x4), .val (.int 1), .val (.int v0), .val (.int v1), .val (.int v2), .val (.int v3), .val (.ref 0), .val (.int 0), .val (.int v0), .val (.int 0)] [.int (own_can1 v0)] [.inr (.byte, [.int v0])] _
      refine Go.iload d0_224 rfl ?_
      refine Go.icmpF d0_226 (XT.ii_ne_f (by
                  simp only [own_can1]
                  all_goals (first | rfl | (repeat' split) <;> simp_all))) ?_
      refine Go.iconst d0_229 (v := 1) rfl ?_
      refine Go.goto d0_230 j0_230 ?_
      exact Go.ireturnZ d0_234 rfl (by decide) rfl HOk.any
    · -- pc 209 not taken
      refine Go.iconst d0_212 (v := 1) rfl ?_
      refine Go.goto d0_213 j0_213 ?_
      refine Go.istore d0_217 (ls' := [.val (.int x0), .val (.int x1), .val (.int x2), .val (.int x3), .val (.int x4), .val (.int 1), .val (.int v0), .val (.int v1), .val (.int v2), .val (.int v3), .val (.ref 0), .val (.int 0), .val (.int v0), .val (.int 1)]) rfl ?_
      refine Go.aload d0_219 rfl rfl ?_
      refine Go.callS (M' := m2) d0_221 (hw _ (List.mem_of_getElem? (i := 5) rfl)) (hw _ (List.mem_of_getElem? (i := 6) rfl)) (hw _ (List.mem_of_getElem? (i := 7) rfl)) (hw _ (List.mem_of_getElem? (i := 8) rfl)) mi2 (as := [.ref 0]) rfl rfl (st := []) rfl (ls1 := [.val (.ref 0), .unset, .unset]) rfl (W := 0) rfl (by decide) (by decide) (go_own_can1 K hw v0) 15 127 (by decide) (by decide) ?_
      show Go _ _ _ _ 224 [.val (.int x0), .val (.int x1), .val (.int x2), .val (.int x3), .val (.int x4), .val (.int 1), .val (.int v0), .val (.int v1), .val (.int v2), .val (.int v3), .val (.ref 0), .val (.int 0), .val (.int v0), .val (.int 1)] [.int (own_can1 v0)] [.inr (.byte, [.int v0])] _
      refine Go.iload d0_224 rfl ?_
      refine Go.icmpF d0_226 (XT.ii_ne_f (by
                  simp only [own_can1]
                  all_goals (first | rfl | (repeat' split) <;> simp_all))) ?_
      refine Go.iconst d0_229 (v := 1) rfl ?_
      refine Go.goto d0_230 j0_230 ?_
      exact Go.ireturnZ d0_234 rfl (by decide) rfl HOk.any
theorem go_tail2 (K : Ctx) (hw : ∀ d ∈ tables_1, d.before K.2.2.1 K.2.1 = true) (x0 x1 x2 x3 x4 v0 v1 v2 v3 : Int32) (h0 : nar .byte ((Int32.toInt8 v0).toInt32) = v0) (h1 : nar .byte ((Int32.toInt8 v1).toInt32) = v1) (h2 : nar .byte ((Int32.toInt8 v2).toInt32) = v2) (h3 : nar .byte ((Int32.toInt8 v3).toInt32) = v3) : Go K m0 4 112 33 [.val (.int x0), .val (.int x1), .val (.int x2), .val (.int x3), .val (.int x4), .val (.int 2), .val (.int v0), .val (.int v1), .val (.int v2), .val (.int v3), .unset, .unset, .unset, .unset] [] [] (some (.int 1), none, 16, 128) := by
  refine Go.iload d0_33 rfl ?_
  refine Go.newarray 2 d0_35 (hw _ (List.mem_of_getElem? (i := 4) rfl)) (t := .byte) rfl (by decide) (by decide) (by decide) (vs := [.int 0, .int 0]) rfl (i := 0) rfl 15 126 (by decide) (by decide) ?_
  show Go _ _ _ _ 37 [.val (.int x0), .val (.int x1), .val (.int x2), .val (.int x3), .val (.int x4), .val (.int 2), .val (.int v0), .val (.int v1), .val (.int v2), .val (.int v3), .unset, .unset, .unset, .unset] [.ref 0] [.inr (.byte, [.int 0, .int 0])] _
  refine Go.astore d0_37 (ls' := [.val (.int x0), .val (.int x1), .val (.int x2), .val (.int x3), .val (.int x4), .val (.int 2), .val (.int v0), .val (.int v1), .val (.int v2), .val (.int v3), .val (.ref 0), .unset, .unset, .unset]) rfl rfl ?_
  refine Go.iload d0_39 rfl ?_
  refine Go.ifF d0_41 (XT.i0_le_f (by decide)) ?_
  refine Go.aload d0_44 rfl rfl ?_
  refine Go.iconst d0_46 (v := 0) rfl ?_
  refine Go.iload d0_47 rfl ?_
  refine Go.i2b d0_49 ?_
  refine Go.bastore d0_50 rfl (by decide) (Nat.le_of_ble_eq_true rfl) (H1 := [.inr (.byte, [.int v0, .int 0])]) (by rw [h0]; rfl) ?_
  refine Go.iload d0_51 rfl ?_
  refine Go.iconst d0_53 (v := 1) rfl ?_
  refine Go.icmpF d0_54 (XT.ii_le_f (by decide)) ?_
  refine Go.aload d0_57 rfl rfl ?_
  refine Go.iconst d0_59 (v := 1) rfl ?_
  refine Go.iload d0_60 rfl ?_
  refine Go.i2b d0_62 ?_
  refine Go.bastore d0_63 rfl (by decide) (Nat.le_of_ble_eq_true rfl) (H1 := [.inr (.byte, [.int v0, .int v1])]) (by rw [h1]; rfl) ?_
  refine Go.iload d0_64 rfl ?_
  refine Go.iconst d0_66 (v := 2) rfl ?_
  refine Go.icmpT d0_67 j0_67 (XT.ii_le_t (by decide)) ?_
  refine Go.iload d0_77 rfl ?_
  refine Go.iconst d0_79 (v := 3) rfl ?_
  refine Go.icmpT d0_80 j0_80 (XT.ii_le_t (by decide)) ?_
  refine Go.iload d0_90 rfl ?_
  refine Go.ifF d0_92 (XT.i0_le_f (by decide)) ?_
  refine Go.iload d0_95 rfl ?_
  refine Go.bipush d0_97 (v := 10) rfl ?_
  refine Go.icmp_eq d0_99 j0_99 (fun h99 => ?_) (fun h99 => ?_)
  · -- pc 99 taken
    refine Go.iconst d0_141 (v := 1) rfl ?_
    refine Go.goto d0_142 j0_142 ?_
    refine Go.istore d0_146 (ls' := [.val (.int x0), .val (.int x1), .val (.int x2), .val (.int x3), .val (.int x4), .val (.int 2), .val (.int v0), .val (.int v1), .val (.int v2), .val (.int v3), .val (.ref 0), .val (.int 1), .unset, .unset]) rfl ?_
    refine Go.iconst d0_148 (v := (-1)) rfl ?_
    refine Go.istore d0_149 (ls' := [.val (.int x0), .val (.int x1), .val (.int x2), .val (.int x3), .val (.int x4), .val (.int 2), .val (.int v0), .val (.int v1), .val (.int v2), .val (.int v3), .val (.ref 0), .val (.int 1), .val (.int (-1)), .unset]) rfl ?_
    refine Go.iload d0_151 rfl ?_
    refine Go.iconst d0_153 (v := 1) rfl ?_
    refine Go.icmpT d0_154 j0_154 (XT.ii_ne_t (by decide)) ?_
    refine Go.iload d0_164 rfl ?_
    refine Go.iconst d0_166 (v := 2) rfl ?_
    refine Go.icmpF d0_167 (XT.ii_ne_f (by decide)) ?_
    refine Go.iload d0_170 rfl ?_
    refine Go.istore d0_172 (ls' := [.val (.int x0), .val (.int x1), .val (.int x2), .val (.int x3), .val (.int x4), .val (.int 2), .val (.int v0), .val (.int v1), .val (.int v2), .val (.int v3), .val (.ref 0), .val (.int 1), .val (.int v1), .unset]) rfl ?_
    refine Go.goto d0_174 j0_174 ?_
    refine Go.iload d0_200 rfl ?_
    refine Go.ifT d0_202 j0_202 (XT.i0_ne_t (by decide)) ?_
    refine Go.iconst d0_216 (v := 0) rfl ?_
    refine Go.istore d0_217 (ls' := [.val (.int x0), .val (.int x1), .val (.int x2), .val (.int x3), .val (.int x4), .val (.int 2), .val (.int v0), .val (.int v1), .val (.int v2), .val (.int v3), .val (.ref 0), .val (.int 1), .val (.int v1), .val (.int 0)]) rfl ?_
    refine Go.aload d0_219 rfl rfl ?_
    refine Go.callS (M' := m2) d0_221 (hw _ (List.mem_of_getElem? (i := 5) rfl)) (hw _ (List.mem_of_getElem? (i := 6) rfl)) (hw _ (List.mem_of_getElem? (i := 7) rfl)) (hw _ (List.mem_of_getElem? (i := 8) rfl)) mi2 (as := [.ref 0]) rfl rfl (st := []) rfl (ls1 := [.val (.ref 0), .unset, .unset]) rfl (W := 0) rfl (by decide) (by decide) (go_own_can2 K hw v0 v1) 15 126 (by decide) (by decide) ?_
    show Go _ _ _ _ 224 [.val (.int x0), .val (.int x1), .val (.int x2), .val (.int x3), .val (.int x4), .val (.int 2), .val (.int v0), .val (.int v1), .val (.int v2), .val (.int v3), .val (.ref 0), .val (.int 1), .val (.int v1), .val (.int 0)] [.int (own_can2 v0 v1)] [.inr (.byte, [.int v0, .int v1])] _
    refine Go.iload d0_224 rfl ?_
    refine Go.icmpF d0_226 (XT.ii_ne_f (by
                  simp only [own_can2]
                  all_goals (first | rfl | (repeat' split) <;> simp_all))) ?_
    refine Go.iconst d0_229 (v := 1) rfl ?_
    refine Go.goto d0_230 j0_230 ?_
    exact Go.ireturnZ d0_234 rfl (by decide) rfl HOk.any
  · -- pc 99 not taken
    refine Go.iload d0_102 rfl ?_
    refine Go.iconst d0_104 (v := 1) rfl ?_
    refine Go.icmpF d0_105 (XT.ii_le_f (by decide)) ?_
    refine Go.iload d0_108 rfl ?_
    refine Go.bipush d0_110 (v := 10) rfl ?_
    refine Go.icmp_eq d0_112 j0_112 (fun h112 => ?_) (fun h112 => ?_)
    · -- pc 112 taken
      refine Go.iconst d0_141 (v := 1) rfl ?_
      refine Go.goto d0_142 j0_142 ?_
      refine Go.istore d0_146 (ls' := [.val (.int x0), .val (.int x1), .val (.int x2), .val (.int x3), .val (.int x4), .val (.int 2), .val (.int v0), .val (.int v1), .val (.int v2), .val (.int v3), .val (.ref 0), .val (.int 1), .unset, .unset]) rfl ?_
      refine Go.iconst d0_148 (v := (-1)) rfl ?_
      refine Go.istore d0_149 (ls' := [.val (.int x0), .val (.int x1), .val (.int x2), .val (.int x3), .val (.int x4), .val (.int 2), .val (.int v0), .val (.int v1), .val (.int v2), .val (.int v3), .val (.ref 0), .val (.int 1), .val (.int (-1)), .unset]) rfl ?_
      refine Go.iload d0_151 rfl ?_
      refine Go.iconst d0_153 (v := 1) rfl ?_
      refine Go.icmpT d0_154 j0_154 (XT.ii_ne_t (by decide)) ?_
      refine Go.iload d0_164 rfl ?_
      refine Go.iconst d0_166 (v := 2) rfl ?_
      refine Go.icmpF d0_167 (XT.ii_ne_f (by decide)) ?_
      refine Go.iload d0_170 rfl ?_
      refine Go.istore d0_172 (ls' := [.val (.int x0), .val (.int x1), .val (.int x2), .val (.int x3), .val (.int x4), .val (.int 2), .val (.int v0), .val (.int v1), .val (.int v2), .val (.int v3), .val (.ref 0), .val (.int 1), .val (.int v1), .unset]) rfl ?_
      refine Go.goto d0_174 j0_174 ?_
      refine Go.iload d0_200 rfl ?_
      refine Go.ifT d0_202 j0_202 (XT.i0_ne_t (by decide)) ?_
      refine Go.iconst d0_216 (v := 0) rfl ?_
      refine Go.istore d0_217 (ls' := [.val (.int x0), .val (.int x1), .val (.int x2), .val (.int x3), .val (.int x4), .val (.int 2), .val (.int v0), .val (.int v1), .val (.int v2), .val (.int v3), .val (.ref 0), .val (.int 1), .val (.int v1), .val (.int 0)]) rfl ?_
      refine Go.aload d0_219 rfl rfl ?_
      refine Go.callS (M' := m2) d0_221 (hw _ (List.mem_of_getElem? (i := 5) rfl)) (hw _ (List.mem_of_getElem? (i := 6) rfl)) (hw _ (List.mem_of_getElem? (i := 7) rfl)) (hw _ (List.mem_of_getElem? (i := 8) rfl)) mi2 (as := [.ref 0]) rfl rfl (st := []) rfl (ls1 := [.val (.ref 0), .unset, .unset]) rfl (W := 0) rfl (by decide) (by decide) (go_own_can2 K hw v0 v1) 15 126 (by decide) (by decide) ?_
      show Go _ _ _ _ 224 [.val (.int x0), .val (.int x1), .val (.int x2), .val (.int x3), .val (.int x4), .val (.int 2), .val (.int v0), .val (.int v1), .val (.int v2), .val (.int v3), .val (.ref 0), .val (.int 1), .val (.int v1), .val (.int 0)] [.int (own_can2 v0 v1)] [.inr (.byte, [.int v0, .int v1])] _
      refine Go.iload d0_224 rfl ?_
      refine Go.icmpF d0_226 (XT.ii_ne_f (by
                  simp only [own_can2]
                  all_goals (first | rfl | (repeat' split) <;> simp_all))) ?_
      refine Go.iconst d0_229 (v := 1) rfl ?_
      refine Go.goto d0_230 j0_230 ?_
      exact Go.ireturnZ d0_234 rfl (by decide) rfl HOk.any
    · -- pc 112 not taken
      refine Go.iload d0_115 rfl ?_
      refine Go.iconst d0_117 (v := 2) rfl ?_
      refine Go.icmpT d0_118 j0_118 (XT.ii_le_t (by decide)) ?_
      refine Go.iload d0_128 rfl ?_
      refine Go.iconst d0_130 (v := 3) rfl ?_
      refine Go.icmpT d0_131 j0_131 (XT.ii_le_t (by decide)) ?_
      refine Go.iconst d0_145 (v := 0) rfl ?_
      refine Go.istore d0_146 (ls' := [.val (.int x0), .val (.int x1), .val (.int x2), .val (.int x3), .val (.int x4), .val (.int 2), .val (.int v0), .val (.int v1), .val (.int v2), .val (.int v3), .val (.ref 0), .val (.int 0), .unset, .unset]) rfl ?_
      refine Go.iconst d0_148 (v := (-1)) rfl ?_
      refine Go.istore d0_149 (ls' := [.val (.int x0), .val (.int x1), .val (.int x2), .val (.int x3), .val (.int x4), .val (.int 2), .val (.int v0), .val (.int v1), .val (.int v2), .val (.int v3), .val (.ref 0), .val (.int 0), .val (.int (-1)), .unset]) rfl ?_
      refine Go.iload d0_151 rfl ?_
      refine Go.iconst d0_153 (v := 1) rfl ?_
      refine Go.icmpT d0_154 j0_154 (XT.ii_ne_t (by decide)) ?_
      refine Go.iload d0_164 rfl ?_
      refine Go.iconst d0_166 (v := 2) rfl ?_
      refine Go.icmpF d0_167 (XT.ii_ne_f (by decide)) ?_
      refine Go.iload d0_170 rfl ?_
      refine Go.istore d0_172 (ls' := [.val (.int x0), .val (.int x1), .val (.int x2), .val (.int x3), .val (.int x4), .val (.int 2), .val (.int v0), .val (.int v1), .val (.int v2), .val (.int v3), .val (.ref 0), .val (.int 0), .val (.int v1), .unset]) rfl ?_
      refine Go.goto d0_174 j0_174 ?_
      refine Go.iload d0_200 rfl ?_
      refine Go.ifF d0_202 (XT.i0_ne_f (by decide)) ?_
      refine Go.iload d0_205 rfl ?_
      refine Go.bipush d0_207 (v := 13) rfl ?_
      refine Go.icmp_eq d0_209 j0_209 (fun h209 => ?_) (fun h209 => ?_)
      · -- pc 209 taken
        refine Go.iconst d0_216 (v := 0) rfl ?_
        refine Go.istore d0_217 (ls' := [.val (.int x0), .val (.int x1), .val (.int x2), .val (.int x3), .val (.int x4), .val (.int 2), .val (.int v0), .val (.int v1), .val (.int v2), .val (.int v3), .val (.ref 0), .val (.int 0), .val (.int v1), .val (.int 0)]) rfl ?_
        refine Go.aload d0_219 rfl rfl ?_
        refine Go.callS (M' := m2) d0_221 (hw _ (List.mem_of_getElem? (i := 5) rfl)) (hw _ (List.mem_of_getElem? (i := 6) rfl)) (hw _ (List.mem_of_getElem? (i := 7) rfl)) (hw _ (List.mem_of_getElem? (i := 8) rfl)) mi2 (as := [.ref 0]) rfl rfl (st := []) rfl (ls1 := [.val (.ref 0), .unset, .unset]) rfl (W := 0) rfl (by decide) (by decide) (go_own_can2 K hw v0 v1) 15 126 (by decide) (by decide) ?_
        show Go _ _ _ _ 224 [.val (.int x0), .val (.int x1), .val (.int x2), .val (.int x3), .val (.int x4), .val (.int 2), .val (.int v0), .val (.int v1), .val (.int v2), .val (.int v3), .val (.ref 0), .val (.int 0), .val (.int v1), .val (.int 0)] [.int (own_can2 v0 v1)] [.inr (.byte, [.int v0, .int v1])] _
        refine Go.iload d0_224 rfl ?_
        refine Go.icmpF d0_226 (XT.ii_ne_f (by
                  simp only [own_can2]
                  all_goals (first | rfl | (repeat' split) <;> simp_all))) ?_
        refine Go.iconst d0_229 (v := 1) rfl ?_
        refine Go.goto d0_230 j0_230 ?_
        exact Go.ireturnZ d0_234 rfl (by decide) rfl HOk.any
      · -- pc 209 not taken
        refine Go.iconst d0_212 (v := 1) rfl ?_
        refine Go.goto d0_213 j0_213 ?_
        refine Go.istore d0_217 (ls' := [.val (.int x0), .val (.int x1), .val (.int x2), .val (.int x3), .val (.int x4), .val (.int 2), .val (.int v0), .val (.int v1), .val (.int v2), .val (.int v3), .val (.ref 0), .val (.int 0), .val (.int v1), .val (.int 1)]) rfl ?_
        refine Go.aload d0_219 rfl rfl ?_
        refine Go.callS (M' := m2) d0_221 (hw _ (List.mem_of_getElem? (i := 5) rfl)) (hw _ (List.mem_of_getElem? (i := 6) rfl)) (hw _ (List.mem_of_getElem? (i := 7) rfl)) (hw _ (List.mem_of_getElem? (i := 8) rfl)) mi2 (as := [.ref 0]) rfl rfl (st := []) rfl (ls1 := [.val (.ref 0), .unset, .unset]) rfl (W := 0) rfl (by decide) (by decide) (go_own_can2 K hw v0 v1) 15 126 (by decide) (by decide) ?_
        show Go _ _ _ _ 224 [.val (.int x0), .val (.int x1), .val (.int x2), .val (.int x3), .val (.int x4), .val (.int 2), .val (.int v0), .val (.int v1), .val (.int v2), .val (.int v3), .val (.ref 0), .val (.int 0), .val (.int v1), .val (.int 1)] [.int (own_can2 v0 v1)] [.inr (.byte, [.int v0, .int v1])] _
        refine Go.iload d0_224 rfl ?_
        refine Go.icmpF d0_226 (XT.ii_ne_f (by
                  simp only [own_can2]
                  all_goals (first | rfl | (repeat' split) <;> simp_all))) ?_
        refine Go.iconst d0_229 (v := 1) rfl ?_
        refine Go.goto d0_230 j0_230 ?_
        exact Go.ireturnZ d0_234 rfl (by decide) rfl HOk.any
theorem go_tail3 (K : Ctx) (hw : ∀ d ∈ tables_1, d.before K.2.2.1 K.2.1 = true) (x0 x1 x2 x3 x4 v0 v1 v2 v3 : Int32) (h0 : nar .byte ((Int32.toInt8 v0).toInt32) = v0) (h1 : nar .byte ((Int32.toInt8 v1).toInt32) = v1) (h2 : nar .byte ((Int32.toInt8 v2).toInt32) = v2) (h3 : nar .byte ((Int32.toInt8 v3).toInt32) = v3) : Go K m0 4 112 33 [.val (.int x0), .val (.int x1), .val (.int x2), .val (.int x3), .val (.int x4), .val (.int 3), .val (.int v0), .val (.int v1), .val (.int v2), .val (.int v3), .unset, .unset, .unset, .unset] [] [] (some (.int 1), none, 16, 128) := by
  refine Go.iload d0_33 rfl ?_
  refine Go.newarray 3 d0_35 (hw _ (List.mem_of_getElem? (i := 4) rfl)) (t := .byte) rfl (by decide) (by decide) (by decide) (vs := [.int 0, .int 0, .int 0]) rfl (i := 0) rfl 15 125 (by decide) (by decide) ?_
  show Go _ _ _ _ 37 [.val (.int x0), .val (.int x1), .val (.int x2), .val (.int x3), .val (.int x4), .val (.int 3), .val (.int v0), .val (.int v1), .val (.int v2), .val (.int v3), .unset, .unset, .unset, .unset] [.ref 0] [.inr (.byte, [.int 0, .int 0, .int 0])] _
  refine Go.astore d0_37 (ls' := [.val (.int x0), .val (.int x1), .val (.int x2), .val (.int x3), .val (.int x4), .val (.int 3), .val (.int v0), .val (.int v1), .val (.int v2), .val (.int v3), .val (.ref 0), .unset, .unset, .unset]) rfl rfl ?_
  refine Go.iload d0_39 rfl ?_
  refine Go.ifF d0_41 (XT.i0_le_f (by decide)) ?_
  refine Go.aload d0_44 rfl rfl ?_
  refine Go.iconst d0_46 (v := 0) rfl ?_
  refine Go.iload d0_47 rfl ?_
  refine Go.i2b d0_49 ?_
  refine Go.bastore d0_50 rfl (by decide) (Nat.le_of_ble_eq_true rfl) (H1 := [.inr (.byte, [.int v0, .int 0, .int 0])]) (by rw [h0]; rfl) ?_
  refine Go.iload d0_51 rfl ?_
  refine Go.iconst d0_53 (v := 1) rfl ?_
  refine Go.icmpF d0_54 (XT.ii_le_f (by decide)) ?_
  refine Go.aload d0_57 rfl rfl ?_
  refine Go.iconst d0_59 (v := 1) rfl ?_
  refine Go.iload d0_60 rfl ?_
  refine Go.i2b d0_62 ?_
  refine Go.bastore d0_63 rfl (by decide) (Nat.le_of_ble_eq_true rfl) (H1 := [.inr (.byte, [.int v0, .int v1, .int 0])]) (by rw [h1]; rfl) ?_
  refine Go.iload d0_64 rfl ?_
  refine Go.iconst d0_66 (v := 2) rfl ?_
  refine Go.icmpF d0_67 (XT.ii_le_f (by decide)) ?_
  refine Go.aload d0_70 rfl rfl ?_
  refine Go.iconst d0_72 (v := 2) rfl ?_
  refine Go.iload d0_73 rfl ?_
  refine Go.i2b d0_75 ?_
  refine Go.bastore d0_76 rfl (by decide) (Nat.le_of_ble_eq_true rfl) (H1 := [.inr (.byte, [.int v0, .int v1, .int v2])]) (by rw [h2]; rfl) ?_
  refine Go.iload d0_77 rfl ?_
  refine Go.iconst d0_79 (v := 3) rfl ?_
  refine Go.icmpT d0_80 j0_80 (XT.ii_le_t (by decide)) ?_
  refine Go.iload d0_90 rfl ?_
  refine Go.ifF d0_92 (XT.i0_le_f (by decide)) ?_
  refine Go.iload d0_95 rfl ?_
  refine Go.bipush d0_97 (v := 10) rfl ?_
  refine Go.icmp_eq d0_99 j0_99 (fun h99 => ?_) (fun h99 => ?_)
  · -- pc 99 taken
    refine Go.iconst d0_141 (v := 1) rfl ?_
    refine Go.goto d0_142 j0_142 ?_
    refine Go.istore d0_146 (ls' := [.val (.int x0), .val (.int x1), .val (.int x2), .val (.int x3), .val (.int x4), .val (.int 3), .val (.int v0), .val (.int v1), .val (.int v2), .val (.int v3), .val (.ref 0), .val (.int 1), .unset, .unset]) rfl ?_
    refine Go.iconst d0_148 (v := (-1)) rfl ?_
    refine Go.istore d0_149 (ls' := [.val (.int x0), .val (.int x1), .val (.int x2), .val (.int x3), .val (.int x4), .val (.int 3), .val (.int v0), .val (.int v1), .val (.int v2), .val (.int v3), .val (.ref 0), .val (.int 1), .val (.int (-1)), .unset]) rfl ?_
    refine Go.iload d0_151 rfl ?_
    refine Go.iconst d0_153 (v := 1) rfl ?_
    refine Go.icmpT d0_154 j0_154 (XT.ii_ne_t (by decide)) ?_
    refine Go.iload d0_164 rfl ?_
    refine Go.iconst d0_166 (v := 2) rfl ?_
    refine Go.icmpT d0_167 j0_167 (XT.ii_ne_t (by decide)) ?_
    refine Go.iload d0_177 rfl ?_
    refine Go.iconst d0_179 (v := 3) rfl ?_
    refine Go.icmpF d0_180 (XT.ii_ne_f (by decide)) ?_
    refine Go.iload d0_183 rfl ?_
    refine Go.istore d0_185 (ls' := [.val (.int x0), .val (.int x1), .val (.int x2), .val (.int x3), .val (.int x4), .val (.int 3), .val (.int v0), .val (.int v1), .val (.int v2), .val (.int v3), .val (.ref 0), .val (.int 1), .val (.int v2), .unset]) rfl ?_
    refine Go.goto d0_187 j0_187 ?_
    refine Go.iload d0_200 rfl ?_
    refine Go.ifT d0_202 j0_202 (XT.i0_ne_t (by decide)) ?_
    refine Go.iconst d0_216 (v := 0) rfl ?_
    refine Go.istore d0_217 (ls' := [.val (.int x0), .val (.int x1), .val (.int x2), .val (.int x3), .val (.int x4), .val (.int 3), .val (.int v0), .val (.int v1), .val (.int v2), .val (.int v3), .val (.ref 0), .val (.int 1), .val (.int v2), .val (.int 0)]) rfl ?_
    refine Go.aload d0_219 rfl rfl ?_
    refine Go.callS (M' := m2) d0_221 (hw _ (List.mem_of_getElem? (i := 5) rfl)) (hw _ (List.mem_of_getElem? (i := 6) rfl)) (hw _ (List.mem_of_getElem? (i := 7) rfl)) (hw _ (List.mem_of_getElem? (i := 8) rfl)) mi2 (as := [.ref 0]) rfl rfl (st := []) rfl (ls1 := [.val (.ref 0), .unset, .unset]) rfl (W := 0) rfl (by decide) (by decide) (go_own_can3 K hw v0 v1 v2) 15 125 (by decide) (by decide) ?_
    show Go _ _ _ _ 224 [.val (.int x0), .val (.int x1), .val (.int x2), .val (.int x3), .val (.int x4), .val (.int 3), .val (.int v0), .val (.int v1), .val (.int v2), .val (.int v3), .val (.ref 0), .val (.int 1), .val (.int v2), .val (.int 0)] [.int (own_can3 v0 v1 v2)] [.inr (.byte, [.int v0, .int v1, .int v2])] _
    refine Go.iload d0_224 rfl ?_
    refine Go.icmpF d0_226 (XT.ii_ne_f (by
                  simp only [own_can3]
                  all_goals (first | rfl | (repeat' split) <;> simp_all))) ?_
    refine Go.iconst d0_229 (v := 1) rfl ?_
    refine Go.goto d0_230 j0_230 ?_
    exact Go.ireturnZ d0_234 rfl (by decide) rfl HOk.any
  · -- pc 99 not taken
    refine Go.iload d0_102 rfl ?_
    refine Go.iconst d0_104 (v := 1) rfl ?_
    refine Go.icmpF d0_105 (XT.ii_le_f (by decide)) ?_
    refine Go.iload d0_108 rfl ?_
    refine Go.bipush d0_110 (v := 10) rfl ?_
    refine Go.icmp_eq d0_112 j0_112 (fun h112 => ?_) (fun h112 => ?_)
    · -- pc 112 taken
      refine Go.iconst d0_141 (v := 1) rfl ?_
      refine Go.goto d0_142 j0_142 ?_
      refine Go.istore d0_146 (ls' := [.val (.int x0), .val (.int x1), .val (.int x2), .val (.int x3), .val (.int x4), .val (.int 3), .val (.int v0), .val (.int v1), .val (.int v2), .val (.int v3), .val (.ref 0), .val (.int 1), .unset, .unset]) rfl ?_
      refine Go.iconst d0_148 (v := (-1)) rfl ?_
      refine Go.istore d0_149 (ls' := [.val (.int x0), .val (.int x1), .val (.int x2), .val (.int x3), .val (.int x4), .val (.int 3), .val (.int v0), .val (.int v1), .val (.int v2), .val (.int v3), .val (.ref 0), .val (.int 1), .val (.int (-1)), .unset]) rfl ?_
      refine Go.iload d0_151 rfl ?_
      refine Go.iconst d0_153 (v := 1) rfl ?_
      refine Go.icmpT d0_154 j0_154 (XT.ii_ne_t (by decide)) ?_
      refine Go.iload d0_164 rfl ?_
      refine Go.iconst d0_166 (v := 2) rfl ?_
      refine Go.icmpT d0_167 j0_167 (XT.ii_ne_t (by decide)) ?_
      refine Go.iload d0_177 rfl ?_
      refine Go.iconst d0_179 (v := 3) rfl ?_
      refine Go.icmpF d0_180 (XT.ii_ne_f (by decide)) ?_
      refine Go.iload d0_183 rfl ?_
      refine Go.istore d0_185 (ls' := [.val (.int x0), .val (.int x1), .val (.int x2), .val (.int x3), .val (.int x4), .val (.int 3), .val (.int v0), .val (.int v1), .val (.int v2), .val (.int v3), .val (.ref 0), .val (.int 1), .val (.int v2), .unset]) rfl ?_
      refine Go.goto d0_187 j0_187 ?_
      refine Go.iload d0_200 rfl ?_
      refine Go.ifT d0_202 j0_202 (XT.i0_ne_t (by decide)) ?_
      refine Go.iconst d0_216 (v := 0) rfl ?_
      refine Go.istore d0_217 (ls' := [.val (.int x0), .val (.int x1), .val (.int x2), .val (.int x3), .val (.int x4), .val (.int 3), .val (.int v0), .val (.int v1), .val (.int v2), .val (.int v3), .val (.ref 0), .val (.int 1), .val (.int v2), .val (.int 0)]) rfl ?_
      refine Go.aload d0_219 rfl rfl ?_
      refine Go.callS (M' := m2) d0_221 (hw _ (List.mem_of_getElem? (i := 5) rfl)) (hw _ (List.mem_of_getElem? (i := 6) rfl)) (hw _ (List.mem_of_getElem? (i := 7) rfl)) (hw _ (List.mem_of_getElem? (i := 8) rfl)) mi2 (as := [.ref 0]) rfl rfl (st := []) rfl (ls1 := [.val (.ref 0), .unset, .unset]) rfl (W := 0) rfl (by decide) (by decide) (go_own_can3 K hw v0 v1 v2) 15 125 (by decide) (by decide) ?_
      show Go _ _ _ _ 224 [.val (.int x0), .val (.int x1), .val (.int x2), .val (.int x3), .val (.int x4), .val (.int 3), .val (.int v0), .val (.int v1), .val (.int v2), .val (.int v3), .val (.ref 0), .val (.int 1), .val (.int v2), .val (.int 0)] [.int (own_can3 v0 v1 v2)] [.inr (.byte, [.int v0, .int v1, .int v2])] _
      refine Go.iload d0_224 rfl ?_
      refine Go.icmpF d0_226 (XT.ii_ne_f (by
                  simp only [own_can3]
                  all_goals (first | rfl | (repeat' split) <;> simp_all))) ?_
      refine Go.iconst d0_229 (v := 1) rfl ?_
      refine Go.goto d0_230 j0_230 ?_
      exact Go.ireturnZ d0_234 rfl (by decide) rfl HOk.any
    · -- pc 112 not taken
      refine Go.iload d0_115 rfl ?_
      refine Go.iconst d0_117 (v := 2) rfl ?_
      refine Go.icmpF d0_118 (XT.ii_le_f (by decide)) ?_
      refine Go.iload d0_121 rfl ?_
      refine Go.bipush d0_123 (v := 10) rfl ?_
      refine Go.icmp_eq d0_125 j0_125 (fun h125 => ?_) (fun h125 => ?_)
      · -- pc 125 taken
        refine Go.iconst d0_141 (v := 1) rfl ?_
        refine Go.goto d0_142 j0_142 ?_
        refine Go.istore d0_146 (ls' := [.val (.int x0), .val (.int x1), .val (.int x2), .val (.int x3), .val (.int x4), .val (.int 3), .val (.int v0), .val (.int v1), .val (.int v2), .val (.int v3), .val (.ref 0), .val (.int 1), .unset, .unset]) rfl ?_
        refine Go.iconst d0_148 (v := (-1)) rfl ?_
        refine Go.istore d0_149 (ls' := [.val (.int x0), .val (.int x1), .val (.int x2), .val (.int x3), .val (.int x4), .val (.int 3), .val (.int v0), .val (.int v1), .val (.int v2), .val (.int v3), .val (.ref 0), .val (.int 1), .val (.int (-1)), .unset]) rfl ?_
        refine Go.iload d0_151 rfl ?_
        refine Go.iconst d0_153 (v := 1) rfl ?_
        refine Go.icmpT d0_154 j0_154 (XT.ii_ne_t (by decide)) ?_
        refine Go.iload d0_164 rfl ?_
        refine Go.iconst d0_166 (v := 2) rfl ?_
        refine Go.icmpT d0_167 j0_167 (XT.ii_ne_t (by decide)) ?_
        refine Go.iload d0_177 rfl ?_
        refine Go.iconst d0_179 (v := 3) rfl ?_
        refine Go.icmpF d0_180 (XT.ii_ne_f (by decide)) ?_
        refine Go.iload d0_183 rfl ?_
        refine Go.istore d0_185 (ls' := [.val (.int x0), .val (.int x1), .val (.int x2), .val (.int x3), .val (.int x4), .val (.int 3), .val (.int v0), .val (.int v1), .val (.int v2), .val (.int v3), .val (.ref 0), .val (.int 1), .val (.int v2), .unset]) rfl ?_
        refine Go.goto d0_187 j0_187 ?_
        refine Go.iload d0_200 rfl ?_
        refine Go.ifT d0_202 j0_202 (XT.i0_ne_t (by decide)) ?_
        refine Go.iconst d0_216 (v := 0) rfl ?_
        refine Go.istore d0_217 (ls' := [.val (.int x0), .val (.int x1), .val (.int x2), .val (.int x3), .val (.int x4), .val (.int 3), .val (.int v0), .val (.int v1), .val (.int v2), .val (.int v3), .val (.ref 0), .val (.int 1), .val (.int v2), .val (.int 0)]) rfl ?_
        refine Go.aload d0_219 rfl rfl ?_
        refine Go.callS (M' := m2) d0_221 (hw _ (List.mem_of_getElem? (i := 5) rfl)) (hw _ (List.mem_of_getElem? (i := 6) rfl)) (hw _ (List.mem_of_getElem? (i := 7) rfl)) (hw _ (List.mem_of_getElem? (i := 8) rfl)) mi2 (as := [.ref 0]) rfl rfl (st := []) rfl (ls1 := [.val (.ref 0), .unset, .unset]) rfl (W := 0) rfl (by decide) (by decide) (go_own_can3 K hw v0 v1 v2) 15 125 (by decide) (by decide) ?_
        show Go _ _ _ _ 224 [.val (.int x0), .val (.int x1), .val (.int x2), .val (.int x3), .val (.int x4), .val (.int 3), .val (.int v0), .val (.int v1), .val (.int v2), .val (.int v3), .val (.ref 0), .val (.int 1), .val (.int v2), .val (.int 0)] [.int (own_can3 v0 v1 v2)] [.inr (.byte, [.int v0, .int v1, .int v2])] _
        refine Go.iload d0_224 rfl ?_
        refine Go.icmpF d0_226 (XT.ii_ne_f (by
                  simp only [own_can3]
                  all_goals (first | rfl | (repeat' split) <;> simp_all))) ?_
        refine Go.iconst d0_229 (v := 1) rfl ?_
        refine Go.goto d0_230 j0_230 ?_
        exact Go.ireturnZ d0_234 rfl (by decide) rfl HOk.any
      · -- pc 125 not taken
        refine Go.iload d0_128 rfl ?_
        refine Go.iconst d0_130 (v := 3) rfl ?_
        refine Go.icmpT d0_131 j0_131 (XT.ii_le_t (by decide)) ?_
        refine Go.iconst d0_145 (v := 0) rfl ?_
        refine Go.istore d0_146 (ls' := [.val (.int x0), .val (.int x1), .val (.int x2), .val (.int x3), .val (.int x4), .val (.int 3), .val (.int v0), .val (.int v1), .val (.int v2), .val (.int v3), .val (.ref 0), .val (.int 0), .unset, .unset]) rfl ?_
        refine Go.iconst d0_148 (v := (-1)) rfl ?_
        refine Go.istore d0_149 (ls' := [.val (.int x0), .val (.int x1), .val (.int x2), .val (.int x3), .val (.int x4), .val (.int 3), .val (.int v0), .val (.int v1), .val (.int v2), .val (.int v3), .val (.ref 0), .val (.int 0), .val (.int (-1)), .unset]) rfl ?_
        refine Go.iload d0_151 rfl ?_
        refine Go.iconst d0_153 (v := 1) rfl ?_
        refine Go.icmpT d0_154 j0_154 (XT.ii_ne_t (by decide)) ?_
        refine Go.iload d0_164 rfl ?_
        refine Go.iconst d0_166 (v := 2) rfl ?_
        refine Go.icmpT d0_167 j0_167 (XT.ii_ne_t (by decide)) ?_
        refine Go.iload d0_177 rfl ?_
        refine Go.iconst d0_179 (v := 3) rfl ?_
        refine Go.icmpF d0_180 (XT.ii_ne_f (by decide)) ?_
        refine Go.iload d0_183 rfl ?_
        refine Go.istore d0_185 (ls' := [.val (.int x0), .val (.int x1), .val (.int x2), .val (.int x3), .val (.int x4), .val (.int 3), .val (.int v0), .val (.int v1), .val (.int v2), .val (.int v3), .val (.ref 0), .val (.int 0), .val (.int v2), .unset]) rfl ?_
        refine Go.goto d0_187 j0_187 ?_
        refine Go.iload d0_200 rfl ?_
        refine Go.ifF d0_202 (XT.i0_ne_f (by decide)) ?_
        refine Go.iload d0_205 rfl ?_
        refine Go.bipush d0_207 (v := 13) rfl ?_
        refine Go.icmp_eq d0_209 j0_209 (fun h209 => ?_) (fun h209 => ?_)
        · -- pc 209 taken
          refine Go.iconst d0_216 (v := 0) rfl ?_
          refine Go.istore d0_217 (ls' := [.val (.int x0), .val (.int x1), .val (.int x2), .val (.int x3), .val (.int x4), .val (.int 3), .val (.int v0), .val (.int v1), .val (.int v2), .val (.int v3), .val (.ref 0), .val (.int 0), .val (.int v2), .val (.int 0)]) rfl ?_
          refine Go.aload d0_219 rfl rfl ?_
          refine Go.callS (M' := m2) d0_221 (hw _ (List.mem_of_getElem? (i := 5) rfl)) (hw _ (List.mem_of_getElem? (i := 6) rfl)) (hw _ (List.mem_of_getElem? (i := 7) rfl)) (hw _ (List.mem_of_getElem? (i := 8) rfl)) mi2 (as := [.ref 0]) rfl rfl (st := []) rfl (ls1 := [.val (.ref 0), .unset, .unset]) rfl (W := 0) rfl (by decide) (by decide) (go_own_can3 K hw v0 v1 v2) 15 125 (by decide) (by decide) ?_
          show Go _ _ _ _ 224 [.val (.int x0), .val (.int x1), .val (.int x2), .val (.int x3), .val (.int x4), .val (.int 3), .val (.int v0), .val (.int v1), .val (.int v2), .val (.int v3), .val (.ref 0), .val (.int 0), .val (.int v2), .val (.int 0)] [.int (own_can3 v0 v1 v2)] [.inr (.byte, [.int v0, .int v1, .int v2])] _
          refine Go.iload d0_224 rfl ?_
          refine Go.icmpF d0_226 (XT.ii_ne_f (by
                  simp only [own_can3]
                  all_goals (first | rfl | (repeat' split) <;> simp_all))) ?_
          refine Go.iconst d0_229 (v := 1) rfl ?_
          refine Go.goto d0_230 j0_230 ?_
          exact Go.ireturnZ d0_234 rfl (by decide) rfl HOk.any
        · -- pc 209 not taken
          refine Go.iconst d0_212 (v := 1) rfl ?_
          refine Go.goto d0_213 j0_213 ?_
          refine Go.istore d0_217 (ls' := [.val (.int x0), .val (.int x1), .val (.int x2), .val (.int x3), .val (.int x4), .val (.int 3), .val (.int v0), .val (.int v1), .val (.int v2), .val (.int v3), .val (.ref 0), .val (.int 0), .val (.int v2), .val (.int 1)]) rfl ?_
          refine Go.aload d0_219 rfl rfl ?_
          refine Go.callS (M' := m2) d0_221 (hw _ (List.mem_of_getElem? (i := 5) rfl)) (hw _ (List.mem_of_getElem? (i := 6) rfl)) (hw _ (List.mem_of_getElem? (i := 7) rfl)) (hw _ (List.mem_of_getElem? (i := 8) rfl)) mi2 (as := [.ref 0]) rfl rfl (st := []) rfl (ls1 := [.val (.ref 0), .unset, .unset]) rfl (W := 0) rfl (by decide) (by decide) (go_own_can3 K hw v0 v1 v2) 15 125 (by decide) (by decide) ?_
          show Go _ _ _ _ 224 [.val (.int x0), .val (.int x1), .val (.int x2), .val (.int x3), .val (.int x4), .val (.int 3), .val (.int v0), .val (.int v1), .val (.int v2), .val (.int v3), .val (.ref 0), .val (.int 0), .val (.int v2), .val (.int 1)] [.int (own_can3 v0 v1 v2)] [.inr (.byte, [.int v0, .int v1, .int v2])] _
          refine Go.iload d0_224 rfl ?_
          refine Go.icmpF d0_226 (XT.ii_ne_f (by
                  simp only [own_can3]
                  all_goals (first | rfl | (repeat' split) <;> simp_all))) ?_
          refine Go.iconst d0_229 (v := 1) rfl ?_
          refine Go.goto d0_230 j0_230 ?_
          exact Go.ireturnZ d0_234 rfl (by decide) rfl HOk.any
theorem go_tail4 (K : Ctx) (hw : ∀ d ∈ tables_1, d.before K.2.2.1 K.2.1 = true) (x0 x1 x2 x3 x4 v0 v1 v2 v3 : Int32) (h0 : nar .byte ((Int32.toInt8 v0).toInt32) = v0) (h1 : nar .byte ((Int32.toInt8 v1).toInt32) = v1) (h2 : nar .byte ((Int32.toInt8 v2).toInt32) = v2) (h3 : nar .byte ((Int32.toInt8 v3).toInt32) = v3) : Go K m0 4 112 33 [.val (.int x0), .val (.int x1), .val (.int x2), .val (.int x3), .val (.int x4), .val (.int 4), .val (.int v0), .val (.int v1), .val (.int v2), .val (.int v3), .unset, .unset, .unset, .unset] [] [] (some (.int 1), none, 16, 128) := by
  refine Go.iload d0_33 rfl ?_
  refine Go.newarray 4 d0_35 (hw _ (List.mem_of_getElem? (i := 4) rfl)) (t := .byte) rfl (by decide) (by decide) (by decide) (vs := [.int 0, .int 0, .int 0, .int 0]) rfl (i := 0) rfl 15 124 (by decide) (by decide) ?_
  show Go _ _ _ _ 37 [.val (.int x0), .val (.int x1), .val (.int x2), .val (.int x3), .val (.int x4), .val (.int 4), .val (.int v0), .val (.int v1), .val (.int v2), .val (.int v3), .unset, .unset, .unset, .unset] [.ref 0] [.inr (.byte, [.int 0, .int 0, .int 0, .int 0])] _
  refine Go.astore d0_37 (ls' := [.val (.int x0), .val (.int x1), .val (.int x2), .val (.int x3), .val (.int x4), .val (.int 4), .val (.int v0), .val (.int v1), .val (.int v2), .val (.int v3), .val (.ref 0), .unset, .unset, .unset]) rfl rfl ?_
  refine Go.iload d0_39 rfl ?_
  refine Go.ifF d0_41 (XT.i0_le_f (by decide)) ?_
  refine Go.aload d0_44 rfl rfl ?_
  refine Go.iconst d0_46 (v := 0) rfl ?_
  refine Go.iload d0_47 rfl ?_
  refine Go.i2b d0_49 ?_
  refine Go.bastore d0_50 rfl (by decide) (Nat.le_of_ble_eq_true rfl) (H1 := [.inr (.byte, [.int v0, .int 0, .int 0, .int 0])]) (by rw [h0]; rfl) ?_
  refine Go.iload d0_51 rfl ?_
  refine Go.iconst d0_53 (v := 1) rfl ?_
  refine Go.icmpF d0_54 (XT.ii_le_f (by decide)) ?_
  refine Go.aload d0_57 rfl rfl ?_
  refine Go.iconst d0_59 (v := 1) rfl ?_
  refine Go.iload d0_60 rfl ?_
  refine Go.i2b d0_62 ?_
  refine Go.bastore d0_63 rfl (by decide) (Nat.le_of_ble_eq_true rfl) (H1 := [.inr (.byte, [.int v0, .int v1, .int 0, .int 0])]) (by rw [h1]; rfl) ?_
  refine Go.iload d0_64 rfl ?_
  refine Go.iconst d0_66 (v := 2) rfl ?_
  refine Go.icmpF d0_67 (XT.ii_le_f (by decide)) ?_
  refine Go.aload d0_70 rfl rfl ?_
  refine Go.iconst d0_72 (v := 2) rfl ?_
  refine Go.iload d0_73 rfl ?_
  refine Go.i2b d0_75 ?_
  refine Go.bastore d0_76 rfl (by decide) (Nat.le_of_ble_eq_true rfl) (H1 := [.inr (.byte, [.int v0, .int v1, .int v2, .int 0])]) (by rw [h2]; rfl) ?_
  refine Go.iload d0_77 rfl ?_
  refine Go.iconst d0_79 (v := 3) rfl ?_
  refine Go.icmpF d0_80 (XT.ii_le_f (by decide)) ?_
  refine Go.aload d0_83 rfl rfl ?_
  refine Go.iconst d0_85 (v := 3) rfl ?_
  refine Go.iload d0_86 rfl ?_
  refine Go.i2b d0_88 ?_
  refine Go.bastore d0_89 rfl (by decide) (Nat.le_of_ble_eq_true rfl) (H1 := [.inr (.byte, [.int v0, .int v1, .int v2, .int v3])]) (by rw [h3]; rfl) ?_
  refine Go.iload d0_90 rfl ?_
  refine Go.ifF d0_92 (XT.i0_le_f (by decide)) ?_
  refine Go.iload d0_95 rfl ?_
  refine Go.bipush d0_97 (v := 10) rfl ?_
  refine Go.icmp_eq d0_99 j0_99 (fun h99 => ?_) (fun h99 => ?_)
  · -- pc 99 taken
    refine Go.iconst d0_141 (v := 1) rfl ?_
    refine Go.goto d0_142 j0_142 ?_
    refine Go.istore d0_146 (ls' := [.val (.int x0), .val (.int x1), .val (.int x2), .val (.int x3), .val (.int x4), .val (.int 4), .val (.int v0), .val (.int v1), .val (.int v2), .val (.int v3), .val (.ref 0), .val (.int 1), .unset, .unset]) rfl ?_
    refine Go.iconst d0_148 (v := (-1)) rfl ?_
    refine Go.istore d0_149 (ls' := [.val (.int x0), .val (.int x1), .val (.int x2), .val (.int x3), .val (.int x4), .val (.int 4), .val (.int v0), .val (.int v1), .val (.int v2), .val (.int v3), .val (.ref 0), .val (.int 1), .val (.int (-1)), .unset]) rfl ?_
    refine Go.iload d0_151 rfl ?_
    refine Go.iconst d0_153 (v := 1) rfl ?_
    refine Go.icmpT d0_154 j0_154 (XT.ii_ne_t (by decide)) ?_
    refine Go.iload d0_164 rfl ?_
    refine Go.iconst d0_166 (v := 2) rfl ?_
    refine Go.icmpT d0_167 j0_167 (XT.ii_ne_t (by decide)) ?_
    refine Go.iload d0_177 rfl ?_
    refine Go.iconst d0_179 (v := 3) rfl ?_
    refine Go.icmpT d0_180 j0_180 (XT.ii_ne_t (by decide)) ?_
    refine Go.iload d0_190 rfl ?_
    refine Go.iconst d0_192 (v := 4) rfl ?_
    refine Go.icmpF d0_193 (XT.ii_ne_f (by decide)) ?_
    refine Go.iload d0_196 rfl ?_
    refine Go.istore d0_198 (ls' := [.val (.int x0), .val (.int x1), .val (.int x2), .val (.int x3), .val (.int x4), .val (.int 4), .val (.int v0), .val (.int v1), .val (.int v2), .val (.int v3), .val (.ref 0), .val (.int 1), .val (.int v3), .unset]) rfl ?_
    refine Go.iload d0_200 rfl ?_
    refine Go.ifT d0_202 j0_202 (XT.i0_ne_t (by decide)) ?_
    refine Go.iconst d0_216 (v := 0) rfl ?_
    refine Go.istore d0_217 (ls' := [.val (.int x0), .val (.int x1), .val (.int x2), .val (.int x3), .val (.int x4), .val (.int 4), .val (.int v0), .val (.int v1), .val (.int v2), .val (.int v3), .val (.ref 0), .val (.int 1), .val (.int v3), .val (.int 0)]) rfl ?_
    refine Go.aload d0_219 rfl rfl ?_
    refine Go.callS (M' := m2) d0_221 (hw _ (List.mem_of_getElem? (i := 5) rfl)) (hw _ (List.mem_of_getElem? (i := 6) rfl)) (hw _ (List.mem_of_getElem? (i := 7) rfl)) (hw _ (List.mem_of_getElem? (i := 8) rfl)) mi2 (as := [.ref 0]) rfl rfl (st := []) rfl (ls1 := [.val (.ref 0), .unset, .unset]) rfl (W := 0) rfl (by decide) (by decide) (go_own_can4 K hw v0 v1 v2 v3) 15 124 (by decide) (by decide) ?_
    show Go _ _ _ _ 224 [.val (.int x0), .val (.int x1), .val (.int x2), .val (.int x3), .val (.int x4), .val (.int 4), .val (.int v0), .val (.int v1), .val (.int v2), .val (.int v3), .val (.ref 0), .val (.int 1), .val (.int v3), .val (.int 0)] [.int (own_can4 v0 v1 v2 v3)] [.inr (.byte, [.int v0, .int v1, .int v2, .int v3])] _
    refine Go.iload d0_224 rfl ?_
    refine Go.icmpF d0_226 (XT.ii_ne_f (by
                  simp only [own_can4]
                  all_goals (first | rfl | (repeat' split) <;> simp_all))) ?_
    refine Go.iconst d0_229 (v := 1) rfl ?_
    refine Go.goto d0_230 j0_230 ?_
    exact Go.ireturnZ d0_234 rfl (by decide) rfl HOk.any
  · -- pc 99 not taken
    refine Go.iload d0_102 rfl ?_
    refine Go.iconst d0_104 (v := 1) rfl ?_
    refine Go.icmpF d0_105 (XT.ii_le_f (by decide)) ?_
    refine Go.iload d0_108 rfl ?_
    refine Go.bipush d0_110 (v := 10) rfl ?_
    refine Go.icmp_eq d0_112 j0_112 (fun h112 => ?_) (fun h112 => ?_)
    · -- pc 112 taken
      refine Go.iconst d0_141 (v := 1) rfl ?_
      refine Go.goto d0_142 j0_142 ?_
      refine Go.istore d0_146 (ls' := [.val (.int x0), .val (.int x1), .val (.int x2), .val (.int x3), .val (.int x4), .val (.int 4), .val (.int v0), .val (.int v1), .val (.int v2), .val (.int v3), .val (.ref 0), .val (.int 1), .unset, .unset]) rfl ?_
      refine Go.iconst d0_148 (v := (-1)) rfl ?_
      refine Go.istore d0_149 (ls' := [.val (.int x0), .val (.int x1), .val (.int x2), .val (.int x3), .val (.int x4), .val (.int 4), .val (.int v0), .val (.int v1), .val (.int v2), .val (.int v3), .val (.ref 0), .val (.int 1), .val (.int (-1)), .unset]) rfl ?_
      refine Go.iload d0_151 rfl ?_
      refine Go.iconst d0_153 (v := 1) rfl ?_
      refine Go.icmpT d0_154 j0_154 (XT.ii_ne_t (by decide)) ?_
      refine Go.iload d0_164 rfl ?_
      refine Go.iconst d0_166 (v := 2) rfl ?_
      refine Go.icmpT d0_167 j0_167 (XT.ii_ne_t (by decide)) ?_
      refine Go.iload d0_177 rfl ?_
      refine Go.iconst d0_179 (v := 3) rfl ?_
      refine Go.icmpT d0_180 j0_180 (XT.ii_ne_t (by decide)) ?_
      refine Go.iload d0_190 rfl ?_
      refine Go.iconst d0_192 (v := 4) rfl ?_
      refine Go.icmpF d0_193 (XT.ii_ne_f (by decide)) ?_
      refine Go.iload d0_196 rfl ?_
      refine Go.istore d0_198 (ls' := [.val (.int x0), .val (.int x1), .val (.int x2), .val (.int x3), .val (.int x4), .val (.int 4), .val (.int v0), .val (.int v1), .val (.int v2), .val (.int v3), .val (.ref 0), .val (.int 1), .val (.int v3), .unset]) rfl ?_
      refine Go.iload d0_200 rfl ?_
      refine Go.ifT d0_202 j0_202 (XT.i0_ne_t (by decide)) ?_
      refine Go.iconst d0_216 (v := 0) rfl ?_
      refine Go.istore d0_217 (ls' := [.val (.int x0), .val (.int x1), .val (.int x2), .val (.int x3), .val (.int x4), .val (.int 4), .val (.int v0), .val (.int v1), .val (.int v2), .val (.int v3), .val (.ref 0), .val (.int 1), .val (.int v3), .val (.int 0)]) rfl ?_
      refine Go.aload d0_219 rfl rfl ?_
      refine Go.callS (M' := m2) d0_221 (hw _ (List.mem_of_getElem? (i := 5) rfl)) (hw _ (List.mem_of_getElem? (i := 6) rfl)) (hw _ (List.mem_of_getElem? (i := 7) rfl)) (hw _ (List.mem_of_getElem? (i := 8) rfl)) mi2 (as := [.ref 0]) rfl rfl (st := []) rfl (ls1 := [.val (.ref 0), .unset, .unset]) rfl (W := 0) rfl (by decide) (by decide) (go_own_can4 K hw v0 v1 v2 v3) 15 124 (by decide) (by decide) ?_
      show Go _ _ _ _ 224 [.val (.int x0), .val (.int x1), .val (.int x2), .val (.int x3), .val (.int x4), .val (.int 4), .val (.int v0), .val (.int v1), .val (.int v2), .val (.int v3), .val (.ref 0), .val (.int 1), .val (.int v3), .val (.int 0)] [.int (own_can4 v0 v1 v2 v3)] [.inr (.byte, [.int v0, .int v1, .int v2, .int v3])] _
      refine Go.iload d0_224 rfl ?_
      refine Go.icmpF d0_226 (XT.ii_ne_f (by
                  simp only [own_can4]
                  all_goals (first | rfl | (repeat' split) <;> simp_all))) ?_
      refine Go.iconst d0_229 (v := 1) rfl ?_
      refine Go.goto d0_230 j0_230 ?_
      exact Go.ireturnZ d0_234 rfl (by decide) rfl HOk.any
    · -- pc 112 not taken
      refine Go.iload d0_115 rfl ?_
      refine Go.iconst d0_117 (v := 2) rfl ?_
      refine Go.icmpF d0_118 (XT.ii_le_f (by decide)) ?_
      refine Go.iload d0_121 rfl ?_
      refine Go.bipush d0_123 (v := 10) rfl ?_
      refine Go.icmp_eq d0_125 j0_125 (fun h125 => ?_) (fun h125 => ?_)
      · -- pc 125 taken
        refine Go.iconst d0_141 (v := 1) rfl ?_
        refine Go.goto d0_142 j0_142 ?_
        refine Go.istore d0_146 (ls' := [.val (.int x0), .val (.int x1), .val (.int x2), .val (.int x3), .val (.int x4), .val (.int 4), .val (.int v0), .val (.int v1), .val (.int v2), .val (.int v3), .val (.ref 0), .val (.int 1), .unset, .unset]) rfl ?_
        refine Go.iconst d0_148 (v := (-1)) rfl ?_
        refine Go.istore d0_149 (ls' := [.val (.int x0), .val (.int x1), .val (.int x2), .val (.int x3), .val (.int x4), .val (.int 4), .val (.int v0), .val (.int v1), .val (.int v2), .val (.int v3), .val (.ref 0), .val (.int 1), .val (.int (-1)), .unset]) rfl ?_
        refine Go.iload d0_151 rfl ?_
        refine Go.iconst d0_153 (v := 1) rfl ?_
        refine Go.icmpT d0_154 j0_154 (XT.ii_ne_t (by decide)) ?_
        refine Go.iload d0_164 rfl ?_
        refine Go.iconst d0_166 (v := 2) rfl ?_
        refine Go.icmpT d0_167 j0_167 (XT.ii_ne_t (by decide)) ?_
        refine Go.iload d0_177 rfl ?_
        refine Go.iconst d0_179 (v := 3) rfl ?_
        refine Go.icmpT d0_180 j0_180 (XT.ii_ne_t (by decide)) ?_
        refine Go.iload d0_190 rfl ?_
        refine Go.iconst d0_192 (v := 4) rfl ?_
        refine Go.icmpF d0_193 (XT.ii_ne_f (by decide)) ?_
        refine Go.iload d0_196 rfl ?_
        refine Go.istore d0_198 (ls' := [.val (.int x0), .val (.int x1), .val (.int x2), .val (.int x3), .val (.int x4), .val (.int 4), .val (.int v0), .val (.int v1), .val (.int v2), .val (.int v3), .val (.ref 0), .val (.int 1), .val (.int v3), .unset]) rfl ?_
        refine Go.iload d0_200 rfl ?_
        refine Go.ifT d0_202 j0_202 (XT.i0_ne_t (by decide)) ?_
        refine Go.iconst d0_216 (v := 0) rfl ?_
        refine Go.istore d0_217 (ls' := [.val (.int x0), .val (.int x1), .val (.int x2), .val (.int x3), .val (.int x4), .val (.int 4), .val (.int v0), .val (.int v1), .val (.int v2), .val (.int v3), .val (.ref 0), .val (.int 1), .val (.int v3), .val (.int 0)]) rfl ?_
        refine Go.aload d0_219 rfl rfl ?_
        refine Go.callS (M' := m2) d0_221 (hw _ (List.mem_of_getElem? (i := 5) rfl)) (hw _ (List.mem_of_getElem? (i := 6) rfl)) (hw _ (List.mem_of_getElem? (i := 7) rfl)) (hw _ (List.mem_of_getElem? (i := 8) rfl)) mi2 (as := [.ref 0]) rfl rfl (st := []) rfl (ls1 := [.val (.ref 0), .unset, .unset]) rfl (W := 0) rfl (by decide) (by decide) (go_own_can4 K hw v0 v1 v2 v3) 15 124 (by decide) (by decide) ?_
        show Go _ _ _ _ 224 [.val (.int x0), .val (.int x1), .val (.int x2), .val (.int x3), .val (.int x4), .val (.int 4), .val (.int v0), .val (.int v1), .val (.int v2), .val (.int v3), .val (.ref 0), .val (.int 1), .val (.int v3), .val (.int 0)] [.int (own_can4 v0 v1 v2 v3)] [.inr (.byte, [.int v0, .int v1, .int v2, .int v3])] _
        refine Go.iload d0_224 rfl ?_
        refine Go.icmpF d0_226 (XT.ii_ne_f (by
                  simp only [own_can4]
                  all_goals (first | rfl | (repeat' split) <;> simp_all))) ?_
        refine Go.iconst d0_229 (v := 1) rfl ?_
        refine Go.goto d0_230 j0_230 ?_
        exact Go.ireturnZ d0_234 rfl (by decide) rfl HOk.any
      · -- pc 125 not taken
        refine Go.iload d0_128 rfl ?_
        refine Go.iconst d0_130 (v := 3) rfl ?_
        refine Go.icmpF d0_131 (XT.ii_le_f (by decide)) ?_
        refine Go.iload d0_134 rfl ?_
        refine Go.bipush d0_136 (v := 10) rfl ?_
        refine Go.icmp_ne d0_138 j0_138 (fun h138 => ?_) (fun h138 => ?_)
        · -- pc 138 taken
          refine Go.iconst d0_145 (v := 0) rfl ?_
          refine Go.istore d0_146 (ls' := [.val (.int x0), .val (.int x1), .val (.int x2), .val (.int x3), .val (.int x4), .val (.int 4), .val (.int v0), .val (.int v1), .val (.int v2), .val (.int v3), .val (.ref 0), .val (.int 0), .unset, .unset]) rfl ?_
          refine Go.iconst d0_148 (v := (-1)) rfl ?_
          refine Go.istore d0_149 (ls' := [.val (.int x0), .val (.int x1), .val (.int x2), .val (.int x3), .val (.int x4), .val (.int 4), .val (.int v0), .val (.int v1), .val (.int v2), .val (.int v3), .val (.ref 0), .val (.int 0), .val (.int (-1)), .unset]) rfl ?_
          refine Go.iload d0_151 rfl ?_
          refine Go.iconst d0_153 (v := 1) rfl ?_
          refine Go.icmpT d0_154 j0_154 (XT.ii_ne_t (by decide)) ?_
          refine Go.iload d0_164 rfl ?_
          refine Go.iconst d0_166 (v := 2) rfl ?_
          refine Go.icmpT d0_167 j0_167 (XT.ii_ne_t (by decide)) ?_
          refine Go.iload d0_177 rfl ?_
          refine Go.iconst d0_179 (v := 3) rfl ?_
          refine Go.icmpT d0_180 j0_180 (XT.ii_ne_t (by decide)) ?_
          refine Go.iload d0_190 rfl ?_
          refine Go.iconst d0_192 (v := 4) rfl ?_
          refine Go.icmpF d0_193 (XT.ii_ne_f (by decide)) ?_
          refine Go.iload d0_196 rfl ?_
          refine Go.istore d0_198 (ls' := [.val (.int x0), .val (.int x1), .val (.int x2), .val (.int x3), .val (.int x4), .val (.int 4), .val (.int v0), .val (.int v1), .val (.int v2), .val (.int v3), .val (.ref 0), .val (.int 0), .val (.int v3), .unset]) rfl ?_
          refine Go.iload d0_200 rfl ?_
          refine Go.ifF d0_202 (XT.i0_ne_f (by decide)) ?_
          refine Go.iload d0_205 rfl ?_
          refine Go.bipush d0_207 (v := 13) rfl ?_
          refine Go.icmp_eq d0_209 j0_209 (fun h209 => ?_) (fun h209 => ?_)
          · -- pc 209 taken
            refine Go.iconst d0_216 (v := 0) rfl ?_
            refine Go.istore d0_217 (ls' := [.val (.int x0), .val (.int x1), .val (.int x2), .val (.int x3), .val (.int x4), .val (.int 4), .val (.int v0), .val (.int v1), .val (.int v2), .val (.int v3), .val (.ref 0), .val (.int 0), .val (.int v3), .val (.int 0)]) rfl ?_
            refine Go.aload d0_219 rfl rfl ?_
            refine Go.callS (M' := m2) d0_221 (hw _ (List.mem_of_getElem? (i := 5) rfl)) (hw _ (List.mem_of_getElem? (i := 6) rfl)) (hw _ (List.mem_of_getElem? (i := 7) rfl)) (hw _ (List.mem_of_getElem? (i := 8) rfl)) mi2 (as := [.ref 0]) rfl rfl (st := []) rfl (ls1 := [.val (.ref 0), .unset, .unset]) rfl (W := 0) rfl (by decide) (by decide) (go_own_can4 K hw v0 v1 v2 v3) 15 124 (by decide) (by decide) ?_
            show Go _ _ _ _ 224 [.val (.int x0), .val (.int x1), .val (.int x2), .val (.int x3), .val (.int x4), .val (.int 4), .val (.int v0), .val (.int v1), .val (.int v2), .val (.int v3), .val (.ref 0), .val (.int 0), .val (.int v3), .val (.int 0)] [.int (own_can4 v0 v1 v2 v3)] [.inr (.byte, [.int v0, .int v1, .int v2, .int v3])] _
            refine Go.iload d0_224 rfl ?_
            refine Go.icmpF d0_226 (XT.ii_ne_f (by
                  simp only [own_can4]
                  all_goals (first | rfl | (repeat' split) <;> simp_all))) ?_
            refine Go.iconst d0_229 (v := 1) rfl ?_
            refine Go.goto d0_230 j0_230 ?_
            exact Go.ireturnZ d0_234 rfl (by decide) rfl HOk.any
          · -- pc 209 not taken
            refine Go.iconst d0_212 (v := 1) rfl ?_
            refine Go.goto d0_213 j0_213 ?_
            refine Go.istore d0_217 (ls' := [.val (.int x0), .val (.int x1), .val (.int x2), .val (.int x3), .val (.int x4), .val (.int 4), .val (.int v0), .val (.int v1), .val (.int v2), .val (.int v3), .val (.ref 0), .val (.int 0), .val (.int v3), .val (.int 1)]) rfl ?_
            refine Go.aload d0_219 rfl rfl ?_
            refine Go.callS (M' := m2) d0_221 (hw _ (List.mem_of_getElem? (i := 5) rfl)) (hw _ (List.mem_of_getElem? (i := 6) rfl)) (hw _ (List.mem_of_getElem? (i := 7) rfl)) (hw _ (List.mem_of_getElem? (i := 8) rfl)) mi2 (as := [.ref 0]) rfl rfl (st := []) rfl (ls1 := [.val (.ref 0), .unset, .unset]) rfl (W := 0) rfl (by decide) (by decide) (go_own_can4 K hw v0 v1 v2 v3) 15 124 (by decide) (by decide) ?_
            show Go _ _ _ _ 224 [.val (.int x0), .val (.int x1), .val (.int x2), .val (.int x3), .val (.int x4), .val (.int 4), .val (.int v0), .val (.int v1), .val (.int v2), .val (.int v3), .val (.ref 0), .val (.int 0), .val (.int v3), .val (.int 1)] [.int (own_can4 v0 v1 v2 v3)] [.inr (.byte, [.int v0, .int v1, .int v2, .int v3])] _
            refine Go.iload d0_224 rfl ?_
            refine Go.icmpF d0_226 (XT.ii_ne_f (by
                  simp only [own_can4]
                  all_goals (first | rfl | (repeat' split) <;> simp_all))) ?_
            refine Go.iconst d0_229 (v := 1) rfl ?_
            refine Go.goto d0_230 j0_230 ?_
            exact Go.ireturnZ d0_234 rfl (by decide) rfl HOk.any
        · -- pc 138 not taken
          refine Go.iconst d0_141 (v := 1) rfl ?_
          refine Go.goto d0_142 j0_142 ?_
          refine Go.istore d0_146 (ls' := [.val (.int x0), .val (.int x1), .val (.int x2), .val (.int x3), .val (.int x4), .val (.int 4), .val (.int v0), .val (.int v1), .val (.int v2), .val (.int v3), .val (.ref 0), .val (.int 1), .unset, .unset]) rfl ?_
          refine Go.iconst d0_148 (v := (-1)) rfl ?_
          refine Go.istore d0_149 (ls' := [.val (.int x0), .val (.int x1), .val (.int x2), .val (.int x3), .val (.int x4), .val (.int 4), .val (.int v0), .val (.int v1), .val (.int v2), .val (.int v3), .val (.ref 0), .val (.int 1), .val (.int (-1)), .unset]) rfl ?_
          refine Go.iload d0_151 rfl ?_
          refine Go.iconst d0_153 (v := 1) rfl ?_
          refine Go.icmpT d0_154 j0_154 (XT.ii_ne_t (by decide)) ?_
          refine Go.iload d0_164 rfl ?_
          refine Go.iconst d0_166 (v := 2) rfl ?_
          refine Go.icmpT d0_167 j0_167 (XT.ii_ne_t (by decide)) ?_
          refine Go.iload d0_177 rfl ?_
          refine Go.iconst d0_179 (v := 3) rfl ?_
          refine Go.icmpT d0_180 j0_180 (XT.ii_ne_t (by decide)) ?_
          refine Go.iload d0_190 rfl ?_
          refine Go.iconst d0_192 (v := 4) rfl ?_
          refine Go.icmpF d0_193 (XT.ii_ne_f (by decide)) ?_
          refine Go.iload d0_196 rfl ?_
          refine Go.istore d0_198 (ls' := [.val (.int x0), .val (.int x1), .val (.int x2), .val (.int x3), .val (.int x4), .val (.int 4), .val (.int v0), .val (.int v1), .val (.int v2), .val (.int v3), .val (.ref 0), .val (.int 1), .val (.int v3), .unset]) rfl ?_
          refine Go.iload d0_200 rfl ?_
          refine Go.ifT d0_202 j0_202 (XT.i0_ne_t (by decide)) ?_
          refine Go.iconst d0_216 (v := 0) rfl ?_
          refine Go.istore d0_217 (ls' := [.val (.int x0), .val (.int x1), .val (.int x2), .val (.int x3), .val (.int x4), .val (.int 4), .val (.int v0), .val (.int v1), .val (.int v2), .val (.int v3), .val (.ref 0), .val (.int 1), .val (.int v3), .val (.int 0)]) rfl ?_
          refine Go.aload d0_219 rfl rfl ?_
          refine Go.callS (M' := m2) d0_221 (hw _ (List.mem_of_getElem? (i := 5) rfl)) (hw _ (List.mem_of_getElem? (i := 6) rfl)) (hw _ (List.mem_of_getElem? (i := 7) rfl)) (hw _ (List.mem_of_getElem? (i := 8) rfl)) mi2 (as := [.ref 0]) rfl rfl (st := []) rfl (ls1 := [.val (.ref 0), .unset, .unset]) rfl (W := 0) rfl (by decide) (by decide) (go_own_can4 K hw v0 v1 v2 v3) 15 124 (by decide) (by decide) ?_
          show Go _ _ _ _ 224 [.val (.int x0), .val (.int x1), .val (.int x2), .val (.int x3), .val (.int x4), .val (.int 4), .val (.int v0), .val (.int v1), .val (.int v2), .val (.int v3), .val (.ref 0), .val (.int 1), .val (.int v3), .val (.int 0)] [.int (own_can4 v0 v1 v2 v3)] [.inr (.byte, [.int v0, .int v1, .int v2, .int v3])] _
          refine Go.iload d0_224 rfl ?_
          refine Go.icmpF d0_226 (XT.ii_ne_f (by
                  simp only [own_can4]
                  all_goals (first | rfl | (repeat' split) <;> simp_all))) ?_
          refine Go.iconst d0_229 (v := 1) rfl ?_
          refine Go.goto d0_230 j0_230 ?_
          exact Go.ireturnZ d0_234 rfl (by decide) rfl HOk.any
theorem go_law (K : Ctx) (hw : ∀ d ∈ tables_1, d.before K.2.2.1 K.2.1 = true) (x0 : Int32) (x1 : Int32) (x2 : Int32) (x3 : Int32) (x4 : Int32) : Go K m0 4 112 0 [.val (.int x0), .val (.int x1), .val (.int x2), .val (.int x3), .val (.int x4), .unset, .unset, .unset, .unset, .unset, .unset, .unset, .unset, .unset] [] [] (some (.int 1), none, 16, 128) := by
  refine Go.iloadN d0_0 rfl ?_
  refine Go.bipush d0_1 (v := 7) rfl ?_
  refine Go.iand d0_3 ?_
  refine Go.iconst d0_4 (v := 5) rfl ?_
  refine Go.irem d0_5 (by decide) ?_
  refine Go.istore d0_6 (ls' := [.val (.int x0), .val (.int x1), .val (.int x2), .val (.int x3), .val (.int x4), .val (.int ((x0 &&& 7) % 5)), .unset, .unset, .unset, .unset, .unset, .unset, .unset, .unset]) rfl ?_
  refine Go.iloadN d0_8 rfl ?_
  refine Go.callS (M' := m1) d0_9 (hw _ (List.mem_of_getElem? (i := 0) rfl)) (hw _ (List.mem_of_getElem? (i := 1) rfl)) (hw _ (List.mem_of_getElem? (i := 2) rfl)) (hw _ (List.mem_of_getElem? (i := 3) rfl)) mi1 (as := [.int x1]) rfl rfl (st := []) rfl (ls1 := [.val (.int x1), .unset]) rfl (W := 0) rfl (by decide) (by decide) (go_own_pick K hw x1 _) 16 128 (by decide) (by decide) ?_
  show Go _ _ _ _ 12 [.val (.int x0), .val (.int x1), .val (.int x2), .val (.int x3), .val (.int x4), .val (.int ((x0 &&& 7) % 5)), .unset, .unset, .unset, .unset, .unset, .unset, .unset, .unset] [.int (own_pick x1)] [] _
  refine Go.istore d0_12 (ls' := [.val (.int x0), .val (.int x1), .val (.int x2), .val (.int x3), .val (.int x4), .val (.int ((x0 &&& 7) % 5)), .val (.int (own_pick x1)), .unset, .unset, .unset, .unset, .unset, .unset, .unset]) rfl ?_
  refine Go.iloadN d0_14 rfl ?_
  refine Go.callS (M' := m1) d0_15 (hw _ (List.mem_of_getElem? (i := 0) rfl)) (hw _ (List.mem_of_getElem? (i := 1) rfl)) (hw _ (List.mem_of_getElem? (i := 2) rfl)) (hw _ (List.mem_of_getElem? (i := 3) rfl)) mi1 (as := [.int x2]) rfl rfl (st := []) rfl (ls1 := [.val (.int x2), .unset]) rfl (W := 0) rfl (by decide) (by decide) (go_own_pick K hw x2 _) 16 128 (by decide) (by decide) ?_
  show Go _ _ _ _ 18 [.val (.int x0), .val (.int x1), .val (.int x2), .val (.int x3), .val (.int x4), .val (.int ((x0 &&& 7) % 5)), .val (.int (own_pick x1)), .unset, .unset, .unset, .unset, .unset, .unset, .unset] [.int (own_pick x2)] [] _
  refine Go.istore d0_18 (ls' := [.val (.int x0), .val (.int x1), .val (.int x2), .val (.int x3), .val (.int x4), .val (.int ((x0 &&& 7) % 5)), .val (.int (own_pick x1)), .val (.int (own_pick x2)), .unset, .unset, .unset, .unset, .unset, .unset]) rfl ?_
  refine Go.iloadN d0_20 rfl ?_
  refine Go.callS (M' := m1) d0_21 (hw _ (List.mem_of_getElem? (i := 0) rfl)) (hw _ (List.mem_of_getElem? (i := 1) rfl)) (hw _ (List.mem_of_getElem? (i := 2) rfl)) (hw _ (List.mem_of_getElem? (i := 3) rfl)) mi1 (as := [.int x3]) rfl rfl (st := []) rfl (ls1 := [.val (.int x3), .unset]) rfl (W := 0) rfl (by decide) (by decide) (go_own_pick K hw x3 _) 16 128 (by decide) (by decide) ?_
  show Go _ _ _ _ 24 [.val (.int x0), .val (.int x1), .val (.int x2), .val (.int x3), .val (.int x4), .val (.int ((x0 &&& 7) % 5)), .val (.int (own_pick x1)), .val (.int (own_pick x2)), .unset, .unset, .unset, .unset, .unset, .unset] [.int (own_pick x3)] [] _
  refine Go.istore d0_24 (ls' := [.val (.int x0), .val (.int x1), .val (.int x2), .val (.int x3), .val (.int x4), .val (.int ((x0 &&& 7) % 5)), .val (.int (own_pick x1)), .val (.int (own_pick x2)), .val (.int (own_pick x3)), .unset, .unset, .unset, .unset, .unset]) rfl ?_
  refine Go.iload d0_26 rfl ?_
  refine Go.callS (M' := m1) d0_28 (hw _ (List.mem_of_getElem? (i := 0) rfl)) (hw _ (List.mem_of_getElem? (i := 1) rfl)) (hw _ (List.mem_of_getElem? (i := 2) rfl)) (hw _ (List.mem_of_getElem? (i := 3) rfl)) mi1 (as := [.int x4]) rfl rfl (st := []) rfl (ls1 := [.val (.int x4), .unset]) rfl (W := 0) rfl (by decide) (by decide) (go_own_pick K hw x4 _) 16 128 (by decide) (by decide) ?_
  show Go _ _ _ _ 31 [.val (.int x0), .val (.int x1), .val (.int x2), .val (.int x3), .val (.int x4), .val (.int ((x0 &&& 7) % 5)), .val (.int (own_pick x1)), .val (.int (own_pick x2)), .val (.int (own_pick x3)), .unset, .unset, .unset, .unset, .unset] [.int (own_pick x4)] [] _
  refine Go.istore d0_31 (ls' := [.val (.int x0), .val (.int x1), .val (.int x2), .val (.int x3), .val (.int x4), .val (.int ((x0 &&& 7) % 5)), .val (.int (own_pick x1)), .val (.int (own_pick x2)), .val (.int (own_pick x3)), .val (.int (own_pick x4)), .unset, .unset, .unset, .unset]) rfl ?_
  rcases own_i5 x0 with h | h | h | h | h <;> rw [h]
  · exact go_tail0 K hw _ _ _ _ _ _ _ _ _ (own_pk x1) (own_pk x2) (own_pk x3) (own_pk x4)
  · exact go_tail1 K hw _ _ _ _ _ _ _ _ _ (own_pk x1) (own_pk x2) (own_pk x3) (own_pk x4)
  · exact go_tail2 K hw _ _ _ _ _ _ _ _ _ (own_pk x1) (own_pk x2) (own_pk x3) (own_pk x4)
  · exact go_tail3 K hw _ _ _ _ _ _ _ _ _ (own_pk x1) (own_pk x2) (own_pk x3) (own_pk x4)
  · exact go_tail4 K hw _ _ _ _ _ _ _ _ _ (own_pk x1) (own_pk x2) (own_pk x3) (own_pk x4)
set_option maxRecDepth 65536 in
set_option maxHeartbeats 40000000 in
theorem comes_1 {Post : Tables → Env → Array Value → State → Outcome → State → Prop} (hpost : ∀ tb e args s v u, (limb_1_1.after args s (.returned v) u = true ∧ limb_1_2.after args s (.returned v) u = true ∧ True) → FrameEnd s (.returned v) u (Jvm.fieldLocs frame_1_writes args s ++ Jvm.arrayLocs frame_1_arrays args s ++ Jvm.staticLocs frame_1_statics s) 16 128 → Post tb e args s (.returned v) u) :
    ArmFor flags0 classFile x code maxLocals ret World_1 tables_1 room_1 Calls_1 rest_1 Pre_1 Post := by
  intro l hfl _ _ p e ha hc hk s m args below hf hA hF happ hP
  obtain ⟨hcalls, hrest, hpre⟩ := hP
  obtain ⟨-, -, -, hnamed, -, -, -, hat⟩ := (Spec.applies_iff hf).mp happ
  obtain ⟨hg, hn⟩ := and_e (Cond.before_iff.mp (show (Jvm.Cond.and given_1 narrow_1).before args s = true from hpre))
  obtain ⟨h1, g0⟩ := and_e hg
  obtain ⟨w0, w1, w2, w3, w4, rfl⟩ : ∃ w0 w1 w2 w3 w4 : Value, args = #[w0, w1, w2, w3, w4] := by
    have hs : args.size = 5 := by simpa [Cond.value, given_1] using h1
    obtain ⟨L⟩ := args
    match L, hs with
    | [w0, w1, w2, w3, w4], _ => exact ⟨w0, w1, w2, w3, w4, rfl⟩
  have hw := fun d (hd : d ∈ tables_1) => atoms_spec (ws := Jvm.Cond.code x code maxLocals ret :: tables_1) hat d (List.mem_cons_of_mem _ hd)
  obtain ⟨q0, g1⟩ := and_e g0
  obtain ⟨i0, e0⟩ := is_v q0
  obtain rfl : w0 = (.int i0) := Option.some.inj e0
  obtain ⟨q1, g2⟩ := and_e g1
  obtain ⟨i1, e1⟩ := is_v q1
  obtain rfl : w1 = (.int i1) := Option.some.inj e1
  obtain ⟨q2, g3⟩ := and_e g2
  obtain ⟨i2, e2⟩ := is_v q2
  obtain rfl : w2 = (.int i2) := Option.some.inj e2
  obtain ⟨q3, g4⟩ := and_e g3
  obtain ⟨i3, e3⟩ := is_v q3
  obtain rfl : w3 = (.int i3) := Option.some.inj e3
  obtain ⟨i4, e4⟩ := is_v g4
  obtain rfl : w4 = (.int i4) := Option.some.inj e4
  have gl := go_law (l, s, _, s.heap.size) hw i0 i1 i2 i3 i4
  obtain ⟨n, o, h1, h2, h3, _, L, rfl, ⟨rfl, -, N⟩, hq⟩ := Go.met (K := (l, s, _, s.heap.size)) (M := m0) (as := [.int i0, .int i1, .int i2, .int i3, .int i4]) (ws := tables_1) (rm := room_1) (rv := some (.int 1)) (h := s.heap) (H := []) (by decide +kernel) ⟨rfl, fun i o h => by simp at h⟩ rfl gl p e ha hc hk s m _ below hf ((Spec.applies_iff_loose hf).mp happ).1 ⟨rfl, State.Warmed39.refl s, rfl⟩ trivial
  refine ⟨n, _, h1, h2, h3, hpost _ _ _ _ _ _ ⟨Cond.after_iff.mpr rfl, Cond.after_iff.mpr (eq_i res_at (Term.int_eval (1)) rfl), trivial⟩ ⟨hq.1, hq.2.1, (hq.2.2.sift fun y hy => Or.inr (N y hy)).mono (by decide) (by decide)⟩⟩
theorem main_1_1 : Claimed_1_1 := comes_1 fun _ _ _ _ _ _ h hF => ⟨h.1, hF⟩
theorem main_1_2 : Claimed_1_2 := comes_1 fun _ _ _ _ _ _ h hF => ⟨h.2.1, hF⟩
end Jvm.Pilot.@@N@@
namespace Jvm.Pilot.@@N@@
open Jvm Jvm.ClassFile Sem Op Lib Jvm.Free Jvm.Stand Jvm.Pilot.@@N@@.Jvm.D
/-! MADE BY PROGRAM (witnessworld.py) out of the Statement's table words and the real class files: 10 classes; the members and pool entries that the words name. The judged class is class 1, her method 2. -/
namespace start1
open Jvm.ClassFile
def u (s : String) : CpInfo := .utf8 (stringToUtf16 s)
/-- a pool by its gaps: so many unusable entries, then the entry; so many at the end -/
def gap : Nat → List CpInfo → List CpInfo
  | 0, r => r
  | n + 1, r => .unusable :: gap n r
def poolList (es : List (Nat × CpInfo)) (last : Nat) : List CpInfo := es.foldr (fun e r => gap e.1 (e.2 :: r)) (gap last [])
def pool (es : List (Nat × CpInfo)) (last : Nat) : Array CpInfo := ⟨poolList es last⟩
def fileOf (pool : Array CpInfo) (this : Nat) (attrs : Array Attribute := #[]) (ms : Array MethodInfo := #[]) (fl : Nat := 33) (sup : Nat := 0) (ifs : Array Nat := #[]) (fds : Array FieldInfo := #[]) : ClassFile where
  minorVersion := 0
  majorVersion := 65
  constantPool := pool
  accessFlags := fl
  thisClass := this
  superClass := sup
  interfaces := ifs
  fields := fds
  methods := ms
  attributes := attrs
def plain (name : String) (sup : Option ClassId) : Class where
  name := name
  kind := .ordinary
  loader := none
  accessFlags := 33
  super := sup
  interfaces := #[]
  cf := none
  fields := #[]
  methods := #[]
  instanceTypes := #[]
  staticTypes := #[]
  resolved := #[]
  callSites := []
  init := .initialized
  statics := none
  mirror := none

def pool0 : Array CpInfo := pool [(5, u "<init>"), (0, u "()V"), (1, .class_ 10), (1, u "java/lang/Object")] 113

def k0m0 : Method := { name := "<init>", desc := "()V", sig := { parameters := [], returnType := none }, accessFlags := 1, code := none }
/-- java/lang/Object -/
def k0 : Class := { plain "java/lang/Object" none with
  accessFlags := 33
  interfaces := #[]
  cf := some (fileOf pool0 8 #[] #[{ accessFlags := 1, nameIndex := 5, descriptorIndex := 6, attributes := #[] }] 33 0 #[] #[])
  fields := #[]
  methods := #[k0m0]
  instanceTypes := #[]
  staticTypes := #[]
  resolved := Array.replicate 124 none
  statics := none }

def pool1 : Array CpInfo := pool [(2, .class_ 4), (1, u "java/lang/Object"), (0, u "<init>"), (0, u "()V"), (0, .methodref 8 9), (0, .class_ 10), (0, .nameAndType 11 12), (0, u "com/example/skew/skew/RoutingTableCanListPinLaw"), (0, u "pick"), (0, u "(I)I"), (0, .methodref 14 15), (0, .class_ 16), (0, .nameAndType 17 18), (0, u "com/example/skew/skew/RoutingTable"), (0, u "canList"), (0, u "([B)Z"), (3, u "law"), (0, u "(IIIII)Z")] 4

def k1m0 : Method := { name := "<init>", desc := "()V", sig := { parameters := [], returnType := none }, accessFlags := 2, code := none }
def k1c1 : Code := { maxStack := 2, maxLocals := 2, code := method_2_code, exceptionTable := #[], attributes := #[] }
def k1m1 : Method := { name := "pick", desc := "(I)I", sig := { parameters := [.int], returnType := some .int }, accessFlags := 10, code := some k1c1 }
def k1c2 : Code := { maxStack := 3, maxLocals := 14, code := code, exceptionTable := #[], attributes := #[] }
def k1m2 : Method := { name := "law", desc := "(IIIII)Z", sig := { parameters := [.int, .int, .int, .int, .int], returnType := some .boolean }, accessFlags := 9, code := some k1c2 }
/-- com/example/skew/skew/RoutingTableCanListPinLaw -/
def k1 : Class := { plain "com/example/skew/skew/RoutingTableCanListPinLaw" (some 0) with
  accessFlags := 49
  interfaces := #[]
  cf := some (fileOf pool1 8 #[] #[{ accessFlags := 2, nameIndex := 5, descriptorIndex := 6, attributes := #[] }, { accessFlags := 10, nameIndex := 11, descriptorIndex := 12, attributes := #[] }, { accessFlags := 9, nameIndex := 22, descriptorIndex := 23, attributes := #[] }] 49 2 #[] #[])
  fields := #[]
  methods := #[k1m0, k1m1, k1m2]
  instanceTypes := #[]
  staticTypes := #[]
  resolved := Array.replicate 28 none
  statics := none }

def pool2 : Array CpInfo := pool [(1, .class_ 2), (0, u "com/example/skew/skew/Router"), (0, .class_ 4), (0, u "java/lang/Object")] 4

/-- com/example/skew/skew/Router -/
def k2 : Class := { plain "com/example/skew/skew/Router" (some 0) with
  accessFlags := 1537
  interfaces := #[]
  cf := some (fileOf pool2 1 #[] #[] 1537 3 #[] #[])
  fields := #[]
  methods := #[]
  instanceTypes := #[]
  staticTypes := #[]
  resolved := Array.replicate 9 none
  statics := none }

def pool3 : Array CpInfo := pool [(2, .class_ 4), (1, u "java/lang/Object"), (3, .class_ 10), (1, u "com/example/skew/skew/RoutingTable"), (0, u "workers"), (0, u "I"), (2, u "slotWorkers"), (0, u "[I"), (2, u "keyWorkers"), (0, u "Ljava/util/Map;"), (0, .class_ 22), (0, u "com/example/skew/skew/RoutingTable$Builder"), (3, .class_ 27), (0, u "com/example/skew/skew/RoutingTable$TableLines"), (226, .class_ 255), (0, u "com/example/skew/skew/Router"), (0, u "FORMAT"), (0, u "Ljava/lang/String;"), (3, u "VERSION"), (1, u "WORKERS"), (0, u "SLOTS"), (0, u "SLOT"), (0, u "KEY"), (0, u "TAB"), (0, u "B"), (21, u "canList"), (0, u "([B)Z")] 31

def k3c0 : Code := { maxStack := 3, maxLocals := 3, code := prog_24_method_7_code, exceptionTable := #[], attributes := #[] }
def k3m0 : Method := { name := "canList", desc := "([B)Z", sig := { parameters := [(.array .byte)], returnType := some .boolean }, accessFlags := 8, code := some k3c0 }
/-- com/example/skew/skew/RoutingTable -/
def k3 : Class := { plain "com/example/skew/skew/RoutingTable" (some 0) with
  accessFlags := 49
  interfaces := #[2]
  cf := some (fileOf pool3 8 #[.nestMembers #[26, 21]] #[{ accessFlags := 8, nameIndex := 290, descriptorIndex := 291, attributes := #[] }] 49 2 #[254] #[{ accessFlags := 26, nameIndex := 256, descriptorIndex := 257, attributes := #[] }, { accessFlags := 26, nameIndex := 261, descriptorIndex := 12, attributes := #[] }, { accessFlags := 26, nameIndex := 263, descriptorIndex := 257, attributes := #[] }, { accessFlags := 26, nameIndex := 264, descriptorIndex := 257, attributes := #[] }, { accessFlags := 26, nameIndex := 265, descriptorIndex := 257, attributes := #[] }, { accessFlags := 26, nameIndex := 266, descriptorIndex := 257, attributes := #[] }, { accessFlags := 26, nameIndex := 267, descriptorIndex := 268, attributes := #[] }, { accessFlags := 18, nameIndex := 11, descriptorIndex := 12, attributes := #[] }, { accessFlags := 18, nameIndex := 15, descriptorIndex := 16, attributes := #[] }, { accessFlags := 18, nameIndex := 19, descriptorIndex := 20, attributes := #[] }])
  fields := #[{ name := "FORMAT", type := (.object "java/lang/String"), accessFlags := 26, slot := 0, constantValue := 0 }, { name := "VERSION", type := .int, accessFlags := 26, slot := 1, constantValue := 0 }, { name := "WORKERS", type := (.object "java/lang/String"), accessFlags := 26, slot := 2, constantValue := 0 }, { name := "SLOTS", type := (.object "java/lang/String"), accessFlags := 26, slot := 3, constantValue := 0 }, { name := "SLOT", type := (.object "java/lang/String"), accessFlags := 26, slot := 4, constantValue := 0 }, { name := "KEY", type := (.object "java/lang/String"), accessFlags := 26, slot := 5, constantValue := 0 }, { name := "TAB", type := .byte, accessFlags := 26, slot := 6, constantValue := 0 }, { name := "workers", type := .int, accessFlags := 18, slot := 0, constantValue := 0 }, { name := "slotWorkers", type := (.array .int), accessFlags := 18, slot := 1, constantValue := 0 }, { name := "keyWorkers", type := (.object "java/util/Map"), accessFlags := 18, slot := 2, constantValue := 0 }]
  methods := #[k3m0]
  instanceTypes := #[.int, (.array .int), (.object "java/util/Map")]
  staticTypes := #[(.object "java/lang/String"), .int, (.object "java/lang/String"), (.object "java/lang/String"), (.object "java/lang/String"), (.object "java/lang/String"), .byte]
  resolved := Array.replicate 323 none
  statics := none }

def pool4 : Array CpInfo := pool [(1, u "java/lang/Cloneable"), (0, .class_ 1), (0, u "java/lang/Object"), (0, .class_ 3)] 3

/-- java/lang/Cloneable -/
def k4 : Class := { plain "java/lang/Cloneable" (some 0) with
  accessFlags := 1537
  interfaces := #[]
  cf := some (fileOf pool4 2 #[] #[] 1537 4 #[] #[])
  fields := #[]
  methods := #[]
  instanceTypes := #[]
  staticTypes := #[]
  resolved := Array.replicate 8 none
  statics := none }

def pool5 : Array CpInfo := pool [(1, u "java/io/Serializable"), (0, .class_ 1), (0, u "java/lang/Object"), (0, .class_ 3)] 3

/-- java/io/Serializable -/
def k5 : Class := { plain "java/io/Serializable" (some 0) with
  accessFlags := 1537
  interfaces := #[]
  cf := some (fileOf pool5 2 #[] #[] 1537 4 #[] #[])
  fields := #[]
  methods := #[]
  instanceTypes := #[]
  staticTypes := #[]
  resolved := Array.replicate 8 none
  statics := none }

/-- the primitive byte -/
def k6 : Class := { plain "byte" none with kind := .primitive 'B', accessFlags := 0x411 }
/-- [B -/
def k7 : Class := { plain "[B" (some 0) with kind := .array 6 .byte, interfaces := #[4, 5], accessFlags := 1041 }

/-- the primitive int -/
def k8 : Class := { plain "int" none with kind := .primitive 'I', accessFlags := 0x411 }
/-- [I -/
def k9 : Class := { plain "[I" (some 0) with kind := .array 8 .int, interfaces := #[4, 5], accessFlags := 1041 }

def heap : Heap := #[]
def classes : Array Class := #[k0, k1, k2, k3, k4, k5, k6, k7, k8, k9]
def interned : List (Array UInt16 × Addr) := []
def slotsUsed : Nat := 0
def theMethod : MethodId := ⟨1, 2⟩
def args0 : Array Value := #[.int 5, .int 7, .int 6, .int 2, .int 3]
def aboutOver (below : List Frame) : State where
  vm := { classes := classes, interned := interned.toArray }
  heap := heap
  slotsUsed := slotsUsed
  threads := #[{ frames := .invoking theMethod args0 :: below }]
def below0 : List Frame := [.native { method := ⟨0, 0⟩, args := #[] }]
def about1 : State := aboutOver below0
def p0 : Program := .bare "" "" ""
def e0 : Env := launch0.env 0 0 0
theorem w_frames : about1.frames = Frame.invoking theMethod args0 :: below0 := rfl
set_option maxRecDepth 65536 in
theorem w_args : argsFit about1.vm theMethod args0 = true := by decide +kernel
set_option maxRecDepth 65536 in
theorem w_heap : heapFits about1 = true := by decide +kernel
set_option maxRecDepth 65536 in
theorem w_runnable : about1.curStatus? = some .runnable := by decide +kernel
set_option maxRecDepth 65536 in
theorem w_alone : about1.alone = true := by decide +kernel
set_option maxRecDepth 65536 in
theorem w_named : about1.methodNamed? x = some theMethod := by decide +kernel
set_option maxRecDepth 65536 in
theorem w_hears : about1.hears theMethod below0 = true := by decide +kernel
set_option maxRecDepth 65536 in
theorem w_ripe : about1.ripe theMethod args0 below0 = true := by decide +kernel
theorem w_running : about1.status = .running := rfl
set_option maxRecDepth 65536 in
theorem w_room : about1.hasRoom e0.platform room_1 = true :=
  launch0.hasRoom_least _ room_1 (by decide +kernel) (by decide +kernel) (by decide +kernel) (by decide +kernel) (by decide +kernel) (by decide +kernel)
theorem allAtoms_all (ts : List Jvm.Cond) (a : Array Jvm.Value) (st : Jvm.State) : (allAtoms ts).before a st = ts.all (fun c => c.before a st) := by
  induction ts with
  | nil => rfl
  | cons c t ih =>
    show (Jvm.Cond.and c (allAtoms t)).before a st = _
    rw [Jvm.Cond.before_and, ih, List.all_cons]
def words1 : List Jvm.Cond := Jvm.Cond.code x code maxLocals ret :: tables_1
/-- a 'code' word, met by the world's own term for the bytes: nothing is compared byte by byte -/
theorem code_word {y : MethodName} {bytes : ByteArray} {mx : Nat} {rt : Option FieldType} {a : Array Value} {s : State} {m : MethodId} {meth : Method} {c : Code} (h1 : s.methodNamed? y = some m) (h2 : s.vm.method? m = some meth) (h3 : meth.code = some c) (h4 : c.code = bytes)
    (h5 : (c.maxLocals == mx && c.exceptionTable.isEmpty && decide (c.maxStack ≤ mostOperands) && decide (meth.sig.returnType = rt) && !meth.locks && decide (parseMethodDescriptor y.desc = some meth.sig)) = true) : (Jvm.Cond.code y bytes mx rt).before a s = true := by
  simp only [Bool.and_eq_true, beq_iff_eq, Bool.not_eq_true', decide_eq_true_eq] at h5
  obtain ⟨⟨⟨⟨⟨g1, g2⟩, g3⟩, g4⟩, g5⟩, g6⟩ := h5
  simp [Cond.before, Cond.holds, Cond.value, h1, h2, h3, h4, g1, g2, g3, g4, g5, g6]
def isCode : Jvm.Cond → Bool
  | .code _ _ _ _ => true
  | _ => false
theorem all_split {L : List Jvm.Cond} {P : Jvm.Cond → Bool} (h1 : L.all (fun c => isCode c || P c) = true) (h2 : ∀ c ∈ L.filter isCode, P c = true) : L.all P = true := by
  refine List.all_eq_true.mpr fun c hc => ?_
  have h := List.all_eq_true.mp h1 c hc
  rcases Bool.eq_false_or_eq_true (isCode c) with hi | hi
  · exact h2 c (List.mem_filter.mpr ⟨hc, hi⟩)
  · simpa [hi] using h
set_option maxRecDepth 65536 in
theorem w_c0 : (Jvm.Cond.code x code maxLocals ret).before args0 about1 = true := code_word (m := ⟨1, 2⟩) (meth := k1m2) (c := k1c2) (by decide +kernel) rfl rfl rfl (by decide +kernel)
set_option maxRecDepth 65536 in
theorem w_c1 : (Jvm.Cond.code ({ cls := "com/example/skew/skew/RoutingTableCanListPinLaw", name := "pick", desc := "(I)I" } : Jvm.MethodName) method_2_code (2 : Nat) (Option.some Jvm.ClassFile.FieldType.int)).before args0 about1 = true := code_word (m := ⟨1, 1⟩) (meth := k1m1) (c := k1c1) (by decide +kernel) rfl rfl rfl (by decide +kernel)
set_option maxRecDepth 65536 in
theorem w_c2 : (Jvm.Cond.code ({ cls := "com/example/skew/skew/RoutingTable", name := "canList", desc := "([B)Z" } : Jvm.MethodName) prog_24_method_7_code (3 : Nat) (Option.some Jvm.ClassFile.FieldType.boolean)).before args0 about1 = true := code_word (m := ⟨3, 0⟩) (meth := k3m0) (c := k3c0) (by decide +kernel) rfl rfl rfl (by decide +kernel)
def codes1 : List Jvm.Cond := [Jvm.Cond.code x code maxLocals ret, Jvm.Cond.code ({ cls := "com/example/skew/skew/RoutingTableCanListPinLaw", name := "pick", desc := "(I)I" } : Jvm.MethodName) method_2_code (2 : Nat) (Option.some Jvm.ClassFile.FieldType.int), Jvm.Cond.code ({ cls := "com/example/skew/skew/RoutingTable", name := "canList", desc := "([B)Z" } : Jvm.MethodName) prog_24_method_7_code (3 : Nat) (Option.some Jvm.ClassFile.FieldType.boolean)]
set_option maxRecDepth 65536 in
theorem codes_eq : words1.filter isCode = codes1 := rfl
theorem w_codes : ∀ c ∈ words1.filter isCode, c.before args0 about1 = true := by
  rw [codes_eq]
  intro c hc
  simp only [codes1, List.mem_cons, List.not_mem_nil, or_false] at hc
  rcases hc with rfl | rfl | rfl
  · exact w_c0
  · exact w_c1
  · exact w_c2
set_option maxRecDepth 65536 in
theorem w_t1 : words1.all (fun c => isCode c || c.before args0 about1) = true := by decide +kernel
theorem w_tables : (allAtoms (Jvm.Cond.code x code maxLocals ret :: tables_1)).before args0 about1 = true := by
  rw [allAtoms_all]
  show words1.all (fun c => c.before args0 about1) = true
  refine all_split ?_ w_codes
  rw [w_t1]
set_option maxRecDepth 65536 in
theorem w_case : (Jvm.Cond.and given_1 narrow_1).before args0 about1 = true := by decide +kernel
theorem w_applies : (headSpec (Jvm.Cond.code x code maxLocals ret :: tables_1) room_1).applies x e0.platform about1 = true :=
  (Spec.applies_iff w_frames).mpr ⟨w_running, w_runnable, w_alone, w_named, w_hears, w_ripe, w_room, w_tables⟩
theorem atStart : AtStart classFile x code maxLocals ret World_1 tables_1 room_1 Calls_1 rest_1 Pre_1 launch0 p0 e0 about1 theMethod args0 below0 :=
  ⟨lists_1, trivial, launch0.admits_env _ _ _, launch0.least_env, fairChoices_fair.cas, fairChoices_fair.clock, w_frames, w_args, w_heap, w_applies, trivial, trivial, w_case⟩
end start1
theorem witness_1 : WitnessClaimed_1 := ⟨start1.p0, start1.e0, start1.about1, start1.theMethod, start1.args0, start1.below0, start1.atStart⟩
end Jvm.Pilot.@@N@@
