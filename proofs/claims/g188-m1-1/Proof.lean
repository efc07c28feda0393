import JvmDerived
import JvmDerived.Pilot.@@N@@Statement
import JvmDerived.Pilot.@@N@@Code
set_option linter.unusedVariables false
set_option linter.unusedSimpArgs false
namespace Jvm.OwnGo
open Jvm Sem ClassFile Op Lib Jvm.Stand Jvm.Free Jvm.LawKit Jvm.RoadKit
/-! ## 1. plain values: a reference is a place in the list of the objects that the law has made -/
def sv (n0 : Nat) : Value → Value
  | .ref a => .ref (n0 + a)
  | .int x => .int x
  | .long x => .long x
  | .null => .null
  | .float x => .float x
  | .double x => .double x
  | .retAddr x => .retAddr x
def ss (n0 : Nat) : Slot → Slot
  | .val v => .val (sv n0 v)
  | .unset => .unset
  | .second => .second
abbrev Obj := (String × List (String × String × Value)) ⊕ (FieldType × List Value)
abbrev Hp := List Obj
abbrev Ctx := Launch × State × Array Value × Nat
abbrev Mt := MethodName × ByteArray × Nat × Option FieldType
abbrev Res := Option Value × Option Hp × Nat × Nat
abbrev LL (n0 : Nat) (ls : List Slot) : Array Slot := (ls.map (ss n0)).toArray
abbrev SS (n0 : Nat) (st : List Value) : List Value := st.map (sv n0)
theorem sv_cat (n0 : Nat) (v : Value) : (sv n0 v).category = v.category := by cases v <;> rfl
theorem sv_ref (n0 : Nat) (v : Value) : (sv n0 v).isRef = v.isRef := by cases v <;> rfl
theorem LL_get {n0 : Nat} {ls : List Slot} {k : Nat} {x : Slot} (h : ls[k]? = some x) : (LL n0 ls)[k]? = some (ss n0 x) := by simp [LL, h]
theorem LL_size (n0 : Nat) (ls : List Slot) : (LL n0 ls).size = ls.length := by simp [LL]
theorem cats (n0 : Nat) (st : List Value) : ((SS n0 st).map fun v => v.category).sum = (st.map fun v => v.category).sum := by
  induction st with
  | nil => rfl
  | cons v r ih => simp only [SS, List.map_cons, List.sum_cons, sv_cat] at ih ⊢; rw [ih]
/-! ## 2. what an object of the list is in the heap -/
def COk (Z : State) (a0 : Array Value) (n0 : Nat) (h : Heap) (a : Addr) : Obj → Prop
  | .inl o => Exa Z h a o.1 ∧ (o.2.map (fun f => f.1)).Nodup ∧ ∀ f ∈ o.2, Laid Z a0 o.1 o.1 f.1 f.2.1 ∧ (∃ ty, parseFieldDescriptor f.2.1 = some ty) ∧ Fld Z h a o.1 f.1 f.2.1 (sv n0 f.2.2)
  | .inr o => ∃ c : Cell, Arr Z h a c o.1 ∧ c.slots = (o.2.map (sv n0)).toArray
def Sim (K : Ctx) (h : Heap) (H : Hp) : Prop := h.size = K.2.2.2 + H.length ∧ ∀ (i : Nat) (o : Obj), H[i]? = some o → COk K.2.1 K.2.2.1 K.2.2.2 h (K.2.2.2 + i) o
theorem COk.ext {Z : State} {a0 : Array Value} {n0 : Nat} {h h' : Heap} {a : Addr} {o : Obj} (E : Ext h h') (C : COk Z a0 n0 h a o) : COk Z a0 n0 h' a o := by
  cases o with
  | inl o => exact ⟨C.1.ext E, C.2.1, fun f hf => ⟨(C.2.2 f hf).1, (C.2.2 f hf).2.1, (C.2.2 f hf).2.2.ext E⟩⟩
  | inr o => obtain ⟨c, A, q⟩ := C; exact ⟨c, A.ext E, q⟩
theorem COk.other {Z : State} {a0 : Array Value} {n0 : Nat} {h h' : Heap} {a b : Addr} {o : Obj} {sl : Nat} {v : Value} (W : Wr h h' b sl v) (ne : a ≠ b) (C : COk Z a0 n0 h a o) : COk Z a0 n0 h' a o := by
  cases o with
  | inl o => exact ⟨C.1.wr W, C.2.1, fun f hf => ⟨(C.2.2 f hf).1, (C.2.2 f hf).2.1, (C.2.2 f hf).2.2.other W (Or.inl ne)⟩⟩
  | inr o => obtain ⟨c, A, q⟩ := C; exact ⟨c, A.other W ne, q⟩
theorem Sim.push {K : Ctx} {h h' : Heap} {H : Hp} {o : Obj} (S : Sim K h H) (E : Ext h h') (hs : h'.size = h.size + 1) (C : COk K.2.1 K.2.2.1 K.2.2.2 h' (K.2.2.2 + H.length) o) : Sim K h' (H ++ [o]) := by
  refine ⟨by rw [hs, S.1, List.length_append]; rfl, fun i o' hi => ?_⟩
  by_cases q : i < H.length
  · rw [List.getElem?_append_left q] at hi
    exact (S.2 i o' hi).ext E
  · have hl := (List.getElem?_eq_some_iff.mp hi).1
    rw [List.length_append, List.length_singleton] at hl
    obtain rfl : i = H.length := by omega
    rw [List.getElem?_append_right (Nat.le_refl _), Nat.sub_self] at hi
    cases hi
    exact C
theorem Sim.set {K : Ctx} {h h' : Heap} {H : Hp} {o o' : Obj} {i sl : Nat} {v : Value} (S : Sim K h H) (W : Wr h h' (K.2.2.2 + i) sl v) (hi : H[i]? = some o) (C : COk K.2.1 K.2.2.1 K.2.2.2 h' (K.2.2.2 + i) o') : Sim K h' (H.set i o') := by
  refine ⟨by rw [W.size, S.1, List.length_set], fun j u hj => ?_⟩
  by_cases q : j = i
  · subst q
    rw [List.getElem?_set_self (List.getElem?_eq_some_iff.mp hi).1] at hj
    cases hj
    exact C
  · rw [List.getElem?_set_ne (Ne.symm q)] at hj
    exact (S.2 j u hj).other W (fun z => q (Nat.add_left_cancel z))
/-! ## 3. 'Go': from here the invocation comes to its end with r: the value, the objects, at the most so many cells and slots made -/
def FinH (K : Ctx) (h : Heap) (o : Option Hp) : Prop := ∀ H', o = some H' → Sim K h H'
def HOk (H : Hp) (o : Option Hp) : Prop := ∀ H', o = some H' → H = H'
theorem HOk.any {H : Hp} : HOk H none := fun _ h => nomatch h
theorem HOk.eq {H H' : Hp} (h : H = H') : HOk H (some H') := fun _ e => h.trans (Option.some.inj e)
theorem HOk.fin {K : Ctx} {h : Heap} {H : Hp} {o : Option Hp} (q : HOk H o) (S : Sim K h H) : FinH K h o := fun H' e => q H' e ▸ S
def Go (K : Ctx) (M : Mt) (F Lo : Nat) (pc : Nat) (ls : List Slot) (st : List Value) (H : Hp) (r : Res) : Prop :=
  ∀ (R : Room) (cells slots : Nat) (p : Program) (e : Env) (s : State) (m : MethodId) (args : Array Value) (below : List Frame) (meth : Method) (c : Code) (T : State) (locs : List Loc),
    F ≤ R.frames → Lo ≤ R.locals → cells + r.2.2.1 ≤ R.cells → slots + r.2.2.2 ≤ R.slots → p.tables.exec = Jvm.exec → K.2.1.Warmed39 s.vm → c.code = M.2.1 → c.maxLocals = M.2.2.1 → meth.sig.returnType = M.2.2.2 → meth.locks = false → s.vm.findClass M.1.cls = some m.cls → meth.name = M.1.name →
    Stand p K.1 e R s m args below meth c T locs cells slots → Sim K T.heap H → Fr K.2.2.2 locs →
    ∃ (s₂ : State) (L : List Loc), Steps p.tables e below (T.setTop (mkF m pc (LL K.2.2.2 ls) (SS K.2.2.2 st))) s₂ ∧ s₂.status = .running ∧ Ended s₂ below (.returned (r.1.map (sv K.2.2.2))) ∧ FinH K s₂.heap r.2.1 ∧ Fr K.2.2.2 L ∧ FrameEnd s (.returned (r.1.map (sv K.2.2.2))) s₂ L (cells + r.2.2.1) (slots + r.2.2.2)
def Dec (M : Mt) (pc : Nat) (i : Instr) (n pc' : Nat) : Prop := decode M.2.1 pc = .ok (i, n) ∧ pc + n = pc'
def Jmp (pc : Nat) (o : Int) (pc' : Nat) : Prop := 0 ≤ (pc : Int) + o ∧ ((pc : Int) + o).toNat = pc'
instance (M : Mt) (pc : Nat) (i : Instr) (n pc' : Nat) : Decidable (Dec M pc i n pc') := inferInstanceAs (Decidable (_ ∧ _))
instance (pc : Nat) (o : Int) (pc' : Nat) : Decidable (Jmp pc o pc') := inferInstanceAs (Decidable (_ ∧ _))
section G
variable {K : Ctx} {M : Mt} {F Lo pc pc' pt : Nat} {ls ls' : List Slot} {st st' : List Value} {H : Hp} {r : Res}
theorem Go.mono {F' Lo' : Nat} {rv : Option Value} {H' : Option Hp} {dc ds dc' ds' : Nat} (h : Go K M F Lo pc ls st H (rv, H', dc, ds)) (h1 : F ≤ F') (h2 : Lo ≤ Lo') (h3 : dc ≤ dc') (h4 : ds ≤ ds') : Go K M F' Lo' pc ls st H (rv, H', dc', ds') := by
  intro R cells slots p e s m args below meth c T locs a1 a2 a3 a4 b1 b2 b3 b4 b5 b6 b7 b8 X S N
  obtain ⟨s₂, L, q1, q2, q3, q4, q5, q6⟩ := h R cells slots p e s m args below meth c T locs (Nat.le_trans h1 a1) (Nat.le_trans h2 a2) (Nat.le_trans (Nat.add_le_add_left h3 _) a3) (Nat.le_trans (Nat.add_le_add_left h4 _) a4) b1 b2 b3 b4 b5 b6 b7 b8 X S N
  exact ⟨s₂, L, q1, q2, q3, q4, q5, q6.1, q6.2.1, q6.2.2.mono (Nat.add_le_add_left h3 _) (Nat.add_le_add_left h4 _)⟩
theorem Go.cast {r' : Res} (h : Go K M F Lo pc ls st H r) (e : r = r') : Go K M F Lo pc ls st H r' := e ▸ h
theorem Go.pureS (hs : ∀ {p : Program} {e : Env} {below : List Frame} {T target : State} {m : MethodId} {c : Code}, At T m c below → p.tables.exec = Jvm.exec → c.code = M.2.1 → Steps p.tables e below (T.setTop (mkF m pc' (LL K.2.2.2 ls') (SS K.2.2.2 st'))) target → Steps p.tables e below (T.setTop (mkF m pc (LL K.2.2.2 ls) (SS K.2.2.2 st))) target)
    (h : Go K M F Lo pc' ls' st' H r) : Go K M F Lo pc ls st H r := by
  intro R cells slots p e s m args below meth c T locs a1 a2 a3 a4 b1 b2 b3 b4 b5 b6 b7 b8 X S N
  obtain ⟨s₂, L, q1, q⟩ := h R cells slots p e s m args below meth c T locs a1 a2 a3 a4 b1 b2 b3 b4 b5 b6 b7 b8 X S N
  exact ⟨s₂, L, hs X.here b1 b3 q1, q⟩
theorem Dec.at {M : Mt} {pc n pc' : Nat} {i : Instr} (d : Dec M pc i n pc') {c : Code} (hc : c.code = M.2.1) : decode c.code pc = .ok (i, n) := hc ▸ d.1
/-! ## 4. one law a plain instruction -/
theorem rem_mod (x y : Int32) : x - (x / y) * y = x % y := irem_eq_mod x y
def setM (n0 : Nat) (A : Array Slot) : Array Slot := A.map (ss n0)
theorem setAt_map (n0 : Nat) (A : Array Slot) (i : Nat) (x : Slot) : setAt (setM n0 A) i (ss n0 x) = (setAt A i x).map (setM n0) := by
  simp only [setAt, setM, Array.size_map]
  split
  · show some ((A.map (ss n0)).setIfInBounds i (ss n0 x)) = some ((A.setIfInBounds i x).map (ss n0))
    rw [Array.map_setIfInBounds]
  · rfl
theorem setM_get (n0 : Nat) (A : Array Slot) (i : Nat) : (setM n0 A)[i]? = (A[i]?).map (ss n0) := by simp [setM]
theorem storeSelf_map (n0 : Nat) (A : Array Slot) (i : Nat) (v : Value) : storeSelf (setM n0 A) i (sv n0 v) = (storeSelf A i v).map (setM n0) := by
  have e0 : setAt (setM n0 A) i (.val (sv n0 v)) = (setAt A i (.val v)).map (setM n0) := setAt_map n0 A i (.val v)
  have eu : ∀ B j, setAt (setM n0 B) j .unset = (setAt B j .unset).map (setM n0) := fun B j => setAt_map n0 B j .unset
  have es : ∀ B j, setAt (setM n0 B) j .second = (setAt B j .second).map (setM n0) := fun B j => setAt_map n0 B j .second
  simp only [storeSelf, e0, sv_cat]
  cases setAt A i (.val v) with
  | none => rfl
  | some B =>
    simp only [Option.map_some, Option.bind_eq_bind, Option.bind_some, setM_get]
    split
    · cases B[i + 1]? with
      | none => rfl
      | some x =>
        cases x with
        | unset => simp only [Option.map_some, Option.bind_some, ss, es]
        | second => simp only [Option.map_some, Option.bind_some, ss, es]
        | val w =>
          simp only [Option.map_some, Option.bind_some, ss, sv_cat]
          split
          · rw [eu]
            cases setAt B (i + 2) .unset with
            | none => rfl
            | some D => simp only [Option.map_some, Option.bind_some, es]
          · rw [es]
    · rfl
theorem storeLocals_map (n0 : Nat) (A : Array Slot) (i : Nat) (v : Value) : storeLocals (setM n0 A) i (sv n0 v) = (storeLocals A i v).map (setM n0) := by
  have eu : ∀ B j, setAt (setM n0 B) j .unset = (setAt B j .unset).map (setM n0) := fun B j => setAt_map n0 B j .unset
  simp only [storeLocals, setM_get, Option.bind_eq_bind]
  cases A[i]? with
  | none => rfl
  | some x =>
    cases x with
    | unset => simp only [Option.map_some, Option.bind_some, ss, storeSelf_map]
    | second =>
      simp only [Option.map_some, Option.bind_some, ss, eu]
      cases setAt A (i - 1) .unset with
      | none => rfl
      | some D => simp only [Option.map_some, Option.bind_some, storeSelf_map]
    | val w =>
      simp only [Option.map_some, Option.bind_some, ss, sv_cat]
      split
      · rw [eu]
        cases setAt A (i + 1) .unset with
        | none => rfl
        | some D => simp only [Option.map_some, Option.bind_some, storeSelf_map]
      · rw [storeSelf_map]
def stl (ls : List Slot) (k : Nat) (v : Value) : Option (List Slot) := (storeLocals ls.toArray k v).map Array.toList
theorem stl_ok {n0 : Nat} {ls ls' : List Slot} {k : Nat} {v : Value} (h : stl ls k v = some ls') : storeLocals (LL n0 ls) k (sv n0 v) = some (LL n0 ls') := by
  have e : LL n0 ls = setM n0 ls.toArray := by simp [LL, setM]
  rw [e, storeLocals_map]
  simp only [stl] at h
  cases hq : storeLocals ls.toArray k v with
  | none => rw [hq] at h; cases h
  | some B =>
    rw [hq] at h
    cases h
    show some (setM n0 B) = some (LL n0 B.toList)
    congr 1
    apply Array.toList_inj.mp
    simp [LL, setM]
theorem Go.iloadN {k : Fin 4} {v : Int32} (hd : Dec M pc (.iload_n k) 1 pc') (hl : ls[k.val]? = some (.val (.int v))) (h : Go K M F Lo pc' ls (.int v :: st) H r) : Go K M F Lo pc ls st H r := by
  obtain ⟨hd, rfl⟩ := hd
  exact h.pureS fun A hx hc k => XS.iloadN A hx rfl (hc ▸ hd) (LL_get hl) k
theorem Go.iload {k : Nat} {v : Int32} (hd : Dec M pc (.iload k) 2 pc') (hl : ls[k]? = some (.val (.int v))) (h : Go K M F Lo pc' ls (.int v :: st) H r) : Go K M F Lo pc ls st H r := by
  obtain ⟨hd, rfl⟩ := hd
  exact h.pureS fun A hx hc k => XS.iload A hx rfl (hc ▸ hd) (LL_get hl) k
theorem Go.istoreN {k : Fin 4} {v : Int32} (hd : Dec M pc (.istore_n k) 1 pc') (hl : stl ls k.val (.int v) = some ls') (h : Go K M F Lo pc' ls' st H r) : Go K M F Lo pc ls (.int v :: st) H r := by
  obtain ⟨hd, rfl⟩ := hd
  exact h.pureS fun A hx hc k => XS.istoreN A hx rfl (hc ▸ hd) rfl (stl_ok (n0 := K.2.2.2) hl) k
theorem Go.istore {k : Nat} {v : Int32} (hd : Dec M pc (.istore k) 2 pc') (hl : stl ls k (.int v) = some ls') (h : Go K M F Lo pc' ls' st H r) : Go K M F Lo pc ls (.int v :: st) H r := by
  obtain ⟨hd, rfl⟩ := hd
  exact h.pureS fun A hx hc k => XS.istore A hx rfl (hc ▸ hd) rfl (stl_ok (n0 := K.2.2.2) hl) k
theorem Go.lloadN {k : Fin 4} {v : Int64} (hd : Dec M pc (.lload_n k) 1 pc') (hl : ls[k.val]? = some (.val (.long v))) (h : Go K M F Lo pc' ls (.long v :: st) H r) : Go K M F Lo pc ls st H r := by
  obtain ⟨hd, rfl⟩ := hd
  exact h.pureS fun A hx hc k => XT.lloadN A hx rfl (hc ▸ hd) (LL_get hl) k
theorem Go.lload {k : Nat} {v : Int64} (hd : Dec M pc (.lload k) 2 pc') (hl : ls[k]? = some (.val (.long v))) (h : Go K M F Lo pc' ls (.long v :: st) H r) : Go K M F Lo pc ls st H r := by
  obtain ⟨hd, rfl⟩ := hd
  exact h.pureS fun A hx hc k => XT.lload A hx rfl (hc ▸ hd) (LL_get hl) k
theorem Go.lstoreN {k : Fin 4} {v : Int64} (hd : Dec M pc (.lstore_n k) 1 pc') (hl : stl ls k.val (.long v) = some ls') (h : Go K M F Lo pc' ls' st H r) : Go K M F Lo pc ls (.long v :: st) H r := by
  obtain ⟨hd, rfl⟩ := hd
  exact h.pureS fun A hx hc k => XT.lstoreN A hx rfl (hc ▸ hd) rfl (stl_ok (n0 := K.2.2.2) hl) k
theorem Go.lstore {k : Nat} {v : Int64} (hd : Dec M pc (.lstore k) 2 pc') (hl : stl ls k (.long v) = some ls') (h : Go K M F Lo pc' ls' st H r) : Go K M F Lo pc ls (.long v :: st) H r := by
  obtain ⟨hd, rfl⟩ := hd
  exact h.pureS fun A hx hc k => XT.lstore A hx rfl (hc ▸ hd) rfl (stl_ok (n0 := K.2.2.2) hl) k
theorem Go.aloadN {k : Fin 4} {v : Value} (hd : Dec M pc (.aload_n k) 1 pc') (hl : ls[k.val]? = some (.val v)) (hv : v.isRef = true) (h : Go K M F Lo pc' ls (v :: st) H r) : Go K M F Lo pc ls st H r := by
  obtain ⟨hd, rfl⟩ := hd
  exact h.pureS fun A hx hc k => XS.aloadN A hx rfl (hc ▸ hd) (LL_get hl) (by rw [sv_ref]; exact hv) k
theorem Go.aload {k : Nat} {v : Value} (hd : Dec M pc (.aload k) 2 pc') (hl : ls[k]? = some (.val v)) (hv : v.isRef = true) (h : Go K M F Lo pc' ls (v :: st) H r) : Go K M F Lo pc ls st H r := by
  obtain ⟨hd, rfl⟩ := hd
  exact h.pureS fun A hx hc k => XS.aload A hx rfl (hc ▸ hd) (LL_get hl) (by rw [sv_ref]; exact hv) k
theorem Go.astoreN {k : Fin 4} {v : Value} (hd : Dec M pc (.astore_n k) 1 pc') (hl : stl ls k.val v = some ls') (hv : v.isRef = true) (h : Go K M F Lo pc' ls' st H r) : Go K M F Lo pc ls (v :: st) H r := by
  obtain ⟨hd, rfl⟩ := hd
  exact h.pureS fun A hx hc k => XS.astoreN A hx rfl (hc ▸ hd) rfl (by rw [sv_ref]; exact hv) (stl_ok (n0 := K.2.2.2) hl) k
theorem Go.astore {k : Nat} {v : Value} (hd : Dec M pc (.astore k) 2 pc') (hl : stl ls k v = some ls') (hv : v.isRef = true) (h : Go K M F Lo pc' ls' st H r) : Go K M F Lo pc ls (v :: st) H r := by
  obtain ⟨hd, rfl⟩ := hd
  exact h.pureS fun A hx hc k => XS.astore A hx rfl (hc ▸ hd) rfl (by rw [sv_ref]; exact hv) (stl_ok (n0 := K.2.2.2) hl) k
theorem Go.iconst {i : Int} {v : Int32} (hd : Dec M pc (.iconst i) 1 pc') (hv : Int32.ofInt i = v) (h : Go K M F Lo pc' ls (.int v :: st) H r) : Go K M F Lo pc ls st H r := by
  obtain ⟨hd, rfl⟩ := hd
  exact h.pureS fun A hx hc k => XT.iconstV A hx rfl v (hc ▸ hd) hv k
theorem Go.bipush {i : Int} {v : Int32} (hd : Dec M pc (.bipush i) 2 pc') (hv : (Int8.ofInt i).toInt32 = v) (h : Go K M F Lo pc' ls (.int v :: st) H r) : Go K M F Lo pc ls st H r := by
  obtain ⟨hd, rfl⟩ := hd
  exact h.pureS fun A hx hc k => XT.bipushV A hx rfl v (hc ▸ hd) hv k
theorem Go.sipush {i : Int} {v : Int32} (hd : Dec M pc (.sipush i) 3 pc') (hv : (Int16.ofInt i).toInt32 = v) (h : Go K M F Lo pc' ls (.int v :: st) H r) : Go K M F Lo pc ls st H r := by
  obtain ⟨hd, rfl⟩ := hd
  exact h.pureS fun A hx hc k => XT.sipushV A hx rfl v (hc ▸ hd) hv k
theorem Go.lconst {i : Fin 2} {v : Int64} (hd : Dec M pc (.lconst i) 1 pc') (hv : Int64.ofNat i = v) (h : Go K M F Lo pc' ls (.long v :: st) H r) : Go K M F Lo pc ls st H r := by
  obtain ⟨hd, rfl⟩ := hd
  exact h.pureS fun A hx hc k => XT.lconstV A hx rfl v (hc ▸ hd) hv k
theorem Go.aconstNull  (hd : Dec M pc .aconst_null 1 pc') (h : Go K M F Lo pc' ls (.null :: st) H r) : Go K M F Lo pc ls st H r := by
  obtain ⟨hd, rfl⟩ := hd
  exact h.pureS fun A hx hc k => XS.aconstNull A hx rfl (hc ▸ hd) k
theorem Go.iadd {x y : Int32} (hd : Dec M pc .iadd 1 pc') (h : Go K M F Lo pc' ls (.int (x + y) :: st) H r) : Go K M F Lo pc ls (.int y :: .int x :: st) H r := by
  obtain ⟨hd, rfl⟩ := hd
  exact h.pureS fun A hx hc k => XS.iadd A hx rfl (hc ▸ hd) rfl k
theorem Go.isub {x y : Int32} (hd : Dec M pc .isub 1 pc') (h : Go K M F Lo pc' ls (.int (x - y) :: st) H r) : Go K M F Lo pc ls (.int y :: .int x :: st) H r := by
  obtain ⟨hd, rfl⟩ := hd
  exact h.pureS fun A hx hc k => XS.isub A hx rfl (hc ▸ hd) rfl k
theorem Go.imul {x y : Int32} (hd : Dec M pc .imul 1 pc') (h : Go K M F Lo pc' ls (.int (x * y) :: st) H r) : Go K M F Lo pc ls (.int y :: .int x :: st) H r := by
  obtain ⟨hd, rfl⟩ := hd
  exact h.pureS fun A hx hc k => XS.imul A hx rfl (hc ▸ hd) rfl k
theorem Go.iand {x y : Int32} (hd : Dec M pc .iand 1 pc') (h : Go K M F Lo pc' ls (.int (x &&& y) :: st) H r) : Go K M F Lo pc ls (.int y :: .int x :: st) H r := by
  obtain ⟨hd, rfl⟩ := hd
  exact h.pureS fun A hx hc k => XS.iand A hx rfl (hc ▸ hd) rfl k
theorem Go.ior {x y : Int32} (hd : Dec M pc .ior 1 pc') (h : Go K M F Lo pc' ls (.int (x ||| y) :: st) H r) : Go K M F Lo pc ls (.int y :: .int x :: st) H r := by
  obtain ⟨hd, rfl⟩ := hd
  exact h.pureS fun A hx hc k => XT.ior A hx rfl (hc ▸ hd) rfl k
theorem Go.ixor {x y : Int32} (hd : Dec M pc .ixor 1 pc') (h : Go K M F Lo pc' ls (.int (x ^^^ y) :: st) H r) : Go K M F Lo pc ls (.int y :: .int x :: st) H r := by
  obtain ⟨hd, rfl⟩ := hd
  exact h.pureS fun A hx hc k => XT.ixor A hx rfl (hc ▸ hd) rfl k
theorem Go.ishl {x y : Int32} (hd : Dec M pc .ishl 1 pc') (h : Go K M F Lo pc' ls (.int (x <<< (y &&& 31)) :: st) H r) : Go K M F Lo pc ls (.int y :: .int x :: st) H r := by
  obtain ⟨hd, rfl⟩ := hd
  exact h.pureS fun A hx hc k => XT.ishl A hx rfl (hc ▸ hd) rfl k
theorem Go.ishr {x y : Int32} (hd : Dec M pc .ishr 1 pc') (h : Go K M F Lo pc' ls (.int (x >>> (y &&& 31)) :: st) H r) : Go K M F Lo pc ls (.int y :: .int x :: st) H r := by
  obtain ⟨hd, rfl⟩ := hd
  exact h.pureS fun A hx hc k => XT.ishr A hx rfl (hc ▸ hd) rfl k
theorem Go.iushr {x y : Int32} (hd : Dec M pc .iushr 1 pc') (h : Go K M F Lo pc' ls (.int (XT.ushr x y) :: st) H r) : Go K M F Lo pc ls (.int y :: .int x :: st) H r := by
  obtain ⟨hd, rfl⟩ := hd
  exact h.pureS fun A hx hc k => XT.iushr A hx rfl (hc ▸ hd) rfl k
theorem Go.irem {x y : Int32} (hd : Dec M pc .irem 1 pc') (hy : y ≠ 0) (h : Go K M F Lo pc' ls (.int (x % y) :: st) H r) : Go K M F Lo pc ls (.int y :: .int x :: st) H r := by
  obtain ⟨hd, rfl⟩ := hd
  exact h.pureS fun A hx hc k => XS.irem A hx rfl (hc ▸ hd) rfl hy (by rw [rem_mod]; exact k)
theorem Go.idiv {x y : Int32} (hd : Dec M pc .idiv 1 pc') (hy : y ≠ 0) (h : Go K M F Lo pc' ls (.int (x / y) :: st) H r) : Go K M F Lo pc ls (.int y :: .int x :: st) H r := by
  obtain ⟨hd, rfl⟩ := hd
  exact h.pureS fun A hx hc k => XS.idiv A hx rfl (hc ▸ hd) rfl hy k
theorem Go.ineg {x : Int32} (hd : Dec M pc .ineg 1 pc') (h : Go K M F Lo pc' ls (.int (-x) :: st) H r) : Go K M F Lo pc ls (.int x :: st) H r := by
  obtain ⟨hd, rfl⟩ := hd
  exact h.pureS fun A hx hc k => XS.ineg A hx rfl (hc ▸ hd) rfl k
theorem Go.iinc {i : Nat} {cst : Int} {v x : Int32} (hd : Dec M pc (.iinc i cst) 3 pc') (hv : Int32.ofInt cst = v) (hl : ls[i]? = some (.val (.int x))) (hl' : stl ls i (.int (x + v)) = some ls') (h : Go K M F Lo pc' ls' st H r) : Go K M F Lo pc ls st H r := by
  obtain ⟨hd, rfl⟩ := hd
  exact h.pureS fun A hx hc k => XT.iincV A hx rfl v (hc ▸ hd) hv (LL_get hl) (stl_ok (n0 := K.2.2.2) hl') k
theorem Go.ladd {x y : Int64} (hd : Dec M pc .ladd 1 pc') (h : Go K M F Lo pc' ls (.long (x + y) :: st) H r) : Go K M F Lo pc ls (.long y :: .long x :: st) H r := by
  obtain ⟨hd, rfl⟩ := hd
  exact h.pureS fun A hx hc k => XT.ladd A hx rfl (hc ▸ hd) rfl k
theorem Go.lsub {x y : Int64} (hd : Dec M pc .lsub 1 pc') (h : Go K M F Lo pc' ls (.long (x - y) :: st) H r) : Go K M F Lo pc ls (.long y :: .long x :: st) H r := by
  obtain ⟨hd, rfl⟩ := hd
  exact h.pureS fun A hx hc k => XT.lsub A hx rfl (hc ▸ hd) rfl k
theorem Go.lmul {x y : Int64} (hd : Dec M pc .lmul 1 pc') (h : Go K M F Lo pc' ls (.long (x * y) :: st) H r) : Go K M F Lo pc ls (.long y :: .long x :: st) H r := by
  obtain ⟨hd, rfl⟩ := hd
  exact h.pureS fun A hx hc k => XT.lmul A hx rfl (hc ▸ hd) rfl k
theorem Go.land {x y : Int64} (hd : Dec M pc .land 1 pc') (h : Go K M F Lo pc' ls (.long (x &&& y) :: st) H r) : Go K M F Lo pc ls (.long y :: .long x :: st) H r := by
  obtain ⟨hd, rfl⟩ := hd
  exact h.pureS fun A hx hc k => XT.land A hx rfl (hc ▸ hd) rfl k
theorem Go.lor {x y : Int64} (hd : Dec M pc .lor 1 pc') (h : Go K M F Lo pc' ls (.long (x ||| y) :: st) H r) : Go K M F Lo pc ls (.long y :: .long x :: st) H r := by
  obtain ⟨hd, rfl⟩ := hd
  exact h.pureS fun A hx hc k => XT.lor A hx rfl (hc ▸ hd) rfl k
theorem Go.lxor {x y : Int64} (hd : Dec M pc .lxor 1 pc') (h : Go K M F Lo pc' ls (.long (x ^^^ y) :: st) H r) : Go K M F Lo pc ls (.long y :: .long x :: st) H r := by
  obtain ⟨hd, rfl⟩ := hd
  exact h.pureS fun A hx hc k => XT.lxor A hx rfl (hc ▸ hd) rfl k
theorem Go.lshl {x : Int64} {y : Int32} (hd : Dec M pc .lshl 1 pc') (h : Go K M F Lo pc' ls (.long (x <<< (y.toInt64 &&& 63)) :: st) H r) : Go K M F Lo pc ls (.int y :: .long x :: st) H r := by
  obtain ⟨hd, rfl⟩ := hd
  exact h.pureS fun A hx hc k => XT.lshl A hx rfl (hc ▸ hd) rfl k
theorem Go.lshr {x : Int64} {y : Int32} (hd : Dec M pc .lshr 1 pc') (h : Go K M F Lo pc' ls (.long (x >>> (y.toInt64 &&& 63)) :: st) H r) : Go K M F Lo pc ls (.int y :: .long x :: st) H r := by
  obtain ⟨hd, rfl⟩ := hd
  exact h.pureS fun A hx hc k => XT.lshr A hx rfl (hc ▸ hd) rfl k
theorem Go.lushr {x : Int64} {y : Int32} (hd : Dec M pc .lushr 1 pc') (h : Go K M F Lo pc' ls (.long (XT.ushrL x y) :: st) H r) : Go K M F Lo pc ls (.int y :: .long x :: st) H r := by
  obtain ⟨hd, rfl⟩ := hd
  exact h.pureS fun A hx hc k => XT.lushr A hx rfl (hc ▸ hd) rfl k
theorem Go.lrem {x y : Int64} (hd : Dec M pc .lrem 1 pc') (hy : y ≠ 0) (h : Go K M F Lo pc' ls (.long (x % y) :: st) H r) : Go K M F Lo pc ls (.long y :: .long x :: st) H r := by
  obtain ⟨hd, rfl⟩ := hd
  exact h.pureS fun A hx hc k => XT.lrem A hx rfl (hc ▸ hd) rfl hy (by rw [lrem_mod]; exact k)
theorem Go.ldiv {x y : Int64} (hd : Dec M pc .ldiv 1 pc') (hy : y ≠ 0) (h : Go K M F Lo pc' ls (.long (x / y) :: st) H r) : Go K M F Lo pc ls (.long y :: .long x :: st) H r := by
  obtain ⟨hd, rfl⟩ := hd
  exact h.pureS fun A hx hc k => XT.ldiv A hx rfl (hc ▸ hd) rfl hy k
theorem Go.lneg {x : Int64} (hd : Dec M pc .lneg 1 pc') (h : Go K M F Lo pc' ls (.long (-x) :: st) H r) : Go K M F Lo pc ls (.long x :: st) H r := by
  obtain ⟨hd, rfl⟩ := hd
  exact h.pureS fun A hx hc k => XT.lneg A hx rfl (hc ▸ hd) rfl k
theorem Go.lcmp {x y : Int64} (hd : Dec M pc .lcmp 1 pc') (h : Go K M F Lo pc' ls (.int (XT.cmpL x y) :: st) H r) : Go K M F Lo pc ls (.long y :: .long x :: st) H r := by
  obtain ⟨hd, rfl⟩ := hd
  exact h.pureS fun A hx hc k => XT.lcmp A hx rfl (hc ▸ hd) rfl k
theorem Go.i2l {x : Int32} (hd : Dec M pc .i2l 1 pc') (h : Go K M F Lo pc' ls (.long x.toInt64 :: st) H r) : Go K M F Lo pc ls (.int x :: st) H r := by
  obtain ⟨hd, rfl⟩ := hd
  exact h.pureS fun A hx hc k => XT.i2l A hx rfl (hc ▸ hd) rfl k
theorem Go.l2i {x : Int64} (hd : Dec M pc .l2i 1 pc') (h : Go K M F Lo pc' ls (.int x.toInt32 :: st) H r) : Go K M F Lo pc ls (.long x :: st) H r := by
  obtain ⟨hd, rfl⟩ := hd
  exact h.pureS fun A hx hc k => XT.l2i A hx rfl (hc ▸ hd) rfl k
theorem Go.i2b {x : Int32} (hd : Dec M pc .i2b 1 pc') (h : Go K M F Lo pc' ls (.int x.toInt8.toInt32 :: st) H r) : Go K M F Lo pc ls (.int x :: st) H r := by
  obtain ⟨hd, rfl⟩ := hd
  exact h.pureS fun A hx hc k => XT.i2b A hx rfl (hc ▸ hd) rfl k
theorem Go.i2c {x : Int32} (hd : Dec M pc .i2c 1 pc') (h : Go K M F Lo pc' ls (.int x.toUInt32.toUInt16.toUInt32.toInt32 :: st) H r) : Go K M F Lo pc ls (.int x :: st) H r := by
  obtain ⟨hd, rfl⟩ := hd
  exact h.pureS fun A hx hc k => XT.i2c A hx rfl (hc ▸ hd) rfl k
theorem Go.i2s {x : Int32} (hd : Dec M pc .i2s 1 pc') (h : Go K M F Lo pc' ls (.int x.toInt16.toInt32 :: st) H r) : Go K M F Lo pc ls (.int x :: st) H r := by
  obtain ⟨hd, rfl⟩ := hd
  exact h.pureS fun A hx hc k => XT.i2s A hx rfl (hc ▸ hd) rfl k
theorem Go.pop {x : Value} (hd : Dec M pc .pop 1 pc') (hx1 : x.category = 1) (h : Go K M F Lo pc' ls st H r) : Go K M F Lo pc ls (x :: st) H r := by
  obtain ⟨hd, rfl⟩ := hd
  exact h.pureS fun A hx hc k => XT.pop A hx rfl (hc ▸ hd) rfl (by rw [sv_cat]; exact hx1) k
theorem Go.dup {x : Value} (hd : Dec M pc .dup 1 pc') (hx1 : x.category = 1) (h : Go K M F Lo pc' ls (x :: x :: st) H r) : Go K M F Lo pc ls (x :: st) H r := by
  obtain ⟨hd, rfl⟩ := hd
  exact h.pureS fun A hx hc k => XS.dup A hx rfl (hc ▸ hd) rfl (by rw [sv_cat]; exact hx1) k
theorem Go.dupX1 {x y : Value} (hd : Dec M pc .dup_x1 1 pc') (hx1 : x.category = 1) (hy1 : y.category = 1) (h : Go K M F Lo pc' ls (x :: y :: x :: st) H r) : Go K M F Lo pc ls (x :: y :: st) H r := by
  obtain ⟨hd, rfl⟩ := hd
  exact h.pureS fun A hx hc k => XT.dupX1 A hx rfl (hc ▸ hd) rfl (by rw [sv_cat]; exact hx1) (by rw [sv_cat]; exact hy1) k
theorem Go.dup2 {x y : Value} (hd : Dec M pc .dup2 1 pc') (hx1 : x.category = 1) (hy1 : y.category = 1) (h : Go K M F Lo pc' ls (x :: y :: x :: y :: st) H r) : Go K M F Lo pc ls (x :: y :: st) H r := by
  obtain ⟨hd, rfl⟩ := hd
  exact h.pureS fun A hx hc k => XT.dup2 A hx rfl (hc ▸ hd) rfl (by rw [sv_cat]; exact hx1) (by rw [sv_cat]; exact hy1) k
theorem Go.dup2L {x : Int64} (hd : Dec M pc .dup2 1 pc') (h : Go K M F Lo pc' ls (.long x :: .long x :: st) H r) : Go K M F Lo pc ls (.long x :: st) H r := by
  obtain ⟨hd, rfl⟩ := hd
  exact h.pureS fun A hx hc k => XT.dup2L A hx rfl (hc ▸ hd) rfl k
theorem Go.goto {o : Int} (hd : Dec M pc (.goto o) 3 pc') (hj : Jmp pc o pt) (h : Go K M F Lo pt ls st H r) : Go K M F Lo pc ls st H r :=
  h.pureS fun A hx hc k => XS.goto A hx rfl rfl (hd.at hc) hj.1 hj.2 k
theorem Go.icmpT {cd : ClassFile.Cond} {x y : Int32} {o : Int} (hd : Dec M pc (.if_icmp cd o) 3 pc') (hj : Jmp pc o pt) (hv : if_icmp.holds cd x y = true) (h : Go K M F Lo pt ls st H r) : Go K M F Lo pc ls (.int y :: .int x :: st) H r :=
  h.pureS fun A hx hc k => XS.icmpYes A hx rfl rfl (hd.at hc) rfl hv hj.1 hj.2 k
theorem Go.icmpF {cd : ClassFile.Cond} {x y : Int32} {o : Int} (hd : Dec M pc (.if_icmp cd o) 3 pc') (hv : if_icmp.holds cd x y = false) (h : Go K M F Lo pc' ls st H r) : Go K M F Lo pc ls (.int y :: .int x :: st) H r := by
  obtain ⟨hd, rfl⟩ := hd
  exact h.pureS fun A hx hc k => XS.icmpNo A hx rfl (hc ▸ hd) rfl hv k
theorem Go.ifT {cd : ClassFile.Cond} {x : Int32} {o : Int} (hd : Dec M pc (.ifCond cd o) 3 pc') (hj : Jmp pc o pt) (hv : ifCond.holds cd x = true) (h : Go K M F Lo pt ls st H r) : Go K M F Lo pc ls (.int x :: st) H r :=
  h.pureS fun A hx hc k => XS.ifYes A hx rfl rfl (hd.at hc) rfl hv hj.1 hj.2 k
theorem Go.ifF {cd : ClassFile.Cond} {x : Int32} {o : Int} (hd : Dec M pc (.ifCond cd o) 3 pc') (hv : ifCond.holds cd x = false) (h : Go K M F Lo pc' ls st H r) : Go K M F Lo pc ls (.int x :: st) H r := by
  obtain ⟨hd, rfl⟩ := hd
  exact h.pureS fun A hx hc k => XS.ifNo A hx rfl (hc ▸ hd) rfl hv k
theorem Go.icmp_lt {x y : Int32} {o : Int} (hd : Dec M pc (.if_icmp .lt o) 3 pc') (hj : Jmp pc o pt) (hT : x < y → Go K M F Lo pt ls st H r) (hF : ¬ x < y → Go K M F Lo pc' ls st H r) : Go K M F Lo pc ls (.int y :: .int x :: st) H r := by
  by_cases q : x < y
  · exact Go.icmpT hd hj (XT.ii_lt_t q) (hT q)
  · exact Go.icmpF hd (XT.ii_lt_f q) (hF q)
theorem Go.if_lt {x : Int32} {o : Int} (hd : Dec M pc (.ifCond .lt o) 3 pc') (hj : Jmp pc o pt) (hT : x < 0 → Go K M F Lo pt ls st H r) (hF : ¬ x < 0 → Go K M F Lo pc' ls st H r) : Go K M F Lo pc ls (.int x :: st) H r := by
  by_cases q : x < 0
  · exact Go.ifT hd hj (XT.i0_lt_t q) (hT q)
  · exact Go.ifF hd (XT.i0_lt_f q) (hF q)
theorem Go.lif_lt {x y : Int64} {o : Int} (hd : Dec M pc (.ifCond .lt o) 3 pc') (hj : Jmp pc o pt) (hT : x < y → Go K M F Lo pt ls st H r) (hF : ¬ x < y → Go K M F Lo pc' ls st H r) : Go K M F Lo pc ls (.int (XT.cmpL x y) :: st) H r := by
  by_cases q : x < y
  · exact Go.ifT hd hj (XT.ll_lt_t q) (hT q)
  · exact Go.ifF hd (XT.ll_lt_f q) (hF q)
theorem Go.icmp_ge {x y : Int32} {o : Int} (hd : Dec M pc (.if_icmp .ge o) 3 pc') (hj : Jmp pc o pt) (hT : ¬ x < y → Go K M F Lo pt ls st H r) (hF : x < y → Go K M F Lo pc' ls st H r) : Go K M F Lo pc ls (.int y :: .int x :: st) H r := by
  by_cases q : x < y
  · exact Go.icmpF hd (XT.ii_ge_f q) (hF q)
  · exact Go.icmpT hd hj (XT.ii_ge_t q) (hT q)
theorem Go.if_ge {x : Int32} {o : Int} (hd : Dec M pc (.ifCond .ge o) 3 pc') (hj : Jmp pc o pt) (hT : ¬ x < 0 → Go K M F Lo pt ls st H r) (hF : x < 0 → Go K M F Lo pc' ls st H r) : Go K M F Lo pc ls (.int x :: st) H r := by
  by_cases q : x < 0
  · exact Go.ifF hd (XT.i0_ge_f q) (hF q)
  · exact Go.ifT hd hj (XT.i0_ge_t q) (hT q)
theorem Go.lif_ge {x y : Int64} {o : Int} (hd : Dec M pc (.ifCond .ge o) 3 pc') (hj : Jmp pc o pt) (hT : ¬ x < y → Go K M F Lo pt ls st H r) (hF : x < y → Go K M F Lo pc' ls st H r) : Go K M F Lo pc ls (.int (XT.cmpL x y) :: st) H r := by
  by_cases q : x < y
  · exact Go.ifF hd (XT.ll_ge_f q) (hF q)
  · exact Go.ifT hd hj (XT.ll_ge_t q) (hT q)
theorem Go.icmp_gt {x y : Int32} {o : Int} (hd : Dec M pc (.if_icmp .gt o) 3 pc') (hj : Jmp pc o pt) (hT : y < x → Go K M F Lo pt ls st H r) (hF : ¬ y < x → Go K M F Lo pc' ls st H r) : Go K M F Lo pc ls (.int y :: .int x :: st) H r := by
  by_cases q : y < x
  · exact Go.icmpT hd hj (XT.ii_gt_t q) (hT q)
  · exact Go.icmpF hd (XT.ii_gt_f q) (hF q)
theorem Go.if_gt {x : Int32} {o : Int} (hd : Dec M pc (.ifCond .gt o) 3 pc') (hj : Jmp pc o pt) (hT : 0 < x → Go K M F Lo pt ls st H r) (hF : ¬ 0 < x → Go K M F Lo pc' ls st H r) : Go K M F Lo pc ls (.int x :: st) H r := by
  by_cases q : 0 < x
  · exact Go.ifT hd hj (XT.i0_gt_t q) (hT q)
  · exact Go.ifF hd (XT.i0_gt_f q) (hF q)
theorem Go.lif_gt {x y : Int64} {o : Int} (hd : Dec M pc (.ifCond .gt o) 3 pc') (hj : Jmp pc o pt) (hT : y < x → Go K M F Lo pt ls st H r) (hF : ¬ y < x → Go K M F Lo pc' ls st H r) : Go K M F Lo pc ls (.int (XT.cmpL x y) :: st) H r := by
  by_cases q : y < x
  · exact Go.ifT hd hj (XT.ll_gt_t q) (hT q)
  · exact Go.ifF hd (XT.ll_gt_f q) (hF q)
theorem Go.icmp_le {x y : Int32} {o : Int} (hd : Dec M pc (.if_icmp .le o) 3 pc') (hj : Jmp pc o pt) (hT : ¬ y < x → Go K M F Lo pt ls st H r) (hF : y < x → Go K M F Lo pc' ls st H r) : Go K M F Lo pc ls (.int y :: .int x :: st) H r := by
  by_cases q : y < x
  · exact Go.icmpF hd (XT.ii_le_f q) (hF q)
  · exact Go.icmpT hd hj (XT.ii_le_t q) (hT q)
theorem Go.if_le {x : Int32} {o : Int} (hd : Dec M pc (.ifCond .le o) 3 pc') (hj : Jmp pc o pt) (hT : ¬ 0 < x → Go K M F Lo pt ls st H r) (hF : 0 < x → Go K M F Lo pc' ls st H r) : Go K M F Lo pc ls (.int x :: st) H r := by
  by_cases q : 0 < x
  · exact Go.ifF hd (XT.i0_le_f q) (hF q)
  · exact Go.ifT hd hj (XT.i0_le_t q) (hT q)
theorem Go.lif_le {x y : Int64} {o : Int} (hd : Dec M pc (.ifCond .le o) 3 pc') (hj : Jmp pc o pt) (hT : ¬ y < x → Go K M F Lo pt ls st H r) (hF : y < x → Go K M F Lo pc' ls st H r) : Go K M F Lo pc ls (.int (XT.cmpL x y) :: st) H r := by
  by_cases q : y < x
  · exact Go.ifF hd (XT.ll_le_f q) (hF q)
  · exact Go.ifT hd hj (XT.ll_le_t q) (hT q)
theorem Go.icmp_eq {x y : Int32} {o : Int} (hd : Dec M pc (.if_icmp .eq o) 3 pc') (hj : Jmp pc o pt) (hT : x = y → Go K M F Lo pt ls st H r) (hF : ¬ x = y → Go K M F Lo pc' ls st H r) : Go K M F Lo pc ls (.int y :: .int x :: st) H r := by
  by_cases q : x = y
  · exact Go.icmpT hd hj (XT.ii_eq_t q) (hT q)
  · exact Go.icmpF hd (XT.ii_eq_f q) (hF q)
theorem Go.if_eq {x : Int32} {o : Int} (hd : Dec M pc (.ifCond .eq o) 3 pc') (hj : Jmp pc o pt) (hT : x = 0 → Go K M F Lo pt ls st H r) (hF : ¬ x = 0 → Go K M F Lo pc' ls st H r) : Go K M F Lo pc ls (.int x :: st) H r := by
  by_cases q : x = 0
  · exact Go.ifT hd hj (XT.i0_eq_t q) (hT q)
  · exact Go.ifF hd (XT.i0_eq_f q) (hF q)
theorem Go.lif_eq {x y : Int64} {o : Int} (hd : Dec M pc (.ifCond .eq o) 3 pc') (hj : Jmp pc o pt) (hT : x = y → Go K M F Lo pt ls st H r) (hF : ¬ x = y → Go K M F Lo pc' ls st H r) : Go K M F Lo pc ls (.int (XT.cmpL x y) :: st) H r := by
  by_cases q : x = y
  · exact Go.ifT hd hj (XT.ll_eq_t q) (hT q)
  · exact Go.ifF hd (XT.ll_eq_f q) (hF q)
theorem Go.icmp_ne {x y : Int32} {o : Int} (hd : Dec M pc (.if_icmp .ne o) 3 pc') (hj : Jmp pc o pt) (hT : ¬ x = y → Go K M F Lo pt ls st H r) (hF : x = y → Go K M F Lo pc' ls st H r) : Go K M F Lo pc ls (.int y :: .int x :: st) H r := by
  by_cases q : x = y
  · exact Go.icmpF hd (XT.ii_ne_f q) (hF q)
  · exact Go.icmpT hd hj (XT.ii_ne_t q) (hT q)
theorem Go.if_ne {x : Int32} {o : Int} (hd : Dec M pc (.ifCond .ne o) 3 pc') (hj : Jmp pc o pt) (hT : ¬ x = 0 → Go K M F Lo pt ls st H r) (hF : x = 0 → Go K M F Lo pc' ls st H r) : Go K M F Lo pc ls (.int x :: st) H r := by
  by_cases q : x = 0
  · exact Go.ifF hd (XT.i0_ne_f q) (hF q)
  · exact Go.ifT hd hj (XT.i0_ne_t q) (hT q)
theorem Go.lif_ne {x y : Int64} {o : Int} (hd : Dec M pc (.ifCond .ne o) 3 pc') (hj : Jmp pc o pt) (hT : ¬ x = y → Go K M F Lo pt ls st H r) (hF : x = y → Go K M F Lo pc' ls st H r) : Go K M F Lo pc ls (.int (XT.cmpL x y) :: st) H r := by
  by_cases q : x = y
  · exact Go.ifF hd (XT.ll_ne_f q) (hF q)
  · exact Go.ifT hd hj (XT.ll_ne_t q) (hT q)
theorem Go.ifnullT {o : Int} (hd : Dec M pc (.ifnull o) 3 pc') (hj : Jmp pc o pt) (h : Go K M F Lo pt ls st H r) : Go K M F Lo pc ls (.null :: st) H r :=
  h.pureS fun A hx hc k => XS.ifnullYes A hx rfl rfl (hd.at hc) rfl hj.1 hj.2 k
theorem Go.ifnullF {i : Nat} {o : Int} (hd : Dec M pc (.ifnull o) 3 pc') (h : Go K M F Lo pc' ls st H r) : Go K M F Lo pc ls (.ref i :: st) H r := by
  obtain ⟨hd, rfl⟩ := hd
  exact h.pureS fun A hx hc k => XS.ifnullNo A hx rfl (hc ▸ hd) rfl k
theorem Go.ifnonnullT {i : Nat} {o : Int} (hd : Dec M pc (.ifnonnull o) 3 pc') (hj : Jmp pc o pt) (h : Go K M F Lo pt ls st H r) : Go K M F Lo pc ls (.ref i :: st) H r :=
  h.pureS fun A hx hc k => XT.ifnonnullYes A hx rfl rfl (hd.at hc) rfl hj.1 hj.2 k
theorem Go.ifnonnullF {o : Int} (hd : Dec M pc (.ifnonnull o) 3 pc') (h : Go K M F Lo pc' ls st H r) : Go K M F Lo pc ls (.null :: st) H r := by
  obtain ⟨hd, rfl⟩ := hd
  exact h.pureS fun A hx hc k => XT.ifnonnullNo A hx rfl (hc ▸ hd) rfl k
theorem sv_inj (n0 : Nat) {x y : Value} : sv n0 x = sv n0 y ↔ x = y := by
  cases x <;> cases y <;> simp [sv]
theorem acmp_sv (n0 : Nat) (cd : ClassFile.ACond) (x y : Value) : XT.acmp cd (sv n0 x) (sv n0 y) = XT.acmp cd x y := by
  cases cd <;> simp [XT.acmp, sv_inj]
theorem Go.acmpT {cd : ClassFile.ACond} {x y : Value} {o : Int} (hd : Dec M pc (.if_acmp cd o) 3 pc') (hj : Jmp pc o pt) (h1 : x.isRef = true) (h2 : y.isRef = true) (hv : XT.acmp cd x y = true) (h : Go K M F Lo pt ls st H r) : Go K M F Lo pc ls (y :: x :: st) H r :=
  h.pureS fun A hx hc k => XT.acmpYes A hx rfl rfl (hd.at hc) rfl (by rw [sv_ref]; exact h1) (by rw [sv_ref]; exact h2) (by rw [acmp_sv]; exact hv) hj.1 hj.2 k
theorem Go.acmpF {cd : ClassFile.ACond} {x y : Value} {o : Int} (hd : Dec M pc (.if_acmp cd o) 3 pc') (h1 : x.isRef = true) (h2 : y.isRef = true) (hv : XT.acmp cd x y = false) (h : Go K M F Lo pc' ls st H r) : Go K M F Lo pc ls (y :: x :: st) H r := by
  obtain ⟨hd, rfl⟩ := hd
  exact h.pureS fun A hx hc k => XT.acmpNo A hx rfl (hc ▸ hd) rfl (by rw [sv_ref]; exact h1) (by rw [sv_ref]; exact h2) (by rw [acmp_sv]; exact hv) k
/-! ## 5. constants of the pool -/
theorem Go.ldc {idx : Nat} {v : Int32} (hd : Dec M pc (.ldc idx) 2 pc') (w : (Cond.constant M.1.cls idx v).before K.2.2.1 K.2.1 = true) (h : Go K M F Lo pc' ls (.int v :: st) H r) : Go K M F Lo pc ls st H r := by
  obtain ⟨hd, rfl⟩ := hd
  intro R cells slots p e s m args below meth c T locs a1 a2 a3 a4 b1 b2 b3 b4 b5 b6 b7 b8 X S N
  obtain ⟨s₂, L, q1, q⟩ := h R cells slots p e s m args below meth c T locs a1 a2 a3 a4 b1 b2 b3 b4 b5 b6 b7 b8 X S N
  exact ⟨s₂, L, X.ldcI b1 b7 (mvT b2 w) rfl (b3 ▸ hd) q1, q⟩
theorem Go.ldc2 {idx : Nat} {v : Int64} (hd : Dec M pc (.ldc2_w idx) 3 pc') (w : (Cond.constantLong M.1.cls idx v).before K.2.2.1 K.2.1 = true) (h : Go K M F Lo pc' ls (.long v :: st) H r) : Go K M F Lo pc ls st H r := by
  obtain ⟨hd, rfl⟩ := hd
  intro R cells slots p e s m args below meth c T locs a1 a2 a3 a4 b1 b2 b3 b4 b5 b6 b7 b8 X S N
  obtain ⟨s₂, L, q1, q⟩ := h R cells slots p e s m args below meth c T locs a1 a2 a3 a4 b1 b2 b3 b4 b5 b6 b7 b8 X S N
  exact ⟨s₂, L, X.ldc2J b1 b7 (mvT b2 w) rfl (b3 ▸ hd) q1, q⟩
/-! ## 6. fields -/
theorem Go.getfield {idx i : Nat} (j : Nat) {C n d : String} {fs : List (String × String × Value)} {v : Value} (hd : Dec M pc (.getfield idx) 3 pc') (w : (Cond.fieldLink M.1.cls idx C n d).before K.2.2.1 K.2.1 = true) (hH : H[i]? = some (.inl (C, fs))) (hf : fs[j]? = some (n, d, v))
    (h : Go K M F Lo pc' ls (v :: st) H r) : Go K M F Lo pc ls (.ref i :: st) H r := by
  obtain ⟨hd, rfl⟩ := hd
  intro R cells slots p e s m args below meth c T locs a1 a2 a3 a4 b1 b2 b3 b4 b5 b6 b7 b8 X S N
  have C0 := S.2 i _ hH
  have Fl := (C0.2.2 _ (List.mem_of_getElem? hf)).2.2
  obtain ⟨T', X', e', stp⟩ := getF X b1 b2 b7 (host := "") (Or.inl w) Via.refl rfl Fl (g := mkF m pc (LL K.2.2.2 ls) (SS K.2.2.2 (.ref i :: st))) rfl rfl (b3 ▸ hd)
  obtain ⟨s₂, L, q1, q⟩ := h R cells slots p e s m args below meth c T' locs a1 a2 a3 a4 b1 b2 b3 b4 b5 b6 b7 b8 X' (e' ▸ S) N
  exact ⟨s₂, L, stp _ q1, q⟩
def PutOk (ty : FieldType) (v : Value) : Prop := ∀ n0, narrow ty (sv n0 v) = sv n0 v ∧ fits ty (sv n0 v) = true
theorem names_set {fs : List (String × String × Value)} {j : Nat} {n d : String} {v w : Value} (hf : fs[j]? = some (n, d, w)) : (fs.set j (n, d, v)).map (fun f => f.1) = fs.map (fun f => f.1) := by
  apply List.ext_getElem?
  intro k
  rw [List.getElem?_map, List.getElem?_map]
  by_cases q : j = k
  · subst q
    rw [List.getElem?_set_self (List.getElem?_eq_some_iff.mp hf).1, hf]; rfl
  · rw [List.getElem?_set_ne q]
theorem fields_set {K : Ctx} {h h' : Heap} {a : Addr} {C n d : String} {fs : List (String × String × Value)} {j : Nat} {v old : Value} {ty : FieldType} (Ck : COk K.2.1 K.2.2.1 K.2.2.2 h a (.inl (C, fs))) (hf : fs[j]? = some (n, d, old)) (hty : parseFieldDescriptor d = some ty)
    (L : Laid K.2.1 K.2.2.1 C C n d) (W : Wr h h' a (Jvm.RoadKit.slotOf K.2.1 C n d) (sv K.2.2.2 v)) : COk K.2.1 K.2.2.1 K.2.2.2 h' a (.inl (C, fs.set j (n, d, v))) := by
  obtain ⟨E, nd, al⟩ := Ck
  refine ⟨E.wr W, by rw [names_set hf]; exact nd, fun f hm => ?_⟩
  obtain ⟨k, hk⟩ := List.mem_iff_getElem?.mp hm
  by_cases q : j = k
  · subst q
    rw [List.getElem?_set_self (List.getElem?_eq_some_iff.mp hf).1] at hk
    cases hk
    exact ⟨L, ⟨ty, hty⟩, (al _ (List.mem_of_getElem? hf)).2.2.same W⟩
  · rw [List.getElem?_set_ne q] at hk
    obtain ⟨l1, ⟨t1, p1⟩, f1⟩ := al f (List.mem_of_getElem? hk)
    refine ⟨l1, ⟨t1, p1⟩, f1.other W (Or.inr (slot_ne l1 L ?_ p1 hty))⟩
    intro e
    have h1 : (fs.map (fun f => f.1))[k]? = some f.1 := by rw [List.getElem?_map, hk]; rfl
    have h2 : (fs.map (fun f => f.1))[j]? = some f.1 := by rw [List.getElem?_map, hf, e]; rfl
    exact q ((List.getElem?_inj (List.getElem?_eq_some_iff.mp h2).1 nd).mp (h2.trans h1.symm))
theorem Go.putfield {idx i kk : Nat} (j : Nat) {C n d : String} {ty : FieldType} {fs : List (String × String × Value)} {v old : Value} {H1 : Hp} (hd : Dec M pc (.putfield idx) 3 pc') (w : (Cond.fieldLink M.1.cls idx C n d).before K.2.2.1 K.2.1 = true)
    (wl : (Cond.lays C C n d).before K.2.2.1 K.2.1 = true ∨ ((Cond.laysFinal C C n d).before K.2.2.1 K.2.1 = true ∧ M.1.cls = C ∧ M.1.name = "<init>")) (wi : (Cond.instantiable C kk).before K.2.2.1 K.2.1 = true) (hty : parseFieldDescriptor d = some ty) (hv : PutOk ty v)
    (hH : H[i]? = some (.inl (C, fs))) (hf : fs[j]? = some (n, d, old)) (hH1 : H.set i (.inl (C, fs.set j (n, d, v))) = H1) (h : Go K M F Lo pc' ls st H1 r) : Go K M F Lo pc ls (v :: .ref i :: st) H r := by
  obtain ⟨hd, rfl⟩ := hd
  intro R cells slots p e s m args below meth c T locs a1 a2 a3 a4 b1 b2 b3 b4 b5 b6 b7 b8 X S N
  subst hH1
  have C0 := S.2 i _ hH
  have Fl := (C0.2.2 _ (List.mem_of_getElem? hf)).2.2
  have L0 : Laid K.2.1 K.2.2.1 C C n d := wl.imp id (fun q => q.1)
  obtain ⟨T', h', X', e', W, stp⟩ := putF X b1 b2 b7 (host := "") (Or.inl w) Via.refl rfl Fl C0.1 (wl.imp id (fun q => ⟨q.1, q.2.1, b8.trans q.2.2⟩)) wi hty (hv K.2.2.2).1 (hv K.2.2.2).2 (g := mkF m pc (LL K.2.2.2 ls) (SS K.2.2.2 (v :: .ref i :: st))) rfl rfl (b3 ▸ hd)
  subst e'
  obtain ⟨s₂, L, q1, q⟩ := h R cells slots p e s m args below meth c T' _ a1 a2 a3 a4 b1 b2 b3 b4 b5 b6 b7 b8 X' (S.set W hH (fields_set C0 hf hty L0 W)) (Fr.snoc X' N (Nat.le_add_right _ _))
  exact ⟨s₂, L, stp _ q1, q⟩
/-! ## 7. new -/
theorem sv_dflt (n0 : Nat) (ty : FieldType) : sv n0 (defaultValue ty) = defaultValue ty := by cases ty <;> rfl
theorem Go.new {idx k i : Nat} {C : String} (fs : List (String × String × Value)) {rv : Option Value} {H' : Option Hp} {dct dst : Nat} (hd : Dec M pc (.new idx) 3 pc') (w1 : (Cond.classLink M.1.cls idx C).before K.2.2.1 K.2.1 = true) (w2 : (Cond.instantiable C k).before K.2.2.1 K.2.1 = true) (w3 : (Cond.initialized C).before K.2.2.1 K.2.1 = true)
    (hnd : (fs.map (fun f => f.1)).Nodup) (hfs : ∀ f ∈ fs, Laid K.2.1 K.2.2.1 C C f.1 f.2.1 ∧ ∃ ty, parseFieldDescriptor f.2.1 = some ty ∧ f.2.2 = defaultValue ty) (hi : H.length = i)
    (dc ds : Nat) (hdc : dc + 1 ≤ dct) (hds : ds + k ≤ dst) (h : Go K M F Lo pc' ls (.ref i :: st) (H ++ [.inl (C, fs)]) (rv, H', dc, ds)) : Go K M F Lo pc ls st H (rv, H', dct, dst) := by
  obtain ⟨hd, rfl⟩ := hd
  intro R cells slots p e s m args below meth c T locs a1 a2 a3 a4 b1 b2 b3 b4 b5 b6 b7 b8 X S N
  subst hi
  have a3' : cells + dct ≤ R.cells := a3
  have a4' : slots + dst ≤ R.slots := a4
  obtain ⟨vm', cC, kC, h1, h2, h3, h4, X', stp⟩ := X.newCold b1 b7 (mv b2 w1) (mv b2 w2) (mv b2 w3) (g := mkF m pc (LL K.2.2.2 ls) (SS K.2.2.2 st)) rfl (b3 ▸ hd) (by omega) (by omega)
  rw [b2.alike.findClass] at h1
  obtain ⟨kZ, z1, -⟩ := Vm.findClass_spec h1
  obtain ⟨k', z2, z3⟩ := b2.alike.2.2 _ _ z1
  cases h2.symm.trans z2
  have ei : kC.instanceTypes = kZ.instanceTypes := by rw [z3]
  have hN : (T.heap.push { cls := cC, slots := kC.instanceTypes.map defaultValue, vm := .none })[T.heap.size]? = some { cls := cC, slots := kC.instanceTypes.map defaultValue, vm := .none } := by simp
  have E : Ext T.heap (T.heap.push { cls := cC, slots := kC.instanceTypes.map defaultValue, vm := .none }) := ⟨by simp, fun a c h => by
    rw [Array.getElem?_push_lt (Array.getElem?_eq_some_iff.mp h).1]; exact (Array.getElem?_eq_getElem _).symm.trans h⟩
  have S' : Sim K (T.heap.push { cls := cC, slots := kC.instanceTypes.map defaultValue, vm := .none }) (H ++ [.inl (C, fs)]) := by
    refine S.push E (by simp) ?_
    rw [← S.1]
    refine ⟨⟨_, kZ, hN, h1, z1, rfl, fun _ => by simp [ei]⟩, hnd, fun f hf => ?_⟩
    obtain ⟨Lf, ty, ht, hv⟩ := hfs f hf
    refine ⟨Lf, ⟨ty, ht⟩, ?_⟩
    rw [hv, sv_dflt]
    obtain ⟨c1, k1, cf, kf, i, f', y1, y2, y3, y4, y5, y6, -⟩ := Lf.spec
    cases h1.symm.trans y1
    cases z1.symm.trans y2
    exact ⟨_, cf, kf, i, f', hN, y3, y4, by simp, rfl, y5, by simp [ei, y6, (State.fieldFound?_type y3 ht).2]⟩
  obtain ⟨s₂, L, q1, q2, q3, q4, q5, q6⟩ := h R (cells + 1) (slots + k) p e s m args below meth c _ locs a1 a2 (by show cells + 1 + dc ≤ _; omega) (by show slots + k + ds ≤ _; omega) b1 b2 b3 b4 b5 b6 b7 b8 X' S' N
  refine ⟨s₂, L, stp _ ?_, q2, q3, q4, q5, q6.1, q6.2.1, q6.2.2.mono (by show cells + 1 + dc ≤ cells + dct; omega) (by show slots + k + ds ≤ slots + dst; omega)⟩
  have e : SS K.2.2.2 (.ref H.length :: st) = .ref T.heap.size :: SS K.2.2.2 st := by rw [S.1]; rfl
  rw [e] at q1
  exact q1
theorem Go.newarray {aty : ArrayType} {t : FieldType} {n : Int32} {i : Nat} (cap : Nat) {vs : List Value} {rv : Option Value} {H' : Option Hp} {dct dst : Nat} (hd : Dec M pc (.newarray aty) 2 pc') (w : (Cond.arrayClass (newarray.typeOf aty)).before K.2.2.1 K.2.1 = true) (ht : newarray.typeOf aty = t)
    (hn : ¬ n < 0) (hcap : n.toNatClampNeg ≤ cap) (hb : cap * 8 ≤ 536870912) (hvs : List.replicate n.toNatClampNeg (defaultValue t) = vs) (hi : H.length = i)
    (dc ds : Nat) (hdc : dc + 1 ≤ dct) (hds : ds + cap ≤ dst) (h : Go K M F Lo pc' ls (.ref i :: st) (H ++ [.inr (t, vs)]) (rv, H', dc, ds)) : Go K M F Lo pc ls (.int n :: st) H (rv, H', dct, dst) := by
  obtain ⟨hd, rfl⟩ := hd
  intro R cells slots p e s m args below meth c T locs a1 a2 a3 a4 b1 b2 b3 b4 b5 b6 b7 b8 X S N
  subst hi ht hvs
  have a3' : cells + dct ≤ R.cells := a3
  have a4' : slots + dst ≤ R.slots := a4
  have hcb : componentBytes (newarray.typeOf aty) ≤ 8 := by cases aty <;> decide
  obtain ⟨cA, kA, comp, h1, h2, h3, X', stp⟩ := X.newarrayPrim b1 (mvA b2 w) (g := mkF m pc (LL K.2.2.2 ls) (SS K.2.2.2 (.int n :: st))) rfl (b3 ▸ hd) (n := n) (rest := SS K.2.2.2 st) rfl hn (Nat.le_trans (Nat.mul_le_mul hcap hcb) hb) (by omega) (by omega)
  rw [b2.alike.findClass] at h1
  obtain ⟨kZ, z1, -⟩ := Vm.findClass_spec h1
  obtain ⟨k', z2, z3⟩ := b2.alike.2.2 _ _ z1
  cases h2.symm.trans z2
  have hN : (T.heap.push { cls := cA, slots := Array.replicate n.toNatClampNeg (defaultValue (newarray.typeOf aty)), vm := .none })[T.heap.size]? = some { cls := cA, slots := Array.replicate n.toNatClampNeg (defaultValue (newarray.typeOf aty)), vm := .none } := by simp
  have E : Ext T.heap (T.heap.push { cls := cA, slots := Array.replicate n.toNatClampNeg (defaultValue (newarray.typeOf aty)), vm := .none }) := ⟨by simp, fun a c h => by
    rw [Array.getElem?_push_lt (Array.getElem?_eq_some_iff.mp h).1]; exact (Array.getElem?_eq_getElem _).symm.trans h⟩
  have S' : Sim K (T.heap.push { cls := cA, slots := Array.replicate n.toNatClampNeg (defaultValue (newarray.typeOf aty)), vm := .none }) (H ++ [.inr (newarray.typeOf aty, List.replicate n.toNatClampNeg (defaultValue (newarray.typeOf aty)))]) := by
    refine S.push E (by simp) ?_
    rw [← S.1]
    refine ⟨_, ⟨hN, ⟨by simp, kZ, z1, comp, by rw [← h3, z3]⟩, by simp⟩, ?_⟩
    simp [sv_dflt]
  obtain ⟨s₂, L, q1, q2, q3, q4, q5, q6⟩ := h R (cells + 1) (slots + cap) p e s m args below meth c _ locs a1 a2 (by show cells + 1 + dc ≤ _; omega) (by show slots + cap + ds ≤ _; omega) b1 b2 b3 b4 b5 b6 b7 b8 (X'.more (Nat.le_refl _) (by omega)) S' N
  refine ⟨s₂, L, stp _ ?_, q2, q3, q4, q5, q6.1, q6.2.1, q6.2.2.mono (by show cells + 1 + dc ≤ cells + dct; omega) (by show slots + cap + ds ≤ slots + dst; omega)⟩
  have e : SS K.2.2.2 (.ref H.length :: st) = .ref T.heap.size :: SS K.2.2.2 st := by rw [S.1]; rfl
  rw [e] at q1
  exact q1
/-! ## 8. arrays -/
theorem Go.arraylength {i : Nat} {t : FieldType} {vs : List Value} {z : Int32} (hd : Dec M pc .arraylength 1 pc') (hH : H[i]? = some (.inr (t, vs))) (hz : vs.length.toInt32 = z) (h : Go K M F Lo pc' ls (.int z :: st) H r) : Go K M F Lo pc ls (.ref i :: st) H r := by
  obtain ⟨hd, rfl⟩ := hd
  intro R cells slots p e s m args below meth c T locs a1 a2 a3 a4 b1 b2 b3 b4 b5 b6 b7 b8 X S N
  obtain ⟨cl, Ar, hc⟩ := S.2 i _ hH
  obtain ⟨s₂, L, q1, q⟩ := h R cells slots p e s m args below meth c T locs a1 a2 a3 a4 b1 b2 b3 b4 b5 b6 b7 b8 X S N
  refine ⟨s₂, L, X.arraylength b1 Ar.1 (State.isArrayOf_alike b2.alike Ar.2.1) (g := mkF m pc (LL K.2.2.2 ls) (SS K.2.2.2 (.ref i :: st))) rfl (rest := SS K.2.2.2 st) rfl (b3 ▸ hd) _ ?_, q⟩
  have e : cl.slots.size.toInt32 = z := by rw [hc, ← hz]; simp
  rw [e]; exact q1
theorem in_of {cl : Cell} {n0 : Nat} {vs : List Value} {j : Int32} {v : Value} (hc : cl.slots = (vs.map (sv n0)).toArray) (hj : ¬ j < 0) (hv : vs[j.toNatClampNeg]? = some v) : ¬ (j < 0 ∨ cl.slots.size ≤ j.toNatClampNeg) ∧ cl.slots[j.toNatClampNeg]? = some (sv n0 v) := by
  have hl := (List.getElem?_eq_some_iff.mp hv).1
  refine ⟨?_, by rw [hc]; simp [hv]⟩
  rintro (q | q)
  · exact hj q
  · rw [hc] at q; simp at q; omega
theorem Go.iaload {i : Nat} {vs : List Value} {j : Int32} {v : Value} (hd : Dec M pc .iaload 1 pc') (hH : H[i]? = some (.inr (.int, vs))) (hj : ¬ j < 0) (hv : vs[j.toNatClampNeg]? = some v) (h : Go K M F Lo pc' ls (v :: st) H r) : Go K M F Lo pc ls (.int j :: .ref i :: st) H r := by
  obtain ⟨hd, rfl⟩ := hd
  intro R cells slots p e s m args below meth c T locs a1 a2 a3 a4 b1 b2 b3 b4 b5 b6 b7 b8 X S N
  obtain ⟨cl, Ar, hc⟩ := S.2 i _ hH
  obtain ⟨hin, hat⟩ := in_of hc hj hv
  obtain ⟨s₂, L, q1, q⟩ := h R cells slots p e s m args below meth c T locs a1 a2 a3 a4 b1 b2 b3 b4 b5 b6 b7 b8 X S N
  exact ⟨s₂, L, X.iaload b1 Ar.1 (State.isArrayOf_alike b2.alike Ar.2.1) Ar.2.2 hin hat (g := mkF m pc (LL K.2.2.2 ls) (SS K.2.2.2 (.int j :: .ref i :: st))) rfl (rest := SS K.2.2.2 st) rfl (b3 ▸ hd) _ q1, q⟩
theorem Go.laload {i : Nat} {vs : List Value} {j : Int32} {v : Value} (hd : Dec M pc .laload 1 pc') (hH : H[i]? = some (.inr (.long, vs))) (hj : ¬ j < 0) (hv : vs[j.toNatClampNeg]? = some v) (h : Go K M F Lo pc' ls (v :: st) H r) : Go K M F Lo pc ls (.int j :: .ref i :: st) H r := by
  obtain ⟨hd, rfl⟩ := hd
  intro R cells slots p e s m args below meth c T locs a1 a2 a3 a4 b1 b2 b3 b4 b5 b6 b7 b8 X S N
  obtain ⟨cl, Ar, hc⟩ := S.2 i _ hH
  obtain ⟨hin, hat⟩ := in_of hc hj hv
  obtain ⟨s₂, L, q1, q⟩ := h R cells slots p e s m args below meth c T locs a1 a2 a3 a4 b1 b2 b3 b4 b5 b6 b7 b8 X S N
  exact ⟨s₂, L, X.laload b1 Ar.1 (State.isArrayOf_alike b2.alike Ar.2.1) Ar.2.2 hin hat (g := mkF m pc (LL K.2.2.2 ls) (SS K.2.2.2 (.int j :: .ref i :: st))) rfl (rest := SS K.2.2.2 st) rfl (b3 ▸ hd) _ q1, q⟩
theorem Go.caload {i : Nat} {vs : List Value} {j : Int32} {v : Value} (hd : Dec M pc .caload 1 pc') (hH : H[i]? = some (.inr (.char, vs))) (hj : ¬ j < 0) (hv : vs[j.toNatClampNeg]? = some v) (h : Go K M F Lo pc' ls (v :: st) H r) : Go K M F Lo pc ls (.int j :: .ref i :: st) H r := by
  obtain ⟨hd, rfl⟩ := hd
  intro R cells slots p e s m args below meth c T locs a1 a2 a3 a4 b1 b2 b3 b4 b5 b6 b7 b8 X S N
  obtain ⟨cl, Ar, hc⟩ := S.2 i _ hH
  obtain ⟨hin, hat⟩ := in_of hc hj hv
  obtain ⟨s₂, L, q1, q⟩ := h R cells slots p e s m args below meth c T locs a1 a2 a3 a4 b1 b2 b3 b4 b5 b6 b7 b8 X S N
  exact ⟨s₂, L, X.caload b1 Ar.1 (State.isArrayOf_alike b2.alike Ar.2.1) Ar.2.2 hin hat (g := mkF m pc (LL K.2.2.2 ls) (SS K.2.2.2 (.int j :: .ref i :: st))) rfl (rest := SS K.2.2.2 st) rfl (b3 ▸ hd) _ q1, q⟩
theorem Go.baload {i : Nat} {vs : List Value} {j : Int32} {v : Value} (hd : Dec M pc .baload 1 pc') (hH : H[i]? = some (.inr (.byte, vs))) (hj : ¬ j < 0) (hv : vs[j.toNatClampNeg]? = some v) (h : Go K M F Lo pc' ls (v :: st) H r) : Go K M F Lo pc ls (.int j :: .ref i :: st) H r := by
  obtain ⟨hd, rfl⟩ := hd
  intro R cells slots p e s m args below meth c T locs a1 a2 a3 a4 b1 b2 b3 b4 b5 b6 b7 b8 X S N
  obtain ⟨cl, Ar, hc⟩ := S.2 i _ hH
  obtain ⟨hin, hat⟩ := in_of hc hj hv
  obtain ⟨s₂, L, q1, q⟩ := h R cells slots p e s m args below meth c T locs a1 a2 a3 a4 b1 b2 b3 b4 b5 b6 b7 b8 X S N
  exact ⟨s₂, L, X.baloadBytes b1 Ar.1 (State.isArrayOf_alike b2.alike Ar.2.1) Ar.2.2 hin hat (g := mkF m pc (LL K.2.2.2 ls) (SS K.2.2.2 (.int j :: .ref i :: st))) rfl (rest := SS K.2.2.2 st) rfl (b3 ▸ hd) _ q1, q⟩
theorem arr_set {K : Ctx} {h h' : Heap} {a : Addr} {cl : Cell} {t : FieldType} {vs : List Value} {k : Nat} {v : Value} (Ar : Arr K.2.1 h a cl t) (hc : cl.slots = (vs.map (sv K.2.2.2)).toArray) (W : Wr h h' a k (sv K.2.2.2 v)) : COk K.2.1 K.2.2.1 K.2.2.2 h' a (.inr (t, vs.set k v)) :=
  ⟨_, Ar.same W, by simp [Cell.setSlot, hc, List.map_set]⟩
theorem Go.iastore {i : Nat} {vs : List Value} {j : Int32} {x : Int32} {H1 : Hp} (hd : Dec M pc .iastore 1 pc') (hH : H[i]? = some (.inr (.int, vs))) (hj : ¬ j < 0) (hl : j.toNatClampNeg < vs.length) (hH1 : H.set i (.inr (.int, vs.set j.toNatClampNeg (.int x))) = H1) (h : Go K M F Lo pc' ls st H1 r) : Go K M F Lo pc ls (.int x :: .int j :: .ref i :: st) H r := by
  obtain ⟨hd, rfl⟩ := hd
  intro R cells slots p e s m args below meth c T locs a1 a2 a3 a4 b1 b2 b3 b4 b5 b6 b7 b8 X S N
  subst hH1
  obtain ⟨cl, Ar, hc⟩ := S.2 i _ hH
  have hin : ¬ (j < 0 ∨ cl.slots.size ≤ j.toNatClampNeg) := by
    rintro (q | q)
    · exact hj q
    · rw [hc] at q; simp at q; omega
  obtain ⟨T', h', X', e', W, stp⟩ := stI X b1 b2 rfl Ar hin (g := mkF m pc (LL K.2.2.2 ls) (SS K.2.2.2 (.int x :: .int j :: .ref i :: st))) rfl (rest := SS K.2.2.2 st) rfl (b3 ▸ hd)
  subst e'
  obtain ⟨s₂, L, q1, q⟩ := h R cells slots p e s m args below meth c T' _ a1 a2 a3 a4 b1 b2 b3 b4 b5 b6 b7 b8 X' (S.set W hH (arr_set (v := .int x) Ar hc W)) (Fr.snoc X' N (Nat.le_add_right _ _))
  exact ⟨s₂, L, stp _ q1, q⟩
theorem Go.lastore {i : Nat} {vs : List Value} {j : Int32} {x : Int64} {H1 : Hp} (hd : Dec M pc .lastore 1 pc') (hH : H[i]? = some (.inr (.long, vs))) (hj : ¬ j < 0) (hl : j.toNatClampNeg < vs.length) (hH1 : H.set i (.inr (.long, vs.set j.toNatClampNeg (.long x))) = H1) (h : Go K M F Lo pc' ls st H1 r) : Go K M F Lo pc ls (.long x :: .int j :: .ref i :: st) H r := by
  obtain ⟨hd, rfl⟩ := hd
  intro R cells slots p e s m args below meth c T locs a1 a2 a3 a4 b1 b2 b3 b4 b5 b6 b7 b8 X S N
  subst hH1
  obtain ⟨cl, Ar, hc⟩ := S.2 i _ hH
  have hin : ¬ (j < 0 ∨ cl.slots.size ≤ j.toNatClampNeg) := by
    rintro (q | q)
    · exact hj q
    · rw [hc] at q; simp at q; omega
  obtain ⟨T', h', X', e', W, stp⟩ := stJ X b1 b2 rfl Ar hin (g := mkF m pc (LL K.2.2.2 ls) (SS K.2.2.2 (.long x :: .int j :: .ref i :: st))) rfl (rest := SS K.2.2.2 st) rfl (b3 ▸ hd)
  subst e'
  obtain ⟨s₂, L, q1, q⟩ := h R cells slots p e s m args below meth c T' _ a1 a2 a3 a4 b1 b2 b3 b4 b5 b6 b7 b8 X' (S.set W hH (arr_set (v := .long x) Ar hc W)) (Fr.snoc X' N (Nat.le_add_right _ _))
  exact ⟨s₂, L, stp _ q1, q⟩
theorem Go.castore {i : Nat} {vs : List Value} {j : Int32} {x : Int32} {H1 : Hp} (hd : Dec M pc .castore 1 pc') (hH : H[i]? = some (.inr (.char, vs))) (hj : ¬ j < 0) (hl : j.toNatClampNeg < vs.length) (hH1 : H.set i (.inr (.char, vs.set j.toNatClampNeg (.int (nar .char x)))) = H1) (h : Go K M F Lo pc' ls st H1 r) : Go K M F Lo pc ls (.int x :: .int j :: .ref i :: st) H r := by
  obtain ⟨hd, rfl⟩ := hd
  intro R cells slots p e s m args below meth c T locs a1 a2 a3 a4 b1 b2 b3 b4 b5 b6 b7 b8 X S N
  subst hH1
  obtain ⟨cl, Ar, hc⟩ := S.2 i _ hH
  have hin : ¬ (j < 0 ∨ cl.slots.size ≤ j.toNatClampNeg) := by
    rintro (q | q)
    · exact hj q
    · rw [hc] at q; simp at q; omega
  obtain ⟨T', h', X', e', W, stp⟩ := stC X b1 b2 rfl Ar hin (g := mkF m pc (LL K.2.2.2 ls) (SS K.2.2.2 (.int x :: .int j :: .ref i :: st))) rfl (rest := SS K.2.2.2 st) rfl (b3 ▸ hd)
  subst e'
  obtain ⟨s₂, L, q1, q⟩ := h R cells slots p e s m args below meth c T' _ a1 a2 a3 a4 b1 b2 b3 b4 b5 b6 b7 b8 X' (S.set W hH (arr_set (v := .int (nar .char x)) Ar hc W)) (Fr.snoc X' N (Nat.le_add_right _ _))
  exact ⟨s₂, L, stp _ q1, q⟩
theorem Go.bastore {i : Nat} {vs : List Value} {j : Int32} {x : Int32} {H1 : Hp} (hd : Dec M pc .bastore 1 pc') (hH : H[i]? = some (.inr (.byte, vs))) (hj : ¬ j < 0) (hl : j.toNatClampNeg < vs.length) (hH1 : H.set i (.inr (.byte, vs.set j.toNatClampNeg (.int (nar .byte x)))) = H1) (h : Go K M F Lo pc' ls st H1 r) : Go K M F Lo pc ls (.int x :: .int j :: .ref i :: st) H r := by
  obtain ⟨hd, rfl⟩ := hd
  intro R cells slots p e s m args below meth c T locs a1 a2 a3 a4 b1 b2 b3 b4 b5 b6 b7 b8 X S N
  subst hH1
  obtain ⟨cl, Ar, hc⟩ := S.2 i _ hH
  have hin : ¬ (j < 0 ∨ cl.slots.size ≤ j.toNatClampNeg) := by
    rintro (q | q)
    · exact hj q
    · rw [hc] at q; simp at q; omega
  obtain ⟨T', h', X', e', W, stp⟩ := stB X b1 b2 rfl Ar hin (g := mkF m pc (LL K.2.2.2 ls) (SS K.2.2.2 (.int x :: .int j :: .ref i :: st))) rfl (rest := SS K.2.2.2 st) rfl (b3 ▸ hd)
  subst e'
  obtain ⟨s₂, L, q1, q⟩ := h R cells slots p e s m args below meth c T' _ a1 a2 a3 a4 b1 b2 b3 b4 b5 b6 b7 b8 X' (S.set W hH (arr_set (v := .int (nar .byte x)) Ar hc W)) (Fr.snoc X' N (Nat.le_add_right _ _))
  exact ⟨s₂, L, stp _ q1, q⟩
/-! ## 9. returns -/
theorem Go.retW {i : Instr} {v : Value} {t : FieldType} {dc ds : Nat} {H' : Option Hp} (hH : HOk H H') (hd : Dec M pc i 1 pc') (ht : M.2.2.2 = some t) (hn : ∀ n0, narrow t (sv n0 v) = sv n0 v)
    (hi : ∀ n0, (i = .ireturn ∧ (t = .int ∨ t = .boolean ∨ t = .byte ∨ t = .char ∨ t = .short) ∧ ∃ z, sv n0 v = .int z) ∨ (i = .lreturn ∧ t = .long ∧ ∃ z, sv n0 v = .long z) ∨ (i = .dreturn ∧ t = .double ∧ ∃ z, sv n0 v = .double z) ∨ (i = .freturn ∧ t = .float ∧ ∃ z, sv n0 v = .float z) ∨ (i = .areturn ∧ t.isReference = true ∧ (sv n0 v).isRef = true)) : Go K M F Lo pc ls (v :: st) H (some v, H', dc, ds) := by
  intro R cells slots p e s m args below meth c T locs a1 a2 a3 a4 b1 b2 b3 b4 b5 b6 b7 b8 X S N
  obtain ⟨fs, hr, hrun, hended, hW, hsame⟩ := X.leave (v := some (sv K.2.2.2 v)) (fun q => by rw [b5, ht] at q; cases q) b6
  exact ⟨_, locs, retOut X b1 (b5.trans ht) (hn _) (hi _) (b3 ▸ hd.1) hr, hrun, hended, hH.fin S, N, ⟨_, rfl⟩, hW, hsame.mono (Nat.le_add_right _ _) (Nat.le_add_right _ _)⟩
theorem Go.ireturn {v : Int32} {dc ds : Nat} {rv : Option Value} {H' : Option Hp} (hd : Dec M pc .ireturn 1 pc') (ht : M.2.2.2 = some .int) (hv : rv = some (.int v)) (hH : HOk H H') : Go K M F Lo pc ls (.int v :: st) H (rv, H', dc, ds) := by
  subst hv
  exact Go.retW hH hd ht (fun _ => rfl) (fun _ => Or.inl ⟨rfl, Or.inl rfl, _, rfl⟩)
theorem Go.ireturnZ {v : Int32} {dc ds : Nat} {rv : Option Value} {H' : Option Hp} (hd : Dec M pc .ireturn 1 pc') (ht : M.2.2.2 = some .boolean) (h01 : v = 0 ∨ v = 1) (hv : rv = some (.int v)) (hH : HOk H H') : Go K M F Lo pc ls (.int v :: st) H (rv, H', dc, ds) := by
  subst hv
  exact Go.retW hH hd ht (fun _ => by rcases h01 with rfl | rfl <;> rfl) (fun _ => Or.inl ⟨rfl, Or.inr (Or.inl rfl), _, rfl⟩)
theorem Go.lreturn {v : Int64} {dc ds : Nat} {rv : Option Value} {H' : Option Hp} (hd : Dec M pc .lreturn 1 pc') (ht : M.2.2.2 = some .long) (hv : rv = some (.long v)) (hH : HOk H H') : Go K M F Lo pc ls (.long v :: st) H (rv, H', dc, ds) := by
  subst hv
  exact Go.retW hH hd ht (fun _ => rfl) (fun _ => Or.inr (Or.inl ⟨rfl, rfl, _, rfl⟩))
theorem Go.areturn {v : Value} {t : FieldType} {dc ds : Nat} {rv : Option Value} {H' : Option Hp} (hd : Dec M pc .areturn 1 pc') (ht : M.2.2.2 = some t) (htr : t.isReference = true) (hr : v.isRef = true) (hv : rv = some v) (hH : HOk H H') : Go K M F Lo pc ls (v :: st) H (rv, H', dc, ds) := by
  subst hv
  refine Go.retW hH hd ht (fun _ => ?_) (fun _ => Or.inr (Or.inr (Or.inr (Or.inr ⟨rfl, htr, by rw [sv_ref]; exact hr⟩))))
  rcases ref_cases hr with rfl | ⟨a, rfl⟩ <;> cases t <;> first | rfl | (simp [FieldType.isReference] at htr)
theorem Go.ret {dc ds : Nat} {rv : Option Value} {H' : Option Hp} (hd : Dec M pc .return_ 1 pc') (ht : M.2.2.2 = none) (hv : rv = none) (hH : HOk H H') : Go K M F Lo pc ls [] H (rv, H', dc, ds) := by
  subst hv
  intro R cells slots p e s m args below meth c T locs a1 a2 a3 a4 b1 b2 b3 b4 b5 b6 b7 b8 X S N
  obtain ⟨fs, hr, hrun, hended, hW, hsame⟩ := X.leave (v := none) (fun _ => rfl) b6
  exact ⟨_, locs, X.returnOut b1 (b5.trans ht) (b3 ▸ hd.1) hr, hrun, hended, hH.fin S, N, ⟨_, rfl⟩, hW, hsame.mono (Nat.le_add_right _ _) (Nat.le_add_right _ _)⟩
/-! ## 10. a whole invocation; calls -/
def ent (as : List Value) (mx : Nat) : List Slot := Jvm.Sym.laidSlots as ++ List.replicate (mx - (Jvm.Sym.laidSlots as).length) .unset
theorem laid_map (n0 : Nat) (as : List Value) : Jvm.Sym.laidSlots (as.map (sv n0)) = (Jvm.Sym.laidSlots as).map (ss n0) := by
  induction as with
  | nil => rfl
  | cons v r ih =>
    simp only [List.map_cons, Jvm.Sym.laidSlots, sv_cat, ih]
    split <;> rfl
theorem ent_map (n0 : Nat) (as : List Value) (mx : Nat) : Jvm.Sym.laidSlots (as.map (sv n0)) ++ List.replicate (mx - (Jvm.Sym.laidSlots (as.map (sv n0))).length) .unset = (LL n0 (ent as mx)).toList := by
  rw [laid_map, List.length_map, LL, ent, List.map_append, List.map_replicate]
  rfl
theorem Go.met {as : List Value} {ws : List Jvm.Cond} {rm : Room} {h : Heap} {rv : Option Value} {H' : Option Hp} (hpn : plainName M.1.cls = true) (S : Sim K h H) (hls : ent as M.2.2.1 = ls) (g : Go K M rm.frames rm.locals 0 ls [] H (rv, H', rm.cells, rm.slots)) :
    MetFree K.1 M.1 (head1 (Jvm.Cond.code M.1 M.2.1 M.2.2.1 M.2.2.2 :: ws) rm) (fun a U => a = (SS K.2.2.2 as).toArray ∧ K.2.1.Warmed39 U.vm ∧ U.heap = h) (fun _ _ _ _ _ => True)
      (fun _ U o U' => ∃ v L, o = .returned v ∧ (v = rv.map (sv K.2.2.2) ∧ FinH K U'.heap H' ∧ Fr K.2.2.2 L) ∧ FrameEnd U o U' L rm.cells rm.slots) := by
  refine MetFree.of_bodySF (plainFor_of_name hpn) hisR ?_
  intro p e s m args below meth c s₁ Bd hml0 hP hK
  obtain ⟨rfl, hZ, hh⟩ := hP
  subst hls
  have X0 : Stand p K.1 e rm s m (SS K.2.2.2 as).toArray below meth c s₁ [] 0 0 := Stand.of_body Bd
  have e0 : s₁.heap = h := by rw [← hh, Bd.state]; rfl
  obtain ⟨s₂, L, q1, q2, q3, q4, q5, q6⟩ := g rm 0 0 p e s m _ below meth c s₁ [] (Nat.le_refl _) (Nat.le_refl _) (Nat.le_of_eq (Nat.zero_add _)) (Nat.le_of_eq (Nat.zero_add _)) Bd.exec hZ Bd.bytes hml0 Bd.returns Bd.notSynchronized (findClass_of_methodNamed Bd.named) (name_of_methodNamed Bd.named Bd.method).1 X0 (by rw [e0]; exact S) (Fr.nil _)
  refine ⟨s₂, _, (XT.entry (Ls := LL K.2.2.2 (ent as M.2.2.1)) (by simpa using ent_map K.2.2.2 as M.2.2.1)).trans q1, q2, q3, _, L, rfl, ⟨rfl, q4, q5⟩, ?_⟩
  have e1 : (0 : Nat) + rm.cells = rm.cells := Nat.zero_add _
  have e2 : (0 : Nat) + rm.slots = rm.slots := Nat.zero_add _
  simp only [e1, e2] at q6
  exact q6
def MInfo (M : Mt) (na : Nat) : Prop := plainName M.1.cls = true ∧ (M.1.cls ≠ "java/lang/invoke/MethodHandle" ∧ M.1.cls ≠ "java/lang/invoke/VarHandle") ∧ (parseMethodDescriptor M.1.desc).map (fun q => q.parameters.length) = some na
instance (M : Mt) (na : Nat) : Decidable (MInfo M na) := inferInstanceAs (Decidable (_ ∧ _ ∧ _))
theorem MInfo.len {M : Mt} {na : Nat} (mi : MInfo M na) {n0 : Nat} {as : List Value} (h : as.length = na) : ∀ sig, parseMethodDescriptor M.1.desc = some sig → (SS n0 as).length = sig.parameters.length := fun sig hs => by
  have q := mi.2.2
  rw [hs] at q
  rw [List.length_map, h]
  exact (Option.some.inj q).symm
theorem Go.back {M' : Mt} {F' Lo' W dc1 ds1 : Nat} {as : List Value} {ls1 : List Slot} {h : Heap} {rv1 : Option Value} {H1 : Hp} {R : Room} {p : Program} {e : Env} {below : List Frame} {s : State} {sargs : Array Value} (g : Go K M' F' Lo' 0 ls1 [] H (rv1, some H1, dc1, ds1)) (hls : ent as M'.2.2.1 = ls1) (hpn : plainName M'.1.cls = true) (S : Sim K h H)
    (hZ : K.2.1.Warmed39 s.vm) (wc : (Jvm.Cond.code M'.1 M'.2.1 M'.2.2.1 M'.2.2.2).before K.2.2.1 K.2.1 = true) (wz : (Jvm.Cond.initialized M'.1.cls).before K.2.2.1 K.2.1 = true) (hf : F' + 1 ≤ R.frames) (hl : W + (M'.2.2.1 + 11) + Lo' ≤ R.locals) :
    Back K.1 R p e below s sargs M'.1 3 W (fun A a => a = (SS K.2.2.2 as).toArray ∧ A.U.heap = h ∧ A.cells + dc1 ≤ R.cells ∧ A.slots + ds1 ≤ R.slots)
      (fun A _ v B => ∃ L, (v = rv1.map (sv K.2.2.2) ∧ FinH K B.U.heap (some H1) ∧ Fr K.2.2.2 L) ∧ B.locs = A.locs ++ L ∧ B.cells = A.cells + dc1 ∧ B.slots = A.slots + ds1) :=
  backOf (rm := ({ frames := F', cells := dc1, slots := ds1, locals := Lo' } : Room)) (Q := fun v hp L => v = rv1.map (sv K.2.2.2) ∧ FinH K hp (some H1) ∧ Fr K.2.2.2 L) (Go.met (ws := []) hpn S hls g) hZ wc wz hf hl
theorem SS_app (n0 : Nat) (as st : List Value) : SS n0 (as.reverse ++ st) = (SS n0 as).reverse ++ SS n0 st := by simp [SS]
theorem SS_ret (n0 : Nat) (rv : Option Value) (st : List Value) : (rv.map (sv n0)).toList ++ SS n0 st = SS n0 (rv.toList ++ st) := by cases rv <;> rfl
theorem Go.callS {idx na W F' Lo' dc1 ds1 dct dst : Nat} {M' : Mt} {as : List Value} {ls1 : List Slot} {st0 : List Value} {rv1 rv : Option Value} {H1 : Hp} {H' : Option Hp} (hd : Dec M pc (.invokestatic idx) 3 pc') (w1 : (Jvm.Cond.methodLink M.1.cls idx M'.1).before K.2.2.1 K.2.1 = true) (w2 : (Jvm.Cond.static M'.1).before K.2.2.1 K.2.1 = true) (w3 : (Jvm.Cond.initialized M'.1.cls).before K.2.2.1 K.2.1 = true) (w4 : (Jvm.Cond.code M'.1 M'.2.1 M'.2.2.1 M'.2.2.2).before K.2.2.1 K.2.1 = true)
    (mi : MInfo M' na) (has : as.length = na) (hsz : ls.length = M.2.2.1) (hst : as.reverse ++ st = st0) (hls : ent as M'.2.2.1 = ls1) (hW : (st.map fun v => v.category).sum = W) (hF : F' + 1 ≤ F) (hLo : W + (M'.2.2.1 + 11) + Lo' ≤ Lo) (g : Go K M' F' Lo' 0 ls1 [] H (rv1, some H1, dc1, ds1))
    (dc ds : Nat) (hdc : dc + dc1 ≤ dct) (hds : ds + ds1 ≤ dst) (h : Go K M F Lo pc' ls (rv1.toList ++ st) H1 (rv, H', dc, ds)) : Go K M F Lo pc ls st0 H (rv, H', dct, dst) := by
  obtain ⟨hd, rfl⟩ := hd
  intro R cells slots p e s m args below meth c T locs a1 a2 a3 a4 b1 b2 b3 b4 b5 b6 b7 b8 X S N
  subst hst
  have a3' : cells + dct ≤ R.cells := a3
  have a4' : slots + dst ≤ R.slots := a4
  obtain ⟨v, vm₁, ⟨T', L1, k1, n1⟩, -, X', ⟨Lc, ⟨hv, S', N'⟩, l1, l2, l3⟩, stp⟩ := Jvm.LawKit.callS X b1 (y := M'.1) b7 (mvT b2 w1) (mvT b2 w2) (mvT b2 w3) (mvT b2 w4) mi.2.1 (g.back (W := W) hls mi.1 S b2 w4 w3 (Nat.le_trans hF a1) (Nat.le_trans hLo a2)) (g := mkF m pc (LL K.2.2.2 ls) (SS K.2.2.2 (as.reverse ++ st))) rfl (by rw [b4, ← hsz]; exact LL_size _ _) (argsL := SS K.2.2.2 as) (rest := SS K.2.2.2 st) (mi.len has) (SS_app _ _ _) (by show 2 * 0 + _ ≤ W; rw [cats, hW]; omega) (b3 ▸ hd) (fun _ _ => ⟨rfl, rfl, by show cells + dc1 ≤ _; omega, by show slots + ds1 ≤ _; omega⟩)
  dsimp only [Pt.U, Pt.locs, Pt.cells, Pt.slots] at X' l1 l2 l3 stp S' hv
  subst l1 l2 l3 hv
  obtain ⟨s₂, L, q1, q2, q3, q4, q5, q6⟩ := h R (cells + dc1) (slots + ds1) p e s m args below meth c T' _ a1 a2 (by show cells + dc1 + dc ≤ _; omega) (by show slots + ds1 + ds ≤ _; omega) b1 b2 b3 b4 b5 b6 b7 b8 X' (S' _ rfl) (N.app N')
  refine ⟨s₂, L, stp _ ?_, q2, q3, q4, q5, q6.1, q6.2.1, q6.2.2.mono (by show cells + dc1 + dc ≤ cells + dct; omega) (by show slots + ds1 + ds ≤ slots + dst; omega)⟩
  rw [← SS_ret] at q1
  exact q1
theorem Go.callI {idx na W F' Lo' dc1 ds1 dct dst i : Nat} {M' : Mt} {as : List Value} {ls1 : List Slot} {st0 : List Value} {rv1 rv : Option Value} {H1 : Hp} {H' : Option Hp} (hd : Dec M pc (.invokespecial idx) 3 pc') (hnm : M'.1.name = "<init>") (hrn : M'.2.2.2 = none) (w1 : (Jvm.Cond.methodLink M.1.cls idx M'.1).before K.2.2.1 K.2.1 = true) (w2 : (Jvm.Cond.instanceMethod M'.1).before K.2.2.1 K.2.1 = true) (w3 : (Jvm.Cond.initialized M'.1.cls).before K.2.2.1 K.2.1 = true) (w4 : (Jvm.Cond.code M'.1 M'.2.1 M'.2.2.1 M'.2.2.2).before K.2.2.1 K.2.1 = true)
    (mi : MInfo M' na) (has : as.length = na) (hsz : ls.length = M.2.2.1) (hst : as.reverse ++ .ref i :: st = st0) (hls : ent (.ref i :: as) M'.2.2.1 = ls1) (hW : (st.map fun v => v.category).sum = W) (hF : F' + 1 ≤ F) (hLo : W + (M'.2.2.1 + 11) + Lo' ≤ Lo) (g : Go K M' F' Lo' 0 ls1 [] H (rv1, some H1, dc1, ds1))
    (dc ds : Nat) (hdc : dc + dc1 ≤ dct) (hds : ds + ds1 ≤ dst) (h : Go K M F Lo pc' ls (rv1.toList ++ st) H1 (rv, H', dc, ds)) : Go K M F Lo pc ls st0 H (rv, H', dct, dst) := by
  obtain ⟨hd, rfl⟩ := hd
  intro R cells slots p e s m args below meth c T locs a1 a2 a3 a4 b1 b2 b3 b4 b5 b6 b7 b8 X S N
  subst hst
  have a3' : cells + dct ≤ R.cells := a3
  have a4' : slots + dst ≤ R.slots := a4
  have hstk : SS K.2.2.2 (as.reverse ++ .ref i :: st) = (SS K.2.2.2 as).reverse ++ .ref (K.2.2.2 + i) :: SS K.2.2.2 st := SS_app _ _ _
  obtain ⟨v, vm₁, ⟨T', L1, k1, n1⟩, -, X', ⟨Lc, ⟨hv, S', N'⟩, l1, l2, l3⟩, stp⟩ := X.specialBack b1 (y := M'.1) hnm b7 (mvT b2 w1) (mvT b2 w2) (mvT b2 (hrn ▸ w4)) mi.2.1 (g.back (as := .ref i :: as) (W := W) hls mi.1 S b2 w4 w3 (Nat.le_trans hF a1) (Nat.le_trans hLo a2)) (g := mkF m pc (LL K.2.2.2 ls) (SS K.2.2.2 (as.reverse ++ .ref i :: st))) rfl (by rw [b4, ← hsz]; exact LL_size _ _) (Steps.refl _) (a := K.2.2.2 + i) (argsL := SS K.2.2.2 as) (rest := SS K.2.2.2 st) (mi.len has) hstk (by show 2 * 0 + _ ≤ W; rw [cats, hW]; omega) (b3 ▸ hd) (fun _ _ => ⟨rfl, rfl, by show cells + dc1 ≤ _; omega, by show slots + ds1 ≤ _; omega⟩)
  dsimp only [Pt.U, Pt.locs, Pt.cells, Pt.slots] at X' l1 l2 l3 stp S' hv
  subst l1 l2 l3 hv
  obtain ⟨s₂, L, q1, q2, q3, q4, q5, q6⟩ := h R (cells + dc1) (slots + ds1) p e s m args below meth c T' _ a1 a2 (by show cells + dc1 + dc ≤ _; omega) (by show slots + ds1 + ds ≤ _; omega) b1 b2 b3 b4 b5 b6 b7 b8 X' (S' _ rfl) (N.app N')
  refine ⟨s₂, L, stp.trans ?_, q2, q3, q4, q5, q6.1, q6.2.1, q6.2.2.mono (by show cells + dc1 + dc ≤ cells + dct; omega) (by show slots + ds1 + ds ≤ slots + dst; omega)⟩
  rw [← SS_ret] at q1
  exact q1
theorem Go.callV {idx na W F' Lo' dc1 ds1 dct dst i : Nat} {M' : Mt} {as : List Value} {ls1 : List Slot} {st0 : List Value} {rv1 rv : Option Value} {H1 : Hp} {H' : Option Hp} {fs : List (String × String × Value)} (hd : Dec M pc (.invokevirtual idx) 3 pc') (hH : H[i]? = some (.inl (M'.1.cls, fs))) (w1 : (Jvm.Cond.methodLink M.1.cls idx M'.1).before K.2.2.1 K.2.1 = true) (w2 : (Jvm.Cond.instanceMethod M'.1).before K.2.2.1 K.2.1 = true) (w3 : (Jvm.Cond.initialized M'.1.cls).before K.2.2.1 K.2.1 = true) (w5 : (Jvm.Cond.declares M'.1).before K.2.2.1 K.2.1 = true) (w6 : (Jvm.Cond.selects M'.1.cls M'.1 M'.1).before K.2.2.1 K.2.1 = true) (w4 : (Jvm.Cond.code M'.1 M'.2.1 M'.2.2.1 M'.2.2.2).before K.2.2.1 K.2.1 = true)
    (mi : MInfo M' na) (has : as.length = na) (hsz : ls.length = M.2.2.1) (hst : as.reverse ++ .ref i :: st = st0) (hls : ent (.ref i :: as) M'.2.2.1 = ls1) (hW : (st.map fun v => v.category).sum = W) (hF : F' + 1 ≤ F) (hLo : W + (M'.2.2.1 + 11) + Lo' ≤ Lo) (g : Go K M' F' Lo' 0 ls1 [] H (rv1, some H1, dc1, ds1))
    (dc ds : Nat) (hdc : dc + dc1 ≤ dct) (hds : ds + ds1 ≤ dst) (h : Go K M F Lo pc' ls (rv1.toList ++ st) H1 (rv, H', dc, ds)) : Go K M F Lo pc ls st0 H (rv, H', dct, dst) := by
  obtain ⟨hd, rfl⟩ := hd
  intro R cells slots p e s m args below meth c T locs a1 a2 a3 a4 b1 b2 b3 b4 b5 b6 b7 b8 X S N
  subst hst
  have a3' : cells + dct ≤ R.cells := a3
  have a4' : slots + dst ≤ R.slots := a4
  have hstk : SS K.2.2.2 (as.reverse ++ .ref i :: st) = (SS K.2.2.2 as).reverse ++ .ref (K.2.2.2 + i) :: SS K.2.2.2 st := SS_app _ _ _
  obtain ⟨cq, kq, qa, qb, qc⟩ := isOf b2 rfl (S.2 i _ hH).1
  obtain ⟨v, vm₁, ⟨T', L1, k1, n1⟩, -, X', ⟨Lc, ⟨hv, S', N'⟩, l1, l2, l3⟩, stp⟩ := X.virtualBack b1 (y := M'.1) (z := M'.1) b7 (mvT b2 w1) (mvT b2 w5) (notFace_of_selects (args := #[]) (mvT b2 w6)) (mvT b2 w6) (mvT b2 w2) mi.2.1 (g.back (as := .ref i :: as) (W := W) hls mi.1 S b2 w4 w3 (Nat.le_trans hF a1) (Nat.le_trans hLo a2)) qa qc (g := mkF m pc (LL K.2.2.2 ls) (SS K.2.2.2 (as.reverse ++ .ref i :: st))) rfl (by rw [b4, ← hsz]; exact LL_size _ _) (Steps.refl _) (argsL := SS K.2.2.2 as) (rest := SS K.2.2.2 st) (mi.len has) hstk (by show 2 * 0 + _ ≤ W; rw [cats, hW]; omega) (b3 ▸ hd) (fun _ _ => ⟨rfl, rfl, by show cells + dc1 ≤ _; omega, by show slots + ds1 ≤ _; omega⟩)
  dsimp only [Pt.U, Pt.locs, Pt.cells, Pt.slots] at X' l1 l2 l3 stp S' hv
  subst l1 l2 l3 hv
  obtain ⟨s₂, L, q1, q2, q3, q4, q5, q6⟩ := h R (cells + dc1) (slots + ds1) p e s m args below meth c T' _ a1 a2 (by show cells + dc1 + dc ≤ _; omega) (by show slots + ds1 + ds ≤ _; omega) b1 b2 b3 b4 b5 b6 b7 b8 X' (S' _ rfl) (N.app N')
  refine ⟨s₂, L, stp.trans ?_, q2, q3, q4, q5, q6.1, q6.2.1, q6.2.2.mono (by show cells + dc1 + dc ≤ cells + dct; omega) (by show slots + ds1 + ds ≤ slots + dst; omega)⟩
  rw [← SS_ret] at q1
  exact q1
theorem Go.callP {idx na W F' Lo' dc1 ds1 dct dst i : Nat} {M' : Mt} {as : List Value} {ls1 : List Slot} {st0 : List Value} {rv1 rv : Option Value} {H1 : Hp} {H' : Option Hp} {kk : Nat} {fs : List (String × String × Value)} (hd : Dec M pc (.invokevirtual idx) 3 pc') (hH : H[i]? = some (.inl (M'.1.cls, fs))) (w1 : (Jvm.Cond.methodLink M.1.cls idx M'.1).before K.2.2.1 K.2.1 = true) (w2 : (Jvm.Cond.instanceMethod M'.1).before K.2.2.1 K.2.1 = true) (w3 : (Jvm.Cond.initialized M'.1.cls).before K.2.2.1 K.2.1 = true) (w5 : (Jvm.Cond.privateMethod M'.1).before K.2.2.1 K.2.1 = true) (w6 : (Jvm.Cond.instantiable M'.1.cls kk).before K.2.2.1 K.2.1 = true) (w4 : (Jvm.Cond.code M'.1 M'.2.1 M'.2.2.1 M'.2.2.2).before K.2.2.1 K.2.1 = true)
    (mi : MInfo M' na) (has : as.length = na) (hsz : ls.length = M.2.2.1) (hst : as.reverse ++ .ref i :: st = st0) (hls : ent (.ref i :: as) M'.2.2.1 = ls1) (hW : (st.map fun v => v.category).sum = W) (hF : F' + 1 ≤ F) (hLo : W + (M'.2.2.1 + 11) + Lo' ≤ Lo) (g : Go K M' F' Lo' 0 ls1 [] H (rv1, some H1, dc1, ds1))
    (dc ds : Nat) (hdc : dc + dc1 ≤ dct) (hds : ds + ds1 ≤ dst) (h : Go K M F Lo pc' ls (rv1.toList ++ st) H1 (rv, H', dc, ds)) : Go K M F Lo pc ls st0 H (rv, H', dct, dst) := by
  obtain ⟨hd, rfl⟩ := hd
  intro R cells slots p e s m args below meth c T locs a1 a2 a3 a4 b1 b2 b3 b4 b5 b6 b7 b8 X S N
  subst hst
  have a3' : cells + dct ≤ R.cells := a3
  have a4' : slots + dst ≤ R.slots := a4
  have hstk : SS K.2.2.2 (as.reverse ++ .ref i :: st) = (SS K.2.2.2 as).reverse ++ .ref (K.2.2.2 + i) :: SS K.2.2.2 st := SS_app _ _ _
  obtain ⟨cq, qa, qb⟩ := (S.2 i _ hH).1.cell
  have hpr : s.PrivateAt M'.1 := Cond.privateMethod_at (mvP b2 w5 (args := #[]))
  have hsel : (Jvm.Cond.selects M'.1.cls M'.1 M'.1).before args s = true := by
    obtain ⟨c9, k9, z1, z2, z3, z4, -⟩ := Cond.instantiable_spec (mvT (args := args) b2 w6)
    refine selects_self_of_private z1 z2 ?_ hpr (mvT b2 w2) mi.2.1
    simp only [Bool.or_eq_false_iff] at z4
    exact z4.1
  obtain ⟨v, vm₁, ⟨T', L1, k1, n1⟩, -, X', ⟨Lc, ⟨hv, S', N'⟩, l1, l2, l3⟩, stp⟩ := X.privateBack b1 (y := M'.1) b7 (mvT b2 w1) (mvT b2 w2) hsel hpr (mvT b2 w4) mi.2.1 (g.back (as := .ref i :: as) (W := W) hls mi.1 S b2 w4 w3 (Nat.le_trans hF a1) (Nat.le_trans hLo a2)) (g := mkF m pc (LL K.2.2.2 ls) (SS K.2.2.2 (as.reverse ++ .ref i :: st))) rfl (by rw [b4, ← hsz]; exact LL_size _ _) (Steps.refl _) (a := K.2.2.2 + i) qa qb (argsL := SS K.2.2.2 as) (rest := SS K.2.2.2 st) (mi.len has) hstk (by show 2 * 0 + _ ≤ W; rw [cats, hW]; omega) (b3 ▸ hd) (fun _ _ => ⟨rfl, rfl, by show cells + dc1 ≤ _; omega, by show slots + ds1 ≤ _; omega⟩)
  dsimp only [Pt.U, Pt.locs, Pt.cells, Pt.slots] at X' l1 l2 l3 stp S' hv
  subst l1 l2 l3 hv
  obtain ⟨s₂, L, q1, q2, q3, q4, q5, q6⟩ := h R (cells + dc1) (slots + ds1) p e s m args below meth c T' _ a1 a2 (by show cells + dc1 + dc ≤ _; omega) (by show slots + ds1 + ds ≤ _; omega) b1 b2 b3 b4 b5 b6 b7 b8 X' (S' _ rfl) (N.app N')
  refine ⟨s₂, L, stp.trans ?_, q2, q3, q4, q5, q6.1, q6.2.1, q6.2.2.mono (by show cells + dc1 + dc ≤ cells + dct; omega) (by show slots + ds1 + ds ≤ slots + dst; omega)⟩
  rw [← SS_ret] at q1
  exact q1
theorem Go.initObj {idx i W : Nat} (hd : Dec M pc (.invokespecial idx) 3 pc') (w1 : (Jvm.Cond.methodLink M.1.cls idx Lib.objectInit).before K.2.2.1 K.2.1 = true) (w2 : (Jvm.Cond.instanceMethod Lib.objectInit).before K.2.2.1 K.2.1 = true) (w3 : (Jvm.Cond.code Lib.objectInit ⟨#[0xb1]⟩ 1 none).before K.2.2.1 K.2.1 = true)
    (hsz : ls.length = M.2.2.1) (hW : (st.map fun v => v.category).sum = W) (hF : 1 ≤ F) (hLo : W + 12 ≤ Lo) (h : Go K M F Lo pc' ls st H r) : Go K M F Lo pc ls (.ref i :: st) H r := by
  obtain ⟨hd, rfl⟩ := hd
  intro R cells slots p e s m args below meth c T locs a1 a2 a3 a4 b1 b2 b3 b4 b5 b6 b7 b8 X S N
  obtain ⟨T', X', e', stp⟩ := initO X b1 b2 b7 w1 w2 w3 rfl (g := mkF m pc (LL K.2.2.2 ls) (SS K.2.2.2 (.ref i :: st))) rfl (by rw [b4, ← hsz]; exact LL_size _ _) (rest := SS K.2.2.2 st) rfl (b3 ▸ hd) (Nat.le_trans hF a1) (W := W) (by show 2 * 0 + _ ≤ W; rw [cats, hW]; omega) (Nat.le_trans hLo a2)
  obtain ⟨s₂, L, q1, q⟩ := h R cells slots p e s m args below meth c T' locs a1 a2 a3 a4 b1 b2 b3 b4 b5 b6 b7 b8 X' (e' ▸ S) N
  exact ⟨s₂, L, stp _ q1, q⟩
end G
end Jvm.OwnGo
namespace Jvm.Pilot.@@N@@
open Jvm Jvm.ClassFile Sem Op Lib Jvm.Free Jvm.Stand Jvm.LawKit Jvm.RoadKit Bundle Jvm.Pilot.@@N@@.Jvm.D Jvm.OwnGo
abbrev m0 : Mt := (x, code, maxLocals, ret)
theorem mi0 : MInfo m0 2 := by decide +kernel
theorem d0_0 : Dec m0 0 (.iload_n 1) 1 1 := by decide +kernel
theorem d0_1 : Dec m0 1 (.iconst 3) 1 2 := by decide +kernel
theorem d0_2 : Dec m0 2 (.iand) 1 3 := by decide +kernel
theorem d0_3 : Dec m0 3 (.istore_n 2) 1 4 := by decide +kernel
theorem d0_4 : Dec m0 4 (.iload_n 2) 1 5 := by decide +kernel
theorem d0_5 : Dec m0 5 (.ifCond .ne 8) 3 8 := by decide +kernel
theorem j0_5 : Jmp 5 (8) 13 := by decide
theorem d0_8 : Dec m0 8 (.iload_n 0) 1 9 := by decide +kernel
theorem d0_9 : Dec m0 9 (.istore_n 3) 1 10 := by decide +kernel
theorem d0_10 : Dec m0 10 (.goto 35) 3 13 := by decide +kernel
theorem j0_10 : Jmp 10 (35) 45 := by decide
theorem d0_13 : Dec m0 13 (.iload_n 2) 1 14 := by decide +kernel
theorem d0_14 : Dec m0 14 (.iconst 1) 1 15 := by decide +kernel
theorem d0_15 : Dec m0 15 (.if_icmp .ne 11) 3 18 := by decide +kernel
theorem j0_15 : Jmp 15 (11) 26 := by decide
theorem d0_18 : Dec m0 18 (.iload_n 0) 1 19 := by decide +kernel
theorem d0_19 : Dec m0 19 (.ldc 14) 2 21 := by decide +kernel
theorem d0_21 : Dec m0 21 (.iand) 1 22 := by decide +kernel
theorem d0_22 : Dec m0 22 (.istore_n 3) 1 23 := by decide +kernel
theorem d0_23 : Dec m0 23 (.goto 22) 3 26 := by decide +kernel
theorem j0_23 : Jmp 23 (22) 45 := by decide
theorem d0_26 : Dec m0 26 (.iload_n 2) 1 27 := by decide +kernel
theorem d0_27 : Dec m0 27 (.iconst 2) 1 28 := by decide +kernel
theorem d0_28 : Dec m0 28 (.if_icmp .ne 11) 3 31 := by decide +kernel
theorem j0_28 : Jmp 28 (11) 39 := by decide
theorem d0_31 : Dec m0 31 (.iload_n 0) 1 32 := by decide +kernel
theorem d0_32 : Dec m0 32 (.ldc 15) 2 34 := by decide +kernel
theorem d0_34 : Dec m0 34 (.iand) 1 35 := by decide +kernel
theorem d0_35 : Dec m0 35 (.istore_n 3) 1 36 := by decide +kernel
theorem d0_36 : Dec m0 36 (.goto 9) 3 39 := by decide +kernel
theorem j0_36 : Jmp 36 (9) 45 := by decide
theorem d0_39 : Dec m0 39 (.iload_n 0) 1 40 := by decide +kernel
theorem d0_40 : Dec m0 40 (.sipush 255) 3 43 := by decide +kernel
theorem d0_43 : Dec m0 43 (.iand) 1 44 := by decide +kernel
theorem d0_44 : Dec m0 44 (.istore_n 3) 1 45 := by decide +kernel
theorem d0_45 : Dec m0 45 (.iload_n 3) 1 46 := by decide +kernel
theorem d0_46 : Dec m0 46 (.invokestatic 16) 3 49 := by decide +kernel
theorem d0_49 : Dec m0 49 (.iload_n 3) 1 50 := by decide +kernel
theorem d0_50 : Dec m0 50 (.invokestatic 22) 3 53 := by decide +kernel
theorem d0_53 : Dec m0 53 (.if_icmp .ne 7) 3 56 := by decide +kernel
theorem j0_53 : Jmp 53 (7) 60 := by decide
theorem d0_56 : Dec m0 56 (.iconst 1) 1 57 := by decide +kernel
theorem d0_57 : Dec m0 57 (.goto 4) 3 60 := by decide +kernel
theorem j0_57 : Jmp 57 (4) 61 := by decide
theorem d0_60 : Dec m0 60 (.iconst 0) 1 61 := by decide +kernel
theorem d0_61 : Dec m0 61 (.ireturn) 1 62 := by decide +kernel
abbrev m1 : Mt := (⟨"com/example/psvi/psvi/xml/XmlNames", "isNameStartChar", "(I)Z"⟩, prog_213_method_8_code, 1, some .boolean)
theorem mi1 : MInfo m1 1 := by decide +kernel
theorem d1_0 : Dec m1 0 (.iload_n 0) 1 1 := by decide +kernel
theorem d1_1 : Dec m1 1 (.bipush 97) 2 3 := by decide +kernel
theorem d1_3 : Dec m1 3 (.if_icmp .lt 9) 3 6 := by decide +kernel
theorem j1_3 : Jmp 3 (9) 12 := by decide
theorem d1_6 : Dec m1 6 (.iload_n 0) 1 7 := by decide +kernel
theorem d1_7 : Dec m1 7 (.bipush 122) 2 9 := by decide +kernel
theorem d1_9 : Dec m1 9 (.if_icmp .le 188) 3 12 := by decide +kernel
theorem j1_9 : Jmp 9 (188) 197 := by decide
theorem d1_12 : Dec m1 12 (.iload_n 0) 1 13 := by decide +kernel
theorem d1_13 : Dec m1 13 (.bipush 65) 2 15 := by decide +kernel
theorem d1_15 : Dec m1 15 (.if_icmp .lt 9) 3 18 := by decide +kernel
theorem j1_15 : Jmp 15 (9) 24 := by decide
theorem d1_18 : Dec m1 18 (.iload_n 0) 1 19 := by decide +kernel
theorem d1_19 : Dec m1 19 (.bipush 90) 2 21 := by decide +kernel
theorem d1_21 : Dec m1 21 (.if_icmp .le 176) 3 24 := by decide +kernel
theorem j1_21 : Jmp 21 (176) 197 := by decide
theorem d1_24 : Dec m1 24 (.iload_n 0) 1 25 := by decide +kernel
theorem d1_25 : Dec m1 25 (.bipush 95) 2 27 := by decide +kernel
theorem d1_27 : Dec m1 27 (.if_icmp .eq 170) 3 30 := by decide +kernel
theorem j1_27 : Jmp 27 (170) 197 := by decide
theorem d1_30 : Dec m1 30 (.iload_n 0) 1 31 := by decide +kernel
theorem d1_31 : Dec m1 31 (.bipush 58) 2 33 := by decide +kernel
theorem d1_33 : Dec m1 33 (.if_icmp .eq 164) 3 36 := by decide +kernel
theorem j1_33 : Jmp 33 (164) 197 := by decide
theorem d1_36 : Dec m1 36 (.iload_n 0) 1 37 := by decide +kernel
theorem d1_37 : Dec m1 37 (.sipush 192) 3 40 := by decide +kernel
theorem d1_40 : Dec m1 40 (.if_icmp .lt 10) 3 43 := by decide +kernel
theorem j1_40 : Jmp 40 (10) 50 := by decide
theorem d1_43 : Dec m1 43 (.iload_n 0) 1 44 := by decide +kernel
theorem d1_44 : Dec m1 44 (.sipush 214) 3 47 := by decide +kernel
theorem d1_47 : Dec m1 47 (.if_icmp .le 150) 3 50 := by decide +kernel
theorem j1_47 : Jmp 47 (150) 197 := by decide
theorem d1_50 : Dec m1 50 (.iload_n 0) 1 51 := by decide +kernel
theorem d1_51 : Dec m1 51 (.sipush 216) 3 54 := by decide +kernel
theorem d1_54 : Dec m1 54 (.if_icmp .lt 10) 3 57 := by decide +kernel
theorem j1_54 : Jmp 54 (10) 64 := by decide
theorem d1_57 : Dec m1 57 (.iload_n 0) 1 58 := by decide +kernel
theorem d1_58 : Dec m1 58 (.sipush 246) 3 61 := by decide +kernel
theorem d1_61 : Dec m1 61 (.if_icmp .le 136) 3 64 := by decide +kernel
theorem j1_61 : Jmp 61 (136) 197 := by decide
theorem d1_64 : Dec m1 64 (.iload_n 0) 1 65 := by decide +kernel
theorem d1_65 : Dec m1 65 (.sipush 248) 3 68 := by decide +kernel
theorem d1_68 : Dec m1 68 (.if_icmp .lt 10) 3 71 := by decide +kernel
theorem j1_68 : Jmp 68 (10) 78 := by decide
theorem d1_71 : Dec m1 71 (.iload_n 0) 1 72 := by decide +kernel
theorem d1_72 : Dec m1 72 (.sipush 767) 3 75 := by decide +kernel
theorem d1_75 : Dec m1 75 (.if_icmp .le 122) 3 78 := by decide +kernel
theorem j1_75 : Jmp 75 (122) 197 := by decide
theorem d1_78 : Dec m1 78 (.iload_n 0) 1 79 := by decide +kernel
theorem d1_79 : Dec m1 79 (.sipush 880) 3 82 := by decide +kernel
theorem d1_82 : Dec m1 82 (.if_icmp .lt 10) 3 85 := by decide +kernel
theorem j1_82 : Jmp 82 (10) 92 := by decide
theorem d1_85 : Dec m1 85 (.iload_n 0) 1 86 := by decide +kernel
theorem d1_86 : Dec m1 86 (.sipush 893) 3 89 := by decide +kernel
theorem d1_89 : Dec m1 89 (.if_icmp .le 108) 3 92 := by decide +kernel
theorem j1_89 : Jmp 89 (108) 197 := by decide
theorem d1_92 : Dec m1 92 (.iload_n 0) 1 93 := by decide +kernel
theorem d1_93 : Dec m1 93 (.sipush 895) 3 96 := by decide +kernel
theorem d1_96 : Dec m1 96 (.if_icmp .lt 10) 3 99 := by decide +kernel
theorem j1_96 : Jmp 96 (10) 106 := by decide
theorem d1_99 : Dec m1 99 (.iload_n 0) 1 100 := by decide +kernel
theorem d1_100 : Dec m1 100 (.sipush 8191) 3 103 := by decide +kernel
theorem d1_103 : Dec m1 103 (.if_icmp .le 94) 3 106 := by decide +kernel
theorem j1_103 : Jmp 103 (94) 197 := by decide
theorem d1_106 : Dec m1 106 (.iload_n 0) 1 107 := by decide +kernel
theorem d1_107 : Dec m1 107 (.sipush 8204) 3 110 := by decide +kernel
theorem d1_110 : Dec m1 110 (.if_icmp .lt 10) 3 113 := by decide +kernel
theorem j1_110 : Jmp 110 (10) 120 := by decide
theorem d1_113 : Dec m1 113 (.iload_n 0) 1 114 := by decide +kernel
theorem d1_114 : Dec m1 114 (.sipush 8205) 3 117 := by decide +kernel
theorem d1_117 : Dec m1 117 (.if_icmp .le 80) 3 120 := by decide +kernel
theorem j1_117 : Jmp 117 (80) 197 := by decide
theorem d1_120 : Dec m1 120 (.iload_n 0) 1 121 := by decide +kernel
theorem d1_121 : Dec m1 121 (.sipush 8304) 3 124 := by decide +kernel
theorem d1_124 : Dec m1 124 (.if_icmp .lt 10) 3 127 := by decide +kernel
theorem j1_124 : Jmp 124 (10) 134 := by decide
theorem d1_127 : Dec m1 127 (.iload_n 0) 1 128 := by decide +kernel
theorem d1_128 : Dec m1 128 (.sipush 8591) 3 131 := by decide +kernel
theorem d1_131 : Dec m1 131 (.if_icmp .le 66) 3 134 := by decide +kernel
theorem j1_131 : Jmp 131 (66) 197 := by decide
theorem d1_134 : Dec m1 134 (.iload_n 0) 1 135 := by decide +kernel
theorem d1_135 : Dec m1 135 (.sipush 11264) 3 138 := by decide +kernel
theorem d1_138 : Dec m1 138 (.if_icmp .lt 10) 3 141 := by decide +kernel
theorem j1_138 : Jmp 138 (10) 148 := by decide
theorem d1_141 : Dec m1 141 (.iload_n 0) 1 142 := by decide +kernel
theorem d1_142 : Dec m1 142 (.sipush 12271) 3 145 := by decide +kernel
theorem d1_145 : Dec m1 145 (.if_icmp .le 52) 3 148 := by decide +kernel
theorem j1_145 : Jmp 145 (52) 197 := by decide
theorem d1_148 : Dec m1 148 (.iload_n 0) 1 149 := by decide +kernel
theorem d1_149 : Dec m1 149 (.sipush 12289) 3 152 := by decide +kernel
theorem d1_152 : Dec m1 152 (.if_icmp .lt 9) 3 155 := by decide +kernel
theorem j1_152 : Jmp 152 (9) 161 := by decide
theorem d1_155 : Dec m1 155 (.iload_n 0) 1 156 := by decide +kernel
theorem d1_156 : Dec m1 156 (.ldc 7) 2 158 := by decide +kernel
theorem d1_158 : Dec m1 158 (.if_icmp .le 39) 3 161 := by decide +kernel
theorem j1_158 : Jmp 158 (39) 197 := by decide
theorem d1_161 : Dec m1 161 (.iload_n 0) 1 162 := by decide +kernel
theorem d1_162 : Dec m1 162 (.ldc 47) 2 164 := by decide +kernel
theorem d1_164 : Dec m1 164 (.if_icmp .lt 9) 3 167 := by decide +kernel
theorem j1_164 : Jmp 164 (9) 173 := by decide
theorem d1_167 : Dec m1 167 (.iload_n 0) 1 168 := by decide +kernel
theorem d1_168 : Dec m1 168 (.ldc 48) 2 170 := by decide +kernel
theorem d1_170 : Dec m1 170 (.if_icmp .le 27) 3 173 := by decide +kernel
theorem j1_170 : Jmp 170 (27) 197 := by decide
theorem d1_173 : Dec m1 173 (.iload_n 0) 1 174 := by decide +kernel
theorem d1_174 : Dec m1 174 (.ldc 49) 2 176 := by decide +kernel
theorem d1_176 : Dec m1 176 (.if_icmp .lt 9) 3 179 := by decide +kernel
theorem j1_176 : Jmp 176 (9) 185 := by decide
theorem d1_179 : Dec m1 179 (.iload_n 0) 1 180 := by decide +kernel
theorem d1_180 : Dec m1 180 (.ldc 9) 2 182 := by decide +kernel
theorem d1_182 : Dec m1 182 (.if_icmp .le 15) 3 185 := by decide +kernel
theorem j1_182 : Jmp 182 (15) 197 := by decide
theorem d1_185 : Dec m1 185 (.iload_n 0) 1 186 := by decide +kernel
theorem d1_186 : Dec m1 186 (.ldc 12) 2 188 := by decide +kernel
theorem d1_188 : Dec m1 188 (.if_icmp .lt 13) 3 191 := by decide +kernel
theorem j1_188 : Jmp 188 (13) 201 := by decide
theorem d1_191 : Dec m1 191 (.iload_n 0) 1 192 := by decide +kernel
theorem d1_192 : Dec m1 192 (.ldc 50) 2 194 := by decide +kernel
theorem d1_194 : Dec m1 194 (.if_icmp .gt 7) 3 197 := by decide +kernel
theorem j1_194 : Jmp 194 (7) 201 := by decide
theorem d1_197 : Dec m1 197 (.iconst 1) 1 198 := by decide +kernel
theorem d1_198 : Dec m1 198 (.goto 4) 3 201 := by decide +kernel
theorem j1_198 : Jmp 198 (4) 202 := by decide
theorem d1_201 : Dec m1 201 (.iconst 0) 1 202 := by decide +kernel
theorem d1_202 : Dec m1 202 (.ireturn) 1 203 := by decide +kernel
abbrev m2 : Mt := (⟨"com/example/psvi/psvi/xml/XmlNamesIsNameStartCharPinLaw", "expected", "(I)Z"⟩, method_2_code, 1, some .boolean)
theorem mi2 : MInfo m2 1 := by decide +kernel
theorem d2_0 : Dec m2 0 (.iload_n 0) 1 1 := by decide +kernel
theorem d2_1 : Dec m2 1 (.ifCond .ge 5) 3 4 := by decide +kernel
theorem j2_1 : Jmp 1 (5) 6 := by decide
theorem d2_4 : Dec m2 4 (.iconst 0) 1 5 := by decide +kernel
theorem d2_5 : Dec m2 5 (.ireturn) 1 6 := by decide +kernel
theorem d2_6 : Dec m2 6 (.iload_n 0) 1 7 := by decide +kernel
theorem d2_7 : Dec m2 7 (.sipush 128) 3 10 := by decide +kernel
theorem d2_10 : Dec m2 10 (.if_icmp .ge 45) 3 13 := by decide +kernel
theorem j2_10 : Jmp 10 (45) 55 := by decide
theorem d2_13 : Dec m2 13 (.iload_n 0) 1 14 := by decide +kernel
theorem d2_14 : Dec m2 14 (.bipush 97) 2 16 := by decide +kernel
theorem d2_16 : Dec m2 16 (.if_icmp .lt 9) 3 19 := by decide +kernel
theorem j2_16 : Jmp 16 (9) 25 := by decide
theorem d2_19 : Dec m2 19 (.iload_n 0) 1 20 := by decide +kernel
theorem d2_20 : Dec m2 20 (.bipush 122) 2 22 := by decide +kernel
theorem d2_22 : Dec m2 22 (.if_icmp .le 27) 3 25 := by decide +kernel
theorem j2_22 : Jmp 22 (27) 49 := by decide
theorem d2_25 : Dec m2 25 (.iload_n 0) 1 26 := by decide +kernel
theorem d2_26 : Dec m2 26 (.bipush 65) 2 28 := by decide +kernel
theorem d2_28 : Dec m2 28 (.if_icmp .lt 9) 3 31 := by decide +kernel
theorem j2_28 : Jmp 28 (9) 37 := by decide
theorem d2_31 : Dec m2 31 (.iload_n 0) 1 32 := by decide +kernel
theorem d2_32 : Dec m2 32 (.bipush 90) 2 34 := by decide +kernel
theorem d2_34 : Dec m2 34 (.if_icmp .le 15) 3 37 := by decide +kernel
theorem j2_34 : Jmp 34 (15) 49 := by decide
theorem d2_37 : Dec m2 37 (.iload_n 0) 1 38 := by decide +kernel
theorem d2_38 : Dec m2 38 (.bipush 95) 2 40 := by decide +kernel
theorem d2_40 : Dec m2 40 (.if_icmp .eq 9) 3 43 := by decide +kernel
theorem j2_40 : Jmp 40 (9) 49 := by decide
theorem d2_43 : Dec m2 43 (.iload_n 0) 1 44 := by decide +kernel
theorem d2_44 : Dec m2 44 (.bipush 58) 2 46 := by decide +kernel
theorem d2_46 : Dec m2 46 (.if_icmp .ne 7) 3 49 := by decide +kernel
theorem j2_46 : Jmp 46 (7) 53 := by decide
theorem d2_49 : Dec m2 49 (.iconst 1) 1 50 := by decide +kernel
theorem d2_50 : Dec m2 50 (.goto 4) 3 53 := by decide +kernel
theorem j2_50 : Jmp 50 (4) 54 := by decide
theorem d2_53 : Dec m2 53 (.iconst 0) 1 54 := by decide +kernel
theorem d2_54 : Dec m2 54 (.ireturn) 1 55 := by decide +kernel
theorem d2_55 : Dec m2 55 (.iload_n 0) 1 56 := by decide +kernel
theorem d2_56 : Dec m2 56 (.sipush 768) 3 59 := by decide +kernel
theorem d2_59 : Dec m2 59 (.if_icmp .ge 30) 3 62 := by decide +kernel
theorem j2_59 : Jmp 59 (30) 89 := by decide
theorem d2_62 : Dec m2 62 (.iload_n 0) 1 63 := by decide +kernel
theorem d2_63 : Dec m2 63 (.sipush 192) 3 66 := by decide +kernel
theorem d2_66 : Dec m2 66 (.if_icmp .lt 21) 3 69 := by decide +kernel
theorem j2_66 : Jmp 66 (21) 87 := by decide
theorem d2_69 : Dec m2 69 (.iload_n 0) 1 70 := by decide +kernel
theorem d2_70 : Dec m2 70 (.sipush 215) 3 73 := by decide +kernel
theorem d2_73 : Dec m2 73 (.if_icmp .eq 14) 3 76 := by decide +kernel
theorem j2_73 : Jmp 73 (14) 87 := by decide
theorem d2_76 : Dec m2 76 (.iload_n 0) 1 77 := by decide +kernel
theorem d2_77 : Dec m2 77 (.sipush 247) 3 80 := by decide +kernel
theorem d2_80 : Dec m2 80 (.if_icmp .eq 7) 3 83 := by decide +kernel
theorem j2_80 : Jmp 80 (7) 87 := by decide
theorem d2_83 : Dec m2 83 (.iconst 1) 1 84 := by decide +kernel
theorem d2_84 : Dec m2 84 (.goto 4) 3 87 := by decide +kernel
theorem j2_84 : Jmp 84 (4) 88 := by decide
theorem d2_87 : Dec m2 87 (.iconst 0) 1 88 := by decide +kernel
theorem d2_88 : Dec m2 88 (.ireturn) 1 89 := by decide +kernel
theorem d2_89 : Dec m2 89 (.iload_n 0) 1 90 := by decide +kernel
theorem d2_90 : Dec m2 90 (.sipush 880) 3 93 := by decide +kernel
theorem d2_93 : Dec m2 93 (.if_icmp .ge 5) 3 96 := by decide +kernel
theorem j2_93 : Jmp 93 (5) 98 := by decide
theorem d2_96 : Dec m2 96 (.iconst 0) 1 97 := by decide +kernel
theorem d2_97 : Dec m2 97 (.ireturn) 1 98 := by decide +kernel
theorem d2_98 : Dec m2 98 (.iload_n 0) 1 99 := by decide +kernel
theorem d2_99 : Dec m2 99 (.sipush 8192) 3 102 := by decide +kernel
theorem d2_102 : Dec m2 102 (.if_icmp .ge 16) 3 105 := by decide +kernel
theorem j2_102 : Jmp 102 (16) 118 := by decide
theorem d2_105 : Dec m2 105 (.iload_n 0) 1 106 := by decide +kernel
theorem d2_106 : Dec m2 106 (.sipush 894) 3 109 := by decide +kernel
theorem d2_109 : Dec m2 109 (.if_icmp .eq 7) 3 112 := by decide +kernel
theorem j2_109 : Jmp 109 (7) 116 := by decide
theorem d2_112 : Dec m2 112 (.iconst 1) 1 113 := by decide +kernel
theorem d2_113 : Dec m2 113 (.goto 4) 3 116 := by decide +kernel
theorem j2_113 : Jmp 113 (4) 117 := by decide
theorem d2_116 : Dec m2 116 (.iconst 0) 1 117 := by decide +kernel
theorem d2_117 : Dec m2 117 (.ireturn) 1 118 := by decide +kernel
theorem d2_118 : Dec m2 118 (.iload_n 0) 1 119 := by decide +kernel
theorem d2_119 : Dec m2 119 (.sipush 8304) 3 122 := by decide +kernel
theorem d2_122 : Dec m2 122 (.if_icmp .ge 23) 3 125 := by decide +kernel
theorem j2_122 : Jmp 122 (23) 145 := by decide
theorem d2_125 : Dec m2 125 (.iload_n 0) 1 126 := by decide +kernel
theorem d2_126 : Dec m2 126 (.sipush 8204) 3 129 := by decide +kernel
theorem d2_129 : Dec m2 129 (.if_icmp .eq 10) 3 132 := by decide +kernel
theorem j2_129 : Jmp 129 (10) 139 := by decide
theorem d2_132 : Dec m2 132 (.iload_n 0) 1 133 := by decide +kernel
theorem d2_133 : Dec m2 133 (.sipush 8205) 3 136 := by decide +kernel
theorem d2_136 : Dec m2 136 (.if_icmp .ne 7) 3 139 := by decide +kernel
theorem j2_136 : Jmp 136 (7) 143 := by decide
theorem d2_139 : Dec m2 139 (.iconst 1) 1 140 := by decide +kernel
theorem d2_140 : Dec m2 140 (.goto 4) 3 143 := by decide +kernel
theorem j2_140 : Jmp 140 (4) 144 := by decide
theorem d2_143 : Dec m2 143 (.iconst 0) 1 144 := by decide +kernel
theorem d2_144 : Dec m2 144 (.ireturn) 1 145 := by decide +kernel
theorem d2_145 : Dec m2 145 (.iload_n 0) 1 146 := by decide +kernel
theorem d2_146 : Dec m2 146 (.sipush 8592) 3 149 := by decide +kernel
theorem d2_149 : Dec m2 149 (.if_icmp .ge 5) 3 152 := by decide +kernel
theorem j2_149 : Jmp 149 (5) 154 := by decide
theorem d2_152 : Dec m2 152 (.iconst 1) 1 153 := by decide +kernel
theorem d2_153 : Dec m2 153 (.ireturn) 1 154 := by decide +kernel
theorem d2_154 : Dec m2 154 (.iload_n 0) 1 155 := by decide +kernel
theorem d2_155 : Dec m2 155 (.sipush 11264) 3 158 := by decide +kernel
theorem d2_158 : Dec m2 158 (.if_icmp .ge 5) 3 161 := by decide +kernel
theorem j2_158 : Jmp 158 (5) 163 := by decide
theorem d2_161 : Dec m2 161 (.iconst 0) 1 162 := by decide +kernel
theorem d2_162 : Dec m2 162 (.ireturn) 1 163 := by decide +kernel
theorem d2_163 : Dec m2 163 (.iload_n 0) 1 164 := by decide +kernel
theorem d2_164 : Dec m2 164 (.sipush 12272) 3 167 := by decide +kernel
theorem d2_167 : Dec m2 167 (.if_icmp .ge 5) 3 170 := by decide +kernel
theorem j2_167 : Jmp 167 (5) 172 := by decide
theorem d2_170 : Dec m2 170 (.iconst 1) 1 171 := by decide +kernel
theorem d2_171 : Dec m2 171 (.ireturn) 1 172 := by decide +kernel
theorem d2_172 : Dec m2 172 (.iload_n 0) 1 173 := by decide +kernel
theorem d2_173 : Dec m2 173 (.sipush 12289) 3 176 := by decide +kernel
theorem d2_176 : Dec m2 176 (.if_icmp .ge 5) 3 179 := by decide +kernel
theorem j2_176 : Jmp 176 (5) 181 := by decide
theorem d2_179 : Dec m2 179 (.iconst 0) 1 180 := by decide +kernel
theorem d2_180 : Dec m2 180 (.ireturn) 1 181 := by decide +kernel
theorem d2_181 : Dec m2 181 (.iload_n 0) 1 182 := by decide +kernel
theorem d2_182 : Dec m2 182 (.ldc 7) 2 184 := by decide +kernel
theorem d2_184 : Dec m2 184 (.if_icmp .ge 5) 3 187 := by decide +kernel
theorem j2_184 : Jmp 184 (5) 189 := by decide
theorem d2_187 : Dec m2 187 (.iconst 1) 1 188 := by decide +kernel
theorem d2_188 : Dec m2 188 (.ireturn) 1 189 := by decide +kernel
theorem d2_189 : Dec m2 189 (.iload_n 0) 1 190 := by decide +kernel
theorem d2_190 : Dec m2 190 (.ldc 8) 2 192 := by decide +kernel
theorem d2_192 : Dec m2 192 (.if_icmp .ge 5) 3 195 := by decide +kernel
theorem j2_192 : Jmp 192 (5) 197 := by decide
theorem d2_195 : Dec m2 195 (.iconst 0) 1 196 := by decide +kernel
theorem d2_196 : Dec m2 196 (.ireturn) 1 197 := by decide +kernel
theorem d2_197 : Dec m2 197 (.iload_n 0) 1 198 := by decide +kernel
theorem d2_198 : Dec m2 198 (.ldc 9) 2 200 := by decide +kernel
theorem d2_200 : Dec m2 200 (.if_icmp .ge 5) 3 203 := by decide +kernel
theorem j2_200 : Jmp 200 (5) 205 := by decide
theorem d2_203 : Dec m2 203 (.iconst 1) 1 204 := by decide +kernel
theorem d2_204 : Dec m2 204 (.ireturn) 1 205 := by decide +kernel
theorem d2_205 : Dec m2 205 (.iload_n 0) 1 206 := by decide +kernel
theorem d2_206 : Dec m2 206 (.ldc 10) 2 208 := by decide +kernel
theorem d2_208 : Dec m2 208 (.if_icmp .ge 5) 3 211 := by decide +kernel
theorem j2_208 : Jmp 208 (5) 213 := by decide
theorem d2_211 : Dec m2 211 (.iconst 0) 1 212 := by decide +kernel
theorem d2_212 : Dec m2 212 (.ireturn) 1 213 := by decide +kernel
theorem d2_213 : Dec m2 213 (.iload_n 0) 1 214 := by decide +kernel
theorem d2_214 : Dec m2 214 (.ldc 11) 2 216 := by decide +kernel
theorem d2_216 : Dec m2 216 (.if_icmp .ge 5) 3 219 := by decide +kernel
theorem j2_216 : Jmp 216 (5) 221 := by decide
theorem d2_219 : Dec m2 219 (.iconst 1) 1 220 := by decide +kernel
theorem d2_220 : Dec m2 220 (.ireturn) 1 221 := by decide +kernel
theorem d2_221 : Dec m2 221 (.iload_n 0) 1 222 := by decide +kernel
theorem d2_222 : Dec m2 222 (.ldc 12) 2 224 := by decide +kernel
theorem d2_224 : Dec m2 224 (.if_icmp .ge 5) 3 227 := by decide +kernel
theorem j2_224 : Jmp 224 (5) 229 := by decide
theorem d2_227 : Dec m2 227 (.iconst 0) 1 228 := by decide +kernel
theorem d2_228 : Dec m2 228 (.ireturn) 1 229 := by decide +kernel
theorem d2_229 : Dec m2 229 (.iload_n 0) 1 230 := by decide +kernel
theorem d2_230 : Dec m2 230 (.ldc 13) 2 232 := by decide +kernel
theorem d2_232 : Dec m2 232 (.if_icmp .ge 7) 3 235 := by decide +kernel
theorem j2_232 : Jmp 232 (7) 239 := by decide
theorem d2_235 : Dec m2 235 (.iconst 1) 1 236 := by decide +kernel
theorem d2_236 : Dec m2 236 (.goto 4) 3 239 := by decide +kernel
theorem j2_236 : Jmp 236 (4) 240 := by decide
theorem d2_239 : Dec m2 239 (.iconst 0) 1 240 := by decide +kernel
theorem d2_240 : Dec m2 240 (.ireturn) 1 241 := by decide +kernel
def own_is_197 (l0 : Int32) : Int32 := 1
theorem go_own_is_197 (K : Ctx) (hw : ∀ d ∈ tables_1, d.before K.2.2.1 K.2.1 = true) (l0 : Int32) (H : Hp) : Go K m1 0 0 197 [.val (.int l0)] [] H (some (.int (own_is_197 l0)), some H, 0, 0) := by
  refine Go.iconst d1_197 (v := 1) rfl ?_
  refine Go.goto d1_198 j1_198 ?_
  exact Go.ireturnZ d1_202 rfl (by decide) (by rw [own_is_197]) (HOk.eq rfl)
def own_is_201 (l0 : Int32) : Int32 := 0
theorem go_own_is_201 (K : Ctx) (hw : ∀ d ∈ tables_1, d.before K.2.2.1 K.2.1 = true) (l0 : Int32) (H : Hp) : Go K m1 0 0 201 [.val (.int l0)] [] H (some (.int (own_is_201 l0)), some H, 0, 0) := by
  refine Go.iconst d1_201 (v := 0) rfl ?_
  exact Go.ireturnZ d1_202 rfl (by decide) (by rw [own_is_201]) (HOk.eq rfl)
def own_is_185 (l0 : Int32) : Int32 := (if l0 < 65536 then (own_is_201 l0) else (if 983039 < l0 then (own_is_201 l0) else (own_is_197 l0)))
theorem go_own_is_185 (K : Ctx) (hw : ∀ d ∈ tables_1, d.before K.2.2.1 K.2.1 = true) (l0 : Int32) (H : Hp) : Go K m1 0 0 185 [.val (.int l0)] [] H (some (.int (own_is_185 l0)), some H, 0, 0) := by
  refine Go.iloadN d1_185 rfl ?_
  refine Go.ldc d1_186 (hw _ (List.mem_of_getElem? (i := 6) rfl)) ?_
  refine Go.icmp_lt d1_188 j1_188 (fun h188 => ?_) (fun h188 => ?_)
  · -- pc 188 taken
    exact (go_own_is_201 K hw l0 H).cast (by rw [own_is_185, if_pos h188])
  · -- pc 188 not taken
    refine Go.iloadN d1_191 rfl ?_
    refine Go.ldc d1_192 (hw _ (List.mem_of_getElem? (i := 15) rfl)) ?_
    refine Go.icmp_gt d1_194 j1_194 (fun h194 => ?_) (fun h194 => ?_)
    · -- pc 194 taken
      exact (go_own_is_201 K hw l0 H).cast (by rw [own_is_185, if_neg h188, if_pos h194])
    · -- pc 194 not taken
      exact (go_own_is_197 K hw l0 H).cast (by rw [own_is_185, if_neg h188, if_neg h194])
def own_is_173 (l0 : Int32) : Int32 := (if l0 < 65008 then (own_is_185 l0) else (if 65533 < l0 then (own_is_185 l0) else (own_is_197 l0)))
theorem go_own_is_173 (K : Ctx) (hw : ∀ d ∈ tables_1, d.before K.2.2.1 K.2.1 = true) (l0 : Int32) (H : Hp) : Go K m1 0 0 173 [.val (.int l0)] [] H (some (.int (own_is_173 l0)), some H, 0, 0) := by
  refine Go.iloadN d1_173 rfl ?_
  refine Go.ldc d1_174 (hw _ (List.mem_of_getElem? (i := 5) rfl)) ?_
  refine Go.icmp_lt d1_176 j1_176 (fun h176 => ?_) (fun h176 => ?_)
  · -- pc 176 taken
    exact (go_own_is_185 K hw l0 H).cast (by rw [own_is_173, if_pos h176])
  · -- pc 176 not taken
    refine Go.iloadN d1_179 rfl ?_
    refine Go.ldc d1_180 (hw _ (List.mem_of_getElem? (i := 14) rfl)) ?_
    refine Go.icmp_le d1_182 j1_182 (fun h182 => ?_) (fun h182 => ?_)
    · -- pc 182 taken
      exact (go_own_is_197 K hw l0 H).cast (by rw [own_is_173, if_neg h176, if_neg h182])
    · -- pc 182 not taken
      exact (go_own_is_185 K hw l0 H).cast (by rw [own_is_173, if_neg h176, if_pos h182])
def own_is_161 (l0 : Int32) : Int32 := (if l0 < 63744 then (own_is_173 l0) else (if 64975 < l0 then (own_is_173 l0) else (own_is_197 l0)))
theorem go_own_is_161 (K : Ctx) (hw : ∀ d ∈ tables_1, d.before K.2.2.1 K.2.1 = true) (l0 : Int32) (H : Hp) : Go K m1 0 0 161 [.val (.int l0)] [] H (some (.int (own_is_161 l0)), some H, 0, 0) := by
  refine Go.iloadN d1_161 rfl ?_
  refine Go.ldc d1_162 (hw _ (List.mem_of_getElem? (i := 4) rfl)) ?_
  refine Go.icmp_lt d1_164 j1_164 (fun h164 => ?_) (fun h164 => ?_)
  · -- pc 164 taken
    exact (go_own_is_173 K hw l0 H).cast (by rw [own_is_161, if_pos h164])
  · -- pc 164 not taken
    refine Go.iloadN d1_167 rfl ?_
    refine Go.ldc d1_168 (hw _ (List.mem_of_getElem? (i := 13) rfl)) ?_
    refine Go.icmp_le d1_170 j1_170 (fun h170 => ?_) (fun h170 => ?_)
    · -- pc 170 taken
      exact (go_own_is_197 K hw l0 H).cast (by rw [own_is_161, if_neg h164, if_neg h170])
    · -- pc 170 not taken
      exact (go_own_is_173 K hw l0 H).cast (by rw [own_is_161, if_neg h164, if_pos h170])
def own_is_148 (l0 : Int32) : Int32 := (if l0 < 12289 then (own_is_161 l0) else (if 55295 < l0 then (own_is_161 l0) else (own_is_197 l0)))
theorem go_own_is_148 (K : Ctx) (hw : ∀ d ∈ tables_1, d.before K.2.2.1 K.2.1 = true) (l0 : Int32) (H : Hp) : Go K m1 0 0 148 [.val (.int l0)] [] H (some (.int (own_is_148 l0)), some H, 0, 0) := by
  refine Go.iloadN d1_148 rfl ?_
  refine Go.sipush d1_149 (v := 12289) rfl ?_
  refine Go.icmp_lt d1_152 j1_152 (fun h152 => ?_) (fun h152 => ?_)
  · -- pc 152 taken
    exact (go_own_is_161 K hw l0 H).cast (by rw [own_is_148, if_pos h152])
  · -- pc 152 not taken
    refine Go.iloadN d1_155 rfl ?_
    refine Go.ldc d1_156 (hw _ (List.mem_of_getElem? (i := 12) rfl)) ?_
    refine Go.icmp_le d1_158 j1_158 (fun h158 => ?_) (fun h158 => ?_)
    · -- pc 158 taken
      exact (go_own_is_197 K hw l0 H).cast (by rw [own_is_148, if_neg h152, if_neg h158])
    · -- pc 158 not taken
      exact (go_own_is_161 K hw l0 H).cast (by rw [own_is_148, if_neg h152, if_pos h158])
def own_is_134 (l0 : Int32) : Int32 := (if l0 < 11264 then (own_is_148 l0) else (if 12271 < l0 then (own_is_148 l0) else (own_is_197 l0)))
theorem go_own_is_134 (K : Ctx) (hw : ∀ d ∈ tables_1, d.before K.2.2.1 K.2.1 = true) (l0 : Int32) (H : Hp) : Go K m1 0 0 134 [.val (.int l0)] [] H (some (.int (own_is_134 l0)), some H, 0, 0) := by
  refine Go.iloadN d1_134 rfl ?_
  refine Go.sipush d1_135 (v := 11264) rfl ?_
  refine Go.icmp_lt d1_138 j1_138 (fun h138 => ?_) (fun h138 => ?_)
  · -- pc 138 taken
    exact (go_own_is_148 K hw l0 H).cast (by rw [own_is_134, if_pos h138])
  · -- pc 138 not taken
    refine Go.iloadN d1_141 rfl ?_
    refine Go.sipush d1_142 (v := 12271) rfl ?_
    refine Go.icmp_le d1_145 j1_145 (fun h145 => ?_) (fun h145 => ?_)
    · -- pc 145 taken
      exact (go_own_is_197 K hw l0 H).cast (by rw [own_is_134, if_neg h138, if_neg h145])
    · -- pc 145 not taken
      exact (go_own_is_148 K hw l0 H).cast (by rw [own_is_134, if_neg h138, if_pos h145])
def own_is_120 (l0 : Int32) : Int32 := (if l0 < 8304 then (own_is_134 l0) else (if 8591 < l0 then (own_is_134 l0) else (own_is_197 l0)))
theorem go_own_is_120 (K : Ctx) (hw : ∀ d ∈ tables_1, d.before K.2.2.1 K.2.1 = true) (l0 : Int32) (H : Hp) : Go K m1 0 0 120 [.val (.int l0)] [] H (some (.int (own_is_120 l0)), some H, 0, 0) := by
  refine Go.iloadN d1_120 rfl ?_
  refine Go.sipush d1_121 (v := 8304) rfl ?_
  refine Go.icmp_lt d1_124 j1_124 (fun h124 => ?_) (fun h124 => ?_)
  · -- pc 124 taken
    exact (go_own_is_134 K hw l0 H).cast (by rw [own_is_120, if_pos h124])
  · -- pc 124 not taken
    refine Go.iloadN d1_127 rfl ?_
    refine Go.sipush d1_128 (v := 8591) rfl ?_
    refine Go.icmp_le d1_131 j1_131 (fun h131 => ?_) (fun h131 => ?_)
    · -- pc 131 taken
      exact (go_own_is_197 K hw l0 H).cast (by rw [own_is_120, if_neg h124, if_neg h131])
    · -- pc 131 not taken
      exact (go_own_is_134 K hw l0 H).cast (by rw [own_is_120, if_neg h124, if_pos h131])
def own_is_106 (l0 : Int32) : Int32 := (if l0 < 8204 then (own_is_120 l0) else (if 8205 < l0 then (own_is_120 l0) else (own_is_197 l0)))
theorem go_own_is_106 (K : Ctx) (hw : ∀ d ∈ tables_1, d.before K.2.2.1 K.2.1 = true) (l0 : Int32) (H : Hp) : Go K m1 0 0 106 [.val (.int l0)] [] H (some (.int (own_is_106 l0)), some H, 0, 0) := by
  refine Go.iloadN d1_106 rfl ?_
  refine Go.sipush d1_107 (v := 8204) rfl ?_
  refine Go.icmp_lt d1_110 j1_110 (fun h110 => ?_) (fun h110 => ?_)
  · -- pc 110 taken
    exact (go_own_is_120 K hw l0 H).cast (by rw [own_is_106, if_pos h110])
  · -- pc 110 not taken
    refine Go.iloadN d1_113 rfl ?_
    refine Go.sipush d1_114 (v := 8205) rfl ?_
    refine Go.icmp_le d1_117 j1_117 (fun h117 => ?_) (fun h117 => ?_)
    · -- pc 117 taken
      exact (go_own_is_197 K hw l0 H).cast (by rw [own_is_106, if_neg h110, if_neg h117])
    · -- pc 117 not taken
      exact (go_own_is_120 K hw l0 H).cast (by rw [own_is_106, if_neg h110, if_pos h117])
def own_is_92 (l0 : Int32) : Int32 := (if l0 < 895 then (own_is_106 l0) else (if 8191 < l0 then (own_is_106 l0) else (own_is_197 l0)))
theorem go_own_is_92 (K : Ctx) (hw : ∀ d ∈ tables_1, d.before K.2.2.1 K.2.1 = true) (l0 : Int32) (H : Hp) : Go K m1 0 0 92 [.val (.int l0)] [] H (some (.int (own_is_92 l0)), some H, 0, 0) := by
  refine Go.iloadN d1_92 rfl ?_
  refine Go.sipush d1_93 (v := 895) rfl ?_
  refine Go.icmp_lt d1_96 j1_96 (fun h96 => ?_) (fun h96 => ?_)
  · -- pc 96 taken
    exact (go_own_is_106 K hw l0 H).cast (by rw [own_is_92, if_pos h96])
  · -- pc 96 not taken
    refine Go.iloadN d1_99 rfl ?_
    refine Go.sipush d1_100 (v := 8191) rfl ?_
    refine Go.icmp_le d1_103 j1_103 (fun h103 => ?_) (fun h103 => ?_)
    · -- pc 103 taken
      exact (go_own_is_197 K hw l0 H).cast (by rw [own_is_92, if_neg h96, if_neg h103])
    · -- pc 103 not taken
      exact (go_own_is_106 K hw l0 H).cast (by rw [own_is_92, if_neg h96, if_pos h103])
def own_is_78 (l0 : Int32) : Int32 := (if l0 < 880 then (own_is_92 l0) else (if 893 < l0 then (own_is_92 l0) else (own_is_197 l0)))
theorem go_own_is_78 (K : Ctx) (hw : ∀ d ∈ tables_1, d.before K.2.2.1 K.2.1 = true) (l0 : Int32) (H : Hp) : Go K m1 0 0 78 [.val (.int l0)] [] H (some (.int (own_is_78 l0)), some H, 0, 0) := by
  refine Go.iloadN d1_78 rfl ?_
  refine Go.sipush d1_79 (v := 880) rfl ?_
  refine Go.icmp_lt d1_82 j1_82 (fun h82 => ?_) (fun h82 => ?_)
  · -- pc 82 taken
    exact (go_own_is_92 K hw l0 H).cast (by rw [own_is_78, if_pos h82])
  · -- pc 82 not taken
    refine Go.iloadN d1_85 rfl ?_
    refine Go.sipush d1_86 (v := 893) rfl ?_
    refine Go.icmp_le d1_89 j1_89 (fun h89 => ?_) (fun h89 => ?_)
    · -- pc 89 taken
      exact (go_own_is_197 K hw l0 H).cast (by rw [own_is_78, if_neg h82, if_neg h89])
    · -- pc 89 not taken
      exact (go_own_is_92 K hw l0 H).cast (by rw [own_is_78, if_neg h82, if_pos h89])
def own_is_64 (l0 : Int32) : Int32 := (if l0 < 248 then (own_is_78 l0) else (if 767 < l0 then (own_is_78 l0) else (own_is_197 l0)))
theorem go_own_is_64 (K : Ctx) (hw : ∀ d ∈ tables_1, d.before K.2.2.1 K.2.1 = true) (l0 : Int32) (H : Hp) : Go K m1 0 0 64 [.val (.int l0)] [] H (some (.int (own_is_64 l0)), some H, 0, 0) := by
  refine Go.iloadN d1_64 rfl ?_
  refine Go.sipush d1_65 (v := 248) rfl ?_
  refine Go.icmp_lt d1_68 j1_68 (fun h68 => ?_) (fun h68 => ?_)
  · -- pc 68 taken
    exact (go_own_is_78 K hw l0 H).cast (by rw [own_is_64, if_pos h68])
  · -- pc 68 not taken
    refine Go.iloadN d1_71 rfl ?_
    refine Go.sipush d1_72 (v := 767) rfl ?_
    refine Go.icmp_le d1_75 j1_75 (fun h75 => ?_) (fun h75 => ?_)
    · -- pc 75 taken
      exact (go_own_is_197 K hw l0 H).cast (by rw [own_is_64, if_neg h68, if_neg h75])
    · -- pc 75 not taken
      exact (go_own_is_78 K hw l0 H).cast (by rw [own_is_64, if_neg h68, if_pos h75])
def own_is_50 (l0 : Int32) : Int32 := (if l0 < 216 then (own_is_64 l0) else (if 246 < l0 then (own_is_64 l0) else (own_is_197 l0)))
theorem go_own_is_50 (K : Ctx) (hw : ∀ d ∈ tables_1, d.before K.2.2.1 K.2.1 = true) (l0 : Int32) (H : Hp) : Go K m1 0 0 50 [.val (.int l0)] [] H (some (.int (own_is_50 l0)), some H, 0, 0) := by
  refine Go.iloadN d1_50 rfl ?_
  refine Go.sipush d1_51 (v := 216) rfl ?_
  refine Go.icmp_lt d1_54 j1_54 (fun h54 => ?_) (fun h54 => ?_)
  · -- pc 54 taken
    exact (go_own_is_64 K hw l0 H).cast (by rw [own_is_50, if_pos h54])
  · -- pc 54 not taken
    refine Go.iloadN d1_57 rfl ?_
    refine Go.sipush d1_58 (v := 246) rfl ?_
    refine Go.icmp_le d1_61 j1_61 (fun h61 => ?_) (fun h61 => ?_)
    · -- pc 61 taken
      exact (go_own_is_197 K hw l0 H).cast (by rw [own_is_50, if_neg h54, if_neg h61])
    · -- pc 61 not taken
      exact (go_own_is_64 K hw l0 H).cast (by rw [own_is_50, if_neg h54, if_pos h61])
def own_is_36 (l0 : Int32) : Int32 := (if l0 < 192 then (own_is_50 l0) else (if 214 < l0 then (own_is_50 l0) else (own_is_197 l0)))
theorem go_own_is_36 (K : Ctx) (hw : ∀ d ∈ tables_1, d.before K.2.2.1 K.2.1 = true) (l0 : Int32) (H : Hp) : Go K m1 0 0 36 [.val (.int l0)] [] H (some (.int (own_is_36 l0)), some H, 0, 0) := by
  refine Go.iloadN d1_36 rfl ?_
  refine Go.sipush d1_37 (v := 192) rfl ?_
  refine Go.icmp_lt d1_40 j1_40 (fun h40 => ?_) (fun h40 => ?_)
  · -- pc 40 taken
    exact (go_own_is_50 K hw l0 H).cast (by rw [own_is_36, if_pos h40])
  · -- pc 40 not taken
    refine Go.iloadN d1_43 rfl ?_
    refine Go.sipush d1_44 (v := 214) rfl ?_
    refine Go.icmp_le d1_47 j1_47 (fun h47 => ?_) (fun h47 => ?_)
    · -- pc 47 taken
      exact (go_own_is_197 K hw l0 H).cast (by rw [own_is_36, if_neg h40, if_neg h47])
    · -- pc 47 not taken
      exact (go_own_is_50 K hw l0 H).cast (by rw [own_is_36, if_neg h40, if_pos h47])
def own_is_30 (l0 : Int32) : Int32 := (if l0 = 58 then (own_is_197 l0) else (own_is_36 l0))
theorem go_own_is_30 (K : Ctx) (hw : ∀ d ∈ tables_1, d.before K.2.2.1 K.2.1 = true) (l0 : Int32) (H : Hp) : Go K m1 0 0 30 [.val (.int l0)] [] H (some (.int (own_is_30 l0)), some H, 0, 0) := by
  refine Go.iloadN d1_30 rfl ?_
  refine Go.bipush d1_31 (v := 58) rfl ?_
  refine Go.icmp_eq d1_33 j1_33 (fun h33 => ?_) (fun h33 => ?_)
  · -- pc 33 taken
    exact (go_own_is_197 K hw l0 H).cast (by rw [own_is_30, if_pos h33])
  · -- pc 33 not taken
    exact (go_own_is_36 K hw l0 H).cast (by rw [own_is_30, if_neg h33])
def own_is_24 (l0 : Int32) : Int32 := (if l0 = 95 then (own_is_197 l0) else (own_is_30 l0))
theorem go_own_is_24 (K : Ctx) (hw : ∀ d ∈ tables_1, d.before K.2.2.1 K.2.1 = true) (l0 : Int32) (H : Hp) : Go K m1 0 0 24 [.val (.int l0)] [] H (some (.int (own_is_24 l0)), some H, 0, 0) := by
  refine Go.iloadN d1_24 rfl ?_
  refine Go.bipush d1_25 (v := 95) rfl ?_
  refine Go.icmp_eq d1_27 j1_27 (fun h27 => ?_) (fun h27 => ?_)
  · -- pc 27 taken
    exact (go_own_is_197 K hw l0 H).cast (by rw [own_is_24, if_pos h27])
  · -- pc 27 not taken
    exact (go_own_is_30 K hw l0 H).cast (by rw [own_is_24, if_neg h27])
def own_is_12 (l0 : Int32) : Int32 := (if l0 < 65 then (own_is_24 l0) else (if 90 < l0 then (own_is_24 l0) else (own_is_197 l0)))
theorem go_own_is_12 (K : Ctx) (hw : ∀ d ∈ tables_1, d.before K.2.2.1 K.2.1 = true) (l0 : Int32) (H : Hp) : Go K m1 0 0 12 [.val (.int l0)] [] H (some (.int (own_is_12 l0)), some H, 0, 0) := by
  refine Go.iloadN d1_12 rfl ?_
  refine Go.bipush d1_13 (v := 65) rfl ?_
  refine Go.icmp_lt d1_15 j1_15 (fun h15 => ?_) (fun h15 => ?_)
  · -- pc 15 taken
    exact (go_own_is_24 K hw l0 H).cast (by rw [own_is_12, if_pos h15])
  · -- pc 15 not taken
    refine Go.iloadN d1_18 rfl ?_
    refine Go.bipush d1_19 (v := 90) rfl ?_
    refine Go.icmp_le d1_21 j1_21 (fun h21 => ?_) (fun h21 => ?_)
    · -- pc 21 taken
      exact (go_own_is_197 K hw l0 H).cast (by rw [own_is_12, if_neg h15, if_neg h21])
    · -- pc 21 not taken
      exact (go_own_is_24 K hw l0 H).cast (by rw [own_is_12, if_neg h15, if_pos h21])
def own_is (x0 : Int32) : Int32 := (if x0 < 97 then (own_is_12 x0) else (if 122 < x0 then (own_is_12 x0) else (own_is_197 x0)))
theorem go_own_is (K : Ctx) (hw : ∀ d ∈ tables_1, d.before K.2.2.1 K.2.1 = true) (x0 : Int32) (H : Hp) : Go K m1 0 0 0 [.val (.int x0)] [] H (some (.int (own_is x0)), some H, 0, 0) := by
  refine Go.iloadN d1_0 rfl ?_
  refine Go.bipush d1_1 (v := 97) rfl ?_
  refine Go.icmp_lt d1_3 j1_3 (fun h3 => ?_) (fun h3 => ?_)
  · -- pc 3 taken
    exact (go_own_is_12 K hw x0 H).cast (by rw [own_is, if_pos h3])
  · -- pc 3 not taken
    refine Go.iloadN d1_6 rfl ?_
    refine Go.bipush d1_7 (v := 122) rfl ?_
    refine Go.icmp_le d1_9 j1_9 (fun h9 => ?_) (fun h9 => ?_)
    · -- pc 9 taken
      exact (go_own_is_197 K hw x0 H).cast (by rw [own_is, if_neg h3, if_neg h9])
    · -- pc 9 not taken
      exact (go_own_is_12 K hw x0 H).cast (by rw [own_is, if_neg h3, if_pos h9])
def own_ex_229 (l0 : Int32) : Int32 := (if l0 < 983040 then 1 else 0)
theorem go_own_ex_229 (K : Ctx) (hw : ∀ d ∈ tables_1, d.before K.2.2.1 K.2.1 = true) (l0 : Int32) (H : Hp) : Go K m2 0 0 229 [.val (.int l0)] [] H (some (.int (own_ex_229 l0)), some H, 0, 0) := by
  refine Go.iloadN d2_229 rfl ?_
  refine Go.ldc d2_230 (hw _ (List.mem_of_getElem? (i := 22) rfl)) ?_
  refine Go.icmp_ge d2_232 j2_232 (fun h232 => ?_) (fun h232 => ?_)
  · -- pc 232 taken
    refine Go.iconst d2_239 (v := 0) rfl ?_
    exact Go.ireturnZ d2_240 rfl (by decide) (by rw [own_ex_229, if_neg h232]) (HOk.eq rfl)
  · -- pc 232 not taken
    refine Go.iconst d2_235 (v := 1) rfl ?_
    refine Go.goto d2_236 j2_236 ?_
    exact Go.ireturnZ d2_240 rfl (by decide) (by rw [own_ex_229, if_pos h232]) (HOk.eq rfl)
def own_ex_221 (l0 : Int32) : Int32 := (if l0 < 65536 then 0 else (own_ex_229 l0))
theorem go_own_ex_221 (K : Ctx) (hw : ∀ d ∈ tables_1, d.before K.2.2.1 K.2.1 = true) (l0 : Int32) (H : Hp) : Go K m2 0 0 221 [.val (.int l0)] [] H (some (.int (own_ex_221 l0)), some H, 0, 0) := by
  refine Go.iloadN d2_221 rfl ?_
  refine Go.ldc d2_222 (hw _ (List.mem_of_getElem? (i := 21) rfl)) ?_
  refine Go.icmp_ge d2_224 j2_224 (fun h224 => ?_) (fun h224 => ?_)
  · -- pc 224 taken
    exact (go_own_ex_229 K hw l0 H).cast (by rw [own_ex_221, if_neg h224])
  · -- pc 224 not taken
    refine Go.iconst d2_227 (v := 0) rfl ?_
    exact Go.ireturnZ d2_228 rfl (by decide) (by rw [own_ex_221, if_pos h224]) (HOk.eq rfl)
def own_ex_213 (l0 : Int32) : Int32 := (if l0 < 65534 then 1 else (own_ex_221 l0))
theorem go_own_ex_213 (K : Ctx) (hw : ∀ d ∈ tables_1, d.before K.2.2.1 K.2.1 = true) (l0 : Int32) (H : Hp) : Go K m2 0 0 213 [.val (.int l0)] [] H (some (.int (own_ex_213 l0)), some H, 0, 0) := by
  refine Go.iloadN d2_213 rfl ?_
  refine Go.ldc d2_214 (hw _ (List.mem_of_getElem? (i := 20) rfl)) ?_
  refine Go.icmp_ge d2_216 j2_216 (fun h216 => ?_) (fun h216 => ?_)
  · -- pc 216 taken
    exact (go_own_ex_221 K hw l0 H).cast (by rw [own_ex_213, if_neg h216])
  · -- pc 216 not taken
    refine Go.iconst d2_219 (v := 1) rfl ?_
    exact Go.ireturnZ d2_220 rfl (by decide) (by rw [own_ex_213, if_pos h216]) (HOk.eq rfl)
def own_ex_205 (l0 : Int32) : Int32 := (if l0 < 65008 then 0 else (own_ex_213 l0))
theorem go_own_ex_205 (K : Ctx) (hw : ∀ d ∈ tables_1, d.before K.2.2.1 K.2.1 = true) (l0 : Int32) (H : Hp) : Go K m2 0 0 205 [.val (.int l0)] [] H (some (.int (own_ex_205 l0)), some H, 0, 0) := by
  refine Go.iloadN d2_205 rfl ?_
  refine Go.ldc d2_206 (hw _ (List.mem_of_getElem? (i := 19) rfl)) ?_
  refine Go.icmp_ge d2_208 j2_208 (fun h208 => ?_) (fun h208 => ?_)
  · -- pc 208 taken
    exact (go_own_ex_213 K hw l0 H).cast (by rw [own_ex_205, if_neg h208])
  · -- pc 208 not taken
    refine Go.iconst d2_211 (v := 0) rfl ?_
    exact Go.ireturnZ d2_212 rfl (by decide) (by rw [own_ex_205, if_pos h208]) (HOk.eq rfl)
def own_ex_197 (l0 : Int32) : Int32 := (if l0 < 64976 then 1 else (own_ex_205 l0))
theorem go_own_ex_197 (K : Ctx) (hw : ∀ d ∈ tables_1, d.before K.2.2.1 K.2.1 = true) (l0 : Int32) (H : Hp) : Go K m2 0 0 197 [.val (.int l0)] [] H (some (.int (own_ex_197 l0)), some H, 0, 0) := by
  refine Go.iloadN d2_197 rfl ?_
  refine Go.ldc d2_198 (hw _ (List.mem_of_getElem? (i := 18) rfl)) ?_
  refine Go.icmp_ge d2_200 j2_200 (fun h200 => ?_) (fun h200 => ?_)
  · -- pc 200 taken
    exact (go_own_ex_205 K hw l0 H).cast (by rw [own_ex_197, if_neg h200])
  · -- pc 200 not taken
    refine Go.iconst d2_203 (v := 1) rfl ?_
    exact Go.ireturnZ d2_204 rfl (by decide) (by rw [own_ex_197, if_pos h200]) (HOk.eq rfl)
def own_ex_189 (l0 : Int32) : Int32 := (if l0 < 63744 then 0 else (own_ex_197 l0))
theorem go_own_ex_189 (K : Ctx) (hw : ∀ d ∈ tables_1, d.before K.2.2.1 K.2.1 = true) (l0 : Int32) (H : Hp) : Go K m2 0 0 189 [.val (.int l0)] [] H (some (.int (own_ex_189 l0)), some H, 0, 0) := by
  refine Go.iloadN d2_189 rfl ?_
  refine Go.ldc d2_190 (hw _ (List.mem_of_getElem? (i := 17) rfl)) ?_
  refine Go.icmp_ge d2_192 j2_192 (fun h192 => ?_) (fun h192 => ?_)
  · -- pc 192 taken
    exact (go_own_ex_197 K hw l0 H).cast (by rw [own_ex_189, if_neg h192])
  · -- pc 192 not taken
    refine Go.iconst d2_195 (v := 0) rfl ?_
    exact Go.ireturnZ d2_196 rfl (by decide) (by rw [own_ex_189, if_pos h192]) (HOk.eq rfl)
def own_ex_181 (l0 : Int32) : Int32 := (if l0 < 55296 then 1 else (own_ex_189 l0))
theorem go_own_ex_181 (K : Ctx) (hw : ∀ d ∈ tables_1, d.before K.2.2.1 K.2.1 = true) (l0 : Int32) (H : Hp) : Go K m2 0 0 181 [.val (.int l0)] [] H (some (.int (own_ex_181 l0)), some H, 0, 0) := by
  refine Go.iloadN d2_181 rfl ?_
  refine Go.ldc d2_182 (hw _ (List.mem_of_getElem? (i := 16) rfl)) ?_
  refine Go.icmp_ge d2_184 j2_184 (fun h184 => ?_) (fun h184 => ?_)
  · -- pc 184 taken
    exact (go_own_ex_189 K hw l0 H).cast (by rw [own_ex_181, if_neg h184])
  · -- pc 184 not taken
    refine Go.iconst d2_187 (v := 1) rfl ?_
    exact Go.ireturnZ d2_188 rfl (by decide) (by rw [own_ex_181, if_pos h184]) (HOk.eq rfl)
def own_ex_172 (l0 : Int32) : Int32 := (if l0 < 12289 then 0 else (own_ex_181 l0))
theorem go_own_ex_172 (K : Ctx) (hw : ∀ d ∈ tables_1, d.before K.2.2.1 K.2.1 = true) (l0 : Int32) (H : Hp) : Go K m2 0 0 172 [.val (.int l0)] [] H (some (.int (own_ex_172 l0)), some H, 0, 0) := by
  refine Go.iloadN d2_172 rfl ?_
  refine Go.sipush d2_173 (v := 12289) rfl ?_
  refine Go.icmp_ge d2_176 j2_176 (fun h176 => ?_) (fun h176 => ?_)
  · -- pc 176 taken
    exact (go_own_ex_181 K hw l0 H).cast (by rw [own_ex_172, if_neg h176])
  · -- pc 176 not taken
    refine Go.iconst d2_179 (v := 0) rfl ?_
    exact Go.ireturnZ d2_180 rfl (by decide) (by rw [own_ex_172, if_pos h176]) (HOk.eq rfl)
def own_ex_163 (l0 : Int32) : Int32 := (if l0 < 12272 then 1 else (own_ex_172 l0))
theorem go_own_ex_163 (K : Ctx) (hw : ∀ d ∈ tables_1, d.before K.2.2.1 K.2.1 = true) (l0 : Int32) (H : Hp) : Go K m2 0 0 163 [.val (.int l0)] [] H (some (.int (own_ex_163 l0)), some H, 0, 0) := by
  refine Go.iloadN d2_163 rfl ?_
  refine Go.sipush d2_164 (v := 12272) rfl ?_
  refine Go.icmp_ge d2_167 j2_167 (fun h167 => ?_) (fun h167 => ?_)
  · -- pc 167 taken
    exact (go_own_ex_172 K hw l0 H).cast (by rw [own_ex_163, if_neg h167])
  · -- pc 167 not taken
    refine Go.iconst d2_170 (v := 1) rfl ?_
    exact Go.ireturnZ d2_171 rfl (by decide) (by rw [own_ex_163, if_pos h167]) (HOk.eq rfl)
def own_ex_154 (l0 : Int32) : Int32 := (if l0 < 11264 then 0 else (own_ex_163 l0))
theorem go_own_ex_154 (K : Ctx) (hw : ∀ d ∈ tables_1, d.before K.2.2.1 K.2.1 = true) (l0 : Int32) (H : Hp) : Go K m2 0 0 154 [.val (.int l0)] [] H (some (.int (own_ex_154 l0)), some H, 0, 0) := by
  refine Go.iloadN d2_154 rfl ?_
  refine Go.sipush d2_155 (v := 11264) rfl ?_
  refine Go.icmp_ge d2_158 j2_158 (fun h158 => ?_) (fun h158 => ?_)
  · -- pc 158 taken
    exact (go_own_ex_163 K hw l0 H).cast (by rw [own_ex_154, if_neg h158])
  · -- pc 158 not taken
    refine Go.iconst d2_161 (v := 0) rfl ?_
    exact Go.ireturnZ d2_162 rfl (by decide) (by rw [own_ex_154, if_pos h158]) (HOk.eq rfl)
def own_ex_145 (l0 : Int32) : Int32 := (if l0 < 8592 then 1 else (own_ex_154 l0))
theorem go_own_ex_145 (K : Ctx) (hw : ∀ d ∈ tables_1, d.before K.2.2.1 K.2.1 = true) (l0 : Int32) (H : Hp) : Go K m2 0 0 145 [.val (.int l0)] [] H (some (.int (own_ex_145 l0)), some H, 0, 0) := by
  refine Go.iloadN d2_145 rfl ?_
  refine Go.sipush d2_146 (v := 8592) rfl ?_
  refine Go.icmp_ge d2_149 j2_149 (fun h149 => ?_) (fun h149 => ?_)
  · -- pc 149 taken
    exact (go_own_ex_154 K hw l0 H).cast (by rw [own_ex_145, if_neg h149])
  · -- pc 149 not taken
    refine Go.iconst d2_152 (v := 1) rfl ?_
    exact Go.ireturnZ d2_153 rfl (by decide) (by rw [own_ex_145, if_pos h149]) (HOk.eq rfl)
def own_ex_118 (l0 : Int32) : Int32 := (if l0 < 8304 then (if l0 = 8204 then 1 else (if l0 = 8205 then 1 else 0)) else (own_ex_145 l0))
theorem go_own_ex_118 (K : Ctx) (hw : ∀ d ∈ tables_1, d.before K.2.2.1 K.2.1 = true) (l0 : Int32) (H : Hp) : Go K m2 0 0 118 [.val (.int l0)] [] H (some (.int (own_ex_118 l0)), some H, 0, 0) := by
  refine Go.iloadN d2_118 rfl ?_
  refine Go.sipush d2_119 (v := 8304) rfl ?_
  refine Go.icmp_ge d2_122 j2_122 (fun h122 => ?_) (fun h122 => ?_)
  · -- pc 122 taken
    exact (go_own_ex_145 K hw l0 H).cast (by rw [own_ex_118, if_neg h122])
  · -- pc 122 not taken
    refine Go.iloadN d2_125 rfl ?_
    refine Go.sipush d2_126 (v := 8204) rfl ?_
    refine Go.icmp_eq d2_129 j2_129 (fun h129 => ?_) (fun h129 => ?_)
    · -- pc 129 taken
      refine Go.iconst d2_139 (v := 1) rfl ?_
      refine Go.goto d2_140 j2_140 ?_
      exact Go.ireturnZ d2_144 rfl (by decide) (by rw [own_ex_118, if_pos h122, if_pos h129]) (HOk.eq rfl)
    · -- pc 129 not taken
      refine Go.iloadN d2_132 rfl ?_
      refine Go.sipush d2_133 (v := 8205) rfl ?_
      refine Go.icmp_ne d2_136 j2_136 (fun h136 => ?_) (fun h136 => ?_)
      · -- pc 136 taken
        refine Go.iconst d2_143 (v := 0) rfl ?_
        exact Go.ireturnZ d2_144 rfl (by decide) (by rw [own_ex_118, if_pos h122, if_neg h129, if_neg h136]) (HOk.eq rfl)
      · -- pc 136 not taken
        refine Go.iconst d2_139 (v := 1) rfl ?_
        refine Go.goto d2_140 j2_140 ?_
        exact Go.ireturnZ d2_144 rfl (by decide) (by rw [own_ex_118, if_pos h122, if_neg h129, if_pos h136]) (HOk.eq rfl)
def own_ex_98 (l0 : Int32) : Int32 := (if l0 < 8192 then (if l0 = 894 then 0 else 1) else (own_ex_118 l0))
theorem go_own_ex_98 (K : Ctx) (hw : ∀ d ∈ tables_1, d.before K.2.2.1 K.2.1 = true) (l0 : Int32) (H : Hp) : Go K m2 0 0 98 [.val (.int l0)] [] H (some (.int (own_ex_98 l0)), some H, 0, 0) := by
  refine Go.iloadN d2_98 rfl ?_
  refine Go.sipush d2_99 (v := 8192) rfl ?_
  refine Go.icmp_ge d2_102 j2_102 (fun h102 => ?_) (fun h102 => ?_)
  · -- pc 102 taken
    exact (go_own_ex_118 K hw l0 H).cast (by rw [own_ex_98, if_neg h102])
  · -- pc 102 not taken
    refine Go.iloadN d2_105 rfl ?_
    refine Go.sipush d2_106 (v := 894) rfl ?_
    refine Go.icmp_eq d2_109 j2_109 (fun h109 => ?_) (fun h109 => ?_)
    · -- pc 109 taken
      refine Go.iconst d2_116 (v := 0) rfl ?_
      exact Go.ireturnZ d2_117 rfl (by decide) (by rw [own_ex_98, if_pos h102, if_pos h109]) (HOk.eq rfl)
    · -- pc 109 not taken
      refine Go.iconst d2_112 (v := 1) rfl ?_
      refine Go.goto d2_113 j2_113 ?_
      exact Go.ireturnZ d2_117 rfl (by decide) (by rw [own_ex_98, if_pos h102, if_neg h109]) (HOk.eq rfl)
def own_ex_89 (l0 : Int32) : Int32 := (if l0 < 880 then 0 else (own_ex_98 l0))
theorem go_own_ex_89 (K : Ctx) (hw : ∀ d ∈ tables_1, d.before K.2.2.1 K.2.1 = true) (l0 : Int32) (H : Hp) : Go K m2 0 0 89 [.val (.int l0)] [] H (some (.int (own_ex_89 l0)), some H, 0, 0) := by
  refine Go.iloadN d2_89 rfl ?_
  refine Go.sipush d2_90 (v := 880) rfl ?_
  refine Go.icmp_ge d2_93 j2_93 (fun h93 => ?_) (fun h93 => ?_)
  · -- pc 93 taken
    exact (go_own_ex_98 K hw l0 H).cast (by rw [own_ex_89, if_neg h93])
  · -- pc 93 not taken
    refine Go.iconst d2_96 (v := 0) rfl ?_
    exact Go.ireturnZ d2_97 rfl (by decide) (by rw [own_ex_89, if_pos h93]) (HOk.eq rfl)
def own_ex_55 (l0 : Int32) : Int32 := (if l0 < 768 then (if l0 < 192 then 0 else (if l0 = 215 then 0 else (if l0 = 247 then 0 else 1))) else (own_ex_89 l0))
theorem go_own_ex_55 (K : Ctx) (hw : ∀ d ∈ tables_1, d.before K.2.2.1 K.2.1 = true) (l0 : Int32) (H : Hp) : Go K m2 0 0 55 [.val (.int l0)] [] H (some (.int (own_ex_55 l0)), some H, 0, 0) := by
  refine Go.iloadN d2_55 rfl ?_
  refine Go.sipush d2_56 (v := 768) rfl ?_
  refine Go.icmp_ge d2_59 j2_59 (fun h59 => ?_) (fun h59 => ?_)
  · -- pc 59 taken
    exact (go_own_ex_89 K hw l0 H).cast (by rw [own_ex_55, if_neg h59])
  · -- pc 59 not taken
    refine Go.iloadN d2_62 rfl ?_
    refine Go.sipush d2_63 (v := 192) rfl ?_
    refine Go.icmp_lt d2_66 j2_66 (fun h66 => ?_) (fun h66 => ?_)
    · -- pc 66 taken
      refine Go.iconst d2_87 (v := 0) rfl ?_
      exact Go.ireturnZ d2_88 rfl (by decide) (by rw [own_ex_55, if_pos h59, if_pos h66]) (HOk.eq rfl)
    · -- pc 66 not taken
      refine Go.iloadN d2_69 rfl ?_
      refine Go.sipush d2_70 (v := 215) rfl ?_
      refine Go.icmp_eq d2_73 j2_73 (fun h73 => ?_) (fun h73 => ?_)
      · -- pc 73 taken
        refine Go.iconst d2_87 (v := 0) rfl ?_
        exact Go.ireturnZ d2_88 rfl (by decide) (by rw [own_ex_55, if_pos h59, if_neg h66, if_pos h73]) (HOk.eq rfl)
      · -- pc 73 not taken
        refine Go.iloadN d2_76 rfl ?_
        refine Go.sipush d2_77 (v := 247) rfl ?_
        refine Go.icmp_eq d2_80 j2_80 (fun h80 => ?_) (fun h80 => ?_)
        · -- pc 80 taken
          refine Go.iconst d2_87 (v := 0) rfl ?_
          exact Go.ireturnZ d2_88 rfl (by decide) (by rw [own_ex_55, if_pos h59, if_neg h66, if_neg h73, if_pos h80]) (HOk.eq rfl)
        · -- pc 80 not taken
          refine Go.iconst d2_83 (v := 1) rfl ?_
          refine Go.goto d2_84 j2_84 ?_
          exact Go.ireturnZ d2_88 rfl (by decide) (by rw [own_ex_55, if_pos h59, if_neg h66, if_neg h73, if_neg h80]) (HOk.eq rfl)
def own_ex_49 (l0 : Int32) : Int32 := 1
theorem go_own_ex_49 (K : Ctx) (hw : ∀ d ∈ tables_1, d.before K.2.2.1 K.2.1 = true) (l0 : Int32) (H : Hp) : Go K m2 0 0 49 [.val (.int l0)] [] H (some (.int (own_ex_49 l0)), some H, 0, 0) := by
  refine Go.iconst d2_49 (v := 1) rfl ?_
  refine Go.goto d2_50 j2_50 ?_
  exact Go.ireturnZ d2_54 rfl (by decide) (by rw [own_ex_49]) (HOk.eq rfl)
def own_ex_53 (l0 : Int32) : Int32 := 0
theorem go_own_ex_53 (K : Ctx) (hw : ∀ d ∈ tables_1, d.before K.2.2.1 K.2.1 = true) (l0 : Int32) (H : Hp) : Go K m2 0 0 53 [.val (.int l0)] [] H (some (.int (own_ex_53 l0)), some H, 0, 0) := by
  refine Go.iconst d2_53 (v := 0) rfl ?_
  exact Go.ireturnZ d2_54 rfl (by decide) (by rw [own_ex_53]) (HOk.eq rfl)
def own_ex_43 (l0 : Int32) : Int32 := (if l0 = 58 then (own_ex_49 l0) else (own_ex_53 l0))
theorem go_own_ex_43 (K : Ctx) (hw : ∀ d ∈ tables_1, d.before K.2.2.1 K.2.1 = true) (l0 : Int32) (H : Hp) : Go K m2 0 0 43 [.val (.int l0)] [] H (some (.int (own_ex_43 l0)), some H, 0, 0) := by
  refine Go.iloadN d2_43 rfl ?_
  refine Go.bipush d2_44 (v := 58) rfl ?_
  refine Go.icmp_ne d2_46 j2_46 (fun h46 => ?_) (fun h46 => ?_)
  · -- pc 46 taken
    exact (go_own_ex_53 K hw l0 H).cast (by rw [own_ex_43, if_neg h46])
  · -- pc 46 not taken
    exact (go_own_ex_49 K hw l0 H).cast (by rw [own_ex_43, if_pos h46])
def own_ex_37 (l0 : Int32) : Int32 := (if l0 = 95 then (own_ex_49 l0) else (own_ex_43 l0))
theorem go_own_ex_37 (K : Ctx) (hw : ∀ d ∈ tables_1, d.before K.2.2.1 K.2.1 = true) (l0 : Int32) (H : Hp) : Go K m2 0 0 37 [.val (.int l0)] [] H (some (.int (own_ex_37 l0)), some H, 0, 0) := by
  refine Go.iloadN d2_37 rfl ?_
  refine Go.bipush d2_38 (v := 95) rfl ?_
  refine Go.icmp_eq d2_40 j2_40 (fun h40 => ?_) (fun h40 => ?_)
  · -- pc 40 taken
    exact (go_own_ex_49 K hw l0 H).cast (by rw [own_ex_37, if_pos h40])
  · -- pc 40 not taken
    exact (go_own_ex_43 K hw l0 H).cast (by rw [own_ex_37, if_neg h40])
def own_ex_25 (l0 : Int32) : Int32 := (if l0 < 65 then (own_ex_37 l0) else (if 90 < l0 then (own_ex_37 l0) else (own_ex_49 l0)))
theorem go_own_ex_25 (K : Ctx) (hw : ∀ d ∈ tables_1, d.before K.2.2.1 K.2.1 = true) (l0 : Int32) (H : Hp) : Go K m2 0 0 25 [.val (.int l0)] [] H (some (.int (own_ex_25 l0)), some H, 0, 0) := by
  refine Go.iloadN d2_25 rfl ?_
  refine Go.bipush d2_26 (v := 65) rfl ?_
  refine Go.icmp_lt d2_28 j2_28 (fun h28 => ?_) (fun h28 => ?_)
  · -- pc 28 taken
    exact (go_own_ex_37 K hw l0 H).cast (by rw [own_ex_25, if_pos h28])
  · -- pc 28 not taken
    refine Go.iloadN d2_31 rfl ?_
    refine Go.bipush d2_32 (v := 90) rfl ?_
    refine Go.icmp_le d2_34 j2_34 (fun h34 => ?_) (fun h34 => ?_)
    · -- pc 34 taken
      exact (go_own_ex_49 K hw l0 H).cast (by rw [own_ex_25, if_neg h28, if_neg h34])
    · -- pc 34 not taken
      exact (go_own_ex_37 K hw l0 H).cast (by rw [own_ex_25, if_neg h28, if_pos h34])
def own_ex_6 (l0 : Int32) : Int32 := (if l0 < 128 then (if l0 < 97 then (own_ex_25 l0) else (if 122 < l0 then (own_ex_25 l0) else (own_ex_49 l0))) else (own_ex_55 l0))
theorem go_own_ex_6 (K : Ctx) (hw : ∀ d ∈ tables_1, d.before K.2.2.1 K.2.1 = true) (l0 : Int32) (H : Hp) : Go K m2 0 0 6 [.val (.int l0)] [] H (some (.int (own_ex_6 l0)), some H, 0, 0) := by
  refine Go.iloadN d2_6 rfl ?_
  refine Go.sipush d2_7 (v := 128) rfl ?_
  refine Go.icmp_ge d2_10 j2_10 (fun h10 => ?_) (fun h10 => ?_)
  · -- pc 10 taken
    exact (go_own_ex_55 K hw l0 H).cast (by rw [own_ex_6, if_neg h10])
  · -- pc 10 not taken
    refine Go.iloadN d2_13 rfl ?_
    refine Go.bipush d2_14 (v := 97) rfl ?_
    refine Go.icmp_lt d2_16 j2_16 (fun h16 => ?_) (fun h16 => ?_)
    · -- pc 16 taken
      exact (go_own_ex_25 K hw l0 H).cast (by rw [own_ex_6, if_pos h10, if_pos h16])
    · -- pc 16 not taken
      refine Go.iloadN d2_19 rfl ?_
      refine Go.bipush d2_20 (v := 122) rfl ?_
      refine Go.icmp_le d2_22 j2_22 (fun h22 => ?_) (fun h22 => ?_)
      · -- pc 22 taken
        exact (go_own_ex_49 K hw l0 H).cast (by rw [own_ex_6, if_pos h10, if_neg h16, if_neg h22])
      · -- pc 22 not taken
        exact (go_own_ex_25 K hw l0 H).cast (by rw [own_ex_6, if_pos h10, if_neg h16, if_pos h22])
def own_ex (x0 : Int32) : Int32 := (if x0 < 0 then 0 else (own_ex_6 x0))
theorem go_own_ex (K : Ctx) (hw : ∀ d ∈ tables_1, d.before K.2.2.1 K.2.1 = true) (x0 : Int32) (H : Hp) : Go K m2 0 0 0 [.val (.int x0)] [] H (some (.int (own_ex x0)), some H, 0, 0) := by
  refine Go.iloadN d2_0 rfl ?_
  refine Go.if_ge d2_1 j2_1 (fun h1 => ?_) (fun h1 => ?_)
  · -- pc 1 taken
    exact (go_own_ex_6 K hw x0 H).cast (by rw [own_ex, if_neg h1])
  · -- pc 1 not taken
    refine Go.iconst d2_4 (v := 0) rfl ?_
    exact Go.ireturnZ d2_5 rfl (by decide) (by rw [own_ex, if_pos h1]) (HOk.eq rfl)
theorem own_lits : (0 : Int32).toInt = 0 ∧ (58 : Int32).toInt = 58 ∧ (65 : Int32).toInt = 65 ∧ (90 : Int32).toInt = 90 ∧ (95 : Int32).toInt = 95 ∧ (97 : Int32).toInt = 97 ∧ (122 : Int32).toInt = 122 ∧ (128 : Int32).toInt = 128 ∧ (192 : Int32).toInt = 192 ∧ (214 : Int32).toInt = 214 ∧ (215 : Int32).toInt = 215 ∧ (216 : Int32).toInt = 216 ∧ (246 : Int32).toInt = 246 ∧ (247 : Int32).toInt = 247 ∧ (248 : Int32).toInt = 248 ∧ (767 : Int32).toInt = 767 ∧ (768 : Int32).toInt = 768 ∧ (880 : Int32).toInt = 880 ∧ (893 : Int32).toInt = 893 ∧ (894 : Int32).toInt = 894 ∧ (895 : Int32).toInt = 895 ∧ (8191 : Int32).toInt = 8191 ∧ (8192 : Int32).toInt = 8192 ∧ (8204 : Int32).toInt = 8204 ∧ (8205 : Int32).toInt = 8205 ∧ (8304 : Int32).toInt = 8304 ∧ (8591 : Int32).toInt = 8591 ∧ (8592 : Int32).toInt = 8592 ∧ (11264 : Int32).toInt = 11264 ∧ (12271 : Int32).toInt = 12271 ∧ (12272 : Int32).toInt = 12272 ∧ (12289 : Int32).toInt = 12289 ∧ (55295 : Int32).toInt = 55295 ∧ (55296 : Int32).toInt = 55296 ∧ (63744 : Int32).toInt = 63744 ∧ (64975 : Int32).toInt = 64975 ∧ (64976 : Int32).toInt = 64976 ∧ (65008 : Int32).toInt = 65008 ∧ (65533 : Int32).toInt = 65533 ∧ (65534 : Int32).toInt = 65534 ∧ (65536 : Int32).toInt = 65536 ∧ (983039 : Int32).toInt = 983039 ∧ (983040 : Int32).toInt = 983040 := by decide +kernel
theorem own_eq (c k : Int32) : (c = k) = (c.toInt = k.toInt) := propext Int32.toInt_inj.symm
theorem own_v_197 (c : Int32) : own_is_197 c = 1 := rfl
theorem own_v_201 (c : Int32) : own_is_201 c = 0 := rfl
theorem own_v_185 (c : Int32) : own_is_185 c = if (65536 ≤ c.toInt ∧ c.toInt ≤ 983039) then 1 else 0 := by
  rw [own_is_185]
  simp only [own_v_201, own_v_197, Int32.lt_iff_toInt_lt, own_eq c 95, own_eq c 58, own_eq c 215, own_eq c 247, own_eq c 894, own_eq c 8204, own_eq c 8205, own_lits]
  repeat' split
  all_goals first | rfl | omega
theorem own_v_173 (c : Int32) : own_is_173 c = if (65008 ≤ c.toInt ∧ c.toInt ≤ 65533) ∨ (65536 ≤ c.toInt ∧ c.toInt ≤ 983039) then 1 else 0 := by
  rw [own_is_173]
  simp only [own_v_185, own_v_197, Int32.lt_iff_toInt_lt, own_eq c 95, own_eq c 58, own_eq c 215, own_eq c 247, own_eq c 894, own_eq c 8204, own_eq c 8205, own_lits]
  repeat' split
  all_goals first | rfl | omega
theorem own_v_161 (c : Int32) : own_is_161 c = if (63744 ≤ c.toInt ∧ c.toInt ≤ 64975) ∨ (65008 ≤ c.toInt ∧ c.toInt ≤ 65533) ∨ (65536 ≤ c.toInt ∧ c.toInt ≤ 983039) then 1 else 0 := by
  rw [own_is_161]
  simp only [own_v_173, own_v_197, Int32.lt_iff_toInt_lt, own_eq c 95, own_eq c 58, own_eq c 215, own_eq c 247, own_eq c 894, own_eq c 8204, own_eq c 8205, own_lits]
  repeat' split
  all_goals first | rfl | omega
theorem own_v_148 (c : Int32) : own_is_148 c = if (12289 ≤ c.toInt ∧ c.toInt ≤ 55295) ∨ (63744 ≤ c.toInt ∧ c.toInt ≤ 64975) ∨ (65008 ≤ c.toInt ∧ c.toInt ≤ 65533) ∨ (65536 ≤ c.toInt ∧ c.toInt ≤ 983039) then 1 else 0 := by
  rw [own_is_148]
  simp only [own_v_161, own_v_197, Int32.lt_iff_toInt_lt, own_eq c 95, own_eq c 58, own_eq c 215, own_eq c 247, own_eq c 894, own_eq c 8204, own_eq c 8205, own_lits]
  repeat' split
  all_goals first | rfl | omega
theorem own_v_134 (c : Int32) : own_is_134 c = if (11264 ≤ c.toInt ∧ c.toInt ≤ 12271) ∨ (12289 ≤ c.toInt ∧ c.toInt ≤ 55295) ∨ (63744 ≤ c.toInt ∧ c.toInt ≤ 64975) ∨ (65008 ≤ c.toInt ∧ c.toInt ≤ 65533) ∨ (65536 ≤ c.toInt ∧ c.toInt ≤ 983039) then 1 else 0 := by
  rw [own_is_134]
  simp only [own_v_148, own_v_197, Int32.lt_iff_toInt_lt, own_eq c 95, own_eq c 58, own_eq c 215, own_eq c 247, own_eq c 894, own_eq c 8204, own_eq c 8205, own_lits]
  repeat' split
  all_goals first | rfl | omega
theorem own_v_120 (c : Int32) : own_is_120 c = if (8304 ≤ c.toInt ∧ c.toInt ≤ 8591) ∨ (11264 ≤ c.toInt ∧ c.toInt ≤ 12271) ∨ (12289 ≤ c.toInt ∧ c.toInt ≤ 55295) ∨ (63744 ≤ c.toInt ∧ c.toInt ≤ 64975) ∨ (65008 ≤ c.toInt ∧ c.toInt ≤ 65533) ∨ (65536 ≤ c.toInt ∧ c.toInt ≤ 983039) then 1 else 0 := by
  rw [own_is_120]
  simp only [own_v_134, own_v_197, Int32.lt_iff_toInt_lt, own_eq c 95, own_eq c 58, own_eq c 215, own_eq c 247, own_eq c 894, own_eq c 8204, own_eq c 8205, own_lits]
  repeat' split
  all_goals first | rfl | omega
theorem own_v_106 (c : Int32) : own_is_106 c = if (8204 ≤ c.toInt ∧ c.toInt ≤ 8205) ∨ (8304 ≤ c.toInt ∧ c.toInt ≤ 8591) ∨ (11264 ≤ c.toInt ∧ c.toInt ≤ 12271) ∨ (12289 ≤ c.toInt ∧ c.toInt ≤ 55295) ∨ (63744 ≤ c.toInt ∧ c.toInt ≤ 64975) ∨ (65008 ≤ c.toInt ∧ c.toInt ≤ 65533) ∨ (65536 ≤ c.toInt ∧ c.toInt ≤ 983039) then 1 else 0 := by
  rw [own_is_106]
  simp only [own_v_120, own_v_197, Int32.lt_iff_toInt_lt, own_eq c 95, own_eq c 58, own_eq c 215, own_eq c 247, own_eq c 894, own_eq c 8204, own_eq c 8205, own_lits]
  repeat' split
  all_goals first | rfl | omega
theorem own_v_92 (c : Int32) : own_is_92 c = if (895 ≤ c.toInt ∧ c.toInt ≤ 8191) ∨ (8204 ≤ c.toInt ∧ c.toInt ≤ 8205) ∨ (8304 ≤ c.toInt ∧ c.toInt ≤ 8591) ∨ (11264 ≤ c.toInt ∧ c.toInt ≤ 12271) ∨ (12289 ≤ c.toInt ∧ c.toInt ≤ 55295) ∨ (63744 ≤ c.toInt ∧ c.toInt ≤ 64975) ∨ (65008 ≤ c.toInt ∧ c.toInt ≤ 65533) ∨ (65536 ≤ c.toInt ∧ c.toInt ≤ 983039) then 1 else 0 := by
  rw [own_is_92]
  simp only [own_v_106, own_v_197, Int32.lt_iff_toInt_lt, own_eq c 95, own_eq c 58, own_eq c 215, own_eq c 247, own_eq c 894, own_eq c 8204, own_eq c 8205, own_lits]
  repeat' split
  all_goals first | rfl | omega
theorem own_v_78 (c : Int32) : own_is_78 c = if (880 ≤ c.toInt ∧ c.toInt ≤ 893) ∨ (895 ≤ c.toInt ∧ c.toInt ≤ 8191) ∨ (8204 ≤ c.toInt ∧ c.toInt ≤ 8205) ∨ (8304 ≤ c.toInt ∧ c.toInt ≤ 8591) ∨ (11264 ≤ c.toInt ∧ c.toInt ≤ 12271) ∨ (12289 ≤ c.toInt ∧ c.toInt ≤ 55295) ∨ (63744 ≤ c.toInt ∧ c.toInt ≤ 64975) ∨ (65008 ≤ c.toInt ∧ c.toInt ≤ 65533) ∨ (65536 ≤ c.toInt ∧ c.toInt ≤ 983039) then 1 else 0 := by
  rw [own_is_78]
  simp only [own_v_92, own_v_197, Int32.lt_iff_toInt_lt, own_eq c 95, own_eq c 58, own_eq c 215, own_eq c 247, own_eq c 894, own_eq c 8204, own_eq c 8205, own_lits]
  repeat' split
  all_goals first | rfl | omega
theorem own_v_64 (c : Int32) : own_is_64 c = if (248 ≤ c.toInt ∧ c.toInt ≤ 767) ∨ (880 ≤ c.toInt ∧ c.toInt ≤ 893) ∨ (895 ≤ c.toInt ∧ c.toInt ≤ 8191) ∨ (8204 ≤ c.toInt ∧ c.toInt ≤ 8205) ∨ (8304 ≤ c.toInt ∧ c.toInt ≤ 8591) ∨ (11264 ≤ c.toInt ∧ c.toInt ≤ 12271) ∨ (12289 ≤ c.toInt ∧ c.toInt ≤ 55295) ∨ (63744 ≤ c.toInt ∧ c.toInt ≤ 64975) ∨ (65008 ≤ c.toInt ∧ c.toInt ≤ 65533) ∨ (65536 ≤ c.toInt ∧ c.toInt ≤ 983039) then 1 else 0 := by
  rw [own_is_64]
  simp only [own_v_78, own_v_197, Int32.lt_iff_toInt_lt, own_eq c 95, own_eq c 58, own_eq c 215, own_eq c 247, own_eq c 894, own_eq c 8204, own_eq c 8205, own_lits]
  repeat' split
  all_goals first | rfl | omega
theorem own_v_50 (c : Int32) : own_is_50 c = if (216 ≤ c.toInt ∧ c.toInt ≤ 246) ∨ (248 ≤ c.toInt ∧ c.toInt ≤ 767) ∨ (880 ≤ c.toInt ∧ c.toInt ≤ 893) ∨ (895 ≤ c.toInt ∧ c.toInt ≤ 8191) ∨ (8204 ≤ c.toInt ∧ c.toInt ≤ 8205) ∨ (8304 ≤ c.toInt ∧ c.toInt ≤ 8591) ∨ (11264 ≤ c.toInt ∧ c.toInt ≤ 12271) ∨ (12289 ≤ c.toInt ∧ c.toInt ≤ 55295) ∨ (63744 ≤ c.toInt ∧ c.toInt ≤ 64975) ∨ (65008 ≤ c.toInt ∧ c.toInt ≤ 65533) ∨ (65536 ≤ c.toInt ∧ c.toInt ≤ 983039) then 1 else 0 := by
  rw [own_is_50]
  simp only [own_v_64, own_v_197, Int32.lt_iff_toInt_lt, own_eq c 95, own_eq c 58, own_eq c 215, own_eq c 247, own_eq c 894, own_eq c 8204, own_eq c 8205, own_lits]
  repeat' split
  all_goals first | rfl | omega
theorem own_v_36 (c : Int32) : own_is_36 c = if (192 ≤ c.toInt ∧ c.toInt ≤ 214) ∨ (216 ≤ c.toInt ∧ c.toInt ≤ 246) ∨ (248 ≤ c.toInt ∧ c.toInt ≤ 767) ∨ (880 ≤ c.toInt ∧ c.toInt ≤ 893) ∨ (895 ≤ c.toInt ∧ c.toInt ≤ 8191) ∨ (8204 ≤ c.toInt ∧ c.toInt ≤ 8205) ∨ (8304 ≤ c.toInt ∧ c.toInt ≤ 8591) ∨ (11264 ≤ c.toInt ∧ c.toInt ≤ 12271) ∨ (12289 ≤ c.toInt ∧ c.toInt ≤ 55295) ∨ (63744 ≤ c.toInt ∧ c.toInt ≤ 64975) ∨ (65008 ≤ c.toInt ∧ c.toInt ≤ 65533) ∨ (65536 ≤ c.toInt ∧ c.toInt ≤ 983039) then 1 else 0 := by
  rw [own_is_36]
  simp only [own_v_50, own_v_197, Int32.lt_iff_toInt_lt, own_eq c 95, own_eq c 58, own_eq c 215, own_eq c 247, own_eq c 894, own_eq c 8204, own_eq c 8205, own_lits]
  repeat' split
  all_goals first | rfl | omega
theorem own_v_30 (c : Int32) : own_is_30 c = if (58 ≤ c.toInt ∧ c.toInt ≤ 58) ∨ (192 ≤ c.toInt ∧ c.toInt ≤ 214) ∨ (216 ≤ c.toInt ∧ c.toInt ≤ 246) ∨ (248 ≤ c.toInt ∧ c.toInt ≤ 767) ∨ (880 ≤ c.toInt ∧ c.toInt ≤ 893) ∨ (895 ≤ c.toInt ∧ c.toInt ≤ 8191) ∨ (8204 ≤ c.toInt ∧ c.toInt ≤ 8205) ∨ (8304 ≤ c.toInt ∧ c.toInt ≤ 8591) ∨ (11264 ≤ c.toInt ∧ c.toInt ≤ 12271) ∨ (12289 ≤ c.toInt ∧ c.toInt ≤ 55295) ∨ (63744 ≤ c.toInt ∧ c.toInt ≤ 64975) ∨ (65008 ≤ c.toInt ∧ c.toInt ≤ 65533) ∨ (65536 ≤ c.toInt ∧ c.toInt ≤ 983039) then 1 else 0 := by
  rw [own_is_30]
  simp only [own_v_36, own_v_197, Int32.lt_iff_toInt_lt, own_eq c 95, own_eq c 58, own_eq c 215, own_eq c 247, own_eq c 894, own_eq c 8204, own_eq c 8205, own_lits]
  repeat' split
  all_goals first | rfl | omega
theorem own_v_24 (c : Int32) : own_is_24 c = if (95 ≤ c.toInt ∧ c.toInt ≤ 95) ∨ (58 ≤ c.toInt ∧ c.toInt ≤ 58) ∨ (192 ≤ c.toInt ∧ c.toInt ≤ 214) ∨ (216 ≤ c.toInt ∧ c.toInt ≤ 246) ∨ (248 ≤ c.toInt ∧ c.toInt ≤ 767) ∨ (880 ≤ c.toInt ∧ c.toInt ≤ 893) ∨ (895 ≤ c.toInt ∧ c.toInt ≤ 8191) ∨ (8204 ≤ c.toInt ∧ c.toInt ≤ 8205) ∨ (8304 ≤ c.toInt ∧ c.toInt ≤ 8591) ∨ (11264 ≤ c.toInt ∧ c.toInt ≤ 12271) ∨ (12289 ≤ c.toInt ∧ c.toInt ≤ 55295) ∨ (63744 ≤ c.toInt ∧ c.toInt ≤ 64975) ∨ (65008 ≤ c.toInt ∧ c.toInt ≤ 65533) ∨ (65536 ≤ c.toInt ∧ c.toInt ≤ 983039) then 1 else 0 := by
  rw [own_is_24]
  simp only [own_v_30, own_v_197, Int32.lt_iff_toInt_lt, own_eq c 95, own_eq c 58, own_eq c 215, own_eq c 247, own_eq c 894, own_eq c 8204, own_eq c 8205, own_lits]
  repeat' split
  all_goals first | rfl | omega
theorem own_v_12 (c : Int32) : own_is_12 c = if (65 ≤ c.toInt ∧ c.toInt ≤ 90) ∨ (95 ≤ c.toInt ∧ c.toInt ≤ 95) ∨ (58 ≤ c.toInt ∧ c.toInt ≤ 58) ∨ (192 ≤ c.toInt ∧ c.toInt ≤ 214) ∨ (216 ≤ c.toInt ∧ c.toInt ≤ 246) ∨ (248 ≤ c.toInt ∧ c.toInt ≤ 767) ∨ (880 ≤ c.toInt ∧ c.toInt ≤ 893) ∨ (895 ≤ c.toInt ∧ c.toInt ≤ 8191) ∨ (8204 ≤ c.toInt ∧ c.toInt ≤ 8205) ∨ (8304 ≤ c.toInt ∧ c.toInt ≤ 8591) ∨ (11264 ≤ c.toInt ∧ c.toInt ≤ 12271) ∨ (12289 ≤ c.toInt ∧ c.toInt ≤ 55295) ∨ (63744 ≤ c.toInt ∧ c.toInt ≤ 64975) ∨ (65008 ≤ c.toInt ∧ c.toInt ≤ 65533) ∨ (65536 ≤ c.toInt ∧ c.toInt ≤ 983039) then 1 else 0 := by
  rw [own_is_12]
  simp only [own_v_24, own_v_197, Int32.lt_iff_toInt_lt, own_eq c 95, own_eq c 58, own_eq c 215, own_eq c 247, own_eq c 894, own_eq c 8204, own_eq c 8205, own_lits]
  repeat' split
  all_goals first | rfl | omega
theorem own_v (c : Int32) : own_is c = if (97 ≤ c.toInt ∧ c.toInt ≤ 122) ∨ (65 ≤ c.toInt ∧ c.toInt ≤ 90) ∨ (95 ≤ c.toInt ∧ c.toInt ≤ 95) ∨ (58 ≤ c.toInt ∧ c.toInt ≤ 58) ∨ (192 ≤ c.toInt ∧ c.toInt ≤ 214) ∨ (216 ≤ c.toInt ∧ c.toInt ≤ 246) ∨ (248 ≤ c.toInt ∧ c.toInt ≤ 767) ∨ (880 ≤ c.toInt ∧ c.toInt ≤ 893) ∨ (895 ≤ c.toInt ∧ c.toInt ≤ 8191) ∨ (8204 ≤ c.toInt ∧ c.toInt ≤ 8205) ∨ (8304 ≤ c.toInt ∧ c.toInt ≤ 8591) ∨ (11264 ≤ c.toInt ∧ c.toInt ≤ 12271) ∨ (12289 ≤ c.toInt ∧ c.toInt ≤ 55295) ∨ (63744 ≤ c.toInt ∧ c.toInt ≤ 64975) ∨ (65008 ≤ c.toInt ∧ c.toInt ≤ 65533) ∨ (65536 ≤ c.toInt ∧ c.toInt ≤ 983039) then 1 else 0 := by
  rw [own_is]
  simp only [own_v_12, own_v_197, Int32.lt_iff_toInt_lt, own_eq c 95, own_eq c 58, own_eq c 215, own_eq c 247, own_eq c 894, own_eq c 8204, own_eq c 8205, own_lits]
  repeat' split
  all_goals first | rfl | omega
theorem own_e_229 (c : Int32) (h : 65536 ≤ c.toInt) : own_ex_229 c = if (97 ≤ c.toInt ∧ c.toInt ≤ 122) ∨ (65 ≤ c.toInt ∧ c.toInt ≤ 90) ∨ (95 ≤ c.toInt ∧ c.toInt ≤ 95) ∨ (58 ≤ c.toInt ∧ c.toInt ≤ 58) ∨ (192 ≤ c.toInt ∧ c.toInt ≤ 214) ∨ (216 ≤ c.toInt ∧ c.toInt ≤ 246) ∨ (248 ≤ c.toInt ∧ c.toInt ≤ 767) ∨ (880 ≤ c.toInt ∧ c.toInt ≤ 893) ∨ (895 ≤ c.toInt ∧ c.toInt ≤ 8191) ∨ (8204 ≤ c.toInt ∧ c.toInt ≤ 8205) ∨ (8304 ≤ c.toInt ∧ c.toInt ≤ 8591) ∨ (11264 ≤ c.toInt ∧ c.toInt ≤ 12271) ∨ (12289 ≤ c.toInt ∧ c.toInt ≤ 55295) ∨ (63744 ≤ c.toInt ∧ c.toInt ≤ 64975) ∨ (65008 ≤ c.toInt ∧ c.toInt ≤ 65533) ∨ (65536 ≤ c.toInt ∧ c.toInt ≤ 983039) then 1 else 0 := by
  rw [own_ex_229]
  simp only [Int32.lt_iff_toInt_lt, own_eq c 95, own_eq c 58, own_eq c 215, own_eq c 247, own_eq c 894, own_eq c 8204, own_eq c 8205, own_lits]
  repeat' split
  all_goals first | rfl | omega
theorem own_e_221 (c : Int32) (h : 65534 ≤ c.toInt) : own_ex_221 c = if (97 ≤ c.toInt ∧ c.toInt ≤ 122) ∨ (65 ≤ c.toInt ∧ c.toInt ≤ 90) ∨ (95 ≤ c.toInt ∧ c.toInt ≤ 95) ∨ (58 ≤ c.toInt ∧ c.toInt ≤ 58) ∨ (192 ≤ c.toInt ∧ c.toInt ≤ 214) ∨ (216 ≤ c.toInt ∧ c.toInt ≤ 246) ∨ (248 ≤ c.toInt ∧ c.toInt ≤ 767) ∨ (880 ≤ c.toInt ∧ c.toInt ≤ 893) ∨ (895 ≤ c.toInt ∧ c.toInt ≤ 8191) ∨ (8204 ≤ c.toInt ∧ c.toInt ≤ 8205) ∨ (8304 ≤ c.toInt ∧ c.toInt ≤ 8591) ∨ (11264 ≤ c.toInt ∧ c.toInt ≤ 12271) ∨ (12289 ≤ c.toInt ∧ c.toInt ≤ 55295) ∨ (63744 ≤ c.toInt ∧ c.toInt ≤ 64975) ∨ (65008 ≤ c.toInt ∧ c.toInt ≤ 65533) ∨ (65536 ≤ c.toInt ∧ c.toInt ≤ 983039) then 1 else 0 := by
  rw [own_ex_221]
  simp only [Int32.lt_iff_toInt_lt, own_eq c 95, own_eq c 58, own_eq c 215, own_eq c 247, own_eq c 894, own_eq c 8204, own_eq c 8205, own_lits]
  split
  · repeat' split
    all_goals first | rfl | omega
  · rename_i hh
    exact own_e_229 c (by omega)
theorem own_e_213 (c : Int32) (h : 65008 ≤ c.toInt) : own_ex_213 c = if (97 ≤ c.toInt ∧ c.toInt ≤ 122) ∨ (65 ≤ c.toInt ∧ c.toInt ≤ 90) ∨ (95 ≤ c.toInt ∧ c.toInt ≤ 95) ∨ (58 ≤ c.toInt ∧ c.toInt ≤ 58) ∨ (192 ≤ c.toInt ∧ c.toInt ≤ 214) ∨ (216 ≤ c.toInt ∧ c.toInt ≤ 246) ∨ (248 ≤ c.toInt ∧ c.toInt ≤ 767) ∨ (880 ≤ c.toInt ∧ c.toInt ≤ 893) ∨ (895 ≤ c.toInt ∧ c.toInt ≤ 8191) ∨ (8204 ≤ c.toInt ∧ c.toInt ≤ 8205) ∨ (8304 ≤ c.toInt ∧ c.toInt ≤ 8591) ∨ (11264 ≤ c.toInt ∧ c.toInt ≤ 12271) ∨ (12289 ≤ c.toInt ∧ c.toInt ≤ 55295) ∨ (63744 ≤ c.toInt ∧ c.toInt ≤ 64975) ∨ (65008 ≤ c.toInt ∧ c.toInt ≤ 65533) ∨ (65536 ≤ c.toInt ∧ c.toInt ≤ 983039) then 1 else 0 := by
  rw [own_ex_213]
  simp only [Int32.lt_iff_toInt_lt, own_eq c 95, own_eq c 58, own_eq c 215, own_eq c 247, own_eq c 894, own_eq c 8204, own_eq c 8205, own_lits]
  split
  · repeat' split
    all_goals first | rfl | omega
  · rename_i hh
    exact own_e_221 c (by omega)
theorem own_e_205 (c : Int32) (h : 64976 ≤ c.toInt) : own_ex_205 c = if (97 ≤ c.toInt ∧ c.toInt ≤ 122) ∨ (65 ≤ c.toInt ∧ c.toInt ≤ 90) ∨ (95 ≤ c.toInt ∧ c.toInt ≤ 95) ∨ (58 ≤ c.toInt ∧ c.toInt ≤ 58) ∨ (192 ≤ c.toInt ∧ c.toInt ≤ 214) ∨ (216 ≤ c.toInt ∧ c.toInt ≤ 246) ∨ (248 ≤ c.toInt ∧ c.toInt ≤ 767) ∨ (880 ≤ c.toInt ∧ c.toInt ≤ 893) ∨ (895 ≤ c.toInt ∧ c.toInt ≤ 8191) ∨ (8204 ≤ c.toInt ∧ c.toInt ≤ 8205) ∨ (8304 ≤ c.toInt ∧ c.toInt ≤ 8591) ∨ (11264 ≤ c.toInt ∧ c.toInt ≤ 12271) ∨ (12289 ≤ c.toInt ∧ c.toInt ≤ 55295) ∨ (63744 ≤ c.toInt ∧ c.toInt ≤ 64975) ∨ (65008 ≤ c.toInt ∧ c.toInt ≤ 65533) ∨ (65536 ≤ c.toInt ∧ c.toInt ≤ 983039) then 1 else 0 := by
  rw [own_ex_205]
  simp only [Int32.lt_iff_toInt_lt, own_eq c 95, own_eq c 58, own_eq c 215, own_eq c 247, own_eq c 894, own_eq c 8204, own_eq c 8205, own_lits]
  split
  · repeat' split
    all_goals first | rfl | omega
  · rename_i hh
    exact own_e_213 c (by omega)
theorem own_e_197 (c : Int32) (h : 63744 ≤ c.toInt) : own_ex_197 c = if (97 ≤ c.toInt ∧ c.toInt ≤ 122) ∨ (65 ≤ c.toInt ∧ c.toInt ≤ 90) ∨ (95 ≤ c.toInt ∧ c.toInt ≤ 95) ∨ (58 ≤ c.toInt ∧ c.toInt ≤ 58) ∨ (192 ≤ c.toInt ∧ c.toInt ≤ 214) ∨ (216 ≤ c.toInt ∧ c.toInt ≤ 246) ∨ (248 ≤ c.toInt ∧ c.toInt ≤ 767) ∨ (880 ≤ c.toInt ∧ c.toInt ≤ 893) ∨ (895 ≤ c.toInt ∧ c.toInt ≤ 8191) ∨ (8204 ≤ c.toInt ∧ c.toInt ≤ 8205) ∨ (8304 ≤ c.toInt ∧ c.toInt ≤ 8591) ∨ (11264 ≤ c.toInt ∧ c.toInt ≤ 12271) ∨ (12289 ≤ c.toInt ∧ c.toInt ≤ 55295) ∨ (63744 ≤ c.toInt ∧ c.toInt ≤ 64975) ∨ (65008 ≤ c.toInt ∧ c.toInt ≤ 65533) ∨ (65536 ≤ c.toInt ∧ c.toInt ≤ 983039) then 1 else 0 := by
  rw [own_ex_197]
  simp only [Int32.lt_iff_toInt_lt, own_eq c 95, own_eq c 58, own_eq c 215, own_eq c 247, own_eq c 894, own_eq c 8204, own_eq c 8205, own_lits]
  split
  · repeat' split
    all_goals first | rfl | omega
  · rename_i hh
    exact own_e_205 c (by omega)
theorem own_e_189 (c : Int32) (h : 55296 ≤ c.toInt) : own_ex_189 c = if (97 ≤ c.toInt ∧ c.toInt ≤ 122) ∨ (65 ≤ c.toInt ∧ c.toInt ≤ 90) ∨ (95 ≤ c.toInt ∧ c.toInt ≤ 95) ∨ (58 ≤ c.toInt ∧ c.toInt ≤ 58) ∨ (192 ≤ c.toInt ∧ c.toInt ≤ 214) ∨ (216 ≤ c.toInt ∧ c.toInt ≤ 246) ∨ (248 ≤ c.toInt ∧ c.toInt ≤ 767) ∨ (880 ≤ c.toInt ∧ c.toInt ≤ 893) ∨ (895 ≤ c.toInt ∧ c.toInt ≤ 8191) ∨ (8204 ≤ c.toInt ∧ c.toInt ≤ 8205) ∨ (8304 ≤ c.toInt ∧ c.toInt ≤ 8591) ∨ (11264 ≤ c.toInt ∧ c.toInt ≤ 12271) ∨ (12289 ≤ c.toInt ∧ c.toInt ≤ 55295) ∨ (63744 ≤ c.toInt ∧ c.toInt ≤ 64975) ∨ (65008 ≤ c.toInt ∧ c.toInt ≤ 65533) ∨ (65536 ≤ c.toInt ∧ c.toInt ≤ 983039) then 1 else 0 := by
  rw [own_ex_189]
  simp only [Int32.lt_iff_toInt_lt, own_eq c 95, own_eq c 58, own_eq c 215, own_eq c 247, own_eq c 894, own_eq c 8204, own_eq c 8205, own_lits]
  split
  · repeat' split
    all_goals first | rfl | omega
  · rename_i hh
    exact own_e_197 c (by omega)
theorem own_e_181 (c : Int32) (h : 12289 ≤ c.toInt) : own_ex_181 c = if (97 ≤ c.toInt ∧ c.toInt ≤ 122) ∨ (65 ≤ c.toInt ∧ c.toInt ≤ 90) ∨ (95 ≤ c.toInt ∧ c.toInt ≤ 95) ∨ (58 ≤ c.toInt ∧ c.toInt ≤ 58) ∨ (192 ≤ c.toInt ∧ c.toInt ≤ 214) ∨ (216 ≤ c.toInt ∧ c.toInt ≤ 246) ∨ (248 ≤ c.toInt ∧ c.toInt ≤ 767) ∨ (880 ≤ c.toInt ∧ c.toInt ≤ 893) ∨ (895 ≤ c.toInt ∧ c.toInt ≤ 8191) ∨ (8204 ≤ c.toInt ∧ c.toInt ≤ 8205) ∨ (8304 ≤ c.toInt ∧ c.toInt ≤ 8591) ∨ (11264 ≤ c.toInt ∧ c.toInt ≤ 12271) ∨ (12289 ≤ c.toInt ∧ c.toInt ≤ 55295) ∨ (63744 ≤ c.toInt ∧ c.toInt ≤ 64975) ∨ (65008 ≤ c.toInt ∧ c.toInt ≤ 65533) ∨ (65536 ≤ c.toInt ∧ c.toInt ≤ 983039) then 1 else 0 := by
  rw [own_ex_181]
  simp only [Int32.lt_iff_toInt_lt, own_eq c 95, own_eq c 58, own_eq c 215, own_eq c 247, own_eq c 894, own_eq c 8204, own_eq c 8205, own_lits]
  split
  · repeat' split
    all_goals first | rfl | omega
  · rename_i hh
    exact own_e_189 c (by omega)
theorem own_e_172 (c : Int32) (h : 12272 ≤ c.toInt) : own_ex_172 c = if (97 ≤ c.toInt ∧ c.toInt ≤ 122) ∨ (65 ≤ c.toInt ∧ c.toInt ≤ 90) ∨ (95 ≤ c.toInt ∧ c.toInt ≤ 95) ∨ (58 ≤ c.toInt ∧ c.toInt ≤ 58) ∨ (192 ≤ c.toInt ∧ c.toInt ≤ 214) ∨ (216 ≤ c.toInt ∧ c.toInt ≤ 246) ∨ (248 ≤ c.toInt ∧ c.toInt ≤ 767) ∨ (880 ≤ c.toInt ∧ c.toInt ≤ 893) ∨ (895 ≤ c.toInt ∧ c.toInt ≤ 8191) ∨ (8204 ≤ c.toInt ∧ c.toInt ≤ 8205) ∨ (8304 ≤ c.toInt ∧ c.toInt ≤ 8591) ∨ (11264 ≤ c.toInt ∧ c.toInt ≤ 12271) ∨ (12289 ≤ c.toInt ∧ c.toInt ≤ 55295) ∨ (63744 ≤ c.toInt ∧ c.toInt ≤ 64975) ∨ (65008 ≤ c.toInt ∧ c.toInt ≤ 65533) ∨ (65536 ≤ c.toInt ∧ c.toInt ≤ 983039) then 1 else 0 := by
  rw [own_ex_172]
  simp only [Int32.lt_iff_toInt_lt, own_eq c 95, own_eq c 58, own_eq c 215, own_eq c 247, own_eq c 894, own_eq c 8204, own_eq c 8205, own_lits]
  split
  · repeat' split
    all_goals first | rfl | omega
  · rename_i hh
    exact own_e_181 c (by omega)
theorem own_e_163 (c : Int32) (h : 11264 ≤ c.toInt) : own_ex_163 c = if (97 ≤ c.toInt ∧ c.toInt ≤ 122) ∨ (65 ≤ c.toInt ∧ c.toInt ≤ 90) ∨ (95 ≤ c.toInt ∧ c.toInt ≤ 95) ∨ (58 ≤ c.toInt ∧ c.toInt ≤ 58) ∨ (192 ≤ c.toInt ∧ c.toInt ≤ 214) ∨ (216 ≤ c.toInt ∧ c.toInt ≤ 246) ∨ (248 ≤ c.toInt ∧ c.toInt ≤ 767) ∨ (880 ≤ c.toInt ∧ c.toInt ≤ 893) ∨ (895 ≤ c.toInt ∧ c.toInt ≤ 8191) ∨ (8204 ≤ c.toInt ∧ c.toInt ≤ 8205) ∨ (8304 ≤ c.toInt ∧ c.toInt ≤ 8591) ∨ (11264 ≤ c.toInt ∧ c.toInt ≤ 12271) ∨ (12289 ≤ c.toInt ∧ c.toInt ≤ 55295) ∨ (63744 ≤ c.toInt ∧ c.toInt ≤ 64975) ∨ (65008 ≤ c.toInt ∧ c.toInt ≤ 65533) ∨ (65536 ≤ c.toInt ∧ c.toInt ≤ 983039) then 1 else 0 := by
  rw [own_ex_163]
  simp only [Int32.lt_iff_toInt_lt, own_eq c 95, own_eq c 58, own_eq c 215, own_eq c 247, own_eq c 894, own_eq c 8204, own_eq c 8205, own_lits]
  split
  · repeat' split
    all_goals first | rfl | omega
  · rename_i hh
    exact own_e_172 c (by omega)
theorem own_e_154 (c : Int32) (h : 8592 ≤ c.toInt) : own_ex_154 c = if (97 ≤ c.toInt ∧ c.toInt ≤ 122) ∨ (65 ≤ c.toInt ∧ c.toInt ≤ 90) ∨ (95 ≤ c.toInt ∧ c.toInt ≤ 95) ∨ (58 ≤ c.toInt ∧ c.toInt ≤ 58) ∨ (192 ≤ c.toInt ∧ c.toInt ≤ 214) ∨ (216 ≤ c.toInt ∧ c.toInt ≤ 246) ∨ (248 ≤ c.toInt ∧ c.toInt ≤ 767) ∨ (880 ≤ c.toInt ∧ c.toInt ≤ 893) ∨ (895 ≤ c.toInt ∧ c.toInt ≤ 8191) ∨ (8204 ≤ c.toInt ∧ c.toInt ≤ 8205) ∨ (8304 ≤ c.toInt ∧ c.toInt ≤ 8591) ∨ (11264 ≤ c.toInt ∧ c.toInt ≤ 12271) ∨ (12289 ≤ c.toInt ∧ c.toInt ≤ 55295) ∨ (63744 ≤ c.toInt ∧ c.toInt ≤ 64975) ∨ (65008 ≤ c.toInt ∧ c.toInt ≤ 65533) ∨ (65536 ≤ c.toInt ∧ c.toInt ≤ 983039) then 1 else 0 := by
  rw [own_ex_154]
  simp only [Int32.lt_iff_toInt_lt, own_eq c 95, own_eq c 58, own_eq c 215, own_eq c 247, own_eq c 894, own_eq c 8204, own_eq c 8205, own_lits]
  split
  · repeat' split
    all_goals first | rfl | omega
  · rename_i hh
    exact own_e_163 c (by omega)
theorem own_e_145 (c : Int32) (h : 8304 ≤ c.toInt) : own_ex_145 c = if (97 ≤ c.toInt ∧ c.toInt ≤ 122) ∨ (65 ≤ c.toInt ∧ c.toInt ≤ 90) ∨ (95 ≤ c.toInt ∧ c.toInt ≤ 95) ∨ (58 ≤ c.toInt ∧ c.toInt ≤ 58) ∨ (192 ≤ c.toInt ∧ c.toInt ≤ 214) ∨ (216 ≤ c.toInt ∧ c.toInt ≤ 246) ∨ (248 ≤ c.toInt ∧ c.toInt ≤ 767) ∨ (880 ≤ c.toInt ∧ c.toInt ≤ 893) ∨ (895 ≤ c.toInt ∧ c.toInt ≤ 8191) ∨ (8204 ≤ c.toInt ∧ c.toInt ≤ 8205) ∨ (8304 ≤ c.toInt ∧ c.toInt ≤ 8591) ∨ (11264 ≤ c.toInt ∧ c.toInt ≤ 12271) ∨ (12289 ≤ c.toInt ∧ c.toInt ≤ 55295) ∨ (63744 ≤ c.toInt ∧ c.toInt ≤ 64975) ∨ (65008 ≤ c.toInt ∧ c.toInt ≤ 65533) ∨ (65536 ≤ c.toInt ∧ c.toInt ≤ 983039) then 1 else 0 := by
  rw [own_ex_145]
  simp only [Int32.lt_iff_toInt_lt, own_eq c 95, own_eq c 58, own_eq c 215, own_eq c 247, own_eq c 894, own_eq c 8204, own_eq c 8205, own_lits]
  split
  · repeat' split
    all_goals first | rfl | omega
  · rename_i hh
    exact own_e_154 c (by omega)
theorem own_e_118 (c : Int32) (h : 8192 ≤ c.toInt) : own_ex_118 c = if (97 ≤ c.toInt ∧ c.toInt ≤ 122) ∨ (65 ≤ c.toInt ∧ c.toInt ≤ 90) ∨ (95 ≤ c.toInt ∧ c.toInt ≤ 95) ∨ (58 ≤ c.toInt ∧ c.toInt ≤ 58) ∨ (192 ≤ c.toInt ∧ c.toInt ≤ 214) ∨ (216 ≤ c.toInt ∧ c.toInt ≤ 246) ∨ (248 ≤ c.toInt ∧ c.toInt ≤ 767) ∨ (880 ≤ c.toInt ∧ c.toInt ≤ 893) ∨ (895 ≤ c.toInt ∧ c.toInt ≤ 8191) ∨ (8204 ≤ c.toInt ∧ c.toInt ≤ 8205) ∨ (8304 ≤ c.toInt ∧ c.toInt ≤ 8591) ∨ (11264 ≤ c.toInt ∧ c.toInt ≤ 12271) ∨ (12289 ≤ c.toInt ∧ c.toInt ≤ 55295) ∨ (63744 ≤ c.toInt ∧ c.toInt ≤ 64975) ∨ (65008 ≤ c.toInt ∧ c.toInt ≤ 65533) ∨ (65536 ≤ c.toInt ∧ c.toInt ≤ 983039) then 1 else 0 := by
  rw [own_ex_118]
  simp only [Int32.lt_iff_toInt_lt, own_eq c 95, own_eq c 58, own_eq c 215, own_eq c 247, own_eq c 894, own_eq c 8204, own_eq c 8205, own_lits]
  split
  · repeat' split
    all_goals first | rfl | omega
  · rename_i hh
    exact own_e_145 c (by omega)
theorem own_e_98 (c : Int32) (h : 880 ≤ c.toInt) : own_ex_98 c = if (97 ≤ c.toInt ∧ c.toInt ≤ 122) ∨ (65 ≤ c.toInt ∧ c.toInt ≤ 90) ∨ (95 ≤ c.toInt ∧ c.toInt ≤ 95) ∨ (58 ≤ c.toInt ∧ c.toInt ≤ 58) ∨ (192 ≤ c.toInt ∧ c.toInt ≤ 214) ∨ (216 ≤ c.toInt ∧ c.toInt ≤ 246) ∨ (248 ≤ c.toInt ∧ c.toInt ≤ 767) ∨ (880 ≤ c.toInt ∧ c.toInt ≤ 893) ∨ (895 ≤ c.toInt ∧ c.toInt ≤ 8191) ∨ (8204 ≤ c.toInt ∧ c.toInt ≤ 8205) ∨ (8304 ≤ c.toInt ∧ c.toInt ≤ 8591) ∨ (11264 ≤ c.toInt ∧ c.toInt ≤ 12271) ∨ (12289 ≤ c.toInt ∧ c.toInt ≤ 55295) ∨ (63744 ≤ c.toInt ∧ c.toInt ≤ 64975) ∨ (65008 ≤ c.toInt ∧ c.toInt ≤ 65533) ∨ (65536 ≤ c.toInt ∧ c.toInt ≤ 983039) then 1 else 0 := by
  rw [own_ex_98]
  simp only [Int32.lt_iff_toInt_lt, own_eq c 95, own_eq c 58, own_eq c 215, own_eq c 247, own_eq c 894, own_eq c 8204, own_eq c 8205, own_lits]
  split
  · repeat' split
    all_goals first | rfl | omega
  · rename_i hh
    exact own_e_118 c (by omega)
theorem own_e_89 (c : Int32) (h : 768 ≤ c.toInt) : own_ex_89 c = if (97 ≤ c.toInt ∧ c.toInt ≤ 122) ∨ (65 ≤ c.toInt ∧ c.toInt ≤ 90) ∨ (95 ≤ c.toInt ∧ c.toInt ≤ 95) ∨ (58 ≤ c.toInt ∧ c.toInt ≤ 58) ∨ (192 ≤ c.toInt ∧ c.toInt ≤ 214) ∨ (216 ≤ c.toInt ∧ c.toInt ≤ 246) ∨ (248 ≤ c.toInt ∧ c.toInt ≤ 767) ∨ (880 ≤ c.toInt ∧ c.toInt ≤ 893) ∨ (895 ≤ c.toInt ∧ c.toInt ≤ 8191) ∨ (8204 ≤ c.toInt ∧ c.toInt ≤ 8205) ∨ (8304 ≤ c.toInt ∧ c.toInt ≤ 8591) ∨ (11264 ≤ c.toInt ∧ c.toInt ≤ 12271) ∨ (12289 ≤ c.toInt ∧ c.toInt ≤ 55295) ∨ (63744 ≤ c.toInt ∧ c.toInt ≤ 64975) ∨ (65008 ≤ c.toInt ∧ c.toInt ≤ 65533) ∨ (65536 ≤ c.toInt ∧ c.toInt ≤ 983039) then 1 else 0 := by
  rw [own_ex_89]
  simp only [Int32.lt_iff_toInt_lt, own_eq c 95, own_eq c 58, own_eq c 215, own_eq c 247, own_eq c 894, own_eq c 8204, own_eq c 8205, own_lits]
  split
  · repeat' split
    all_goals first | rfl | omega
  · rename_i hh
    exact own_e_98 c (by omega)
theorem own_e_55 (c : Int32) (h : 128 ≤ c.toInt) : own_ex_55 c = if (97 ≤ c.toInt ∧ c.toInt ≤ 122) ∨ (65 ≤ c.toInt ∧ c.toInt ≤ 90) ∨ (95 ≤ c.toInt ∧ c.toInt ≤ 95) ∨ (58 ≤ c.toInt ∧ c.toInt ≤ 58) ∨ (192 ≤ c.toInt ∧ c.toInt ≤ 214) ∨ (216 ≤ c.toInt ∧ c.toInt ≤ 246) ∨ (248 ≤ c.toInt ∧ c.toInt ≤ 767) ∨ (880 ≤ c.toInt ∧ c.toInt ≤ 893) ∨ (895 ≤ c.toInt ∧ c.toInt ≤ 8191) ∨ (8204 ≤ c.toInt ∧ c.toInt ≤ 8205) ∨ (8304 ≤ c.toInt ∧ c.toInt ≤ 8591) ∨ (11264 ≤ c.toInt ∧ c.toInt ≤ 12271) ∨ (12289 ≤ c.toInt ∧ c.toInt ≤ 55295) ∨ (63744 ≤ c.toInt ∧ c.toInt ≤ 64975) ∨ (65008 ≤ c.toInt ∧ c.toInt ≤ 65533) ∨ (65536 ≤ c.toInt ∧ c.toInt ≤ 983039) then 1 else 0 := by
  rw [own_ex_55]
  simp only [Int32.lt_iff_toInt_lt, own_eq c 95, own_eq c 58, own_eq c 215, own_eq c 247, own_eq c 894, own_eq c 8204, own_eq c 8205, own_lits]
  split
  · repeat' split
    all_goals first | rfl | omega
  · rename_i hh
    exact own_e_89 c (by omega)
theorem own_e_6 (c : Int32) (h : 0 ≤ c.toInt) : own_ex_6 c = if (97 ≤ c.toInt ∧ c.toInt ≤ 122) ∨ (65 ≤ c.toInt ∧ c.toInt ≤ 90) ∨ (95 ≤ c.toInt ∧ c.toInt ≤ 95) ∨ (58 ≤ c.toInt ∧ c.toInt ≤ 58) ∨ (192 ≤ c.toInt ∧ c.toInt ≤ 214) ∨ (216 ≤ c.toInt ∧ c.toInt ≤ 246) ∨ (248 ≤ c.toInt ∧ c.toInt ≤ 767) ∨ (880 ≤ c.toInt ∧ c.toInt ≤ 893) ∨ (895 ≤ c.toInt ∧ c.toInt ≤ 8191) ∨ (8204 ≤ c.toInt ∧ c.toInt ≤ 8205) ∨ (8304 ≤ c.toInt ∧ c.toInt ≤ 8591) ∨ (11264 ≤ c.toInt ∧ c.toInt ≤ 12271) ∨ (12289 ≤ c.toInt ∧ c.toInt ≤ 55295) ∨ (63744 ≤ c.toInt ∧ c.toInt ≤ 64975) ∨ (65008 ≤ c.toInt ∧ c.toInt ≤ 65533) ∨ (65536 ≤ c.toInt ∧ c.toInt ≤ 983039) then 1 else 0 := by
  rw [own_ex_6]
  simp only [own_ex_49, own_ex_53, own_ex_43, own_ex_37, own_ex_25, Int32.lt_iff_toInt_lt, own_eq c 95, own_eq c 58, own_eq c 215, own_eq c 247, own_eq c 894, own_eq c 8204, own_eq c 8205, own_lits]
  split
  · repeat' split
    all_goals first | rfl | omega
  · rename_i hh
    exact own_e_55 c (by omega)
theorem own_main (c : Int32) : own_is c = own_ex c := by
  rw [own_v]
  by_cases hh : c.toInt < 0
  · have hc : c < 0 := by rw [Int32.lt_iff_toInt_lt]; exact hh
    rw [if_neg (by omega), own_ex, if_pos hc]
  · have hc : ¬ c < 0 := by rw [Int32.lt_iff_toInt_lt]; exact hh
    rw [own_ex, if_neg hc]
    exact (own_e_6 c (by omega)).symm
theorem go_law (K : Ctx) (hw : ∀ d ∈ tables_1, d.before K.2.2.1 K.2.1 = true) (x0 : Int32) (x1 : Int32) : Go K m0 4 96 0 [.val (.int x0), .val (.int x1), .unset, .unset] [] [] (some (.int 1), none, 0, 0) := by
  refine Go.iloadN d0_0 rfl ?_
  refine Go.iconst d0_1 (v := 3) rfl ?_
  refine Go.iand d0_2 ?_
  refine Go.istoreN d0_3 (ls' := [.val (.int x0), .val (.int x1), .val (.int (x1 &&& 3)), .unset]) rfl ?_
  refine Go.iloadN d0_4 rfl ?_
  refine Go.if_ne d0_5 j0_5 (fun h5 => ?_) (fun h5 => ?_)
  · -- pc 5 taken
    refine Go.iloadN d0_13 rfl ?_
    refine Go.iconst d0_14 (v := 1) rfl ?_
    refine Go.icmp_ne d0_15 j0_15 (fun h15 => ?_) (fun h15 => ?_)
    · -- pc 15 taken
      refine Go.iloadN d0_26 rfl ?_
      refine Go.iconst d0_27 (v := 2) rfl ?_
      refine Go.icmp_ne d0_28 j0_28 (fun h28 => ?_) (fun h28 => ?_)
      · -- pc 28 taken
        refine Go.iloadN d0_39 rfl ?_
        refine Go.sipush d0_40 (v := 255) rfl ?_
        refine Go.iand d0_43 ?_
        refine Go.istoreN d0_44 (ls' := [.val (.int x0), .val (.int x1), .val (.int (x1 &&& 3)), .val (.int (x0 &&& 255))]) rfl ?_
        refine Go.iloadN d0_45 rfl ?_
        refine Go.callS (M' := m1) d0_46 (hw _ (List.mem_of_getElem? (i := 0) rfl)) (hw _ (List.mem_of_getElem? (i := 1) rfl)) (hw _ (List.mem_of_getElem? (i := 2) rfl)) (hw _ (List.mem_of_getElem? (i := 3) rfl)) mi1 (as := [.int (x0 &&& 255)]) rfl rfl (st := []) rfl (ls1 := [.val (.int (x0 &&& 255))]) rfl (W := 0) rfl (by decide) (by decide) (go_own_is K hw (x0 &&& 255) _) 0 0 (by decide) (by decide) ?_
        show Go _ _ _ _ 49 [.val (.int x0), .val (.int x1), .val (.int (x1 &&& 3)), .val (.int (x0 &&& 255))] [.int (own_is (x0 &&& 255))] [] _
        refine Go.iloadN d0_49 rfl ?_
        refine Go.callS (M' := m2) d0_50 (hw _ (List.mem_of_getElem? (i := 7) rfl)) (hw _ (List.mem_of_getElem? (i := 8) rfl)) (hw _ (List.mem_of_getElem? (i := 9) rfl)) (hw _ (List.mem_of_getElem? (i := 10) rfl)) mi2 (as := [.int (x0 &&& 255)]) rfl rfl (st := [.int (own_is (x0 &&& 255))]) rfl (ls1 := [.val (.int (x0 &&& 255))]) rfl (W := 1) rfl (by decide) (by decide) (go_own_ex K hw (x0 &&& 255) _) 0 0 (by decide) (by decide) ?_
        show Go _ _ _ _ 53 [.val (.int x0), .val (.int x1), .val (.int (x1 &&& 3)), .val (.int (x0 &&& 255))] [.int (own_ex (x0 &&& 255)), .int (own_is (x0 &&& 255))] [] _
        refine Go.icmpF d0_53 (XT.ii_ne_f (own_main _)) ?_
        refine Go.iconst d0_56 (v := 1) rfl ?_
        refine Go.goto d0_57 j0_57 ?_
        exact Go.ireturnZ d0_61 rfl (by decide) rfl HOk.any
      · -- pc 28 not taken
        refine Go.iloadN d0_31 rfl ?_
        refine Go.ldc d0_32 (hw _ (List.mem_of_getElem? (i := 23) rfl)) ?_
        refine Go.iand d0_34 ?_
        refine Go.istoreN d0_35 (ls' := [.val (.int x0), .val (.int x1), .val (.int (x1 &&& 3)), .val (.int (x0 &&& 65535))]) rfl ?_
        refine Go.goto d0_36 j0_36 ?_
        refine Go.iloadN d0_45 rfl ?_
        refine Go.callS (M' := m1) d0_46 (hw _ (List.mem_of_getElem? (i := 0) rfl)) (hw _ (List.mem_of_getElem? (i := 1) rfl)) (hw _ (List.mem_of_getElem? (i := 2) rfl)) (hw _ (List.mem_of_getElem? (i := 3) rfl)) mi1 (as := [.int (x0 &&& 65535)]) rfl rfl (st := []) rfl (ls1 := [.val (.int (x0 &&& 65535))]) rfl (W := 0) rfl (by decide) (by decide) (go_own_is K hw (x0 &&& 65535) _) 0 0 (by decide) (by decide) ?_
        show Go _ _ _ _ 49 [.val (.int x0), .val (.int x1), .val (.int (x1 &&& 3)), .val (.int (x0 &&& 65535))] [.int (own_is (x0 &&& 65535))] [] _
        refine Go.iloadN d0_49 rfl ?_
        refine Go.callS (M' := m2) d0_50 (hw _ (List.mem_of_getElem? (i := 7) rfl)) (hw _ (List.mem_of_getElem? (i := 8) rfl)) (hw _ (List.mem_of_getElem? (i := 9) rfl)) (hw _ (List.mem_of_getElem? (i := 10) rfl)) mi2 (as := [.int (x0 &&& 65535)]) rfl rfl (st := [.int (own_is (x0 &&& 65535))]) rfl (ls1 := [.val (.int (x0 &&& 65535))]) rfl (W := 1) rfl (by decide) (by decide) (go_own_ex K hw (x0 &&& 65535) _) 0 0 (by decide) (by decide) ?_
        show Go _ _ _ _ 53 [.val (.int x0), .val (.int x1), .val (.int (x1 &&& 3)), .val (.int (x0 &&& 65535))] [.int (own_ex (x0 &&& 65535)), .int (own_is (x0 &&& 65535))] [] _
        refine Go.icmpF d0_53 (XT.ii_ne_f (own_main _)) ?_
        refine Go.iconst d0_56 (v := 1) rfl ?_
        refine Go.goto d0_57 j0_57 ?_
        exact Go.ireturnZ d0_61 rfl (by decide) rfl HOk.any
    · -- pc 15 not taken
      refine Go.iloadN d0_18 rfl ?_
      refine Go.ldc d0_19 (hw _ (List.mem_of_getElem? (i := 11) rfl)) ?_
      refine Go.iand d0_21 ?_
      refine Go.istoreN d0_22 (ls' := [.val (.int x0), .val (.int x1), .val (.int (x1 &&& 3)), .val (.int (x0 &&& 2097151))]) rfl ?_
      refine Go.goto d0_23 j0_23 ?_
      refine Go.iloadN d0_45 rfl ?_
      refine Go.callS (M' := m1) d0_46 (hw _ (List.mem_of_getElem? (i := 0) rfl)) (hw _ (List.mem_of_getElem? (i := 1) rfl)) (hw _ (List.mem_of_getElem? (i := 2) rfl)) (hw _ (List.mem_of_getElem? (i := 3) rfl)) mi1 (as := [.int (x0 &&& 2097151)]) rfl rfl (st := []) rfl (ls1 := [.val (.int (x0 &&& 2097151))]) rfl (W := 0) rfl (by decide) (by decide) (go_own_is K hw (x0 &&& 2097151) _) 0 0 (by decide) (by decide) ?_
      show Go _ _ _ _ 49 [.val (.int x0), .val (.int x1), .val (.int (x1 &&& 3)), .val (.int (x0 &&& 2097151))] [.int (own_is (x0 &&& 2097151))] [] _
      refine Go.iloadN d0_49 rfl ?_
      refine Go.callS (M' := m2) d0_50 (hw _ (List.mem_of_getElem? (i := 7) rfl)) (hw _ (List.mem_of_getElem? (i := 8) rfl)) (hw _ (List.mem_of_getElem? (i := 9) rfl)) (hw _ (List.mem_of_getElem? (i := 10) rfl)) mi2 (as := [.int (x0 &&& 2097151)]) rfl rfl (st := [.int (own_is (x0 &&& 2097151))]) rfl (ls1 := [.val (.int (x0 &&& 2097151))]) rfl (W := 1) rfl (by decide) (by decide) (go_own_ex K hw (x0 &&& 2097151) _) 0 0 (by decide) (by decide) ?_
      show Go _ _ _ _ 53 [.val (.int x0), .val (.int x1), .val (.int (x1 &&& 3)), .val (.int (x0 &&& 2097151))] [.int (own_ex (x0 &&& 2097151)), .int (own_is (x0 &&& 2097151))] [] _
      refine Go.icmpF d0_53 (XT.ii_ne_f (own_main _)) ?_
      refine Go.iconst d0_56 (v := 1) rfl ?_
      refine Go.goto d0_57 j0_57 ?_
      exact Go.ireturnZ d0_61 rfl (by decide) rfl HOk.any
  · -- pc 5 not taken
    refine Go.iloadN d0_8 rfl ?_
    refine Go.istoreN d0_9 (ls' := [.val (.int x0), .val (.int x1), .val (.int (x1 &&& 3)), .val (.int x0)]) rfl ?_
    refine Go.goto d0_10 j0_10 ?_
    refine Go.iloadN d0_45 rfl ?_
    refine Go.callS (M' := m1) d0_46 (hw _ (List.mem_of_getElem? (i := 0) rfl)) (hw _ (List.mem_of_getElem? (i := 1) rfl)) (hw _ (List.mem_of_getElem? (i := 2) rfl)) (hw _ (List.mem_of_getElem? (i := 3) rfl)) mi1 (as := [.int x0]) rfl rfl (st := []) rfl (ls1 := [.val (.int x0)]) rfl (W := 0) rfl (by decide) (by decide) (go_own_is K hw x0 _) 0 0 (by decide) (by decide) ?_
    show Go _ _ _ _ 49 [.val (.int x0), .val (.int x1), .val (.int (x1 &&& 3)), .val (.int x0)] [.int (own_is x0)] [] _
    refine Go.iloadN d0_49 rfl ?_
    refine Go.callS (M' := m2) d0_50 (hw _ (List.mem_of_getElem? (i := 7) rfl)) (hw _ (List.mem_of_getElem? (i := 8) rfl)) (hw _ (List.mem_of_getElem? (i := 9) rfl)) (hw _ (List.mem_of_getElem? (i := 10) rfl)) mi2 (as := [.int x0]) rfl rfl (st := [.int (own_is x0)]) rfl (ls1 := [.val (.int x0)]) rfl (W := 1) rfl (by decide) (by decide) (go_own_ex K hw x0 _) 0 0 (by decide) (by decide) ?_
    show Go _ _ _ _ 53 [.val (.int x0), .val (.int x1), .val (.int (x1 &&& 3)), .val (.int x0)] [.int (own_ex x0), .int (own_is x0)] [] _
    refine Go.icmpF d0_53 (XT.ii_ne_f (own_main _)) ?_
    refine Go.iconst d0_56 (v := 1) rfl ?_
    refine Go.goto d0_57 j0_57 ?_
    exact Go.ireturnZ d0_61 rfl (by decide) rfl HOk.any
set_option maxRecDepth 65536 in
set_option maxHeartbeats 40000000 in
theorem comes_1 {Post : Tables → Env → Array Value → State → Outcome → State → Prop} (hpost : ∀ tb e args s v u, (limb_1_1.after args s (.returned v) u = true ∧ limb_1_2.after args s (.returned v) u = true ∧ True) → FrameEnd s (.returned v) u (Jvm.fieldLocs frame_1_writes args s ++ Jvm.arrayLocs frame_1_arrays args s ++ Jvm.staticLocs frame_1_statics s) 0 0 → Post tb e args s (.returned v) u) :
    ArmFor flags0 classFile x code maxLocals ret World_1 tables_1 room_1 Calls_1 rest_1 Pre_1 Post := by
  intro l hfl _ _ p e ha hc hk s m args below hf hA hF happ hP
  obtain ⟨hcalls, hrest, hpre⟩ := hP
  obtain ⟨-, -, -, hnamed, -, -, -, hat⟩ := (Spec.applies_iff hf).mp happ
  obtain ⟨hg, hn⟩ := and_e (Cond.before_iff.mp (show (Jvm.Cond.and given_1 narrow_1).before args s = true from hpre))
  obtain ⟨h1, g0⟩ := and_e hg
  obtain ⟨w0, w1, rfl⟩ : ∃ w0 w1 : Value, args = #[w0, w1] := by
    have hs : args.size = 2 := by simpa [Cond.value, given_1] using h1
    obtain ⟨L⟩ := args
    match L, hs with
    | [w0, w1], _ => exact ⟨w0, w1, rfl⟩
  have hw := fun d (hd : d ∈ tables_1) => atoms_spec (ws := Jvm.Cond.code x code maxLocals ret :: tables_1) hat d (List.mem_cons_of_mem _ hd)
  obtain ⟨q0, g1⟩ := and_e g0
  obtain ⟨i0, e0⟩ := is_v q0
  obtain rfl : w0 = (.int i0) := Option.some.inj e0
  obtain ⟨i1, e1⟩ := is_v g1
  obtain rfl : w1 = (.int i1) := Option.some.inj e1
  have gl := go_law (l, s, _, s.heap.size) hw i0 i1
  obtain ⟨n, o, h1, h2, h3, _, L, rfl, ⟨rfl, -, N⟩, hq⟩ := Go.met (K := (l, s, _, s.heap.size)) (M := m0) (as := [.int i0, .int i1]) (ws := tables_1) (rm := room_1) (rv := some (.int 1)) (h := s.heap) (H := []) (by decide +kernel) ⟨rfl, fun i o h => by simp at h⟩ rfl gl p e ha hc hk s m _ below hf ((Spec.applies_iff_loose hf).mp happ).1 ⟨rfl, State.Warmed39.refl s, rfl⟩ trivial
  refine ⟨n, _, h1, h2, h3, hpost _ _ _ _ _ _ ⟨Cond.after_iff.mpr rfl, Cond.after_iff.mpr (eq_i res_at (Term.int_eval (1)) rfl), trivial⟩ ⟨hq.1, hq.2.1, (hq.2.2.sift fun y hy => Or.inr (N y hy)).mono (by decide) (by decide)⟩⟩
theorem main_1_1 : Claimed_1_1 := comes_1 fun _ _ _ _ _ _ h hF => ⟨h.1, hF⟩
theorem main_1_2 : Claimed_1_2 := comes_1 fun _ _ _ _ _ _ h hF => ⟨h.2.1, hF⟩
end Jvm.Pilot.@@N@@
namespace Jvm.Pilot.@@N@@
open Jvm Jvm.ClassFile Sem Op Lib Jvm.Free Jvm.Stand Jvm.Pilot.@@N@@.Jvm.D
/-! MADE BY PROGRAM (witnessworld.py) out of the Statement's table words and the real class files: 9 classes; the members and pool entries that the words name. The judged class is class 1, her method 2. -/
namespace start1
open Jvm.ClassFile
def u (s : String) : CpInfo := .utf8 (stringToUtf16 s)
/-- a pool by its gaps: so many unusable entries, then the entry; so many at the end -/
def gap : Nat → List CpInfo → List CpInfo
  | 0, r => r
  | n + 1, r => .unusable :: gap n r
def poolList (es : List (Nat × CpInfo)) (last : Nat) : List CpInfo := es.foldr (fun e r => gap e.1 (e.2 :: r)) (gap last [])
def pool (es : List (Nat × CpInfo)) (last : Nat) : Array CpInfo := ⟨poolList es last⟩
def fileOf (pool : Array CpInfo) (this : Nat) (attrs : Array Attribute := #[]) (ms : Array MethodInfo := #[]) (fl : Nat := 33) (sup : Nat := 0) (ifs : Array Nat := #[]) (fds : Array FieldInfo := #[]) : ClassFile where
  minorVersion := 0
  majorVersion := 65
  constantPool := pool
  accessFlags := fl
  thisClass := this
  superClass := sup
  interfaces := ifs
  fields := fds
  methods := ms
  attributes := attrs
def plain (name : String) (sup : Option ClassId) : Class where
  name := name
  kind := .ordinary
  loader := none
  accessFlags := 33
  super := sup
  interfaces := #[]
  cf := none
  fields := #[]
  methods := #[]
  instanceTypes := #[]
  staticTypes := #[]
  resolved := #[]
  callSites := []
  init := .initialized
  statics := none
  mirror := none

def pool0 : Array CpInfo := pool [(5, u "<init>"), (0, u "()V"), (1, .class_ 10), (1, u "java/lang/Object")] 113

def k0m0 : Method := { name := "<init>", desc := "()V", sig := { parameters := [], returnType := none }, accessFlags := 1, code := none }
/-- java/lang/Object -/
def k0 : Class := { plain "java/lang/Object" none with
  accessFlags := 33
  interfaces := #[]
  cf := some (fileOf pool0 8 #[] #[{ accessFlags := 1, nameIndex := 5, descriptorIndex := 6, attributes := #[] }] 33 0 #[] #[])
  fields := #[]
  methods := #[k0m0]
  instanceTypes := #[]
  staticTypes := #[]
  resolved := Array.replicate 124 none
  statics := none }

def pool1 : Array CpInfo := pool [(2, .class_ 4), (1, u "java/lang/Object"), (0, u "<init>"), (0, u "()V"), (0, .integer 55296), (0, .integer 63744), (0, .integer 64976), (0, .integer 65008), (0, .integer 65534), (0, .integer 65536), (0, .integer 983040), (0, .integer 2097151), (0, .integer 65535), (0, .methodref 17 18), (0, .class_ 19), (0, .nameAndType 20 21), (0, u "com/example/psvi/psvi/xml/XmlNames"), (0, u "isNameStartChar"), (0, u "(I)Z"), (0, .methodref 23 24), (0, .class_ 25), (0, .nameAndType 26 21), (0, u "com/example/psvi/psvi/xml/XmlNamesIsNameStartCharPinLaw"), (0, u "expected"), (3, u "law"), (0, u "(II)Z")] 2

def k1m0 : Method := { name := "<init>", desc := "()V", sig := { parameters := [], returnType := none }, accessFlags := 2, code := none }
def k1c1 : Code := { maxStack := 2, maxLocals := 1, code := method_2_code, exceptionTable := #[], attributes := #[] }
def k1m1 : Method := { name := "expected", desc := "(I)Z", sig := { parameters := [.int], returnType := some .boolean }, accessFlags := 10, code := some k1c1 }
def k1c2 : Code := { maxStack := 2, maxLocals := 4, code := code, exceptionTable := #[], attributes := #[] }
def k1m2 : Method := { name := "law", desc := "(II)Z", sig := { parameters := [.int, .int], returnType := some .boolean }, accessFlags := 9, code := some k1c2 }
/-- com/example/psvi/psvi/xml/XmlNamesIsNameStartCharPinLaw -/
def k1 : Class := { plain "com/example/psvi/psvi/xml/XmlNamesIsNameStartCharPinLaw" (some 0) with
  accessFlags := 49
  interfaces := #[]
  cf := some (fileOf pool1 23 #[] #[{ accessFlags := 2, nameIndex := 5, descriptorIndex := 6, attributes := #[] }, { accessFlags := 10, nameIndex := 26, descriptorIndex := 21, attributes := #[] }, { accessFlags := 9, nameIndex := 30, descriptorIndex := 31, attributes := #[] }] 49 2 #[] #[])
  fields := #[]
  methods := #[k1m0, k1m1, k1m2]
  instanceTypes := #[]
  staticTypes := #[]
  resolved := Array.replicate 34 none
  statics := none }

def pool2 : Array CpInfo := pool [(2, .class_ 4), (1, u "java/lang/Object"), (0, u "<init>"), (0, u "()V"), (0, .integer 55295), (1, .integer 65533), (2, .integer 65536), (8, .class_ 23), (1, u "com/example/psvi/psvi/xml/XmlNames"), (8, u "isNameStartChar"), (0, u "(I)Z"), (13, .integer 63744), (0, .integer 64975), (0, .integer 65008), (0, .integer 983039)] 9

def k2m0 : Method := { name := "<init>", desc := "()V", sig := { parameters := [], returnType := none }, accessFlags := 2, code := none }
def k2c1 : Code := { maxStack := 2, maxLocals := 1, code := prog_213_method_8_code, exceptionTable := #[], attributes := #[] }
def k2m1 : Method := { name := "isNameStartChar", desc := "(I)Z", sig := { parameters := [.int], returnType := some .boolean }, accessFlags := 9, code := some k2c1 }
/-- com/example/psvi/psvi/xml/XmlNames -/
def k2 : Class := { plain "com/example/psvi/psvi/xml/XmlNames" (some 0) with
  accessFlags := 33
  interfaces := #[]
  cf := some (fileOf pool2 21 #[] #[{ accessFlags := 2, nameIndex := 5, descriptorIndex := 6, attributes := #[] }, { accessFlags := 9, nameIndex := 32, descriptorIndex := 33, attributes := #[] }] 33 2 #[] #[])
  fields := #[]
  methods := #[k2m0, k2m1]
  instanceTypes := #[]
  staticTypes := #[]
  resolved := Array.replicate 60 none
  statics := none }

def pool3 : Array CpInfo := pool [(1, u "java/lang/Cloneable"), (0, .class_ 1), (0, u "java/lang/Object"), (0, .class_ 3)] 3

/-- java/lang/Cloneable -/
def k3 : Class := { plain "java/lang/Cloneable" (some 0) with
  accessFlags := 1537
  interfaces := #[]
  cf := some (fileOf pool3 2 #[] #[] 1537 4 #[] #[])
  fields := #[]
  methods := #[]
  instanceTypes := #[]
  staticTypes := #[]
  resolved := Array.replicate 8 none
  statics := none }

def pool4 : Array CpInfo := pool [(1, u "java/io/Serializable"), (0, .class_ 1), (0, u "java/lang/Object"), (0, .class_ 3)] 3

/-- java/io/Serializable -/
def k4 : Class := { plain "java/io/Serializable" (some 0) with
  accessFlags := 1537
  interfaces := #[]
  cf := some (fileOf pool4 2 #[] #[] 1537 4 #[] #[])
  fields := #[]
  methods := #[]
  instanceTypes := #[]
  staticTypes := #[]
  resolved := Array.replicate 8 none
  statics := none }

/-- the primitive byte -/
def k5 : Class := { plain "byte" none with kind := .primitive 'B', accessFlags := 0x411 }
/-- [B -/
def k6 : Class := { plain "[B" (some 0) with kind := .array 5 .byte, interfaces := #[3, 4], accessFlags := 1041 }

/-- the primitive int -/
def k7 : Class := { plain "int" none with kind := .primitive 'I', accessFlags := 0x411 }
/-- [I -/
def k8 : Class := { plain "[I" (some 0) with kind := .array 7 .int, interfaces := #[3, 4], accessFlags := 1041 }

def heap : Heap := #[]
def classes : Array Class := #[k0, k1, k2, k3, k4, k5, k6, k7, k8]
def interned : List (Array UInt16 × Addr) := []
def slotsUsed : Nat := 0
def theMethod : MethodId := ⟨1, 2⟩
def args0 : Array Value := #[.int 5, .int 300]
def aboutOver (below : List Frame) : State where
  vm := { classes := classes, interned := interned.toArray }
  heap := heap
  slotsUsed := slotsUsed
  threads := #[{ frames := .invoking theMethod args0 :: below }]
def below0 : List Frame := [.native { method := ⟨0, 0⟩, args := #[] }]
def about1 : State := aboutOver below0
def p0 : Program := .bare "" "" ""
def e0 : Env := launch0.env 0 0 0
theorem w_frames : about1.frames = Frame.invoking theMethod args0 :: below0 := rfl
set_option maxRecDepth 65536 in
theorem w_args : argsFit about1.vm theMethod args0 = true := by decide +kernel
set_option maxRecDepth 65536 in
theorem w_heap : heapFits about1 = true := by decide +kernel
set_option maxRecDepth 65536 in
theorem w_runnable : about1.curStatus? = some .runnable := by decide +kernel
set_option maxRecDepth 65536 in
theorem w_alone : about1.alone = true := by decide +kernel
set_option maxRecDepth 65536 in
theorem w_named : about1.methodNamed? x = some theMethod := by decide +kernel
set_option maxRecDepth 65536 in
theorem w_hears : about1.hears theMethod below0 = true := by decide +kernel
set_option maxRecDepth 65536 in
theorem w_ripe : about1.ripe theMethod args0 below0 = true := by decide +kernel
theorem w_running : about1.status = .running := rfl
set_option maxRecDepth 65536 in
theorem w_room : about1.hasRoom e0.platform room_1 = true :=
  launch0.hasRoom_least _ room_1 (by decide +kernel) (by decide +kernel) (by decide +kernel) (by decide +kernel) (by decide +kernel) (by decide +kernel)
theorem allAtoms_all (ts : List Jvm.Cond) (a : Array Jvm.Value) (st : Jvm.State) : (allAtoms ts).before a st = ts.all (fun c => c.before a st) := by
  induction ts with
  | nil => rfl
  | cons c t ih =>
    show (Jvm.Cond.and c (allAtoms t)).before a st = _
    rw [Jvm.Cond.before_and, ih, List.all_cons]
def words1 : List Jvm.Cond := Jvm.Cond.code x code maxLocals ret :: tables_1
/-- a 'code' word, met by the world's own term for the bytes: nothing is compared byte by byte -/
theorem code_word {y : MethodName} {bytes : ByteArray} {mx : Nat} {rt : Option FieldType} {a : Array Value} {s : State} {m : MethodId} {meth : Method} {c : Code} (h1 : s.methodNamed? y = some m) (h2 : s.vm.method? m = some meth) (h3 : meth.code = some c) (h4 : c.code = bytes)
    (h5 : (c.maxLocals == mx && c.exceptionTable.isEmpty && decide (c.maxStack ≤ mostOperands) && decide (meth.sig.returnType = rt) && !meth.locks && decide (parseMethodDescriptor y.desc = some meth.sig)) = true) : (Jvm.Cond.code y bytes mx rt).before a s = true := by
  simp only [Bool.and_eq_true, beq_iff_eq, Bool.not_eq_true', decide_eq_true_eq] at h5
  obtain ⟨⟨⟨⟨⟨g1, g2⟩, g3⟩, g4⟩, g5⟩, g6⟩ := h5
  simp [Cond.before, Cond.holds, Cond.value, h1, h2, h3, h4, g1, g2, g3, g4, g5, g6]
def isCode : Jvm.Cond → Bool
  | .code _ _ _ _ => true
  | _ => false
theorem all_split {L : List Jvm.Cond} {P : Jvm.Cond → Bool} (h1 : L.all (fun c => isCode c || P c) = true) (h2 : ∀ c ∈ L.filter isCode, P c = true) : L.all P = true := by
  refine List.all_eq_true.mpr fun c hc => ?_
  have h := List.all_eq_true.mp h1 c hc
  rcases Bool.eq_false_or_eq_true (isCode c) with hi | hi
  · exact h2 c (List.mem_filter.mpr ⟨hc, hi⟩)
  · simpa [hi] using h
set_option maxRecDepth 65536 in
theorem w_c0 : (Jvm.Cond.code x code maxLocals ret).before args0 about1 = true := code_word (m := ⟨1, 2⟩) (meth := k1m2) (c := k1c2) (by decide +kernel) rfl rfl rfl (by decide +kernel)
set_option maxRecDepth 65536 in
theorem w_c1 : (Jvm.Cond.code ({ cls := "com/example/psvi/psvi/xml/XmlNames", name := "isNameStartChar", desc := "(I)Z" } : Jvm.MethodName) prog_213_method_8_code (1 : Nat) (Option.some Jvm.ClassFile.FieldType.boolean)).before args0 about1 = true := code_word (m := ⟨2, 1⟩) (meth := k2m1) (c := k2c1) (by decide +kernel) rfl rfl rfl (by decide +kernel)
set_option maxRecDepth 65536 in
theorem w_c2 : (Jvm.Cond.code ({ cls := "com/example/psvi/psvi/xml/XmlNamesIsNameStartCharPinLaw", name := "expected", desc := "(I)Z" } : Jvm.MethodName) method_2_code (1 : Nat) (Option.some Jvm.ClassFile.FieldType.boolean)).before args0 about1 = true := code_word (m := ⟨1, 1⟩) (meth := k1m1) (c := k1c1) (by decide +kernel) rfl rfl rfl (by decide +kernel)
def codes1 : List Jvm.Cond := [Jvm.Cond.code x code maxLocals ret, Jvm.Cond.code ({ cls := "com/example/psvi/psvi/xml/XmlNames", name := "isNameStartChar", desc := "(I)Z" } : Jvm.MethodName) prog_213_method_8_code (1 : Nat) (Option.some Jvm.ClassFile.FieldType.boolean), Jvm.Cond.code ({ cls := "com/example/psvi/psvi/xml/XmlNamesIsNameStartCharPinLaw", name := "expected", desc := "(I)Z" } : Jvm.MethodName) method_2_code (1 : Nat) (Option.some Jvm.ClassFile.FieldType.boolean)]
set_option maxRecDepth 65536 in
theorem codes_eq : words1.filter isCode = codes1 := rfl
theorem w_codes : ∀ c ∈ words1.filter isCode, c.before args0 about1 = true := by
  rw [codes_eq]
  intro c hc
  simp only [codes1, List.mem_cons, List.not_mem_nil, or_false] at hc
  rcases hc with rfl | rfl | rfl
  · exact w_c0
  · exact w_c1
  · exact w_c2
set_option maxRecDepth 65536 in
theorem w_t1 : (words1.take 24).all (fun c => isCode c || c.before args0 about1) = true := by decide +kernel
set_option maxRecDepth 65536 in
theorem w_t2 : (words1.drop 24).all (fun c => isCode c || c.before args0 about1) = true := by decide +kernel
theorem w_tables : (allAtoms (Jvm.Cond.code x code maxLocals ret :: tables_1)).before args0 about1 = true := by
  rw [allAtoms_all]
  show words1.all (fun c => c.before args0 about1) = true
  refine all_split ?_ w_codes
  rw [← List.take_append_drop 24 words1, List.all_append, w_t1, w_t2]
  rfl
set_option maxRecDepth 65536 in
theorem w_case : (Jvm.Cond.and given_1 narrow_1).before args0 about1 = true := by decide +kernel
theorem w_applies : (headSpec (Jvm.Cond.code x code maxLocals ret :: tables_1) room_1).applies x e0.platform about1 = true :=
  (Spec.applies_iff w_frames).mpr ⟨w_running, w_runnable, w_alone, w_named, w_hears, w_ripe, w_room, w_tables⟩
theorem atStart : AtStart classFile x code maxLocals ret World_1 tables_1 room_1 Calls_1 rest_1 Pre_1 launch0 p0 e0 about1 theMethod args0 below0 :=
  ⟨lists_1, trivial, launch0.admits_env _ _ _, launch0.least_env, fairChoices_fair.cas, fairChoices_fair.clock, w_frames, w_args, w_heap, w_applies, trivial, trivial, w_case⟩
end start1
theorem witness_1 : WitnessClaimed_1 := ⟨start1.p0, start1.e0, start1.about1, start1.theMethod, start1.args0, start1.below0, start1.atStart⟩
end Jvm.Pilot.@@N@@
