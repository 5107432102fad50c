import JvmDerived
import JvmDerived.Pilot.@@N@@Statement
import JvmDerived.Pilot.@@N@@Code
set_option linter.unusedVariables false
set_option linter.unusedSimpArgs false
namespace Jvm.GoKit
open Sem ClassFile Op Lib Jvm.Stand Jvm.Free Jvm.LawKit Jvm.RoadKit
/- own layer: goal-directed steps -/
abbrev fr (m : MethodId) (pc : Nat) (L : List Slot) (st : List Value) : JFrame := mkF m pc ⟨L⟩ st
def Go (p : Program) (e : Env) (below : List Frame) (Q : Outcome → State → Prop) (t : State) : Prop :=
  ∃ s₂ o, Steps p.tables e below t s₂ ∧ s₂.status = .running ∧ Ended s₂ below o ∧ Q o s₂
def lk : List Slot → Nat → Option Slot
  | [], _ => none
  | a :: _, 0 => some a
  | _ :: t, n + 1 => lk t n
def put1 : List Slot → Nat → Slot → List Slot
  | [], _, _ => []
  | _ :: t, 0, v => v :: t
  | a :: t, n + 1, v => a :: put1 t n v
def one : Slot → Bool
  | .unset => true
  | .val (.int _) => true
  | .val (.float _) => true
  | .val (.ref _) => true
  | .val .null => true
  | _ => false
def two : Slot → Bool
  | .val (.long _) => true
  | .val (.double _) => true
  | _ => false
theorem lk_eq : ∀ (L : List Slot) (k : Nat), lk L k = L[k]?
  | [], _ => by simp [lk]
  | a :: _, 0 => by simp [lk]
  | _ :: t, n + 1 => by simp [lk, lk_eq t n]
theorem put1_eq : ∀ (L : List Slot) (k : Nat) (v : Slot), put1 L k v = L.set k v
  | [], _, _ => by simp [put1]
  | _ :: t, 0, v => by simp [put1]
  | a :: t, n + 1, v => by simp [put1, put1_eq t n v]
theorem lk_arr {L : List Slot} {k : Nat} {o : Slot} (h : lk L k = some o) : (Array.mk L)[k]? = some o := by rw [lk_eq] at h; simpa using h
theorem one_or {o : Slot} (h : one o = true) : o = .unset ∨ ∃ w, o = .val w ∧ w.category = 1 := by
  cases o with
  | unset => exact Or.inl rfl
  | second => simp [one] at h
  | val w => cases w <;> first | exact Or.inr ⟨_, rfl, rfl⟩ | (simp [one] at h; done)
theorem st1 {L : List Slot} {k : Nat} {o : Slot} {v : Value} (hl : lk L k = some o) (ho : one o = true) (hv : v.category = 1) : storeLocals ⟨L⟩ k v = some ⟨put1 L k (.val v)⟩ := by
  rw [XS.store1 (lk_arr hl) (one_or ho) hv, put1_eq]
  simp
theorem st2 {L : List Slot} {k : Nat} {o o' : Slot} {v : Value} (hl : lk L k = some o) (hl' : lk L (k + 1) = some o') (ho : (one o || two o) = true) (ho' : two o' = false) (hv : v.category = 2) :
    storeLocals ⟨L⟩ k v = some ⟨put1 (put1 L k (.val v)) (k + 1) .second⟩ := by
  rw [put1_eq, put1_eq]
  rw [lk_eq] at hl hl'
  obtain ⟨hi, e1⟩ := List.getElem?_eq_some_iff.mp hl
  obtain ⟨hi', e2⟩ := List.getElem?_eq_some_iff.mp hl'
  have a1 : (Array.mk L)[k]? = some o := by simpa using hl
  have key : ∀ L1 : List Slot, L1.length = L.length → (∃ w, L1[k + 1]? = some w ∧ two w = false) → (L1.set k (.val v)).set (k + 1) .second = (L.set k (.val v)).set (k + 1) .second → storeSelf ⟨L1⟩ k v = some ⟨(L.set k (.val v)).set (k + 1) .second⟩ := by
    intro L1 hlen hw heq
    obtain ⟨w, hw1, hw2⟩ := hw
    have b1 : ((Array.mk L1).setIfInBounds k (.val v))[k + 1]? = some w := by
      simp [List.getElem?_set, hw1]
    unfold storeSelf
    simp only [setAt, hv, if_true]
    rw [if_pos (by simpa [hlen] using hi)]
    simp only [Option.bind_eq_bind, Option.bind_some, b1]
    have fin : (if k + 1 < ((Array.mk L1).setIfInBounds k (.val v)).size then some (((Array.mk L1).setIfInBounds k (.val v)).setIfInBounds (k + 1) Slot.second) else none) = some ⟨(L.set k (.val v)).set (k + 1) .second⟩ := by
      rw [if_pos (by simpa [hlen] using hi')]
      simpa using heq
    cases w with
    | unset => exact fin
    | second => exact fin
    | val w => cases w <;> first | exact fin | (simp [two] at hw2; done)
  unfold storeLocals
  simp only [a1, Option.bind_eq_bind, Option.bind_some]
  have plain := key L rfl ⟨o', hl', ho'⟩ rfl
  cases o with
  | unset => exact plain
  | second => simp [one, two] at ho
  | val w =>
    cases w with
    | long z => 
      simp only [Value.category, if_true, setAt]
      rw [if_pos (by simpa using hi')]
      simp only [Option.bind_some]
      have := key (L.set (k + 1) .unset) (by simp) ⟨.unset, by simp [hi'], rfl⟩ (by
        apply List.ext_getElem?
        intro i
        simp only [List.getElem?_set, List.length_set]
        repeat' split
        all_goals first | rfl | omega | simp_all)
      simpa using this
    | double z =>
      simp only [Value.category, if_true, setAt]
      rw [if_pos (by simpa using hi')]
      simp only [Option.bind_some]
      have := key (L.set (k + 1) .unset) (by simp) ⟨.unset, by simp [hi'], rfl⟩ (by
        apply List.ext_getElem?
        intro i
        simp only [List.getElem?_set, List.length_set]
        repeat' split
        all_goals first | rfl | omega | simp_all)
      simpa using this
    | _ => first | exact plain | (simp [one, two] at ho; done)
theorem nl {a b : Nat} (h : Nat.ble (a + 1) b = true := by rfl) : a < b := Nat.le_of_ble_eq_true h
theorem Fr.low {k k' : Nat} {L : List Loc} (N : Fr k L) (q : k' ≤ k) : Fr k' L := fun y hy => Nat.le_trans q (N y hy)
theorem nb {a b : Nat} (h : Nat.ble a b = true := by rfl) : a ≤ b := Nat.le_of_ble_eq_true h
def CP : ClassFile.Cond → Int32 → Int32 → Prop
  | .eq, x, y => x = y
  | .ne, x, y => ¬ x = y
  | .lt, x, y => x < y
  | .ge, x, y => ¬ x < y
  | .gt, x, y => y < x
  | .le, x, y => ¬ y < x
def CN : ClassFile.Cond → Int32 → Int32 → Prop
  | .eq, x, y => ¬ x = y
  | .ne, x, y => x = y
  | .lt, x, y => ¬ x < y
  | .ge, x, y => x < y
  | .gt, x, y => ¬ y < x
  | .le, x, y => y < x
instance (cd : ClassFile.Cond) (x y : Int32) : Decidable (CP cd x y) := match cd with
  | .eq => inferInstanceAs (Decidable (x = y))
  | .ne => inferInstanceAs (Decidable (¬ x = y))
  | .lt => inferInstanceAs (Decidable (x < y))
  | .ge => inferInstanceAs (Decidable (¬ x < y))
  | .gt => inferInstanceAs (Decidable (y < x))
  | .le => inferInstanceAs (Decidable (¬ y < x))
instance (cd : ClassFile.Cond) (x y : Int32) : Decidable (CN cd x y) := match cd with
  | .eq => inferInstanceAs (Decidable (¬ x = y))
  | .ne => inferInstanceAs (Decidable (x = y))
  | .lt => inferInstanceAs (Decidable (¬ x < y))
  | .ge => inferInstanceAs (Decidable (x < y))
  | .gt => inferInstanceAs (Decidable (¬ y < x))
  | .le => inferInstanceAs (Decidable (y < x))
theorem CP.holds {cd : ClassFile.Cond} {x y : Int32} (h : CP cd x y) : if_icmp.holds cd x y = true := by
  cases cd
  · exact (teq h).1
  · exact (feq h).2
  · exact (tlt h).1
  · exact (flt h).2.1
  · exact (tlt h).2.2.1
  · exact (flt h).2.2.2
theorem CN.holds {cd : ClassFile.Cond} {x y : Int32} (h : CN cd x y) : if_icmp.holds cd x y = false := by
  cases cd
  · exact (feq h).1
  · exact (teq h).2
  · exact (flt h).1
  · exact (tlt h).2.1
  · exact (flt h).2.2.1
  · exact (tlt h).2.2.2
theorem cp_or (cd : ClassFile.Cond) (x y : Int32) : CP cd x y ∨ CN cd x y := by
  cases cd
  · exact Classical.em _
  · exact (Classical.em (x = y)).symm
  · exact Classical.em _
  · exact (Classical.em (x < y)).symm
  · exact Classical.em _
  · exact (Classical.em (y < x)).symm
/-- what a body's walk knows besides where it stands -/
def Ctx (p : Program) (Z : State) (s : State) (m : MethodId) (meth : Method) (c : Code) (own nm : String) (bytes : ByteArray) (maxL : Nat) (ret : Option FieldType) : Prop :=
  p.tables.exec = Jvm.exec ∧ c.code = bytes ∧ c.maxLocals = maxL ∧ s.vm.findClass own = some m.cls ∧ meth.name = nm ∧ Z.Warmed39 s.vm ∧ meth.sig.returnType = ret ∧ meth.locks = false
/-- the end that a contract asks -/
def End (s : State) (C S : Nat) (Q : Option Value → Heap → List Loc → Prop) (o : Outcome) (U' : State) : Prop := ∃ v L, o = .returned v ∧ Q v U'.heap L ∧ FrameEnd s o U' L C S
section
variable {p : Program} {l : Launch} {e : Env} {R : Room} {s : State} {m : MethodId} {args : Array Value} {below : List Frame} {meth : Method} {c : Code} {T : State} {locs : List Loc} {cells slots : Nat}
  {Z : State} {own nm : String} {bytes : ByteArray} {maxL : Nat} {ret : Option FieldType} {Q : Outcome → State → Prop} {pc pc' pcT : Nat} {L : List Slot} {st : List Value} {a0 : Array Value} {h : Heap}
theorem Ctx.hx (B : Ctx p Z s m meth c own nm bytes maxL ret) : p.tables.exec = Jvm.exec := B.1
theorem Ctx.by' (B : Ctx p Z s m meth c own nm bytes maxL ret) : c.code = bytes := B.2.1
theorem Ctx.ml (B : Ctx p Z s m meth c own nm bytes maxL ret) : c.maxLocals = maxL := B.2.2.1
theorem Ctx.cl (B : Ctx p Z s m meth c own nm bytes maxL ret) : s.vm.findClass own = some m.cls := B.2.2.2.1
theorem Ctx.na (B : Ctx p Z s m meth c own nm bytes maxL ret) : meth.name = nm := B.2.2.2.2.1
theorem Ctx.hZ (B : Ctx p Z s m meth c own nm bytes maxL ret) : Z.Warmed39 s.vm := B.2.2.2.2.2.1
theorem Ctx.re (B : Ctx p Z s m meth c own nm bytes maxL ret) : meth.sig.returnType = ret := B.2.2.2.2.2.2.1
theorem Ctx.lk (B : Ctx p Z s m meth c own nm bytes maxL ret) : meth.locks = false := B.2.2.2.2.2.2.2
theorem Go.of {t t' : State} (h : ∀ u, Steps p.tables e below t' u → Steps p.tables e below t u) (k : Go p e below Q t') : Go p e below Q t := by
  obtain ⟨s₂, o, h1, h2⟩ := k
  exact ⟨s₂, o, h _ h1, h2⟩
theorem Go.come {t t' : State} (h : Steps p.tables e below t t') (k : Go p e below Q t') : Go p e below Q t := Go.of (fun _ q => h.trans q) k

theorem Go.iloadN (B : Ctx p Z s m meth c own nm bytes maxL ret) (X : Stand p l e R s m args below meth c T locs cells slots) {k : Fin 4} {v : Int32} (hd : decode bytes pc = .ok (.iload_n k, 1)) (hp : pc + 1 = pc') (hl : lk L k.val = some (.val (.int v)))
    (k : Go p e below Q (T.setTop (fr m pc' L (.int v :: st)))) : Go p e below Q (T.setTop (fr m pc L (st))) := by
  subst hp
  exact Go.of (fun _ q => XS.iloadN X.here B.hx rfl (hb B.by' hd) (lk_arr hl) q) k
theorem Go.iload (B : Ctx p Z s m meth c own nm bytes maxL ret) (X : Stand p l e R s m args below meth c T locs cells slots) {k : Nat} {v : Int32} (hd : decode bytes pc = .ok (.iload k, 2)) (hp : pc + 2 = pc') (hl : lk L k = some (.val (.int v)))
    (k : Go p e below Q (T.setTop (fr m pc' L (.int v :: st)))) : Go p e below Q (T.setTop (fr m pc L (st))) := by
  subst hp
  exact Go.of (fun _ q => XS.iload X.here B.hx rfl (hb B.by' hd) (lk_arr hl) q) k
theorem Go.lloadN (B : Ctx p Z s m meth c own nm bytes maxL ret) (X : Stand p l e R s m args below meth c T locs cells slots) {k : Fin 4} {v : Int64} (hd : decode bytes pc = .ok (.lload_n k, 1)) (hp : pc + 1 = pc') (hl : lk L k.val = some (.val (.long v)))
    (k : Go p e below Q (T.setTop (fr m pc' L (.long v :: st)))) : Go p e below Q (T.setTop (fr m pc L (st))) := by
  subst hp
  exact Go.of (fun _ q => XS.lloadN X.here B.hx rfl (hb B.by' hd) (lk_arr hl) q) k
theorem Go.lload (B : Ctx p Z s m meth c own nm bytes maxL ret) (X : Stand p l e R s m args below meth c T locs cells slots) {k : Nat} {v : Int64} (hd : decode bytes pc = .ok (.lload k, 2)) (hp : pc + 2 = pc') (hl : lk L k = some (.val (.long v)))
    (k : Go p e below Q (T.setTop (fr m pc' L (.long v :: st)))) : Go p e below Q (T.setTop (fr m pc L (st))) := by
  subst hp
  exact Go.of (fun _ q => XS.lload X.here B.hx rfl (hb B.by' hd) (lk_arr hl) q) k
theorem Go.dloadN (B : Ctx p Z s m meth c own nm bytes maxL ret) (X : Stand p l e R s m args below meth c T locs cells slots) {k : Fin 4} {v : UInt64} (hd : decode bytes pc = .ok (.dload_n k, 1)) (hp : pc + 1 = pc') (hl : lk L k.val = some (.val (.double v)))
    (k : Go p e below Q (T.setTop (fr m pc' L (.double v :: st)))) : Go p e below Q (T.setTop (fr m pc L (st))) := by
  subst hp
  exact Go.of (fun _ q => XS.dloadN X.here B.hx rfl (hb B.by' hd) (lk_arr hl) q) k
theorem Go.dload (B : Ctx p Z s m meth c own nm bytes maxL ret) (X : Stand p l e R s m args below meth c T locs cells slots) {k : Nat} {v : UInt64} (hd : decode bytes pc = .ok (.dload k, 2)) (hp : pc + 2 = pc') (hl : lk L k = some (.val (.double v)))
    (k : Go p e below Q (T.setTop (fr m pc' L (.double v :: st)))) : Go p e below Q (T.setTop (fr m pc L (st))) := by
  subst hp
  exact Go.of (fun _ q => XS.dload X.here B.hx rfl (hb B.by' hd) (lk_arr hl) q) k
theorem Go.aloadN (B : Ctx p Z s m meth c own nm bytes maxL ret) (X : Stand p l e R s m args below meth c T locs cells slots) {k : Fin 4} {v : Value} (hd : decode bytes pc = .ok (.aload_n k, 1)) (hp : pc + 1 = pc') (hl : lk L k.val = some (.val v)) (hv : v.isRef = true)
    (k : Go p e below Q (T.setTop (fr m pc' L (v :: st)))) : Go p e below Q (T.setTop (fr m pc L (st))) := by
  subst hp
  exact Go.of (fun _ q => XS.aloadN X.here B.hx rfl (hb B.by' hd) (lk_arr hl) hv q) k
theorem Go.aload (B : Ctx p Z s m meth c own nm bytes maxL ret) (X : Stand p l e R s m args below meth c T locs cells slots) {k : Nat} {v : Value} (hd : decode bytes pc = .ok (.aload k, 2)) (hp : pc + 2 = pc') (hl : lk L k = some (.val v)) (hv : v.isRef = true)
    (k : Go p e below Q (T.setTop (fr m pc' L (v :: st)))) : Go p e below Q (T.setTop (fr m pc L (st))) := by
  subst hp
  exact Go.of (fun _ q => XS.aload X.here B.hx rfl (hb B.by' hd) (lk_arr hl) hv q) k
theorem Go.istoreN (B : Ctx p Z s m meth c own nm bytes maxL ret) (X : Stand p l e R s m args below meth c T locs cells slots) {k : Fin 4} {x : Int32} {o : Slot} (hd : decode bytes pc = .ok (.istore_n k, 1)) (hp : pc + 1 = pc') (hl : lk L k.val = some o) (ho : one o = true)
    (k : Go p e below Q (T.setTop (fr m pc' (put1 L k.val (.val (.int x))) (st)))) : Go p e below Q (T.setTop (fr m pc L (.int x :: st))) := by
  subst hp
  exact Go.of (fun _ q => XS.istoreN X.here B.hx rfl (hb B.by' hd) rfl (st1 hl ho rfl) q) k
theorem Go.istore (B : Ctx p Z s m meth c own nm bytes maxL ret) (X : Stand p l e R s m args below meth c T locs cells slots) {k : Nat} {x : Int32} {o : Slot} (hd : decode bytes pc = .ok (.istore k, 2)) (hp : pc + 2 = pc') (hl : lk L k = some o) (ho : one o = true)
    (k : Go p e below Q (T.setTop (fr m pc' (put1 L k (.val (.int x))) (st)))) : Go p e below Q (T.setTop (fr m pc L (.int x :: st))) := by
  subst hp
  exact Go.of (fun _ q => XS.istore X.here B.hx rfl (hb B.by' hd) rfl (st1 hl ho rfl) q) k
theorem Go.astoreN (B : Ctx p Z s m meth c own nm bytes maxL ret) (X : Stand p l e R s m args below meth c T locs cells slots) {k : Fin 4} {x : Value} {o : Slot} (hd : decode bytes pc = .ok (.astore_n k, 1)) (hp : pc + 1 = pc') (hl : lk L k.val = some o) (ho : one o = true) (hv : x.isRef = true)
    (k : Go p e below Q (T.setTop (fr m pc' (put1 L k.val (.val x)) (st)))) : Go p e below Q (T.setTop (fr m pc L (x :: st))) := by
  subst hp
  exact Go.of (fun _ q => XS.astoreN X.here B.hx rfl (hb B.by' hd) rfl hv (st1 hl ho (XT.cat1 hv)) q) k
theorem Go.astore (B : Ctx p Z s m meth c own nm bytes maxL ret) (X : Stand p l e R s m args below meth c T locs cells slots) {k : Nat} {x : Value} {o : Slot} (hd : decode bytes pc = .ok (.astore k, 2)) (hp : pc + 2 = pc') (hl : lk L k = some o) (ho : one o = true) (hv : x.isRef = true)
    (k : Go p e below Q (T.setTop (fr m pc' (put1 L k (.val x)) (st)))) : Go p e below Q (T.setTop (fr m pc L (x :: st))) := by
  subst hp
  exact Go.of (fun _ q => XS.astore X.here B.hx rfl (hb B.by' hd) rfl hv (st1 hl ho (XT.cat1 hv)) q) k
theorem Go.lstoreN (B : Ctx p Z s m meth c own nm bytes maxL ret) (X : Stand p l e R s m args below meth c T locs cells slots) {k : Fin 4} {x : Int64} {o o' : Slot} (hd : decode bytes pc = .ok (.lstore_n k, 1)) (hp : pc + 1 = pc') (hl : lk L k.val = some o) (hl' : lk L (k.val + 1) = some o') (ho : (one o || two o) = true) (ho' : two o' = false)
    (k : Go p e below Q (T.setTop (fr m pc' (put1 (put1 L k.val (.val (.long x))) (k.val + 1) .second) (st)))) : Go p e below Q (T.setTop (fr m pc L (.long x :: st))) := by
  subst hp
  exact Go.of (fun _ q => XS.lstoreN X.here B.hx rfl (hb B.by' hd) rfl (st2 hl hl' ho ho' rfl) q) k
theorem Go.lstore (B : Ctx p Z s m meth c own nm bytes maxL ret) (X : Stand p l e R s m args below meth c T locs cells slots) {k : Nat} {x : Int64} {o o' : Slot} (hd : decode bytes pc = .ok (.lstore k, 2)) (hp : pc + 2 = pc') (hl : lk L k = some o) (hl' : lk L (k + 1) = some o') (ho : (one o || two o) = true) (ho' : two o' = false)
    (k : Go p e below Q (T.setTop (fr m pc' (put1 (put1 L k (.val (.long x))) (k + 1) .second) (st)))) : Go p e below Q (T.setTop (fr m pc L (.long x :: st))) := by
  subst hp
  exact Go.of (fun _ q => XS.lstore X.here B.hx rfl (hb B.by' hd) rfl (st2 hl hl' ho ho' rfl) q) k
theorem Go.dstoreN (B : Ctx p Z s m meth c own nm bytes maxL ret) (X : Stand p l e R s m args below meth c T locs cells slots) {k : Fin 4} {x : UInt64} {o o' : Slot} (hd : decode bytes pc = .ok (.dstore_n k, 1)) (hp : pc + 1 = pc') (hl : lk L k.val = some o) (hl' : lk L (k.val + 1) = some o') (ho : (one o || two o) = true) (ho' : two o' = false)
    (k : Go p e below Q (T.setTop (fr m pc' (put1 (put1 L k.val (.val (.double x))) (k.val + 1) .second) (st)))) : Go p e below Q (T.setTop (fr m pc L (.double x :: st))) := by
  subst hp
  exact Go.of (fun _ q => XS.dstoreN X.here B.hx rfl (hb B.by' hd) rfl (st2 hl hl' ho ho' rfl) q) k
theorem Go.dstore (B : Ctx p Z s m meth c own nm bytes maxL ret) (X : Stand p l e R s m args below meth c T locs cells slots) {k : Nat} {x : UInt64} {o o' : Slot} (hd : decode bytes pc = .ok (.dstore k, 2)) (hp : pc + 2 = pc') (hl : lk L k = some o) (hl' : lk L (k + 1) = some o') (ho : (one o || two o) = true) (ho' : two o' = false)
    (k : Go p e below Q (T.setTop (fr m pc' (put1 (put1 L k (.val (.double x))) (k + 1) .second) (st)))) : Go p e below Q (T.setTop (fr m pc L (.double x :: st))) := by
  subst hp
  exact Go.of (fun _ q => XS.dstore X.here B.hx rfl (hb B.by' hd) rfl (st2 hl hl' ho ho' rfl) q) k
theorem Go.iconst (B : Ctx p Z s m meth c own nm bytes maxL ret) (X : Stand p l e R s m args below meth c T locs cells slots) {i : Int} (v : Int32) (hd : decode bytes pc = .ok (.iconst i, 1)) (hp : pc + 1 = pc') (hv : Int32.ofInt i = v)
    (k : Go p e below Q (T.setTop (fr m pc' L (.int v :: st)))) : Go p e below Q (T.setTop (fr m pc L (st))) := by
  subst hp
  exact Go.of (fun _ q => XS.iconst X.here B.hx rfl (hb B.by' hd) (hv ▸ q)) k
theorem Go.bipush (B : Ctx p Z s m meth c own nm bytes maxL ret) (X : Stand p l e R s m args below meth c T locs cells slots) {i : Int} (v : Int32) (hd : decode bytes pc = .ok (.bipush i, 2)) (hp : pc + 2 = pc') (hv : (Int8.ofInt i).toInt32 = v)
    (k : Go p e below Q (T.setTop (fr m pc' L (.int v :: st)))) : Go p e below Q (T.setTop (fr m pc L (st))) := by
  subst hp
  exact Go.of (fun _ q => XS.bipush X.here B.hx rfl (hb B.by' hd) (hv ▸ q)) k
theorem Go.sipush (B : Ctx p Z s m meth c own nm bytes maxL ret) (X : Stand p l e R s m args below meth c T locs cells slots) {i : Int} (v : Int32) (hd : decode bytes pc = .ok (.sipush i, 3)) (hp : pc + 3 = pc') (hv : (Int16.ofInt i).toInt32 = v)
    (k : Go p e below Q (T.setTop (fr m pc' L (.int v :: st)))) : Go p e below Q (T.setTop (fr m pc L (st))) := by
  subst hp
  exact Go.of (fun _ q => XS.sipush X.here B.hx rfl (hb B.by' hd) (hv ▸ q)) k
theorem Go.lconst (B : Ctx p Z s m meth c own nm bytes maxL ret) (X : Stand p l e R s m args below meth c T locs cells slots) {i : Fin 2} (v : Int64) (hd : decode bytes pc = .ok (.lconst i, 1)) (hp : pc + 1 = pc') (hv : Int64.ofNat i = v)
    (k : Go p e below Q (T.setTop (fr m pc' L (.long v :: st)))) : Go p e below Q (T.setTop (fr m pc L (st))) := by
  subst hp
  exact Go.of (fun _ q => XS.lconst X.here B.hx rfl (hb B.by' hd) (hv ▸ q)) k
theorem Go.aconstNull (B : Ctx p Z s m meth c own nm bytes maxL ret) (X : Stand p l e R s m args below meth c T locs cells slots)  (hd : decode bytes pc = .ok (.aconst_null, 1)) (hp : pc + 1 = pc') 
    (k : Go p e below Q (T.setTop (fr m pc' L (.null :: st)))) : Go p e below Q (T.setTop (fr m pc L (st))) := by
  subst hp
  exact Go.of (fun _ q => XS.aconstNull X.here B.hx rfl (hb B.by' hd) q) k
theorem Go.iadd (B : Ctx p Z s m meth c own nm bytes maxL ret) (X : Stand p l e R s m args below meth c T locs cells slots) {x y : Int32} (hd : decode bytes pc = .ok (.iadd, 1)) (hp : pc + 1 = pc') 
    (k : Go p e below Q (T.setTop (fr m pc' L (.int (x + y) :: st)))) : Go p e below Q (T.setTop (fr m pc L (.int y :: .int x :: st))) := by
  subst hp
  exact Go.of (fun _ q => XS.iadd X.here B.hx rfl (hb B.by' hd) rfl q) k
theorem Go.isub (B : Ctx p Z s m meth c own nm bytes maxL ret) (X : Stand p l e R s m args below meth c T locs cells slots) {x y : Int32} (hd : decode bytes pc = .ok (.isub, 1)) (hp : pc + 1 = pc') 
    (k : Go p e below Q (T.setTop (fr m pc' L (.int (x - y) :: st)))) : Go p e below Q (T.setTop (fr m pc L (.int y :: .int x :: st))) := by
  subst hp
  exact Go.of (fun _ q => XS.isub X.here B.hx rfl (hb B.by' hd) rfl q) k
theorem Go.imul (B : Ctx p Z s m meth c own nm bytes maxL ret) (X : Stand p l e R s m args below meth c T locs cells slots) {x y : Int32} (hd : decode bytes pc = .ok (.imul, 1)) (hp : pc + 1 = pc') 
    (k : Go p e below Q (T.setTop (fr m pc' L (.int (x * y) :: st)))) : Go p e below Q (T.setTop (fr m pc L (.int y :: .int x :: st))) := by
  subst hp
  exact Go.of (fun _ q => XS.imul X.here B.hx rfl (hb B.by' hd) rfl q) k
theorem Go.iand (B : Ctx p Z s m meth c own nm bytes maxL ret) (X : Stand p l e R s m args below meth c T locs cells slots) {x y : Int32} (hd : decode bytes pc = .ok (.iand, 1)) (hp : pc + 1 = pc') 
    (k : Go p e below Q (T.setTop (fr m pc' L (.int (x &&& y) :: st)))) : Go p e below Q (T.setTop (fr m pc L (.int y :: .int x :: st))) := by
  subst hp
  exact Go.of (fun _ q => XS.iand X.here B.hx rfl (hb B.by' hd) rfl q) k
theorem Go.ior (B : Ctx p Z s m meth c own nm bytes maxL ret) (X : Stand p l e R s m args below meth c T locs cells slots) {x y : Int32} (hd : decode bytes pc = .ok (.ior, 1)) (hp : pc + 1 = pc') 
    (k : Go p e below Q (T.setTop (fr m pc' L (.int (x ||| y) :: st)))) : Go p e below Q (T.setTop (fr m pc L (.int y :: .int x :: st))) := by
  subst hp
  exact Go.of (fun _ q => XS.ior X.here B.hx rfl (hb B.by' hd) rfl q) k
theorem Go.ixor (B : Ctx p Z s m meth c own nm bytes maxL ret) (X : Stand p l e R s m args below meth c T locs cells slots) {x y : Int32} (hd : decode bytes pc = .ok (.ixor, 1)) (hp : pc + 1 = pc') 
    (k : Go p e below Q (T.setTop (fr m pc' L (.int (x ^^^ y) :: st)))) : Go p e below Q (T.setTop (fr m pc L (.int y :: .int x :: st))) := by
  subst hp
  exact Go.of (fun _ q => XS.ixor X.here B.hx rfl (hb B.by' hd) rfl q) k
theorem Go.ishl (B : Ctx p Z s m meth c own nm bytes maxL ret) (X : Stand p l e R s m args below meth c T locs cells slots) {x y : Int32} (hd : decode bytes pc = .ok (.ishl, 1)) (hp : pc + 1 = pc') 
    (k : Go p e below Q (T.setTop (fr m pc' L (.int (x <<< (y &&& 31)) :: st)))) : Go p e below Q (T.setTop (fr m pc L (.int y :: .int x :: st))) := by
  subst hp
  exact Go.of (fun _ q => XS.ishl X.here B.hx rfl (hb B.by' hd) rfl q) k
theorem Go.ishr (B : Ctx p Z s m meth c own nm bytes maxL ret) (X : Stand p l e R s m args below meth c T locs cells slots) {x y : Int32} (hd : decode bytes pc = .ok (.ishr, 1)) (hp : pc + 1 = pc') 
    (k : Go p e below Q (T.setTop (fr m pc' L (.int (x >>> (y &&& 31)) :: st)))) : Go p e below Q (T.setTop (fr m pc L (.int y :: .int x :: st))) := by
  subst hp
  exact Go.of (fun _ q => XS.ishr X.here B.hx rfl (hb B.by' hd) rfl q) k
theorem Go.iushr (B : Ctx p Z s m meth c own nm bytes maxL ret) (X : Stand p l e R s m args below meth c T locs cells slots) {x y : Int32} (hd : decode bytes pc = .ok (.iushr, 1)) (hp : pc + 1 = pc') 
    (k : Go p e below Q (T.setTop (fr m pc' L (.int ((x.toUInt32 >>> (y &&& 31).toUInt32).toInt32) :: st)))) : Go p e below Q (T.setTop (fr m pc L (.int y :: .int x :: st))) := by
  subst hp
  exact Go.of (fun _ q => XS.iushr X.here B.hx rfl (hb B.by' hd) rfl q) k
theorem Go.idiv (B : Ctx p Z s m meth c own nm bytes maxL ret) (X : Stand p l e R s m args below meth c T locs cells slots) {x y : Int32} (hd : decode bytes pc = .ok (.idiv, 1)) (hp : pc + 1 = pc') (hy : y ≠ 0)
    (k : Go p e below Q (T.setTop (fr m pc' L (.int (x / y) :: st)))) : Go p e below Q (T.setTop (fr m pc L (.int y :: .int x :: st))) := by
  subst hp
  exact Go.of (fun _ q => XS.idiv X.here B.hx rfl (hb B.by' hd) rfl hy q) k
theorem Go.irem (B : Ctx p Z s m meth c own nm bytes maxL ret) (X : Stand p l e R s m args below meth c T locs cells slots) {x y : Int32} (hd : decode bytes pc = .ok (.irem, 1)) (hp : pc + 1 = pc') (hy : y ≠ 0)
    (k : Go p e below Q (T.setTop (fr m pc' L (.int (x % y) :: st)))) : Go p e below Q (T.setTop (fr m pc L (.int y :: .int x :: st))) := by
  subst hp
  exact Go.of (fun _ q => iremM X B.hx rfl (hb B.by' hd) rfl hy q) k
theorem Go.ineg (B : Ctx p Z s m meth c own nm bytes maxL ret) (X : Stand p l e R s m args below meth c T locs cells slots) {x : Int32} (hd : decode bytes pc = .ok (.ineg, 1)) (hp : pc + 1 = pc') 
    (k : Go p e below Q (T.setTop (fr m pc' L (.int (-x) :: st)))) : Go p e below Q (T.setTop (fr m pc L (.int x :: st))) := by
  subst hp
  exact Go.of (fun _ q => XS.ineg X.here B.hx rfl (hb B.by' hd) rfl q) k
theorem Go.ladd (B : Ctx p Z s m meth c own nm bytes maxL ret) (X : Stand p l e R s m args below meth c T locs cells slots) {x y : Int64} (hd : decode bytes pc = .ok (.ladd, 1)) (hp : pc + 1 = pc') 
    (k : Go p e below Q (T.setTop (fr m pc' L (.long (x + y) :: st)))) : Go p e below Q (T.setTop (fr m pc L (.long y :: .long x :: st))) := by
  subst hp
  exact Go.of (fun _ q => XS.ladd X.here B.hx rfl (hb B.by' hd) rfl q) k
theorem Go.lsub (B : Ctx p Z s m meth c own nm bytes maxL ret) (X : Stand p l e R s m args below meth c T locs cells slots) {x y : Int64} (hd : decode bytes pc = .ok (.lsub, 1)) (hp : pc + 1 = pc') 
    (k : Go p e below Q (T.setTop (fr m pc' L (.long (x - y) :: st)))) : Go p e below Q (T.setTop (fr m pc L (.long y :: .long x :: st))) := by
  subst hp
  exact Go.of (fun _ q => XS.lsub X.here B.hx rfl (hb B.by' hd) rfl q) k
theorem Go.lmul (B : Ctx p Z s m meth c own nm bytes maxL ret) (X : Stand p l e R s m args below meth c T locs cells slots) {x y : Int64} (hd : decode bytes pc = .ok (.lmul, 1)) (hp : pc + 1 = pc') 
    (k : Go p e below Q (T.setTop (fr m pc' L (.long (x * y) :: st)))) : Go p e below Q (T.setTop (fr m pc L (.long y :: .long x :: st))) := by
  subst hp
  exact Go.of (fun _ q => XS.lmul X.here B.hx rfl (hb B.by' hd) rfl q) k
theorem Go.land (B : Ctx p Z s m meth c own nm bytes maxL ret) (X : Stand p l e R s m args below meth c T locs cells slots) {x y : Int64} (hd : decode bytes pc = .ok (.land, 1)) (hp : pc + 1 = pc') 
    (k : Go p e below Q (T.setTop (fr m pc' L (.long (x &&& y) :: st)))) : Go p e below Q (T.setTop (fr m pc L (.long y :: .long x :: st))) := by
  subst hp
  exact Go.of (fun _ q => XS.land X.here B.hx rfl (hb B.by' hd) rfl q) k
theorem Go.lor (B : Ctx p Z s m meth c own nm bytes maxL ret) (X : Stand p l e R s m args below meth c T locs cells slots) {x y : Int64} (hd : decode bytes pc = .ok (.lor, 1)) (hp : pc + 1 = pc') 
    (k : Go p e below Q (T.setTop (fr m pc' L (.long (x ||| y) :: st)))) : Go p e below Q (T.setTop (fr m pc L (.long y :: .long x :: st))) := by
  subst hp
  exact Go.of (fun _ q => XS.lor X.here B.hx rfl (hb B.by' hd) rfl q) k
theorem Go.lxor (B : Ctx p Z s m meth c own nm bytes maxL ret) (X : Stand p l e R s m args below meth c T locs cells slots) {x y : Int64} (hd : decode bytes pc = .ok (.lxor, 1)) (hp : pc + 1 = pc') 
    (k : Go p e below Q (T.setTop (fr m pc' L (.long (x ^^^ y) :: st)))) : Go p e below Q (T.setTop (fr m pc L (.long y :: .long x :: st))) := by
  subst hp
  exact Go.of (fun _ q => XS.lxor X.here B.hx rfl (hb B.by' hd) rfl q) k
theorem Go.lshl (B : Ctx p Z s m meth c own nm bytes maxL ret) (X : Stand p l e R s m args below meth c T locs cells slots) {x : Int64} {y : Int32} (hd : decode bytes pc = .ok (.lshl, 1)) (hp : pc + 1 = pc') 
    (k : Go p e below Q (T.setTop (fr m pc' L (.long (x <<< (y &&& 0x3f).toInt64) :: st)))) : Go p e below Q (T.setTop (fr m pc L (.int y :: .long x :: st))) := by
  subst hp
  exact Go.of (fun _ q => XS.lshl X.here B.hx rfl (hb B.by' hd) rfl q) k
theorem Go.lshr (B : Ctx p Z s m meth c own nm bytes maxL ret) (X : Stand p l e R s m args below meth c T locs cells slots) {x : Int64} {y : Int32} (hd : decode bytes pc = .ok (.lshr, 1)) (hp : pc + 1 = pc') 
    (k : Go p e below Q (T.setTop (fr m pc' L (.long (x >>> (y &&& 0x3f).toInt64) :: st)))) : Go p e below Q (T.setTop (fr m pc L (.int y :: .long x :: st))) := by
  subst hp
  exact Go.of (fun _ q => XS.lshr X.here B.hx rfl (hb B.by' hd) rfl q) k
theorem Go.lushr (B : Ctx p Z s m meth c own nm bytes maxL ret) (X : Stand p l e R s m args below meth c T locs cells slots) {x : Int64} {y : Int32} (hd : decode bytes pc = .ok (.lushr, 1)) (hp : pc + 1 = pc') 
    (k : Go p e below Q (T.setTop (fr m pc' L (.long ((x.toUInt64 >>> (y &&& 0x3f).toInt64.toUInt64).toInt64) :: st)))) : Go p e below Q (T.setTop (fr m pc L (.int y :: .long x :: st))) := by
  subst hp
  exact Go.of (fun _ q => XS.lushr X.here B.hx rfl (hb B.by' hd) rfl q) k
theorem Go.ldiv (B : Ctx p Z s m meth c own nm bytes maxL ret) (X : Stand p l e R s m args below meth c T locs cells slots) {x y : Int64} (hd : decode bytes pc = .ok (.ldiv, 1)) (hp : pc + 1 = pc') (hy : y ≠ 0)
    (k : Go p e below Q (T.setTop (fr m pc' L (.long (x / y) :: st)))) : Go p e below Q (T.setTop (fr m pc L (.long y :: .long x :: st))) := by
  subst hp
  exact Go.of (fun _ q => XS.ldiv X.here B.hx rfl (hb B.by' hd) rfl hy q) k
theorem Go.lrem (B : Ctx p Z s m meth c own nm bytes maxL ret) (X : Stand p l e R s m args below meth c T locs cells slots) {x y : Int64} (hd : decode bytes pc = .ok (.lrem, 1)) (hp : pc + 1 = pc') (hy : y ≠ 0)
    (k : Go p e below Q (T.setTop (fr m pc' L (.long (x % y) :: st)))) : Go p e below Q (T.setTop (fr m pc L (.long y :: .long x :: st))) := by
  subst hp
  exact Go.of (fun _ q => XS.lrem X.here B.hx rfl (hb B.by' hd) rfl hy (by rw [lrem_mod]; exact q)) k
theorem Go.lneg (B : Ctx p Z s m meth c own nm bytes maxL ret) (X : Stand p l e R s m args below meth c T locs cells slots) {x : Int64} (hd : decode bytes pc = .ok (.lneg, 1)) (hp : pc + 1 = pc') 
    (k : Go p e below Q (T.setTop (fr m pc' L (.long (-x) :: st)))) : Go p e below Q (T.setTop (fr m pc L (.long x :: st))) := by
  subst hp
  exact Go.of (fun _ q => XS.lneg X.here B.hx rfl (hb B.by' hd) rfl q) k
theorem Go.i2l (B : Ctx p Z s m meth c own nm bytes maxL ret) (X : Stand p l e R s m args below meth c T locs cells slots) {x : Int32} (hd : decode bytes pc = .ok (.i2l, 1)) (hp : pc + 1 = pc') 
    (k : Go p e below Q (T.setTop (fr m pc' L (.long x.toInt64 :: st)))) : Go p e below Q (T.setTop (fr m pc L (.int x :: st))) := by
  subst hp
  exact Go.of (fun _ q => XS.i2l X.here B.hx rfl (hb B.by' hd) rfl q) k
theorem Go.l2i (B : Ctx p Z s m meth c own nm bytes maxL ret) (X : Stand p l e R s m args below meth c T locs cells slots) {x : Int64} (hd : decode bytes pc = .ok (.l2i, 1)) (hp : pc + 1 = pc') 
    (k : Go p e below Q (T.setTop (fr m pc' L (.int x.toInt32 :: st)))) : Go p e below Q (T.setTop (fr m pc L (.long x :: st))) := by
  subst hp
  exact Go.of (fun _ q => XS.l2i X.here B.hx rfl (hb B.by' hd) rfl q) k
theorem Go.i2b (B : Ctx p Z s m meth c own nm bytes maxL ret) (X : Stand p l e R s m args below meth c T locs cells slots) {x : Int32} (hd : decode bytes pc = .ok (.i2b, 1)) (hp : pc + 1 = pc') 
    (k : Go p e below Q (T.setTop (fr m pc' L (.int x.toInt8.toInt32 :: st)))) : Go p e below Q (T.setTop (fr m pc L (.int x :: st))) := by
  subst hp
  exact Go.of (fun _ q => XS.i2b X.here B.hx rfl (hb B.by' hd) rfl q) k
theorem Go.i2c (B : Ctx p Z s m meth c own nm bytes maxL ret) (X : Stand p l e R s m args below meth c T locs cells slots) {x : Int32} (hd : decode bytes pc = .ok (.i2c, 1)) (hp : pc + 1 = pc') 
    (k : Go p e below Q (T.setTop (fr m pc' L (.int x.toUInt32.toUInt16.toUInt32.toInt32 :: st)))) : Go p e below Q (T.setTop (fr m pc L (.int x :: st))) := by
  subst hp
  exact Go.of (fun _ q => XS.i2c X.here B.hx rfl (hb B.by' hd) rfl q) k
theorem Go.i2s (B : Ctx p Z s m meth c own nm bytes maxL ret) (X : Stand p l e R s m args below meth c T locs cells slots) {x : Int32} (hd : decode bytes pc = .ok (.i2s, 1)) (hp : pc + 1 = pc') 
    (k : Go p e below Q (T.setTop (fr m pc' L (.int x.toInt16.toInt32 :: st)))) : Go p e below Q (T.setTop (fr m pc L (.int x :: st))) := by
  subst hp
  exact Go.of (fun _ q => XS.i2s X.here B.hx rfl (hb B.by' hd) rfl q) k
theorem Go.lcmp (B : Ctx p Z s m meth c own nm bytes maxL ret) (X : Stand p l e R s m args below meth c T locs cells slots) {x y : Int64} (hd : decode bytes pc = .ok (.lcmp, 1)) (hp : pc + 1 = pc') 
    (k : Go p e below Q (T.setTop (fr m pc' L (.int (lcmpW x y) :: st)))) : Go p e below Q (T.setTop (fr m pc L (.long y :: .long x :: st))) := by
  subst hp
  exact Go.of (fun _ q => XS.lcmp X.here B.hx rfl (hb B.by' hd) rfl q) k
theorem Go.iinc (B : Ctx p Z s m meth c own nm bytes maxL ret) (X : Stand p l e R s m args below meth c T locs cells slots) {k : Nat} {i : Int} {x : Int32} (v : Int32) (hd : decode bytes pc = .ok (.iinc k i, 3)) (hp : pc + 3 = pc') (hl : lk L k = some (.val (.int x))) (hv : Int32.ofInt i = v)
    (k : Go p e below Q (T.setTop (fr m pc' (put1 L k (.val (.int (x + v)))) (st)))) : Go p e below Q (T.setTop (fr m pc L (st))) := by
  subst hp
  exact Go.of (fun _ q => XS.iinc X.here B.hx rfl (hb B.by' hd) (lk_arr hl) (hv ▸ st1 hl rfl rfl) q) k
theorem Go.dup (B : Ctx p Z s m meth c own nm bytes maxL ret) (X : Stand p l e R s m args below meth c T locs cells slots) {x : Value} (hd : decode bytes pc = .ok (.dup, 1)) (hp : pc + 1 = pc') (hv : x.category = 1)
    (k : Go p e below Q (T.setTop (fr m pc' L (x :: x :: st)))) : Go p e below Q (T.setTop (fr m pc L (x :: st))) := by
  subst hp
  exact Go.of (fun _ q => XS.dup X.here B.hx rfl (hb B.by' hd) rfl hv q) k
theorem Go.pop (B : Ctx p Z s m meth c own nm bytes maxL ret) (X : Stand p l e R s m args below meth c T locs cells slots) {x : Value} (hd : decode bytes pc = .ok (.pop, 1)) (hp : pc + 1 = pc') (hv : x.category = 1)
    (k : Go p e below Q (T.setTop (fr m pc' L (st)))) : Go p e below Q (T.setTop (fr m pc L (x :: st))) := by
  subst hp
  exact Go.of (fun _ q => XS.pop X.here B.hx rfl (hb B.by' hd) rfl hv q) k
theorem Go.dupX1 (B : Ctx p Z s m meth c own nm bytes maxL ret) (X : Stand p l e R s m args below meth c T locs cells slots) {x y : Value} (hd : decode bytes pc = .ok (.dup_x1, 1)) (hp : pc + 1 = pc') (hv : x.category = 1) (hw : y.category = 1)
    (k : Go p e below Q (T.setTop (fr m pc' L (x :: y :: x :: st)))) : Go p e below Q (T.setTop (fr m pc L (x :: y :: st))) := by
  subst hp
  exact Go.of (fun _ q => XS.dupX1 X.here B.hx rfl (hb B.by' hd) rfl hv hw q) k
theorem Go.dup2 (B : Ctx p Z s m meth c own nm bytes maxL ret) (X : Stand p l e R s m args below meth c T locs cells slots) {x y : Value} (hd : decode bytes pc = .ok (.dup2, 1)) (hp : pc + 1 = pc') (hv : x.category = 1) (hw : y.category = 1)
    (k : Go p e below Q (T.setTop (fr m pc' L (x :: y :: x :: y :: st)))) : Go p e below Q (T.setTop (fr m pc L (x :: y :: st))) := by
  subst hp
  exact Go.of (fun _ q => XT.dup2 X.here B.hx rfl (hb B.by' hd) rfl hv hw q) k
theorem Go.i2d (B : Ctx p Z s m meth c own nm bytes maxL ret) (X : Stand p l e R s m args below meth c T locs cells slots) {x : Int32} (hd : decode bytes pc = .ok (.i2d, 1)) (hp : pc + 1 = pc') 
    (k : Go p e below Q (T.setTop (fr m pc' L (.double (FP.i2d x) :: st)))) : Go p e below Q (T.setTop (fr m pc L (.int x :: st))) := by
  subst hp
  exact Go.of (fun _ q => XS.i2dS X.here B.hx rfl (hb B.by' hd) rfl rfl q) k
theorem Go.l2d (B : Ctx p Z s m meth c own nm bytes maxL ret) (X : Stand p l e R s m args below meth c T locs cells slots) {x : Int64} (hd : decode bytes pc = .ok (.l2d, 1)) (hp : pc + 1 = pc') 
    (k : Go p e below Q (T.setTop (fr m pc' L (.double (FP.l2d x) :: st)))) : Go p e below Q (T.setTop (fr m pc L (.long x :: st))) := by
  subst hp
  exact Go.of (fun _ q => XS.l2dS X.here B.hx rfl (hb B.by' hd) rfl rfl q) k
theorem Go.dconst0 (B : Ctx p Z s m meth c own nm bytes maxL ret) (X : Stand p l e R s m args below meth c T locs cells slots)  (hd : decode bytes pc = .ok (.dconst 0, 1)) (hp : pc + 1 = pc') 
    (k : Go p e below Q (T.setTop (fr m pc' L (.double FP.dconst0 :: st)))) : Go p e below Q (T.setTop (fr m pc L (st))) := by
  subst hp
  exact Go.of (fun _ q => XS.dconst0 X.here B.hx rfl (hb B.by' hd) rfl q) k
theorem Go.dconst1 (B : Ctx p Z s m meth c own nm bytes maxL ret) (X : Stand p l e R s m args below meth c T locs cells slots)  (hd : decode bytes pc = .ok (.dconst 1, 1)) (hp : pc + 1 = pc') 
    (k : Go p e below Q (T.setTop (fr m pc' L (.double FP.dconst1 :: st)))) : Go p e below Q (T.setTop (fr m pc L (st))) := by
  subst hp
  exact Go.of (fun _ q => XS.dconst1 X.here B.hx rfl (hb B.by' hd) rfl q) k
theorem Go.dneg (B : Ctx p Z s m meth c own nm bytes maxL ret) (X : Stand p l e R s m args below meth c T locs cells slots) {x : UInt64} (hd : decode bytes pc = .ok (.dneg, 1)) (hp : pc + 1 = pc') 
    (k : Go p e below Q (T.setTop (fr m pc' L (.double (FP.dneg x) :: st)))) : Go p e below Q (T.setTop (fr m pc L (.double x :: st))) := by
  subst hp
  exact Go.of (fun _ q => XS.dnegS X.here B.hx rfl (hb B.by' hd) rfl rfl q) k
theorem Go.dcmp (B : Ctx p Z s m meth c own nm bytes maxL ret) (X : Stand p l e R s m args below meth c T locs cells slots) {x y : UInt64} {o : CmpOp} (hd : decode bytes pc = .ok (.dcmp o, 1)) (hp : pc + 1 = pc') 
    (k : Go p e below Q (T.setTop (fr m pc' L (.int (cmpValue (FP.dcmp x y) o) :: st)))) : Go p e below Q (T.setTop (fr m pc L (.double y :: .double x :: st))) := by
  subst hp
  exact Go.of (fun _ q => XS.dcmpS X.here B.hx rfl (hb B.by' hd) rfl rfl q) k
theorem Go.dadd (B : Ctx p Z s m meth c own nm bytes maxL ret) (X : Stand p l e R s m args below meth c T locs cells slots) {x y : UInt64} (hd : decode bytes pc = .ok (.dadd, 1)) (hp : pc + 1 = pc') (hn : Jvm.Free.Fl.NoNaN64 (FP.dadd x y))
    (k : Go p e below Q (T.setTop (fr m pc' L (.double (FP.dadd x y) :: st)))) : Go p e below Q (T.setTop (fr m pc L (.double y :: .double x :: st))) := by
  subst hp
  exact Go.of (fun _ q => XS.daddS X.here B.hx rfl (hb B.by' hd) rfl hn rfl q) k
theorem Go.dsub (B : Ctx p Z s m meth c own nm bytes maxL ret) (X : Stand p l e R s m args below meth c T locs cells slots) {x y : UInt64} (hd : decode bytes pc = .ok (.dsub, 1)) (hp : pc + 1 = pc') (hn : Jvm.Free.Fl.NoNaN64 (FP.dsub x y))
    (k : Go p e below Q (T.setTop (fr m pc' L (.double (FP.dsub x y) :: st)))) : Go p e below Q (T.setTop (fr m pc L (.double y :: .double x :: st))) := by
  subst hp
  exact Go.of (fun _ q => XS.dsubS X.here B.hx rfl (hb B.by' hd) rfl hn rfl q) k
theorem Go.dmul (B : Ctx p Z s m meth c own nm bytes maxL ret) (X : Stand p l e R s m args below meth c T locs cells slots) {x y : UInt64} (hd : decode bytes pc = .ok (.dmul, 1)) (hp : pc + 1 = pc') (hn : Jvm.Free.Fl.NoNaN64 (FP.dmul x y))
    (k : Go p e below Q (T.setTop (fr m pc' L (.double (FP.dmul x y) :: st)))) : Go p e below Q (T.setTop (fr m pc L (.double y :: .double x :: st))) := by
  subst hp
  exact Go.of (fun _ q => XS.dmulS X.here B.hx rfl (hb B.by' hd) rfl hn rfl q) k
theorem Go.ddiv (B : Ctx p Z s m meth c own nm bytes maxL ret) (X : Stand p l e R s m args below meth c T locs cells slots) {x y : UInt64} (hd : decode bytes pc = .ok (.ddiv, 1)) (hp : pc + 1 = pc') (hn : Jvm.Free.Fl.NoNaN64 (FP.ddiv x y))
    (k : Go p e below Q (T.setTop (fr m pc' L (.double (FP.ddiv x y) :: st)))) : Go p e below Q (T.setTop (fr m pc L (.double y :: .double x :: st))) := by
  subst hp
  exact Go.of (fun _ q => XS.ddivS X.here B.hx rfl (hb B.by' hd) rfl hn rfl q) k
theorem Go.goto (B : Ctx p Z s m meth c own nm bytes maxL ret) (X : Stand p l e R s m args below meth c T locs cells slots) {o : Int} (hd : decode bytes pc = .ok (.goto o, 3)) (ho : 0 ≤ (pc : Int) + o) (hp : ((pc : Int) + o).toNat = pc')
    (k : Go p e below Q (T.setTop (fr m pc' L st))) : Go p e below Q (T.setTop (fr m pc L st)) :=
  Go.of (fun _ q => XS.goto X.here B.hx rfl rfl (hb B.by' hd) ho hp q) k
theorem Go.ifT (B : Ctx p Z s m meth c own nm bytes maxL ret) (X : Stand p l e R s m args below meth c T locs cells slots) {cd : ClassFile.Cond} {x : Int32} {o : Int} (hd : decode bytes pc = .ok (.ifCond cd o, 3)) (ho : 0 ≤ (pc : Int) + o) (hp : ((pc : Int) + o).toNat = pc') (hc : CP cd x 0)
    (k : Go p e below Q (T.setTop (fr m pc' L st))) : Go p e below Q (T.setTop (fr m pc L (.int x :: st))) :=
  Go.of (fun _ q => XS.ifYes X.here B.hx rfl rfl (hb B.by' hd) rfl ((if0 _ _).trans hc.holds) ho hp q) k
theorem Go.ifF (B : Ctx p Z s m meth c own nm bytes maxL ret) (X : Stand p l e R s m args below meth c T locs cells slots) {cd : ClassFile.Cond} {x : Int32} {o : Int} (hd : decode bytes pc = .ok (.ifCond cd o, 3)) (hp : pc + 3 = pc') (hc : CN cd x 0)
    (k : Go p e below Q (T.setTop (fr m pc' L st))) : Go p e below Q (T.setTop (fr m pc L (.int x :: st))) := by
  subst hp
  exact Go.of (fun _ q => XS.ifNo X.here B.hx rfl (hb B.by' hd) rfl ((if0 _ _).trans hc.holds) q) k
theorem Go.ifc (B : Ctx p Z s m meth c own nm bytes maxL ret) (X : Stand p l e R s m args below meth c T locs cells slots) {cd : ClassFile.Cond} {x : Int32} {o : Int} (hd : decode bytes pc = .ok (.ifCond cd o, 3)) (ho : 0 ≤ (pc : Int) + o) (hp : ((pc : Int) + o).toNat = pcT) (hp' : pc + 3 = pc')
    (kT : CP cd x 0 → Go p e below Q (T.setTop (fr m pcT L st))) (kF : CN cd x 0 → Go p e below Q (T.setTop (fr m pc' L st))) : Go p e below Q (T.setTop (fr m pc L (.int x :: st))) :=
  (cp_or cd x 0).elim (fun h => Go.ifT B X hd ho hp h (kT h)) (fun h => Go.ifF B X hd hp' h (kF h))
theorem Go.icT (B : Ctx p Z s m meth c own nm bytes maxL ret) (X : Stand p l e R s m args below meth c T locs cells slots) {cd : ClassFile.Cond} {x y : Int32} {o : Int} (hd : decode bytes pc = .ok (.if_icmp cd o, 3)) (ho : 0 ≤ (pc : Int) + o) (hp : ((pc : Int) + o).toNat = pc') (hc : CP cd x y)
    (k : Go p e below Q (T.setTop (fr m pc' L st))) : Go p e below Q (T.setTop (fr m pc L (.int y :: .int x :: st))) :=
  Go.of (fun _ q => XS.icmpYes X.here B.hx rfl rfl (hb B.by' hd) rfl hc.holds ho hp q) k
theorem Go.icF (B : Ctx p Z s m meth c own nm bytes maxL ret) (X : Stand p l e R s m args below meth c T locs cells slots) {cd : ClassFile.Cond} {x y : Int32} {o : Int} (hd : decode bytes pc = .ok (.if_icmp cd o, 3)) (hp : pc + 3 = pc') (hc : CN cd x y)
    (k : Go p e below Q (T.setTop (fr m pc' L st))) : Go p e below Q (T.setTop (fr m pc L (.int y :: .int x :: st))) := by
  subst hp
  exact Go.of (fun _ q => XS.icmpNo X.here B.hx rfl (hb B.by' hd) rfl hc.holds q) k
theorem Go.ic (B : Ctx p Z s m meth c own nm bytes maxL ret) (X : Stand p l e R s m args below meth c T locs cells slots) {cd : ClassFile.Cond} {x y : Int32} {o : Int} (hd : decode bytes pc = .ok (.if_icmp cd o, 3)) (ho : 0 ≤ (pc : Int) + o) (hp : ((pc : Int) + o).toNat = pcT) (hp' : pc + 3 = pc')
    (kT : CP cd x y → Go p e below Q (T.setTop (fr m pcT L st))) (kF : CN cd x y → Go p e below Q (T.setTop (fr m pc' L st))) : Go p e below Q (T.setTop (fr m pc L (.int y :: .int x :: st))) :=
  (cp_or cd x y).elim (fun h => Go.icT B X hd ho hp h (kT h)) (fun h => Go.icF B X hd hp' h (kF h))
theorem Go.nullT (B : Ctx p Z s m meth c own nm bytes maxL ret) (X : Stand p l e R s m args below meth c T locs cells slots) {o : Int} (hd : decode bytes pc = .ok (.ifnull o, 3)) (ho : 0 ≤ (pc : Int) + o) (hp : ((pc : Int) + o).toNat = pc')
    (k : Go p e below Q (T.setTop (fr m pc' L st))) : Go p e below Q (T.setTop (fr m pc L (.null :: st))) :=
  Go.of (fun _ q => XS.ifnullYes X.here B.hx rfl rfl (hb B.by' hd) rfl ho hp q) k
theorem Go.nullF (B : Ctx p Z s m meth c own nm bytes maxL ret) (X : Stand p l e R s m args below meth c T locs cells slots) {o : Int} {b : Addr} (hd : decode bytes pc = .ok (.ifnull o, 3)) (hp : pc + 3 = pc')
    (k : Go p e below Q (T.setTop (fr m pc' L st))) : Go p e below Q (T.setTop (fr m pc L (.ref b :: st))) := by
  subst hp
  exact Go.of (fun _ q => XS.ifnullNo X.here B.hx rfl (hb B.by' hd) rfl q) k
theorem Go.nnT (B : Ctx p Z s m meth c own nm bytes maxL ret) (X : Stand p l e R s m args below meth c T locs cells slots) {o : Int} {b : Addr} (hd : decode bytes pc = .ok (.ifnonnull o, 3)) (ho : 0 ≤ (pc : Int) + o) (hp : ((pc : Int) + o).toNat = pc')
    (k : Go p e below Q (T.setTop (fr m pc' L st))) : Go p e below Q (T.setTop (fr m pc L (.ref b :: st))) :=
  Go.of (fun _ q => XS.ifnonnullYes X.here B.hx rfl rfl (hb B.by' hd) rfl ho hp q) k
theorem Go.nnF (B : Ctx p Z s m meth c own nm bytes maxL ret) (X : Stand p l e R s m args below meth c T locs cells slots) {o : Int} (hd : decode bytes pc = .ok (.ifnonnull o, 3)) (hp : pc + 3 = pc')
    (k : Go p e below Q (T.setTop (fr m pc' L st))) : Go p e below Q (T.setTop (fr m pc L (.null :: st))) := by
  subst hp
  exact Go.of (fun _ q => XS.ifnonnullNo X.here B.hx rfl (hb B.by' hd) rfl q) k
theorem Go.acmp (B : Ctx p Z s m meth c own nm bytes maxL ret) (X : Stand p l e R s m args below meth c T locs cells slots) {cd : ACond} {x y : Value} {o : Int} {same : Bool} (hd : decode bytes pc = .ok (.if_acmp cd o, 3)) (h1 : x.isRef = true) (h2 : y.isRef = true) (hq : decide (x = y) = same) (ho : 0 ≤ (pc : Int) + o) (hp : pc' = if acV cd same = true then ((pc : Int) + o).toNat else pc + 3)
    (k : Go p e below Q (T.setTop (fr m pc' L st))) : Go p e below Q (T.setTop (fr m pc L (y :: x :: st))) :=
  Go.of (fun _ q => RoadKit.acmp X B.hx rfl h1 h2 rfl (hb B.by' hd) rfl hq ho hp q) k
/-! constants of the pool -/
theorem Go.ldcI (B : Ctx p Z s m meth c own nm bytes maxL ret) (X : Stand p l e R s m args below meth c T locs cells slots) {i : Nat} {v : Int32} (w : (Jvm.Cond.constant own i v).before a0 Z = true) (hd : decode bytes pc = .ok (.ldc i, 2)) (hp : pc + 2 = pc')
    (k : Go p e below Q (T.setTop (fr m pc' L (.int v :: st)))) : Go p e below Q (T.setTop (fr m pc L st)) := by
  subst hp
  exact Go.of (fun _ q => X.ldcI B.hx B.cl (mvT B.hZ w) (g := fr m pc L st) rfl (hb B.by' hd) q) k
theorem Go.ldc2D (B : Ctx p Z s m meth c own nm bytes maxL ret) (X : Stand p l e R s m args below meth c T locs cells slots) {i : Nat} {v : UInt64} (w : (Jvm.Cond.constantDouble own i v).before a0 Z = true) (hd : decode bytes pc = .ok (.ldc2_w i, 3)) (hp : pc + 3 = pc')
    (k : Go p e below Q (T.setTop (fr m pc' L (.double v :: st)))) : Go p e below Q (T.setTop (fr m pc L st)) := by
  subst hp
  exact Go.of (fun _ q => X.ldc2DoubleC B.hx B.cl (mvT B.hZ w) (g := fr m pc L st) rfl (hb B.by' hd) _ q) k
theorem Go.ldc2J (B : Ctx p Z s m meth c own nm bytes maxL ret) (X : Stand p l e R s m args below meth c T locs cells slots) {i : Nat} {v : Int64} (w : (Jvm.Cond.constantLong own i v).before a0 Z = true) (hd : decode bytes pc = .ok (.ldc2_w i, 3)) (hp : pc + 3 = pc')
    (k : Go p e below Q (T.setTop (fr m pc' L (.long v :: st)))) : Go p e below Q (T.setTop (fr m pc L st)) := by
  subst hp
  exact Go.of (fun _ q => X.ldc2Long B.hx B.cl (mvT B.hZ w) (g := fr m pc L st) rfl (hb B.by' hd) _ q) k
/-! the heap -/
theorem Go.newO (B : Ctx p Z s m meth c own nm bytes maxL ret) (X : Stand p l e R s m args below meth c T locs cells slots) (eT : T.heap = h) {C : String} {i n : Nat} (w : (Jvm.Cond.classLink own i C).before a0 Z = true) (wi : (Jvm.Cond.instantiable C n).before a0 Z = true) (wz : (Jvm.Cond.initialized C).before a0 Z = true)
    (hd : decode bytes pc = .ok (.new i, 3)) (hp : pc + 3 = pc') (hc : cells + 1 ≤ R.cells) (hl : slots + n ≤ R.slots)
    (k : ∀ T' h' a, a = h.size → Stand p l e R s m args below meth c T' locs (cells + 1) (slots + n) → T'.heap = h' → Ext h h' → Exa Z h' a C → (∀ {O nm d : String} {ty : FieldType}, Laid Z a0 C O nm d → parseFieldDescriptor d = some ty → Fld Z h' a O nm d (defaultValue ty)) → Go p e below Q (T'.setTop (fr m pc' L (.ref a :: st)))) : Go p e below Q (T.setTop (fr m pc L st)) := by
  subst hp
  obtain ⟨T', h', X', e', E, A, D, -, stp⟩ := RoadKit.newO X B.hx B.hZ B.cl w wi wz eT (g := fr m pc L st) rfl (hb B.by' hd) hc hl
  exact Go.of stp (k T' h' _ rfl X' e' E A D)
theorem Go.initO (B : Ctx p Z s m meth c own nm bytes maxL ret) (X : Stand p l e R s m args below meth c T locs cells slots) (eT : T.heap = h) {i : Nat} (w1 : (Jvm.Cond.methodLink own i Lib.objectInit).before a0 Z = true) (w2 : (Jvm.Cond.instanceMethod Lib.objectInit).before a0 Z = true) (w3 : (Jvm.Cond.code Lib.objectInit ⟨#[0xb1]⟩ 1 none).before a0 Z = true) {a : Addr}
    (hd : decode bytes pc = .ok (.invokespecial i, 3)) (hp : pc + 3 = pc') (hL : L.length = maxL) (hf : 1 ≤ R.frames) (hl : (st.map fun v => v.category).sum + 12 ≤ R.locals)
    (k : ∀ T', Stand p l e R s m args below meth c T' locs cells slots → T'.heap = h → Go p e below Q (T'.setTop (fr m pc' L st))) : Go p e below Q (T.setTop (fr m pc L (.ref a :: st))) := by
  subst hp
  obtain ⟨T', X', e', stp⟩ := RoadKit.initO X B.hx B.hZ B.cl w1 w2 w3 eT (g := fr m pc L (.ref a :: st)) rfl (by rw [B.ml]; exact hL) rfl (hb B.by' hd) hf (W := (st.map fun v => v.category).sum) (by show 2 * 0 + _ ≤ _; omega) hl
  exact Go.of stp (k T' X' e')
theorem Go.getF (B : Ctx p Z s m meth c own nm bytes maxL ret) (X : Stand p l e R s m args below meth c T locs cells slots) (eT : T.heap = h) {O n d : String} {i : Nat} {a : Addr} {v : Value} (w : (Jvm.Cond.fieldLink own i O n d).before a0 Z = true) (F : Fld Z h a O n d v) (hd : decode bytes pc = .ok (.getfield i, 3)) (hp : pc + 3 = pc')
    (k : ∀ T', Stand p l e R s m args below meth c T' locs cells slots → T'.heap = h → Go p e below Q (T'.setTop (fr m pc' L (v :: st)))) : Go p e below Q (T.setTop (fr m pc L (.ref a :: st))) := by
  subst hp
  obtain ⟨T', X', e', stp⟩ := RoadKit.getF X B.hx B.hZ B.cl (host := "") (Or.inl w) Via.refl eT F (g := fr m pc L (.ref a :: st)) rfl rfl (hb B.by' hd)
  exact Go.of stp (k T' X' e')
theorem Go.castY (B : Ctx p Z s m meth c own nm bytes maxL ret) (X : Stand p l e R s m args below meth c T locs cells slots) (eT : T.heap = h) {K : String} {i : Nat} {a : Addr} (w : (Jvm.Cond.classLink own i K).before a0 Z = true) (F : Ins Z h a K true) (hd : decode bytes pc = .ok (.checkcast i, 3)) (hp : pc + 3 = pc')
    (k : ∀ T', Stand p l e R s m args below meth c T' locs cells slots → T'.heap = h → Go p e below Q (T'.setTop (fr m pc' L (.ref a :: st)))) : Go p e below Q (T.setTop (fr m pc L (.ref a :: st))) := by
  subst hp
  obtain ⟨T', X', e', stp⟩ := RoadKit.castY X B.hx B.hZ B.cl w eT F (g := fr m pc L (.ref a :: st)) rfl rfl (hb B.by' hd)
  exact Go.of stp (k T' X' e')
theorem Go.instY (B : Ctx p Z s m meth c own nm bytes maxL ret) (X : Stand p l e R s m args below meth c T locs cells slots) (eT : T.heap = h) {K : String} {i : Nat} {a : Addr} (w : (Jvm.Cond.classLink own i K).before a0 Z = true) (F : Ins Z h a K true) (hd : decode bytes pc = .ok (.instanceof i, 3)) (hp : pc + 3 = pc')
    (k : ∀ T', Stand p l e R s m args below meth c T' locs cells slots → T'.heap = h → Go p e below Q (T'.setTop (fr m pc' L (.int 1 :: st)))) : Go p e below Q (T.setTop (fr m pc L (.ref a :: st))) := by
  subst hp
  obtain ⟨T', X', e', stp⟩ := RoadKit.instY X B.hx B.hZ B.cl w eT F (g := fr m pc L (.ref a :: st)) rfl rfl (hb B.by' hd)
  exact Go.of stp (k T' X' e')
theorem Go.getS (B : Ctx p Z s m meth c own nm bytes maxL ret) (X : Stand p l e R s m args below meth c T locs cells slots) (eT : T.heap = h) {O n d : String} {i : Nat} {v : Value} (w : (Jvm.Cond.fieldLink own i O n d).before a0 Z = true) (F : Sta Z h O n d v) (hd : decode bytes pc = .ok (.getstatic i, 3)) (hp : pc + 3 = pc')
    (k : ∀ T', Stand p l e R s m args below meth c T' locs cells slots → T'.heap = h → Go p e below Q (T'.setTop (fr m pc' L (v :: st)))) : Go p e below Q (T.setTop (fr m pc L st)) := by
  subst hp
  obtain ⟨T', X', e', stp⟩ := RoadKit.getS (host := "") X B.hx B.hZ B.cl w Via.refl eT F (g := fr m pc L st) rfl (hb B.by' hd)
  exact Go.of stp (k T' X' e')
theorem Go.putF (B : Ctx p Z s m meth c own nm bytes maxL ret) (X : Stand p l e R s m args below meth c T locs cells slots) (eT : T.heap = h) {O n d C : String} {i kk : Nat} {ty : FieldType} {a : Addr} {v old : Value} (w : (Jvm.Cond.fieldLink own i O n d).before a0 Z = true) (F : Fld Z h a O n d old) (E : Exa Z h a C)
    (Ly : (Jvm.Cond.lays C O n d).before a0 Z = true ∨ ((Jvm.Cond.laysFinal C O n d).before a0 Z = true ∧ own = O ∧ meth.name = "<init>")) (wi : (Jvm.Cond.instantiable C kk).before a0 Z = true) (hty : parseFieldDescriptor d = some ty) (hn : narrow ty v = v) (hf : fits ty v = true) (hd : decode bytes pc = .ok (.putfield i, 3)) (hp : pc + 3 = pc')
    (k : ∀ T' h', Stand p l e R s m args below meth c T' (locs ++ [⟨a, RoadKit.slotOf Z O n d⟩]) cells slots → T'.heap = h' → Wr h h' a (RoadKit.slotOf Z O n d) v → Go p e below Q (T'.setTop (fr m pc' L st))) : Go p e below Q (T.setTop (fr m pc L (v :: .ref a :: st))) := by
  subst hp
  obtain ⟨T', h', X', e', W, stp⟩ := RoadKit.putF X B.hx B.hZ B.cl (host := "") (Or.inl w) Via.refl eT F E Ly wi hty hn hf (g := fr m pc L (v :: .ref a :: st)) rfl rfl (hb B.by' hd)
  exact Go.of stp (k T' h' X' e' W)

/-- an array, its components listed -/
def Av (Z : State) (h : Heap) (a : Addr) (ty : FieldType) (vs : List Value) : Prop := ∃ c : Cell, Arr Z h a c ty ∧ c.slots = ⟨vs⟩ ∧ vs.length < 2 ^ 31 ∧ ∀ v ∈ vs, fits ty v = true
theorem Av.lt {a : Addr} {ty : FieldType} {vs : List Value} (F : Av Z h a ty vs) : a < h.size := by obtain ⟨c, A, -⟩ := F; exact A.lt
theorem Av.ext {h' : Heap} {a : Addr} {ty : FieldType} {vs : List Value} (F : Av Z h a ty vs) (E : Ext h h') : Av Z h' a ty vs := by obtain ⟨c, A, r⟩ := F; exact ⟨c, A.ext E, r⟩
theorem Av.other {h' : Heap} {a b : Addr} {ty : FieldType} {vs : List Value} {sl : Nat} {v : Value} (F : Av Z h b ty vs) (W : Wr h h' a sl v) (q : b ≠ a) : Av Z h' b ty vs := by obtain ⟨c, A, r⟩ := F; exact ⟨c, A.other W q, r⟩
theorem Av.keep {h' : Heap} {a : Addr} {ty : FieldType} {vs : List Value} {ws : List Addr} (F : Av Z h a ty vs) (K : Keep h h' ws) (q : a ∉ ws) : Av Z h' a ty vs := by obtain ⟨c, A, r⟩ := F; exact ⟨c, ⟨K.2.1 a c A.1 q, A.2⟩, r⟩
theorem Av.set {h' : Heap} {a : Addr} {ty : FieldType} {vs : List Value} {i : Nat} {v : Value} (F : Av Z h a ty vs) (W : Wr h h' a i v) (hv : fits ty v = true) : Av Z h' a ty (vs.set i v) := by
  obtain ⟨c, A, r1, r2, r3⟩ := F
  refine ⟨c.setSlot i v, A.same W, ?_, by simpa using r2, fun x hx => ?_⟩
  · simp only [Cell.setSlot, r1]; simp
  · rcases List.mem_or_eq_of_mem_set hx with q | q
    · exact r3 x q
    · exact q ▸ hv
theorem Av.arv {a : Addr} {ty : FieldType} {vs : List Value} (F : Av Z h a ty vs) (d : Value) : ∃ k, Arv Z h a k ty (Int32.ofNat vs.length) vs d := by
  obtain ⟨c, A, r1, r2, r3⟩ := F
  have q : c.slots.size = vs.length := by rw [r1]; rfl
  have w : (Int32.ofNat vs.length).toNatClampNeg = vs.length := Int32.toNatClampNeg_ofNat_of_lt r2
  refine ⟨c.cls, c, A, rfl, by rw [q, w], ?_, fun k hk => ?_, fun i hi => ?_⟩
  · intro hlt
    rw [Int32.lt_iff_toInt_lt] at hlt
    rw [Int32.toInt_ofNat_of_lt r2] at hlt
    have : (0 : Int32).toInt = 0 := by decide
    omega
  · rw [q] at hk
    rw [r1]
    simp [List.getD, hk]
  · rw [q] at hi
    have : vs.getD i d = vs[i] := by simp [List.getD, hi]
    rw [this]
    exact r3 _ (List.getElem_mem hi)
theorem Av.of_arv {a : Addr} {k : ClassId} {ty : FieldType} {n : Int32} {vs : List Value} {d : Value} (F : Arv Z h a k ty n vs d) (hn : n.toNatClampNeg = vs.length) : Av Z h a ty vs := by
  obtain ⟨c, A, r1, r2, r3, H, G⟩ := F
  have hb : vs.length < 2 ^ 31 := by rw [← hn]; exact (back32 r3).2
  have q : c.slots.size = vs.length := by rw [r2, hn]
  refine ⟨c, A, ?_, hb, fun v hv => ?_⟩
  · apply Array.ext'
    apply List.ext_getElem?
    intro i
    by_cases hi : i < vs.length
    · have := H i (by omega)
      simp [List.getD, hi] at this
      simp [this, hi]
    · rw [List.getElem?_eq_none (by simp; omega), List.getElem?_eq_none (by simp; omega)]
  · obtain ⟨i, hi, rfl⟩ := List.mem_iff_getElem.mp hv
    have := G i (by omega)
    simpa [List.getD, hi] using this
theorem idx_ok {i n : Nat} {j : Int32} (hj : j = Int32.ofNat i) (hi : i < n) (hn : n < 2 ^ 31) : ¬ (j < 0 ∨ n ≤ j.toNatClampNeg) ∧ j.toNatClampNeg = i := by
  subst hj
  exact ⟨idx_in hi hn, Int32.toNatClampNeg_ofNat_of_lt (by omega)⟩
theorem range_cut {vs : List Value} {sp nn : Nat} (h : sp + nn ≤ vs.length) (d : Value) : (List.range nn).map (fun i => vs.getD (sp + i) d) = (vs.drop sp).take nn := by
  apply List.ext_getElem?
  intro i
  by_cases hi : i < nn
  · simp [hi, List.getD, List.getElem?_take, List.getElem?_drop, show sp + i < vs.length by omega]
  · rw [List.getElem?_eq_none (by simp; omega), List.getElem?_eq_none (by simp; omega)]
theorem nn_ofNat {a : Nat} (h : a < 2 ^ 31) : ¬ Int32.ofNat a < 0 := by
  intro hlt
  rw [Int32.lt_iff_toInt_lt, Int32.toInt_ofNat_of_lt h] at hlt
  have : (0 : Int32).toInt = 0 := by decide
  omega
theorem Go.acopy (B : Ctx p Z s m meth c own nm bytes maxL ret) (X : Stand p l e R s m args below meth c T locs cells slots) (eT : T.heap = h) {ty : FieldType} (hpr : refKind ty = false) {a b : Addr} {vs vd : List Value} (A : Av Z h a ty vs) (D : Av Z h b ty vd) (sp dp nn : Nat) {js jd jn : Int32} {i : Nat}
    (w1 : (Jvm.Cond.methodLink own i Jvm.Stand.acN).before a0 Z = true) (w2 : (Jvm.Cond.native Jvm.Stand.acN).before a0 Z = true) (w3 : (Jvm.Cond.static Jvm.Stand.acN).before a0 Z = true) (w4 : (Jvm.Cond.initialized "java/lang/System").before a0 Z = true)
    (hd : decode bytes pc = .ok (.invokestatic i, 3)) (hp : pc + 3 = pc') (hjs : js = Int32.ofNat sp) (hjd : jd = Int32.ofNat dp) (hjn : jn = Int32.ofNat nn) (h4 : sp + nn ≤ vs.length) (h5 : dp + nn ≤ vd.length) {n0 : Nat} (N : Fr n0 locs) (ge : n0 ≤ b) (hL : L.length = maxL) (hf : 1 ≤ R.frames) (hlo : (st.map fun v => v.category).sum + (nativeFrameWords "java/lang/System" "arraycopy" 5 + 11) ≤ R.locals)
    (k : ∀ T' h' L', Fr n0 L' → Stand p l e R s m args below meth c T' L' cells slots → T'.heap = h' → Keep h h' [b] → Av Z h' b ty (vd.take dp ++ (vs.drop sp).take nn ++ vd.drop (dp + nn)) → Go p e below Q (T'.setTop (fr m pc' L st))) : Go p e below Q (T.setTop (fr m pc L (.int jn :: .int jd :: .ref b :: .int js :: .ref a :: st))) := by
  subst hp hjs hjd hjn
  have l1 : vs.length < 2 ^ 31 := by obtain ⟨_, _, _, q, _⟩ := A; exact q
  have l2 : vd.length < 2 ^ 31 := by obtain ⟨_, _, _, q, _⟩ := D; exact q
  obtain ⟨ka, A'⟩ := A.arv (.int 0)
  obtain ⟨kd, D'⟩ := D.arv (.int 0)
  have e1 : (Int32.ofNat sp).toNatClampNeg = sp := Int32.toNatClampNeg_ofNat_of_lt (by omega)
  have e2 : (Int32.ofNat dp).toNatClampNeg = dp := Int32.toNatClampNeg_ofNat_of_lt (by omega)
  have e3 : (Int32.ofNat nn).toNatClampNeg = nn := Int32.toNatClampNeg_ofNat_of_lt (by omega)
  have e4 : (Int32.ofNat vs.length).toNatClampNeg = vs.length := Int32.toNatClampNeg_ofNat_of_lt l1
  have e5 : (Int32.ofNat vd.length).toNatClampNeg = vd.length := Int32.toNatClampNeg_ofNat_of_lt l2
  obtain ⟨T', h', L', X', e', N', K', V', stp⟩ := RoadKit.cpA X B.hx B.hZ B.cl w1 w2 w3 w4 eT A' D' (us := (vs.drop sp).take nn) (Or.inl ⟨rfl, hpr⟩) (sp := Int32.ofNat sp) (dp := Int32.ofNat dp) (nn := Int32.ofNat nn) (nn_ofNat (by omega)) (nn_ofNat (by omega)) (nn_ofNat (by omega)) (by rw [e1, e3, e4]; exact h4) (by rw [e2, e3, e5]; exact h5) (by rw [e1, e3]; exact (range_cut h4 _).symm) (by rw [e2, e3]; exact h5) N ge (g := fr m pc L (.int (Int32.ofNat nn) :: .int (Int32.ofNat dp) :: .ref b :: .int (Int32.ofNat sp) :: .ref a :: st)) rfl (by rw [B.ml]; exact hL) rfl (hb B.by' hd) hf (W := (st.map fun v => v.category).sum) (by show 2 * 0 + _ ≤ _; omega) hlo
  rw [e2, e3] at V'
  exact Go.of stp (k T' h' L' N' X' e' K' (Av.of_arv V' (by rw [e5]; simp; omega)))
theorem Go.newP (B : Ctx p Z s m meth c own nm bytes maxL ret) (X : Stand p l e R s m args below meth c T locs cells slots) (eT : T.heap = h) {aty : ArrayType} (n : Nat) {j : Int32} (w : (Jvm.Cond.arrayClass (newarray.typeOf aty)).before a0 Z = true) (hd : decode bytes pc = .ok (.newarray aty, 2)) (hp : pc + 2 = pc') (hj : j = Int32.ofNat n) (hn : n ≤ 67108864) (hc : cells + 1 ≤ R.cells) (hl : slots + n ≤ R.slots)
    (k : ∀ T' h' a, a = h.size → Stand p l e R s m args below meth c T' locs (cells + 1) (slots + n) → T'.heap = h' → Ext h h' → Av Z h' a (newarray.typeOf aty) (List.replicate n (defaultValue (newarray.typeOf aty))) → Go p e below Q (T'.setTop (fr m pc' L (.ref a :: st)))) : Go p e below Q (T.setTop (fr m pc L (.int j :: st))) := by
  subst hp hj
  have w2 : (Int32.ofNat n).toNatClampNeg = n := Int32.toNatClampNeg_ofNat_of_lt (by omega)
  have hneg : ¬ Int32.ofNat n < 0 := by
    intro hlt
    rw [Int32.lt_iff_toInt_lt] at hlt
    rw [Int32.toInt_ofNat_of_lt (by omega)] at hlt
    have : (0 : Int32).toInt = 0 := by decide
    omega
  obtain ⟨T', h', cA, X', e', E, A, stp⟩ := RoadKit.newP X B.hx B.hZ w eT (g := fr m pc L (.int (Int32.ofNat n) :: st)) rfl (hb B.by' hd) rfl hneg (cap := n) (by omega) (by omega) hc hl
  refine Go.of stp (k T' h' _ rfl X' e' E ⟨_, A, by simp [newA, w2], by simp; omega, fun v hv => ?_⟩)
  rw [(List.mem_replicate.mp hv).2]
  cases aty <;> decide

theorem Go.caload (B : Ctx p Z s m meth c own nm bytes maxL ret) (X : Stand p l e R s m args below meth c T locs cells slots) (eT : T.heap = h) {a : Addr} {vs : List Value} {j : Int32} {v : Value} (A : Av Z h a .char vs) (i : Nat) (hd : decode bytes pc = .ok (.caload, 1)) (hp : pc + 1 = pc') (hj : j = Int32.ofNat i) (hv : vs[i]? = some v)
    (k : Go p e below Q (T.setTop (fr m pc' L (v :: st)))) : Go p e below Q (T.setTop (fr m pc L (.int j :: .ref a :: st))) := by
  subst hp
  obtain ⟨cl, Ar, r1, r2, r3⟩ := A
  obtain ⟨hi, -⟩ := List.getElem?_eq_some_iff.mp hv
  obtain ⟨q1, q2⟩ := idx_ok hj hi r2
  exact Go.of (fun _ q => X.caload B.hx (cell := cl) (j := j) (v := v) (by rw [eT]; exact Ar.1) (State.isArrayOf_alike B.hZ.alike Ar.2.1) Ar.2.2 (by rw [r1]; exact q1) (by rw [r1, q2]; simpa using hv) (g := fr m pc L (.int j :: .ref a :: st)) rfl rfl (hb B.by' hd) _ q) k
theorem Go.iaload (B : Ctx p Z s m meth c own nm bytes maxL ret) (X : Stand p l e R s m args below meth c T locs cells slots) (eT : T.heap = h) {a : Addr} {vs : List Value} {j : Int32} {v : Value} (A : Av Z h a .int vs) (i : Nat) (hd : decode bytes pc = .ok (.iaload, 1)) (hp : pc + 1 = pc') (hj : j = Int32.ofNat i) (hv : vs[i]? = some v)
    (k : Go p e below Q (T.setTop (fr m pc' L (v :: st)))) : Go p e below Q (T.setTop (fr m pc L (.int j :: .ref a :: st))) := by
  subst hp
  obtain ⟨cl, Ar, r1, r2, r3⟩ := A
  obtain ⟨hi, -⟩ := List.getElem?_eq_some_iff.mp hv
  obtain ⟨q1, q2⟩ := idx_ok hj hi r2
  exact Go.of (fun _ q => X.iaload B.hx (cell := cl) (j := j) (v := v) (by rw [eT]; exact Ar.1) (State.isArrayOf_alike B.hZ.alike Ar.2.1) Ar.2.2 (by rw [r1]; exact q1) (by rw [r1, q2]; simpa using hv) (g := fr m pc L (.int j :: .ref a :: st)) rfl rfl (hb B.by' hd) _ q) k
theorem Go.baload (B : Ctx p Z s m meth c own nm bytes maxL ret) (X : Stand p l e R s m args below meth c T locs cells slots) (eT : T.heap = h) {a : Addr} {vs : List Value} {j : Int32} {v : Value} (A : Av Z h a .byte vs) (i : Nat) (hd : decode bytes pc = .ok (.baload, 1)) (hp : pc + 1 = pc') (hj : j = Int32.ofNat i) (hv : vs[i]? = some v)
    (k : Go p e below Q (T.setTop (fr m pc' L (v :: st)))) : Go p e below Q (T.setTop (fr m pc L (.int j :: .ref a :: st))) := by
  subst hp
  obtain ⟨cl, Ar, r1, r2, r3⟩ := A
  obtain ⟨hi, -⟩ := List.getElem?_eq_some_iff.mp hv
  obtain ⟨q1, q2⟩ := idx_ok hj hi r2
  exact Go.of (fun _ q => X.baloadBytes B.hx (cell := cl) (j := j) (v := v) (by rw [eT]; exact Ar.1) (State.isArrayOf_alike B.hZ.alike Ar.2.1) Ar.2.2 (by rw [r1]; exact q1) (by rw [r1, q2]; simpa using hv) (g := fr m pc L (.int j :: .ref a :: st)) rfl rfl (hb B.by' hd) _ q) k
theorem Go.daload (B : Ctx p Z s m meth c own nm bytes maxL ret) (X : Stand p l e R s m args below meth c T locs cells slots) (eT : T.heap = h) {a : Addr} {vs : List Value} {j : Int32} {v : Value} (A : Av Z h a .double vs) (i : Nat) (hd : decode bytes pc = .ok (.daload, 1)) (hp : pc + 1 = pc') (hj : j = Int32.ofNat i) (hv : vs[i]? = some v)
    (k : Go p e below Q (T.setTop (fr m pc' L (v :: st)))) : Go p e below Q (T.setTop (fr m pc L (.int j :: .ref a :: st))) := by
  subst hp
  obtain ⟨cl, Ar, r1, r2, r3⟩ := A
  obtain ⟨hi, -⟩ := List.getElem?_eq_some_iff.mp hv
  obtain ⟨q1, q2⟩ := idx_ok hj hi r2
  exact Go.of (fun _ q => X.daload B.hx (cell := cl) (j := j) (v := v) (by rw [eT]; exact Ar.1) (State.isArrayOf_alike B.hZ.alike Ar.2.1) Ar.2.2 (by rw [r1]; exact q1) (by rw [r1, q2]; simpa using hv) (g := fr m pc L (.int j :: .ref a :: st)) rfl rfl (hb B.by' hd) _ q) k
theorem Go.laload (B : Ctx p Z s m meth c own nm bytes maxL ret) (X : Stand p l e R s m args below meth c T locs cells slots) (eT : T.heap = h) {a : Addr} {vs : List Value} {j : Int32} {v : Value} (A : Av Z h a .long vs) (i : Nat) (hd : decode bytes pc = .ok (.laload, 1)) (hp : pc + 1 = pc') (hj : j = Int32.ofNat i) (hv : vs[i]? = some v)
    (k : Go p e below Q (T.setTop (fr m pc' L (v :: st)))) : Go p e below Q (T.setTop (fr m pc L (.int j :: .ref a :: st))) := by
  subst hp
  obtain ⟨cl, Ar, r1, r2, r3⟩ := A
  obtain ⟨hi, -⟩ := List.getElem?_eq_some_iff.mp hv
  obtain ⟨q1, q2⟩ := idx_ok hj hi r2
  exact Go.of (fun _ q => X.laload B.hx (cell := cl) (j := j) (v := v) (by rw [eT]; exact Ar.1) (State.isArrayOf_alike B.hZ.alike Ar.2.1) Ar.2.2 (by rw [r1]; exact q1) (by rw [r1, q2]; simpa using hv) (g := fr m pc L (.int j :: .ref a :: st)) rfl rfl (hb B.by' hd) _ q) k
theorem Go.arraylength (B : Ctx p Z s m meth c own nm bytes maxL ret) (X : Stand p l e R s m args below meth c T locs cells slots) (eT : T.heap = h) {a : Addr} {ty : FieldType} {vs : List Value} (A : Av Z h a ty vs) (hd : decode bytes pc = .ok (.arraylength, 1)) (hp : pc + 1 = pc')
    (k : Go p e below Q (T.setTop (fr m pc' L (.int (Int32.ofNat vs.length) :: st)))) : Go p e below Q (T.setTop (fr m pc L (.ref a :: st))) := by
  subst hp
  obtain ⟨cl, Ar, r1, r2, r3⟩ := A
  have q1 : cl.slots.size = vs.length := by rw [r1]; rfl
  refine Go.of (fun _ q => X.arraylength B.hx (cell := cl) (by rw [eT]; exact Ar.1) (State.isArrayOf_alike B.hZ.alike Ar.2.1) (g := fr m pc L (.ref a :: st)) rfl rfl (hb B.by' hd) _ (by rw [q1]; exact q)) k
theorem Go.castore (B : Ctx p Z s m meth c own nm bytes maxL ret) (X : Stand p l e R s m args below meth c T locs cells slots) (eT : T.heap = h) {a : Addr} {vs : List Value} {j : Int32} {x : Int32} (A : Av Z h a .char vs) (i : Nat) (hd : decode bytes pc = .ok (.castore, 1)) (hp : pc + 1 = pc') (hj : j = Int32.ofNat i) (hi : i < vs.length)
    (k : ∀ T' h' L', Fr a L' → Stand p l e R s m args below meth c T' (locs ++ L') cells slots → T'.heap = h' → Wr h h' a i (.int (nar .char x)) → Av Z h' a .char (vs.set i (.int (nar .char x))) → Go p e below Q (T'.setTop (fr m pc' L st))) : Go p e below Q (T.setTop (fr m pc L (.int x :: .int j :: .ref a :: st))) := by
  subst hp
  have A0 := A
  obtain ⟨cl, Ar, r1, r2, r3⟩ := A
  obtain ⟨q1, q2⟩ := idx_ok hj hi r2
  obtain ⟨T', h', X', e', W, stp⟩ := RoadKit.stC X B.hx B.hZ eT Ar (j := j) (x := x) (by rw [r1]; exact q1) (g := fr m pc L (.int x :: .int j :: .ref a :: st)) rfl rfl (hb B.by' hd)
  rw [q2] at W
  exact Go.of stp (k T' h' _ (fun y hy => by cases List.mem_singleton.mp hy; exact Nat.le_refl _) X' e' W (A0.set W (fits_nar_char _)))
theorem Go.bastore (B : Ctx p Z s m meth c own nm bytes maxL ret) (X : Stand p l e R s m args below meth c T locs cells slots) (eT : T.heap = h) {a : Addr} {vs : List Value} {j : Int32} {x : Int32} (A : Av Z h a .byte vs) (i : Nat) (hd : decode bytes pc = .ok (.bastore, 1)) (hp : pc + 1 = pc') (hj : j = Int32.ofNat i) (hi : i < vs.length)
    (k : ∀ T' h' L', Fr a L' → Stand p l e R s m args below meth c T' (locs ++ L') cells slots → T'.heap = h' → Wr h h' a i (.int (nar .byte x)) → Av Z h' a .byte (vs.set i (.int (nar .byte x))) → Go p e below Q (T'.setTop (fr m pc' L st))) : Go p e below Q (T.setTop (fr m pc L (.int x :: .int j :: .ref a :: st))) := by
  subst hp
  have A0 := A
  obtain ⟨cl, Ar, r1, r2, r3⟩ := A
  obtain ⟨q1, q2⟩ := idx_ok hj hi r2
  obtain ⟨T', h', X', e', W, stp⟩ := RoadKit.stB X B.hx B.hZ eT Ar (j := j) (x := x) (by rw [r1]; exact q1) (g := fr m pc L (.int x :: .int j :: .ref a :: st)) rfl rfl (hb B.by' hd)
  rw [q2] at W
  exact Go.of stp (k T' h' _ (fun y hy => by cases List.mem_singleton.mp hy; exact Nat.le_refl _) X' e' W (A0.set W (fits_nar_byte _)))
theorem Go.iastore (B : Ctx p Z s m meth c own nm bytes maxL ret) (X : Stand p l e R s m args below meth c T locs cells slots) (eT : T.heap = h) {a : Addr} {vs : List Value} {j : Int32} {x : Int32} (A : Av Z h a .int vs) (i : Nat) (hd : decode bytes pc = .ok (.iastore, 1)) (hp : pc + 1 = pc') (hj : j = Int32.ofNat i) (hi : i < vs.length)
    (k : ∀ T' h' L', Fr a L' → Stand p l e R s m args below meth c T' (locs ++ L') cells slots → T'.heap = h' → Wr h h' a i (.int x) → Av Z h' a .int (vs.set i (.int x)) → Go p e below Q (T'.setTop (fr m pc' L st))) : Go p e below Q (T.setTop (fr m pc L (.int x :: .int j :: .ref a :: st))) := by
  subst hp
  have A0 := A
  obtain ⟨cl, Ar, r1, r2, r3⟩ := A
  obtain ⟨q1, q2⟩ := idx_ok hj hi r2
  obtain ⟨T', h', X', e', W, stp⟩ := RoadKit.stI X B.hx B.hZ eT Ar (j := j) (x := x) (by rw [r1]; exact q1) (g := fr m pc L (.int x :: .int j :: .ref a :: st)) rfl rfl (hb B.by' hd)
  rw [q2] at W
  exact Go.of stp (k T' h' _ (fun y hy => by cases List.mem_singleton.mp hy; exact Nat.le_refl _) X' e' W (A0.set W (rfl)))
theorem Go.dastore (B : Ctx p Z s m meth c own nm bytes maxL ret) (X : Stand p l e R s m args below meth c T locs cells slots) (eT : T.heap = h) {a : Addr} {vs : List Value} {j : Int32} {x : UInt64} (A : Av Z h a .double vs) (i : Nat) (hd : decode bytes pc = .ok (.dastore, 1)) (hp : pc + 1 = pc') (hj : j = Int32.ofNat i) (hi : i < vs.length)
    (k : ∀ T' h' L', Fr a L' → Stand p l e R s m args below meth c T' (locs ++ L') cells slots → T'.heap = h' → Wr h h' a i (.double x) → Av Z h' a .double (vs.set i (.double x)) → Go p e below Q (T'.setTop (fr m pc' L st))) : Go p e below Q (T.setTop (fr m pc L (.double x :: .int j :: .ref a :: st))) := by
  subst hp
  have A0 := A
  obtain ⟨cl, Ar, r1, r2, r3⟩ := A
  obtain ⟨q1, q2⟩ := idx_ok hj hi r2
  obtain ⟨T', h', X', e', W, stp⟩ := RoadKit.stD X B.hx B.hZ eT Ar (j := j) (x := x) (by rw [r1]; exact q1) (g := fr m pc L (.double x :: .int j :: .ref a :: st)) rfl rfl (hb B.by' hd)
  rw [q2] at W
  exact Go.of stp (k T' h' _ (fun y hy => by cases List.mem_singleton.mp hy; exact Nat.le_refl _) X' e' W (A0.set W (rfl)))
theorem Go.lastore (B : Ctx p Z s m meth c own nm bytes maxL ret) (X : Stand p l e R s m args below meth c T locs cells slots) (eT : T.heap = h) {a : Addr} {vs : List Value} {j : Int32} {x : Int64} (A : Av Z h a .long vs) (i : Nat) (hd : decode bytes pc = .ok (.lastore, 1)) (hp : pc + 1 = pc') (hj : j = Int32.ofNat i) (hi : i < vs.length)
    (k : ∀ T' h' L', Fr a L' → Stand p l e R s m args below meth c T' (locs ++ L') cells slots → T'.heap = h' → Wr h h' a i (.long x) → Av Z h' a .long (vs.set i (.long x)) → Go p e below Q (T'.setTop (fr m pc' L st))) : Go p e below Q (T.setTop (fr m pc L (.long x :: .int j :: .ref a :: st))) := by
  subst hp
  have A0 := A
  obtain ⟨cl, Ar, r1, r2, r3⟩ := A
  obtain ⟨q1, q2⟩ := idx_ok hj hi r2
  obtain ⟨T', h', X', e', W, stp⟩ := RoadKit.stJ X B.hx B.hZ eT Ar (j := j) (x := x) (by rw [r1]; exact q1) (g := fr m pc L (.long x :: .int j :: .ref a :: st)) rfl rfl (hb B.by' hd)
  rw [q2] at W
  exact Go.of stp (k T' h' _ (fun y hy => by cases List.mem_singleton.mp hy; exact Nat.le_refl _) X' e' W (A0.set W (rfl)))
/-! calls -/
abbrev BackQ (l : Launch) (R : Room) (p : Program) (e : Env) (below : List Frame) (s : State) (args : Array Value) (y : MethodName) (W : Nat) (as : List Value) (h : Heap) (kc ks : Nat) (Qc : Option Value → Heap → List Loc → Prop) : Prop :=
  Back l R p e below s args y 3 W (fun A a => a = as.toArray ∧ A.U.heap = h ∧ A.cells + kc ≤ R.cells ∧ A.slots + ks ≤ R.slots) (fun A _ v D => ∃ L, Qc v D.U.heap L ∧ D.locs = A.locs ++ L ∧ D.cells = A.cells + kc ∧ D.slots = A.slots + ks)
/-- a body's contract -/
def Ct (l : Launch) (Z : State) (y : MethodName) (bytes : ByteArray) (maxL : Nat) (ret : Option FieldType) (ws : List Jvm.Cond) (rm : Room) (C S : Nat) (as : List Value) (h0 : Heap) (Qc : Option Value → Heap → List Loc → Prop) : Prop :=
  MetFree l y (head1 (Jvm.Cond.code y bytes maxL ret :: ws) rm) (fun a U => a = as.toArray ∧ Z.Warmed39 U.vm ∧ U.heap = h0) (fun _ _ _ _ _ => True) (fun _ U o U' => ∃ v L, o = .returned v ∧ Qc v U'.heap L ∧ FrameEnd U o U' L C S)
theorem Ct.mk {y : MethodName} {ws : List Jvm.Cond} {rm : Room} {C S : Nat} {as : List Value} {Qc : Option Value → Heap → List Loc → Prop} {L0 : List Slot} (hpn : plainFor y = true) (hL : ∀ m, entryFrame m as.toArray maxL = fr m 0 L0 [])
    (body : ∀ (p : Program) (e : Env) (s : State) (m : MethodId) (below : List Frame) (meth : Method) (c : Code) (s₁ : State), Ctx p Z s m meth c y.cls y.name bytes maxL ret → Stand p l e rm s m as.toArray below meth c s₁ [] 0 0 → s₁.heap = h → Go p e below (End s C S Qc) (s₁.setTop (fr m 0 L0 []))) :
    Ct l Z y bytes maxL ret ws rm C S as h Qc := by
  refine MetFree.of_bodySF hpn hisR ?_
  intro p e s m args below meth c s₁ Bd hml0 hP hK
  obtain ⟨rfl, hZ, hh⟩ := hP
  have G := body p e s m below meth c s₁ ⟨Bd.exec, Bd.bytes, hml0, findClass_of_methodNamed Bd.named, (name_of_methodNamed Bd.named Bd.method).1, hZ, Bd.returns, Bd.notSynchronized⟩ (Stand.of_body Bd) (by rw [← hh, Bd.state]; rfl)
  rw [hL]
  exact G
theorem Ct.back {y : MethodName} {rm : Room} {as : List Value} {Qc : Option Value → Heap → List Loc → Prop} {W : Nat} {bytes' : ByteArray} {maxL' : Nat} {ret' : Option FieldType} (K : Ct l Z y bytes' maxL' ret' [] rm rm.cells rm.slots as h Qc) (hZ : Z.Warmed39 s.vm) (wc : (Jvm.Cond.code y bytes' maxL' ret').before a0 Z = true) (wz : (Jvm.Cond.initialized y.cls).before a0 Z = true) (hf : rm.frames + 1 ≤ R.frames) (hl : W + (maxL' + 11) + rm.locals ≤ R.locals) :
    BackQ l R p e below s args y W as h rm.cells rm.slots Qc := backOf K hZ wc wz hf hl
theorem Go.callS (B : Ctx p Z s m meth c own nm bytes maxL ret) (X : Stand p l e R s m args below meth c T locs cells slots) (eT : T.heap = h) {y : MethodName} {i W kc ks : Nat} {as rest : List Value} {Qc : Option Value → Heap → List Loc → Prop} {bytes' : ByteArray} {maxL' : Nat} {ret' : Option FieldType} {ps : List FieldType} {r : Option FieldType}
    (K : BackQ l R p e below s args y W as h kc ks Qc) (wl : (Jvm.Cond.methodLink own i y).before a0 Z = true) (ws : (Jvm.Cond.static y).before a0 Z = true) (wz : (Jvm.Cond.initialized y.cls).before a0 Z = true) (wc : (Jvm.Cond.code y bytes' maxL' ret').before a0 Z = true) (hy : y.cls ≠ "java/lang/invoke/MethodHandle" ∧ y.cls ≠ "java/lang/invoke/VarHandle")
    (hpd : parseMethodDescriptor y.desc = some ⟨ps, r⟩) (hd : decode bytes pc = .ok (.invokestatic i, 3)) (hp : pc + 3 = pc') (hL : L.length = maxL) (hst : st = as.reverse ++ rest) (hln : as.length = ps.length) (hW : (rest.map fun v => v.category).sum ≤ W) (hc : cells + kc ≤ R.cells) (hs : slots + ks ≤ R.slots)
    (k : ∀ v T' L', Stand p l e R s m args below meth c T' (locs ++ L') (cells + kc) (slots + ks) → Qc v T'.heap L' → Go p e below Q (T'.setTop (fr m pc' L (v.toList ++ rest)))) : Go p e below Q (T.setTop (fr m pc L st)) := by
  subst hp
  obtain ⟨v, _, ⟨T', L1, k1, n1⟩, -, X', ⟨L', hQ, l1, y1, z1⟩, stp⟩ := Jvm.LawKit.callS X B.hx (y := y) B.cl (mvT B.hZ wl) (mvT B.hZ ws) (mvT B.hZ wz) (mvT B.hZ wc) hy K (g := fr m pc L st) rfl (by rw [B.ml]; exact hL) (argsL := as) (rest := rest) (lenOf hpd hln) hst (by show 2 * 0 + _ ≤ _; omega) (hb B.by' hd) (fun _ _ => ⟨rfl, eT, hc, hs⟩)
  dsimp only [Pt.U, Pt.locs, Pt.cells, Pt.slots] at X' l1 y1 z1 stp hQ
  subst l1 y1 z1
  exact Go.of stp (k v T' L' X' hQ)
theorem Go.callI (B : Ctx p Z s m meth c own nm bytes maxL ret) (X : Stand p l e R s m args below meth c T locs cells slots) (eT : T.heap = h) {y : MethodName} {i W kc ks : Nat} {a : Addr} {as rest : List Value} {Qc : Option Value → Heap → List Loc → Prop} {bytes' : ByteArray} {maxL' : Nat} {ps : List FieldType} {r : Option FieldType}
    (hyn : y.name = "<init>") (K : BackQ l R p e below s args y W (.ref a :: as) h kc ks Qc) (wl : (Jvm.Cond.methodLink own i y).before a0 Z = true) (wi : (Jvm.Cond.instanceMethod y).before a0 Z = true) (wc : (Jvm.Cond.code y bytes' maxL' none).before a0 Z = true) (hy : y.cls ≠ "java/lang/invoke/MethodHandle" ∧ y.cls ≠ "java/lang/invoke/VarHandle")
    (hpd : parseMethodDescriptor y.desc = some ⟨ps, r⟩) (hd : decode bytes pc = .ok (.invokespecial i, 3)) (hp : pc + 3 = pc') (hL : L.length = maxL) (hst : st = as.reverse ++ .ref a :: rest) (hln : as.length = ps.length) (hW : (rest.map fun v => v.category).sum ≤ W) (hc : cells + kc ≤ R.cells) (hs : slots + ks ≤ R.slots)
    (k : ∀ v T' L', Stand p l e R s m args below meth c T' (locs ++ L') (cells + kc) (slots + ks) → Qc v T'.heap L' → Go p e below Q (T'.setTop (fr m pc' L (v.toList ++ rest)))) : Go p e below Q (T.setTop (fr m pc L st)) := by
  subst hp
  obtain ⟨v, _, ⟨T', L1, k1, n1⟩, -, X', ⟨L', hQ, l1, y1, z1⟩, stp⟩ := X.specialBack B.hx (y := y) hyn B.cl (mvT B.hZ wl) (mvT B.hZ wi) (mvT B.hZ wc) hy K (g := fr m pc L st) rfl (by rw [B.ml]; exact hL) (Steps.refl _) (a := a) (argsL := as) (rest := rest) (lenOf hpd hln) hst (by show 2 * 0 + _ ≤ _; omega) (hb B.by' hd) (fun _ _ => ⟨rfl, eT, hc, hs⟩)
  dsimp only [Pt.U, Pt.locs, Pt.cells, Pt.slots] at X' l1 y1 z1 stp hQ
  subst l1 y1 z1
  exact Go.come stp (k v T' L' X' hQ)
theorem Go.callV (B : Ctx p Z s m meth c own nm bytes maxL ret) (X : Stand p l e R s m args below meth c T locs cells slots) (eT : T.heap = h) {y z : MethodName} {C : String} {i W kc ks : Nat} {a : Addr} {as rest : List Value} {Qc : Option Value → Heap → List Loc → Prop} {ps : List FieldType} {r : Option FieldType}
    (K : BackQ l R p e below s args z W (.ref a :: as) h kc ks Qc) (E : Exa Z h a C) (wl : (Jvm.Cond.methodLink own i y).before a0 Z = true) (wd : (Jvm.Cond.declares y).before a0 Z = true) (wsel : (Jvm.Cond.selects C y z).before a0 Z = true) (wi : (Jvm.Cond.instanceMethod z).before a0 Z = true) (hy : y.cls ≠ "java/lang/invoke/MethodHandle" ∧ y.cls ≠ "java/lang/invoke/VarHandle") (hnf : NotFace s y)
    (hpd : parseMethodDescriptor y.desc = some ⟨ps, r⟩) (hd : decode bytes pc = .ok (.invokevirtual i, 3)) (hp : pc + 3 = pc') (hL : L.length = maxL) (hst : st = as.reverse ++ .ref a :: rest) (hln : as.length = ps.length) (hW : (rest.map fun v => v.category).sum ≤ W) (hc : cells + kc ≤ R.cells) (hs : slots + ks ≤ R.slots)
    (k : ∀ v T' L', Stand p l e R s m args below meth c T' (locs ++ L') (cells + kc) (slots + ks) → Qc v T'.heap L' → Go p e below Q (T'.setTop (fr m pc' L (v.toList ++ rest)))) : Go p e below Q (T.setTop (fr m pc L st)) := by
  subst hp
  obtain ⟨cq, kq, q1, -, q3⟩ := isOf B.hZ eT E
  obtain ⟨v, _, ⟨T', L1, k1, n1⟩, -, X', ⟨L', hQ, l1, y1, z1⟩, stp⟩ := X.virtualBack B.hx (y := y) (z := z) B.cl (mvT B.hZ wl) (mvT B.hZ wd) hnf (mvT B.hZ wsel) (mvT B.hZ wi) hy K q1 q3 (g := fr m pc L st) rfl (by rw [B.ml]; exact hL) (Steps.refl _) (argsL := as) (rest := rest) (lenOf hpd hln) hst (by show 2 * 0 + _ ≤ _; omega) (hb B.by' hd) (fun _ _ => ⟨rfl, eT, hc, hs⟩)
  dsimp only [Pt.U, Pt.locs, Pt.cells, Pt.slots] at X' l1 y1 z1 stp hQ
  subst l1 y1 z1
  exact Go.come stp (k v T' L' X' hQ)
/-! returns -/
theorem Go.fin (X : Stand p l e R s m args below meth c T locs cells slots) (B : Ctx p Z s m meth c own nm bytes maxL ret) {C S : Nat} {Qc : Option Value → Heap → List Loc → Prop} {v : Option Value} {f : JFrame} (hv : meth.sig.returnType = none → v = none) (hc : cells ≤ C) (hs : slots ≤ S) (q : Qc v T.heap locs)
    (stp : ∀ fs : List Frame, (∀ (f : JFrame) (acts : List Action), f.method = m → f.locked = none → f.entered = [] → (doReturn e (T.setTop f) acts v).1 = T.setFrames fs) → Steps p.tables e below (T.setTop f) (T.setFrames fs)) : Go p e below (End s C S Qc) (T.setTop f) := by
  obtain ⟨fs, hr, hrun, hended, hW, hsame⟩ := X.leave (v := v) hv B.lk
  exact ⟨_, _, stp fs hr, hrun, hended, _, _, rfl, q, ⟨_, rfl⟩, hW, hsame.mono hc hs⟩
theorem Go.iret (B : Ctx p Z s m meth c own nm bytes maxL (some .int)) (X : Stand p l e R s m args below meth c T locs cells slots) {C S : Nat} {Qc : Option Value → Heap → List Loc → Prop} {z : Int32} (hd : decode bytes pc = .ok (.ireturn, 1)) (hc : cells ≤ C) (hs : slots ≤ S) (q : Qc (some (.int z)) T.heap locs) : Go p e below (End s C S Qc) (T.setTop (fr m pc L (.int z :: st))) :=
  Go.fin X B (v := some (.int z)) (fun h => by rw [B.re] at h; cases h) hc hs q (fun fs hr => RoadKit.retOut X B.hx B.re rfl (Or.inl ⟨rfl, Or.inl rfl, z, rfl⟩) (hb B.by' hd) hr)
theorem Go.zret (B : Ctx p Z s m meth c own nm bytes maxL (some .boolean)) (X : Stand p l e R s m args below meth c T locs cells slots) {C S : Nat} {Qc : Option Value → Heap → List Loc → Prop} {z : Int32} (hd : decode bytes pc = .ok (.ireturn, 1)) (hz : narrow .boolean (.int z) = .int z) (hc : cells ≤ C) (hs : slots ≤ S) (q : Qc (some (.int z)) T.heap locs) : Go p e below (End s C S Qc) (T.setTop (fr m pc L (.int z :: st))) :=
  Go.fin X B (v := some (.int z)) (fun h => by rw [B.re] at h; cases h) hc hs q (fun fs hr => RoadKit.retOut X B.hx B.re hz (Or.inl ⟨rfl, Or.inr (Or.inl rfl), z, rfl⟩) (hb B.by' hd) hr)
theorem Go.cret (B : Ctx p Z s m meth c own nm bytes maxL (some .char)) (X : Stand p l e R s m args below meth c T locs cells slots) {C S : Nat} {Qc : Option Value → Heap → List Loc → Prop} {z : Int32} (hd : decode bytes pc = .ok (.ireturn, 1)) (hz : narrow .char (.int z) = .int z) (hc : cells ≤ C) (hs : slots ≤ S) (q : Qc (some (.int z)) T.heap locs) : Go p e below (End s C S Qc) (T.setTop (fr m pc L (.int z :: st))) :=
  Go.fin X B (v := some (.int z)) (fun h => by rw [B.re] at h; cases h) hc hs q (fun fs hr => RoadKit.retOut X B.hx B.re hz (Or.inl ⟨rfl, Or.inr (Or.inr (Or.inr (Or.inl rfl))), z, rfl⟩) (hb B.by' hd) hr)
theorem Go.bret (B : Ctx p Z s m meth c own nm bytes maxL (some .byte)) (X : Stand p l e R s m args below meth c T locs cells slots) {C S : Nat} {Qc : Option Value → Heap → List Loc → Prop} {z : Int32} (hd : decode bytes pc = .ok (.ireturn, 1)) (hz : narrow .byte (.int z) = .int z) (hc : cells ≤ C) (hs : slots ≤ S) (q : Qc (some (.int z)) T.heap locs) : Go p e below (End s C S Qc) (T.setTop (fr m pc L (.int z :: st))) :=
  Go.fin X B (v := some (.int z)) (fun h => by rw [B.re] at h; cases h) hc hs q (fun fs hr => RoadKit.retOut X B.hx B.re hz (Or.inl ⟨rfl, Or.inr (Or.inr (Or.inl rfl)), z, rfl⟩) (hb B.by' hd) hr)
theorem Go.lret (B : Ctx p Z s m meth c own nm bytes maxL (some .long)) (X : Stand p l e R s m args below meth c T locs cells slots) {C S : Nat} {Qc : Option Value → Heap → List Loc → Prop} {z : Int64} (hd : decode bytes pc = .ok (.lreturn, 1)) (hc : cells ≤ C) (hs : slots ≤ S) (q : Qc (some (.long z)) T.heap locs) : Go p e below (End s C S Qc) (T.setTop (fr m pc L (.long z :: st))) :=
  Go.fin X B (v := some (.long z)) (fun h => by rw [B.re] at h; cases h) hc hs q (fun fs hr => RoadKit.retOut X B.hx B.re rfl (Or.inr (Or.inl ⟨rfl, rfl, z, rfl⟩)) (hb B.by' hd) hr)
theorem Go.dret (B : Ctx p Z s m meth c own nm bytes maxL (some .double)) (X : Stand p l e R s m args below meth c T locs cells slots) {C S : Nat} {Qc : Option Value → Heap → List Loc → Prop} {z : UInt64} (hd : decode bytes pc = .ok (.dreturn, 1)) (hc : cells ≤ C) (hs : slots ≤ S) (q : Qc (some (.double z)) T.heap locs) : Go p e below (End s C S Qc) (T.setTop (fr m pc L (.double z :: st))) :=
  Go.fin X B (v := some (.double z)) (fun h => by rw [B.re] at h; cases h) hc hs q (fun fs hr => RoadKit.retOut X B.hx B.re rfl (Or.inr (Or.inr (Or.inl ⟨rfl, rfl, z, rfl⟩))) (hb B.by' hd) hr)
theorem Go.aret {t : FieldType} (B : Ctx p Z s m meth c own nm bytes maxL (some t)) (X : Stand p l e R s m args below meth c T locs cells slots) {C S : Nat} {Qc : Option Value → Heap → List Loc → Prop} {w : Value} (hd : decode bytes pc = .ok (.areturn, 1)) (ht : t.isReference = true) (hw : w.isRef = true) (hn : narrow t w = w) (hc : cells ≤ C) (hs : slots ≤ S) (q : Qc (some w) T.heap locs) : Go p e below (End s C S Qc) (T.setTop (fr m pc L (w :: st))) :=
  Go.fin X B (v := some w) (fun h => by rw [B.re] at h; cases h) hc hs q (fun fs hr => RoadKit.retOut X B.hx B.re hn (Or.inr (Or.inr (Or.inr (Or.inr ⟨rfl, ht, hw⟩)))) (hb B.by' hd) hr)
theorem Go.vret (B : Ctx p Z s m meth c own nm bytes maxL none) (X : Stand p l e R s m args below meth c T locs cells slots) {C S : Nat} {Qc : Option Value → Heap → List Loc → Prop} (hd : decode bytes pc = .ok (.return_, 1)) (hc : cells ≤ C) (hs : slots ≤ S) (q : Qc none T.heap locs) : Go p e below (End s C S Qc) (T.setTop (fr m pc L [])) :=
  Go.fin X B (v := none) (fun _ => rfl) hc hs q (fun fs hr => X.returnOut B.hx B.re (hb B.by' hd) hr)

end
section
open Jvm.Free.SB Jvm.Free.SBG
variable {p : Program} {l : Launch} {e : Env} {R : Room} {s : State} {m : MethodId} {args : Array Value} {below : List Frame} {meth : Method} {c : Code} {T : State} {locs : List Loc} {cells slots : Nat}
  {Z : State} {own nm : String} {bytes : ByteArray} {maxL : Nat} {ret : Option FieldType} {Q : Outcome → State → Prop} {pc pc' pcT : Nat} {L : List Slot} {st : List Value} {a0 : Array Value} {h h' : Heap} {vm0 : Vm} {EL : List (String × Nat)}
/-- what a walk that may intern knows of its past -/
def Wx (Z : State) (a0 : Array Value) (EL : List (String × Nat)) (s : State) (vm0 : Vm) (h : Heap) : Prop :=
  EW Z a0 EL ∧ (∀ d ∈ Bundle.stringAtoms, d.before a0 Z = true) ∧ (∃ k0, s.Since vm0 k0 ∧ k0 ≤ h.size) ∧ CHr Z EL s.vm s.heap vm0 h
theorem Wx.chv (V : Wx Z a0 EL s vm0 h) : CHv Z EL vm0 h := V.2.2.2.1
theorem Wx.step (V : Wx Z a0 EL s vm0 h) (g : h.size ≤ h'.size) (r : CHr Z EL vm0 h vm0 h') : Wx Z a0 EL s vm0 h' := by
  obtain ⟨v1, v2, ⟨k0, v3, v4⟩, v5⟩ := V
  exact ⟨v1, v2, ⟨k0, v3, Nat.le_trans v4 g⟩, v5.trans r⟩
theorem Wx.ext (V : Wx Z a0 EL s vm0 h) (E : Ext h h') : Wx Z a0 EL s vm0 h' := V.step E.1 (CHr.ext E V.chv)
theorem Wx.wr {a : Addr} {sl : Nat} {v : Value} (V : Wx Z a0 EL s vm0 h) (W : Wr h h' a sl v) (S : Safe Z EL vm0 h a) : Wx Z a0 EL s vm0 h' := V.step (Nat.le_of_eq W.size.symm) (CHr.wr W S V.chv)
theorem Wx.keep {ws : List Addr} (V : Wx Z a0 EL s vm0 h) (K : Keep h h' ws) (hs : ∀ x ∈ ws, Safe Z EL vm0 h x) : Wx Z a0 EL s vm0 h' := V.step K.1 (CHr.keep K hs V.chv)
theorem Wx.first (E : EW Z a0 EL) (wS : ∀ d ∈ Bundle.stringAtoms, d.before a0 Z = true) (eh : s.heap = h) (H : CHv Z EL s.vm h) : Wx Z a0 EL s s.vm h :=
  ⟨E, wS, ⟨h.size, (State.WarmedH.refl s).since _, Nat.le_refl _⟩, by rw [eh]; exact CHr.refl H⟩
theorem Ctx.again {vm1 : Vm} {n : Nat} (B : Ctx p Z (s.setVm vm0) m meth c own nm bytes maxL ret) (hS : (s.setVm vm0).Since vm1 n) : Ctx p Z (s.setVm vm1) m meth c own nm bytes maxL ret :=
  ⟨B.1, B.2.1, B.2.2.1, by show vm1.findClass own = _; rw [hS.1.alike.findClass]; exact B.cl, B.na, State.Warmed39.trans (t := s.setVm vm0) B.hZ hS.1, B.re, B.lk⟩
/-- the end of a walk that may intern -/
def EndW (s : State) (C S : Nat) (Z : State) (EL : List (String × Nat)) (Q : Option Value → Heap → List Loc → Prop) (o : Outcome) (U' : State) : Prop := ∃ v L, o = .returned v ∧ Q v U'.heap L ∧ CHr Z EL s.vm s.heap U'.vm U'.heap ∧ ReturnedEndW s o U' L C S
def CtW (l : Launch) (Z : State) (EL : List (String × Nat)) (y : MethodName) (bytes : ByteArray) (maxL : Nat) (ret : Option FieldType) (ws : List Jvm.Cond) (rm : Room) (C S : Nat) (as : List Value) (h0 : Heap) (Qc : Option Value → Heap → List Loc → Prop) : Prop :=
  MetFree l y (head1 (Jvm.Cond.code y bytes maxL ret :: ws) rm) (fun a U => a = as.toArray ∧ Z.Warmed39 U.vm ∧ U.heap = h0 ∧ CHv Z EL U.vm h0) (fun _ _ _ _ _ => True) (fun _ U o U' => ∃ v L, o = .returned v ∧ Qc v U'.heap L ∧ CHr Z EL U.vm U.heap U'.vm U'.heap ∧ ReturnedEndW U o U' L C S)
theorem CtW.mk {y : MethodName} {ws : List Jvm.Cond} {rm : Room} {C S : Nat} {as : List Value} {Qc : Option Value → Heap → List Loc → Prop} {L0 : List Slot} (hEL : EW Z a0 EL) (wS : ∀ d ∈ Bundle.stringAtoms, d.before a0 Z = true) (hpn : plainFor y = true) (hL : ∀ m, entryFrame m as.toArray maxL = fr m 0 L0 [])
    (body : ∀ (p : Program) (e : Env) (s : State) (m : MethodId) (below : List Frame) (meth : Method) (c : Code) (s₁ : State), Ctx p Z (s.setVm s.vm) m meth c y.cls y.name bytes maxL ret → Stand p l e rm (s.setVm s.vm) m as.toArray below meth c s₁ [] 0 0 → s₁.heap = h → Wx Z a0 EL s s.vm h → Go p e below (EndW s C S Z EL Qc) (s₁.setTop (fr m 0 L0 []))) :
    CtW l Z EL y bytes maxL ret ws rm C S as h Qc := by
  refine MetFree.of_bodySF hpn hisR ?_
  intro p e s m args below meth c s₁ Bd hml0 hP hK
  obtain ⟨rfl, hZ, hh, hC⟩ := hP
  have G := body p e s m below meth c s₁ ⟨Bd.exec, Bd.bytes, hml0, findClass_of_methodNamed Bd.named, (name_of_methodNamed Bd.named Bd.method).1, hZ, Bd.returns, Bd.notSynchronized⟩ (Stand.of_body Bd) (by rw [← hh, Bd.state]; rfl) (Wx.first hEL wS hh hC)
  rw [hL]
  exact G
theorem Go.finW (X : Stand p l e R (s.setVm vm0) m args below meth c T locs cells slots) (B : Ctx p Z (s.setVm vm0) m meth c own nm bytes maxL ret) (eT : T.heap = h) (V : Wx Z a0 EL s vm0 h) {C S : Nat} {Qc : Option Value → Heap → List Loc → Prop} {v : Option Value} {f : JFrame} (hv : meth.sig.returnType = none → v = none) (hc : cells ≤ C) (hs : slots ≤ S) (q : Qc v T.heap locs)
    (stp : ∀ fs : List Frame, (∀ (f : JFrame) (acts : List Action), f.method = m → f.locked = none → f.entered = [] → (doReturn e (T.setTop f) acts v).1 = T.setFrames fs) → Steps p.tables e below (T.setTop f) (T.setFrames fs)) : Go p e below (EndW s C S Z EL Qc) (T.setTop f) := by
  obtain ⟨v1, v2, ⟨k0, v3, v4⟩, v5⟩ := V
  obtain ⟨fs, hr, hrun, hended, r1, r2, r3, r4⟩ := X.leaveW v3 (by rw [eT]; exact v4) (v := v) hv B.lk
  refine ⟨_, _, stp fs hr, hrun, hended, v, locs, rfl, q, ?_, r1, r2, r3, r4.mono hc hs⟩
  have A := CHv.at X B.hZ v1 v5.1
  show CHr Z EL s.vm s.heap T.vm T.heap
  rw [eT]
  exact v5.trans A
theorem Go.ldcS (B : Ctx p Z (s.setVm vm0) m meth c own nm bytes maxL ret) (X : Stand p l e R (s.setVm vm0) m args below meth c T locs cells slots) (eT : T.heap = h) (V : Wx Z a0 EL s vm0 h) {text : String} {i : Nat} (n : Nat) {vs : List Value} (w : (Jvm.Cond.stringLink own i text).before a0 Z = true) (hmem : (own, i) ∈ EL)
    (ht : (∀ c ∈ text.toList, c.toNat < 256) ∧ text.toList.map (fun c => Value.int (Jvm.Lit.byteI c.toNat.toUInt16)) = vs) (hlen : vs.length < 2 ^ 31) (hd : decode bytes pc = .ok (.ldc i, 2)) (hp : pc + 2 = pc') (hn : 4 * text.toList.length ≤ n) (hbig : n ≤ 536870912) (hc : cells + 2 ≤ R.cells) (hl : slots + (n + 4) ≤ R.slots)
    (k : ∀ a T' h' b, Ctx p Z (s.setVm T'.vm) m meth c own nm bytes maxL ret → Stand p l e R (s.setVm T'.vm) m args below meth c T' locs (cells + 2) (slots + (n + 4)) → T'.heap = h' → Ext h h' → Wx Z a0 EL s T'.vm h' → Exa Z h' a "java/lang/String" → Fld Z h' a "java/lang/String" "coder" "B" (.int 0) → Fld Z h' a "java/lang/String" "value" "[B" (.ref b) → Av Z h' b .byte vs →
      (∀ x, x < h.size → Safe Z EL vm0 h x → Safe Z EL T'.vm h' x) → (∀ x, Safe Z EL T'.vm h' x → x ≠ a ∧ x ≠ b) → Go p e below Q (T'.setTop (fr m pc' L (.ref a :: st)))) : Go p e below Q (T.setTop (fr m pc L st)) := by
  subst hp
  obtain ⟨v1, v2, ⟨k0, v3, v4⟩, v5⟩ := V
  have hneg : ¬ Int32.ofNat vs.length < 0 := by
    intro hlt
    rw [Int32.lt_iff_toInt_lt] at hlt
    rw [Int32.toInt_ofNat_of_lt hlen] at hlt
    have : (0 : Int32).toInt = 0 := by decide
    omega
  obtain ⟨a, T', h', k1, b, kk, X', e', E, hS, hk1, hZ', hown', E1, F1, F2, A1, -, -, hC, -, hne, stp⟩ := ldcCH X B.hx B.hZ B.cl w v2 eT v3 v4 v1 hmem v5.1 ht hneg (Int32.toNatClampNeg_ofNat_of_lt hlen) (g := fr m pc L st) rfl (hb B.by' hd) hn hbig hc hl
  refine Go.of stp (k a T' h' b ⟨B.1, B.2.1, B.2.2.1, hown', B.na, hZ', B.re, B.lk⟩ X' e' E ⟨v1, v2, ⟨k1, hS, hk1⟩, v5.trans hC⟩ E1 F1 F2 (Av.of_arv A1 (Int32.toNatClampNeg_ofNat_of_lt hlen)) (fun x hx S => hC.safe hx S) hne)
theorem safe_null {x : Addr} (hal : Z.vm.Alike vm0) (E : Exa Z h x "java/lang/String") (V : Fld Z h x "java/lang/String" "value" "[B" .null) : Safe Z EL vm0 h x := fun K => by
  obtain ⟨p, -, u, a, -, q, -, F, rfl | rfl⟩ := K
  · obtain ⟨cell, cf, k, i, f, v1, v2, v3, v4, v5, v6, v7⟩ := V
    cases (show h[q.sa]? = some q.sC from F.ha).symm.trans v1
    obtain ⟨cS, ⟨⟨-, -, -, ⟨cv, kv, iv, s4, -⟩, -, -, -, s8, -⟩, -⟩, -⟩ := F
    obtain ⟨k', e1, -⟩ := State.fieldFound?_setVm (s := Z) hal v2
    have e2 := (show (Wst Z vm0 h).fieldFound? "java/lang/String" "value" "[B" = some (cf, k', i, f) from e1).symm.trans s4
    simp only [Option.some.injEq, Prod.mk.injEq] at e2
    rw [← e2.2.2.2, v7] at s8
    cases s8
  · obtain ⟨cell, k, e1, e2, -⟩ := E
    cases (show h[q.sd]? = some q.SA from F.hd).symm.trans e1
    obtain ⟨cS, -, -, f, -⟩ := F
    have f' : vm0.findClass "[B" = some q.SA.cls := f
    rw [hal.findClass] at f'
    obtain ⟨k1, q1, q2⟩ := Vm.findClass_spec f'
    obtain ⟨k2, q3, q4⟩ := Vm.findClass_spec e2
    cases q1.symm.trans q3
    exact absurd (q2.symm.trans q4) (by decide)
abbrev BackQW (l : Launch) (R : Room) (p : Program) (e : Env) (below : List Frame) (s : State) (vm0 : Vm) (args : Array Value) (y : MethodName) (W : Nat) (as : List Value) (h : Heap) (kc ks : Nat) (Z : State) (EL : List (String × Nat)) (Qc : Option Value → Heap → List Loc → Prop) : Prop :=
  BackS l R p e below (s.setVm vm0) args y 3 W (fun A a => a = as.toArray ∧ A.U.heap = h ∧ A.cells + kc ≤ R.cells ∧ A.slots + ks ≤ R.slots) (fun A _ v D => ∃ L, Qc v D.U.heap L ∧ D.locs = A.locs ++ L ∧ D.cells = A.cells + kc ∧ D.slots = A.slots + ks ∧ CHr Z EL vm0 h D.U.vm D.U.heap)
theorem CtW.back {y : MethodName} {rm : Room} {as : List Value} {Qc : Option Value → Heap → List Loc → Prop} {W : Nat} {bytes' : ByteArray} {maxL' : Nat} {ret' : Option FieldType} (K : CtW l Z EL y bytes' maxL' ret' [] rm rm.cells rm.slots as h Qc) (hZ : Z.Warmed39 vm0) (wc : (Jvm.Cond.code y bytes' maxL' ret').before a0 Z = true) (wz : (Jvm.Cond.initialized y.cls).before a0 Z = true) (hf : rm.frames + 1 ≤ R.frames) (hl : W + (maxL' + 11) + rm.locals ≤ R.locals) (V : Wx Z a0 EL s vm0 h) :
    BackQW l R p e below s vm0 args y W as h rm.cells rm.slots Z EL Qc := backOfSH K hZ wc wz hf hl V.1 V.chv
theorem Wx.over {T' : State} (V : Wx Z a0 EL s vm0 h) (eT : T.heap = h) (hS : (s.setVm vm0).Since T'.vm T'.heap.size) (g : T.heap.size ≤ T'.heap.size) (r : CHr Z EL vm0 h T'.vm T'.heap) : Wx Z a0 EL s T'.vm T'.heap := by
  obtain ⟨v1, v2, ⟨k0, v3, v4⟩, v5⟩ := V
  exact ⟨v1, v2, ⟨_, v3.trans hS (Nat.le_trans v4 (by rw [← eT]; exact g)), Nat.le_refl _⟩, v5.trans r⟩
theorem Go.callSW (B : Ctx p Z (s.setVm vm0) m meth c own nm bytes maxL ret) (X : Stand p l e R (s.setVm vm0) m args below meth c T locs cells slots) (eT : T.heap = h) (V : Wx Z a0 EL s vm0 h) {y : MethodName} {i W kc ks : Nat} {as rest : List Value} {Qc : Option Value → Heap → List Loc → Prop} {bytes' : ByteArray} {maxL' : Nat} {ret' : Option FieldType} {ps : List FieldType} {r : Option FieldType}
    (K : BackQW l R p e below s vm0 args y W as h kc ks Z EL Qc) (wl : (Jvm.Cond.methodLink own i y).before a0 Z = true) (ws : (Jvm.Cond.static y).before a0 Z = true) (wz : (Jvm.Cond.initialized y.cls).before a0 Z = true) (wc : (Jvm.Cond.code y bytes' maxL' ret').before a0 Z = true) (hy : y.cls ≠ "java/lang/invoke/MethodHandle" ∧ y.cls ≠ "java/lang/invoke/VarHandle")
    (hpd : parseMethodDescriptor y.desc = some ⟨ps, r⟩) (hd : decode bytes pc = .ok (.invokestatic i, 3)) (hp : pc + 3 = pc') (hL : L.length = maxL) (hst : st = as.reverse ++ rest) (hln : as.length = ps.length) (hW : (rest.map fun v => v.category).sum ≤ W) (hc : cells + kc ≤ R.cells) (hs : slots + ks ≤ R.slots)
    (k : ∀ v T' L', Ctx p Z (s.setVm T'.vm) m meth c own nm bytes maxL ret → Stand p l e R (s.setVm T'.vm) m args below meth c T' (locs ++ L') (cells + kc) (slots + ks) → Qc v T'.heap L' → Wx Z a0 EL s T'.vm T'.heap → (∀ x, x < h.size → Safe Z EL vm0 h x → Safe Z EL T'.vm T'.heap x) → Go p e below Q (T'.setTop (fr m pc' L (v.toList ++ rest)))) : Go p e below Q (T.setTop (fr m pc L st)) := by
  subst hp
  obtain ⟨v, _, ⟨T', L1, k1, n1⟩, -, X', hS, hg, ⟨L', hQ, l1, y1, z1, hC⟩, stp⟩ := RoadKit.callSS X B.hx (y := y) B.cl (mvT B.hZ wl) (mvT B.hZ ws) (mvT B.hZ wz) (mvT B.hZ wc) hy K (g := fr m pc L st) rfl (by rw [B.ml]; exact hL) (argsL := as) (rest := rest) (lenOf hpd hln) hst (by show 2 * 0 + _ ≤ _; omega) (hb B.by' hd) (fun _ _ => ⟨rfl, eT, hc, hs⟩)
  dsimp only [Pt.U, Pt.locs, Pt.cells, Pt.slots] at X' l1 y1 z1 stp hQ hS hg hC
  subst l1 y1 z1
  exact Go.come stp (k v T' L' (B.again hS) X' hQ (V.over eT hS hg hC) (fun x hx S => hC.safe hx S))
theorem Go.callIW (B : Ctx p Z (s.setVm vm0) m meth c own nm bytes maxL ret) (X : Stand p l e R (s.setVm vm0) m args below meth c T locs cells slots) (eT : T.heap = h) (V : Wx Z a0 EL s vm0 h) {y : MethodName} {i W kc ks : Nat} {a : Addr} {as rest : List Value} {Qc : Option Value → Heap → List Loc → Prop} {bytes' : ByteArray} {maxL' : Nat} {ps : List FieldType} {r : Option FieldType}
    (hyn : y.name = "<init>") (K : BackQW l R p e below s vm0 args y W (.ref a :: as) h kc ks Z EL Qc) (wl : (Jvm.Cond.methodLink own i y).before a0 Z = true) (wi : (Jvm.Cond.instanceMethod y).before a0 Z = true) (wc : (Jvm.Cond.code y bytes' maxL' none).before a0 Z = true) (hy : y.cls ≠ "java/lang/invoke/MethodHandle" ∧ y.cls ≠ "java/lang/invoke/VarHandle")
    (hpd : parseMethodDescriptor y.desc = some ⟨ps, r⟩) (hd : decode bytes pc = .ok (.invokespecial i, 3)) (hp : pc + 3 = pc') (hL : L.length = maxL) (hst : st = as.reverse ++ .ref a :: rest) (hln : as.length = ps.length) (hW : (rest.map fun v => v.category).sum ≤ W) (hc : cells + kc ≤ R.cells) (hs : slots + ks ≤ R.slots)
    (k : ∀ v T' L', Ctx p Z (s.setVm T'.vm) m meth c own nm bytes maxL ret → Stand p l e R (s.setVm T'.vm) m args below meth c T' (locs ++ L') (cells + kc) (slots + ks) → Qc v T'.heap L' → Wx Z a0 EL s T'.vm T'.heap → (∀ x, x < h.size → Safe Z EL vm0 h x → Safe Z EL T'.vm T'.heap x) → Go p e below Q (T'.setTop (fr m pc' L (v.toList ++ rest)))) : Go p e below Q (T.setTop (fr m pc L st)) := by
  subst hp
  obtain ⟨v, _, ⟨T', L1, k1, n1⟩, -, X', hS, hg, ⟨L', hQ, l1, y1, z1, hC⟩, stp⟩ := X.specialBackS B.hx (y := y) hyn B.cl (mvT B.hZ wl) (mvT B.hZ wi) (mvT B.hZ wc) hy K (g := fr m pc L st) rfl (by rw [B.ml]; exact hL) (Steps.refl _) (a := a) (argsL := as) (rest := rest) (lenOf hpd hln) hst (by show 2 * 0 + _ ≤ _; omega) (hb B.by' hd) (fun _ _ => ⟨rfl, eT, hc, hs⟩)
  dsimp only [Pt.U, Pt.locs, Pt.cells, Pt.slots] at X' l1 y1 z1 stp hQ hS hg hC
  subst l1 y1 z1
  exact Go.come stp (k v T' L' (B.again hS) X' hQ (V.over eT hS hg hC) (fun x hx S => hC.safe hx S))
theorem Go.callVW (B : Ctx p Z (s.setVm vm0) m meth c own nm bytes maxL ret) (X : Stand p l e R (s.setVm vm0) m args below meth c T locs cells slots) (eT : T.heap = h) (V : Wx Z a0 EL s vm0 h) {y z : MethodName} {C : String} {i W kc ks : Nat} {a : Addr} {as rest : List Value} {Qc : Option Value → Heap → List Loc → Prop} {ps : List FieldType} {r : Option FieldType}
    (K : BackQW l R p e below s vm0 args z W (.ref a :: as) h kc ks Z EL Qc) (E : Exa Z h a C) (wl : (Jvm.Cond.methodLink own i y).before a0 Z = true) (wd : (Jvm.Cond.declares y).before a0 Z = true) (wsel : (Jvm.Cond.selects C y z).before a0 Z = true) (wi : (Jvm.Cond.instanceMethod z).before a0 Z = true) (hy : y.cls ≠ "java/lang/invoke/MethodHandle" ∧ y.cls ≠ "java/lang/invoke/VarHandle") (hnf : NotFace (s.setVm vm0) y)
    (hpd : parseMethodDescriptor y.desc = some ⟨ps, r⟩) (hd : decode bytes pc = .ok (.invokevirtual i, 3)) (hp : pc + 3 = pc') (hL : L.length = maxL) (hst : st = as.reverse ++ .ref a :: rest) (hln : as.length = ps.length) (hW : (rest.map fun v => v.category).sum ≤ W) (hc : cells + kc ≤ R.cells) (hs : slots + ks ≤ R.slots)
    (k : ∀ v T' L', Ctx p Z (s.setVm T'.vm) m meth c own nm bytes maxL ret → Stand p l e R (s.setVm T'.vm) m args below meth c T' (locs ++ L') (cells + kc) (slots + ks) → Qc v T'.heap L' → Wx Z a0 EL s T'.vm T'.heap → (∀ x, x < h.size → Safe Z EL vm0 h x → Safe Z EL T'.vm T'.heap x) → Go p e below Q (T'.setTop (fr m pc' L (v.toList ++ rest)))) : Go p e below Q (T.setTop (fr m pc L st)) := by
  subst hp
  obtain ⟨cq, kq, q1, -, q3⟩ := isOf B.hZ eT E
  obtain ⟨v, _, ⟨T', L1, k1, n1⟩, -, X', hS, hg, ⟨L', hQ, l1, y1, z1, hC⟩, stp⟩ := X.virtualBackS B.hx (y := y) (z := z) B.cl (mvT B.hZ wl) (mvT B.hZ wd) hnf (mvT B.hZ wsel) (mvT B.hZ wi) hy K q1 q3 (g := fr m pc L st) rfl (by rw [B.ml]; exact hL) (Steps.refl _) (argsL := as) (rest := rest) (lenOf hpd hln) hst (by show 2 * 0 + _ ≤ _; omega) (hb B.by' hd) (fun _ _ => ⟨rfl, eT, hc, hs⟩)
  dsimp only [Pt.U, Pt.locs, Pt.cells, Pt.slots] at X' l1 y1 z1 stp hQ hS hg hC
  subst l1 y1 z1
  exact Go.come stp (k v T' L' (B.again hS) X' hQ (V.over eT hS hg hC) (fun x hx S => hC.safe hx S))
theorem Go.iretW (B : Ctx p Z (s.setVm vm0) m meth c own nm bytes maxL (some .int)) (X : Stand p l e R (s.setVm vm0) m args below meth c T locs cells slots) (eT : T.heap = h) (V : Wx Z a0 EL s vm0 h) {C S : Nat} {Qc : Option Value → Heap → List Loc → Prop} {z : Int32} (hd : decode bytes pc = .ok (.ireturn, 1)) (hc : cells ≤ C) (hs : slots ≤ S) (q : Qc (some (.int z)) T.heap locs) : Go p e below (EndW s C S Z EL Qc) (T.setTop (fr m pc L (.int z :: st))) :=
  Go.finW X B eT V (v := some (.int z)) (fun h => by rw [B.re] at h; cases h) hc hs q (fun fs hr => RoadKit.retOut X B.hx B.re rfl (Or.inl ⟨rfl, Or.inl rfl, z, rfl⟩) (hb B.by' hd) hr)
theorem Go.zretW (B : Ctx p Z (s.setVm vm0) m meth c own nm bytes maxL (some .boolean)) (X : Stand p l e R (s.setVm vm0) m args below meth c T locs cells slots) (eT : T.heap = h) (V : Wx Z a0 EL s vm0 h) {C S : Nat} {Qc : Option Value → Heap → List Loc → Prop} {z : Int32} (hd : decode bytes pc = .ok (.ireturn, 1)) (hz : narrow .boolean (.int z) = .int z) (hc : cells ≤ C) (hs : slots ≤ S) (q : Qc (some (.int z)) T.heap locs) : Go p e below (EndW s C S Z EL Qc) (T.setTop (fr m pc L (.int z :: st))) :=
  Go.finW X B eT V (v := some (.int z)) (fun h => by rw [B.re] at h; cases h) hc hs q (fun fs hr => RoadKit.retOut X B.hx B.re hz (Or.inl ⟨rfl, Or.inr (Or.inl rfl), z, rfl⟩) (hb B.by' hd) hr)
theorem Go.cretW (B : Ctx p Z (s.setVm vm0) m meth c own nm bytes maxL (some .char)) (X : Stand p l e R (s.setVm vm0) m args below meth c T locs cells slots) (eT : T.heap = h) (V : Wx Z a0 EL s vm0 h) {C S : Nat} {Qc : Option Value → Heap → List Loc → Prop} {z : Int32} (hd : decode bytes pc = .ok (.ireturn, 1)) (hz : narrow .char (.int z) = .int z) (hc : cells ≤ C) (hs : slots ≤ S) (q : Qc (some (.int z)) T.heap locs) : Go p e below (EndW s C S Z EL Qc) (T.setTop (fr m pc L (.int z :: st))) :=
  Go.finW X B eT V (v := some (.int z)) (fun h => by rw [B.re] at h; cases h) hc hs q (fun fs hr => RoadKit.retOut X B.hx B.re hz (Or.inl ⟨rfl, Or.inr (Or.inr (Or.inr (Or.inl rfl))), z, rfl⟩) (hb B.by' hd) hr)
theorem Go.aretW {t : FieldType} (B : Ctx p Z (s.setVm vm0) m meth c own nm bytes maxL (some t)) (X : Stand p l e R (s.setVm vm0) m args below meth c T locs cells slots) (eT : T.heap = h) (V : Wx Z a0 EL s vm0 h) {C S : Nat} {Qc : Option Value → Heap → List Loc → Prop} {w : Value} (hd : decode bytes pc = .ok (.areturn, 1)) (ht : t.isReference = true) (hw : w.isRef = true) (hn : narrow t w = w) (hc : cells ≤ C) (hs : slots ≤ S) (q : Qc (some w) T.heap locs) : Go p e below (EndW s C S Z EL Qc) (T.setTop (fr m pc L (w :: st))) :=
  Go.finW X B eT V (v := some w) (fun h => by rw [B.re] at h; cases h) hc hs q (fun fs hr => RoadKit.retOut X B.hx B.re hn (Or.inr (Or.inr (Or.inr (Or.inr ⟨rfl, ht, hw⟩)))) (hb B.by' hd) hr)
theorem Go.vretW (B : Ctx p Z (s.setVm vm0) m meth c own nm bytes maxL none) (X : Stand p l e R (s.setVm vm0) m args below meth c T locs cells slots) (eT : T.heap = h) (V : Wx Z a0 EL s vm0 h) {C S : Nat} {Qc : Option Value → Heap → List Loc → Prop} (hd : decode bytes pc = .ok (.return_, 1)) (hc : cells ≤ C) (hs : slots ≤ S) (q : Qc none T.heap locs) : Go p e below (EndW s C S Z EL Qc) (T.setTop (fr m pc L [])) :=
  Go.finW X B eT V (v := none) (fun _ => rfl) hc hs q (fun fs hr => X.returnOut B.hx B.re (hb B.by' hd) hr)
end
end Jvm.GoKit
/- laws to paste: StrChars.pair_says, StrChars.narrow_ch, StrChars.shr0, StrChars.shr1, StrChars.chr8_lo8, StrChars.fits_lo8 (cut by pick.py; bodies as the Statement names them) -/
namespace Jvm.Pilot.@@N@@
namespace StrChars
open Jvm Sem ClassFile Op Lib Jvm.Stand Jvm.Free.XT Jvm.Free.ALB Jvm.Free.JM Jvm.Free
open Jvm.Lib.Cold (StaticIs)
/-- the byte that i2b leaves of a char -/
def lo8 (x : Int32) : Int32 := x.toInt8.toInt32
theorem fits_lo8 (y : Int32) : fits .byte (.int (lo8 y)) = true := by
  have h1 := y.toInt8.le_toInt
  have h2 := y.toInt8.toInt_lt
  simp only [lo8, fits, Bool.and_eq_true, decide_eq_true_eq, Int32.le_iff_toInt_le, Int8.toInt_toInt32, show (-128 : Int32).toInt = -128 from by decide, show (127 : Int32).toInt = 127 from by decide]
  omega
/-- the byte, read back as charAt reads it, is the char -/
theorem lo8_mask {x : Int32} (h0 : ¬ x < 0) (h1 : ¬ 255 < x) : lo8 x &&& 255 = x := by
  have t : ∀ k : Fin 256, lo8 (Int32.ofNat k.val) &&& 255 = Int32.ofNat k.val := by decide +kernel
  rw [Int32.lt_iff_toInt_lt] at h0 h1
  have e0 : (0 : Int32).toInt = 0 := rfl
  have e1 : (255 : Int32).toInt = 255 := rfl
  obtain ⟨k, hk⟩ : ∃ k : Nat, x.toInt = k := ⟨x.toInt.toNat, by omega⟩
  have hx : x = Int32.ofNat k := Int32.toInt_inj.mp (by rw [hk, Int32.toInt_ofNat_small (by omega)])
  rw [hx]
  exact t ⟨k, by omega⟩
end StrChars
namespace StrChars
open Jvm Sem ClassFile Op Lib Jvm.Stand Jvm.Free.XT Jvm.Free.ALB Jvm.Free.JM Jvm.Free
open Jvm.Lib.Cold (StaticIs)
def hi8 (x : Int32) : Int32 := lo8 (x >>> ((8 : Int32) &&& 31))
/-- what StringUTF16.getChar makes of two bytes -/
def pairCh (u v : Int32) : Int32 := (((u &&& 255) <<< ((0 : Int32) &&& 31)) ||| ((v &&& 255) <<< ((8 : Int32) &&& 31))).toUInt32.toUInt16.toUInt32.toInt32
theorem shr0 (c : Int32) : c >>> ((0 : Int32) &&& 31) = c := by
  have e : ((0 : Int32) &&& 31) = 0 := by decide
  rw [e]
  apply Int32.toBitVec_inj.mp
  rw [Int32.toBitVec_shiftRight]
  have e1 : ((0 : Int32).toBitVec.smod 32) = 0#32 := by decide
  rw [e1, BitVec.sshiftRight_eq']
  exact BitVec.sshiftRight_zero
theorem lo8_and (x : Int32) : (lo8 x &&& 255).toBitVec.toNat = x.toBitVec.toNat % 256 := by
  have h : (lo8 x).toBitVec = (x.toBitVec.signExtend 8).signExtend 32 := by rw [lo8, Int8.toBitVec_toInt32, Int32.toBitVec_toInt8]
  rw [Int32.toBitVec_and, BitVec.toNat_and, h]
  have e : ((x.toBitVec.signExtend 8).signExtend 32).toNat % 256 = x.toBitVec.toNat % 256 := by
    rw [BitVec.toNat_signExtend]
    have hlt := x.toBitVec.isLt
    simp only [BitVec.toNat_setWidth, BitVec.toNat_signExtend]
    split <;> split <;> omega
  rw [← e]
  exact Nat.and_two_pow_sub_one_eq_mod _ 8
theorem pair_says {c : Int32} (h0 : ¬ c < 0) (h1 : ¬ 65535 < c) : pairCh (lo8 c) (hi8 c) = c := by
  rw [Int32.lt_iff_toInt_lt] at h0 h1
  have e0 : (0 : Int32).toInt = 0 := rfl
  have e1 : (65535 : Int32).toInt = 65535 := rfl
  have hc : c.toInt = c.toBitVec.toNat := by
    have := c.toBitVec.isLt
    have e : c.toInt = c.toBitVec.toInt := rfl
    rw [e] at h0 h1
    rw [e]
    rw [BitVec.toInt_eq_toNat_cond] at h0 h1 ⊢
    split at h0 <;> split <;> omega
  have hn : c.toBitVec.toNat < 65536 := by omega
  have a1 := lo8_and c
  have a2 : (hi8 c &&& 255).toBitVec.toNat = c.toBitVec.toNat / 256 := by
    rw [hi8, lo8_and]
    have e : ((8 : Int32) &&& 31) = 8 := by decide
    rw [e, Int32.toBitVec_shiftRight]
    have e2 : ((8 : Int32).toBitVec.smod 32) = 8#32 := by decide
    rw [e2, BitVec.sshiftRight_eq', BitVec.toNat_sshiftRight_of_msb_false (by rw [BitVec.msb_eq_false_iff_two_mul_lt]; omega)]
    show c.toBitVec.toNat >>> 8 % 256 = _
    rw [Nat.shiftRight_eq_div_pow]
    omega
  unfold pairCh
  apply Int32.toBitVec_inj.mp
  apply BitVec.eq_of_toNat_eq
  have f0 : ((0 : Int32) &&& 31) = 0 := by decide
  have f8 : ((8 : Int32) &&& 31) = 8 := by decide
  rw [f0, f8]
  have g : (((lo8 c &&& 255) <<< (0 : Int32)) ||| ((hi8 c &&& 255) <<< (8 : Int32))).toBitVec.toNat = c.toBitVec.toNat := by
    rw [Int32.toBitVec_or, Int32.toBitVec_shiftLeft, Int32.toBitVec_shiftLeft]
    have s0 : ((0 : Int32).toBitVec.smod 32) = 0#32 := by decide
    have s8 : ((8 : Int32).toBitVec.smod 32) = 8#32 := by decide
    rw [s0, s8, BitVec.toNat_or]
    simp only [BitVec.shiftLeft_eq', BitVec.toNat_shiftLeft, a1, a2]
    show (c.toBitVec.toNat % 256) <<< 0 % 2 ^ 32 ||| (c.toBitVec.toNat / 256) <<< 8 % 2 ^ 32 = _
    rw [Nat.shiftLeft_zero, Nat.mod_eq_of_lt (show c.toBitVec.toNat % 256 < 2 ^ 32 by omega), Nat.mod_eq_of_lt (show (c.toBitVec.toNat / 256) <<< 8 < 2 ^ 32 by rw [Nat.shiftLeft_eq]; omega), Nat.or_comm, ← Nat.shiftLeft_add_eq_or_of_lt (by omega), Nat.shiftLeft_eq]
    omega
  show BitVec.toNat (((((lo8 c &&& 255) <<< (0 : Int32)) ||| ((hi8 c &&& 255) <<< (8 : Int32))).toBitVec.setWidth 16).setWidth 32) = _
  rw [BitVec.toNat_setWidth, BitVec.toNat_setWidth, g]
  omega
end StrChars
namespace StrChars
open Jvm Sem ClassFile Op Lib Jvm.Stand Jvm.Free.XT Jvm.Free.ALB Jvm.Free.JM Jvm.Free
open Jvm.Lib.Cold (StaticIs)
theorem shr1 {n : Nat} (h : 2 * n < 2 ^ 31) : Int32.ofNat (2 * n) >>> ((1 : Int32) &&& 31) = Int32.ofNat n := by
  have e : ((1 : Int32) &&& 31) = 1 := by decide
  rw [e]
  apply Int32.toBitVec_inj.mp
  rw [Int32.toBitVec_shiftRight]
  have e1 : ((1 : Int32).toBitVec.smod 32) = 1#32 := by decide
  have hm : (BitVec.ofNat 32 (2 * n)).toNat = 2 * n := by rw [BitVec.toNat_ofNat, Nat.mod_eq_of_lt (by omega)]
  rw [e1, BitVec.sshiftRight_eq']
  apply BitVec.eq_of_toNat_eq
  show ((BitVec.ofNat 32 (2 * n)).sshiftRight 1).toNat = (BitVec.ofNat 32 n).toNat
  rw [BitVec.toNat_sshiftRight_of_msb_false (by rw [BitVec.msb_eq_false_iff_two_mul_lt, hm]; omega), hm, BitVec.toNat_ofNat, Nat.shiftRight_eq_div_pow]
  omega
/-- charAt's cast of a byte read back -/
def chr8 (u : Int32) : Int32 := (u &&& 255).toUInt32.toUInt16.toUInt32.toInt32
theorem chr8_lo8 {c : Int32} (h0 : ¬ c < 0) (h1 : ¬ 255 < c) : chr8 (lo8 c) = c := by
  have t : ∀ k : Fin 256, (Int32.ofNat k.val).toUInt32.toUInt16.toUInt32.toInt32 = Int32.ofNat k.val := by decide +kernel
  unfold chr8
  rw [lo8_mask h0 h1]
  rw [Int32.lt_iff_toInt_lt] at h0 h1
  have e0 : (0 : Int32).toInt = 0 := rfl
  have e1 : (255 : Int32).toInt = 255 := rfl
  obtain ⟨k, hk⟩ : ∃ k : Nat, c.toInt = k := ⟨c.toInt.toNat, by omega⟩
  have hx : c = Int32.ofNat k := Int32.toInt_inj.mp (by rw [hk, Int32.toInt_ofNat_small (by omega)])
  rw [hx]
  exact t ⟨k, by omega⟩
theorem narrow_ch {c : Int32} (h0 : ¬ c < 0) (h1 : ¬ 65535 < c) : narrow .char (.int c) = .int c := by
  have q : narrow .char (.int (pairCh (lo8 c) (hi8 c))) = .int (pairCh (lo8 c) (hi8 c)) := narrow_c _
  rwa [pair_says h0 h1] at q
end StrChars
end Jvm.Pilot.@@N@@
namespace Jvm.Pilot.@@N@@
open Jvm Jvm.ClassFile Sem Op Lib Jvm.Free Jvm.Stand Jvm.LawKit Jvm.RoadKit Bundle Jvm.GoKit Jvm.Pilot.@@N@@.Jvm.D
theorem tw {Z : State} {a0 : Array Value} (hw : ∀ d ∈ tables_1, d.before a0 Z = true) (i : Nat) {d : Jvm.Cond} (h : tables_1[i]? = some d) : d.before a0 Z = true := hw d (List.mem_of_getElem? h)
open StrChars (lo8 hi8 pairCh)
def wide : List Int32 → List Int32
  | [] => []
  | c :: cs => lo8 c :: hi8 c :: wide cs
theorem wide_len : ∀ cs : List Int32, (wide cs).length = 2 * cs.length
  | [] => rfl
  | c :: cs => by simp only [wide, List.length_cons, wide_len cs]; omega
theorem wide_app : ∀ (a b : List Int32), wide (a ++ b) = wide a ++ wide b
  | [], b => rfl
  | c :: cs, b => by simp [wide, wide_app cs b]
theorem wide_step (pre : List Int32) (c : Int32) (k : Nat) : ((wide pre ++ List.replicate (2 * (k + 1)) 0).set (2 * pre.length) (lo8 c)).set (2 * pre.length + 1) (hi8 c) = wide (pre ++ [c]) ++ List.replicate (2 * k) 0 := by
  have e : List.replicate (2 * (k + 1)) (0 : Int32) = 0 :: 0 :: List.replicate (2 * k) 0 := by
    rw [show 2 * (k + 1) = 2 * k + 1 + 1 by omega]; rfl
  have l := wide_len pre
  rw [e, List.set_append_right _ _ (by omega), List.set_append_right _ _ (by omega), wide_app, l]
  simp [wide]
theorem wide_lo : ∀ (cs : List Int32) (j : Nat) (c : Int32), cs[j]? = some c → (wide cs)[2 * j]? = some (lo8 c) ∧ (wide cs)[2 * j + 1]? = some (hi8 c)
  | [], j, c, h => by simp at h
  | x :: cs, 0, c, h => by simp at h; subst h; simp [wide]
  | x :: cs, j + 1, c, h => by
    have q := wide_lo cs j c (by simpa using h)
    rw [show 2 * (j + 1) = 2 * j + 1 + 1 by omega]
    simpa [wide] using q
theorem lat_step (pre : List Int32) (c : Int32) (k : Nat) : ((pre.map lo8) ++ List.replicate (k + 1) 0).set pre.length (lo8 c) = (pre ++ [c]).map lo8 ++ List.replicate k 0 := by
  rw [List.set_append_right _ _ (by simp), List.replicate_succ]
  simp
theorem take_step {cs : List Int32} {i : Nat} {c : Int32} (h : cs[i]? = some c) : cs.take (i + 1) = cs.take i ++ [c] := by
  obtain ⟨hi, rfl⟩ := List.getElem?_eq_some_iff.mp h
  simp
theorem nar_lo (c : Int32) : nar .byte c.toInt8.toInt32 = lo8 c := by
  show c.toInt8.toInt32.toInt8.toInt32 = c.toInt8.toInt32
  simp
theorem lt_ofNat {a b : Nat} (ha : a < 2 ^ 31) (hb : b < 2 ^ 31) : Int32.ofNat a < Int32.ofNat b ↔ a < b := by
  rw [Int32.lt_iff_toInt_lt, Int32.toInt_ofNat_of_lt ha, Int32.toInt_ofNat_of_lt hb]
  omega
theorem eq_ofNat {a b : Nat} (ha : a < 2 ^ 31) (hb : b < 2 ^ 31) : Int32.ofNat a = Int32.ofNat b ↔ a = b := by
  rw [← Int32.toInt_inj, Int32.toInt_ofNat_of_lt ha, Int32.toInt_ofNat_of_lt hb]
  omega
theorem ofNat_succ (k : Nat) : Int32.ofNat k + 1 = Int32.ofNat (k + 1) := (Int32.ofNat_add k 1).symm
theorem shl1 {i : Nat} (h : 2 * i < 2 ^ 31) : Int32.ofNat i <<< ((1 : Int32) &&& 31) = Int32.ofNat (2 * i) := by
  have a := c_ishl (Int32.ofNat i) 1 1 (by decide)
  rw [← Int32.toInt_inj, Int32.toInt_ofNat_of_lt h]
  rw [Int32.toInt_ofNat_of_lt (by omega)] at a
  have r := rng32 (Int32.ofNat i <<< ((1 : Int32) &&& 31))
  omega
/-- the statics that the sets name -/
def Stz (Z : State) : Prop := (∃ G : Int32, Sta Z Z.heap "java/lang/String" "COMPACT_STRINGS" "Z" (.int G) ∧ ¬ G = 0) ∧ Sta Z Z.heap "java/lang/StringUTF16" "$assertionsDisabled" "Z" (.int 1) ∧ Sta Z Z.heap "java/lang/StringUTF16" "HI_BYTE_SHIFT" "I" (.int 0) ∧ Sta Z Z.heap "java/lang/StringUTF16" "LO_BYTE_SHIFT" "I" (.int 8)
/-- x is a String of the chars cs -/
def StrD (Z : State) (h : Heap) (x : Addr) (cs : List Int32) : Prop := ∃ (t : Addr) (cd : Int32) (bs : List Int32), Exa Z h x "java/lang/String" ∧ Fld Z h x "java/lang/String" "coder" "B" (.int cd) ∧ Fld Z h x "java/lang/String" "value" "[B" (.ref t) ∧ Av Z h t .byte (bs.map Value.int) ∧ ((cd = 0 ∧ bs = cs.map lo8 ∧ ∀ c ∈ cs, ¬ 255 < c) ∨ (cd = 1 ∧ bs = wide cs ∧ ∃ c ∈ cs, 255 < c))
theorem keep0 {h h' : Heap} (K : Keep h h' []) : Ext h h' := ⟨K.1, fun x c q => K.2.1 x c q (by simp)⟩

theorem nar_ch {c : Int32} (h : ¬ c < 0 ∧ ¬ 65535 < c) : nar .char c = c := by
  have q := StrChars.narrow_ch h.1 h.2
  have e : narrow .char (.int c) = .int (nar .char c) := rfl
  rw [e] at q
  exact Value.int.inj q
def Sfm (Z : State) : Prop := ∃ fm : Value, Sta Z Z.heap "jdk/internal/util/Preconditions" "SIOOBE_FORMATTER" "Ljava/util/function/BiFunction;" fm ∧ fm.isRef = true
theorem StrD.len31 {Z : State} {h : Heap} {t : Addr} {bs : List Int32} (A : Av Z h t .byte (bs.map Value.int)) : bs.length < 2 ^ 31 := by obtain ⟨_, _, _, q, _⟩ := A; simpa using q
theorem StrD.keep {Z : State} {h h' : Heap} {x : Addr} {cs : List Int32} (D : StrD Z h x cs) (E : Ext h h') : StrD Z h' x cs := by
  obtain ⟨t, cd, bs, x1, x2, x3, x4, hb⟩ := D
  exact ⟨t, cd, bs, x1.ext E, x2.ext E, x3.ext E, x4.ext E, hb⟩
theorem StrD.exa {Z : State} {h : Heap} {x : Addr} {cs : List Int32} (D : StrD Z h x cs) : Exa Z h x "java/lang/String" := by obtain ⟨t, cd, bs, x1, -⟩ := D; exact x1
theorem ofNat_nn {k : Nat} (h : k < 2 ^ 31) : ¬ Int32.ofNat k < 0 := fun q => by
  rw [show (0 : Int32) = Int32.ofNat 0 from rfl] at q
  exact absurd ((lt_ofNat h (by omega)).mp q) (by omega)

theorem d1_0 : decode jdk_52_method_4_code 0 = .ok (.getstatic 44, 3) := by decide +kernel
theorem d1_3 : decode jdk_52_method_4_code 3 = .ok (.ifCond .ne 25, 3) := by decide +kernel
theorem d1_6 : decode jdk_52_method_4_code 6 = .ok (.iload_n 1, 1) := by decide +kernel
theorem d1_7 : decode jdk_52_method_4_code 7 = .ok (.ifCond .lt 11, 3) := by decide +kernel
theorem d1_10 : decode jdk_52_method_4_code 10 = .ok (.iload_n 1, 1) := by decide +kernel
theorem d1_11 : decode jdk_52_method_4_code 11 = .ok (.aload_n 0, 1) := by decide +kernel
theorem d1_12 : decode jdk_52_method_4_code 12 = .ok (.invokestatic 48, 3) := by decide +kernel
theorem d1_15 : decode jdk_52_method_4_code 15 = .ok (.if_icmp .lt 13, 3) := by decide +kernel
theorem d1_18 : decode jdk_52_method_4_code 18 = .ok (.new 52, 3) := by decide +kernel
theorem d1_21 : decode jdk_52_method_4_code 21 = .ok (.dup, 1) := by decide +kernel
theorem d1_22 : decode jdk_52_method_4_code 22 = .ok (.ldc 54, 2) := by decide +kernel
theorem d1_24 : decode jdk_52_method_4_code 24 = .ok (.invokespecial 56, 3) := by decide +kernel
theorem d1_27 : decode jdk_52_method_4_code 27 = .ok (.athrow, 1) := by decide +kernel
theorem d1_28 : decode jdk_52_method_4_code 28 = .ok (.iload_n 1, 1) := by decide +kernel
theorem d1_29 : decode jdk_52_method_4_code 29 = .ok (.iconst 1, 1) := by decide +kernel
theorem d1_30 : decode jdk_52_method_4_code 30 = .ok (.ishl, 1) := by decide +kernel
theorem d1_31 : decode jdk_52_method_4_code 31 = .ok (.istore_n 1, 1) := by decide +kernel
theorem d1_32 : decode jdk_52_method_4_code 32 = .ok (.aload_n 0, 1) := by decide +kernel
theorem d1_33 : decode jdk_52_method_4_code 33 = .ok (.iload_n 1, 1) := by decide +kernel
theorem d1_34 : decode jdk_52_method_4_code 34 = .ok (.iinc 1 1, 3) := by decide +kernel
theorem d1_37 : decode jdk_52_method_4_code 37 = .ok (.iload_n 2, 1) := by decide +kernel
theorem d1_38 : decode jdk_52_method_4_code 38 = .ok (.getstatic 59, 3) := by decide +kernel
theorem d1_41 : decode jdk_52_method_4_code 41 = .ok (.ishr, 1) := by decide +kernel
theorem d1_42 : decode jdk_52_method_4_code 42 = .ok (.i2b, 1) := by decide +kernel
theorem d1_43 : decode jdk_52_method_4_code 43 = .ok (.bastore, 1) := by decide +kernel
theorem d1_44 : decode jdk_52_method_4_code 44 = .ok (.aload_n 0, 1) := by decide +kernel
theorem d1_45 : decode jdk_52_method_4_code 45 = .ok (.iload_n 1, 1) := by decide +kernel
theorem d1_46 : decode jdk_52_method_4_code 46 = .ok (.iload_n 2, 1) := by decide +kernel
theorem d1_47 : decode jdk_52_method_4_code 47 = .ok (.getstatic 63, 3) := by decide +kernel
theorem d1_50 : decode jdk_52_method_4_code 50 = .ok (.ishr, 1) := by decide +kernel
theorem d1_51 : decode jdk_52_method_4_code 51 = .ok (.i2b, 1) := by decide +kernel
theorem d1_52 : decode jdk_52_method_4_code 52 = .ok (.bastore, 1) := by decide +kernel
theorem d1_53 : decode jdk_52_method_4_code 53 = .ok (.return_, 1) := by decide +kernel
theorem pn_0 : plainName "java/lang/StringUTF16" = true := by first | (simp [plainName, overriddenIn]; done) | decide +kernel
def ct_putChar_R : Room := ({ frames := 0, cells := 0, slots := 0, locals := 0 } : Room)
set_option maxRecDepth 65536 in
set_option maxHeartbeats 40000000 in
theorem ct_putChar (l : Launch) (Z : State) (a0 : Array Value) (hw : ∀ d ∈ tables_1, d.before a0 Z = true) (b : Addr) (i : Nat) (c0 : Int32) (bs : List Int32) (h : Heap) (n0 : Nat) (hS : Stz Z) (O : Old Z n0 h) (nb0 : n0 ≤ b) (A0 : Av Z h b .byte (bs.map Value.int)) (hi : 2 * i + 1 < bs.length) (hb0 : bs.length < 2 ^ 30) :
    Ct l Z ⟨"java/lang/StringUTF16", "putChar", "([BII)V"⟩ jdk_52_method_4_code 3 (none) [] ct_putChar_R ct_putChar_R.cells ct_putChar_R.slots [(.ref b), (.int (Int32.ofNat i)), (.int c0)] h (fun v h' L => v = none ∧ Fr n0 L ∧ Keep h h' [b] ∧ Av Z h' b .byte (((bs.set (2 * i) (lo8 c0)).set (2 * i + 1) (hi8 c0)).map Value.int)) := by
  refine Ct.mk (L0 := [.val (.ref b), .val (.int (Int32.ofNat i)), .val (.int c0)]) (plainFor_of_name pn_0) (fun m => by first | (simp [entryFrame, mkF, argsToLocals, Value.category]; done) | rfl) ?_
  intro p e s m below meth c s₁ B X0 e0
  refine Go.getS B X0 e0 (tw hw 103 rfl) (hS.2.1.ext O.2) d1_0 (pc' := 3) rfl ?_
  intro Tt0_1 Xt0_1 et0_1
  refine Go.ifT B Xt0_1 d1_3 (by decide) (pc' := 28) rfl (by decide) ?_
  refine Go.iloadN B Xt0_1 d1_28 (pc' := 29) rfl rfl ?_
  refine Go.iconst B Xt0_1 1 d1_29 (pc' := 30) rfl rfl ?_
  refine Go.ishl B Xt0_1 d1_30 (pc' := 31) rfl ?_
  rw [shl1 (by omega)]
  refine Go.istoreN B Xt0_1 d1_31 (pc' := 32) rfl rfl rfl ?_
  dsimp only [put1]
  refine Go.aloadN B Xt0_1 d1_32 (pc' := 33) rfl rfl rfl ?_
  refine Go.iloadN B Xt0_1 d1_33 (pc' := 34) rfl rfl ?_
  refine Go.iinc B Xt0_1 1 d1_34 (pc' := 37) rfl rfl rfl ?_
  dsimp only [put1]
  refine Go.iloadN B Xt0_1 d1_37 (pc' := 38) rfl rfl ?_
  rw [ofNat_succ]
  refine Go.getS B Xt0_1 et0_1 (tw hw 104 rfl) (hS.2.2.1.ext O.2) d1_38 (pc' := 41) rfl ?_
  intro Tt38_2 Xt38_2 et38_2
  refine Go.ishr B Xt38_2 d1_41 (pc' := 42) rfl ?_
  refine Go.i2b B Xt38_2 d1_42 (pc' := 43) rfl ?_
  rw [StrChars.shr0]
  refine Go.bastore B Xt38_2 et38_2 A0 (2 * i) d1_43 (pc' := 44) rfl rfl (by rw [List.length_map]; omega) ?_
  intro Ta ha La Fa Xa ea Wa Aa'
  rw [nar_lo, ← List.map_set] at Aa'
  refine Go.aloadN B Xa d1_44 (pc' := 45) rfl rfl rfl ?_
  refine Go.iloadN B Xa d1_45 (pc' := 46) rfl rfl ?_
  refine Go.iloadN B Xa d1_46 (pc' := 47) rfl rfl ?_
  refine Go.getS B Xa ea (tw hw 105 rfl) ((hS.2.2.2.ext O.2).wr Wa) d1_47 (pc' := 50) rfl ?_
  intro Tt47_3 Xt47_3 et47_3
  refine Go.ishr B Xt47_3 d1_50 (pc' := 51) rfl ?_
  refine Go.i2b B Xt47_3 d1_51 (pc' := 52) rfl ?_
  refine Go.bastore B Xt47_3 et47_3 Aa' (2 * i + 1) d1_52 (pc' := 53) rfl rfl (by rw [List.length_map, List.length_set]; omega) ?_
  intro Tb hb Lb Fb Xb eb Wb Ab'
  rw [nar_lo, ← List.map_set] at Ab'
  have K : Keep h hb [b] := ((Keep.refl h [b]).wr Wa (Or.inl (by simp))).wr Wb (Or.inl (by simp))
  exact Go.vret B Xb d1_53 nb nb ⟨rfl, Fr.app (Fr.app (Fr.nil _) (GoKit.Fr.low Fa nb0)) (GoKit.Fr.low Fb nb0), by rw [eb]; exact K, by rw [eb]; exact Ab'⟩
theorem d2_0 : decode jdk_52_method_5_code 0 = .ok (.getstatic 44, 3) := by decide +kernel
theorem d2_3 : decode jdk_52_method_5_code 3 = .ok (.ifCond .ne 25, 3) := by decide +kernel
theorem d2_6 : decode jdk_52_method_5_code 6 = .ok (.iload_n 1, 1) := by decide +kernel
theorem d2_7 : decode jdk_52_method_5_code 7 = .ok (.ifCond .lt 11, 3) := by decide +kernel
theorem d2_10 : decode jdk_52_method_5_code 10 = .ok (.iload_n 1, 1) := by decide +kernel
theorem d2_11 : decode jdk_52_method_5_code 11 = .ok (.aload_n 0, 1) := by decide +kernel
theorem d2_12 : decode jdk_52_method_5_code 12 = .ok (.invokestatic 48, 3) := by decide +kernel
theorem d2_15 : decode jdk_52_method_5_code 15 = .ok (.if_icmp .lt 13, 3) := by decide +kernel
theorem d2_18 : decode jdk_52_method_5_code 18 = .ok (.new 52, 3) := by decide +kernel
theorem d2_21 : decode jdk_52_method_5_code 21 = .ok (.dup, 1) := by decide +kernel
theorem d2_22 : decode jdk_52_method_5_code 22 = .ok (.ldc 54, 2) := by decide +kernel
theorem d2_24 : decode jdk_52_method_5_code 24 = .ok (.invokespecial 56, 3) := by decide +kernel
theorem d2_27 : decode jdk_52_method_5_code 27 = .ok (.athrow, 1) := by decide +kernel
theorem d2_28 : decode jdk_52_method_5_code 28 = .ok (.iload_n 1, 1) := by decide +kernel
theorem d2_29 : decode jdk_52_method_5_code 29 = .ok (.iconst 1, 1) := by decide +kernel
theorem d2_30 : decode jdk_52_method_5_code 30 = .ok (.ishl, 1) := by decide +kernel
theorem d2_31 : decode jdk_52_method_5_code 31 = .ok (.istore_n 1, 1) := by decide +kernel
theorem d2_32 : decode jdk_52_method_5_code 32 = .ok (.aload_n 0, 1) := by decide +kernel
theorem d2_33 : decode jdk_52_method_5_code 33 = .ok (.iload_n 1, 1) := by decide +kernel
theorem d2_34 : decode jdk_52_method_5_code 34 = .ok (.iinc 1 1, 3) := by decide +kernel
theorem d2_37 : decode jdk_52_method_5_code 37 = .ok (.baload, 1) := by decide +kernel
theorem d2_38 : decode jdk_52_method_5_code 38 = .ok (.sipush 255, 3) := by decide +kernel
theorem d2_41 : decode jdk_52_method_5_code 41 = .ok (.iand, 1) := by decide +kernel
theorem d2_42 : decode jdk_52_method_5_code 42 = .ok (.getstatic 59, 3) := by decide +kernel
theorem d2_45 : decode jdk_52_method_5_code 45 = .ok (.ishl, 1) := by decide +kernel
theorem d2_46 : decode jdk_52_method_5_code 46 = .ok (.aload_n 0, 1) := by decide +kernel
theorem d2_47 : decode jdk_52_method_5_code 47 = .ok (.iload_n 1, 1) := by decide +kernel
theorem d2_48 : decode jdk_52_method_5_code 48 = .ok (.baload, 1) := by decide +kernel
theorem d2_49 : decode jdk_52_method_5_code 49 = .ok (.sipush 255, 3) := by decide +kernel
theorem d2_52 : decode jdk_52_method_5_code 52 = .ok (.iand, 1) := by decide +kernel
theorem d2_53 : decode jdk_52_method_5_code 53 = .ok (.getstatic 63, 3) := by decide +kernel
theorem d2_56 : decode jdk_52_method_5_code 56 = .ok (.ishl, 1) := by decide +kernel
theorem d2_57 : decode jdk_52_method_5_code 57 = .ok (.ior, 1) := by decide +kernel
theorem d2_58 : decode jdk_52_method_5_code 58 = .ok (.i2c, 1) := by decide +kernel
theorem d2_59 : decode jdk_52_method_5_code 59 = .ok (.ireturn, 1) := by decide +kernel
def ct_getChar_R : Room := ({ frames := 0, cells := 0, slots := 0, locals := 0 } : Room)
set_option maxRecDepth 65536 in
set_option maxHeartbeats 40000000 in
theorem ct_getChar (l : Launch) (Z : State) (a0 : Array Value) (hw : ∀ d ∈ tables_1, d.before a0 Z = true) (b : Addr) (i : Nat) (c0 : Int32) (cs : List Int32) (h : Heap) (n0 : Nat) (hS : Stz Z) (O : Old Z n0 h) (A0 : Av Z h b .byte ((wide cs).map Value.int)) (hc : cs[i]? = some c0) (hi : cs.length < 2 ^ 29) (hii : i < cs.length) (hr : ¬ c0 < 0 ∧ ¬ 65535 < c0) :
    Ct l Z ⟨"java/lang/StringUTF16", "getChar", "([BI)C"⟩ jdk_52_method_5_code 2 (some .char) [] ct_getChar_R ct_getChar_R.cells ct_getChar_R.slots [(.ref b), (.int (Int32.ofNat i))] h (fun v h' L => v = some (.int c0) ∧ Fr n0 L ∧ h' = h) := by
  refine Ct.mk (L0 := [.val (.ref b), .val (.int (Int32.ofNat i))]) (plainFor_of_name pn_0) (fun m => by first | (simp [entryFrame, mkF, argsToLocals, Value.category]; done) | rfl) ?_
  intro p e s m below meth c s₁ B X0 e0
  refine Go.getS B X0 e0 (tw hw 103 rfl) (hS.2.1.ext O.2) d2_0 (pc' := 3) rfl ?_
  intro Tt0_1 Xt0_1 et0_1
  refine Go.ifT B Xt0_1 d2_3 (by decide) (pc' := 28) rfl (by decide) ?_
  refine Go.iloadN B Xt0_1 d2_28 (pc' := 29) rfl rfl ?_
  refine Go.iconst B Xt0_1 1 d2_29 (pc' := 30) rfl rfl ?_
  refine Go.ishl B Xt0_1 d2_30 (pc' := 31) rfl ?_
  rw [shl1 (by omega)]
  refine Go.istoreN B Xt0_1 d2_31 (pc' := 32) rfl rfl rfl ?_
  dsimp only [put1]
  refine Go.aloadN B Xt0_1 d2_32 (pc' := 33) rfl rfl rfl ?_
  refine Go.iloadN B Xt0_1 d2_33 (pc' := 34) rfl rfl ?_
  refine Go.iinc B Xt0_1 1 d2_34 (pc' := 37) rfl rfl rfl ?_
  dsimp only [put1]
  rw [ofNat_succ]
  refine Go.baload B Xt0_1 et0_1 A0 (2 * i) d2_37 (pc' := 38) rfl rfl (v := .int (lo8 c0)) (by rw [List.getElem?_map, (wide_lo cs i c0 hc).1]; rfl) ?_
  refine Go.sipush B Xt0_1 255 d2_38 (pc' := 41) rfl rfl ?_
  refine Go.iand B Xt0_1 d2_41 (pc' := 42) rfl ?_
  refine Go.getS B Xt0_1 et0_1 (tw hw 104 rfl) (hS.2.2.1.ext O.2) d2_42 (pc' := 45) rfl ?_
  intro Tt42_2 Xt42_2 et42_2
  refine Go.ishl B Xt42_2 d2_45 (pc' := 46) rfl ?_
  refine Go.aloadN B Xt42_2 d2_46 (pc' := 47) rfl rfl rfl ?_
  refine Go.iloadN B Xt42_2 d2_47 (pc' := 48) rfl rfl ?_
  refine Go.baload B Xt42_2 et42_2 A0 (2 * i + 1) d2_48 (pc' := 49) rfl rfl (v := .int (hi8 c0)) (by rw [List.getElem?_map, (wide_lo cs i c0 hc).2]; rfl) ?_
  refine Go.sipush B Xt42_2 255 d2_49 (pc' := 52) rfl rfl ?_
  refine Go.iand B Xt42_2 d2_52 (pc' := 53) rfl ?_
  refine Go.getS B Xt42_2 et42_2 (tw hw 105 rfl) (hS.2.2.2.ext O.2) d2_53 (pc' := 56) rfl ?_
  intro Tt53_3 Xt53_3 et53_3
  refine Go.ishl B Xt53_3 d2_56 (pc' := 57) rfl ?_
  refine Go.ior B Xt53_3 d2_57 (pc' := 58) rfl ?_
  refine Go.i2c B Xt53_3 d2_58 (pc' := 59) rfl ?_
  have ep : (((lo8 c0 &&& 255) <<< ((0 : Int32) &&& 31)) ||| ((hi8 c0 &&& 255) <<< ((8 : Int32) &&& 31))).toUInt32.toUInt16.toUInt32.toInt32 = c0 := StrChars.pair_says hr.1 hr.2
  rw [ep]
  exact Go.cret B Xt53_3 d2_59 (StrChars.narrow_ch hr.1 hr.2) nb nb ⟨rfl, Fr.nil _, et53_3⟩
theorem d3_0 : decode jdk_52_method_3_code 0 = .ok (.iload_n 0, 1) := by decide +kernel
theorem d3_1 : decode jdk_52_method_3_code 1 = .ok (.ifCond .ge 11, 3) := by decide +kernel
theorem d3_4 : decode jdk_52_method_3_code 4 = .ok (.new 17, 3) := by decide +kernel
theorem d3_7 : decode jdk_52_method_3_code 7 = .ok (.dup, 1) := by decide +kernel
theorem d3_8 : decode jdk_52_method_3_code 8 = .ok (.invokespecial 19, 3) := by decide +kernel
theorem d3_11 : decode jdk_52_method_3_code 11 = .ok (.athrow, 1) := by decide +kernel
theorem d3_12 : decode jdk_52_method_3_code 12 = .ok (.iload_n 0, 1) := by decide +kernel
theorem d3_13 : decode jdk_52_method_3_code 13 = .ok (.ldc 20, 2) := by decide +kernel
theorem d3_15 : decode jdk_52_method_3_code 15 = .ok (.if_icmp .lt 40, 3) := by decide +kernel
theorem d3_18 : decode jdk_52_method_3_code 18 = .ok (.new 21, 3) := by decide +kernel
theorem d3_21 : decode jdk_52_method_3_code 21 = .ok (.dup, 1) := by decide +kernel
theorem d3_22 : decode jdk_52_method_3_code 22 = .ok (.new 23, 3) := by decide +kernel
theorem d3_25 : decode jdk_52_method_3_code 25 = .ok (.dup, 1) := by decide +kernel
theorem d3_26 : decode jdk_52_method_3_code 26 = .ok (.invokespecial 25, 3) := by decide +kernel
theorem d3_29 : decode jdk_52_method_3_code 29 = .ok (.ldc 26, 2) := by decide +kernel
theorem d3_31 : decode jdk_52_method_3_code 31 = .ok (.invokevirtual 28, 3) := by decide +kernel
theorem d3_34 : decode jdk_52_method_3_code 34 = .ok (.iload_n 0, 1) := by decide +kernel
theorem d3_35 : decode jdk_52_method_3_code 35 = .ok (.invokevirtual 32, 3) := by decide +kernel
theorem d3_38 : decode jdk_52_method_3_code 38 = .ok (.ldc 35, 2) := by decide +kernel
theorem d3_40 : decode jdk_52_method_3_code 40 = .ok (.invokevirtual 28, 3) := by decide +kernel
theorem d3_43 : decode jdk_52_method_3_code 43 = .ok (.ldc 20, 2) := by decide +kernel
theorem d3_45 : decode jdk_52_method_3_code 45 = .ok (.invokevirtual 32, 3) := by decide +kernel
theorem d3_48 : decode jdk_52_method_3_code 48 = .ok (.invokevirtual 37, 3) := by decide +kernel
theorem d3_51 : decode jdk_52_method_3_code 51 = .ok (.invokespecial 41, 3) := by decide +kernel
theorem d3_54 : decode jdk_52_method_3_code 54 = .ok (.athrow, 1) := by decide +kernel
theorem d3_55 : decode jdk_52_method_3_code 55 = .ok (.iload_n 0, 1) := by decide +kernel
theorem d3_56 : decode jdk_52_method_3_code 56 = .ok (.iconst 1, 1) := by decide +kernel
theorem d3_57 : decode jdk_52_method_3_code 57 = .ok (.ishl, 1) := by decide +kernel
theorem d3_58 : decode jdk_52_method_3_code 58 = .ok (.ireturn, 1) := by decide +kernel
def ct_newLen_R : Room := ({ frames := 0, cells := 0, slots := 0, locals := 0 } : Room)
set_option maxRecDepth 65536 in
set_option maxHeartbeats 40000000 in
theorem ct_newLen (l : Launch) (Z : State) (a0 : Array Value) (hw : ∀ d ∈ tables_1, d.before a0 Z = true) (n : Nat) (h : Heap) (n0 : Nat) (hn : n ≤ 8) :
    Ct l Z ⟨"java/lang/StringUTF16", "newBytesLength", "(I)I"⟩ jdk_52_method_3_code 1 (some .int) [] ct_newLen_R ct_newLen_R.cells ct_newLen_R.slots [(.int (Int32.ofNat n))] h (fun v h' L => v = some (.int (Int32.ofNat (2 * n))) ∧ Fr n0 L ∧ h' = h) := by
  refine Ct.mk (L0 := [.val (.int (Int32.ofNat n))]) (plainFor_of_name pn_0) (fun m => by first | (simp [entryFrame, mkF, argsToLocals, Value.category]; done) | rfl) ?_
  intro p e s m below meth c s₁ B X0 e0
  have e0' : (0 : Int32) = Int32.ofNat 0 := rfl
  refine Go.iloadN B X0 d3_0 (pc' := 1) rfl rfl ?_
  refine Go.ifT B X0 d3_1 (by decide) (pc' := 12) rfl (fun q => by rw [e0'] at q; exact absurd ((lt_ofNat (by omega) (by omega)).mp q) (by omega)) ?_
  refine Go.iloadN B X0 d3_12 (pc' := 13) rfl rfl ?_
  refine Go.ldcI B X0 (tw hw 99 rfl) d3_13 (pc' := 15) rfl ?_
  refine Go.icT B X0 d3_15 (by decide) (pc' := 55) rfl ((lt_ofNat (a := n) (b := 1073741823) (by omega) (by decide)).mpr (by omega)) ?_
  refine Go.iloadN B X0 d3_55 (pc' := 56) rfl rfl ?_
  refine Go.iconst B X0 1 d3_56 (pc' := 57) rfl rfl ?_
  refine Go.ishl B X0 d3_57 (pc' := 58) rfl ?_
  rw [shl1 (by omega)]
  exact Go.iret B X0 d3_58 nb nb ⟨rfl, Fr.nil _, e0⟩
theorem d4_0 : decode jdk_52_method_2_code 0 = .ok (.iload_n 0, 1) := by decide +kernel
theorem d4_1 : decode jdk_52_method_2_code 1 = .ok (.invokestatic 11, 3) := by decide +kernel
theorem d4_4 : decode jdk_52_method_2_code 4 = .ok (.newarray .byte, 2) := by decide +kernel
theorem d4_6 : decode jdk_52_method_2_code 6 = .ok (.areturn, 1) := by decide +kernel
theorem pd_0 : parseMethodDescriptor "(I)I" = some ⟨[.int], some .int⟩ := by decide +kernel
def ct_newFor_R : Room := ({ frames := 1, cells := 1, slots := 16, locals := 24 } : Room)
set_option maxRecDepth 65536 in
set_option maxHeartbeats 40000000 in
theorem ct_newFor (l : Launch) (Z : State) (a0 : Array Value) (hw : ∀ d ∈ tables_1, d.before a0 Z = true) (n : Nat) (h : Heap) (n0 : Nat) (hn : n ≤ 8) :
    Ct l Z ⟨"java/lang/StringUTF16", "newBytesFor", "(I)[B"⟩ jdk_52_method_2_code 1 (some (.array .byte)) [] ct_newFor_R ct_newFor_R.cells ct_newFor_R.slots [(.int (Int32.ofNat n))] h (fun v h' L => ∃ t, v = some (.ref t) ∧ t = h.size ∧ Fr n0 L ∧ Ext h h' ∧ Av Z h' t .byte ((List.replicate (2 * n) (0 : Int32)).map Value.int)) := by
  refine Ct.mk (L0 := [.val (.int (Int32.ofNat n))]) (plainFor_of_name pn_0) (fun m => by first | (simp [entryFrame, mkF, argsToLocals, Value.category]; done) | rfl) ?_
  intro p e s m below meth c s₁ B X0 e0
  refine Go.iloadN B X0 d4_0 (pc' := 1) rfl rfl ?_
  refine Go.callS B X0 e0 (y := ⟨"java/lang/StringUTF16", "newBytesLength", "(I)I"⟩) (Ct.back (W := 0) (ct_newLen l Z a0 hw n h n0 hn) B.hZ (tw hw 98 rfl) (tw hw 56 rfl) nb nb) (tw hw 96 rfl) (tw hw 97 rfl) (tw hw 56 rfl) (tw hw 98 rfl) (by decide) pd_0 d4_1 (pc' := 4) rfl rfl (rest := []) rfl rfl nb nb nb ?_
  intro va Ta La Xa Qa
  obtain ⟨rfl, Na, ea⟩ := Qa
  dsimp only [Option.toList, List.nil_append, List.cons_append]
  refine Go.newP B Xa ea (2 * n) (tw hw 9 rfl) d4_4 (pc' := 6) rfl rfl (by omega) nb (by show 0 + 2 * n ≤ 16; omega) ?_
  intro Tb hb t gb Xb eb Eb Ab'
  have Ab : Av Z hb t .byte ((List.replicate (2 * n) (0 : Int32)).map Value.int) := by rw [List.map_replicate]; exact Ab'
  exact Go.aret B Xb d4_6 rfl rfl rfl nb (by show 0 + 2 * n ≤ 16; omega) ⟨t, rfl, gb, Fr.app (Fr.nil _) Na, by rw [eb]; exact Eb, by rw [eb]; exact Ab⟩
theorem d5_0 : decode jdk_52_method_14_code 0 = .ok (.iload_n 2, 1) := by decide +kernel
theorem d5_1 : decode jdk_52_method_14_code 1 = .ok (.invokestatic 107, 3) := by decide +kernel
theorem d5_4 : decode jdk_52_method_14_code 4 = .ok (.astore_n 3, 1) := by decide +kernel
theorem d5_5 : decode jdk_52_method_14_code 5 = .ok (.iconst 0, 1) := by decide +kernel
theorem d5_6 : decode jdk_52_method_14_code 6 = .ok (.istore 4, 2) := by decide +kernel
theorem d5_8 : decode jdk_52_method_14_code 8 = .ok (.iload 4, 2) := by decide +kernel
theorem d5_10 : decode jdk_52_method_14_code 10 = .ok (.iload_n 2, 1) := by decide +kernel
theorem d5_11 : decode jdk_52_method_14_code 11 = .ok (.if_icmp .ge 21, 3) := by decide +kernel
theorem d5_14 : decode jdk_52_method_14_code 14 = .ok (.aload_n 3, 1) := by decide +kernel
theorem d5_15 : decode jdk_52_method_14_code 15 = .ok (.iload 4, 2) := by decide +kernel
theorem d5_17 : decode jdk_52_method_14_code 17 = .ok (.aload_n 0, 1) := by decide +kernel
theorem d5_18 : decode jdk_52_method_14_code 18 = .ok (.iload_n 1, 1) := by decide +kernel
theorem d5_19 : decode jdk_52_method_14_code 19 = .ok (.caload, 1) := by decide +kernel
theorem d5_20 : decode jdk_52_method_14_code 20 = .ok (.invokestatic 111, 3) := by decide +kernel
theorem d5_23 : decode jdk_52_method_14_code 23 = .ok (.iinc 1 1, 3) := by decide +kernel
theorem d5_26 : decode jdk_52_method_14_code 26 = .ok (.iinc 4 1, 3) := by decide +kernel
theorem d5_29 : decode jdk_52_method_14_code 29 = .ok (.goto (-21), 3) := by decide +kernel
theorem d5_32 : decode jdk_52_method_14_code 32 = .ok (.aload_n 3, 1) := by decide +kernel
theorem d5_33 : decode jdk_52_method_14_code 33 = .ok (.areturn, 1) := by decide +kernel
theorem pd_1 : parseMethodDescriptor "(I)[B" = some ⟨[.int], some (.array .byte)⟩ := by decide +kernel
theorem pd_2 : parseMethodDescriptor "([BII)V" = some ⟨[(.array .byte), .int, .int], none⟩ := by decide +kernel

def ct_toBytes_R : Room := ({ frames := 2, cells := 1, slots := 16, locals := 60 } : Room)
set_option maxRecDepth 65536 in
set_option maxHeartbeats 4000000 in
theorem own_tb {p : Program} {l : Launch} {e : Env} {R : Room} {s : State} {m : MethodId} {args : Array Value} {below : List Frame} {meth : Method} {c : Code} {Z : State} {a0 : Array Value} {nm : String} {n0 : Nat} {h : Heap} {cs : List Int32} {src t : Addr} (hw : ∀ d ∈ tables_1, d.before a0 Z = true) (hS : Stz Z) (B : Ctx p Z s m meth c "java/lang/StringUTF16" nm jdk_52_method_14_code 5 (some (.array .byte))) (hR : R = ct_toBytes_R) {cells slots : Nat} (nt : n0 ≤ t) (nth : h.size ≤ t) (hst : src ≠ t) (hn : cs.length ≤ 8) (hc1 : cells = 1) (hs1 : slots = 16) :
    ∀ (r i : Nat), r + i = cs.length → ∀ {T : State} {locs : List Loc} {hc : Heap} (X : Stand p l e R s m args below meth c T locs cells slots) (eT : T.heap = hc), Av Z hc src .char (cs.map Value.int) → Old Z n0 hc → Fr n0 locs → Keep h hc [] → Av Z hc t .byte ((wide (cs.take i) ++ List.replicate (2 * (cs.length - i)) 0).map Value.int) →
      Go p e below (End s 1 16 (fun v h' L => ∃ t, v = some (.ref t) ∧ h.size ≤ t ∧ n0 ≤ t ∧ Fr n0 L ∧ Keep h h' [] ∧ Av Z h' t .byte ((wide cs).map Value.int))) (T.setTop (fr m 8 [.val (.ref src), .val (.int (Int32.ofNat i)), .val (.int (Int32.ofNat cs.length)), .val (.ref t), .val (.int (Int32.ofNat i))] [])) := by
  subst hR hc1 hs1
  intro r
  induction r with
  | zero =>
    intro i hri T locs hc X eT As Oc N K At
    refine Go.iload B X d5_8 (pc' := 10) rfl rfl ?_
    refine Go.iloadN B X d5_10 (pc' := 11) rfl rfl ?_
    refine Go.ic B X d5_11 (by decide) (pcT := 32) rfl (pc' := 14) rfl (fun hcd => ?_) (fun hcd => ?_)
    · dsimp only [GoKit.CP] at hcd
      have hk : ¬ i < cs.length := fun q => hcd ((lt_ofNat (by omega) (by omega)).mpr q)
      have hi2 : i = cs.length := by omega
      subst hi2
      have A2 : Av Z hc t .byte ((wide cs).map Value.int) := by simpa using At
      refine Go.aloadN B X d5_32 (pc' := 33) rfl rfl rfl ?_
      exact Go.aret B X d5_33 rfl rfl rfl nb nb ⟨t, rfl, nth, nt, N, by rw [eT]; exact K, by rw [eT]; exact A2⟩
    · dsimp only [GoKit.CN] at hcd
      have hk : i < cs.length := (lt_ofNat (by omega) (by omega)).mp hcd
      obtain ⟨cc, hcc⟩ : ∃ cc, cs[i]? = some cc := ⟨cs[i], by simp [hk]⟩
      have At2 : Av Z hc t .byte ((wide (cs.take i) ++ List.replicate (2 * ((cs.length - i - 1) + 1)) 0).map Value.int) := by rw [show cs.length - i - 1 + 1 = cs.length - i by omega]; exact At
      refine Go.aloadN B X d5_14 (pc' := 15) rfl rfl rfl ?_
      refine Go.iload B X d5_15 (pc' := 17) rfl rfl ?_
      refine Go.aloadN B X d5_17 (pc' := 18) rfl rfl rfl ?_
      refine Go.iloadN B X d5_18 (pc' := 19) rfl rfl ?_
      refine Go.caload B X eT As i d5_19 (pc' := 20) rfl rfl (v := .int cc) (by rw [List.getElem?_map, hcc]; rfl) ?_
      refine Go.callS B X eT (y := ⟨"java/lang/StringUTF16", "putChar", "([BII)V"⟩) (Ct.back (W := 0) (ct_putChar l Z a0 hw t i cc _ hc n0 hS Oc nt At2 (by simp [wide_len]; omega) (by simp [wide_len]; omega)) B.hZ (tw hw 102 rfl) (tw hw 56 rfl) nb nb) (tw hw 100 rfl) (tw hw 101 rfl) (tw hw 56 rfl) (tw hw 102 rfl) (by decide) pd_2 d5_20 (pc' := 23) rfl rfl (rest := []) rfl rfl nb nb nb ?_
      intro vq Tq Lq Xq Qq
      obtain ⟨rfl, Nq, Kq, Aq⟩ := Qq
      dsimp only [Option.toList, List.nil_append, List.cons_append]
      have e1 : (cs.take i).length = i := by simp; omega
      have ws := wide_step (cs.take i) cc (cs.length - i - 1)
      rw [e1, ← take_step hcc] at ws
      rw [ws] at Aq
      have As2 := As.keep Kq (ninS hst nin0)
      have Oq := Oc.keep Kq (allS nt all0)
      have K2 : Keep h Tq.heap [] := K.trans Kq (fun x hx => Or.inr (by simp at hx; subst hx; exact nth))
      refine Go.iinc B Xq 1 d5_23 (pc' := 26) rfl rfl rfl ?_
      dsimp only [put1]
      refine Go.iinc B Xq 1 d5_26 (pc' := 29) rfl rfl rfl ?_
      dsimp only [put1]
      refine Go.goto B Xq d5_29 (by decide) (pc' := 8) rfl ?_
      rw [ofNat_succ]
      omega
  | succ r ih =>
    intro i hri T locs hc X eT As Oc N K At
    refine Go.iload B X d5_8 (pc' := 10) rfl rfl ?_
    refine Go.iloadN B X d5_10 (pc' := 11) rfl rfl ?_
    refine Go.ic B X d5_11 (by decide) (pcT := 32) rfl (pc' := 14) rfl (fun hcd => ?_) (fun hcd => ?_)
    · dsimp only [GoKit.CP] at hcd
      have hk : ¬ i < cs.length := fun q => hcd ((lt_ofNat (by omega) (by omega)).mpr q)
      have hi2 : i = cs.length := by omega
      subst hi2
      have A2 : Av Z hc t .byte ((wide cs).map Value.int) := by simpa using At
      refine Go.aloadN B X d5_32 (pc' := 33) rfl rfl rfl ?_
      exact Go.aret B X d5_33 rfl rfl rfl nb nb ⟨t, rfl, nth, nt, N, by rw [eT]; exact K, by rw [eT]; exact A2⟩
    · dsimp only [GoKit.CN] at hcd
      have hk : i < cs.length := (lt_ofNat (by omega) (by omega)).mp hcd
      obtain ⟨cc, hcc⟩ : ∃ cc, cs[i]? = some cc := ⟨cs[i], by simp [hk]⟩
      have At2 : Av Z hc t .byte ((wide (cs.take i) ++ List.replicate (2 * ((cs.length - i - 1) + 1)) 0).map Value.int) := by rw [show cs.length - i - 1 + 1 = cs.length - i by omega]; exact At
      refine Go.aloadN B X d5_14 (pc' := 15) rfl rfl rfl ?_
      refine Go.iload B X d5_15 (pc' := 17) rfl rfl ?_
      refine Go.aloadN B X d5_17 (pc' := 18) rfl rfl rfl ?_
      refine Go.iloadN B X d5_18 (pc' := 19) rfl rfl ?_
      refine Go.caload B X eT As i d5_19 (pc' := 20) rfl rfl (v := .int cc) (by rw [List.getElem?_map, hcc]; rfl) ?_
      refine Go.callS B X eT (y := ⟨"java/lang/StringUTF16", "putChar", "([BII)V"⟩) (Ct.back (W := 0) (ct_putChar l Z a0 hw t i cc _ hc n0 hS Oc nt At2 (by simp [wide_len]; omega) (by simp [wide_len]; omega)) B.hZ (tw hw 102 rfl) (tw hw 56 rfl) nb nb) (tw hw 100 rfl) (tw hw 101 rfl) (tw hw 56 rfl) (tw hw 102 rfl) (by decide) pd_2 d5_20 (pc' := 23) rfl rfl (rest := []) rfl rfl nb nb nb ?_
      intro vq Tq Lq Xq Qq
      obtain ⟨rfl, Nq, Kq, Aq⟩ := Qq
      dsimp only [Option.toList, List.nil_append, List.cons_append]
      have e1 : (cs.take i).length = i := by simp; omega
      have ws := wide_step (cs.take i) cc (cs.length - i - 1)
      rw [e1, ← take_step hcc] at ws
      rw [ws] at Aq
      have As2 := As.keep Kq (ninS hst nin0)
      have Oq := Oc.keep Kq (allS nt all0)
      have K2 : Keep h Tq.heap [] := K.trans Kq (fun x hx => Or.inr (by simp at hx; subst hx; exact nth))
      refine Go.iinc B Xq 1 d5_23 (pc' := 26) rfl rfl rfl ?_
      dsimp only [put1]
      refine Go.iinc B Xq 1 d5_26 (pc' := 29) rfl rfl rfl ?_
      dsimp only [put1]
      refine Go.goto B Xq d5_29 (by decide) (pc' := 8) rfl ?_
      rw [ofNat_succ]
      exact ih (i + 1) (by omega) (X := Xq) rfl As2 Oq (Fr.app N Nq) K2 (by rw [show cs.length - (i + 1) = cs.length - i - 1 by omega]; exact Aq)
set_option maxRecDepth 65536 in
set_option maxHeartbeats 40000000 in
theorem ct_toBytes (l : Launch) (Z : State) (a0 : Array Value) (hw : ∀ d ∈ tables_1, d.before a0 Z = true) (src : Addr) (cs : List Int32) (h : Heap) (n0 : Nat) (hS : Stz Z) (O : Old Z n0 h) (A0 : Av Z h src .char (cs.map Value.int)) (hn : cs.length ≤ 8) :
    Ct l Z ⟨"java/lang/StringUTF16", "toBytes", "([CII)[B"⟩ jdk_52_method_14_code 5 (some (.array .byte)) [] ct_toBytes_R ct_toBytes_R.cells ct_toBytes_R.slots [(.ref src), (.int (0 : Int32)), (.int (Int32.ofNat cs.length))] h (fun v h' L => ∃ t, v = some (.ref t) ∧ h.size ≤ t ∧ n0 ≤ t ∧ Fr n0 L ∧ Keep h h' [] ∧ Av Z h' t .byte ((wide cs).map Value.int)) := by
  refine Ct.mk (L0 := [.val (.ref src), .val (.int (0 : Int32)), .val (.int (Int32.ofNat cs.length)), .unset, .unset]) (plainFor_of_name pn_0) (fun m => by first | (simp [entryFrame, mkF, argsToLocals, Value.category]; done) | rfl) ?_
  intro p e s m below meth c s₁ B X0 e0
  refine Go.iloadN B X0 d5_0 (pc' := 1) rfl rfl ?_
  refine Go.callS B X0 e0 (y := ⟨"java/lang/StringUTF16", "newBytesFor", "(I)[B"⟩) (Ct.back (W := 0) (ct_newFor l Z a0 hw cs.length h n0 hn) B.hZ (tw hw 95 rfl) (tw hw 56 rfl) nb nb) (tw hw 93 rfl) (tw hw 94 rfl) (tw hw 56 rfl) (tw hw 95 rfl) (by decide) pd_1 d5_1 (pc' := 4) rfl rfl (rest := []) rfl rfl nb nb nb ?_
  intro va Ta La Xa Qa
  obtain ⟨t, rfl, gt, Na, Ea, Aa⟩ := Qa
  dsimp only [Option.toList, List.nil_append, List.cons_append]
  refine Go.astoreN B Xa d5_4 (pc' := 5) rfl rfl rfl rfl ?_
  dsimp only [put1]
  refine Go.iconst B Xa 0 d5_5 (pc' := 6) rfl rfl ?_
  refine Go.istore B Xa d5_6 (pc' := 8) rfl rfl rfl ?_
  dsimp only [put1]
  exact own_tb hw hS B rfl (by rw [gt, ← O.1]; exact O.2.1) (Nat.le_of_eq gt.symm) (Nat.ne_of_lt (Nat.lt_of_lt_of_eq A0.lt gt.symm)) hn rfl rfl cs.length 0 (by simp) Xa rfl (A0.ext Ea) (O.ext Ea) (Fr.app (Fr.nil _) Na) ((Keep.refl h []).ext Ea) (by simpa [wide] using Aa)
theorem d6_0 : decode jdk_52_method_21_code 0 = .ok (.iconst 0, 1) := by decide +kernel
theorem d6_1 : decode jdk_52_method_21_code 1 = .ok (.istore 5, 2) := by decide +kernel
theorem d6_3 : decode jdk_52_method_21_code 3 = .ok (.iload 5, 2) := by decide +kernel
theorem d6_5 : decode jdk_52_method_21_code 5 = .ok (.iload 4, 2) := by decide +kernel
theorem d6_7 : decode jdk_52_method_21_code 7 = .ok (.if_icmp .ge 37, 3) := by decide +kernel
theorem d6_10 : decode jdk_52_method_21_code 10 = .ok (.aload_n 0, 1) := by decide +kernel
theorem d6_11 : decode jdk_52_method_21_code 11 = .ok (.iload_n 1, 1) := by decide +kernel
theorem d6_12 : decode jdk_52_method_21_code 12 = .ok (.caload, 1) := by decide +kernel
theorem d6_13 : decode jdk_52_method_21_code 13 = .ok (.istore 6, 2) := by decide +kernel
theorem d6_15 : decode jdk_52_method_21_code 15 = .ok (.iload 6, 2) := by decide +kernel
theorem d6_17 : decode jdk_52_method_21_code 17 = .ok (.sipush 255, 3) := by decide +kernel
theorem d6_20 : decode jdk_52_method_21_code 20 = .ok (.if_icmp .le 6, 3) := by decide +kernel
theorem d6_23 : decode jdk_52_method_21_code 23 = .ok (.iload 5, 2) := by decide +kernel
theorem d6_25 : decode jdk_52_method_21_code 25 = .ok (.ireturn, 1) := by decide +kernel
theorem d6_26 : decode jdk_52_method_21_code 26 = .ok (.aload_n 2, 1) := by decide +kernel
theorem d6_27 : decode jdk_52_method_21_code 27 = .ok (.iload_n 3, 1) := by decide +kernel
theorem d6_28 : decode jdk_52_method_21_code 28 = .ok (.iload 6, 2) := by decide +kernel
theorem d6_30 : decode jdk_52_method_21_code 30 = .ok (.i2b, 1) := by decide +kernel
theorem d6_31 : decode jdk_52_method_21_code 31 = .ok (.bastore, 1) := by decide +kernel
theorem d6_32 : decode jdk_52_method_21_code 32 = .ok (.iinc 1 1, 3) := by decide +kernel
theorem d6_35 : decode jdk_52_method_21_code 35 = .ok (.iinc 3 1, 3) := by decide +kernel
theorem d6_38 : decode jdk_52_method_21_code 38 = .ok (.iinc 5 1, 3) := by decide +kernel
theorem d6_41 : decode jdk_52_method_21_code 41 = .ok (.goto (-38), 3) := by decide +kernel
theorem d6_44 : decode jdk_52_method_21_code 44 = .ok (.iload 4, 2) := by decide +kernel
theorem d6_46 : decode jdk_52_method_21_code 46 = .ok (.ireturn, 1) := by decide +kernel
set_option maxRecDepth 65536 in
set_option maxHeartbeats 4000000 in
theorem own_c5 {p : Program} {l : Launch} {e : Env} {R : Room} {s : State} {m : MethodId} {args : Array Value} {below : List Frame} {meth : Method} {c : Code} {Z : State} {a0 : Array Value} {nm : String} {n0 : Nat} {h : Heap} {cs : List Int32} {src d : Addr} (hw : ∀ d ∈ tables_1, d.before a0 Z = true) (B : Ctx p Z s m meth c "java/lang/StringUTF16" nm jdk_52_method_21_code 7 (some .int)) (nd : n0 ≤ d) (hsd : src ≠ d) (hn : cs.length ≤ 8) :
    ∀ (r i : Nat), r + i = cs.length → ∀ (sl : Slot) (hsl : one sl = true) {T : State} {locs : List Loc} {hc : Heap} (X : Stand p l e R s m args below meth c T locs 0 0) (eT : T.heap = hc), Av Z hc src .char (cs.map Value.int) → Fr n0 locs → Keep h hc [d] → (∀ x ∈ cs.take i, ¬ 255 < x) → Av Z hc d .byte (((cs.take i).map lo8 ++ List.replicate (cs.length - i) 0).map Value.int) →
      Go p e below (End s 0 0 (fun v h' L => ∃ k, v = some (.int (Int32.ofNat k)) ∧ k ≤ cs.length ∧ Fr n0 L ∧ Keep h h' [d] ∧ (k = cs.length → (∀ x ∈ cs, ¬ 255 < x) ∧ Av Z h' d .byte ((cs.map lo8).map Value.int)) ∧ (k < cs.length → ∃ x, cs[k]? = some x ∧ 255 < x))) (T.setTop (fr m 3 [.val (.ref src), .val (.int (Int32.ofNat i)), .val (.ref d), .val (.int (Int32.ofNat i)), .val (.int (Int32.ofNat cs.length)), .val (.int (Int32.ofNat i)), sl] [])) := by
  intro r
  induction r with
  | zero =>
    intro i hri sl hsl T locs hc X eT As N K hlow At
    refine Go.iload B X d6_3 (pc' := 5) rfl rfl ?_
    refine Go.iload B X d6_5 (pc' := 7) rfl rfl ?_
    refine Go.ic B X d6_7 (by decide) (pcT := 44) rfl (pc' := 10) rfl (fun hcd => ?_) (fun hcd => ?_)
    · dsimp only [GoKit.CP] at hcd
      have hk : ¬ i < cs.length := fun q => hcd ((lt_ofNat (by omega) (by omega)).mpr q)
      have hi2 : i = cs.length := by omega
      subst hi2
      refine Go.iload B X d6_44 (pc' := 46) rfl rfl ?_
      exact Go.iret B X d6_46 nb nb ⟨_, rfl, Nat.le_refl _, N, by rw [eT]; exact K, fun _ => ⟨by simpa using hlow, by rw [eT]; simpa using At⟩, fun q => absurd q (Nat.lt_irrefl _)⟩
    · dsimp only [GoKit.CN] at hcd
      have hk : i < cs.length := (lt_ofNat (by omega) (by omega)).mp hcd
      obtain ⟨cc, hcc⟩ : ∃ cc, cs[i]? = some cc := ⟨cs[i], by simp [hk]⟩
      have At2 : Av Z hc d .byte (((cs.take i).map lo8 ++ List.replicate ((cs.length - i - 1) + 1) 0).map Value.int) := by rw [show cs.length - i - 1 + 1 = cs.length - i by omega]; exact At
      have e1 : (cs.take i).length = i := by simp; omega
      refine Go.aloadN B X d6_10 (pc' := 11) rfl rfl rfl ?_
      refine Go.iloadN B X d6_11 (pc' := 12) rfl rfl ?_
      refine Go.caload B X eT As i d6_12 (pc' := 13) rfl rfl (v := .int cc) (by rw [List.getElem?_map, hcc]; rfl) ?_
      refine Go.istore B X d6_13 (pc' := 15) rfl rfl hsl ?_
      dsimp only [put1]
      refine Go.iload B X d6_15 (pc' := 17) rfl rfl ?_
      refine Go.sipush B X 255 d6_17 (pc' := 20) rfl rfl ?_
      refine Go.ic B X d6_20 (by decide) (pcT := 26) rfl (pc' := 23) rfl (fun hc2 => ?_) (fun hc2 => ?_)
      · dsimp only [GoKit.CP] at hc2
        refine Go.aloadN B X d6_26 (pc' := 27) rfl rfl rfl ?_
        refine Go.iloadN B X d6_27 (pc' := 28) rfl rfl ?_
        refine Go.iload B X d6_28 (pc' := 30) rfl rfl ?_
        refine Go.i2b B X d6_30 (pc' := 31) rfl ?_
        refine Go.bastore B X eT At2 i d6_31 (pc' := 32) rfl rfl (by simp; omega) ?_
        intro Tq hq Lq Fq Xq eq Wq Aq'
        rw [nar_lo, ← List.map_set] at Aq'
        have ws := lat_step (cs.take i) cc (cs.length - i - 1)
        rw [e1, ← take_step hcc] at ws
        rw [ws] at Aq'
        have As2 := As.other Wq hsd
        have K2 : Keep h hq [d] := K.wr Wq (Or.inl (by simp))
        have hlow2 : ∀ x ∈ cs.take (i + 1), ¬ 255 < x := by
          intro x hx
          rw [take_step hcc] at hx
          rcases List.mem_append.mp hx with q | q
          · exact hlow x q
          · rw [List.mem_singleton.mp q]; exact hc2
        refine Go.iinc B Xq 1 d6_32 (pc' := 35) rfl rfl rfl ?_
        dsimp only [put1]
        refine Go.iinc B Xq 1 d6_35 (pc' := 38) rfl rfl rfl ?_
        dsimp only [put1]
        refine Go.iinc B Xq 1 d6_38 (pc' := 41) rfl rfl rfl ?_
        dsimp only [put1]
        refine Go.goto B Xq d6_41 (by decide) (pc' := 3) rfl ?_
        rw [ofNat_succ]
        omega
      · dsimp only [GoKit.CN] at hc2
        refine Go.iload B X d6_23 (pc' := 25) rfl rfl ?_
        exact Go.iret B X d6_25 nb nb ⟨i, rfl, by omega, N, by rw [eT]; exact K, fun q => absurd q (by omega), fun _ => ⟨cc, hcc, hc2⟩⟩
  | succ r ih =>
    intro i hri sl hsl T locs hc X eT As N K hlow At
    refine Go.iload B X d6_3 (pc' := 5) rfl rfl ?_
    refine Go.iload B X d6_5 (pc' := 7) rfl rfl ?_
    refine Go.ic B X d6_7 (by decide) (pcT := 44) rfl (pc' := 10) rfl (fun hcd => ?_) (fun hcd => ?_)
    · dsimp only [GoKit.CP] at hcd
      have hk : ¬ i < cs.length := fun q => hcd ((lt_ofNat (by omega) (by omega)).mpr q)
      have hi2 : i = cs.length := by omega
      subst hi2
      refine Go.iload B X d6_44 (pc' := 46) rfl rfl ?_
      exact Go.iret B X d6_46 nb nb ⟨_, rfl, Nat.le_refl _, N, by rw [eT]; exact K, fun _ => ⟨by simpa using hlow, by rw [eT]; simpa using At⟩, fun q => absurd q (Nat.lt_irrefl _)⟩
    · dsimp only [GoKit.CN] at hcd
      have hk : i < cs.length := (lt_ofNat (by omega) (by omega)).mp hcd
      obtain ⟨cc, hcc⟩ : ∃ cc, cs[i]? = some cc := ⟨cs[i], by simp [hk]⟩
      have At2 : Av Z hc d .byte (((cs.take i).map lo8 ++ List.replicate ((cs.length - i - 1) + 1) 0).map Value.int) := by rw [show cs.length - i - 1 + 1 = cs.length - i by omega]; exact At
      have e1 : (cs.take i).length = i := by simp; omega
      refine Go.aloadN B X d6_10 (pc' := 11) rfl rfl rfl ?_
      refine Go.iloadN B X d6_11 (pc' := 12) rfl rfl ?_
      refine Go.caload B X eT As i d6_12 (pc' := 13) rfl rfl (v := .int cc) (by rw [List.getElem?_map, hcc]; rfl) ?_
      refine Go.istore B X d6_13 (pc' := 15) rfl rfl hsl ?_
      dsimp only [put1]
      refine Go.iload B X d6_15 (pc' := 17) rfl rfl ?_
      refine Go.sipush B X 255 d6_17 (pc' := 20) rfl rfl ?_
      refine Go.ic B X d6_20 (by decide) (pcT := 26) rfl (pc' := 23) rfl (fun hc2 => ?_) (fun hc2 => ?_)
      · dsimp only [GoKit.CP] at hc2
        refine Go.aloadN B X d6_26 (pc' := 27) rfl rfl rfl ?_
        refine Go.iloadN B X d6_27 (pc' := 28) rfl rfl ?_
        refine Go.iload B X d6_28 (pc' := 30) rfl rfl ?_
        refine Go.i2b B X d6_30 (pc' := 31) rfl ?_
        refine Go.bastore B X eT At2 i d6_31 (pc' := 32) rfl rfl (by simp; omega) ?_
        intro Tq hq Lq Fq Xq eq Wq Aq'
        rw [nar_lo, ← List.map_set] at Aq'
        have ws := lat_step (cs.take i) cc (cs.length - i - 1)
        rw [e1, ← take_step hcc] at ws
        rw [ws] at Aq'
        have As2 := As.other Wq hsd
        have K2 : Keep h hq [d] := K.wr Wq (Or.inl (by simp))
        have hlow2 : ∀ x ∈ cs.take (i + 1), ¬ 255 < x := by
          intro x hx
          rw [take_step hcc] at hx
          rcases List.mem_append.mp hx with q | q
          · exact hlow x q
          · rw [List.mem_singleton.mp q]; exact hc2
        refine Go.iinc B Xq 1 d6_32 (pc' := 35) rfl rfl rfl ?_
        dsimp only [put1]
        refine Go.iinc B Xq 1 d6_35 (pc' := 38) rfl rfl rfl ?_
        dsimp only [put1]
        refine Go.iinc B Xq 1 d6_38 (pc' := 41) rfl rfl rfl ?_
        dsimp only [put1]
        refine Go.goto B Xq d6_41 (by decide) (pc' := 3) rfl ?_
        rw [ofNat_succ]
        exact ih (i + 1) (by omega) _ rfl Xq eq As2 (Fr.app N (GoKit.Fr.low Fq nd)) K2 hlow2 (by rw [show cs.length - (i + 1) = cs.length - i - 1 by omega]; exact Aq')
      · dsimp only [GoKit.CN] at hc2
        refine Go.iload B X d6_23 (pc' := 25) rfl rfl ?_
        exact Go.iret B X d6_25 nb nb ⟨i, rfl, by omega, N, by rw [eT]; exact K, fun q => absurd q (by omega), fun _ => ⟨cc, hcc, hc2⟩⟩

def ct_c5_R : Room := ({ frames := 0, cells := 0, slots := 0, locals := 0 } : Room)
set_option maxRecDepth 65536 in
set_option maxHeartbeats 40000000 in
theorem ct_c5 (l : Launch) (Z : State) (a0 : Array Value) (hw : ∀ d ∈ tables_1, d.before a0 Z = true) (src d : Addr) (cs : List Int32) (h : Heap) (n0 : Nat) (nd : n0 ≤ d) (hsd : src ≠ d) (As : Av Z h src .char (cs.map Value.int)) (Ad : Av Z h d .byte ((List.replicate cs.length (0 : Int32)).map Value.int)) (hn : cs.length ≤ 8) :
    Ct l Z ⟨"java/lang/StringUTF16", "compress", "([CI[BII)I"⟩ jdk_52_method_21_code 7 (some .int) [] ct_c5_R ct_c5_R.cells ct_c5_R.slots [(.ref src), (.int (0 : Int32)), (.ref d), (.int (0 : Int32)), (.int (Int32.ofNat cs.length))] h (fun v h' L => ∃ k, v = some (.int (Int32.ofNat k)) ∧ k ≤ cs.length ∧ Fr n0 L ∧ Keep h h' [d] ∧ (k = cs.length → (∀ x ∈ cs, ¬ 255 < x) ∧ Av Z h' d .byte ((cs.map lo8).map Value.int)) ∧ (k < cs.length → ∃ x, cs[k]? = some x ∧ 255 < x)) := by
  refine Ct.mk (L0 := [.val (.ref src), .val (.int (0 : Int32)), .val (.ref d), .val (.int (0 : Int32)), .val (.int (Int32.ofNat cs.length)), .unset, .unset]) (plainFor_of_name pn_0) (fun m => by first | (simp [entryFrame, mkF, argsToLocals, Value.category]; done) | rfl) ?_
  intro p e s m below meth c s₁ B X0 e0
  refine Go.iconst B X0 0 d6_0 (pc' := 1) rfl rfl ?_
  refine Go.istore B X0 d6_1 (pc' := 3) rfl rfl rfl ?_
  dsimp only [put1]
  exact own_c5 hw B nd hsd hn cs.length 0 (by simp) .unset rfl X0 e0 As (Fr.nil _) (Keep.refl h [d]) (by simp) (by simpa using Ad)
theorem d7_0 : decode jdk_52_method_16_code 0 = .ok (.iload_n 2, 1) := by decide +kernel
theorem d7_1 : decode jdk_52_method_16_code 1 = .ok (.newarray .byte, 2) := by decide +kernel
theorem d7_3 : decode jdk_52_method_16_code 3 = .ok (.astore_n 3, 1) := by decide +kernel
theorem d7_4 : decode jdk_52_method_16_code 4 = .ok (.aload_n 0, 1) := by decide +kernel
theorem d7_5 : decode jdk_52_method_16_code 5 = .ok (.iload_n 1, 1) := by decide +kernel
theorem d7_6 : decode jdk_52_method_16_code 6 = .ok (.aload_n 3, 1) := by decide +kernel
theorem d7_7 : decode jdk_52_method_16_code 7 = .ok (.iconst 0, 1) := by decide +kernel
theorem d7_8 : decode jdk_52_method_16_code 8 = .ok (.iload_n 2, 1) := by decide +kernel
theorem d7_9 : decode jdk_52_method_16_code 9 = .ok (.invokestatic 115, 3) := by decide +kernel
theorem d7_12 : decode jdk_52_method_16_code 12 = .ok (.istore 4, 2) := by decide +kernel
theorem d7_14 : decode jdk_52_method_16_code 14 = .ok (.iload 4, 2) := by decide +kernel
theorem d7_16 : decode jdk_52_method_16_code 16 = .ok (.iload_n 2, 1) := by decide +kernel
theorem d7_17 : decode jdk_52_method_16_code 17 = .ok (.if_icmp .eq 40, 3) := by decide +kernel
theorem d7_20 : decode jdk_52_method_16_code 20 = .ok (.aload_n 0, 1) := by decide +kernel
theorem d7_21 : decode jdk_52_method_16_code 21 = .ok (.iload_n 1, 1) := by decide +kernel
theorem d7_22 : decode jdk_52_method_16_code 22 = .ok (.iload_n 2, 1) := by decide +kernel
theorem d7_23 : decode jdk_52_method_16_code 23 = .ok (.invokestatic 119, 3) := by decide +kernel
theorem d7_26 : decode jdk_52_method_16_code 26 = .ok (.astore 5, 2) := by decide +kernel
theorem d7_28 : decode jdk_52_method_16_code 28 = .ok (.aload 5, 2) := by decide +kernel
theorem d7_30 : decode jdk_52_method_16_code 30 = .ok (.iload 4, 2) := by decide +kernel
theorem d7_32 : decode jdk_52_method_16_code 32 = .ok (.invokestatic 71, 3) := by decide +kernel
theorem d7_35 : decode jdk_52_method_16_code 35 = .ok (.sipush 255, 3) := by decide +kernel
theorem d7_38 : decode jdk_52_method_16_code 38 = .ok (.if_icmp .gt 16, 3) := by decide +kernel
theorem d7_41 : decode jdk_52_method_16_code 41 = .ok (.aload 5, 2) := by decide +kernel
theorem d7_43 : decode jdk_52_method_16_code 43 = .ok (.iconst 0, 1) := by decide +kernel
theorem d7_44 : decode jdk_52_method_16_code 44 = .ok (.aload_n 3, 1) := by decide +kernel
theorem d7_45 : decode jdk_52_method_16_code 45 = .ok (.iconst 0, 1) := by decide +kernel
theorem d7_46 : decode jdk_52_method_16_code 46 = .ok (.iload_n 2, 1) := by decide +kernel
theorem d7_47 : decode jdk_52_method_16_code 47 = .ok (.invokestatic 123, 3) := by decide +kernel
theorem d7_50 : decode jdk_52_method_16_code 50 = .ok (.iload_n 2, 1) := by decide +kernel
theorem d7_51 : decode jdk_52_method_16_code 51 = .ok (.if_icmp .eq 6, 3) := by decide +kernel
theorem d7_54 : decode jdk_52_method_16_code 54 = .ok (.aload 5, 2) := by decide +kernel
theorem d7_56 : decode jdk_52_method_16_code 56 = .ok (.areturn, 1) := by decide +kernel
theorem d7_57 : decode jdk_52_method_16_code 57 = .ok (.aload_n 3, 1) := by decide +kernel
theorem d7_58 : decode jdk_52_method_16_code 58 = .ok (.areturn, 1) := by decide +kernel
theorem pd_3 : parseMethodDescriptor "([CI[BII)I" = some ⟨[(.array .char), .int, (.array .byte), .int, .int], some .int⟩ := by decide +kernel
theorem pd_4 : parseMethodDescriptor "([CII)[B" = some ⟨[(.array .char), .int, .int], some (.array .byte)⟩ := by decide +kernel
theorem pd_5 : parseMethodDescriptor "([BI)C" = some ⟨[(.array .byte), .int], some .char⟩ := by decide +kernel
def ct_c3_R : Room := ({ frames := 3, cells := 2, slots := 24, locals := 100 } : Room)
set_option maxRecDepth 65536 in
set_option maxHeartbeats 40000000 in
theorem ct_c3 (l : Launch) (Z : State) (a0 : Array Value) (hw : ∀ d ∈ tables_1, d.before a0 Z = true) (src : Addr) (cs : List Int32) (h : Heap) (n0 : Nat) (hS : Stz Z) (O : Old Z n0 h) (As : Av Z h src .char (cs.map Value.int)) (hn : cs.length ≤ 8) (hr : ∀ x ∈ cs, ¬ x < 0 ∧ ¬ 65535 < x) :
    Ct l Z ⟨"java/lang/StringUTF16", "compress", "([CII)[B"⟩ jdk_52_method_16_code 6 (some (.array .byte)) [] ct_c3_R ct_c3_R.cells ct_c3_R.slots [(.ref src), (.int (0 : Int32)), (.int (Int32.ofNat cs.length))] h (fun v h' L => ∃ t, v = some (.ref t) ∧ h.size ≤ t ∧ n0 ≤ t ∧ Fr n0 L ∧ Keep h h' [] ∧ (((∀ x ∈ cs, ¬ 255 < x) ∧ Av Z h' t .byte ((cs.map lo8).map Value.int)) ∨ ((∃ x ∈ cs, 255 < x) ∧ Av Z h' t .byte ((wide cs).map Value.int)))) := by
  refine Ct.mk (L0 := [.val (.ref src), .val (.int (0 : Int32)), .val (.int (Int32.ofNat cs.length)), .unset, .unset, .unset]) (plainFor_of_name pn_0) (fun m => by first | (simp [entryFrame, mkF, argsToLocals, Value.category]; done) | rfl) ?_
  intro p e s m below meth c s₁ B X0 e0
  refine Go.iloadN B X0 d7_0 (pc' := 1) rfl rfl ?_
  refine Go.newP B X0 e0 cs.length (tw hw 9 rfl) d7_1 (pc' := 3) rfl rfl (by omega) nb (by show 0 + cs.length ≤ 24; omega) ?_
  intro Ta ha d ga Xa ea Ea Aa'
  have Aa : Av Z ha d .byte ((List.replicate cs.length (0 : Int32)).map Value.int) := by rw [List.map_replicate]; exact Aa'
  have nd : n0 ≤ d := by rw [ga, ← O.1]; exact O.2.1
  have hsd : src ≠ d := Nat.ne_of_lt (Nat.lt_of_lt_of_eq As.lt ga.symm)
  have As1 := As.ext Ea
  have O1 := O.ext Ea
  refine Go.astoreN B Xa d7_3 (pc' := 4) rfl rfl rfl rfl ?_
  dsimp only [put1]
  refine Go.aloadN B Xa d7_4 (pc' := 5) rfl rfl rfl ?_
  refine Go.iloadN B Xa d7_5 (pc' := 6) rfl rfl ?_
  refine Go.aloadN B Xa d7_6 (pc' := 7) rfl rfl rfl ?_
  refine Go.iconst B Xa 0 d7_7 (pc' := 8) rfl rfl ?_
  refine Go.iloadN B Xa d7_8 (pc' := 9) rfl rfl ?_
  refine Go.callS B Xa ea (y := ⟨"java/lang/StringUTF16", "compress", "([CI[BII)I"⟩) (Ct.back (W := 0) (ct_c5 l Z a0 hw src d cs ha n0 nd hsd As1 Aa hn) B.hZ (tw hw 60 rfl) (tw hw 56 rfl) nb nb) (tw hw 58 rfl) (tw hw 59 rfl) (tw hw 56 rfl) (tw hw 60 rfl) (by decide) pd_3 d7_9 (pc' := 12) rfl rfl (rest := []) rfl rfl nb nb (by show 0 + cs.length + 0 ≤ 24; omega) ?_
  intro vb Tb Lb Xb Qb
  obtain ⟨k, rfl, hk, Nb, Kb, q1, q2⟩ := Qb
  dsimp only [Option.toList, List.nil_append, List.cons_append]
  have Kb' : Keep h Tb.heap [] := ((Keep.refl h []).ext Ea).trans Kb (fun x hx => Or.inr (by simp at hx; subst hx; exact Nat.le_of_eq ga.symm))
  have As2 := As1.keep Kb (ninS hsd nin0)
  have Ob := O1.keep Kb (allS nd all0)
  refine Go.istore B Xb d7_12 (pc' := 14) rfl rfl rfl ?_
  dsimp only [put1]
  refine Go.iload B Xb d7_14 (pc' := 16) rfl rfl ?_
  refine Go.iloadN B Xb d7_16 (pc' := 17) rfl rfl ?_
  refine Go.ic B Xb d7_17 (by decide) (pcT := 57) rfl (pc' := 20) rfl (fun hc => ?_) (fun hc => ?_)
  · dsimp only [GoKit.CP] at hc
    have hk2 : k = cs.length := (eq_ofNat (by omega) (by omega)).mp hc
    obtain ⟨l1, l2⟩ := q1 hk2
    refine Go.aloadN B Xb d7_57 (pc' := 58) rfl rfl rfl ?_
    exact Go.aret B Xb d7_58 rfl rfl rfl nb (by show 0 + cs.length + 0 ≤ 24; omega) ⟨d, rfl, Nat.le_of_eq ga.symm, nd, Fr.app (Fr.nil _) Nb, Kb', Or.inl ⟨l1, l2⟩⟩
  · dsimp only [GoKit.CN] at hc
    have hk2 : k < cs.length := by
      rcases Nat.lt_or_eq_of_le hk with q | q
      · exact q
      · exact absurd (by rw [q]) hc
    obtain ⟨cc, hcc, hwide⟩ := q2 hk2
    refine Go.aloadN B Xb d7_20 (pc' := 21) rfl rfl rfl ?_
    refine Go.iloadN B Xb d7_21 (pc' := 22) rfl rfl ?_
    refine Go.iloadN B Xb d7_22 (pc' := 23) rfl rfl ?_
    refine Go.callS B Xb rfl (y := ⟨"java/lang/StringUTF16", "toBytes", "([CII)[B"⟩) (Ct.back (W := 0) (ct_toBytes l Z a0 hw src cs Tb.heap n0 hS Ob As2 hn) B.hZ (tw hw 92 rfl) (tw hw 56 rfl) nb nb) (tw hw 90 rfl) (tw hw 91 rfl) (tw hw 56 rfl) (tw hw 92 rfl) (by decide) pd_4 d7_23 (pc' := 26) rfl rfl (rest := []) rfl rfl nb nb (by show 0 + cs.length + 0 + 16 ≤ 24; omega) ?_
    intro vc Tc Lc Xc Qc
    obtain ⟨t, rfl, ht, nt, Nc, Kc, Ac⟩ := Qc
    dsimp only [Option.toList, List.nil_append, List.cons_append]
    have Oc := Ob.keep Kc all0
    have K3 : Keep h Tc.heap [] := Kb'.trans Kc (fun x hx => nomatch hx)
    refine Go.astore B Xc d7_26 (pc' := 28) rfl rfl rfl rfl ?_
    dsimp only [put1]
    refine Go.aload B Xc d7_28 (pc' := 30) rfl rfl rfl ?_
    refine Go.iload B Xc d7_30 (pc' := 32) rfl rfl ?_
    refine Go.callS B Xc rfl (y := ⟨"java/lang/StringUTF16", "getChar", "([BI)C"⟩) (Ct.back (W := 0) (ct_getChar l Z a0 hw t k cc cs Tc.heap n0 hS Oc Ac hcc (by omega) hk2 (hr cc (List.mem_of_getElem? hcc))) B.hZ (tw hw 108 rfl) (tw hw 56 rfl) nb nb) (tw hw 106 rfl) (tw hw 107 rfl) (tw hw 56 rfl) (tw hw 108 rfl) (by decide) pd_5 d7_32 (pc' := 35) rfl rfl (rest := []) rfl rfl nb nb (by show 0 + cs.length + 0 + 16 + 0 ≤ 24; omega) ?_
    intro vf Tf Lf Xf Qf
    obtain ⟨rfl, Nf, ef⟩ := Qf
    dsimp only [Option.toList, List.nil_append, List.cons_append]
    refine Go.sipush B Xf 255 d7_35 (pc' := 38) rfl rfl ?_
    refine Go.icT B Xf d7_38 (by decide) (pc' := 54) rfl hwide ?_
    refine Go.aload B Xf d7_54 (pc' := 56) rfl rfl rfl ?_
    exact Go.aret B Xf d7_56 rfl rfl rfl nb (by show 0 + cs.length + 0 + 16 + 0 ≤ 24; omega) ⟨t, rfl, Nat.le_trans Kb'.1 ht, nt, Fr.app (Fr.app (Fr.app (Fr.nil _) Nb) Nc) Nf, by rw [ef]; exact K3, Or.inr ⟨⟨cc, List.mem_of_getElem? hcc, hwide⟩, by rw [ef]; exact Ac⟩⟩
theorem own_cfl (n k : Nat) (hb : n ≤ 8 ∧ (k = n ∨ (k = 2 * n ∧ 0 < n))) : ((Int32.ofNat n - Int32.ofNat k).toUInt32 >>> ((31 : Int32) &&& 31).toUInt32).toInt32.toInt8.toInt32 = if k = n then 0 else 1 := by
  have t : ∀ a : Fin 9, (((Int32.ofNat a.val - Int32.ofNat a.val).toUInt32 >>> ((31 : Int32) &&& 31).toUInt32).toInt32.toInt8.toInt32 = 0) ∧ (0 < a.val → ((Int32.ofNat a.val - Int32.ofNat (2 * a.val)).toUInt32 >>> ((31 : Int32) &&& 31).toUInt32).toInt32.toInt8.toInt32 = 1) := by decide +kernel
  obtain ⟨h8, rfl | ⟨rfl, h0⟩⟩ := hb
  · rw [if_pos rfl]; exact (t ⟨k, by omega⟩).1
  · rw [if_neg (by omega)]; exact (t ⟨n, by omega⟩).2 h0
theorem d8_0 : decode jdk_52_method_15_code 0 = .ok (.iload_n 1, 1) := by decide +kernel
theorem d8_1 : decode jdk_52_method_15_code 1 = .ok (.aload_n 0, 1) := by decide +kernel
theorem d8_2 : decode jdk_52_method_15_code 2 = .ok (.arraylength, 1) := by decide +kernel
theorem d8_3 : decode jdk_52_method_15_code 3 = .ok (.isub, 1) := by decide +kernel
theorem d8_4 : decode jdk_52_method_15_code 4 = .ok (.bipush 31, 2) := by decide +kernel
theorem d8_6 : decode jdk_52_method_15_code 6 = .ok (.iushr, 1) := by decide +kernel
theorem d8_7 : decode jdk_52_method_15_code 7 = .ok (.i2b, 1) := by decide +kernel
theorem d8_8 : decode jdk_52_method_15_code 8 = .ok (.ireturn, 1) := by decide +kernel
def ct_cfl_R : Room := ({ frames := 0, cells := 0, slots := 0, locals := 0 } : Room)
set_option maxRecDepth 65536 in
set_option maxHeartbeats 40000000 in
theorem ct_cfl (l : Launch) (Z : State) (a0 : Array Value) (hw : ∀ d ∈ tables_1, d.before a0 Z = true) (b : Addr) (n : Nat) (bs : List Int32) (h : Heap) (n0 : Nat) (A0 : Av Z h b .byte (bs.map Value.int)) (hb0 : n ≤ 8 ∧ (bs.length = n ∨ (bs.length = 2 * n ∧ 0 < n))) :
    Ct l Z ⟨"java/lang/StringUTF16", "coderFromArrayLen", "([BI)B"⟩ jdk_52_method_15_code 2 (some .byte) [] ct_cfl_R ct_cfl_R.cells ct_cfl_R.slots [(.ref b), (.int (Int32.ofNat n))] h (fun v h' L => v = some (.int (if bs.length = n then 0 else 1)) ∧ Fr n0 L ∧ h' = h) := by
  refine Ct.mk (L0 := [.val (.ref b), .val (.int (Int32.ofNat n))]) (plainFor_of_name pn_0) (fun m => by first | (simp [entryFrame, mkF, argsToLocals, Value.category]; done) | rfl) ?_
  intro p e s m below meth c s₁ B X0 e0
  refine Go.iloadN B X0 d8_0 (pc' := 1) rfl rfl ?_
  refine Go.aloadN B X0 d8_1 (pc' := 2) rfl rfl rfl ?_
  refine Go.arraylength B X0 e0 A0 d8_2 (pc' := 3) rfl ?_
  refine Go.isub B X0 d8_3 (pc' := 4) rfl ?_
  refine Go.bipush B X0 31 d8_4 (pc' := 6) rfl rfl ?_
  refine Go.iushr B X0 d8_6 (pc' := 7) rfl ?_
  refine Go.i2b B X0 d8_7 (pc' := 8) rfl ?_
  rw [List.length_map]
  have ev := own_cfl n bs.length hb0
  rw [ev]
  exact Go.bret B X0 d8_8 (by split <;> rfl) nb nb ⟨rfl, Fr.nil _, e0⟩
theorem d9_0 : decode jdk_42_method_149_code 0 = .ok (.aload_n 0, 1) := by decide +kernel
theorem d9_1 : decode jdk_42_method_149_code 1 = .ok (.invokespecial 1, 3) := by decide +kernel
theorem d9_4 : decode jdk_42_method_149_code 4 = .ok (.iload_n 3, 1) := by decide +kernel
theorem d9_5 : decode jdk_42_method_149_code 5 = .ok (.ifCond .ne 22, 3) := by decide +kernel
theorem d9_8 : decode jdk_42_method_149_code 8 = .ok (.aload_n 0, 1) := by decide +kernel
theorem d9_9 : decode jdk_42_method_149_code 9 = .ok (.ldc 7, 2) := by decide +kernel
theorem d9_11 : decode jdk_42_method_149_code 11 = .ok (.getfield 9, 3) := by decide +kernel
theorem d9_14 : decode jdk_42_method_149_code 14 = .ok (.putfield 9, 3) := by decide +kernel
theorem d9_17 : decode jdk_42_method_149_code 17 = .ok (.aload_n 0, 1) := by decide +kernel
theorem d9_18 : decode jdk_42_method_149_code 18 = .ok (.ldc 7, 2) := by decide +kernel
theorem d9_20 : decode jdk_42_method_149_code 20 = .ok (.getfield 15, 3) := by decide +kernel
theorem d9_23 : decode jdk_42_method_149_code 23 = .ok (.putfield 15, 3) := by decide +kernel
theorem d9_26 : decode jdk_42_method_149_code 26 = .ok (.return_, 1) := by decide +kernel
theorem d9_27 : decode jdk_42_method_149_code 27 = .ok (.getstatic 38, 3) := by decide +kernel
theorem d9_30 : decode jdk_42_method_149_code 30 = .ok (.ifCond .eq 28, 3) := by decide +kernel
theorem d9_33 : decode jdk_42_method_149_code 33 = .ok (.aload_n 1, 1) := by decide +kernel
theorem d9_34 : decode jdk_42_method_149_code 34 = .ok (.iload_n 2, 1) := by decide +kernel
theorem d9_35 : decode jdk_42_method_149_code 35 = .ok (.iload_n 3, 1) := by decide +kernel
theorem d9_36 : decode jdk_42_method_149_code 36 = .ok (.invokestatic 177, 3) := by decide +kernel
theorem d9_39 : decode jdk_42_method_149_code 39 = .ok (.astore 5, 2) := by decide +kernel
theorem d9_41 : decode jdk_42_method_149_code 41 = .ok (.aload_n 0, 1) := by decide +kernel
theorem d9_42 : decode jdk_42_method_149_code 42 = .ok (.aload 5, 2) := by decide +kernel
theorem d9_44 : decode jdk_42_method_149_code 44 = .ok (.iload_n 3, 1) := by decide +kernel
theorem d9_45 : decode jdk_42_method_149_code 45 = .ok (.invokestatic 47, 3) := by decide +kernel
theorem d9_48 : decode jdk_42_method_149_code 48 = .ok (.putfield 15, 3) := by decide +kernel
theorem d9_51 : decode jdk_42_method_149_code 51 = .ok (.aload_n 0, 1) := by decide +kernel
theorem d9_52 : decode jdk_42_method_149_code 52 = .ok (.aload 5, 2) := by decide +kernel
theorem d9_54 : decode jdk_42_method_149_code 54 = .ok (.putfield 9, 3) := by decide +kernel
theorem d9_57 : decode jdk_42_method_149_code 57 = .ok (.return_, 1) := by decide +kernel
theorem d9_58 : decode jdk_42_method_149_code 58 = .ok (.aload_n 0, 1) := by decide +kernel
theorem d9_59 : decode jdk_42_method_149_code 59 = .ok (.iconst 1, 1) := by decide +kernel
theorem d9_60 : decode jdk_42_method_149_code 60 = .ok (.putfield 15, 3) := by decide +kernel
theorem d9_63 : decode jdk_42_method_149_code 63 = .ok (.aload_n 0, 1) := by decide +kernel
theorem d9_64 : decode jdk_42_method_149_code 64 = .ok (.aload_n 1, 1) := by decide +kernel
theorem d9_65 : decode jdk_42_method_149_code 65 = .ok (.iload_n 2, 1) := by decide +kernel
theorem d9_66 : decode jdk_42_method_149_code 66 = .ok (.iload_n 3, 1) := by decide +kernel
theorem d9_67 : decode jdk_42_method_149_code 67 = .ok (.invokestatic 180, 3) := by decide +kernel
theorem d9_70 : decode jdk_42_method_149_code 70 = .ok (.putfield 9, 3) := by decide +kernel
theorem d9_73 : decode jdk_42_method_149_code 73 = .ok (.return_, 1) := by decide +kernel
theorem pd_6 : parseMethodDescriptor "([BI)B" = some ⟨[(.array .byte), .int], some .byte⟩ := by decide +kernel
theorem pn_1 : plainName "java/lang/String" = true := by first | (simp [plainName, overriddenIn]; done) | decide +kernel
def ct_init4_R : Room := ({ frames := 4, cells := 2, slots := 24, locals := 140 } : Room)
set_option maxRecDepth 65536 in
set_option maxHeartbeats 40000000 in
theorem ct_init4 (l : Launch) (Z : State) (a0 : Array Value) (hw : ∀ d ∈ tables_1, d.before a0 Z = true) (x src : Addr) (cs : List Int32) (v0 c0 : Value) (h : Heap) (n0 : Nat) (hS : Stz Z) (O : Old Z n0 h) (nx : n0 ≤ x) (Ex : Exa Z h x "java/lang/String") (V0 : Fld Z h x "java/lang/String" "value" "[B" v0) (C0 : Fld Z h x "java/lang/String" "coder" "B" c0) (As : Av Z h src .char (cs.map Value.int)) (hn : cs.length ≤ 8) (h0 : 0 < cs.length) (hr : ∀ x ∈ cs, ¬ x < 0 ∧ ¬ 65535 < x) :
    Ct l Z ⟨"java/lang/String", "<init>", "([CIILjava/lang/Void;)V"⟩ jdk_42_method_149_code 6 (none) [] ct_init4_R ct_init4_R.cells ct_init4_R.slots [(.ref x), (.ref src), (.int (0 : Int32)), (.int (Int32.ofNat cs.length)), .null] h (fun v h' L => v = none ∧ Fr n0 L ∧ Keep h h' [x] ∧ StrD Z h' x cs) := by
  refine Ct.mk (L0 := [.val (.ref x), .val (.ref src), .val (.int (0 : Int32)), .val (.int (Int32.ofNat cs.length)), .val .null, .unset]) (plainFor_of_name pn_1) (fun m => by first | (simp [entryFrame, mkF, argsToLocals, Value.category]; done) | rfl) ?_
  intro p e s m below meth c s₁ B X0 e0
  refine Go.aloadN B X0 d9_0 (pc' := 1) rfl rfl rfl ?_
  refine Go.initO B X0 e0 (tw hw 22 rfl) (tw hw 23 rfl) (tw hw 24 rfl) d9_1 (pc' := 4) rfl rfl nb nb ?_
  intro Tt1_1 Xt1_1 et1_1
  refine Go.iloadN B Xt1_1 d9_4 (pc' := 5) rfl rfl ?_
  have hn1 : ¬ Int32.ofNat cs.length = 0 := fun q => by
    rw [show (0 : Int32) = Int32.ofNat 0 from rfl] at q
    exact absurd ((eq_ofNat (by omega) (by omega)).mp q) (by omega)
  refine Go.ifT B Xt1_1 d9_5 (by decide) (pc' := 27) rfl hn1 ?_
  obtain ⟨G, SG, hG⟩ := hS.1
  refine Go.getS B Xt1_1 et1_1 (tw hw 42 rfl) (SG.ext O.2) d9_27 (pc' := 30) rfl ?_
  intro Tt27_2 Xt27_2 et27_2
  refine Go.ifF B Xt27_2 d9_30 (pc' := 33) rfl hG ?_
  refine Go.aloadN B Xt27_2 d9_33 (pc' := 34) rfl rfl rfl ?_
  refine Go.iloadN B Xt27_2 d9_34 (pc' := 35) rfl rfl ?_
  refine Go.iloadN B Xt27_2 d9_35 (pc' := 36) rfl rfl ?_
  refine Go.callS B Xt27_2 et27_2 (y := ⟨"java/lang/StringUTF16", "compress", "([CII)[B"⟩) (Ct.back (W := 0) (ct_c3 l Z a0 hw src cs h n0 hS O As hn hr) B.hZ (tw hw 57 rfl) (tw hw 56 rfl) nb nb) (tw hw 54 rfl) (tw hw 55 rfl) (tw hw 56 rfl) (tw hw 57 rfl) (by decide) pd_4 d9_36 (pc' := 39) rfl rfl (rest := []) rfl rfl nb nb nb ?_
  intro va Ta La Xa Qa
  obtain ⟨t, rfl, ht, nt, Na, Ka, hq⟩ := Qa
  dsimp only [Option.toList, List.nil_append, List.cons_append]
  have O1 := O.keep Ka all0
  have Ex1 := Ex.ext (keep0 Ka)
  have V1 := V0.ext (keep0 Ka)
  have C1 := C0.ext (keep0 Ka)
  have hxt : x ≠ t := Nat.ne_of_lt (Nat.lt_of_lt_of_le Ex.lt ht)
  refine Go.astore B Xa d9_39 (pc' := 41) rfl rfl rfl rfl ?_
  dsimp only [put1]
  refine Go.aloadN B Xa d9_41 (pc' := 42) rfl rfl rfl ?_
  refine Go.aload B Xa d9_42 (pc' := 44) rfl rfl rfl ?_
  refine Go.iloadN B Xa d9_44 (pc' := 45) rfl rfl ?_
  rcases hq with hq | hq
  · obtain ⟨l1, l2⟩ := hq
    have ln : (cs.map lo8).length = cs.length := by simp
    refine Go.callS B Xa rfl (y := ⟨"java/lang/StringUTF16", "coderFromArrayLen", "([BI)B"⟩) (Ct.back (W := 1) (ct_cfl l Z a0 hw t cs.length (cs.map lo8) Ta.heap n0 l2 ⟨hn, Or.inl ln⟩) B.hZ (tw hw 63 rfl) (tw hw 56 rfl) nb nb) (tw hw 61 rfl) (tw hw 62 rfl) (tw hw 56 rfl) (tw hw 63 rfl) (by decide) pd_6 d9_45 (pc' := 48) rfl rfl (rest := [_]) rfl rfl nb nb nb ?_
    intro vb Tb Lb Xb Qb
    obtain ⟨rfl, Nb, eb⟩ := Qb
    dsimp only [Option.toList, List.nil_append, List.cons_append]
    rw [ln, if_pos rfl]
    refine Go.putF B Xb eb (tw hw 27 rfl) C1 Ex1 (Or.inr ⟨(tw hw 11 rfl), rfl, B.na⟩) (tw hw 8 rfl) (ty := .byte) (by decide) rfl rfl d9_48 (pc' := 51) rfl ?_
    intro Tc hc Xc ec Wc
    have hsl : RoadKit.slotOf Z "java/lang/String" "value" "[B" ≠ RoadKit.slotOf Z "java/lang/String" "coder" "B" := slot_ne (Or.inr (tw hw 10 rfl)) (Or.inr (tw hw 11 rfl)) (by decide) (t := .array .byte) (by decide) (t' := .byte) (by decide)
    have V2 := V1.other Wc (Or.inr hsl)
    have C2 := C1.same Wc
    have Ex2 := Ex1.wr Wc
    have A2 := l2.other Wc hxt.symm
    refine Go.aloadN B Xc d9_51 (pc' := 52) rfl rfl rfl ?_
    refine Go.aload B Xc d9_52 (pc' := 54) rfl rfl rfl ?_
    refine Go.putF B Xc ec (tw hw 26 rfl) V2 Ex2 (Or.inr ⟨(tw hw 10 rfl), rfl, B.na⟩) (tw hw 8 rfl) (ty := (.array .byte)) (by decide) rfl rfl d9_54 (pc' := 57) rfl ?_
    intro Td hd Xd ed Wd
    have V3 := V2.same Wd
    have C3 := C2.other Wd (Or.inr hsl.symm)
    have Ex3 := Ex2.wr Wd
    have A3 := A2.other Wd hxt.symm
    have K3 : Keep h hd [x] := (((Keep.refl h [x]).ext (keep0 Ka)).wr Wc (Or.inl (by simp))).wr Wd (Or.inl (by simp))
    have N3 := Fr.snoc Xd (Fr.snoc Xc (Fr.app (Fr.app (Fr.nil _) Na) Nb) nx) nx
    exact Go.vret B Xd d9_57 nb nb ⟨rfl, N3, by rw [ed]; exact K3, by rw [ed]; exact ⟨t, 0, (cs.map lo8), Ex3, C3, V3, A3, Or.inl ⟨rfl, rfl, l1⟩⟩⟩
  · obtain ⟨l1, l2⟩ := hq
    have ln : (wide cs).length = 2 * cs.length := by simp [wide_len]
    refine Go.callS B Xa rfl (y := ⟨"java/lang/StringUTF16", "coderFromArrayLen", "([BI)B"⟩) (Ct.back (W := 1) (ct_cfl l Z a0 hw t cs.length (wide cs) Ta.heap n0 l2 ⟨hn, Or.inr ⟨ln, h0⟩⟩) B.hZ (tw hw 63 rfl) (tw hw 56 rfl) nb nb) (tw hw 61 rfl) (tw hw 62 rfl) (tw hw 56 rfl) (tw hw 63 rfl) (by decide) pd_6 d9_45 (pc' := 48) rfl rfl (rest := [_]) rfl rfl nb nb nb ?_
    intro vb Tb Lb Xb Qb
    obtain ⟨rfl, Nb, eb⟩ := Qb
    dsimp only [Option.toList, List.nil_append, List.cons_append]
    rw [ln, if_neg (by omega)]
    refine Go.putF B Xb eb (tw hw 27 rfl) C1 Ex1 (Or.inr ⟨(tw hw 11 rfl), rfl, B.na⟩) (tw hw 8 rfl) (ty := .byte) (by decide) rfl rfl d9_48 (pc' := 51) rfl ?_
    intro Tc hc Xc ec Wc
    have hsl : RoadKit.slotOf Z "java/lang/String" "value" "[B" ≠ RoadKit.slotOf Z "java/lang/String" "coder" "B" := slot_ne (Or.inr (tw hw 10 rfl)) (Or.inr (tw hw 11 rfl)) (by decide) (t := .array .byte) (by decide) (t' := .byte) (by decide)
    have V2 := V1.other Wc (Or.inr hsl)
    have C2 := C1.same Wc
    have Ex2 := Ex1.wr Wc
    have A2 := l2.other Wc hxt.symm
    refine Go.aloadN B Xc d9_51 (pc' := 52) rfl rfl rfl ?_
    refine Go.aload B Xc d9_52 (pc' := 54) rfl rfl rfl ?_
    refine Go.putF B Xc ec (tw hw 26 rfl) V2 Ex2 (Or.inr ⟨(tw hw 10 rfl), rfl, B.na⟩) (tw hw 8 rfl) (ty := (.array .byte)) (by decide) rfl rfl d9_54 (pc' := 57) rfl ?_
    intro Td hd Xd ed Wd
    have V3 := V2.same Wd
    have C3 := C2.other Wd (Or.inr hsl.symm)
    have Ex3 := Ex2.wr Wd
    have A3 := A2.other Wd hxt.symm
    have K3 : Keep h hd [x] := (((Keep.refl h [x]).ext (keep0 Ka)).wr Wc (Or.inl (by simp))).wr Wd (Or.inl (by simp))
    have N3 := Fr.snoc Xd (Fr.snoc Xc (Fr.app (Fr.app (Fr.nil _) Na) Nb) nx) nx
    exact Go.vret B Xd d9_57 nb nb ⟨rfl, N3, by rw [ed]; exact K3, by rw [ed]; exact ⟨t, 1, (wide cs), Ex3, C3, V3, A3, Or.inr ⟨rfl, rfl, l1⟩⟩⟩
theorem d10_0 : decode jdk_42_method_3_code 0 = .ok (.aload_n 0, 1) := by decide +kernel
theorem d10_1 : decode jdk_42_method_3_code 1 = .ok (.aload_n 1, 1) := by decide +kernel
theorem d10_2 : decode jdk_42_method_3_code 2 = .ok (.iconst 0, 1) := by decide +kernel
theorem d10_3 : decode jdk_42_method_3_code 3 = .ok (.aload_n 1, 1) := by decide +kernel
theorem d10_4 : decode jdk_42_method_3_code 4 = .ok (.arraylength, 1) := by decide +kernel
theorem d10_5 : decode jdk_42_method_3_code 5 = .ok (.aconst_null, 1) := by decide +kernel
theorem d10_6 : decode jdk_42_method_3_code 6 = .ok (.invokespecial 27, 3) := by decide +kernel
theorem d10_9 : decode jdk_42_method_3_code 9 = .ok (.return_, 1) := by decide +kernel
theorem pd_7 : parseMethodDescriptor "([CIILjava/lang/Void;)V" = some ⟨[(.array .char), .int, .int, (.object "java/lang/Void")], none⟩ := by decide +kernel
def ct_init1_R : Room := ({ frames := 5, cells := 2, slots := 24, locals := 160 } : Room)
set_option maxRecDepth 65536 in
set_option maxHeartbeats 40000000 in
theorem ct_init1 (l : Launch) (Z : State) (a0 : Array Value) (hw : ∀ d ∈ tables_1, d.before a0 Z = true) (x src : Addr) (cs : List Int32) (v0 c0 : Value) (h : Heap) (n0 : Nat) (hS : Stz Z) (O : Old Z n0 h) (nx : n0 ≤ x) (Ex : Exa Z h x "java/lang/String") (V0 : Fld Z h x "java/lang/String" "value" "[B" v0) (C0 : Fld Z h x "java/lang/String" "coder" "B" c0) (As : Av Z h src .char (cs.map Value.int)) (hn : cs.length ≤ 8) (h0 : 0 < cs.length) (hr : ∀ x ∈ cs, ¬ x < 0 ∧ ¬ 65535 < x) :
    Ct l Z ⟨"java/lang/String", "<init>", "([C)V"⟩ jdk_42_method_3_code 2 (none) [] ct_init1_R ct_init1_R.cells ct_init1_R.slots [(.ref x), (.ref src)] h (fun v h' L => v = none ∧ Fr n0 L ∧ Keep h h' [x] ∧ StrD Z h' x cs) := by
  refine Ct.mk (L0 := [.val (.ref x), .val (.ref src)]) (plainFor_of_name pn_1) (fun m => by first | (simp [entryFrame, mkF, argsToLocals, Value.category]; done) | rfl) ?_
  intro p e s m below meth c s₁ B X0 e0
  refine Go.aloadN B X0 d10_0 (pc' := 1) rfl rfl rfl ?_
  refine Go.aloadN B X0 d10_1 (pc' := 2) rfl rfl rfl ?_
  refine Go.iconst B X0 0 d10_2 (pc' := 3) rfl rfl ?_
  refine Go.aloadN B X0 d10_3 (pc' := 4) rfl rfl rfl ?_
  refine Go.arraylength B X0 e0 As d10_4 (pc' := 5) rfl ?_
  refine Go.aconstNull B X0 d10_5 (pc' := 6) rfl ?_
  rw [List.length_map]
  refine Go.callI B X0 e0 (y := ⟨"java/lang/String", "<init>", "([CIILjava/lang/Void;)V"⟩) rfl (Ct.back (W := 0) (ct_init4 l Z a0 hw x src cs v0 c0 h n0 hS O nx Ex V0 C0 As hn h0 hr) B.hZ (tw hw 21 rfl) (tw hw 7 rfl) nb nb) (tw hw 18 rfl) (tw hw 19 rfl) (tw hw 21 rfl) (by decide) pd_7 d10_6 (pc' := 9) rfl rfl (rest := []) rfl rfl nb nb nb ?_
  intro va Ta La Xa Qa
  obtain ⟨rfl, Na, Ka, Da⟩ := Qa
  dsimp only [Option.toList, List.nil_append, List.cons_append]
  exact Go.vret B Xa d10_9 nb nb ⟨rfl, Fr.app (Fr.nil _) Na, Ka, Da⟩

def ct_init4E_R : Room := ({ frames := 1, cells := 4, slots := 8, locals := 30 } : Room)
set_option maxRecDepth 65536 in
set_option maxHeartbeats 40000000 in
theorem ct_init4E (l : Launch) (Z : State) (a0 : Array Value) (hw : ∀ d ∈ tables_1, d.before a0 Z = true) (x src : Addr) (c0 : Value) (h : Heap) (n0 : Nat) (hEL : EW Z a0 consts_1) (wS : ∀ d ∈ Bundle.stringAtoms, d.before a0 Z = true) (O : Old Z n0 h) (nx : n0 ≤ x) (Ex : Exa Z h x "java/lang/String") (V0 : Fld Z h x "java/lang/String" "value" "[B" .null) (C0 : Fld Z h x "java/lang/String" "coder" "B" c0) :
    CtW l Z consts_1 ⟨"java/lang/String", "<init>", "([CIILjava/lang/Void;)V"⟩ jdk_42_method_149_code 6 (none) [] ct_init4E_R ct_init4E_R.cells ct_init4E_R.slots [(.ref x), (.ref src), (.int (0 : Int32)), (.int (0 : Int32)), .null] h (fun v h' L => v = none ∧ Fr n0 L ∧ Keep h h' [x] ∧ StrD Z h' x []) := by
  refine CtW.mk (L0 := [.val (.ref x), .val (.ref src), .val (.int (0 : Int32)), .val (.int (0 : Int32)), .val .null, .unset]) hEL wS (plainFor_of_name pn_1) (fun m => by first | (simp [entryFrame, mkF, argsToLocals, Value.category]; done) | rfl) ?_
  intro p e s m below meth c s₁ B X0 e0 Wv0
  refine Go.aloadN B X0 d9_0 (pc' := 1) rfl rfl rfl ?_
  refine Go.initO B X0 e0 (tw hw 22 rfl) (tw hw 23 rfl) (tw hw 24 rfl) d9_1 (pc' := 4) rfl rfl nb nb ?_
  intro Tt1_1 Xt1_1 et1_1
  refine Go.iloadN B Xt1_1 d9_4 (pc' := 5) rfl rfl ?_
  refine Go.ifF B Xt1_1 d9_5 (pc' := 8) rfl rfl ?_
  refine Go.aloadN B Xt1_1 d9_8 (pc' := 9) rfl rfl rfl ?_
  refine Go.ldcS B Xt1_1 et1_1 Wv0 0 (vs := []) (tw hw 25 rfl) (by decide) (by decide +kernel) nl d9_9 (pc' := 11) rfl (by decide +kernel) nb nb nb ?_
  intro aa Ta ha ba Ba Xa ea Ea Va Exa Fa Ga Aa Sa Na
  have hal := Ba.hZ.alike
  have Ex1 := Ex.ext Ea
  have V1 := V0.ext Ea
  have C1 := C0.ext Ea
  have Sx1 : RoadKit.Safe Z consts_1 Ta.vm ha x := safe_null hal Ex1 V1
  have O1 := O.ext Ea
  have nba := (Na x Sx1).2
  refine Go.getF Ba Xa ea (tw hw 26 rfl) Ga d9_11 (pc' := 14) rfl ?_
  intro Tt11_2 Xt11_2 et11_2
  refine Go.putF Ba Xt11_2 et11_2 (tw hw 26 rfl) V1 Ex1 (Or.inr ⟨(tw hw 10 rfl), rfl, Ba.na⟩) (tw hw 8 rfl) (ty := (.array .byte)) (by decide) rfl rfl d9_14 (pc' := 17) rfl ?_
  intro Tc hc Xc ec Wc
  have hsl : RoadKit.slotOf Z "java/lang/String" "value" "[B" ≠ RoadKit.slotOf Z "java/lang/String" "coder" "B" := slot_ne (Or.inr (tw hw 10 rfl)) (Or.inr (tw hw 11 rfl)) (by decide) (t := .array .byte) (by decide) (t' := .byte) (by decide)
  have V2 := V1.same Wc
  have C2 := C1.other Wc (Or.inr hsl.symm)
  have Ex2 := Ex1.wr Wc
  have A2 := Aa.other Wc nba.symm
  have Vc := Va.wr Wc Sx1
  have Sx2 := RoadKit.Safe.wr Wc Sx1 Va.chv Sx1
  refine Go.aloadN Ba Xc d9_17 (pc' := 18) rfl rfl rfl ?_
  refine Go.ldcS Ba Xc ec Vc 0 (vs := []) (tw hw 25 rfl) (by decide) (by decide +kernel) nl d9_18 (pc' := 20) rfl (by decide +kernel) nb nb nb ?_
  intro ad Td hd bd Bd Xd ed Ed Vd Exd Fd Gd Ad Sd Nd
  have V3 := V2.ext Ed
  have C3 := C2.ext Ed
  have Ex3 := Ex2.ext Ed
  have A3 := A2.ext Ed
  have Sx3 := Sd x Ex2.lt Sx2
  refine Go.getF Bd Xd ed (tw hw 27 rfl) Fd d9_20 (pc' := 23) rfl ?_
  intro Tt20_3 Xt20_3 et20_3
  refine Go.putF Bd Xt20_3 et20_3 (tw hw 27 rfl) C3 Ex3 (Or.inr ⟨(tw hw 11 rfl), rfl, Bd.na⟩) (tw hw 8 rfl) (ty := .byte) (by decide) rfl rfl d9_23 (pc' := 26) rfl ?_
  intro Tf hf Xf ef Wf
  have V4 := V3.other Wf (Or.inr hsl)
  have C4 := C3.same Wf
  have Ex4 := Ex3.wr Wf
  have A4 := A3.other Wf nba.symm
  have Vf := Vd.wr Wf Sx3
  have K4 : Keep h hf [x] := ((((Keep.refl h [x]).ext Ea).wr Wc (Or.inl (by simp))).ext Ed).wr Wf (Or.inl (by simp))
  have N4 := Fr.snoc Xf (Fr.snoc Xc (Fr.nil n0) nx) nx
  exact Go.vretW Bd Xf ef Vf d9_26 nb nb ⟨rfl, N4, by rw [ef]; exact K4, by rw [ef]; exact ⟨ba, 0, [], Ex4, C4, V4, A4, Or.inl ⟨rfl, rfl, by simp⟩⟩⟩

def ct_init1E_R : Room := ({ frames := 2, cells := 4, slots := 8, locals := 60 } : Room)
set_option maxRecDepth 65536 in
set_option maxHeartbeats 40000000 in
theorem ct_init1E (l : Launch) (Z : State) (a0 : Array Value) (hw : ∀ d ∈ tables_1, d.before a0 Z = true) (x src : Addr) (c0 : Value) (h : Heap) (n0 : Nat) (hEL : EW Z a0 consts_1) (wS : ∀ d ∈ Bundle.stringAtoms, d.before a0 Z = true) (O : Old Z n0 h) (nx : n0 ≤ x) (Ex : Exa Z h x "java/lang/String") (V0 : Fld Z h x "java/lang/String" "value" "[B" .null) (C0 : Fld Z h x "java/lang/String" "coder" "B" c0) (As : Av Z h src .char []) :
    CtW l Z consts_1 ⟨"java/lang/String", "<init>", "([C)V"⟩ jdk_42_method_3_code 2 (none) [] ct_init1E_R ct_init1E_R.cells ct_init1E_R.slots [(.ref x), (.ref src)] h (fun v h' L => v = none ∧ Fr n0 L ∧ Keep h h' [x] ∧ StrD Z h' x []) := by
  refine CtW.mk (L0 := [.val (.ref x), .val (.ref src)]) hEL wS (plainFor_of_name pn_1) (fun m => by first | (simp [entryFrame, mkF, argsToLocals, Value.category]; done) | rfl) ?_
  intro p e s m below meth c s₁ B X0 e0 Wv0
  refine Go.aloadN B X0 d10_0 (pc' := 1) rfl rfl rfl ?_
  refine Go.aloadN B X0 d10_1 (pc' := 2) rfl rfl rfl ?_
  refine Go.iconst B X0 0 d10_2 (pc' := 3) rfl rfl ?_
  refine Go.aloadN B X0 d10_3 (pc' := 4) rfl rfl rfl ?_
  refine Go.arraylength B X0 e0 As d10_4 (pc' := 5) rfl ?_
  refine Go.aconstNull B X0 d10_5 (pc' := 6) rfl ?_
  refine Go.callIW B X0 e0 Wv0 (y := ⟨"java/lang/String", "<init>", "([CIILjava/lang/Void;)V"⟩) rfl (CtW.back (W := 0) (ct_init4E l Z a0 hw x src c0 h n0 hEL wS O nx Ex V0 C0) B.hZ (tw hw 21 rfl) (tw hw 7 rfl) nb nb Wv0) (tw hw 18 rfl) (tw hw 19 rfl) (tw hw 21 rfl) (by decide) pd_7 d10_6 (pc' := 9) rfl rfl (rest := []) rfl rfl nb nb nb ?_
  intro va Ta La Ba Xa Qa Va Sa
  obtain ⟨rfl, Na, Ka, Da⟩ := Qa
  dsimp only [Option.toList, List.nil_append, List.cons_append]
  exact Go.vretW Ba Xa rfl Va d10_9 nb nb ⟨rfl, Fr.app (Fr.nil _) Na, Ka, Da⟩
theorem d11_0 : decode jdk_42_method_152_code 0 = .ok (.getstatic 38, 3) := by decide +kernel
theorem d11_3 : decode jdk_42_method_152_code 3 = .ok (.ifCond .eq 10, 3) := by decide +kernel
theorem d11_6 : decode jdk_42_method_152_code 6 = .ok (.aload_n 0, 1) := by decide +kernel
theorem d11_7 : decode jdk_42_method_152_code 7 = .ok (.getfield 15, 3) := by decide +kernel
theorem d11_10 : decode jdk_42_method_152_code 10 = .ok (.goto 4, 3) := by decide +kernel
theorem d11_13 : decode jdk_42_method_152_code 13 = .ok (.iconst 1, 1) := by decide +kernel
theorem d11_14 : decode jdk_42_method_152_code 14 = .ok (.ireturn, 1) := by decide +kernel
def ct_coder_R : Room := ({ frames := 0, cells := 0, slots := 0, locals := 0 } : Room)
set_option maxRecDepth 65536 in
set_option maxHeartbeats 40000000 in
theorem ct_coder (l : Launch) (Z : State) (a0 : Array Value) (hw : ∀ d ∈ tables_1, d.before a0 Z = true) (x : Addr) (cd : Int32) (h : Heap) (n0 : Nat) (hS : Stz Z) (O : Old Z n0 h) (C0 : Fld Z h x "java/lang/String" "coder" "B" (.int cd)) (hcd : cd = 0 ∨ cd = 1) :
    Ct l Z ⟨"java/lang/String", "coder", "()B"⟩ jdk_42_method_152_code 1 (some .byte) [] ct_coder_R ct_coder_R.cells ct_coder_R.slots [(.ref x)] h (fun v h' L => v = some (.int cd) ∧ Fr n0 L ∧ h' = h) := by
  refine Ct.mk (L0 := [.val (.ref x)]) (plainFor_of_name pn_1) (fun m => by first | (simp [entryFrame, mkF, argsToLocals, Value.category]; done) | rfl) ?_
  intro p e s m below meth c s₁ B X0 e0
  obtain ⟨G, SG, hG⟩ := hS.1
  refine Go.getS B X0 e0 (tw hw 42 rfl) (SG.ext O.2) d11_0 (pc' := 3) rfl ?_
  intro Tt0_1 Xt0_1 et0_1
  refine Go.ifF B Xt0_1 d11_3 (pc' := 6) rfl hG ?_
  refine Go.aloadN B Xt0_1 d11_6 (pc' := 7) rfl rfl rfl ?_
  refine Go.getF B Xt0_1 et0_1 (tw hw 27 rfl) C0 d11_7 (pc' := 10) rfl ?_
  intro Tt7_2 Xt7_2 et7_2
  refine Go.goto B Xt7_2 d11_10 (by decide) (pc' := 14) rfl ?_
  exact Go.bret B Xt7_2 d11_14 (by rcases hcd with rfl | rfl <;> rfl) nb nb ⟨rfl, Fr.nil _, et7_2⟩
theorem d12_0 : decode jdk_42_method_54_code 0 = .ok (.aload_n 0, 1) := by decide +kernel
theorem d12_1 : decode jdk_42_method_54_code 1 = .ok (.getfield 9, 3) := by decide +kernel
theorem d12_4 : decode jdk_42_method_54_code 4 = .ok (.arraylength, 1) := by decide +kernel
theorem d12_5 : decode jdk_42_method_54_code 5 = .ok (.aload_n 0, 1) := by decide +kernel
theorem d12_6 : decode jdk_42_method_54_code 6 = .ok (.invokevirtual 335, 3) := by decide +kernel
theorem d12_9 : decode jdk_42_method_54_code 9 = .ok (.ishr, 1) := by decide +kernel
theorem d12_10 : decode jdk_42_method_54_code 10 = .ok (.ireturn, 1) := by decide +kernel
theorem pd_8 : parseMethodDescriptor "()B" = some ⟨[], some .byte⟩ := by decide +kernel
def ct_length_R : Room := ({ frames := 1, cells := 0, slots := 0, locals := 20 } : Room)
set_option maxRecDepth 65536 in
set_option maxHeartbeats 40000000 in
theorem ct_length (l : Launch) (Z : State) (a0 : Array Value) (hw : ∀ d ∈ tables_1, d.before a0 Z = true) (x : Addr) (cs : List Int32) (h : Heap) (n0 : Nat) (hS : Stz Z) (O : Old Z n0 h) (D : StrD Z h x cs) :
    Ct l Z ⟨"java/lang/String", "length", "()I"⟩ jdk_42_method_54_code 1 (some .int) [] ct_length_R ct_length_R.cells ct_length_R.slots [(.ref x)] h (fun v h' L => v = some (.int (Int32.ofNat cs.length)) ∧ Fr n0 L ∧ h' = h) := by
  refine Ct.mk (L0 := [.val (.ref x)]) (plainFor_of_name pn_1) (fun m => by first | (simp [entryFrame, mkF, argsToLocals, Value.category]; done) | rfl) ?_
  intro p e s m below meth c s₁ B X0 e0
  obtain ⟨t, cd, bs, x1, x2, x3, x4, hb⟩ := D
  have hcd : cd = 0 ∨ cd = 1 := hb.imp (fun q => q.1) (fun q => q.1)
  have h31 := StrD.len31 x4
  refine Go.aloadN B X0 d12_0 (pc' := 1) rfl rfl rfl ?_
  refine Go.getF B X0 e0 (tw hw 26 rfl) x3 d12_1 (pc' := 4) rfl ?_
  intro Tt1_1 Xt1_1 et1_1
  refine Go.arraylength B Xt1_1 et1_1 x4 d12_4 (pc' := 5) rfl ?_
  refine Go.aloadN B Xt1_1 d12_5 (pc' := 6) rfl rfl rfl ?_
  refine Go.callV B Xt1_1 et1_1 (y := ⟨"java/lang/String", "coder", "()B"⟩) (z := ⟨"java/lang/String", "coder", "()B"⟩) (Ct.back (W := 1) (ct_coder l Z a0 hw x cd h n0 hS O x2 hcd) B.hZ (tw hw 41 rfl) (tw hw 7 rfl) nb nb) x1 (tw hw 37 rfl) (tw hw 38 rfl) (tw hw 40 rfl) (tw hw 39 rfl) (by decide) (notFace_of_selects (args := #[]) (mvT B.hZ (tw hw 40 rfl))) pd_8 d12_6 (pc' := 9) rfl rfl (rest := [_]) rfl rfl nb nb nb ?_
  intro va Ta La Xa Qa
  obtain ⟨rfl, Na, ea⟩ := Qa
  dsimp only [Option.toList, List.nil_append, List.cons_append]
  refine Go.ishr B Xa d12_9 (pc' := 10) rfl ?_
  have ev : Int32.ofNat (bs.map Value.int).length >>> (cd &&& 31) = Int32.ofNat cs.length := by
    rw [List.length_map]
    rcases hb with ⟨rfl, rfl, -⟩ | ⟨rfl, rfl, -⟩
    · rw [StrChars.shr0, List.length_map]
    · rw [wide_len] at h31 ⊢
      exact StrChars.shr1 h31
  rw [ev]
  exact Go.iret B Xa d12_10 nb nb ⟨rfl, Fr.app (Fr.nil _) Na, ea⟩
theorem d13_0 : decode jdk_42_method_154_code 0 = .ok (.getstatic 38, 3) := by decide +kernel
theorem d13_3 : decode jdk_42_method_154_code 3 = .ok (.ifCond .eq 14, 3) := by decide +kernel
theorem d13_6 : decode jdk_42_method_154_code 6 = .ok (.aload_n 0, 1) := by decide +kernel
theorem d13_7 : decode jdk_42_method_154_code 7 = .ok (.getfield 15, 3) := by decide +kernel
theorem d13_10 : decode jdk_42_method_154_code 10 = .ok (.ifCond .ne 7, 3) := by decide +kernel
theorem d13_13 : decode jdk_42_method_154_code 13 = .ok (.iconst 1, 1) := by decide +kernel
theorem d13_14 : decode jdk_42_method_154_code 14 = .ok (.goto 4, 3) := by decide +kernel
theorem d13_17 : decode jdk_42_method_154_code 17 = .ok (.iconst 0, 1) := by decide +kernel
theorem d13_18 : decode jdk_42_method_154_code 18 = .ok (.ireturn, 1) := by decide +kernel
def ct_isLat_R : Room := ({ frames := 0, cells := 0, slots := 0, locals := 0 } : Room)
set_option maxRecDepth 65536 in
set_option maxHeartbeats 40000000 in
theorem ct_isLat (l : Launch) (Z : State) (a0 : Array Value) (hw : ∀ d ∈ tables_1, d.before a0 Z = true) (x : Addr) (cd : Int32) (h : Heap) (n0 : Nat) (hS : Stz Z) (O : Old Z n0 h) (C0 : Fld Z h x "java/lang/String" "coder" "B" (.int cd)) :
    Ct l Z ⟨"java/lang/String", "isLatin1", "()Z"⟩ jdk_42_method_154_code 1 (some .boolean) [] ct_isLat_R ct_isLat_R.cells ct_isLat_R.slots [(.ref x)] h (fun v h' L => v = some (.int (if cd = 0 then 1 else 0)) ∧ Fr n0 L ∧ h' = h) := by
  refine Ct.mk (L0 := [.val (.ref x)]) (plainFor_of_name pn_1) (fun m => by first | (simp [entryFrame, mkF, argsToLocals, Value.category]; done) | rfl) ?_
  intro p e s m below meth c s₁ B X0 e0
  obtain ⟨G, SG, hG⟩ := hS.1
  refine Go.getS B X0 e0 (tw hw 42 rfl) (SG.ext O.2) d13_0 (pc' := 3) rfl ?_
  intro Tt0_1 Xt0_1 et0_1
  refine Go.ifF B Xt0_1 d13_3 (pc' := 6) rfl hG ?_
  refine Go.aloadN B Xt0_1 d13_6 (pc' := 7) rfl rfl rfl ?_
  refine Go.getF B Xt0_1 et0_1 (tw hw 27 rfl) C0 d13_7 (pc' := 10) rfl ?_
  intro Tt7_2 Xt7_2 et7_2
  refine Go.ifc B Xt7_2 d13_10 (by decide) (pcT := 17) rfl (pc' := 13) rfl (fun hc => ?_) (fun hc => ?_)
  · dsimp only [GoKit.CP] at hc
    refine Go.iconst B Xt7_2 0 d13_17 (pc' := 18) rfl rfl ?_
    exact Go.zret B Xt7_2 d13_18 rfl nb nb ⟨by rw [if_neg hc], Fr.nil _, et7_2⟩
  · dsimp only [GoKit.CN] at hc
    refine Go.iconst B Xt7_2 1 d13_13 (pc' := 14) rfl rfl ?_
    refine Go.goto B Xt7_2 d13_14 (by decide) (pc' := 18) rfl ?_
    exact Go.zret B Xt7_2 d13_18 rfl nb nb ⟨by rw [if_pos hc], Fr.nil _, et7_2⟩
theorem d14_0 : decode jdk_41_method_11_code 0 = .ok (.iload_n 0, 1) := by decide +kernel
theorem d14_1 : decode jdk_41_method_11_code 1 = .ok (.ifCond .lt 8, 3) := by decide +kernel
theorem d14_4 : decode jdk_41_method_11_code 4 = .ok (.iload_n 0, 1) := by decide +kernel
theorem d14_5 : decode jdk_41_method_11_code 5 = .ok (.iload_n 1, 1) := by decide +kernel
theorem d14_6 : decode jdk_41_method_11_code 6 = .ok (.if_icmp .lt 10, 3) := by decide +kernel
theorem d14_9 : decode jdk_41_method_11_code 9 = .ok (.aload_n 2, 1) := by decide +kernel
theorem d14_10 : decode jdk_41_method_11_code 10 = .ok (.iload_n 0, 1) := by decide +kernel
theorem d14_11 : decode jdk_41_method_11_code 11 = .ok (.iload_n 1, 1) := by decide +kernel
theorem d14_12 : decode jdk_41_method_11_code 12 = .ok (.invokestatic 95, 3) := by decide +kernel
theorem d14_15 : decode jdk_41_method_11_code 15 = .ok (.athrow, 1) := by decide +kernel
theorem d14_16 : decode jdk_41_method_11_code 16 = .ok (.iload_n 0, 1) := by decide +kernel
theorem d14_17 : decode jdk_41_method_11_code 17 = .ok (.ireturn, 1) := by decide +kernel
theorem pn_2 : plainName "jdk/internal/util/Preconditions" = true := by first | (simp [plainName, overriddenIn]; done) | decide +kernel
def ct_cixN_R : Room := ({ frames := 0, cells := 0, slots := 0, locals := 0 } : Room)
set_option maxRecDepth 65536 in
set_option maxHeartbeats 40000000 in
theorem ct_cixN (l : Launch) (Z : State) (a0 : Array Value) (hw : ∀ d ∈ tables_1, d.before a0 Z = true) (i j : Int32) (h : Heap) (n0 : Nat) (h1 : ¬ i < 0) (h2 : i < j) :
    Ct l Z ⟨"jdk/internal/util/Preconditions", "checkIndex", "(IILjava/util/function/BiFunction;)I"⟩ jdk_41_method_11_code 3 (some .int) [] ct_cixN_R ct_cixN_R.cells ct_cixN_R.slots [(.int i), (.int j), .null] h (fun v h' L => v = some (.int i) ∧ Fr n0 L ∧ h' = h) := by
  refine Ct.mk (L0 := [.val (.int i), .val (.int j), .val .null]) (plainFor_of_name pn_2) (fun m => by first | (simp [entryFrame, mkF, argsToLocals, Value.category]; done) | rfl) ?_
  intro p e s m below meth c s₁ B X0 e0
  refine Go.iloadN B X0 d14_0 (pc' := 1) rfl rfl ?_
  refine Go.ifF B X0 d14_1 (pc' := 4) rfl h1 ?_
  refine Go.iloadN B X0 d14_4 (pc' := 5) rfl rfl ?_
  refine Go.iloadN B X0 d14_5 (pc' := 6) rfl rfl ?_
  refine Go.icT B X0 d14_6 (by decide) (pc' := 16) rfl h2 ?_
  refine Go.iloadN B X0 d14_16 (pc' := 17) rfl rfl ?_
  exact Go.iret B X0 d14_17 nb nb ⟨rfl, Fr.nil _, e0⟩

def ct_cixR_R : Room := ({ frames := 0, cells := 0, slots := 0, locals := 0 } : Room)
set_option maxRecDepth 65536 in
set_option maxHeartbeats 40000000 in
theorem ct_cixR (l : Launch) (Z : State) (a0 : Array Value) (hw : ∀ d ∈ tables_1, d.before a0 Z = true) (i j : Int32) (fa : Addr) (h : Heap) (n0 : Nat) (h1 : ¬ i < 0) (h2 : i < j) :
    Ct l Z ⟨"jdk/internal/util/Preconditions", "checkIndex", "(IILjava/util/function/BiFunction;)I"⟩ jdk_41_method_11_code 3 (some .int) [] ct_cixR_R ct_cixR_R.cells ct_cixR_R.slots [(.int i), (.int j), (.ref fa)] h (fun v h' L => v = some (.int i) ∧ Fr n0 L ∧ h' = h) := by
  refine Ct.mk (L0 := [.val (.int i), .val (.int j), .val (.ref fa)]) (plainFor_of_name pn_2) (fun m => by first | (simp [entryFrame, mkF, argsToLocals, Value.category]; done) | rfl) ?_
  intro p e s m below meth c s₁ B X0 e0
  refine Go.iloadN B X0 d14_0 (pc' := 1) rfl rfl ?_
  refine Go.ifF B X0 d14_1 (pc' := 4) rfl h1 ?_
  refine Go.iloadN B X0 d14_4 (pc' := 5) rfl rfl ?_
  refine Go.iloadN B X0 d14_5 (pc' := 6) rfl rfl ?_
  refine Go.icT B X0 d14_6 (by decide) (pc' := 16) rfl h2 ?_
  refine Go.iloadN B X0 d14_16 (pc' := 17) rfl rfl ?_
  exact Go.iret B X0 d14_17 nb nb ⟨rfl, Fr.nil _, e0⟩
theorem ct_cix (l : Launch) (Z : State) (a0 : Array Value) (hw : ∀ d ∈ tables_1, d.before a0 Z = true) (i j : Int32) (fm : Value) (rf : fm.isRef = true) (h : Heap) (n0 : Nat) (h1 : ¬ i < 0) (h2 : i < j) :
    Ct l Z ⟨"jdk/internal/util/Preconditions", "checkIndex", "(IILjava/util/function/BiFunction;)I"⟩ jdk_41_method_11_code 3 (some .int) [] ct_cixN_R ct_cixN_R.cells ct_cixN_R.slots [(.int i), (.int j), fm] h (fun v h' L => v = some (.int i) ∧ Fr n0 L ∧ h' = h) := by
  rcases ref_cases rf with rfl | ⟨fa, rfl⟩
  · exact ct_cixN l Z a0 hw i j h n0 h1 h2
  · exact ct_cixR l Z a0 hw i j fa h n0 h1 h2
theorem d15_0 : decode jdk_42_method_155_code 0 = .ok (.iload_n 0, 1) := by decide +kernel
theorem d15_1 : decode jdk_42_method_155_code 1 = .ok (.iload_n 1, 1) := by decide +kernel
theorem d15_2 : decode jdk_42_method_155_code 2 = .ok (.getstatic 1053, 3) := by decide +kernel
theorem d15_5 : decode jdk_42_method_155_code 5 = .ok (.invokestatic 1059, 3) := by decide +kernel
theorem d15_8 : decode jdk_42_method_155_code 8 = .ok (.pop, 1) := by decide +kernel
theorem d15_9 : decode jdk_42_method_155_code 9 = .ok (.return_, 1) := by decide +kernel
theorem pd_9 : parseMethodDescriptor "(IILjava/util/function/BiFunction;)I" = some ⟨[.int, .int, (.object "java/util/function/BiFunction")], some .int⟩ := by decide +kernel
def ct_sci_R : Room := ({ frames := 1, cells := 0, slots := 0, locals := 20 } : Room)
set_option maxRecDepth 65536 in
set_option maxHeartbeats 40000000 in
theorem ct_sci (l : Launch) (Z : State) (a0 : Array Value) (hw : ∀ d ∈ tables_1, d.before a0 Z = true) (i j : Int32) (h : Heap) (n0 : Nat) (hF : Sfm Z) (O : Old Z n0 h) (h1 : ¬ i < 0) (h2 : i < j) :
    Ct l Z ⟨"java/lang/String", "checkIndex", "(II)V"⟩ jdk_42_method_155_code 2 (none) [] ct_sci_R ct_sci_R.cells ct_sci_R.slots [(.int i), (.int j)] h (fun v h' L => v = none ∧ Fr n0 L ∧ h' = h) := by
  refine Ct.mk (L0 := [.val (.int i), .val (.int j)]) (plainFor_of_name pn_1) (fun m => by first | (simp [entryFrame, mkF, argsToLocals, Value.category]; done) | rfl) ?_
  intro p e s m below meth c s₁ B X0 e0
  obtain ⟨fm, SF, rf⟩ := hF
  refine Go.iloadN B X0 d15_0 (pc' := 1) rfl rfl ?_
  refine Go.iloadN B X0 d15_1 (pc' := 2) rfl rfl ?_
  refine Go.getS B X0 e0 (tw hw 77 rfl) (SF.ext O.2) d15_2 (pc' := 5) rfl ?_
  intro Tt2_1 Xt2_1 et2_1
  refine Go.callS B Xt2_1 et2_1 (y := ⟨"jdk/internal/util/Preconditions", "checkIndex", "(IILjava/util/function/BiFunction;)I"⟩) (Ct.back (W := 0) (ct_cix l Z a0 hw i j fm rf h n0 h1 h2) B.hZ (tw hw 81 rfl) (tw hw 78 rfl) nb nb) (tw hw 79 rfl) (tw hw 80 rfl) (tw hw 78 rfl) (tw hw 81 rfl) (by decide) pd_9 d15_5 (pc' := 8) rfl rfl (rest := []) rfl rfl nb nb nb ?_
  intro va Ta La Xa Qa
  obtain ⟨rfl, Na, ea⟩ := Qa
  dsimp only [Option.toList, List.nil_append, List.cons_append]
  refine Go.pop B Xa d15_8 (pc' := 9) rfl rfl ?_
  exact Go.vret B Xa d15_9 nb nb ⟨rfl, Fr.app (Fr.nil _) Na, ea⟩
abbrev Rc (c : Int32) : Prop := ¬ c < 0 ∧ ¬ 65535 < c
def Hi (c : Int32) : Prop := ¬ c < 55296 ∧ ¬ 56319 < c
def Lo (c : Int32) : Prop := ¬ c < 56320 ∧ ¬ 57343 < c
instance (c : Int32) : Decidable (Hi c) := inferInstanceAs (Decidable (_ ∧ _))
instance (c : Int32) : Decidable (Lo c) := inferInstanceAs (Decidable (_ ∧ _))
theorem lt_sw {a b c : Int32} (h : b.toInt = a.toInt + 1) : c < b ↔ ¬ a < c := by
  rw [Int32.lt_iff_toInt_lt, Int32.lt_iff_toInt_lt]; omega
theorem hi_lo {c : Int32} (h : Hi c) (g : Lo c) : False := h.2 (by
  have := g.1
  rw [lt_sw (a := 56319) (by decide)] at this
  exact Classical.not_not.mp this)
theorem i2c_rng (x : Int32) : Rc (x.toUInt32.toUInt16.toUInt32.toInt32) := by
  have q := c_i2c x
  have e0 : (0 : Int32).toInt = 0 := by decide
  have e1 : (65535 : Int32).toInt = 65535 := by decide
  unfold Rc
  rw [Int32.lt_iff_toInt_lt, Int32.lt_iff_toInt_lt]
  omega
theorem lo8_255 {c : Int32} (h0 : ¬ c < 0) (h1 : ¬ 255 < c) : lo8 c &&& 255 = c := by
  have m := c_mask (lo8 c) 255 8 (by decide) (by decide)
  have q : ((lo8 c).toInt - c.toInt) % 256 = 0 ∧ -128 ≤ (lo8 c).toInt ∧ (lo8 c).toInt < 128 := c_i2b c
  have e0 : (0 : Int32).toInt = 0 := by decide
  have e1 : (255 : Int32).toInt = 255 := by decide
  rw [Int32.lt_iff_toInt_lt] at h0 h1
  rw [← Int32.toInt_inj, m]
  simp only [Nat.reducePow] at *
  omega
def toCP (c d : Int32) : Int32 := c <<< ((10 : Int32) &&& 31) + d + (-56613888)
theorem cp_int {c d s a t : Int} (h1 : ¬ c < 55296) (h2 : ¬ 56319 < c) (g1 : ¬ d < 56320) (g2 : ¬ 57343 < d) (q1 : (s - c * 1024) % 4294967296 = 0) (q2 : (a - (s + d)) % 4294967296 = 0) (q3 : (t - (a + -56613888)) % 4294967296 = 0) (r : -2147483648 ≤ t ∧ t < 2147483648) : ¬ t < 65536 := by omega
theorem cp_rng {c d : Int32} (h : Hi c) (g : Lo d) : ¬ toCP c d < 65536 := by
  obtain ⟨h1, h2⟩ := h
  obtain ⟨g1, g2⟩ := g
  have a := c_ishl c 10 10 (by decide)
  have b := c_iadd (c <<< ((10 : Int32) &&& 31)) d
  have e := c_iadd (c <<< ((10 : Int32) &&& 31) + d) (-56613888)
  have r := rng32 (c <<< ((10 : Int32) &&& 31) + d + (-56613888))
  rw [show (-56613888 : Int32).toInt = -56613888 from by decide] at e
  rw [Int32.lt_iff_toInt_lt, show (55296 : Int32).toInt = 55296 from by decide] at h1
  rw [Int32.lt_iff_toInt_lt, show (56319 : Int32).toInt = 56319 from by decide] at h2
  rw [Int32.lt_iff_toInt_lt, show (56320 : Int32).toInt = 56320 from by decide] at g1
  rw [Int32.lt_iff_toInt_lt, show (57343 : Int32).toInt = 57343 from by decide] at g2
  rw [Int32.lt_iff_toInt_lt, show (65536 : Int32).toInt = 65536 from by decide]
  exact cp_int h1 h2 g1 g2 a b e r
def okS (cur hp prev hn next : Int32) : Int32 := if cur = 0 then 0 else if Hi cur then (if hn = 0 then 0 else if Lo next then 1 else 0) else if Lo cur then (if hp = 0 then 0 else if Hi prev then 1 else 0) else 1
theorem ok01 (a b c d e : Int32) : okS a b c d e = 0 ∨ okS a b c d e = 1 := by
  unfold okS
  repeat' split
  all_goals first | exact Or.inl rfl | exact Or.inr rfl
def Val : List Int32 → Prop
  | [] => True
  | [c] => ¬ c = 0 ∧ ¬ Hi c ∧ ¬ Lo c
  | c :: d :: cs => (¬ c = 0 ∧ ¬ Hi c ∧ ¬ Lo c ∧ Val (d :: cs)) ∨ (Hi c ∧ Lo d ∧ Val cs)
theorem Val.nil : Val [] := trivial
theorem Val.one {c : Int32} {cs : List Int32} (h0 : ¬ c = 0) (h1 : ¬ Hi c) (h2 : ¬ Lo c) (v : Val cs) : Val (c :: cs) := by
  cases cs with
  | nil => exact ⟨h0, h1, h2⟩
  | cons d cs => exact Or.inl ⟨h0, h1, h2, v⟩
theorem Val.two {c d : Int32} {cs : List Int32} (h1 : Hi c) (h2 : Lo d) (v : Val cs) : Val (c :: d :: cs) := Or.inr ⟨h1, h2, v⟩
theorem Val.go {ds : List Int32} (h : Val ds) : ds = [] ∨ (∃ c ct, ds = c :: ct ∧ ¬ c = 0 ∧ ¬ Hi c ∧ ¬ Lo c ∧ Val ct) ∨ (∃ c d ct, ds = c :: d :: ct ∧ Hi c ∧ Lo d ∧ Val ct) := by
  match ds, h with
  | [], _ => exact Or.inl rfl
  | [c], h => exact Or.inr (Or.inl ⟨c, [], rfl, h.1, h.2.1, h.2.2, trivial⟩)
  | c :: d :: cs, Or.inl h => exact Or.inr (Or.inl ⟨c, d :: cs, rfl, h⟩)
  | c :: d :: cs, Or.inr h => exact Or.inr (Or.inr ⟨c, d, cs, rfl, h⟩)
theorem ok_sp {cur hp prev hn next : Int32} (h : okS cur hp prev hn next = 1) : ¬ cur = 0 ∧ ((Hi cur ∧ ¬ hn = 0 ∧ Lo next) ∨ (¬ Hi cur ∧ Lo cur ∧ ¬ hp = 0 ∧ Hi prev) ∨ (¬ Hi cur ∧ ¬ Lo cur)) := by
  unfold okS at h
  split at h
  · exact absurd h (by decide)
  · rename_i h0
    refine ⟨h0, ?_⟩
    split at h
    · rename_i h1
      split at h
      · exact absurd h (by decide)
      · rename_i h2
        split at h
        · rename_i h3; exact Or.inl ⟨h1, h2, h3⟩
        · exact absurd h (by decide)
    · rename_i h1
      split at h
      · rename_i h2
        split at h
        · exact absurd h (by decide)
        · rename_i h3
          split at h
          · rename_i h4; exact Or.inr (Or.inl ⟨h1, h2, h3, h4⟩)
          · exact absurd h (by decide)
      · rename_i h2
        exact Or.inr (Or.inr ⟨h1, h2⟩)
theorem val1 {a x : Int32} (h : okS a 0 0 0 x = 1) : Val [a] := by
  obtain ⟨z, q | q | q⟩ := ok_sp h
  · exact absurd rfl q.2.1
  · exact absurd rfl q.2.2.1
  · exact .one z q.1 q.2 .nil
theorem val2 {a b x : Int32} (h : okS a 0 0 1 b = 1) (g : okS b 1 a 0 x = 1) : Val [a, b] := by
  obtain ⟨z, q | q | q⟩ := ok_sp h
  · exact .two q.1 q.2.2 .nil
  · exact absurd rfl q.2.2.1
  · obtain ⟨y, r | r | r⟩ := ok_sp g
    · exact absurd rfl r.2.1
    · exact absurd r.2.2.2 q.1
    · exact .one z q.1 q.2 (.one y r.1 r.2 .nil)
theorem val3 {a b c : Int32} (h : okS a 0 0 1 b = 1) (g : okS b 1 a 1 c = 1) (k : okS c 1 b 0 0 = 1) : Val [a, b, c] := by
  obtain ⟨z, q | q | q⟩ := ok_sp h
  · refine .two q.1 q.2.2 ?_
    obtain ⟨w, s | s | s⟩ := ok_sp k
    · exact absurd rfl s.2.1
    · exact (hi_lo s.2.2.2 q.2.2).elim
    · exact .one w s.1 s.2 .nil
  · exact absurd rfl q.2.2.1
  · refine .one z q.1 q.2 ?_
    obtain ⟨y, r | r | r⟩ := ok_sp g
    · exact .two r.1 r.2.2 .nil
    · exact absurd r.2.2.2 q.1
    · refine .one y r.1 r.2 ?_
      obtain ⟨w, s | s | s⟩ := ok_sp k
      · exact absurd rfl s.2.1
      · exact absurd s.2.2.2 r.1
      · exact .one w s.1 s.2 .nil
theorem d16_0 : decode method_4_code 0 = .ok (.iload_n 0, 1) := by decide +kernel
theorem d16_1 : decode method_4_code 1 = .ok (.ldc 30, 2) := by decide +kernel
theorem d16_3 : decode method_4_code 3 = .ok (.if_icmp .lt 13, 3) := by decide +kernel
theorem d16_6 : decode method_4_code 6 = .ok (.iload_n 0, 1) := by decide +kernel
theorem d16_7 : decode method_4_code 7 = .ok (.ldc 33, 2) := by decide +kernel
theorem d16_9 : decode method_4_code 9 = .ok (.if_icmp .gt 7, 3) := by decide +kernel
theorem d16_12 : decode method_4_code 12 = .ok (.iconst 1, 1) := by decide +kernel
theorem d16_13 : decode method_4_code 13 = .ok (.goto 4, 3) := by decide +kernel
theorem d16_16 : decode method_4_code 16 = .ok (.iconst 0, 1) := by decide +kernel
theorem d16_17 : decode method_4_code 17 = .ok (.ireturn, 1) := by decide +kernel
theorem pn_3 : plainName "com/example/patient_outbox/patientoutbox/db/StorableTextPinLaw" = true := by first | (simp [plainName, overriddenIn]; done) | decide +kernel
def ct_isHigh_R : Room := ({ frames := 0, cells := 0, slots := 0, locals := 0 } : Room)
set_option maxRecDepth 65536 in
set_option maxHeartbeats 40000000 in
theorem ct_isHigh (l : Launch) (Z : State) (a0 : Array Value) (hw : ∀ d ∈ tables_1, d.before a0 Z = true) (q0 : Int32) (h : Heap) (n0 : Nat)  :
    Ct l Z ⟨"com/example/patient_outbox/patientoutbox/db/StorableTextPinLaw", "isHigh", "(C)Z"⟩ method_4_code 1 (some .boolean) [] ct_isHigh_R ct_isHigh_R.cells ct_isHigh_R.slots [(.int q0)] h (fun v h' L => v = some (.int (if Hi q0 then 1 else 0)) ∧ Fr n0 L ∧ h' = h) := by
  refine Ct.mk (L0 := [.val (.int q0)]) (plainFor_of_name pn_3) (fun m => by first | (simp [entryFrame, mkF, argsToLocals, Value.category]; done) | rfl) ?_
  intro p e s m below meth c s₁ B X0 e0
  refine Go.iloadN B X0 d16_0 (pc' := 1) rfl rfl ?_
  refine Go.ldcI B X0 (tw hw 49 rfl) d16_1 (pc' := 3) rfl ?_
  refine Go.ic B X0 d16_3 (by decide) (pcT := 16) rfl (pc' := 6) rfl (fun h1 => ?_) (fun h1 => ?_)
  · dsimp only [GoKit.CP] at h1
    refine Go.iconst B X0 0 d16_16 (pc' := 17) rfl rfl ?_
    exact Go.zret B X0 d16_17 rfl nb nb ⟨by rw [if_neg (fun q => q.1 h1)], Fr.nil _, e0⟩
  · dsimp only [GoKit.CN] at h1
    refine Go.iloadN B X0 d16_6 (pc' := 7) rfl rfl ?_
    refine Go.ldcI B X0 (tw hw 88 rfl) d16_7 (pc' := 9) rfl ?_
    refine Go.ic B X0 d16_9 (by decide) (pcT := 16) rfl (pc' := 12) rfl (fun h2 => ?_) (fun h2 => ?_)
    · dsimp only [GoKit.CP] at h2
      refine Go.iconst B X0 0 d16_16 (pc' := 17) rfl rfl ?_
      exact Go.zret B X0 d16_17 rfl nb nb ⟨by rw [if_neg (fun q => q.2 h2)], Fr.nil _, e0⟩
    · dsimp only [GoKit.CN] at h2
      refine Go.iconst B X0 1 d16_12 (pc' := 13) rfl rfl ?_
      refine Go.goto B X0 d16_13 (by decide) (pc' := 17) rfl ?_
      exact Go.zret B X0 d16_17 rfl nb nb ⟨by rw [if_pos ⟨h1, h2⟩], Fr.nil _, e0⟩
theorem d17_0 : decode method_5_code 0 = .ok (.iload_n 0, 1) := by decide +kernel
theorem d17_1 : decode method_5_code 1 = .ok (.ldc 31, 2) := by decide +kernel
theorem d17_3 : decode method_5_code 3 = .ok (.if_icmp .lt 13, 3) := by decide +kernel
theorem d17_6 : decode method_5_code 6 = .ok (.iload_n 0, 1) := by decide +kernel
theorem d17_7 : decode method_5_code 7 = .ok (.ldc 34, 2) := by decide +kernel
theorem d17_9 : decode method_5_code 9 = .ok (.if_icmp .gt 7, 3) := by decide +kernel
theorem d17_12 : decode method_5_code 12 = .ok (.iconst 1, 1) := by decide +kernel
theorem d17_13 : decode method_5_code 13 = .ok (.goto 4, 3) := by decide +kernel
theorem d17_16 : decode method_5_code 16 = .ok (.iconst 0, 1) := by decide +kernel
theorem d17_17 : decode method_5_code 17 = .ok (.ireturn, 1) := by decide +kernel
def ct_isLow_R : Room := ({ frames := 0, cells := 0, slots := 0, locals := 0 } : Room)
set_option maxRecDepth 65536 in
set_option maxHeartbeats 40000000 in
theorem ct_isLow (l : Launch) (Z : State) (a0 : Array Value) (hw : ∀ d ∈ tables_1, d.before a0 Z = true) (q0 : Int32) (h : Heap) (n0 : Nat)  :
    Ct l Z ⟨"com/example/patient_outbox/patientoutbox/db/StorableTextPinLaw", "isLow", "(C)Z"⟩ method_5_code 1 (some .boolean) [] ct_isLow_R ct_isLow_R.cells ct_isLow_R.slots [(.int q0)] h (fun v h' L => v = some (.int (if Lo q0 then 1 else 0)) ∧ Fr n0 L ∧ h' = h) := by
  refine Ct.mk (L0 := [.val (.int q0)]) (plainFor_of_name pn_3) (fun m => by first | (simp [entryFrame, mkF, argsToLocals, Value.category]; done) | rfl) ?_
  intro p e s m below meth c s₁ B X0 e0
  refine Go.iloadN B X0 d17_0 (pc' := 1) rfl rfl ?_
  refine Go.ldcI B X0 (tw hw 53 rfl) d17_1 (pc' := 3) rfl ?_
  refine Go.ic B X0 d17_3 (by decide) (pcT := 16) rfl (pc' := 6) rfl (fun h1 => ?_) (fun h1 => ?_)
  · dsimp only [GoKit.CP] at h1
    refine Go.iconst B X0 0 d17_16 (pc' := 17) rfl rfl ?_
    exact Go.zret B X0 d17_17 rfl nb nb ⟨by rw [if_neg (fun q => q.1 h1)], Fr.nil _, e0⟩
  · dsimp only [GoKit.CN] at h1
    refine Go.iloadN B X0 d17_6 (pc' := 7) rfl rfl ?_
    refine Go.ldcI B X0 (tw hw 89 rfl) d17_7 (pc' := 9) rfl ?_
    refine Go.ic B X0 d17_9 (by decide) (pcT := 16) rfl (pc' := 12) rfl (fun h2 => ?_) (fun h2 => ?_)
    · dsimp only [GoKit.CP] at h2
      refine Go.iconst B X0 0 d17_16 (pc' := 17) rfl rfl ?_
      exact Go.zret B X0 d17_17 rfl nb nb ⟨by rw [if_neg (fun q => q.2 h2)], Fr.nil _, e0⟩
    · dsimp only [GoKit.CN] at h2
      refine Go.iconst B X0 1 d17_12 (pc' := 13) rfl rfl ?_
      refine Go.goto B X0 d17_13 (by decide) (pc' := 17) rfl ?_
      exact Go.zret B X0 d17_17 rfl nb nb ⟨by rw [if_pos ⟨h1, h2⟩], Fr.nil _, e0⟩
theorem d18_0 : decode jdk_89_method_14_code 0 = .ok (.iload_n 0, 1) := by decide +kernel
theorem d18_1 : decode jdk_89_method_14_code 1 = .ok (.ldc 75, 2) := by decide +kernel
theorem d18_3 : decode jdk_89_method_14_code 3 = .ok (.if_icmp .lt 13, 3) := by decide +kernel
theorem d18_6 : decode jdk_89_method_14_code 6 = .ok (.iload_n 0, 1) := by decide +kernel
theorem d18_7 : decode jdk_89_method_14_code 7 = .ok (.ldc 76, 2) := by decide +kernel
theorem d18_9 : decode jdk_89_method_14_code 9 = .ok (.if_icmp .ge 7, 3) := by decide +kernel
theorem d18_12 : decode jdk_89_method_14_code 12 = .ok (.iconst 1, 1) := by decide +kernel
theorem d18_13 : decode jdk_89_method_14_code 13 = .ok (.goto 4, 3) := by decide +kernel
theorem d18_16 : decode jdk_89_method_14_code 16 = .ok (.iconst 0, 1) := by decide +kernel
theorem d18_17 : decode jdk_89_method_14_code 17 = .ok (.ireturn, 1) := by decide +kernel
theorem pn_4 : plainName "java/lang/Character" = true := by first | (simp [plainName, overriddenIn]; done) | decide +kernel
def ct_isHighSurrogate_R : Room := ({ frames := 0, cells := 0, slots := 0, locals := 0 } : Room)
set_option maxRecDepth 65536 in
set_option maxHeartbeats 40000000 in
theorem ct_isHighSurrogate (l : Launch) (Z : State) (a0 : Array Value) (hw : ∀ d ∈ tables_1, d.before a0 Z = true) (q0 : Int32) (h : Heap) (n0 : Nat)  :
    Ct l Z ⟨"java/lang/Character", "isHighSurrogate", "(C)Z"⟩ jdk_89_method_14_code 1 (some .boolean) [] ct_isHighSurrogate_R ct_isHighSurrogate_R.cells ct_isHighSurrogate_R.slots [(.int q0)] h (fun v h' L => v = some (.int (if Hi q0 then 1 else 0)) ∧ Fr n0 L ∧ h' = h) := by
  refine Ct.mk (L0 := [.val (.int q0)]) (plainFor_of_name pn_4) (fun m => by first | (simp [entryFrame, mkF, argsToLocals, Value.category]; done) | rfl) ?_
  intro p e s m below meth c s₁ B X0 e0
  refine Go.iloadN B X0 d18_0 (pc' := 1) rfl rfl ?_
  refine Go.ldcI B X0 (tw hw 118 rfl) d18_1 (pc' := 3) rfl ?_
  refine Go.ic B X0 d18_3 (by decide) (pcT := 16) rfl (pc' := 6) rfl (fun h1 => ?_) (fun h1 => ?_)
  · dsimp only [GoKit.CP] at h1
    refine Go.iconst B X0 0 d18_16 (pc' := 17) rfl rfl ?_
    exact Go.zret B X0 d18_17 rfl nb nb ⟨by rw [if_neg (fun q => q.1 h1)], Fr.nil _, e0⟩
  · dsimp only [GoKit.CN] at h1
    refine Go.iloadN B X0 d18_6 (pc' := 7) rfl rfl ?_
    refine Go.ldcI B X0 (tw hw 119 rfl) d18_7 (pc' := 9) rfl ?_
    refine Go.ic B X0 d18_9 (by decide) (pcT := 16) rfl (pc' := 12) rfl (fun h2 => ?_) (fun h2 => ?_)
    · dsimp only [GoKit.CP] at h2
      refine Go.iconst B X0 0 d18_16 (pc' := 17) rfl rfl ?_
      exact Go.zret B X0 d18_17 rfl nb nb ⟨by rw [if_neg (fun q => h2 ((lt_sw (a := 56319) (by decide)).mpr q.2))], Fr.nil _, e0⟩
    · dsimp only [GoKit.CN] at h2
      refine Go.iconst B X0 1 d18_12 (pc' := 13) rfl rfl ?_
      refine Go.goto B X0 d18_13 (by decide) (pc' := 17) rfl ?_
      exact Go.zret B X0 d18_17 rfl nb nb ⟨by rw [if_pos ⟨h1, (lt_sw (a := 56319) (by decide)).mp h2⟩], Fr.nil _, e0⟩
theorem d19_0 : decode jdk_89_method_15_code 0 = .ok (.iload_n 0, 1) := by decide +kernel
theorem d19_1 : decode jdk_89_method_15_code 1 = .ok (.ldc 76, 2) := by decide +kernel
theorem d19_3 : decode jdk_89_method_15_code 3 = .ok (.if_icmp .lt 13, 3) := by decide +kernel
theorem d19_6 : decode jdk_89_method_15_code 6 = .ok (.iload_n 0, 1) := by decide +kernel
theorem d19_7 : decode jdk_89_method_15_code 7 = .ok (.ldc 77, 2) := by decide +kernel
theorem d19_9 : decode jdk_89_method_15_code 9 = .ok (.if_icmp .ge 7, 3) := by decide +kernel
theorem d19_12 : decode jdk_89_method_15_code 12 = .ok (.iconst 1, 1) := by decide +kernel
theorem d19_13 : decode jdk_89_method_15_code 13 = .ok (.goto 4, 3) := by decide +kernel
theorem d19_16 : decode jdk_89_method_15_code 16 = .ok (.iconst 0, 1) := by decide +kernel
theorem d19_17 : decode jdk_89_method_15_code 17 = .ok (.ireturn, 1) := by decide +kernel
def ct_isLowSurrogate_R : Room := ({ frames := 0, cells := 0, slots := 0, locals := 0 } : Room)
set_option maxRecDepth 65536 in
set_option maxHeartbeats 40000000 in
theorem ct_isLowSurrogate (l : Launch) (Z : State) (a0 : Array Value) (hw : ∀ d ∈ tables_1, d.before a0 Z = true) (q0 : Int32) (h : Heap) (n0 : Nat)  :
    Ct l Z ⟨"java/lang/Character", "isLowSurrogate", "(C)Z"⟩ jdk_89_method_15_code 1 (some .boolean) [] ct_isLowSurrogate_R ct_isLowSurrogate_R.cells ct_isLowSurrogate_R.slots [(.int q0)] h (fun v h' L => v = some (.int (if Lo q0 then 1 else 0)) ∧ Fr n0 L ∧ h' = h) := by
  refine Ct.mk (L0 := [.val (.int q0)]) (plainFor_of_name pn_4) (fun m => by first | (simp [entryFrame, mkF, argsToLocals, Value.category]; done) | rfl) ?_
  intro p e s m below meth c s₁ B X0 e0
  refine Go.iloadN B X0 d19_0 (pc' := 1) rfl rfl ?_
  refine Go.ldcI B X0 (tw hw 119 rfl) d19_1 (pc' := 3) rfl ?_
  refine Go.ic B X0 d19_3 (by decide) (pcT := 16) rfl (pc' := 6) rfl (fun h1 => ?_) (fun h1 => ?_)
  · dsimp only [GoKit.CP] at h1
    refine Go.iconst B X0 0 d19_16 (pc' := 17) rfl rfl ?_
    exact Go.zret B X0 d19_17 rfl nb nb ⟨by rw [if_neg (fun q => q.1 h1)], Fr.nil _, e0⟩
  · dsimp only [GoKit.CN] at h1
    refine Go.iloadN B X0 d19_6 (pc' := 7) rfl rfl ?_
    refine Go.ldcI B X0 (tw hw 124 rfl) d19_7 (pc' := 9) rfl ?_
    refine Go.ic B X0 d19_9 (by decide) (pcT := 16) rfl (pc' := 12) rfl (fun h2 => ?_) (fun h2 => ?_)
    · dsimp only [GoKit.CP] at h2
      refine Go.iconst B X0 0 d19_16 (pc' := 17) rfl rfl ?_
      exact Go.zret B X0 d19_17 rfl nb nb ⟨by rw [if_neg (fun q => h2 ((lt_sw (a := 57343) (by decide)).mpr q.2))], Fr.nil _, e0⟩
    · dsimp only [GoKit.CN] at h2
      refine Go.iconst B X0 1 d19_12 (pc' := 13) rfl rfl ?_
      refine Go.goto B X0 d19_13 (by decide) (pc' := 17) rfl ?_
      exact Go.zret B X0 d19_17 rfl nb nb ⟨by rw [if_pos ⟨h1, (lt_sw (a := 57343) (by decide)).mp h2⟩], Fr.nil _, e0⟩
theorem d20_0 : decode jdk_89_method_19_code 0 = .ok (.iload_n 0, 1) := by decide +kernel
theorem d20_1 : decode jdk_89_method_19_code 1 = .ok (.bipush 10, 2) := by decide +kernel
theorem d20_3 : decode jdk_89_method_19_code 3 = .ok (.ishl, 1) := by decide +kernel
theorem d20_4 : decode jdk_89_method_19_code 4 = .ok (.iload_n 1, 1) := by decide +kernel
theorem d20_5 : decode jdk_89_method_19_code 5 = .ok (.iadd, 1) := by decide +kernel
theorem d20_6 : decode jdk_89_method_19_code 6 = .ok (.ldc 85, 2) := by decide +kernel
theorem d20_8 : decode jdk_89_method_19_code 8 = .ok (.iadd, 1) := by decide +kernel
theorem d20_9 : decode jdk_89_method_19_code 9 = .ok (.ireturn, 1) := by decide +kernel
def ct_tcp_R : Room := ({ frames := 0, cells := 0, slots := 0, locals := 0 } : Room)
set_option maxRecDepth 65536 in
set_option maxHeartbeats 40000000 in
theorem ct_tcp (l : Launch) (Z : State) (a0 : Array Value) (hw : ∀ d ∈ tables_1, d.before a0 Z = true) (c0 d0 : Int32) (h : Heap) (n0 : Nat)  :
    Ct l Z ⟨"java/lang/Character", "toCodePoint", "(CC)I"⟩ jdk_89_method_19_code 2 (some .int) [] ct_tcp_R ct_tcp_R.cells ct_tcp_R.slots [(.int c0), (.int d0)] h (fun v h' L => v = some (.int (toCP c0 d0)) ∧ Fr n0 L ∧ h' = h) := by
  refine Ct.mk (L0 := [.val (.int c0), .val (.int d0)]) (plainFor_of_name pn_4) (fun m => by first | (simp [entryFrame, mkF, argsToLocals, Value.category]; done) | rfl) ?_
  intro p e s m below meth c s₁ B X0 e0
  refine Go.iloadN B X0 d20_0 (pc' := 1) rfl rfl ?_
  refine Go.bipush B X0 10 d20_1 (pc' := 3) rfl rfl ?_
  refine Go.ishl B X0 d20_3 (pc' := 4) rfl ?_
  refine Go.iloadN B X0 d20_4 (pc' := 5) rfl rfl ?_
  refine Go.iadd B X0 d20_5 (pc' := 6) rfl ?_
  refine Go.ldcI B X0 (tw hw 128 rfl) d20_6 (pc' := 8) rfl ?_
  refine Go.iadd B X0 d20_8 (pc' := 9) rfl ?_
  exact Go.iret B X0 d20_9 nb nb ⟨rfl, Fr.nil _, e0⟩
theorem d21_0 : decode jdk_89_method_18_code 0 = .ok (.iload_n 0, 1) := by decide +kernel
theorem d21_1 : decode jdk_89_method_18_code 1 = .ok (.ldc 73, 2) := by decide +kernel
theorem d21_3 : decode jdk_89_method_18_code 3 = .ok (.if_icmp .lt 7, 3) := by decide +kernel
theorem d21_6 : decode jdk_89_method_18_code 6 = .ok (.iconst 2, 1) := by decide +kernel
theorem d21_7 : decode jdk_89_method_18_code 7 = .ok (.goto 4, 3) := by decide +kernel
theorem d21_10 : decode jdk_89_method_18_code 10 = .ok (.iconst 1, 1) := by decide +kernel
theorem d21_11 : decode jdk_89_method_18_code 11 = .ok (.ireturn, 1) := by decide +kernel
def ct_cc_R : Room := ({ frames := 0, cells := 0, slots := 0, locals := 0 } : Room)
set_option maxRecDepth 65536 in
set_option maxHeartbeats 40000000 in
theorem ct_cc (l : Launch) (Z : State) (a0 : Array Value) (hw : ∀ d ∈ tables_1, d.before a0 Z = true) (c0 : Int32) (h : Heap) (n0 : Nat)  :
    Ct l Z ⟨"java/lang/Character", "charCount", "(I)I"⟩ jdk_89_method_18_code 1 (some .int) [] ct_cc_R ct_cc_R.cells ct_cc_R.slots [(.int c0)] h (fun v h' L => v = some (.int (if c0 < 65536 then 1 else 2)) ∧ Fr n0 L ∧ h' = h) := by
  refine Ct.mk (L0 := [.val (.int c0)]) (plainFor_of_name pn_4) (fun m => by first | (simp [entryFrame, mkF, argsToLocals, Value.category]; done) | rfl) ?_
  intro p e s m below meth c s₁ B X0 e0
  refine Go.iloadN B X0 d21_0 (pc' := 1) rfl rfl ?_
  refine Go.ldcI B X0 (tw hw 87 rfl) d21_1 (pc' := 3) rfl ?_
  refine Go.ic B X0 d21_3 (by decide) (pcT := 10) rfl (pc' := 6) rfl (fun hc => ?_) (fun hc => ?_)
  · dsimp only [GoKit.CP] at hc
    refine Go.iconst B X0 1 d21_10 (pc' := 11) rfl rfl ?_
    exact Go.iret B X0 d21_11 nb nb ⟨by rw [if_pos hc], Fr.nil _, e0⟩
  · dsimp only [GoKit.CN] at hc
    refine Go.iconst B X0 2 d21_6 (pc' := 7) rfl rfl ?_
    refine Go.goto B X0 d21_7 (by decide) (pc' := 11) rfl ?_
    exact Go.iret B X0 d21_11 nb nb ⟨by rw [if_neg hc], Fr.nil _, e0⟩
theorem d22_0 : decode jdk_52_method_7_code 0 = .ok (.getstatic 44, 3) := by decide +kernel
theorem d22_3 : decode jdk_52_method_7_code 3 = .ok (.ifCond .ne 16, 3) := by decide +kernel
theorem d22_6 : decode jdk_52_method_7_code 6 = .ok (.iload_n 1, 1) := by decide +kernel
theorem d22_7 : decode jdk_52_method_7_code 7 = .ok (.iload_n 2, 1) := by decide +kernel
theorem d22_8 : decode jdk_52_method_7_code 8 = .ok (.if_icmp .lt 11, 3) := by decide +kernel
theorem d22_11 : decode jdk_52_method_7_code 11 = .ok (.new 52, 3) := by decide +kernel
theorem d22_14 : decode jdk_52_method_7_code 14 = .ok (.dup, 1) := by decide +kernel
theorem d22_15 : decode jdk_52_method_7_code 15 = .ok (.invokespecial 66, 3) := by decide +kernel
theorem d22_18 : decode jdk_52_method_7_code 18 = .ok (.athrow, 1) := by decide +kernel
theorem d22_19 : decode jdk_52_method_7_code 19 = .ok (.iload_n 3, 1) := by decide +kernel
theorem d22_20 : decode jdk_52_method_7_code 20 = .ok (.ifCond .eq 8, 3) := by decide +kernel
theorem d22_23 : decode jdk_52_method_7_code 23 = .ok (.iload_n 1, 1) := by decide +kernel
theorem d22_24 : decode jdk_52_method_7_code 24 = .ok (.aload_n 0, 1) := by decide +kernel
theorem d22_25 : decode jdk_52_method_7_code 25 = .ok (.invokestatic 67, 3) := by decide +kernel
theorem d22_28 : decode jdk_52_method_7_code 28 = .ok (.aload_n 0, 1) := by decide +kernel
theorem d22_29 : decode jdk_52_method_7_code 29 = .ok (.iload_n 1, 1) := by decide +kernel
theorem d22_30 : decode jdk_52_method_7_code 30 = .ok (.invokestatic 71, 3) := by decide +kernel
theorem d22_33 : decode jdk_52_method_7_code 33 = .ok (.istore 4, 2) := by decide +kernel
theorem d22_35 : decode jdk_52_method_7_code 35 = .ok (.iload 4, 2) := by decide +kernel
theorem d22_37 : decode jdk_52_method_7_code 37 = .ok (.invokestatic 75, 3) := by decide +kernel
theorem d22_40 : decode jdk_52_method_7_code 40 = .ok (.ifCond .eq 43, 3) := by decide +kernel
theorem d22_43 : decode jdk_52_method_7_code 43 = .ok (.iinc 1 1, 3) := by decide +kernel
theorem d22_46 : decode jdk_52_method_7_code 46 = .ok (.iload_n 1, 1) := by decide +kernel
theorem d22_47 : decode jdk_52_method_7_code 47 = .ok (.iload_n 2, 1) := by decide +kernel
theorem d22_48 : decode jdk_52_method_7_code 48 = .ok (.if_icmp .ge 35, 3) := by decide +kernel
theorem d22_51 : decode jdk_52_method_7_code 51 = .ok (.iload_n 3, 1) := by decide +kernel
theorem d22_52 : decode jdk_52_method_7_code 52 = .ok (.ifCond .eq 8, 3) := by decide +kernel
theorem d22_55 : decode jdk_52_method_7_code 55 = .ok (.iload_n 1, 1) := by decide +kernel
theorem d22_56 : decode jdk_52_method_7_code 56 = .ok (.aload_n 0, 1) := by decide +kernel
theorem d22_57 : decode jdk_52_method_7_code 57 = .ok (.invokestatic 67, 3) := by decide +kernel
theorem d22_60 : decode jdk_52_method_7_code 60 = .ok (.aload_n 0, 1) := by decide +kernel
theorem d22_61 : decode jdk_52_method_7_code 61 = .ok (.iload_n 1, 1) := by decide +kernel
theorem d22_62 : decode jdk_52_method_7_code 62 = .ok (.invokestatic 71, 3) := by decide +kernel
theorem d22_65 : decode jdk_52_method_7_code 65 = .ok (.istore 5, 2) := by decide +kernel
theorem d22_67 : decode jdk_52_method_7_code 67 = .ok (.iload 5, 2) := by decide +kernel
theorem d22_69 : decode jdk_52_method_7_code 69 = .ok (.invokestatic 81, 3) := by decide +kernel
theorem d22_72 : decode jdk_52_method_7_code 72 = .ok (.ifCond .eq 11, 3) := by decide +kernel
theorem d22_75 : decode jdk_52_method_7_code 75 = .ok (.iload 4, 2) := by decide +kernel
theorem d22_77 : decode jdk_52_method_7_code 77 = .ok (.iload 5, 2) := by decide +kernel
theorem d22_79 : decode jdk_52_method_7_code 79 = .ok (.invokestatic 84, 3) := by decide +kernel
theorem d22_82 : decode jdk_52_method_7_code 82 = .ok (.ireturn, 1) := by decide +kernel
theorem d22_83 : decode jdk_52_method_7_code 83 = .ok (.iload 4, 2) := by decide +kernel
theorem d22_85 : decode jdk_52_method_7_code 85 = .ok (.ireturn, 1) := by decide +kernel
theorem pd_10 : parseMethodDescriptor "(C)Z" = some ⟨[.char], some .boolean⟩ := by decide +kernel
def ct_cpza_R : Room := ({ frames := 1, cells := 0, slots := 0, locals := 30 } : Room)
set_option maxRecDepth 65536 in
set_option maxHeartbeats 40000000 in
theorem ct_cpza (l : Launch) (Z : State) (a0 : Array Value) (hw : ∀ d ∈ tables_1, d.before a0 Z = true) (b : Addr) (i : Nat) (cs : List Int32) (c0 : Int32) (h : Heap) (n0 : Nat) (hS : Stz Z) (O : Old Z n0 h) (A0 : Av Z h b .byte ((wide cs).map Value.int)) (hn : cs.length ≤ 8) (hr : ∀ x ∈ cs, Rc x) (hc : cs[i]? = some c0) (hh : ¬ Hi c0) :
    Ct l Z ⟨"java/lang/StringUTF16", "codePointAt", "([BIIZ)I"⟩ jdk_52_method_7_code 6 (some .int) [] ct_cpza_R ct_cpza_R.cells ct_cpza_R.slots [(.ref b), (.int (Int32.ofNat i)), (.int (Int32.ofNat cs.length)), (.int (0 : Int32))] h (fun v h' L => v = some (.int c0) ∧ Fr n0 L ∧ h' = h) := by
  refine Ct.mk (L0 := [.val (.ref b), .val (.int (Int32.ofNat i)), .val (.int (Int32.ofNat cs.length)), .val (.int (0 : Int32)), .unset, .unset]) (plainFor_of_name pn_0) (fun m => by first | (simp [entryFrame, mkF, argsToLocals, Value.category]; done) | rfl) ?_
  intro p e s m below meth c s₁ B X0 e0
  have hi : i < cs.length := (List.getElem?_eq_some_iff.mp hc).1
  refine Go.getS B X0 e0 (tw hw 103 rfl) (hS.2.1.ext O.2) d22_0 (pc' := 3) rfl ?_
  intro Tt0_1 Xt0_1 et0_1
  refine Go.ifT B Xt0_1 d22_3 (by decide) (pc' := 19) rfl (by decide) ?_
  refine Go.iloadN B Xt0_1 d22_19 (pc' := 20) rfl rfl ?_
  refine Go.ifT B Xt0_1 d22_20 (by decide) (pc' := 28) rfl rfl ?_
  refine Go.aloadN B Xt0_1 d22_28 (pc' := 29) rfl rfl rfl ?_
  refine Go.iloadN B Xt0_1 d22_29 (pc' := 30) rfl rfl ?_
  refine Go.callS B Xt0_1 et0_1 (y := ⟨"java/lang/StringUTF16", "getChar", "([BI)C"⟩) (Ct.back (W := 0) (ct_getChar l Z a0 hw b i c0 cs h n0 hS O A0 hc (by omega) hi (hr c0 (List.mem_of_getElem? hc))) B.hZ (tw hw 108 rfl) (tw hw 56 rfl) nb nb) (tw hw 106 rfl) (tw hw 107 rfl) (tw hw 56 rfl) (tw hw 108 rfl) (by decide) pd_5 d22_30 (pc' := 33) rfl rfl (rest := []) rfl rfl nb nb nb ?_
  intro va Ta La Xa Qa
  obtain ⟨rfl, Na, ea⟩ := Qa
  dsimp only [Option.toList, List.nil_append, List.cons_append]
  refine Go.istore B Xa d22_33 (pc' := 35) rfl rfl rfl ?_
  dsimp only [put1]
  refine Go.iload B Xa d22_35 (pc' := 37) rfl rfl ?_
  refine Go.callS B Xa ea (y := ⟨"java/lang/Character", "isHighSurrogate", "(C)Z"⟩) (Ct.back (W := 0) (ct_isHighSurrogate l Z a0 hw c0 h n0) B.hZ (tw hw 117 rfl) (tw hw 85 rfl) nb nb) (tw hw 115 rfl) (tw hw 116 rfl) (tw hw 85 rfl) (tw hw 117 rfl) (by decide) pd_10 d22_37 (pc' := 40) rfl rfl (rest := []) rfl rfl nb nb nb ?_
  intro vb Tb Lb Xb Qb
  obtain ⟨rfl, Nb, eb⟩ := Qb
  dsimp only [Option.toList, List.nil_append, List.cons_append]
  rw [if_neg hh]
  refine Go.ifT B Xb d22_40 (by decide) (pc' := 83) rfl rfl ?_
  refine Go.iload B Xb d22_83 (pc' := 85) rfl rfl ?_
  exact Go.iret B Xb d22_85 nb nb ⟨rfl, Fr.app (Fr.app (Fr.nil _) Na) Nb, eb⟩
theorem d23_0 : decode jdk_52_method_8_code 0 = .ok (.aload_n 0, 1) := by decide +kernel
theorem d23_1 : decode jdk_52_method_8_code 1 = .ok (.iload_n 1, 1) := by decide +kernel
theorem d23_2 : decode jdk_52_method_8_code 2 = .ok (.iload_n 2, 1) := by decide +kernel
theorem d23_3 : decode jdk_52_method_8_code 3 = .ok (.iconst 0, 1) := by decide +kernel
theorem d23_4 : decode jdk_52_method_8_code 4 = .ok (.invokestatic 88, 3) := by decide +kernel
theorem d23_7 : decode jdk_52_method_8_code 7 = .ok (.ireturn, 1) := by decide +kernel
theorem pd_11 : parseMethodDescriptor "([BIIZ)I" = some ⟨[(.array .byte), .int, .int, .boolean], some .int⟩ := by decide +kernel
def ct_cp3a_R : Room := ({ frames := 2, cells := 0, slots := 0, locals := 60 } : Room)
set_option maxRecDepth 65536 in
set_option maxHeartbeats 40000000 in
theorem ct_cp3a (l : Launch) (Z : State) (a0 : Array Value) (hw : ∀ d ∈ tables_1, d.before a0 Z = true) (b : Addr) (i : Nat) (cs : List Int32) (c0 : Int32) (h : Heap) (n0 : Nat) (hS : Stz Z) (O : Old Z n0 h) (A0 : Av Z h b .byte ((wide cs).map Value.int)) (hn : cs.length ≤ 8) (hr : ∀ x ∈ cs, Rc x) (hc : cs[i]? = some c0) (hh : ¬ Hi c0) :
    Ct l Z ⟨"java/lang/StringUTF16", "codePointAt", "([BII)I"⟩ jdk_52_method_8_code 3 (some .int) [] ct_cp3a_R ct_cp3a_R.cells ct_cp3a_R.slots [(.ref b), (.int (Int32.ofNat i)), (.int (Int32.ofNat cs.length))] h (fun v h' L => v = some (.int c0) ∧ Fr n0 L ∧ h' = h) := by
  refine Ct.mk (L0 := [.val (.ref b), .val (.int (Int32.ofNat i)), .val (.int (Int32.ofNat cs.length))]) (plainFor_of_name pn_0) (fun m => by first | (simp [entryFrame, mkF, argsToLocals, Value.category]; done) | rfl) ?_
  intro p e s m below meth c s₁ B X0 e0
  refine Go.aloadN B X0 d23_0 (pc' := 1) rfl rfl rfl ?_
  refine Go.iloadN B X0 d23_1 (pc' := 2) rfl rfl ?_
  refine Go.iloadN B X0 d23_2 (pc' := 3) rfl rfl ?_
  refine Go.iconst B X0 0 d23_3 (pc' := 4) rfl rfl ?_
  refine Go.callS B X0 e0 (y := ⟨"java/lang/StringUTF16", "codePointAt", "([BIIZ)I"⟩) (Ct.back (W := 0) (ct_cpza l Z a0 hw b i cs c0 h n0 hS O A0 hn hr hc hh) B.hZ (tw hw 114 rfl) (tw hw 56 rfl) nb nb) (tw hw 112 rfl) (tw hw 113 rfl) (tw hw 56 rfl) (tw hw 114 rfl) (by decide) pd_11 d23_4 (pc' := 7) rfl rfl (rest := []) rfl rfl nb nb nb ?_
  intro va Ta La Xa Qa
  obtain ⟨rfl, Na, ea⟩ := Qa
  dsimp only [Option.toList, List.nil_append, List.cons_append]
  exact Go.iret B Xa d23_7 nb nb ⟨rfl, Fr.app (Fr.nil _) Na, ea⟩
theorem d24_0 : decode jdk_42_method_57_code 0 = .ok (.aload_n 0, 1) := by decide +kernel
theorem d24_1 : decode jdk_42_method_57_code 1 = .ok (.invokevirtual 492, 3) := by decide +kernel
theorem d24_4 : decode jdk_42_method_57_code 4 = .ok (.ifCond .eq 23, 3) := by decide +kernel
theorem d24_7 : decode jdk_42_method_57_code 7 = .ok (.iload_n 1, 1) := by decide +kernel
theorem d24_8 : decode jdk_42_method_57_code 8 = .ok (.aload_n 0, 1) := by decide +kernel
theorem d24_9 : decode jdk_42_method_57_code 9 = .ok (.getfield 9, 3) := by decide +kernel
theorem d24_12 : decode jdk_42_method_57_code 12 = .ok (.arraylength, 1) := by decide +kernel
theorem d24_13 : decode jdk_42_method_57_code 13 = .ok (.invokestatic 499, 3) := by decide +kernel
theorem d24_16 : decode jdk_42_method_57_code 16 = .ok (.aload_n 0, 1) := by decide +kernel
theorem d24_17 : decode jdk_42_method_57_code 17 = .ok (.getfield 9, 3) := by decide +kernel
theorem d24_20 : decode jdk_42_method_57_code 20 = .ok (.iload_n 1, 1) := by decide +kernel
theorem d24_21 : decode jdk_42_method_57_code 21 = .ok (.baload, 1) := by decide +kernel
theorem d24_22 : decode jdk_42_method_57_code 22 = .ok (.sipush 255, 3) := by decide +kernel
theorem d24_25 : decode jdk_42_method_57_code 25 = .ok (.iand, 1) := by decide +kernel
theorem d24_26 : decode jdk_42_method_57_code 26 = .ok (.ireturn, 1) := by decide +kernel
theorem d24_27 : decode jdk_42_method_57_code 27 = .ok (.aload_n 0, 1) := by decide +kernel
theorem d24_28 : decode jdk_42_method_57_code 28 = .ok (.getfield 9, 3) := by decide +kernel
theorem d24_31 : decode jdk_42_method_57_code 31 = .ok (.arraylength, 1) := by decide +kernel
theorem d24_32 : decode jdk_42_method_57_code 32 = .ok (.iconst 1, 1) := by decide +kernel
theorem d24_33 : decode jdk_42_method_57_code 33 = .ok (.ishr, 1) := by decide +kernel
theorem d24_34 : decode jdk_42_method_57_code 34 = .ok (.istore_n 2, 1) := by decide +kernel
theorem d24_35 : decode jdk_42_method_57_code 35 = .ok (.iload_n 1, 1) := by decide +kernel
theorem d24_36 : decode jdk_42_method_57_code 36 = .ok (.iload_n 2, 1) := by decide +kernel
theorem d24_37 : decode jdk_42_method_57_code 37 = .ok (.invokestatic 499, 3) := by decide +kernel
theorem d24_40 : decode jdk_42_method_57_code 40 = .ok (.aload_n 0, 1) := by decide +kernel
theorem d24_41 : decode jdk_42_method_57_code 41 = .ok (.getfield 9, 3) := by decide +kernel
theorem d24_44 : decode jdk_42_method_57_code 44 = .ok (.iload_n 1, 1) := by decide +kernel
theorem d24_45 : decode jdk_42_method_57_code 45 = .ok (.iload_n 2, 1) := by decide +kernel
theorem d24_46 : decode jdk_42_method_57_code 46 = .ok (.invokestatic 502, 3) := by decide +kernel
theorem d24_49 : decode jdk_42_method_57_code 49 = .ok (.ireturn, 1) := by decide +kernel
theorem pd_12 : parseMethodDescriptor "()Z" = some ⟨[], some .boolean⟩ := by decide +kernel
theorem pd_13 : parseMethodDescriptor "(II)V" = some ⟨[.int, .int], none⟩ := by decide +kernel
theorem pd_14 : parseMethodDescriptor "([BII)I" = some ⟨[(.array .byte), .int, .int], some .int⟩ := by decide +kernel
def ct_cpaa_R : Room := ({ frames := 3, cells := 0, slots := 0, locals := 90 } : Room)
set_option maxRecDepth 65536 in
set_option maxHeartbeats 40000000 in
theorem ct_cpaa (l : Launch) (Z : State) (a0 : Array Value) (hw : ∀ d ∈ tables_1, d.before a0 Z = true) (x : Addr) (i : Nat) (cs : List Int32) (c0 : Int32) (h : Heap) (n0 : Nat) (hS : Stz Z) (O : Old Z n0 h) (hF : Sfm Z) (D : StrD Z h x cs) (hn : cs.length ≤ 8) (hr : ∀ x ∈ cs, Rc x) (hc : cs[i]? = some c0) (hh : ¬ Hi c0) :
    Ct l Z ⟨"java/lang/String", "codePointAt", "(I)I"⟩ jdk_42_method_57_code 3 (some .int) [] ct_cpaa_R ct_cpaa_R.cells ct_cpaa_R.slots [(.ref x), (.int (Int32.ofNat i))] h (fun v h' L => v = some (.int c0) ∧ Fr n0 L ∧ h' = h) := by
  refine Ct.mk (L0 := [.val (.ref x), .val (.int (Int32.ofNat i)), .unset]) (plainFor_of_name pn_1) (fun m => by first | (simp [entryFrame, mkF, argsToLocals, Value.category]; done) | rfl) ?_
  intro p e s m below meth c s₁ B X0 e0
  have hi : i < cs.length := (List.getElem?_eq_some_iff.mp hc).1
  obtain ⟨t, cd, bs, x1, x2, x3, x4, hb⟩ := D
  refine Go.aloadN B X0 d24_0 (pc' := 1) rfl rfl rfl ?_
  refine Go.callV B X0 e0 (y := ⟨"java/lang/String", "isLatin1", "()Z"⟩) (z := ⟨"java/lang/String", "isLatin1", "()Z"⟩) (Ct.back (W := 0) (ct_isLat l Z a0 hw x cd h n0 hS O x2) B.hZ (tw hw 73 rfl) (tw hw 7 rfl) nb nb) x1 (tw hw 69 rfl) (tw hw 70 rfl) (tw hw 72 rfl) (tw hw 71 rfl) (by decide) (notFace_of_selects (args := #[]) (mvT B.hZ (tw hw 72 rfl))) pd_12 d24_1 (pc' := 4) rfl rfl (rest := []) rfl rfl nb nb nb ?_
  intro va Ta La Xa Qa
  obtain ⟨rfl, Na, ea⟩ := Qa
  dsimp only [Option.toList, List.nil_append, List.cons_append]
  rcases hb with hb | hb
  · obtain ⟨rfl, rfl, hlow⟩ := hb
    rw [if_pos rfl]
    refine Go.ifF B Xa d24_4 (pc' := 7) rfl (by decide) ?_
    refine Go.iloadN B Xa d24_7 (pc' := 8) rfl rfl ?_
    refine Go.aloadN B Xa d24_8 (pc' := 9) rfl rfl rfl ?_
    refine Go.getF B Xa ea (tw hw 26 rfl) x3 d24_9 (pc' := 12) rfl ?_
    intro Tt9_1 Xt9_1 et9_1
    refine Go.arraylength B Xt9_1 et9_1 x4 d24_12 (pc' := 13) rfl ?_
    rw [List.length_map, List.length_map]
    refine Go.callS B Xt9_1 et9_1 (y := ⟨"java/lang/String", "checkIndex", "(II)V"⟩) (Ct.back (W := 0) (ct_sci l Z a0 hw (Int32.ofNat i) (Int32.ofNat cs.length) h n0 hF O (ofNat_nn (by omega)) ((lt_ofNat (by omega) (by omega)).mpr hi)) B.hZ (tw hw 76 rfl) (tw hw 7 rfl) nb nb) (tw hw 74 rfl) (tw hw 75 rfl) (tw hw 7 rfl) (tw hw 76 rfl) (by decide) pd_13 d24_13 (pc' := 16) rfl rfl (rest := []) rfl rfl nb nb nb ?_
    intro vd Td Ld Xd Qd
    obtain ⟨rfl, Nd, ed⟩ := Qd
    dsimp only [Option.toList, List.nil_append, List.cons_append]
    refine Go.aloadN B Xd d24_16 (pc' := 17) rfl rfl rfl ?_
    refine Go.getF B Xd ed (tw hw 26 rfl) x3 d24_17 (pc' := 20) rfl ?_
    intro Tt17_2 Xt17_2 et17_2
    refine Go.iloadN B Xt17_2 d24_20 (pc' := 21) rfl rfl ?_
    refine Go.baload B Xt17_2 et17_2 x4 i d24_21 (pc' := 22) rfl rfl (v := .int (lo8 c0)) (by rw [List.getElem?_map, List.getElem?_map, hc]; rfl) ?_
    refine Go.sipush B Xt17_2 255 d24_22 (pc' := 25) rfl rfl ?_
    refine Go.iand B Xt17_2 d24_25 (pc' := 26) rfl ?_
    rw [lo8_255 (hr c0 (List.mem_of_getElem? hc)).1 (hlow c0 (List.mem_of_getElem? hc))]
    exact Go.iret B Xt17_2 d24_26 nb nb ⟨rfl, Fr.app (Fr.app (Fr.nil _) Na) Nd, et17_2⟩
  · obtain ⟨rfl, rfl, hw1⟩ := hb
    rw [if_neg (by decide)]
    refine Go.ifT B Xa d24_4 (by decide) (pc' := 27) rfl rfl ?_
    refine Go.aloadN B Xa d24_27 (pc' := 28) rfl rfl rfl ?_
    refine Go.getF B Xa ea (tw hw 26 rfl) x3 d24_28 (pc' := 31) rfl ?_
    intro Tt28_1 Xt28_1 et28_1
    refine Go.arraylength B Xt28_1 et28_1 x4 d24_31 (pc' := 32) rfl ?_
    refine Go.iconst B Xt28_1 1 d24_32 (pc' := 33) rfl rfl ?_
    refine Go.ishr B Xt28_1 d24_33 (pc' := 34) rfl ?_
    rw [List.length_map, wide_len, StrChars.shr1 (by omega)]
    refine Go.istoreN B Xt28_1 d24_34 (pc' := 35) rfl rfl rfl ?_
    dsimp only [put1]
    refine Go.iloadN B Xt28_1 d24_35 (pc' := 36) rfl rfl ?_
    refine Go.iloadN B Xt28_1 d24_36 (pc' := 37) rfl rfl ?_
    refine Go.callS B Xt28_1 et28_1 (y := ⟨"java/lang/String", "checkIndex", "(II)V"⟩) (Ct.back (W := 0) (ct_sci l Z a0 hw (Int32.ofNat i) (Int32.ofNat cs.length) h n0 hF O (ofNat_nn (by omega)) ((lt_ofNat (by omega) (by omega)).mpr hi)) B.hZ (tw hw 76 rfl) (tw hw 7 rfl) nb nb) (tw hw 74 rfl) (tw hw 75 rfl) (tw hw 7 rfl) (tw hw 76 rfl) (by decide) pd_13 d24_37 (pc' := 40) rfl rfl (rest := []) rfl rfl nb nb nb ?_
    intro vd Td Ld Xd Qd
    obtain ⟨rfl, Nd, ed⟩ := Qd
    dsimp only [Option.toList, List.nil_append, List.cons_append]
    refine Go.aloadN B Xd d24_40 (pc' := 41) rfl rfl rfl ?_
    refine Go.getF B Xd ed (tw hw 26 rfl) x3 d24_41 (pc' := 44) rfl ?_
    intro Tt41_2 Xt41_2 et41_2
    refine Go.iloadN B Xt41_2 d24_44 (pc' := 45) rfl rfl ?_
    refine Go.iloadN B Xt41_2 d24_45 (pc' := 46) rfl rfl ?_
    refine Go.callS B Xt41_2 et41_2 (y := ⟨"java/lang/StringUTF16", "codePointAt", "([BII)I"⟩) (Ct.back (W := 0) (ct_cp3a l Z a0 hw t i cs c0 h n0 hS O x4 hn hr hc hh) B.hZ (tw hw 111 rfl) (tw hw 56 rfl) nb nb) (tw hw 109 rfl) (tw hw 110 rfl) (tw hw 56 rfl) (tw hw 111 rfl) (by decide) pd_14 d24_46 (pc' := 49) rfl rfl (rest := []) rfl rfl nb nb nb ?_
    intro vf Tf Lf Xf Qf
    obtain ⟨rfl, Nf, ef⟩ := Qf
    dsimp only [Option.toList, List.nil_append, List.cons_append]
    exact Go.iret B Xf d24_49 nb nb ⟨rfl, Fr.app (Fr.app (Fr.app (Fr.nil _) Na) Nd) Nf, ef⟩
theorem pd_15 : parseMethodDescriptor "(CC)I" = some ⟨[.char, .char], some .int⟩ := by decide +kernel
def ct_cpzb_R : Room := ({ frames := 1, cells := 0, slots := 0, locals := 30 } : Room)
set_option maxRecDepth 65536 in
set_option maxHeartbeats 40000000 in
theorem ct_cpzb (l : Launch) (Z : State) (a0 : Array Value) (hw : ∀ d ∈ tables_1, d.before a0 Z = true) (b : Addr) (i : Nat) (cs : List Int32) (c0 : Int32) (d0 : Int32) (h : Heap) (n0 : Nat) (hS : Stz Z) (O : Old Z n0 h) (A0 : Av Z h b .byte ((wide cs).map Value.int)) (hn : cs.length ≤ 8) (hr : ∀ x ∈ cs, Rc x) (hc : cs[i]? = some c0) (hd : cs[i + 1]? = some d0) (hh : Hi c0) (hg : Lo d0) :
    Ct l Z ⟨"java/lang/StringUTF16", "codePointAt", "([BIIZ)I"⟩ jdk_52_method_7_code 6 (some .int) [] ct_cpzb_R ct_cpzb_R.cells ct_cpzb_R.slots [(.ref b), (.int (Int32.ofNat i)), (.int (Int32.ofNat cs.length)), (.int (0 : Int32))] h (fun v h' L => v = some (.int (toCP c0 d0)) ∧ Fr n0 L ∧ h' = h) := by
  refine Ct.mk (L0 := [.val (.ref b), .val (.int (Int32.ofNat i)), .val (.int (Int32.ofNat cs.length)), .val (.int (0 : Int32)), .unset, .unset]) (plainFor_of_name pn_0) (fun m => by first | (simp [entryFrame, mkF, argsToLocals, Value.category]; done) | rfl) ?_
  intro p e s m below meth c s₁ B X0 e0
  have hi : i < cs.length := (List.getElem?_eq_some_iff.mp hc).1
  refine Go.getS B X0 e0 (tw hw 103 rfl) (hS.2.1.ext O.2) d22_0 (pc' := 3) rfl ?_
  intro Tt0_1 Xt0_1 et0_1
  refine Go.ifT B Xt0_1 d22_3 (by decide) (pc' := 19) rfl (by decide) ?_
  refine Go.iloadN B Xt0_1 d22_19 (pc' := 20) rfl rfl ?_
  refine Go.ifT B Xt0_1 d22_20 (by decide) (pc' := 28) rfl rfl ?_
  refine Go.aloadN B Xt0_1 d22_28 (pc' := 29) rfl rfl rfl ?_
  refine Go.iloadN B Xt0_1 d22_29 (pc' := 30) rfl rfl ?_
  refine Go.callS B Xt0_1 et0_1 (y := ⟨"java/lang/StringUTF16", "getChar", "([BI)C"⟩) (Ct.back (W := 0) (ct_getChar l Z a0 hw b i c0 cs h n0 hS O A0 hc (by omega) hi (hr c0 (List.mem_of_getElem? hc))) B.hZ (tw hw 108 rfl) (tw hw 56 rfl) nb nb) (tw hw 106 rfl) (tw hw 107 rfl) (tw hw 56 rfl) (tw hw 108 rfl) (by decide) pd_5 d22_30 (pc' := 33) rfl rfl (rest := []) rfl rfl nb nb nb ?_
  intro va Ta La Xa Qa
  obtain ⟨rfl, Na, ea⟩ := Qa
  dsimp only [Option.toList, List.nil_append, List.cons_append]
  refine Go.istore B Xa d22_33 (pc' := 35) rfl rfl rfl ?_
  dsimp only [put1]
  refine Go.iload B Xa d22_35 (pc' := 37) rfl rfl ?_
  refine Go.callS B Xa ea (y := ⟨"java/lang/Character", "isHighSurrogate", "(C)Z"⟩) (Ct.back (W := 0) (ct_isHighSurrogate l Z a0 hw c0 h n0) B.hZ (tw hw 117 rfl) (tw hw 85 rfl) nb nb) (tw hw 115 rfl) (tw hw 116 rfl) (tw hw 85 rfl) (tw hw 117 rfl) (by decide) pd_10 d22_37 (pc' := 40) rfl rfl (rest := []) rfl rfl nb nb nb ?_
  intro vb Tb Lb Xb Qb
  obtain ⟨rfl, Nb, eb⟩ := Qb
  dsimp only [Option.toList, List.nil_append, List.cons_append]
  rw [if_pos hh]
  have hi2 : i + 1 < cs.length := (List.getElem?_eq_some_iff.mp hd).1
  refine Go.ifF B Xb d22_40 (pc' := 43) rfl (by decide) ?_
  refine Go.iinc B Xb 1 d22_43 (pc' := 46) rfl rfl rfl ?_
  dsimp only [put1]
  rw [ofNat_succ]
  refine Go.iloadN B Xb d22_46 (pc' := 47) rfl rfl ?_
  refine Go.iloadN B Xb d22_47 (pc' := 48) rfl rfl ?_
  refine Go.icF B Xb d22_48 (pc' := 51) rfl ((lt_ofNat (by omega) (by omega)).mpr hi2) ?_
  refine Go.iloadN B Xb d22_51 (pc' := 52) rfl rfl ?_
  refine Go.ifT B Xb d22_52 (by decide) (pc' := 60) rfl rfl ?_
  refine Go.aloadN B Xb d22_60 (pc' := 61) rfl rfl rfl ?_
  refine Go.iloadN B Xb d22_61 (pc' := 62) rfl rfl ?_
  refine Go.callS B Xb eb (y := ⟨"java/lang/StringUTF16", "getChar", "([BI)C"⟩) (Ct.back (W := 0) (ct_getChar l Z a0 hw b (i + 1) d0 cs h n0 hS O A0 hd (by omega) hi2 (hr d0 (List.mem_of_getElem? hd))) B.hZ (tw hw 108 rfl) (tw hw 56 rfl) nb nb) (tw hw 106 rfl) (tw hw 107 rfl) (tw hw 56 rfl) (tw hw 108 rfl) (by decide) pd_5 d22_62 (pc' := 65) rfl rfl (rest := []) rfl rfl nb nb nb ?_
  intro vc Tc Lc Xc Qc
  obtain ⟨rfl, Nc, ec⟩ := Qc
  dsimp only [Option.toList, List.nil_append, List.cons_append]
  refine Go.istore B Xc d22_65 (pc' := 67) rfl rfl rfl ?_
  dsimp only [put1]
  refine Go.iload B Xc d22_67 (pc' := 69) rfl rfl ?_
  refine Go.callS B Xc ec (y := ⟨"java/lang/Character", "isLowSurrogate", "(C)Z"⟩) (Ct.back (W := 0) (ct_isLowSurrogate l Z a0 hw d0 h n0) B.hZ (tw hw 123 rfl) (tw hw 85 rfl) nb nb) (tw hw 121 rfl) (tw hw 122 rfl) (tw hw 85 rfl) (tw hw 123 rfl) (by decide) pd_10 d22_69 (pc' := 72) rfl rfl (rest := []) rfl rfl nb nb nb ?_
  intro vd Td Ld Xd Qd
  obtain ⟨rfl, Nd, ed⟩ := Qd
  dsimp only [Option.toList, List.nil_append, List.cons_append]
  rw [if_pos hg]
  refine Go.ifF B Xd d22_72 (pc' := 75) rfl (by decide) ?_
  refine Go.iload B Xd d22_75 (pc' := 77) rfl rfl ?_
  refine Go.iload B Xd d22_77 (pc' := 79) rfl rfl ?_
  refine Go.callS B Xd ed (y := ⟨"java/lang/Character", "toCodePoint", "(CC)I"⟩) (Ct.back (W := 0) (ct_tcp l Z a0 hw c0 d0 h n0) B.hZ (tw hw 127 rfl) (tw hw 85 rfl) nb nb) (tw hw 125 rfl) (tw hw 126 rfl) (tw hw 85 rfl) (tw hw 127 rfl) (by decide) pd_15 d22_79 (pc' := 82) rfl rfl (rest := []) rfl rfl nb nb nb ?_
  intro vf Tf Lf Xf Qf
  obtain ⟨rfl, Nf, ef⟩ := Qf
  dsimp only [Option.toList, List.nil_append, List.cons_append]
  exact Go.iret B Xf d22_82 nb nb ⟨rfl, Fr.app (Fr.app (Fr.app (Fr.app (Fr.app (Fr.nil _) Na) Nb) Nc) Nd) Nf, ef⟩

def ct_cp3b_R : Room := ({ frames := 2, cells := 0, slots := 0, locals := 60 } : Room)
set_option maxRecDepth 65536 in
set_option maxHeartbeats 40000000 in
theorem ct_cp3b (l : Launch) (Z : State) (a0 : Array Value) (hw : ∀ d ∈ tables_1, d.before a0 Z = true) (b : Addr) (i : Nat) (cs : List Int32) (c0 : Int32) (d0 : Int32) (h : Heap) (n0 : Nat) (hS : Stz Z) (O : Old Z n0 h) (A0 : Av Z h b .byte ((wide cs).map Value.int)) (hn : cs.length ≤ 8) (hr : ∀ x ∈ cs, Rc x) (hc : cs[i]? = some c0) (hd : cs[i + 1]? = some d0) (hh : Hi c0) (hg : Lo d0) :
    Ct l Z ⟨"java/lang/StringUTF16", "codePointAt", "([BII)I"⟩ jdk_52_method_8_code 3 (some .int) [] ct_cp3b_R ct_cp3b_R.cells ct_cp3b_R.slots [(.ref b), (.int (Int32.ofNat i)), (.int (Int32.ofNat cs.length))] h (fun v h' L => v = some (.int (toCP c0 d0)) ∧ Fr n0 L ∧ h' = h) := by
  refine Ct.mk (L0 := [.val (.ref b), .val (.int (Int32.ofNat i)), .val (.int (Int32.ofNat cs.length))]) (plainFor_of_name pn_0) (fun m => by first | (simp [entryFrame, mkF, argsToLocals, Value.category]; done) | rfl) ?_
  intro p e s m below meth c s₁ B X0 e0
  refine Go.aloadN B X0 d23_0 (pc' := 1) rfl rfl rfl ?_
  refine Go.iloadN B X0 d23_1 (pc' := 2) rfl rfl ?_
  refine Go.iloadN B X0 d23_2 (pc' := 3) rfl rfl ?_
  refine Go.iconst B X0 0 d23_3 (pc' := 4) rfl rfl ?_
  refine Go.callS B X0 e0 (y := ⟨"java/lang/StringUTF16", "codePointAt", "([BIIZ)I"⟩) (Ct.back (W := 0) (ct_cpzb l Z a0 hw b i cs c0 d0 h n0 hS O A0 hn hr hc hd hh hg) B.hZ (tw hw 114 rfl) (tw hw 56 rfl) nb nb) (tw hw 112 rfl) (tw hw 113 rfl) (tw hw 56 rfl) (tw hw 114 rfl) (by decide) pd_11 d23_4 (pc' := 7) rfl rfl (rest := []) rfl rfl nb nb nb ?_
  intro va Ta La Xa Qa
  obtain ⟨rfl, Na, ea⟩ := Qa
  dsimp only [Option.toList, List.nil_append, List.cons_append]
  exact Go.iret B Xa d23_7 nb nb ⟨rfl, Fr.app (Fr.nil _) Na, ea⟩

def ct_cpab_R : Room := ({ frames := 3, cells := 0, slots := 0, locals := 90 } : Room)
set_option maxRecDepth 65536 in
set_option maxHeartbeats 40000000 in
theorem ct_cpab (l : Launch) (Z : State) (a0 : Array Value) (hw : ∀ d ∈ tables_1, d.before a0 Z = true) (x : Addr) (i : Nat) (cs : List Int32) (c0 : Int32) (d0 : Int32) (h : Heap) (n0 : Nat) (hS : Stz Z) (O : Old Z n0 h) (hF : Sfm Z) (D : StrD Z h x cs) (hn : cs.length ≤ 8) (hr : ∀ x ∈ cs, Rc x) (hc : cs[i]? = some c0) (hd : cs[i + 1]? = some d0) (hh : Hi c0) (hg : Lo d0) :
    Ct l Z ⟨"java/lang/String", "codePointAt", "(I)I"⟩ jdk_42_method_57_code 3 (some .int) [] ct_cpab_R ct_cpab_R.cells ct_cpab_R.slots [(.ref x), (.int (Int32.ofNat i))] h (fun v h' L => v = some (.int (toCP c0 d0)) ∧ Fr n0 L ∧ h' = h) := by
  refine Ct.mk (L0 := [.val (.ref x), .val (.int (Int32.ofNat i)), .unset]) (plainFor_of_name pn_1) (fun m => by first | (simp [entryFrame, mkF, argsToLocals, Value.category]; done) | rfl) ?_
  intro p e s m below meth c s₁ B X0 e0
  have hi : i < cs.length := (List.getElem?_eq_some_iff.mp hc).1
  obtain ⟨t, cd, bs, x1, x2, x3, x4, hb⟩ := D
  refine Go.aloadN B X0 d24_0 (pc' := 1) rfl rfl rfl ?_
  refine Go.callV B X0 e0 (y := ⟨"java/lang/String", "isLatin1", "()Z"⟩) (z := ⟨"java/lang/String", "isLatin1", "()Z"⟩) (Ct.back (W := 0) (ct_isLat l Z a0 hw x cd h n0 hS O x2) B.hZ (tw hw 73 rfl) (tw hw 7 rfl) nb nb) x1 (tw hw 69 rfl) (tw hw 70 rfl) (tw hw 72 rfl) (tw hw 71 rfl) (by decide) (notFace_of_selects (args := #[]) (mvT B.hZ (tw hw 72 rfl))) pd_12 d24_1 (pc' := 4) rfl rfl (rest := []) rfl rfl nb nb nb ?_
  intro va Ta La Xa Qa
  obtain ⟨rfl, Na, ea⟩ := Qa
  dsimp only [Option.toList, List.nil_append, List.cons_append]
  rcases hb with hb | hb
  · obtain ⟨rfl, rfl, hlow⟩ := hb
    rw [if_pos rfl]
    exact absurd hh.1 (fun q => q (by
      have z := hlow c0 (List.mem_of_getElem? hc)
      have k1 : (55296 : Int32).toInt = 55296 := by decide
      have k2 : (255 : Int32).toInt = 255 := by decide
      rw [Int32.lt_iff_toInt_lt] at z ⊢
      omega))
  · obtain ⟨rfl, rfl, hw1⟩ := hb
    rw [if_neg (by decide)]
    refine Go.ifT B Xa d24_4 (by decide) (pc' := 27) rfl rfl ?_
    refine Go.aloadN B Xa d24_27 (pc' := 28) rfl rfl rfl ?_
    refine Go.getF B Xa ea (tw hw 26 rfl) x3 d24_28 (pc' := 31) rfl ?_
    intro Tt28_1 Xt28_1 et28_1
    refine Go.arraylength B Xt28_1 et28_1 x4 d24_31 (pc' := 32) rfl ?_
    refine Go.iconst B Xt28_1 1 d24_32 (pc' := 33) rfl rfl ?_
    refine Go.ishr B Xt28_1 d24_33 (pc' := 34) rfl ?_
    rw [List.length_map, wide_len, StrChars.shr1 (by omega)]
    refine Go.istoreN B Xt28_1 d24_34 (pc' := 35) rfl rfl rfl ?_
    dsimp only [put1]
    refine Go.iloadN B Xt28_1 d24_35 (pc' := 36) rfl rfl ?_
    refine Go.iloadN B Xt28_1 d24_36 (pc' := 37) rfl rfl ?_
    refine Go.callS B Xt28_1 et28_1 (y := ⟨"java/lang/String", "checkIndex", "(II)V"⟩) (Ct.back (W := 0) (ct_sci l Z a0 hw (Int32.ofNat i) (Int32.ofNat cs.length) h n0 hF O (ofNat_nn (by omega)) ((lt_ofNat (by omega) (by omega)).mpr hi)) B.hZ (tw hw 76 rfl) (tw hw 7 rfl) nb nb) (tw hw 74 rfl) (tw hw 75 rfl) (tw hw 7 rfl) (tw hw 76 rfl) (by decide) pd_13 d24_37 (pc' := 40) rfl rfl (rest := []) rfl rfl nb nb nb ?_
    intro vd Td Ld Xd Qd
    obtain ⟨rfl, Nd, ed⟩ := Qd
    dsimp only [Option.toList, List.nil_append, List.cons_append]
    refine Go.aloadN B Xd d24_40 (pc' := 41) rfl rfl rfl ?_
    refine Go.getF B Xd ed (tw hw 26 rfl) x3 d24_41 (pc' := 44) rfl ?_
    intro Tt41_2 Xt41_2 et41_2
    refine Go.iloadN B Xt41_2 d24_44 (pc' := 45) rfl rfl ?_
    refine Go.iloadN B Xt41_2 d24_45 (pc' := 46) rfl rfl ?_
    refine Go.callS B Xt41_2 et41_2 (y := ⟨"java/lang/StringUTF16", "codePointAt", "([BII)I"⟩) (Ct.back (W := 0) (ct_cp3b l Z a0 hw t i cs c0 d0 h n0 hS O x4 hn hr hc hd hh hg) B.hZ (tw hw 111 rfl) (tw hw 56 rfl) nb nb) (tw hw 109 rfl) (tw hw 110 rfl) (tw hw 56 rfl) (tw hw 111 rfl) (by decide) pd_14 d24_46 (pc' := 49) rfl rfl (rest := []) rfl rfl nb nb nb ?_
    intro vf Tf Lf Xf Qf
    obtain ⟨rfl, Nf, ef⟩ := Qf
    dsimp only [Option.toList, List.nil_append, List.cons_append]
    exact Go.iret B Xf d24_49 nb nb ⟨rfl, Fr.app (Fr.app (Fr.app (Fr.nil _) Na) Nd) Nf, ef⟩

theorem d25_0 : decode prog_18_method_2_code 0 = .ok (.iconst 0, 1) := by decide +kernel
theorem d25_1 : decode prog_18_method_2_code 1 = .ok (.istore_n 2, 1) := by decide +kernel
theorem d25_2 : decode prog_18_method_2_code 2 = .ok (.iload_n 2, 1) := by decide +kernel
theorem d25_3 : decode prog_18_method_2_code 3 = .ok (.aload_n 1, 1) := by decide +kernel
theorem d25_4 : decode prog_18_method_2_code 4 = .ok (.invokevirtual 20, 3) := by decide +kernel
theorem d25_7 : decode prog_18_method_2_code 7 = .ok (.if_icmp .ge 71, 3) := by decide +kernel
theorem d25_10 : decode prog_18_method_2_code 10 = .ok (.aload_n 1, 1) := by decide +kernel
theorem d25_11 : decode prog_18_method_2_code 11 = .ok (.iload_n 2, 1) := by decide +kernel
theorem d25_12 : decode prog_18_method_2_code 12 = .ok (.invokevirtual 26, 3) := by decide +kernel
theorem d25_15 : decode prog_18_method_2_code 15 = .ok (.istore_n 3, 1) := by decide +kernel
theorem d25_16 : decode prog_18_method_2_code 16 = .ok (.iload_n 3, 1) := by decide +kernel
theorem d25_17 : decode prog_18_method_2_code 17 = .ok (.ifCond .ne 21, 3) := by decide +kernel
theorem d25_20 : decode prog_18_method_2_code 20 = .ok (.new 30, 3) := by decide +kernel
theorem d25_23 : decode prog_18_method_2_code 23 = .ok (.dup, 1) := by decide +kernel
theorem d25_24 : decode prog_18_method_2_code 24 = .ok (.aload_n 0, 1) := by decide +kernel
theorem d25_25 : decode prog_18_method_2_code 25 = .ok (.iload_n 2, 1) := by decide +kernel
theorem d25_26 : decode prog_18_method_2_code 26 = .ok (.invokestatic 32, 3) := by decide +kernel
theorem d25_29 : decode prog_18_method_2_code 29 = .ok (.invokedynamic 36, 5) := by decide +kernel
theorem d25_34 : decode prog_18_method_2_code 34 = .ok (.invokespecial 40, 3) := by decide +kernel
theorem d25_37 : decode prog_18_method_2_code 37 = .ok (.athrow, 1) := by decide +kernel
theorem d25_38 : decode prog_18_method_2_code 38 = .ok (.iload_n 3, 1) := by decide +kernel
theorem d25_39 : decode prog_18_method_2_code 39 = .ok (.ldc 45, 2) := by decide +kernel
theorem d25_41 : decode prog_18_method_2_code 41 = .ok (.if_icmp .lt 27, 3) := by decide +kernel
theorem d25_44 : decode prog_18_method_2_code 44 = .ok (.iload_n 3, 1) := by decide +kernel
theorem d25_45 : decode prog_18_method_2_code 45 = .ok (.ldc 46, 2) := by decide +kernel
theorem d25_47 : decode prog_18_method_2_code 47 = .ok (.if_icmp .gt 21, 3) := by decide +kernel
theorem d25_50 : decode prog_18_method_2_code 50 = .ok (.new 30, 3) := by decide +kernel
theorem d25_53 : decode prog_18_method_2_code 53 = .ok (.dup, 1) := by decide +kernel
theorem d25_54 : decode prog_18_method_2_code 54 = .ok (.aload_n 0, 1) := by decide +kernel
theorem d25_55 : decode prog_18_method_2_code 55 = .ok (.iload_n 2, 1) := by decide +kernel
theorem d25_56 : decode prog_18_method_2_code 56 = .ok (.invokestatic 32, 3) := by decide +kernel
theorem d25_59 : decode prog_18_method_2_code 59 = .ok (.invokedynamic 47, 5) := by decide +kernel
theorem d25_64 : decode prog_18_method_2_code 64 = .ok (.invokespecial 40, 3) := by decide +kernel
theorem d25_67 : decode prog_18_method_2_code 67 = .ok (.athrow, 1) := by decide +kernel
theorem d25_68 : decode prog_18_method_2_code 68 = .ok (.iload_n 2, 1) := by decide +kernel
theorem d25_69 : decode prog_18_method_2_code 69 = .ok (.iload_n 3, 1) := by decide +kernel
theorem d25_70 : decode prog_18_method_2_code 70 = .ok (.invokestatic 48, 3) := by decide +kernel
theorem d25_73 : decode prog_18_method_2_code 73 = .ok (.iadd, 1) := by decide +kernel
theorem d25_74 : decode prog_18_method_2_code 74 = .ok (.istore_n 2, 1) := by decide +kernel
theorem d25_75 : decode prog_18_method_2_code 75 = .ok (.goto (-73), 3) := by decide +kernel
theorem d25_78 : decode prog_18_method_2_code 78 = .ok (.return_, 1) := by decide +kernel
theorem pd_16 : parseMethodDescriptor "()I" = some ⟨[], some .int⟩ := by decide +kernel
theorem pn_5 : plainName "com/example/patient_outbox/patientoutbox/db/Storable" = true := by first | (simp [plainName, overriddenIn]; done) | decide +kernel
def ct_text_R : Room := ({ frames := 4, cells := 0, slots := 0, locals := 120 } : Room)
set_option maxRecDepth 65536 in
set_option maxHeartbeats 4000000 in
theorem own_text {p : Program} {l : Launch} {e : Env} {R : Room} {s : State} {m : MethodId} {args : Array Value} {below : List Frame} {meth : Method} {c : Code} {Z : State} {a0 : Array Value} {nm : String} {n0 : Nat} {h : Heap} {cs : List Int32} {a x : Addr} (hw : ∀ d ∈ tables_1, d.before a0 Z = true) (hS : Stz Z) (O : Old Z n0 h) (hF : Sfm Z) (B : Ctx p Z s m meth c "com/example/patient_outbox/patientoutbox/db/Storable" nm prog_18_method_2_code 4 none) (hR : R = ct_text_R) (D : StrD Z h x cs) (hn : cs.length ≤ 8) (hr : ∀ x ∈ cs, Rc x) :
    ∀ (r i : Nat), i ≤ cs.length → cs.length ≤ r + i → ∀ (sl : Slot) (hsl : one sl = true) {T : State} {locs : List Loc} (X : Stand p l e R s m args below meth c T locs 0 0) (eT : T.heap = h), Fr n0 locs → Val (cs.drop i) →
      Go p e below (End s 0 0 (fun v h' L => v = none ∧ Fr n0 L ∧ h' = h)) (T.setTop (fr m 2 [.val (.ref a), .val (.ref x), .val (.int (Int32.ofNat i)), sl] [])) := by
  subst hR
  intro r
  induction r with
  | zero =>
    intro i hil hri sl hsl T locs X eT N hv
    refine Go.iloadN B X d25_2 (pc' := 3) rfl rfl ?_
    refine Go.aloadN B X d25_3 (pc' := 4) rfl rfl rfl ?_
    refine Go.callV B X eT (y := ⟨"java/lang/String", "length", "()I"⟩) (z := ⟨"java/lang/String", "length", "()I"⟩) (Ct.back (W := 1) (ct_length l Z a0 hw x cs h n0 hS O D) B.hZ (tw hw 36 rfl) (tw hw 7 rfl) nb nb) D.exa (tw hw 32 rfl) (tw hw 33 rfl) (tw hw 35 rfl) (tw hw 34 rfl) (by decide) (notFace_of_selects (args := #[]) (mvT B.hZ (tw hw 35 rfl))) pd_16 d25_4 (pc' := 7) rfl rfl (rest := [_]) rfl rfl nb nb nb ?_
    intro va Ta La Xa Qa
    obtain ⟨rfl, Na, ea⟩ := Qa
    dsimp only [Option.toList, List.nil_append, List.cons_append]
    refine Go.ic B Xa d25_7 (by decide) (pcT := 78) rfl (pc' := 10) rfl (fun hcd => ?_) (fun hcd => ?_)
    · dsimp only [GoKit.CP] at hcd
      exact Go.vret B Xa d25_78 nb nb ⟨rfl, Fr.app N Na, ea⟩
    · dsimp only [GoKit.CN] at hcd
      have hk : i < cs.length := (lt_ofNat (by omega) (by omega)).mp hcd
      generalize hdr : cs.drop i = ds at hv
      rcases hv.go with rfl | ⟨c1, ct, rfl, p0, p1, p2, p3⟩ | ⟨c1, d1, ct, rfl, p1, p2, p3⟩
      · have : (cs.drop i).length = 0 := by rw [hdr]; rfl
        rw [List.length_drop] at this
        omega
      · have hc : cs[i]? = some c1 := by
          have q : (cs.drop i)[0]? = some c1 := by rw [hdr]; rfl
          simpa using q
        have hdr1 : cs.drop (i + 1) = ct := by rw [← List.drop_drop, hdr]; rfl
        have rc := hr c1 (List.mem_of_getElem? hc)
        have hlt : c1 < 65536 := (lt_sw (a := 65535) (by decide)).mpr rc.2
        refine Go.aloadN B Xa d25_10 (pc' := 11) rfl rfl rfl ?_
        refine Go.iloadN B Xa d25_11 (pc' := 12) rfl rfl ?_
        refine Go.callV B Xa ea (y := ⟨"java/lang/String", "codePointAt", "(I)I"⟩) (z := ⟨"java/lang/String", "codePointAt", "(I)I"⟩) (Ct.back (W := 0) (ct_cpaa l Z a0 hw x i cs c1 h n0 hS O hF D hn hr hc p1) B.hZ (tw hw 68 rfl) (tw hw 7 rfl) nb nb) D.exa (tw hw 64 rfl) (tw hw 65 rfl) (tw hw 67 rfl) (tw hw 66 rfl) (by decide) (notFace_of_selects (args := #[]) (mvT B.hZ (tw hw 67 rfl))) pd_0 d25_12 (pc' := 15) rfl rfl (rest := []) rfl rfl nb nb nb ?_
        intro vb Tb Lb Xb Qb
        obtain ⟨rfl, Nb, eb⟩ := Qb
        dsimp only [Option.toList, List.nil_append, List.cons_append]
        refine Go.istoreN B Xb d25_15 (pc' := 16) rfl rfl hsl ?_
        dsimp only [put1]
        refine Go.iloadN B Xb d25_16 (pc' := 17) rfl rfl ?_
        refine Go.ifT B Xb d25_17 (by decide) (pc' := 38) rfl p0 ?_
        refine Go.iloadN B Xb d25_38 (pc' := 39) rfl rfl ?_
        refine Go.ldcI B Xb (tw hw 82 rfl) d25_39 (pc' := 41) rfl ?_
        refine Go.ic B Xb d25_41 (by decide) (pcT := 68) rfl (pc' := 44) rfl (fun hlt2 => ?_) (fun hlt2 => ?_)
        · dsimp only [GoKit.CP] at hlt2
          refine Go.iloadN B Xb d25_68 (pc' := 69) rfl rfl ?_
          refine Go.iloadN B Xb d25_69 (pc' := 70) rfl rfl ?_
          refine Go.callS B Xb eb (y := ⟨"java/lang/Character", "charCount", "(I)I"⟩) (Ct.back (W := 1) (ct_cc l Z a0 hw c1 h n0) B.hZ (tw hw 86 rfl) (tw hw 85 rfl) nb nb) (tw hw 83 rfl) (tw hw 84 rfl) (tw hw 85 rfl) (tw hw 86 rfl) (by decide) pd_0 d25_70 (pc' := 73) rfl rfl (rest := [_]) rfl rfl nb nb nb ?_
          intro vg Tg Lg Xg Qg
          obtain ⟨rfl, Ng, eg⟩ := Qg
          dsimp only [Option.toList, List.nil_append, List.cons_append]
          rw [if_pos hlt]
          refine Go.iadd B Xg d25_73 (pc' := 74) rfl ?_
          refine Go.istoreN B Xg d25_74 (pc' := 75) rfl rfl rfl ?_
          dsimp only [put1]
          refine Go.goto B Xg d25_75 (by decide) (pc' := 2) rfl ?_
          rw [ofNat_succ]
          omega
        · dsimp only [GoKit.CN] at hlt2
          have hgt : 57343 < c1 := by
            apply Classical.byContradiction
            intro z
            rcases Classical.em (c1 < 56320) with y | y
            · exact p1 ⟨hlt2, (lt_sw (a := 56319) (by decide)).mp y⟩
            · exact p2 ⟨y, z⟩
          refine Go.iloadN B Xb d25_44 (pc' := 45) rfl rfl ?_
          refine Go.ldcI B Xb (tw hw 120 rfl) d25_45 (pc' := 47) rfl ?_
          refine Go.icT B Xb d25_47 (by decide) (pc' := 68) rfl hgt ?_
          refine Go.iloadN B Xb d25_68 (pc' := 69) rfl rfl ?_
          refine Go.iloadN B Xb d25_69 (pc' := 70) rfl rfl ?_
          refine Go.callS B Xb eb (y := ⟨"java/lang/Character", "charCount", "(I)I"⟩) (Ct.back (W := 1) (ct_cc l Z a0 hw c1 h n0) B.hZ (tw hw 86 rfl) (tw hw 85 rfl) nb nb) (tw hw 83 rfl) (tw hw 84 rfl) (tw hw 85 rfl) (tw hw 86 rfl) (by decide) pd_0 d25_70 (pc' := 73) rfl rfl (rest := [_]) rfl rfl nb nb nb ?_
          intro vg Tg Lg Xg Qg
          obtain ⟨rfl, Ng, eg⟩ := Qg
          dsimp only [Option.toList, List.nil_append, List.cons_append]
          rw [if_pos hlt]
          refine Go.iadd B Xg d25_73 (pc' := 74) rfl ?_
          refine Go.istoreN B Xg d25_74 (pc' := 75) rfl rfl rfl ?_
          dsimp only [put1]
          refine Go.goto B Xg d25_75 (by decide) (pc' := 2) rfl ?_
          rw [ofNat_succ]
          omega
      · have hc : cs[i]? = some c1 := by
          have q : (cs.drop i)[0]? = some c1 := by rw [hdr]; rfl
          simpa using q
        have hd : cs[i + 1]? = some d1 := by
          have q : (cs.drop i)[1]? = some d1 := by rw [hdr]; rfl
          simpa using q
        have hi2 : i + 1 < cs.length := (List.getElem?_eq_some_iff.mp hd).1
        have hdr1 : cs.drop (i + 2) = ct := by rw [← List.drop_drop, hdr]; rfl
        have hge := cp_rng p1 p2
        have k1 : (65536 : Int32).toInt = 65536 := by decide
        have k2 : (0 : Int32).toInt = 0 := by decide
        have k3 : (55296 : Int32).toInt = 55296 := by decide
        have k4 : (57343 : Int32).toInt = 57343 := by decide
        rw [Int32.lt_iff_toInt_lt] at hge
        refine Go.aloadN B Xa d25_10 (pc' := 11) rfl rfl rfl ?_
        refine Go.iloadN B Xa d25_11 (pc' := 12) rfl rfl ?_
        refine Go.callV B Xa ea (y := ⟨"java/lang/String", "codePointAt", "(I)I"⟩) (z := ⟨"java/lang/String", "codePointAt", "(I)I"⟩) (Ct.back (W := 0) (ct_cpab l Z a0 hw x i cs c1 d1 h n0 hS O hF D hn hr hc hd p1 p2) B.hZ (tw hw 68 rfl) (tw hw 7 rfl) nb nb) D.exa (tw hw 64 rfl) (tw hw 65 rfl) (tw hw 67 rfl) (tw hw 66 rfl) (by decide) (notFace_of_selects (args := #[]) (mvT B.hZ (tw hw 67 rfl))) pd_0 d25_12 (pc' := 15) rfl rfl (rest := []) rfl rfl nb nb nb ?_
        intro vb Tb Lb Xb Qb
        obtain ⟨rfl, Nb, eb⟩ := Qb
        dsimp only [Option.toList, List.nil_append, List.cons_append]
        refine Go.istoreN B Xb d25_15 (pc' := 16) rfl rfl hsl ?_
        dsimp only [put1]
        refine Go.iloadN B Xb d25_16 (pc' := 17) rfl rfl ?_
        refine Go.ifT B Xb d25_17 (by decide) (pc' := 38) rfl (by show ¬ toCP c1 d1 = 0; intro q; rw [q] at hge; omega) ?_
        refine Go.iloadN B Xb d25_38 (pc' := 39) rfl rfl ?_
        refine Go.ldcI B Xb (tw hw 82 rfl) d25_39 (pc' := 41) rfl ?_
        refine Go.icF B Xb d25_41 (pc' := 44) rfl (by show ¬ toCP c1 d1 < 55296; rw [Int32.lt_iff_toInt_lt]; omega) ?_
        refine Go.iloadN B Xb d25_44 (pc' := 45) rfl rfl ?_
        refine Go.ldcI B Xb (tw hw 120 rfl) d25_45 (pc' := 47) rfl ?_
        refine Go.icT B Xb d25_47 (by decide) (pc' := 68) rfl (by show 57343 < toCP c1 d1; rw [Int32.lt_iff_toInt_lt]; omega) ?_
        refine Go.iloadN B Xb d25_68 (pc' := 69) rfl rfl ?_
        refine Go.iloadN B Xb d25_69 (pc' := 70) rfl rfl ?_
        refine Go.callS B Xb eb (y := ⟨"java/lang/Character", "charCount", "(I)I"⟩) (Ct.back (W := 1) (ct_cc l Z a0 hw (toCP c1 d1) h n0) B.hZ (tw hw 86 rfl) (tw hw 85 rfl) nb nb) (tw hw 83 rfl) (tw hw 84 rfl) (tw hw 85 rfl) (tw hw 86 rfl) (by decide) pd_0 d25_70 (pc' := 73) rfl rfl (rest := [_]) rfl rfl nb nb nb ?_
        intro vg Tg Lg Xg Qg
        obtain ⟨rfl, Ng, eg⟩ := Qg
        dsimp only [Option.toList, List.nil_append, List.cons_append]
        rw [if_neg (cp_rng p1 p2)]
        refine Go.iadd B Xg d25_73 (pc' := 74) rfl ?_
        refine Go.istoreN B Xg d25_74 (pc' := 75) rfl rfl rfl ?_
        dsimp only [put1]
        refine Go.goto B Xg d25_75 (by decide) (pc' := 2) rfl ?_
        rw [show Int32.ofNat i + 2 = Int32.ofNat (i + 2) from (Int32.ofNat_add i 2).symm]
        omega
  | succ r ih =>
    intro i hil hri sl hsl T locs X eT N hv
    refine Go.iloadN B X d25_2 (pc' := 3) rfl rfl ?_
    refine Go.aloadN B X d25_3 (pc' := 4) rfl rfl rfl ?_
    refine Go.callV B X eT (y := ⟨"java/lang/String", "length", "()I"⟩) (z := ⟨"java/lang/String", "length", "()I"⟩) (Ct.back (W := 1) (ct_length l Z a0 hw x cs h n0 hS O D) B.hZ (tw hw 36 rfl) (tw hw 7 rfl) nb nb) D.exa (tw hw 32 rfl) (tw hw 33 rfl) (tw hw 35 rfl) (tw hw 34 rfl) (by decide) (notFace_of_selects (args := #[]) (mvT B.hZ (tw hw 35 rfl))) pd_16 d25_4 (pc' := 7) rfl rfl (rest := [_]) rfl rfl nb nb nb ?_
    intro va Ta La Xa Qa
    obtain ⟨rfl, Na, ea⟩ := Qa
    dsimp only [Option.toList, List.nil_append, List.cons_append]
    refine Go.ic B Xa d25_7 (by decide) (pcT := 78) rfl (pc' := 10) rfl (fun hcd => ?_) (fun hcd => ?_)
    · dsimp only [GoKit.CP] at hcd
      exact Go.vret B Xa d25_78 nb nb ⟨rfl, Fr.app N Na, ea⟩
    · dsimp only [GoKit.CN] at hcd
      have hk : i < cs.length := (lt_ofNat (by omega) (by omega)).mp hcd
      generalize hdr : cs.drop i = ds at hv
      rcases hv.go with rfl | ⟨c1, ct, rfl, p0, p1, p2, p3⟩ | ⟨c1, d1, ct, rfl, p1, p2, p3⟩
      · have : (cs.drop i).length = 0 := by rw [hdr]; rfl
        rw [List.length_drop] at this
        omega
      · have hc : cs[i]? = some c1 := by
          have q : (cs.drop i)[0]? = some c1 := by rw [hdr]; rfl
          simpa using q
        have hdr1 : cs.drop (i + 1) = ct := by rw [← List.drop_drop, hdr]; rfl
        have rc := hr c1 (List.mem_of_getElem? hc)
        have hlt : c1 < 65536 := (lt_sw (a := 65535) (by decide)).mpr rc.2
        refine Go.aloadN B Xa d25_10 (pc' := 11) rfl rfl rfl ?_
        refine Go.iloadN B Xa d25_11 (pc' := 12) rfl rfl ?_
        refine Go.callV B Xa ea (y := ⟨"java/lang/String", "codePointAt", "(I)I"⟩) (z := ⟨"java/lang/String", "codePointAt", "(I)I"⟩) (Ct.back (W := 0) (ct_cpaa l Z a0 hw x i cs c1 h n0 hS O hF D hn hr hc p1) B.hZ (tw hw 68 rfl) (tw hw 7 rfl) nb nb) D.exa (tw hw 64 rfl) (tw hw 65 rfl) (tw hw 67 rfl) (tw hw 66 rfl) (by decide) (notFace_of_selects (args := #[]) (mvT B.hZ (tw hw 67 rfl))) pd_0 d25_12 (pc' := 15) rfl rfl (rest := []) rfl rfl nb nb nb ?_
        intro vb Tb Lb Xb Qb
        obtain ⟨rfl, Nb, eb⟩ := Qb
        dsimp only [Option.toList, List.nil_append, List.cons_append]
        refine Go.istoreN B Xb d25_15 (pc' := 16) rfl rfl hsl ?_
        dsimp only [put1]
        refine Go.iloadN B Xb d25_16 (pc' := 17) rfl rfl ?_
        refine Go.ifT B Xb d25_17 (by decide) (pc' := 38) rfl p0 ?_
        refine Go.iloadN B Xb d25_38 (pc' := 39) rfl rfl ?_
        refine Go.ldcI B Xb (tw hw 82 rfl) d25_39 (pc' := 41) rfl ?_
        refine Go.ic B Xb d25_41 (by decide) (pcT := 68) rfl (pc' := 44) rfl (fun hlt2 => ?_) (fun hlt2 => ?_)
        · dsimp only [GoKit.CP] at hlt2
          refine Go.iloadN B Xb d25_68 (pc' := 69) rfl rfl ?_
          refine Go.iloadN B Xb d25_69 (pc' := 70) rfl rfl ?_
          refine Go.callS B Xb eb (y := ⟨"java/lang/Character", "charCount", "(I)I"⟩) (Ct.back (W := 1) (ct_cc l Z a0 hw c1 h n0) B.hZ (tw hw 86 rfl) (tw hw 85 rfl) nb nb) (tw hw 83 rfl) (tw hw 84 rfl) (tw hw 85 rfl) (tw hw 86 rfl) (by decide) pd_0 d25_70 (pc' := 73) rfl rfl (rest := [_]) rfl rfl nb nb nb ?_
          intro vg Tg Lg Xg Qg
          obtain ⟨rfl, Ng, eg⟩ := Qg
          dsimp only [Option.toList, List.nil_append, List.cons_append]
          rw [if_pos hlt]
          refine Go.iadd B Xg d25_73 (pc' := 74) rfl ?_
          refine Go.istoreN B Xg d25_74 (pc' := 75) rfl rfl rfl ?_
          dsimp only [put1]
          refine Go.goto B Xg d25_75 (by decide) (pc' := 2) rfl ?_
          rw [ofNat_succ]
          exact ih (i + 1) (by omega) (by omega) _ rfl Xg eg (Fr.app (Fr.app (Fr.app N Na) Nb) Ng) (by rw [hdr1]; exact p3)
        · dsimp only [GoKit.CN] at hlt2
          have hgt : 57343 < c1 := by
            apply Classical.byContradiction
            intro z
            rcases Classical.em (c1 < 56320) with y | y
            · exact p1 ⟨hlt2, (lt_sw (a := 56319) (by decide)).mp y⟩
            · exact p2 ⟨y, z⟩
          refine Go.iloadN B Xb d25_44 (pc' := 45) rfl rfl ?_
          refine Go.ldcI B Xb (tw hw 120 rfl) d25_45 (pc' := 47) rfl ?_
          refine Go.icT B Xb d25_47 (by decide) (pc' := 68) rfl hgt ?_
          refine Go.iloadN B Xb d25_68 (pc' := 69) rfl rfl ?_
          refine Go.iloadN B Xb d25_69 (pc' := 70) rfl rfl ?_
          refine Go.callS B Xb eb (y := ⟨"java/lang/Character", "charCount", "(I)I"⟩) (Ct.back (W := 1) (ct_cc l Z a0 hw c1 h n0) B.hZ (tw hw 86 rfl) (tw hw 85 rfl) nb nb) (tw hw 83 rfl) (tw hw 84 rfl) (tw hw 85 rfl) (tw hw 86 rfl) (by decide) pd_0 d25_70 (pc' := 73) rfl rfl (rest := [_]) rfl rfl nb nb nb ?_
          intro vg Tg Lg Xg Qg
          obtain ⟨rfl, Ng, eg⟩ := Qg
          dsimp only [Option.toList, List.nil_append, List.cons_append]
          rw [if_pos hlt]
          refine Go.iadd B Xg d25_73 (pc' := 74) rfl ?_
          refine Go.istoreN B Xg d25_74 (pc' := 75) rfl rfl rfl ?_
          dsimp only [put1]
          refine Go.goto B Xg d25_75 (by decide) (pc' := 2) rfl ?_
          rw [ofNat_succ]
          exact ih (i + 1) (by omega) (by omega) _ rfl Xg eg (Fr.app (Fr.app (Fr.app N Na) Nb) Ng) (by rw [hdr1]; exact p3)
      · have hc : cs[i]? = some c1 := by
          have q : (cs.drop i)[0]? = some c1 := by rw [hdr]; rfl
          simpa using q
        have hd : cs[i + 1]? = some d1 := by
          have q : (cs.drop i)[1]? = some d1 := by rw [hdr]; rfl
          simpa using q
        have hi2 : i + 1 < cs.length := (List.getElem?_eq_some_iff.mp hd).1
        have hdr1 : cs.drop (i + 2) = ct := by rw [← List.drop_drop, hdr]; rfl
        have hge := cp_rng p1 p2
        have k1 : (65536 : Int32).toInt = 65536 := by decide
        have k2 : (0 : Int32).toInt = 0 := by decide
        have k3 : (55296 : Int32).toInt = 55296 := by decide
        have k4 : (57343 : Int32).toInt = 57343 := by decide
        rw [Int32.lt_iff_toInt_lt] at hge
        refine Go.aloadN B Xa d25_10 (pc' := 11) rfl rfl rfl ?_
        refine Go.iloadN B Xa d25_11 (pc' := 12) rfl rfl ?_
        refine Go.callV B Xa ea (y := ⟨"java/lang/String", "codePointAt", "(I)I"⟩) (z := ⟨"java/lang/String", "codePointAt", "(I)I"⟩) (Ct.back (W := 0) (ct_cpab l Z a0 hw x i cs c1 d1 h n0 hS O hF D hn hr hc hd p1 p2) B.hZ (tw hw 68 rfl) (tw hw 7 rfl) nb nb) D.exa (tw hw 64 rfl) (tw hw 65 rfl) (tw hw 67 rfl) (tw hw 66 rfl) (by decide) (notFace_of_selects (args := #[]) (mvT B.hZ (tw hw 67 rfl))) pd_0 d25_12 (pc' := 15) rfl rfl (rest := []) rfl rfl nb nb nb ?_
        intro vb Tb Lb Xb Qb
        obtain ⟨rfl, Nb, eb⟩ := Qb
        dsimp only [Option.toList, List.nil_append, List.cons_append]
        refine Go.istoreN B Xb d25_15 (pc' := 16) rfl rfl hsl ?_
        dsimp only [put1]
        refine Go.iloadN B Xb d25_16 (pc' := 17) rfl rfl ?_
        refine Go.ifT B Xb d25_17 (by decide) (pc' := 38) rfl (by show ¬ toCP c1 d1 = 0; intro q; rw [q] at hge; omega) ?_
        refine Go.iloadN B Xb d25_38 (pc' := 39) rfl rfl ?_
        refine Go.ldcI B Xb (tw hw 82 rfl) d25_39 (pc' := 41) rfl ?_
        refine Go.icF B Xb d25_41 (pc' := 44) rfl (by show ¬ toCP c1 d1 < 55296; rw [Int32.lt_iff_toInt_lt]; omega) ?_
        refine Go.iloadN B Xb d25_44 (pc' := 45) rfl rfl ?_
        refine Go.ldcI B Xb (tw hw 120 rfl) d25_45 (pc' := 47) rfl ?_
        refine Go.icT B Xb d25_47 (by decide) (pc' := 68) rfl (by show 57343 < toCP c1 d1; rw [Int32.lt_iff_toInt_lt]; omega) ?_
        refine Go.iloadN B Xb d25_68 (pc' := 69) rfl rfl ?_
        refine Go.iloadN B Xb d25_69 (pc' := 70) rfl rfl ?_
        refine Go.callS B Xb eb (y := ⟨"java/lang/Character", "charCount", "(I)I"⟩) (Ct.back (W := 1) (ct_cc l Z a0 hw (toCP c1 d1) h n0) B.hZ (tw hw 86 rfl) (tw hw 85 rfl) nb nb) (tw hw 83 rfl) (tw hw 84 rfl) (tw hw 85 rfl) (tw hw 86 rfl) (by decide) pd_0 d25_70 (pc' := 73) rfl rfl (rest := [_]) rfl rfl nb nb nb ?_
        intro vg Tg Lg Xg Qg
        obtain ⟨rfl, Ng, eg⟩ := Qg
        dsimp only [Option.toList, List.nil_append, List.cons_append]
        rw [if_neg (cp_rng p1 p2)]
        refine Go.iadd B Xg d25_73 (pc' := 74) rfl ?_
        refine Go.istoreN B Xg d25_74 (pc' := 75) rfl rfl rfl ?_
        dsimp only [put1]
        refine Go.goto B Xg d25_75 (by decide) (pc' := 2) rfl ?_
        rw [show Int32.ofNat i + 2 = Int32.ofNat (i + 2) from (Int32.ofNat_add i 2).symm]
        exact ih (i + 2) (by omega) (by omega) _ rfl Xg eg (Fr.app (Fr.app (Fr.app N Na) Nb) Ng) (by rw [hdr1]; exact p3)
set_option maxRecDepth 65536 in
set_option maxHeartbeats 40000000 in
theorem ct_text (l : Launch) (Z : State) (a0 : Array Value) (hw : ∀ d ∈ tables_1, d.before a0 Z = true) (a x : Addr) (cs : List Int32) (h : Heap) (n0 : Nat) (hS : Stz Z) (O : Old Z n0 h) (hF : Sfm Z) (D : StrD Z h x cs) (hn : cs.length ≤ 8) (hr : ∀ x ∈ cs, Rc x) (hv : Val cs) :
    Ct l Z ⟨"com/example/patient_outbox/patientoutbox/db/Storable", "text", "(Ljava/lang/String;Ljava/lang/String;)V"⟩ prog_18_method_2_code 4 (none) [] ct_text_R ct_text_R.cells ct_text_R.slots [(.ref a), (.ref x)] h (fun v h' L => v = none ∧ Fr n0 L ∧ h' = h) := by
  refine Ct.mk (L0 := [.val (.ref a), .val (.ref x), .unset, .unset]) (plainFor_of_name pn_5) (fun m => by first | (simp [entryFrame, mkF, argsToLocals, Value.category]; done) | rfl) ?_
  intro p e s m below meth c s₁ B X0 e0
  refine Go.iconst B X0 0 d25_0 (pc' := 1) rfl rfl ?_
  refine Go.istoreN B X0 d25_1 (pc' := 2) rfl rfl rfl ?_
  dsimp only [put1]
  exact own_text hw hS O hF B rfl D hn hr cs.length 0 (by omega) (by omega) .unset rfl X0 e0 (Fr.nil _) (by simpa using hv)
theorem d26_0 : decode method_6_code 0 = .ok (.iload_n 0, 1) := by decide +kernel
theorem d26_1 : decode method_6_code 1 = .ok (.ifCond .ne 5, 3) := by decide +kernel
theorem d26_4 : decode method_6_code 4 = .ok (.iconst 0, 1) := by decide +kernel
theorem d26_5 : decode method_6_code 5 = .ok (.ireturn, 1) := by decide +kernel
theorem d26_6 : decode method_6_code 6 = .ok (.iload_n 0, 1) := by decide +kernel
theorem d26_7 : decode method_6_code 7 = .ok (.invokestatic 35, 3) := by decide +kernel
theorem d26_10 : decode method_6_code 10 = .ok (.ifCond .eq 21, 3) := by decide +kernel
theorem d26_13 : decode method_6_code 13 = .ok (.iload_n 3, 1) := by decide +kernel
theorem d26_14 : decode method_6_code 14 = .ok (.ifCond .eq 15, 3) := by decide +kernel
theorem d26_17 : decode method_6_code 17 = .ok (.iload 4, 2) := by decide +kernel
theorem d26_19 : decode method_6_code 19 = .ok (.invokestatic 39, 3) := by decide +kernel
theorem d26_22 : decode method_6_code 22 = .ok (.ifCond .eq 7, 3) := by decide +kernel
theorem d26_25 : decode method_6_code 25 = .ok (.iconst 1, 1) := by decide +kernel
theorem d26_26 : decode method_6_code 26 = .ok (.goto 4, 3) := by decide +kernel
theorem d26_29 : decode method_6_code 29 = .ok (.iconst 0, 1) := by decide +kernel
theorem d26_30 : decode method_6_code 30 = .ok (.ireturn, 1) := by decide +kernel
theorem d26_31 : decode method_6_code 31 = .ok (.iload_n 0, 1) := by decide +kernel
theorem d26_32 : decode method_6_code 32 = .ok (.invokestatic 39, 3) := by decide +kernel
theorem d26_35 : decode method_6_code 35 = .ok (.ifCond .eq 20, 3) := by decide +kernel
theorem d26_38 : decode method_6_code 38 = .ok (.iload_n 1, 1) := by decide +kernel
theorem d26_39 : decode method_6_code 39 = .ok (.ifCond .eq 14, 3) := by decide +kernel
theorem d26_42 : decode method_6_code 42 = .ok (.iload_n 2, 1) := by decide +kernel
theorem d26_43 : decode method_6_code 43 = .ok (.invokestatic 35, 3) := by decide +kernel
theorem d26_46 : decode method_6_code 46 = .ok (.ifCond .eq 7, 3) := by decide +kernel
theorem d26_49 : decode method_6_code 49 = .ok (.iconst 1, 1) := by decide +kernel
theorem d26_50 : decode method_6_code 50 = .ok (.goto 4, 3) := by decide +kernel
theorem d26_53 : decode method_6_code 53 = .ok (.iconst 0, 1) := by decide +kernel
theorem d26_54 : decode method_6_code 54 = .ok (.ireturn, 1) := by decide +kernel
theorem d26_55 : decode method_6_code 55 = .ok (.iconst 1, 1) := by decide +kernel
theorem d26_56 : decode method_6_code 56 = .ok (.ireturn, 1) := by decide +kernel
def ct_ok_R : Room := ({ frames := 1, cells := 0, slots := 0, locals := 20 } : Room)
set_option maxRecDepth 65536 in
set_option maxHeartbeats 40000000 in
theorem ct_ok (l : Launch) (Z : State) (a0 : Array Value) (hw : ∀ d ∈ tables_1, d.before a0 Z = true) (cur hp prev hn next : Int32) (h : Heap) (n0 : Nat)  :
    Ct l Z ⟨"com/example/patient_outbox/patientoutbox/db/StorableTextPinLaw", "ok", "(CZCZC)Z"⟩ method_6_code 5 (some .boolean) [] ct_ok_R ct_ok_R.cells ct_ok_R.slots [(.int cur), (.int hp), (.int prev), (.int hn), (.int next)] h (fun v h' L => v = some (.int (okS cur hp prev hn next)) ∧ Fr n0 L ∧ h' = h) := by
  refine Ct.mk (L0 := [.val (.int cur), .val (.int hp), .val (.int prev), .val (.int hn), .val (.int next)]) (plainFor_of_name pn_3) (fun m => by first | (simp [entryFrame, mkF, argsToLocals, Value.category]; done) | rfl) ?_
  intro p e s m below meth c s₁ B X0 e0
  refine Go.iloadN B X0 d26_0 (pc' := 1) rfl rfl ?_
  refine Go.ifc B X0 d26_1 (by decide) (pcT := 6) rfl (pc' := 4) rfl (fun h0 => ?_) (fun h0 => ?_)
  · dsimp only [GoKit.CP] at h0
    refine Go.iloadN B X0 d26_6 (pc' := 7) rfl rfl ?_
    refine Go.callS B X0 e0 (y := ⟨"com/example/patient_outbox/patientoutbox/db/StorableTextPinLaw", "isHigh", "(C)Z"⟩) (Ct.back (W := 0) (ct_isHigh l Z a0 hw cur h n0) B.hZ (tw hw 48 rfl) (tw hw 2 rfl) nb nb) (tw hw 46 rfl) (tw hw 47 rfl) (tw hw 2 rfl) (tw hw 48 rfl) (by decide) pd_10 d26_7 (pc' := 10) rfl rfl (rest := []) rfl rfl nb nb nb ?_
    intro va Ta La Xa Qa
    obtain ⟨rfl, Na, ea⟩ := Qa
    dsimp only [Option.toList, List.nil_append, List.cons_append]
    by_cases h1 : Hi cur
    · simp only [if_pos h1]
      refine Go.ifF B Xa d26_10 (pc' := 13) rfl (by decide) ?_
      refine Go.iloadN B Xa d26_13 (pc' := 14) rfl rfl ?_
      refine Go.ifc B Xa d26_14 (by decide) (pcT := 29) rfl (pc' := 17) rfl (fun h2 => ?_) (fun h2 => ?_)
      · dsimp only [GoKit.CP] at h2
        refine Go.iconst B Xa 0 d26_29 (pc' := 30) rfl rfl ?_
        exact Go.zret B Xa d26_30 rfl nb nb ⟨by unfold okS; rw [if_neg h0, if_pos h1, if_pos h2], (Fr.app (Fr.nil _) Na), ea⟩
      · dsimp only [GoKit.CN] at h2
        refine Go.iload B Xa d26_17 (pc' := 19) rfl rfl ?_
        refine Go.callS B Xa ea (y := ⟨"com/example/patient_outbox/patientoutbox/db/StorableTextPinLaw", "isLow", "(C)Z"⟩) (Ct.back (W := 0) (ct_isLow l Z a0 hw next h n0) B.hZ (tw hw 52 rfl) (tw hw 2 rfl) nb nb) (tw hw 50 rfl) (tw hw 51 rfl) (tw hw 2 rfl) (tw hw 52 rfl) (by decide) pd_10 d26_19 (pc' := 22) rfl rfl (rest := []) rfl rfl nb nb nb ?_
        intro vb Tb Lb Xb Qb
        obtain ⟨rfl, Nb, eb⟩ := Qb
        dsimp only [Option.toList, List.nil_append, List.cons_append]
        by_cases h3 : Lo next
        · rw [if_pos h3]
          refine Go.ifF B Xb d26_22 (pc' := 25) rfl (by decide) ?_
          refine Go.iconst B Xb 1 d26_25 (pc' := 26) rfl rfl ?_
          refine Go.goto B Xb d26_26 (by decide) (pc' := 30) rfl ?_
          exact Go.zret B Xb d26_30 rfl nb nb ⟨by unfold okS; rw [if_neg h0, if_pos h1, if_neg h2, if_pos h3], (Fr.app ((Fr.app (Fr.nil _) Na)) Nb), eb⟩
        · rw [if_neg h3]
          refine Go.ifT B Xb d26_22 (by decide) (pc' := 29) rfl rfl ?_
          refine Go.iconst B Xb 0 d26_29 (pc' := 30) rfl rfl ?_
          exact Go.zret B Xb d26_30 rfl nb nb ⟨by unfold okS; rw [if_neg h0, if_pos h1, if_neg h2, if_neg h3], (Fr.app ((Fr.app (Fr.nil _) Na)) Nb), eb⟩
    · rw [if_neg h1]
      refine Go.ifT B Xa d26_10 (by decide) (pc' := 31) rfl rfl ?_
      refine Go.iloadN B Xa d26_31 (pc' := 32) rfl rfl ?_
      refine Go.callS B Xa ea (y := ⟨"com/example/patient_outbox/patientoutbox/db/StorableTextPinLaw", "isLow", "(C)Z"⟩) (Ct.back (W := 0) (ct_isLow l Z a0 hw cur h n0) B.hZ (tw hw 52 rfl) (tw hw 2 rfl) nb nb) (tw hw 50 rfl) (tw hw 51 rfl) (tw hw 2 rfl) (tw hw 52 rfl) (by decide) pd_10 d26_32 (pc' := 35) rfl rfl (rest := []) rfl rfl nb nb nb ?_
      intro vb Tb Lb Xb Qb
      obtain ⟨rfl, Nb, eb⟩ := Qb
      dsimp only [Option.toList, List.nil_append, List.cons_append]
      by_cases h2 : Lo cur
      · rw [if_pos h2]
        refine Go.ifF B Xb d26_35 (pc' := 38) rfl (by decide) ?_
        refine Go.iloadN B Xb d26_38 (pc' := 39) rfl rfl ?_
        refine Go.ifc B Xb d26_39 (by decide) (pcT := 53) rfl (pc' := 42) rfl (fun h3 => ?_) (fun h3 => ?_)
        · dsimp only [GoKit.CP] at h3
          refine Go.iconst B Xb 0 d26_53 (pc' := 54) rfl rfl ?_
          exact Go.zret B Xb d26_54 rfl nb nb ⟨by unfold okS; rw [if_neg h0, if_neg h1, if_pos h2, if_pos h3], (Fr.app ((Fr.app (Fr.nil _) Na)) Nb), eb⟩
        · dsimp only [GoKit.CN] at h3
          refine Go.iloadN B Xb d26_42 (pc' := 43) rfl rfl ?_
          refine Go.callS B Xb eb (y := ⟨"com/example/patient_outbox/patientoutbox/db/StorableTextPinLaw", "isHigh", "(C)Z"⟩) (Ct.back (W := 0) (ct_isHigh l Z a0 hw prev h n0) B.hZ (tw hw 48 rfl) (tw hw 2 rfl) nb nb) (tw hw 46 rfl) (tw hw 47 rfl) (tw hw 2 rfl) (tw hw 48 rfl) (by decide) pd_10 d26_43 (pc' := 46) rfl rfl (rest := []) rfl rfl nb nb nb ?_
          intro vc Tc Lc Xc Qc
          obtain ⟨rfl, Nc, ec⟩ := Qc
          dsimp only [Option.toList, List.nil_append, List.cons_append]
          by_cases h4 : Hi prev
          · rw [if_pos h4]
            refine Go.ifF B Xc d26_46 (pc' := 49) rfl (by decide) ?_
            refine Go.iconst B Xc 1 d26_49 (pc' := 50) rfl rfl ?_
            refine Go.goto B Xc d26_50 (by decide) (pc' := 54) rfl ?_
            exact Go.zret B Xc d26_54 rfl nb nb ⟨by unfold okS; rw [if_neg h0, if_neg h1, if_pos h2, if_neg h3, if_pos h4], (Fr.app ((Fr.app ((Fr.app (Fr.nil _) Na)) Nb)) Nc), ec⟩
          · rw [if_neg h4]
            refine Go.ifT B Xc d26_46 (by decide) (pc' := 53) rfl rfl ?_
            refine Go.iconst B Xc 0 d26_53 (pc' := 54) rfl rfl ?_
            exact Go.zret B Xc d26_54 rfl nb nb ⟨by unfold okS; rw [if_neg h0, if_neg h1, if_pos h2, if_neg h3, if_neg h4], (Fr.app ((Fr.app ((Fr.app (Fr.nil _) Na)) Nb)) Nc), ec⟩
      · rw [if_neg h2]
        refine Go.ifT B Xb d26_35 (by decide) (pc' := 55) rfl rfl ?_
        refine Go.iconst B Xb 1 d26_55 (pc' := 56) rfl rfl ?_
        exact Go.zret B Xb d26_56 rfl nb nb ⟨by unfold okS; rw [if_neg h0, if_neg h1, if_neg h2], (Fr.app ((Fr.app (Fr.nil _) Na)) Nb), eb⟩
  · dsimp only [GoKit.CN] at h0
    refine Go.iconst B X0 0 d26_4 (pc' := 5) rfl rfl ?_
    exact Go.zret B X0 d26_5 rfl nb nb ⟨by unfold okS; rw [if_pos h0], Fr.nil _, e0⟩
theorem d27_0 : decode method_3_code 0 = .ok (.iload_n 0, 1) := by decide +kernel
theorem d27_1 : decode method_3_code 1 = .ok (.bipush 16, 2) := by decide +kernel
theorem d27_3 : decode method_3_code 3 = .ok (.iushr, 1) := by decide +kernel
theorem d27_4 : decode method_3_code 4 = .ok (.iconst 3, 1) := by decide +kernel
theorem d27_5 : decode method_3_code 5 = .ok (.iand, 1) := by decide +kernel
theorem d27_6 : decode method_3_code 6 = .ok (.istore_n 1, 1) := by decide +kernel
theorem d27_7 : decode method_3_code 7 = .ok (.iload_n 1, 1) := by decide +kernel
theorem d27_8 : decode method_3_code 8 = .ok (.iconst 1, 1) := by decide +kernel
theorem d27_9 : decode method_3_code 9 = .ok (.if_icmp .ne 13, 3) := by decide +kernel
theorem d27_12 : decode method_3_code 12 = .ok (.ldc 30, 2) := by decide +kernel
theorem d27_14 : decode method_3_code 14 = .ok (.iload_n 0, 1) := by decide +kernel
theorem d27_15 : decode method_3_code 15 = .ok (.sipush 1023, 3) := by decide +kernel
theorem d27_18 : decode method_3_code 18 = .ok (.iand, 1) := by decide +kernel
theorem d27_19 : decode method_3_code 19 = .ok (.ior, 1) := by decide +kernel
theorem d27_20 : decode method_3_code 20 = .ok (.i2c, 1) := by decide +kernel
theorem d27_21 : decode method_3_code 21 = .ok (.ireturn, 1) := by decide +kernel
theorem d27_22 : decode method_3_code 22 = .ok (.iload_n 1, 1) := by decide +kernel
theorem d27_23 : decode method_3_code 23 = .ok (.iconst 2, 1) := by decide +kernel
theorem d27_24 : decode method_3_code 24 = .ok (.if_icmp .ne 13, 3) := by decide +kernel
theorem d27_27 : decode method_3_code 27 = .ok (.ldc 31, 2) := by decide +kernel
theorem d27_29 : decode method_3_code 29 = .ok (.iload_n 0, 1) := by decide +kernel
theorem d27_30 : decode method_3_code 30 = .ok (.sipush 1023, 3) := by decide +kernel
theorem d27_33 : decode method_3_code 33 = .ok (.iand, 1) := by decide +kernel
theorem d27_34 : decode method_3_code 34 = .ok (.ior, 1) := by decide +kernel
theorem d27_35 : decode method_3_code 35 = .ok (.i2c, 1) := by decide +kernel
theorem d27_36 : decode method_3_code 36 = .ok (.ireturn, 1) := by decide +kernel
theorem d27_37 : decode method_3_code 37 = .ok (.iload_n 0, 1) := by decide +kernel
theorem d27_38 : decode method_3_code 38 = .ok (.ldc 32, 2) := by decide +kernel
theorem d27_40 : decode method_3_code 40 = .ok (.iand, 1) := by decide +kernel
theorem d27_41 : decode method_3_code 41 = .ok (.i2c, 1) := by decide +kernel
theorem d27_42 : decode method_3_code 42 = .ok (.ireturn, 1) := by decide +kernel
def ct_draw_R : Room := ({ frames := 0, cells := 0, slots := 0, locals := 0 } : Room)
set_option maxRecDepth 65536 in
set_option maxHeartbeats 40000000 in
theorem ct_draw (l : Launch) (Z : State) (a0 : Array Value) (hw : ∀ d ∈ tables_1, d.before a0 Z = true) (q0 : Int32) (h : Heap) (n0 : Nat)  :
    Ct l Z ⟨"com/example/patient_outbox/patientoutbox/db/StorableTextPinLaw", "draw", "(I)C"⟩ method_3_code 2 (some .char) [] ct_draw_R ct_draw_R.cells ct_draw_R.slots [(.int q0)] h (fun v h' L => ∃ z, v = some (.int z) ∧ Rc z ∧ Fr n0 L ∧ h' = h) := by
  refine Ct.mk (L0 := [.val (.int q0), .unset]) (plainFor_of_name pn_3) (fun m => by first | (simp [entryFrame, mkF, argsToLocals, Value.category]; done) | rfl) ?_
  intro p e s m below meth c s₁ B X0 e0
  refine Go.iloadN B X0 d27_0 (pc' := 1) rfl rfl ?_
  refine Go.bipush B X0 16 d27_1 (pc' := 3) rfl rfl ?_
  refine Go.iushr B X0 d27_3 (pc' := 4) rfl ?_
  refine Go.iconst B X0 3 d27_4 (pc' := 5) rfl rfl ?_
  refine Go.iand B X0 d27_5 (pc' := 6) rfl ?_
  refine Go.istoreN B X0 d27_6 (pc' := 7) rfl rfl rfl ?_
  dsimp only [put1]
  refine Go.iloadN B X0 d27_7 (pc' := 8) rfl rfl ?_
  refine Go.iconst B X0 1 d27_8 (pc' := 9) rfl rfl ?_
  refine Go.ic B X0 d27_9 (by decide) (pcT := 22) rfl (pc' := 12) rfl (fun h1 => ?_) (fun h1 => ?_)
  · dsimp only [GoKit.CP] at h1
    refine Go.iloadN B X0 d27_22 (pc' := 23) rfl rfl ?_
    refine Go.iconst B X0 2 d27_23 (pc' := 24) rfl rfl ?_
    refine Go.ic B X0 d27_24 (by decide) (pcT := 37) rfl (pc' := 27) rfl (fun h2 => ?_) (fun h2 => ?_)
    · dsimp only [GoKit.CP] at h2
      refine Go.iloadN B X0 d27_37 (pc' := 38) rfl rfl ?_
      refine Go.ldcI B X0 (tw hw 4 rfl) d27_38 (pc' := 40) rfl ?_
      refine Go.iand B X0 d27_40 (pc' := 41) rfl ?_
      refine Go.i2c B X0 d27_41 (pc' := 42) rfl ?_
      exact Go.cret B X0 d27_42 (StrChars.narrow_ch (i2c_rng _).1 (i2c_rng _).2) nb nb ⟨_, rfl, i2c_rng _, Fr.nil _, e0⟩
    · dsimp only [GoKit.CN] at h2
      refine Go.ldcI B X0 (tw hw 53 rfl) d27_27 (pc' := 29) rfl ?_
      refine Go.iloadN B X0 d27_29 (pc' := 30) rfl rfl ?_
      refine Go.sipush B X0 1023 d27_30 (pc' := 33) rfl rfl ?_
      refine Go.iand B X0 d27_33 (pc' := 34) rfl ?_
      refine Go.ior B X0 d27_34 (pc' := 35) rfl ?_
      refine Go.i2c B X0 d27_35 (pc' := 36) rfl ?_
      exact Go.cret B X0 d27_36 (StrChars.narrow_ch (i2c_rng _).1 (i2c_rng _).2) nb nb ⟨_, rfl, i2c_rng _, Fr.nil _, e0⟩
  · dsimp only [GoKit.CN] at h1
    refine Go.ldcI B X0 (tw hw 49 rfl) d27_12 (pc' := 14) rfl ?_
    refine Go.iloadN B X0 d27_14 (pc' := 15) rfl rfl ?_
    refine Go.sipush B X0 1023 d27_15 (pc' := 18) rfl rfl ?_
    refine Go.iand B X0 d27_18 (pc' := 19) rfl ?_
    refine Go.ior B X0 d27_19 (pc' := 20) rfl ?_
    refine Go.i2c B X0 d27_20 (pc' := 21) rfl ?_
    exact Go.cret B X0 d27_21 (StrChars.narrow_ch (i2c_rng _).1 (i2c_rng _).2) nb nb ⟨_, rfl, i2c_rng _, Fr.nil _, e0⟩
theorem own_n (p : Int32) : p &&& 3 = 0 ∨ p &&& 3 = 1 ∨ p &&& 3 = 2 ∨ p &&& 3 = 3 := by
  have h := c_and p 3 (by decide)
  have e0 : (0 : Int32).toInt = 0 := by decide
  have e1 : (1 : Int32).toInt = 1 := by decide
  have e2 : (2 : Int32).toInt = 2 := by decide
  have e3 : (3 : Int32).toInt = 3 := by decide
  rw [← Int32.toInt_inj, ← Int32.toInt_inj, ← Int32.toInt_inj, ← Int32.toInt_inj, e0, e1, e2, e3]
  omega
theorem pd_17 : parseMethodDescriptor "(I)C" = some ⟨[.int], some .char⟩ := by decide +kernel
theorem pd_18 : parseMethodDescriptor "([C)V" = some ⟨[(.array .char)], none⟩ := by decide +kernel
theorem pd_19 : parseMethodDescriptor "(Ljava/lang/String;Ljava/lang/String;)V" = some ⟨[(.object "java/lang/String"), (.object "java/lang/String")], none⟩ := by decide +kernel
set_option maxRecDepth 65536 in
set_option maxHeartbeats 40000000 in
theorem own_len0 {p : Program} {l : Launch} {e : Env} {s : State} {m : MethodId} {args : Array Value} {below : List Frame} {meth : Method} {c : Code} {Z : State} {a0 : Array Value} {nm : String} {n0 : Nat} {h : Heap} {vm0 : Vm} {T : State} {locs : List Loc} (hw : ∀ d ∈ tables_1, d.before a0 Z = true) (hEL : EW Z a0 consts_1) (wS : ∀ d ∈ Bundle.stringAtoms, d.before a0 Z = true) (hS : Stz Z) (hF : Sfm Z) (B : Ctx p Z (s.setVm vm0) m meth c x.cls nm code maxLocals ret) (X : Stand p l e room_1 (s.setVm vm0) m args below meth c T locs 0 0) (eT : T.heap = h) (V : Wx Z a0 consts_1 s vm0 h) (O : Old Z n0 h) (N : Fr n0 locs)
    {p0 p1 p2 p3 c0 c1 c2 : Int32} (r0 : Rc c0) (r1 : Rc c1) (r2 : Rc c2) :
    Go p e below (EndW s 24 2176 Z consts_1 (fun v h' L => v = some (.int 1) ∧ Fr n0 L)) (T.setTop (fr m 23 [.val (.int p0), .val (.int p1), .val (.int p2), .val (.int p3), .val (.int 0), .val (.int c0), .val (.int c1), .val (.int c2), .unset, .unset] [])) := by
  refine Go.iload B X at_23 (pc' := 25) rfl rfl ?_
  refine Go.newP B X eT 0 (tw hw 5 rfl) at_25 (pc' := 27) rfl rfl nb nb nb ?_
  intro Tn hn b gn Xn en En An'
  have An : Av Z hn b .char (([] : List Int32).map Value.int) := An'
  have nb0 : n0 ≤ b := by rw [gn, ← O.1]; exact O.2.1
  have hb0 : h.size ≤ b := by rw [gn]; exact Nat.le_refl _
  have On := O.ext En
  have Kn := (Keep.refl h []).ext En
  have Nn := N
  refine Go.astore B Xn at_27 (pc' := 29) rfl rfl rfl rfl ?_
  dsimp only [put1]
  refine Go.iload B Xn at_29 (pc' := 31) rfl rfl ?_
  refine Go.ifT B Xn at_31 (by decide) (pc' := 40) rfl (by decide) ?_
  refine Go.iload B Xn at_40 (pc' := 42) rfl rfl ?_
  refine Go.iconst B Xn 1 at_42 (pc' := 43) rfl rfl ?_
  refine Go.icT B Xn at_43 (by decide) (pc' := 52) rfl (by decide) ?_
  refine Go.iload B Xn at_52 (pc' := 54) rfl rfl ?_
  refine Go.iconst B Xn 2 at_54 (pc' := 55) rfl rfl ?_
  refine Go.icT B Xn at_55 (by decide) (pc' := 64) rfl (by decide) ?_
  have Vc := V.keep Kn all0
  refine Go.iconst B Xn 1 at_64 (pc' := 65) rfl rfl ?_
  refine Go.istore B Xn at_65 (pc' := 67) rfl rfl rfl ?_
  dsimp only [put1]
  refine Go.iload B Xn at_67 (pc' := 69) rfl rfl ?_
  refine Go.ifT B Xn at_69 (by decide) (pc' := 107) rfl (by decide) ?_
  refine Go.iload B Xn at_107 (pc' := 109) rfl rfl ?_
  refine Go.iconst B Xn 1 at_109 (pc' := 110) rfl rfl ?_
  refine Go.icT B Xn at_110 (by decide) (pc' := 149) rfl (by decide) ?_
  refine Go.iload B Xn at_149 (pc' := 151) rfl rfl ?_
  refine Go.iconst B Xn 2 at_151 (pc' := 152) rfl rfl ?_
  refine Go.icT B Xn at_152 (by decide) (pc' := 180) rfl (by decide) ?_
  refine Go.iload B Xn at_180 (pc' := 182) rfl rfl ?_
  refine Go.ifF B Xn at_182 (pc' := 185) rfl (by decide) ?_
  refine Go.ldcS B Xn en Vc 20 (vs := [.int 118, .int 97, .int 108, .int 117, .int 101]) (tw hw 6 rfl) (by decide) (by decide +kernel) nl at_185 (pc' := 187) rfl (by decide +kernel) nb nb nb ?_
  intro aq Tq hq bq Bq Xq eq Eq Vq Exq Fq Gq Aq Sq Nq
  have Oq := On.ext Eq
  have Aq2 := An.ext Eq
  refine Go.newO Bq Xq eq (tw hw 14 rfl) (tw hw 8 rfl) (tw hw 7 rfl) at_187 (pc' := 190) rfl nb nb ?_
  intro Ta ha x ga Xa ea Ea Aa Da
  have V0 : Fld Z ha x "java/lang/String" "value" "[B" .null := Da (Or.inr (tw hw 10 rfl)) (ty := .array .byte) (by decide)
  have C0 : Fld Z ha x "java/lang/String" "coder" "B" (.int 0) := Da (Or.inr (tw hw 11 rfl)) (ty := .byte) (by decide)
  have nx : n0 ≤ x := by rw [ga, ← Oq.1]; exact Oq.2.1
  have Oa := Oq.ext Ea
  have Ab := Aq2.ext Ea
  have Ka := (Keep.refl hq []).ext Ea
  refine Go.dup Bq Xa at_190 (pc' := 191) rfl rfl ?_
  refine Go.aload Bq Xa at_191 (pc' := 193) rfl rfl rfl ?_
  have Va := Vq.keep Ka all0
  refine Go.callIW Bq Xa ea Va (y := ⟨"java/lang/String", "<init>", "([C)V"⟩) rfl (CtW.back (W := 2) (ct_init1E l Z a0 hw x b (.int 0) ha n0 hEL wS Oa nx Aa V0 C0 Ab) Bq.hZ (tw hw 17 rfl) (tw hw 7 rfl) nb nb Va) (tw hw 15 rfl) (tw hw 16 rfl) (tw hw 17 rfl) (by decide) pd_18 at_193 (pc' := 196) rfl rfl (rest := [_, _]) rfl rfl nb nb nb ?_
  intro vf Tf Lf Bf Xf Qf Vf Sf
  obtain ⟨rfl, Nf, Kf, Df⟩ := Qf
  dsimp only [Option.toList, List.nil_append, List.cons_append]
  have hr : ∀ y ∈ ([] : List Int32), Rc y := by intro y hy; exact absurd hy (by simp)
  have hval : Val [] := .nil
  have K : Keep hq Tf.heap [] := Ka.trans Kf (fun y hy => Or.inr (by simp at hy; subst hy; exact Nat.le_of_eq ga.symm))
  have Of := Oq.keep K all0
  refine Go.callS Bf Xf rfl (y := ⟨"com/example/patient_outbox/patientoutbox/db/Storable", "text", "(Ljava/lang/String;Ljava/lang/String;)V"⟩) (Ct.back (W := 0) (ct_text l Z a0 hw aq x [] Tf.heap n0 hS Of hF Df nb hr hval) Bf.hZ (tw hw 31 rfl) (tw hw 30 rfl) nb nb) (tw hw 28 rfl) (tw hw 29 rfl) (tw hw 30 rfl) (tw hw 31 rfl) (by decide) pd_19 at_196 (pc' := 199) rfl rfl (rest := []) rfl rfl nb nb nb ?_
  intro vg Tg Lg Xg Qg
  obtain ⟨rfl, Ng, eg⟩ := Qg
  dsimp only [Option.toList, List.nil_append, List.cons_append]
  refine Go.iconst Bf Xg 1 at_199 (pc' := 200) rfl rfl ?_
  exact Go.zretW Bf Xg eg Vf at_200 rfl nb nb ⟨rfl, (Fr.app (Fr.app Nn Nf) Ng)⟩
theorem pd_20 : parseMethodDescriptor "(CZCZC)Z" = some ⟨[.char, .boolean, .char, .boolean, .char], some .boolean⟩ := by decide +kernel
set_option maxRecDepth 65536 in
set_option maxHeartbeats 40000000 in
theorem own_len1 {p : Program} {l : Launch} {e : Env} {s : State} {m : MethodId} {args : Array Value} {below : List Frame} {meth : Method} {c : Code} {Z : State} {a0 : Array Value} {nm : String} {n0 : Nat} {h : Heap} {vm0 : Vm} {T : State} {locs : List Loc} (hw : ∀ d ∈ tables_1, d.before a0 Z = true) (hEL : EW Z a0 consts_1) (wS : ∀ d ∈ Bundle.stringAtoms, d.before a0 Z = true) (hS : Stz Z) (hF : Sfm Z) (B : Ctx p Z (s.setVm vm0) m meth c x.cls nm code maxLocals ret) (X : Stand p l e room_1 (s.setVm vm0) m args below meth c T locs 0 0) (eT : T.heap = h) (V : Wx Z a0 consts_1 s vm0 h) (O : Old Z n0 h) (N : Fr n0 locs)
    {p0 p1 p2 p3 c0 c1 c2 : Int32} (r0 : Rc c0) (r1 : Rc c1) (r2 : Rc c2) :
    Go p e below (EndW s 24 2176 Z consts_1 (fun v h' L => v = some (.int 1) ∧ Fr n0 L)) (T.setTop (fr m 23 [.val (.int p0), .val (.int p1), .val (.int p2), .val (.int p3), .val (.int 1), .val (.int c0), .val (.int c1), .val (.int c2), .unset, .unset] [])) := by
  refine Go.iload B X at_23 (pc' := 25) rfl rfl ?_
  refine Go.newP B X eT 1 (tw hw 5 rfl) at_25 (pc' := 27) rfl rfl nb nb nb ?_
  intro Tn hn b gn Xn en En An'
  have An : Av Z hn b .char (([0] : List Int32).map Value.int) := An'
  have nb0 : n0 ≤ b := by rw [gn, ← O.1]; exact O.2.1
  have hb0 : h.size ≤ b := by rw [gn]; exact Nat.le_refl _
  have On := O.ext En
  have Kn := (Keep.refl h []).ext En
  have Nn := N
  refine Go.astore B Xn at_27 (pc' := 29) rfl rfl rfl rfl ?_
  dsimp only [put1]
  refine Go.iload B Xn at_29 (pc' := 31) rfl rfl ?_
  refine Go.ifF B Xn at_31 (pc' := 34) rfl (by decide) ?_
  refine Go.aload B Xn at_34 (pc' := 36) rfl rfl rfl ?_
  refine Go.iconst B Xn 0 at_36 (pc' := 37) rfl rfl ?_
  refine Go.iload B Xn at_37 (pc' := 39) rfl rfl ?_
  refine Go.castore B Xn en An 0 at_39 (pc' := 40) rfl rfl nl ?_
  intro Ts0 hs0 Ls0 Fs0 Xs0 es0 Ws0 As0'
  rw [nar_ch r0] at As0'
  have As0 : Av Z hs0 b .char (([c0] : List Int32).map Value.int) := As0'
  have Os0 := On.wr Ws0 nb0
  have Ks0 := Kn.wr Ws0 (Or.inr hb0)
  have Ns0 := Fr.app Nn (GoKit.Fr.low Fs0 nb0)
  refine Go.iload B Xs0 at_40 (pc' := 42) rfl rfl ?_
  refine Go.iconst B Xs0 1 at_42 (pc' := 43) rfl rfl ?_
  refine Go.icT B Xs0 at_43 (by decide) (pc' := 52) rfl (by decide) ?_
  refine Go.iload B Xs0 at_52 (pc' := 54) rfl rfl ?_
  refine Go.iconst B Xs0 2 at_54 (pc' := 55) rfl rfl ?_
  refine Go.icT B Xs0 at_55 (by decide) (pc' := 64) rfl (by decide) ?_
  have Vc := V.keep Ks0 all0
  refine Go.iconst B Xs0 1 at_64 (pc' := 65) rfl rfl ?_
  refine Go.istore B Xs0 at_65 (pc' := 67) rfl rfl rfl ?_
  dsimp only [put1]
  refine Go.iload B Xs0 at_67 (pc' := 69) rfl rfl ?_
  refine Go.ifF B Xs0 at_69 (pc' := 72) rfl (by decide) ?_
  refine Go.iload B Xs0 at_72 (pc' := 74) rfl rfl ?_
  refine Go.ifF B Xs0 at_74 (pc' := 77) rfl (by decide) ?_
  refine Go.iload B Xs0 at_77 (pc' := 79) rfl rfl ?_
  refine Go.iconst B Xs0 0 at_79 (pc' := 80) rfl rfl ?_
  refine Go.iconst B Xs0 0 at_80 (pc' := 81) rfl rfl ?_
  refine Go.iload B Xs0 at_81 (pc' := 83) rfl rfl ?_
  refine Go.iconst B Xs0 1 at_83 (pc' := 84) rfl rfl ?_
  refine Go.icT B Xs0 at_84 (by decide) (pc' := 91) rfl (by decide) ?_
  refine Go.iconst B Xs0 0 at_91 (pc' := 92) rfl rfl ?_
  refine Go.iload B Xs0 at_92 (pc' := 94) rfl rfl ?_
  refine Go.callS B Xs0 es0 (y := ⟨"com/example/patient_outbox/patientoutbox/db/StorableTextPinLaw", "ok", "(CZCZC)Z"⟩) (Ct.back (W := 0) (ct_ok l Z a0 hw c0 0 0 0 c1 hs0 n0) B.hZ (tw hw 45 rfl) (tw hw 2 rfl) nb nb) (tw hw 43 rfl) (tw hw 44 rfl) (tw hw 2 rfl) (tw hw 45 rfl) (by decide) pd_20 at_94 (pc' := 97) rfl rfl (rest := []) rfl rfl nb nb nb ?_
  intro vv0 Tv0 Lv0 Xv0 Qv0
  obtain ⟨rfl, Nv0, ev0⟩ := Qv0
  dsimp only [Option.toList, List.nil_append, List.cons_append]
  rcases ok01 c0 0 0 0 c1 with o0 | o0
  · rw [o0]
    refine Go.ifT B Xv0 at_97 (by decide) (pc' := 104) rfl rfl ?_
    refine Go.iconst B Xv0 0 at_104 (pc' := 105) rfl rfl ?_
    refine Go.istore B Xv0 at_105 (pc' := 107) rfl rfl rfl ?_
    dsimp only [put1]
    refine Go.iload B Xv0 at_107 (pc' := 109) rfl rfl ?_
    refine Go.iconst B Xv0 1 at_109 (pc' := 110) rfl rfl ?_
    refine Go.icT B Xv0 at_110 (by decide) (pc' := 149) rfl (by decide) ?_
    refine Go.iload B Xv0 at_149 (pc' := 151) rfl rfl ?_
    refine Go.iconst B Xv0 2 at_151 (pc' := 152) rfl rfl ?_
    refine Go.icT B Xv0 at_152 (by decide) (pc' := 180) rfl (by decide) ?_
    refine Go.iload B Xv0 at_180 (pc' := 182) rfl rfl ?_
    refine Go.ifT B Xv0 at_182 (by decide) (pc' := 199) rfl rfl ?_
    refine Go.iconst B Xv0 1 at_199 (pc' := 200) rfl rfl ?_
    exact Go.zretW B Xv0 ev0 Vc at_200 rfl nb nb ⟨rfl, (Fr.app Ns0 Nv0)⟩
  · rw [o0]
    refine Go.ifF B Xv0 at_97 (pc' := 100) rfl (by decide) ?_
    refine Go.iconst B Xv0 1 at_100 (pc' := 101) rfl rfl ?_
    refine Go.goto B Xv0 at_101 (by decide) (pc' := 105) rfl ?_
    refine Go.istore B Xv0 at_105 (pc' := 107) rfl rfl rfl ?_
    dsimp only [put1]
    refine Go.iload B Xv0 at_107 (pc' := 109) rfl rfl ?_
    refine Go.iconst B Xv0 1 at_109 (pc' := 110) rfl rfl ?_
    refine Go.icT B Xv0 at_110 (by decide) (pc' := 149) rfl (by decide) ?_
    refine Go.iload B Xv0 at_149 (pc' := 151) rfl rfl ?_
    refine Go.iconst B Xv0 2 at_151 (pc' := 152) rfl rfl ?_
    refine Go.icT B Xv0 at_152 (by decide) (pc' := 180) rfl (by decide) ?_
    refine Go.iload B Xv0 at_180 (pc' := 182) rfl rfl ?_
    refine Go.ifF B Xv0 at_182 (pc' := 185) rfl (by decide) ?_
    refine Go.ldcS B Xv0 ev0 Vc 20 (vs := [.int 118, .int 97, .int 108, .int 117, .int 101]) (tw hw 6 rfl) (by decide) (by decide +kernel) nl at_185 (pc' := 187) rfl (by decide +kernel) nb nb nb ?_
    intro aq Tq hq bq Bq Xq eq Eq Vq Exq Fq Gq Aq Sq Nq
    have Oq := Os0.ext Eq
    have Aq2 := As0.ext Eq
    refine Go.newO Bq Xq eq (tw hw 14 rfl) (tw hw 8 rfl) (tw hw 7 rfl) at_187 (pc' := 190) rfl nb nb ?_
    intro Ta ha x ga Xa ea Ea Aa Da
    have V0 : Fld Z ha x "java/lang/String" "value" "[B" .null := Da (Or.inr (tw hw 10 rfl)) (ty := .array .byte) (by decide)
    have C0 : Fld Z ha x "java/lang/String" "coder" "B" (.int 0) := Da (Or.inr (tw hw 11 rfl)) (ty := .byte) (by decide)
    have nx : n0 ≤ x := by rw [ga, ← Oq.1]; exact Oq.2.1
    have Oa := Oq.ext Ea
    have Ab := Aq2.ext Ea
    have Ka := (Keep.refl hq []).ext Ea
    refine Go.dup Bq Xa at_190 (pc' := 191) rfl rfl ?_
    refine Go.aload Bq Xa at_191 (pc' := 193) rfl rfl rfl ?_
    have hr : ∀ y ∈ ([c0] : List Int32), Rc y := (by intro y hy; simp only [List.mem_cons, List.not_mem_nil, or_false] at hy; rcases hy with rfl; exact r0)
    have hval : Val [c0] := val1 o0
    refine Go.callI Bq Xa ea (y := ⟨"java/lang/String", "<init>", "([C)V"⟩) rfl (Ct.back (W := 2) (ct_init1 l Z a0 hw x b [c0] .null (.int 0) ha n0 hS Oa nx Aa V0 C0 Ab nb nb hr) Bq.hZ (tw hw 17 rfl) (tw hw 7 rfl) nb nb) (tw hw 15 rfl) (tw hw 16 rfl) (tw hw 17 rfl) (by decide) pd_18 at_193 (pc' := 196) rfl rfl (rest := [_, _]) rfl rfl nb nb nb ?_
    intro vf Tf Lf Xf Qf
    obtain ⟨rfl, Nf, Kf, Df⟩ := Qf
    dsimp only [Option.toList, List.nil_append, List.cons_append]
    have K : Keep hq Tf.heap [] := Ka.trans Kf (fun y hy => Or.inr (by simp at hy; subst hy; exact Nat.le_of_eq ga.symm))
    have Of := Oq.keep K all0
    have Vf := Vq.keep K all0
    refine Go.callS Bq Xf rfl (y := ⟨"com/example/patient_outbox/patientoutbox/db/Storable", "text", "(Ljava/lang/String;Ljava/lang/String;)V"⟩) (Ct.back (W := 0) (ct_text l Z a0 hw aq x [c0] Tf.heap n0 hS Of hF Df nb hr hval) Bq.hZ (tw hw 31 rfl) (tw hw 30 rfl) nb nb) (tw hw 28 rfl) (tw hw 29 rfl) (tw hw 30 rfl) (tw hw 31 rfl) (by decide) pd_19 at_196 (pc' := 199) rfl rfl (rest := []) rfl rfl nb nb nb ?_
    intro vg Tg Lg Xg Qg
    obtain ⟨rfl, Ng, eg⟩ := Qg
    dsimp only [Option.toList, List.nil_append, List.cons_append]
    refine Go.iconst Bq Xg 1 at_199 (pc' := 200) rfl rfl ?_
    exact Go.zretW Bq Xg eg Vf at_200 rfl nb nb ⟨rfl, (Fr.app (Fr.app (Fr.app Ns0 Nv0) Nf) Ng)⟩

set_option maxRecDepth 65536 in
set_option maxHeartbeats 40000000 in
theorem own_len2 {p : Program} {l : Launch} {e : Env} {s : State} {m : MethodId} {args : Array Value} {below : List Frame} {meth : Method} {c : Code} {Z : State} {a0 : Array Value} {nm : String} {n0 : Nat} {h : Heap} {vm0 : Vm} {T : State} {locs : List Loc} (hw : ∀ d ∈ tables_1, d.before a0 Z = true) (hEL : EW Z a0 consts_1) (wS : ∀ d ∈ Bundle.stringAtoms, d.before a0 Z = true) (hS : Stz Z) (hF : Sfm Z) (B : Ctx p Z (s.setVm vm0) m meth c x.cls nm code maxLocals ret) (X : Stand p l e room_1 (s.setVm vm0) m args below meth c T locs 0 0) (eT : T.heap = h) (V : Wx Z a0 consts_1 s vm0 h) (O : Old Z n0 h) (N : Fr n0 locs)
    {p0 p1 p2 p3 c0 c1 c2 : Int32} (r0 : Rc c0) (r1 : Rc c1) (r2 : Rc c2) :
    Go p e below (EndW s 24 2176 Z consts_1 (fun v h' L => v = some (.int 1) ∧ Fr n0 L)) (T.setTop (fr m 23 [.val (.int p0), .val (.int p1), .val (.int p2), .val (.int p3), .val (.int 2), .val (.int c0), .val (.int c1), .val (.int c2), .unset, .unset] [])) := by
  refine Go.iload B X at_23 (pc' := 25) rfl rfl ?_
  refine Go.newP B X eT 2 (tw hw 5 rfl) at_25 (pc' := 27) rfl rfl nb nb nb ?_
  intro Tn hn b gn Xn en En An'
  have An : Av Z hn b .char (([0, 0] : List Int32).map Value.int) := An'
  have nb0 : n0 ≤ b := by rw [gn, ← O.1]; exact O.2.1
  have hb0 : h.size ≤ b := by rw [gn]; exact Nat.le_refl _
  have On := O.ext En
  have Kn := (Keep.refl h []).ext En
  have Nn := N
  refine Go.astore B Xn at_27 (pc' := 29) rfl rfl rfl rfl ?_
  dsimp only [put1]
  refine Go.iload B Xn at_29 (pc' := 31) rfl rfl ?_
  refine Go.ifF B Xn at_31 (pc' := 34) rfl (by decide) ?_
  refine Go.aload B Xn at_34 (pc' := 36) rfl rfl rfl ?_
  refine Go.iconst B Xn 0 at_36 (pc' := 37) rfl rfl ?_
  refine Go.iload B Xn at_37 (pc' := 39) rfl rfl ?_
  refine Go.castore B Xn en An 0 at_39 (pc' := 40) rfl rfl nl ?_
  intro Ts0 hs0 Ls0 Fs0 Xs0 es0 Ws0 As0'
  rw [nar_ch r0] at As0'
  have As0 : Av Z hs0 b .char (([c0, 0] : List Int32).map Value.int) := As0'
  have Os0 := On.wr Ws0 nb0
  have Ks0 := Kn.wr Ws0 (Or.inr hb0)
  have Ns0 := Fr.app Nn (GoKit.Fr.low Fs0 nb0)
  refine Go.iload B Xs0 at_40 (pc' := 42) rfl rfl ?_
  refine Go.iconst B Xs0 1 at_42 (pc' := 43) rfl rfl ?_
  refine Go.icF B Xs0 at_43 (pc' := 46) rfl (by decide) ?_
  refine Go.aload B Xs0 at_46 (pc' := 48) rfl rfl rfl ?_
  refine Go.iconst B Xs0 1 at_48 (pc' := 49) rfl rfl ?_
  refine Go.iload B Xs0 at_49 (pc' := 51) rfl rfl ?_
  refine Go.castore B Xs0 es0 As0 1 at_51 (pc' := 52) rfl rfl nl ?_
  intro Ts1 hs1 Ls1 Fs1 Xs1 es1 Ws1 As1'
  rw [nar_ch r1] at As1'
  have As1 : Av Z hs1 b .char (([c0, c1] : List Int32).map Value.int) := As1'
  have Os1 := Os0.wr Ws1 nb0
  have Ks1 := Ks0.wr Ws1 (Or.inr hb0)
  have Ns1 := Fr.app Ns0 (GoKit.Fr.low Fs1 nb0)
  refine Go.iload B Xs1 at_52 (pc' := 54) rfl rfl ?_
  refine Go.iconst B Xs1 2 at_54 (pc' := 55) rfl rfl ?_
  refine Go.icT B Xs1 at_55 (by decide) (pc' := 64) rfl (by decide) ?_
  have Vc := V.keep Ks1 all0
  refine Go.iconst B Xs1 1 at_64 (pc' := 65) rfl rfl ?_
  refine Go.istore B Xs1 at_65 (pc' := 67) rfl rfl rfl ?_
  dsimp only [put1]
  refine Go.iload B Xs1 at_67 (pc' := 69) rfl rfl ?_
  refine Go.ifF B Xs1 at_69 (pc' := 72) rfl (by decide) ?_
  refine Go.iload B Xs1 at_72 (pc' := 74) rfl rfl ?_
  refine Go.ifF B Xs1 at_74 (pc' := 77) rfl (by decide) ?_
  refine Go.iload B Xs1 at_77 (pc' := 79) rfl rfl ?_
  refine Go.iconst B Xs1 0 at_79 (pc' := 80) rfl rfl ?_
  refine Go.iconst B Xs1 0 at_80 (pc' := 81) rfl rfl ?_
  refine Go.iload B Xs1 at_81 (pc' := 83) rfl rfl ?_
  refine Go.iconst B Xs1 1 at_83 (pc' := 84) rfl rfl ?_
  refine Go.icF B Xs1 at_84 (pc' := 87) rfl (by decide) ?_
  refine Go.iconst B Xs1 1 at_87 (pc' := 88) rfl rfl ?_
  refine Go.goto B Xs1 at_88 (by decide) (pc' := 92) rfl ?_
  refine Go.iload B Xs1 at_92 (pc' := 94) rfl rfl ?_
  refine Go.callS B Xs1 es1 (y := ⟨"com/example/patient_outbox/patientoutbox/db/StorableTextPinLaw", "ok", "(CZCZC)Z"⟩) (Ct.back (W := 0) (ct_ok l Z a0 hw c0 0 0 1 c1 hs1 n0) B.hZ (tw hw 45 rfl) (tw hw 2 rfl) nb nb) (tw hw 43 rfl) (tw hw 44 rfl) (tw hw 2 rfl) (tw hw 45 rfl) (by decide) pd_20 at_94 (pc' := 97) rfl rfl (rest := []) rfl rfl nb nb nb ?_
  intro vv0 Tv0 Lv0 Xv0 Qv0
  obtain ⟨rfl, Nv0, ev0⟩ := Qv0
  dsimp only [Option.toList, List.nil_append, List.cons_append]
  rcases ok01 c0 0 0 1 c1 with o0 | o0
  · rw [o0]
    refine Go.ifT B Xv0 at_97 (by decide) (pc' := 104) rfl rfl ?_
    refine Go.iconst B Xv0 0 at_104 (pc' := 105) rfl rfl ?_
    refine Go.istore B Xv0 at_105 (pc' := 107) rfl rfl rfl ?_
    dsimp only [put1]
    refine Go.iload B Xv0 at_107 (pc' := 109) rfl rfl ?_
    refine Go.iconst B Xv0 1 at_109 (pc' := 110) rfl rfl ?_
    refine Go.icF B Xv0 at_110 (pc' := 113) rfl (by decide) ?_
    refine Go.iload B Xv0 at_113 (pc' := 115) rfl rfl ?_
    refine Go.ifT B Xv0 at_115 (by decide) (pc' := 146) rfl rfl ?_
    refine Go.iconst B Xv0 0 at_146 (pc' := 147) rfl rfl ?_
    refine Go.istore B Xv0 at_147 (pc' := 149) rfl rfl rfl ?_
    dsimp only [put1]
    refine Go.iload B Xv0 at_149 (pc' := 151) rfl rfl ?_
    refine Go.iconst B Xv0 2 at_151 (pc' := 152) rfl rfl ?_
    refine Go.icT B Xv0 at_152 (by decide) (pc' := 180) rfl (by decide) ?_
    refine Go.iload B Xv0 at_180 (pc' := 182) rfl rfl ?_
    refine Go.ifT B Xv0 at_182 (by decide) (pc' := 199) rfl rfl ?_
    refine Go.iconst B Xv0 1 at_199 (pc' := 200) rfl rfl ?_
    exact Go.zretW B Xv0 ev0 Vc at_200 rfl nb nb ⟨rfl, (Fr.app Ns1 Nv0)⟩
  · rw [o0]
    refine Go.ifF B Xv0 at_97 (pc' := 100) rfl (by decide) ?_
    refine Go.iconst B Xv0 1 at_100 (pc' := 101) rfl rfl ?_
    refine Go.goto B Xv0 at_101 (by decide) (pc' := 105) rfl ?_
    refine Go.istore B Xv0 at_105 (pc' := 107) rfl rfl rfl ?_
    dsimp only [put1]
    refine Go.iload B Xv0 at_107 (pc' := 109) rfl rfl ?_
    refine Go.iconst B Xv0 1 at_109 (pc' := 110) rfl rfl ?_
    refine Go.icF B Xv0 at_110 (pc' := 113) rfl (by decide) ?_
    refine Go.iload B Xv0 at_113 (pc' := 115) rfl rfl ?_
    refine Go.ifF B Xv0 at_115 (pc' := 118) rfl (by decide) ?_
    refine Go.iload B Xv0 at_118 (pc' := 120) rfl rfl ?_
    refine Go.iconst B Xv0 1 at_120 (pc' := 121) rfl rfl ?_
    refine Go.iload B Xv0 at_121 (pc' := 123) rfl rfl ?_
    refine Go.iload B Xv0 at_123 (pc' := 125) rfl rfl ?_
    refine Go.iconst B Xv0 2 at_125 (pc' := 126) rfl rfl ?_
    refine Go.icT B Xv0 at_126 (by decide) (pc' := 133) rfl (by decide) ?_
    refine Go.iconst B Xv0 0 at_133 (pc' := 134) rfl rfl ?_
    refine Go.iload B Xv0 at_134 (pc' := 136) rfl rfl ?_
    refine Go.callS B Xv0 ev0 (y := ⟨"com/example/patient_outbox/patientoutbox/db/StorableTextPinLaw", "ok", "(CZCZC)Z"⟩) (Ct.back (W := 0) (ct_ok l Z a0 hw c1 1 c0 0 c2 hs1 n0) B.hZ (tw hw 45 rfl) (tw hw 2 rfl) nb nb) (tw hw 43 rfl) (tw hw 44 rfl) (tw hw 2 rfl) (tw hw 45 rfl) (by decide) pd_20 at_136 (pc' := 139) rfl rfl (rest := []) rfl rfl nb nb nb ?_
    intro vv1 Tv1 Lv1 Xv1 Qv1
    obtain ⟨rfl, Nv1, ev1⟩ := Qv1
    dsimp only [Option.toList, List.nil_append, List.cons_append]
    rcases ok01 c1 1 c0 0 c2 with o1 | o1
    · rw [o1]
      refine Go.ifT B Xv1 at_139 (by decide) (pc' := 146) rfl rfl ?_
      refine Go.iconst B Xv1 0 at_146 (pc' := 147) rfl rfl ?_
      refine Go.istore B Xv1 at_147 (pc' := 149) rfl rfl rfl ?_
      dsimp only [put1]
      refine Go.iload B Xv1 at_149 (pc' := 151) rfl rfl ?_
      refine Go.iconst B Xv1 2 at_151 (pc' := 152) rfl rfl ?_
      refine Go.icT B Xv1 at_152 (by decide) (pc' := 180) rfl (by decide) ?_
      refine Go.iload B Xv1 at_180 (pc' := 182) rfl rfl ?_
      refine Go.ifT B Xv1 at_182 (by decide) (pc' := 199) rfl rfl ?_
      refine Go.iconst B Xv1 1 at_199 (pc' := 200) rfl rfl ?_
      exact Go.zretW B Xv1 ev1 Vc at_200 rfl nb nb ⟨rfl, (Fr.app (Fr.app Ns1 Nv0) Nv1)⟩
    · rw [o1]
      refine Go.ifF B Xv1 at_139 (pc' := 142) rfl (by decide) ?_
      refine Go.iconst B Xv1 1 at_142 (pc' := 143) rfl rfl ?_
      refine Go.goto B Xv1 at_143 (by decide) (pc' := 147) rfl ?_
      refine Go.istore B Xv1 at_147 (pc' := 149) rfl rfl rfl ?_
      dsimp only [put1]
      refine Go.iload B Xv1 at_149 (pc' := 151) rfl rfl ?_
      refine Go.iconst B Xv1 2 at_151 (pc' := 152) rfl rfl ?_
      refine Go.icT B Xv1 at_152 (by decide) (pc' := 180) rfl (by decide) ?_
      refine Go.iload B Xv1 at_180 (pc' := 182) rfl rfl ?_
      refine Go.ifF B Xv1 at_182 (pc' := 185) rfl (by decide) ?_
      refine Go.ldcS B Xv1 ev1 Vc 20 (vs := [.int 118, .int 97, .int 108, .int 117, .int 101]) (tw hw 6 rfl) (by decide) (by decide +kernel) nl at_185 (pc' := 187) rfl (by decide +kernel) nb nb nb ?_
      intro aq Tq hq bq Bq Xq eq Eq Vq Exq Fq Gq Aq Sq Nq
      have Oq := Os1.ext Eq
      have Aq2 := As1.ext Eq
      refine Go.newO Bq Xq eq (tw hw 14 rfl) (tw hw 8 rfl) (tw hw 7 rfl) at_187 (pc' := 190) rfl nb nb ?_
      intro Ta ha x ga Xa ea Ea Aa Da
      have V0 : Fld Z ha x "java/lang/String" "value" "[B" .null := Da (Or.inr (tw hw 10 rfl)) (ty := .array .byte) (by decide)
      have C0 : Fld Z ha x "java/lang/String" "coder" "B" (.int 0) := Da (Or.inr (tw hw 11 rfl)) (ty := .byte) (by decide)
      have nx : n0 ≤ x := by rw [ga, ← Oq.1]; exact Oq.2.1
      have Oa := Oq.ext Ea
      have Ab := Aq2.ext Ea
      have Ka := (Keep.refl hq []).ext Ea
      refine Go.dup Bq Xa at_190 (pc' := 191) rfl rfl ?_
      refine Go.aload Bq Xa at_191 (pc' := 193) rfl rfl rfl ?_
      have hr : ∀ y ∈ ([c0, c1] : List Int32), Rc y := (by intro y hy; simp only [List.mem_cons, List.not_mem_nil, or_false] at hy; rcases hy with rfl | rfl; exact r0; exact r1)
      have hval : Val [c0, c1] := val2 o0 o1
      refine Go.callI Bq Xa ea (y := ⟨"java/lang/String", "<init>", "([C)V"⟩) rfl (Ct.back (W := 2) (ct_init1 l Z a0 hw x b [c0, c1] .null (.int 0) ha n0 hS Oa nx Aa V0 C0 Ab nb nb hr) Bq.hZ (tw hw 17 rfl) (tw hw 7 rfl) nb nb) (tw hw 15 rfl) (tw hw 16 rfl) (tw hw 17 rfl) (by decide) pd_18 at_193 (pc' := 196) rfl rfl (rest := [_, _]) rfl rfl nb nb nb ?_
      intro vf Tf Lf Xf Qf
      obtain ⟨rfl, Nf, Kf, Df⟩ := Qf
      dsimp only [Option.toList, List.nil_append, List.cons_append]
      have K : Keep hq Tf.heap [] := Ka.trans Kf (fun y hy => Or.inr (by simp at hy; subst hy; exact Nat.le_of_eq ga.symm))
      have Of := Oq.keep K all0
      have Vf := Vq.keep K all0
      refine Go.callS Bq Xf rfl (y := ⟨"com/example/patient_outbox/patientoutbox/db/Storable", "text", "(Ljava/lang/String;Ljava/lang/String;)V"⟩) (Ct.back (W := 0) (ct_text l Z a0 hw aq x [c0, c1] Tf.heap n0 hS Of hF Df nb hr hval) Bq.hZ (tw hw 31 rfl) (tw hw 30 rfl) nb nb) (tw hw 28 rfl) (tw hw 29 rfl) (tw hw 30 rfl) (tw hw 31 rfl) (by decide) pd_19 at_196 (pc' := 199) rfl rfl (rest := []) rfl rfl nb nb nb ?_
      intro vg Tg Lg Xg Qg
      obtain ⟨rfl, Ng, eg⟩ := Qg
      dsimp only [Option.toList, List.nil_append, List.cons_append]
      refine Go.iconst Bq Xg 1 at_199 (pc' := 200) rfl rfl ?_
      exact Go.zretW Bq Xg eg Vf at_200 rfl nb nb ⟨rfl, (Fr.app (Fr.app (Fr.app (Fr.app Ns1 Nv0) Nv1) Nf) Ng)⟩

set_option maxRecDepth 65536 in
set_option maxHeartbeats 40000000 in
theorem own_len3 {p : Program} {l : Launch} {e : Env} {s : State} {m : MethodId} {args : Array Value} {below : List Frame} {meth : Method} {c : Code} {Z : State} {a0 : Array Value} {nm : String} {n0 : Nat} {h : Heap} {vm0 : Vm} {T : State} {locs : List Loc} (hw : ∀ d ∈ tables_1, d.before a0 Z = true) (hEL : EW Z a0 consts_1) (wS : ∀ d ∈ Bundle.stringAtoms, d.before a0 Z = true) (hS : Stz Z) (hF : Sfm Z) (B : Ctx p Z (s.setVm vm0) m meth c x.cls nm code maxLocals ret) (X : Stand p l e room_1 (s.setVm vm0) m args below meth c T locs 0 0) (eT : T.heap = h) (V : Wx Z a0 consts_1 s vm0 h) (O : Old Z n0 h) (N : Fr n0 locs)
    {p0 p1 p2 p3 c0 c1 c2 : Int32} (r0 : Rc c0) (r1 : Rc c1) (r2 : Rc c2) :
    Go p e below (EndW s 24 2176 Z consts_1 (fun v h' L => v = some (.int 1) ∧ Fr n0 L)) (T.setTop (fr m 23 [.val (.int p0), .val (.int p1), .val (.int p2), .val (.int p3), .val (.int 3), .val (.int c0), .val (.int c1), .val (.int c2), .unset, .unset] [])) := by
  refine Go.iload B X at_23 (pc' := 25) rfl rfl ?_
  refine Go.newP B X eT 3 (tw hw 5 rfl) at_25 (pc' := 27) rfl rfl nb nb nb ?_
  intro Tn hn b gn Xn en En An'
  have An : Av Z hn b .char (([0, 0, 0] : List Int32).map Value.int) := An'
  have nb0 : n0 ≤ b := by rw [gn, ← O.1]; exact O.2.1
  have hb0 : h.size ≤ b := by rw [gn]; exact Nat.le_refl _
  have On := O.ext En
  have Kn := (Keep.refl h []).ext En
  have Nn := N
  refine Go.astore B Xn at_27 (pc' := 29) rfl rfl rfl rfl ?_
  dsimp only [put1]
  refine Go.iload B Xn at_29 (pc' := 31) rfl rfl ?_
  refine Go.ifF B Xn at_31 (pc' := 34) rfl (by decide) ?_
  refine Go.aload B Xn at_34 (pc' := 36) rfl rfl rfl ?_
  refine Go.iconst B Xn 0 at_36 (pc' := 37) rfl rfl ?_
  refine Go.iload B Xn at_37 (pc' := 39) rfl rfl ?_
  refine Go.castore B Xn en An 0 at_39 (pc' := 40) rfl rfl nl ?_
  intro Ts0 hs0 Ls0 Fs0 Xs0 es0 Ws0 As0'
  rw [nar_ch r0] at As0'
  have As0 : Av Z hs0 b .char (([c0, 0, 0] : List Int32).map Value.int) := As0'
  have Os0 := On.wr Ws0 nb0
  have Ks0 := Kn.wr Ws0 (Or.inr hb0)
  have Ns0 := Fr.app Nn (GoKit.Fr.low Fs0 nb0)
  refine Go.iload B Xs0 at_40 (pc' := 42) rfl rfl ?_
  refine Go.iconst B Xs0 1 at_42 (pc' := 43) rfl rfl ?_
  refine Go.icF B Xs0 at_43 (pc' := 46) rfl (by decide) ?_
  refine Go.aload B Xs0 at_46 (pc' := 48) rfl rfl rfl ?_
  refine Go.iconst B Xs0 1 at_48 (pc' := 49) rfl rfl ?_
  refine Go.iload B Xs0 at_49 (pc' := 51) rfl rfl ?_
  refine Go.castore B Xs0 es0 As0 1 at_51 (pc' := 52) rfl rfl nl ?_
  intro Ts1 hs1 Ls1 Fs1 Xs1 es1 Ws1 As1'
  rw [nar_ch r1] at As1'
  have As1 : Av Z hs1 b .char (([c0, c1, 0] : List Int32).map Value.int) := As1'
  have Os1 := Os0.wr Ws1 nb0
  have Ks1 := Ks0.wr Ws1 (Or.inr hb0)
  have Ns1 := Fr.app Ns0 (GoKit.Fr.low Fs1 nb0)
  refine Go.iload B Xs1 at_52 (pc' := 54) rfl rfl ?_
  refine Go.iconst B Xs1 2 at_54 (pc' := 55) rfl rfl ?_
  refine Go.icF B Xs1 at_55 (pc' := 58) rfl (by decide) ?_
  refine Go.aload B Xs1 at_58 (pc' := 60) rfl rfl rfl ?_
  refine Go.iconst B Xs1 2 at_60 (pc' := 61) rfl rfl ?_
  refine Go.iload B Xs1 at_61 (pc' := 63) rfl rfl ?_
  refine Go.castore B Xs1 es1 As1 2 at_63 (pc' := 64) rfl rfl nl ?_
  intro Ts2 hs2 Ls2 Fs2 Xs2 es2 Ws2 As2'
  rw [nar_ch r2] at As2'
  have As2 : Av Z hs2 b .char (([c0, c1, c2] : List Int32).map Value.int) := As2'
  have Os2 := Os1.wr Ws2 nb0
  have Ks2 := Ks1.wr Ws2 (Or.inr hb0)
  have Ns2 := Fr.app Ns1 (GoKit.Fr.low Fs2 nb0)
  have Vc := V.keep Ks2 all0
  refine Go.iconst B Xs2 1 at_64 (pc' := 65) rfl rfl ?_
  refine Go.istore B Xs2 at_65 (pc' := 67) rfl rfl rfl ?_
  dsimp only [put1]
  refine Go.iload B Xs2 at_67 (pc' := 69) rfl rfl ?_
  refine Go.ifF B Xs2 at_69 (pc' := 72) rfl (by decide) ?_
  refine Go.iload B Xs2 at_72 (pc' := 74) rfl rfl ?_
  refine Go.ifF B Xs2 at_74 (pc' := 77) rfl (by decide) ?_
  refine Go.iload B Xs2 at_77 (pc' := 79) rfl rfl ?_
  refine Go.iconst B Xs2 0 at_79 (pc' := 80) rfl rfl ?_
  refine Go.iconst B Xs2 0 at_80 (pc' := 81) rfl rfl ?_
  refine Go.iload B Xs2 at_81 (pc' := 83) rfl rfl ?_
  refine Go.iconst B Xs2 1 at_83 (pc' := 84) rfl rfl ?_
  refine Go.icF B Xs2 at_84 (pc' := 87) rfl (by decide) ?_
  refine Go.iconst B Xs2 1 at_87 (pc' := 88) rfl rfl ?_
  refine Go.goto B Xs2 at_88 (by decide) (pc' := 92) rfl ?_
  refine Go.iload B Xs2 at_92 (pc' := 94) rfl rfl ?_
  refine Go.callS B Xs2 es2 (y := ⟨"com/example/patient_outbox/patientoutbox/db/StorableTextPinLaw", "ok", "(CZCZC)Z"⟩) (Ct.back (W := 0) (ct_ok l Z a0 hw c0 0 0 1 c1 hs2 n0) B.hZ (tw hw 45 rfl) (tw hw 2 rfl) nb nb) (tw hw 43 rfl) (tw hw 44 rfl) (tw hw 2 rfl) (tw hw 45 rfl) (by decide) pd_20 at_94 (pc' := 97) rfl rfl (rest := []) rfl rfl nb nb nb ?_
  intro vv0 Tv0 Lv0 Xv0 Qv0
  obtain ⟨rfl, Nv0, ev0⟩ := Qv0
  dsimp only [Option.toList, List.nil_append, List.cons_append]
  rcases ok01 c0 0 0 1 c1 with o0 | o0
  · rw [o0]
    refine Go.ifT B Xv0 at_97 (by decide) (pc' := 104) rfl rfl ?_
    refine Go.iconst B Xv0 0 at_104 (pc' := 105) rfl rfl ?_
    refine Go.istore B Xv0 at_105 (pc' := 107) rfl rfl rfl ?_
    dsimp only [put1]
    refine Go.iload B Xv0 at_107 (pc' := 109) rfl rfl ?_
    refine Go.iconst B Xv0 1 at_109 (pc' := 110) rfl rfl ?_
    refine Go.icF B Xv0 at_110 (pc' := 113) rfl (by decide) ?_
    refine Go.iload B Xv0 at_113 (pc' := 115) rfl rfl ?_
    refine Go.ifT B Xv0 at_115 (by decide) (pc' := 146) rfl rfl ?_
    refine Go.iconst B Xv0 0 at_146 (pc' := 147) rfl rfl ?_
    refine Go.istore B Xv0 at_147 (pc' := 149) rfl rfl rfl ?_
    dsimp only [put1]
    refine Go.iload B Xv0 at_149 (pc' := 151) rfl rfl ?_
    refine Go.iconst B Xv0 2 at_151 (pc' := 152) rfl rfl ?_
    refine Go.icF B Xv0 at_152 (pc' := 155) rfl (by decide) ?_
    refine Go.iload B Xv0 at_155 (pc' := 157) rfl rfl ?_
    refine Go.ifT B Xv0 at_157 (by decide) (pc' := 177) rfl rfl ?_
    refine Go.iconst B Xv0 0 at_177 (pc' := 178) rfl rfl ?_
    refine Go.istore B Xv0 at_178 (pc' := 180) rfl rfl rfl ?_
    dsimp only [put1]
    refine Go.iload B Xv0 at_180 (pc' := 182) rfl rfl ?_
    refine Go.ifT B Xv0 at_182 (by decide) (pc' := 199) rfl rfl ?_
    refine Go.iconst B Xv0 1 at_199 (pc' := 200) rfl rfl ?_
    exact Go.zretW B Xv0 ev0 Vc at_200 rfl nb nb ⟨rfl, (Fr.app Ns2 Nv0)⟩
  · rw [o0]
    refine Go.ifF B Xv0 at_97 (pc' := 100) rfl (by decide) ?_
    refine Go.iconst B Xv0 1 at_100 (pc' := 101) rfl rfl ?_
    refine Go.goto B Xv0 at_101 (by decide) (pc' := 105) rfl ?_
    refine Go.istore B Xv0 at_105 (pc' := 107) rfl rfl rfl ?_
    dsimp only [put1]
    refine Go.iload B Xv0 at_107 (pc' := 109) rfl rfl ?_
    refine Go.iconst B Xv0 1 at_109 (pc' := 110) rfl rfl ?_
    refine Go.icF B Xv0 at_110 (pc' := 113) rfl (by decide) ?_
    refine Go.iload B Xv0 at_113 (pc' := 115) rfl rfl ?_
    refine Go.ifF B Xv0 at_115 (pc' := 118) rfl (by decide) ?_
    refine Go.iload B Xv0 at_118 (pc' := 120) rfl rfl ?_
    refine Go.iconst B Xv0 1 at_120 (pc' := 121) rfl rfl ?_
    refine Go.iload B Xv0 at_121 (pc' := 123) rfl rfl ?_
    refine Go.iload B Xv0 at_123 (pc' := 125) rfl rfl ?_
    refine Go.iconst B Xv0 2 at_125 (pc' := 126) rfl rfl ?_
    refine Go.icF B Xv0 at_126 (pc' := 129) rfl (by decide) ?_
    refine Go.iconst B Xv0 1 at_129 (pc' := 130) rfl rfl ?_
    refine Go.goto B Xv0 at_130 (by decide) (pc' := 134) rfl ?_
    refine Go.iload B Xv0 at_134 (pc' := 136) rfl rfl ?_
    refine Go.callS B Xv0 ev0 (y := ⟨"com/example/patient_outbox/patientoutbox/db/StorableTextPinLaw", "ok", "(CZCZC)Z"⟩) (Ct.back (W := 0) (ct_ok l Z a0 hw c1 1 c0 1 c2 hs2 n0) B.hZ (tw hw 45 rfl) (tw hw 2 rfl) nb nb) (tw hw 43 rfl) (tw hw 44 rfl) (tw hw 2 rfl) (tw hw 45 rfl) (by decide) pd_20 at_136 (pc' := 139) rfl rfl (rest := []) rfl rfl nb nb nb ?_
    intro vv1 Tv1 Lv1 Xv1 Qv1
    obtain ⟨rfl, Nv1, ev1⟩ := Qv1
    dsimp only [Option.toList, List.nil_append, List.cons_append]
    rcases ok01 c1 1 c0 1 c2 with o1 | o1
    · rw [o1]
      refine Go.ifT B Xv1 at_139 (by decide) (pc' := 146) rfl rfl ?_
      refine Go.iconst B Xv1 0 at_146 (pc' := 147) rfl rfl ?_
      refine Go.istore B Xv1 at_147 (pc' := 149) rfl rfl rfl ?_
      dsimp only [put1]
      refine Go.iload B Xv1 at_149 (pc' := 151) rfl rfl ?_
      refine Go.iconst B Xv1 2 at_151 (pc' := 152) rfl rfl ?_
      refine Go.icF B Xv1 at_152 (pc' := 155) rfl (by decide) ?_
      refine Go.iload B Xv1 at_155 (pc' := 157) rfl rfl ?_
      refine Go.ifT B Xv1 at_157 (by decide) (pc' := 177) rfl rfl ?_
      refine Go.iconst B Xv1 0 at_177 (pc' := 178) rfl rfl ?_
      refine Go.istore B Xv1 at_178 (pc' := 180) rfl rfl rfl ?_
      dsimp only [put1]
      refine Go.iload B Xv1 at_180 (pc' := 182) rfl rfl ?_
      refine Go.ifT B Xv1 at_182 (by decide) (pc' := 199) rfl rfl ?_
      refine Go.iconst B Xv1 1 at_199 (pc' := 200) rfl rfl ?_
      exact Go.zretW B Xv1 ev1 Vc at_200 rfl nb nb ⟨rfl, (Fr.app (Fr.app Ns2 Nv0) Nv1)⟩
    · rw [o1]
      refine Go.ifF B Xv1 at_139 (pc' := 142) rfl (by decide) ?_
      refine Go.iconst B Xv1 1 at_142 (pc' := 143) rfl rfl ?_
      refine Go.goto B Xv1 at_143 (by decide) (pc' := 147) rfl ?_
      refine Go.istore B Xv1 at_147 (pc' := 149) rfl rfl rfl ?_
      dsimp only [put1]
      refine Go.iload B Xv1 at_149 (pc' := 151) rfl rfl ?_
      refine Go.iconst B Xv1 2 at_151 (pc' := 152) rfl rfl ?_
      refine Go.icF B Xv1 at_152 (pc' := 155) rfl (by decide) ?_
      refine Go.iload B Xv1 at_155 (pc' := 157) rfl rfl ?_
      refine Go.ifF B Xv1 at_157 (pc' := 160) rfl (by decide) ?_
      refine Go.iload B Xv1 at_160 (pc' := 162) rfl rfl ?_
      refine Go.iconst B Xv1 1 at_162 (pc' := 163) rfl rfl ?_
      refine Go.iload B Xv1 at_163 (pc' := 165) rfl rfl ?_
      refine Go.iconst B Xv1 0 at_165 (pc' := 166) rfl rfl ?_
      refine Go.iconst B Xv1 0 at_166 (pc' := 167) rfl rfl ?_
      refine Go.callS B Xv1 ev1 (y := ⟨"com/example/patient_outbox/patientoutbox/db/StorableTextPinLaw", "ok", "(CZCZC)Z"⟩) (Ct.back (W := 0) (ct_ok l Z a0 hw c2 1 c1 0 0 hs2 n0) B.hZ (tw hw 45 rfl) (tw hw 2 rfl) nb nb) (tw hw 43 rfl) (tw hw 44 rfl) (tw hw 2 rfl) (tw hw 45 rfl) (by decide) pd_20 at_167 (pc' := 170) rfl rfl (rest := []) rfl rfl nb nb nb ?_
      intro vv2 Tv2 Lv2 Xv2 Qv2
      obtain ⟨rfl, Nv2, ev2⟩ := Qv2
      dsimp only [Option.toList, List.nil_append, List.cons_append]
      rcases ok01 c2 1 c1 0 0 with o2 | o2
      · rw [o2]
        refine Go.ifT B Xv2 at_170 (by decide) (pc' := 177) rfl rfl ?_
        refine Go.iconst B Xv2 0 at_177 (pc' := 178) rfl rfl ?_
        refine Go.istore B Xv2 at_178 (pc' := 180) rfl rfl rfl ?_
        dsimp only [put1]
        refine Go.iload B Xv2 at_180 (pc' := 182) rfl rfl ?_
        refine Go.ifT B Xv2 at_182 (by decide) (pc' := 199) rfl rfl ?_
        refine Go.iconst B Xv2 1 at_199 (pc' := 200) rfl rfl ?_
        exact Go.zretW B Xv2 ev2 Vc at_200 rfl nb nb ⟨rfl, (Fr.app (Fr.app (Fr.app Ns2 Nv0) Nv1) Nv2)⟩
      · rw [o2]
        refine Go.ifF B Xv2 at_170 (pc' := 173) rfl (by decide) ?_
        refine Go.iconst B Xv2 1 at_173 (pc' := 174) rfl rfl ?_
        refine Go.goto B Xv2 at_174 (by decide) (pc' := 178) rfl ?_
        refine Go.istore B Xv2 at_178 (pc' := 180) rfl rfl rfl ?_
        dsimp only [put1]
        refine Go.iload B Xv2 at_180 (pc' := 182) rfl rfl ?_
        refine Go.ifF B Xv2 at_182 (pc' := 185) rfl (by decide) ?_
        refine Go.ldcS B Xv2 ev2 Vc 20 (vs := [.int 118, .int 97, .int 108, .int 117, .int 101]) (tw hw 6 rfl) (by decide) (by decide +kernel) nl at_185 (pc' := 187) rfl (by decide +kernel) nb nb nb ?_
        intro aq Tq hq bq Bq Xq eq Eq Vq Exq Fq Gq Aq Sq Nq
        have Oq := Os2.ext Eq
        have Aq2 := As2.ext Eq
        refine Go.newO Bq Xq eq (tw hw 14 rfl) (tw hw 8 rfl) (tw hw 7 rfl) at_187 (pc' := 190) rfl nb nb ?_
        intro Ta ha x ga Xa ea Ea Aa Da
        have V0 : Fld Z ha x "java/lang/String" "value" "[B" .null := Da (Or.inr (tw hw 10 rfl)) (ty := .array .byte) (by decide)
        have C0 : Fld Z ha x "java/lang/String" "coder" "B" (.int 0) := Da (Or.inr (tw hw 11 rfl)) (ty := .byte) (by decide)
        have nx : n0 ≤ x := by rw [ga, ← Oq.1]; exact Oq.2.1
        have Oa := Oq.ext Ea
        have Ab := Aq2.ext Ea
        have Ka := (Keep.refl hq []).ext Ea
        refine Go.dup Bq Xa at_190 (pc' := 191) rfl rfl ?_
        refine Go.aload Bq Xa at_191 (pc' := 193) rfl rfl rfl ?_
        have hr : ∀ y ∈ ([c0, c1, c2] : List Int32), Rc y := (by intro y hy; simp only [List.mem_cons, List.not_mem_nil, or_false] at hy; rcases hy with rfl | rfl | rfl; exact r0; exact r1; exact r2)
        have hval : Val [c0, c1, c2] := val3 o0 o1 o2
        refine Go.callI Bq Xa ea (y := ⟨"java/lang/String", "<init>", "([C)V"⟩) rfl (Ct.back (W := 2) (ct_init1 l Z a0 hw x b [c0, c1, c2] .null (.int 0) ha n0 hS Oa nx Aa V0 C0 Ab nb nb hr) Bq.hZ (tw hw 17 rfl) (tw hw 7 rfl) nb nb) (tw hw 15 rfl) (tw hw 16 rfl) (tw hw 17 rfl) (by decide) pd_18 at_193 (pc' := 196) rfl rfl (rest := [_, _]) rfl rfl nb nb nb ?_
        intro vf Tf Lf Xf Qf
        obtain ⟨rfl, Nf, Kf, Df⟩ := Qf
        dsimp only [Option.toList, List.nil_append, List.cons_append]
        have K : Keep hq Tf.heap [] := Ka.trans Kf (fun y hy => Or.inr (by simp at hy; subst hy; exact Nat.le_of_eq ga.symm))
        have Of := Oq.keep K all0
        have Vf := Vq.keep K all0
        refine Go.callS Bq Xf rfl (y := ⟨"com/example/patient_outbox/patientoutbox/db/Storable", "text", "(Ljava/lang/String;Ljava/lang/String;)V"⟩) (Ct.back (W := 0) (ct_text l Z a0 hw aq x [c0, c1, c2] Tf.heap n0 hS Of hF Df nb hr hval) Bq.hZ (tw hw 31 rfl) (tw hw 30 rfl) nb nb) (tw hw 28 rfl) (tw hw 29 rfl) (tw hw 30 rfl) (tw hw 31 rfl) (by decide) pd_19 at_196 (pc' := 199) rfl rfl (rest := []) rfl rfl nb nb nb ?_
        intro vg Tg Lg Xg Qg
        obtain ⟨rfl, Ng, eg⟩ := Qg
        dsimp only [Option.toList, List.nil_append, List.cons_append]
        refine Go.iconst Bq Xg 1 at_199 (pc' := 200) rfl rfl ?_
        exact Go.zretW Bq Xg eg Vf at_200 rfl nb nb ⟨rfl, (Fr.app (Fr.app (Fr.app (Fr.app (Fr.app Ns2 Nv0) Nv1) Nv2) Nf) Ng)⟩

set_option maxRecDepth 65536 in
set_option maxHeartbeats 40000000 in
theorem ctL (l : Launch) (Z : State) (a0 : Array Value) (hw : ∀ d ∈ tables_1, d.before a0 Z = true) (p0 p1 p2 p3 : Int32) (h : Heap) (n0 : Nat) (hEL : EW Z a0 consts_1) (wS : ∀ d ∈ Bundle.stringAtoms, d.before a0 Z = true) (hS : Stz Z) (hF : Sfm Z) (O : Old Z n0 h) :
    CtW l Z consts_1 x code maxLocals ret tables_1 room_1 24 2176 [(.int p0), (.int p1), (.int p2), (.int p3)] h (fun v h' L => v = some (.int 1) ∧ Fr n0 L) := by
  refine CtW.mk (L0 := [.val (.int p0), .val (.int p1), .val (.int p2), .val (.int p3), .unset, .unset, .unset, .unset, .unset, .unset]) hEL wS (plainFor_of_name pn_3) (fun m => by first | (simp [entryFrame, mkF, argsToLocals, Value.category, maxLocals]; done) | rfl) ?_
  intro p e s m below meth c s₁ B X0 e0 Wv0
  refine Go.iloadN B X0 at_0 (pc' := 1) rfl rfl ?_
  refine Go.iconst B X0 3 at_1 (pc' := 2) rfl rfl ?_
  refine Go.iand B X0 at_2 (pc' := 3) rfl ?_
  refine Go.istore B X0 at_3 (pc' := 5) rfl rfl rfl ?_
  dsimp only [put1]
  refine Go.iloadN B X0 at_5 (pc' := 6) rfl rfl ?_
  refine Go.callS B X0 e0 (y := ⟨"com/example/patient_outbox/patientoutbox/db/StorableTextPinLaw", "draw", "(I)C"⟩) (Ct.back (W := 0) (ct_draw l Z a0 hw p1 h n0) B.hZ (tw hw 3 rfl) (tw hw 2 rfl) nb nb) (tw hw 0 rfl) (tw hw 1 rfl) (tw hw 2 rfl) (tw hw 3 rfl) (by decide) pd_17 at_6 (pc' := 9) rfl rfl (rest := []) rfl rfl nb nb nb ?_
  intro vi Ti Li Xi Qi
  obtain ⟨c0, rfl, r0, Ni, ei⟩ := Qi
  dsimp only [Option.toList, List.nil_append, List.cons_append]
  refine Go.istore B Xi at_9 (pc' := 11) rfl rfl rfl ?_
  dsimp only [put1]
  refine Go.iloadN B Xi at_11 (pc' := 12) rfl rfl ?_
  refine Go.callS B Xi ei (y := ⟨"com/example/patient_outbox/patientoutbox/db/StorableTextPinLaw", "draw", "(I)C"⟩) (Ct.back (W := 0) (ct_draw l Z a0 hw p2 h n0) B.hZ (tw hw 3 rfl) (tw hw 2 rfl) nb nb) (tw hw 0 rfl) (tw hw 1 rfl) (tw hw 2 rfl) (tw hw 3 rfl) (by decide) pd_17 at_12 (pc' := 15) rfl rfl (rest := []) rfl rfl nb nb nb ?_
  intro vj Tj Lj Xj Qj
  obtain ⟨c1, rfl, r1, Nj, ej⟩ := Qj
  dsimp only [Option.toList, List.nil_append, List.cons_append]
  refine Go.istore B Xj at_15 (pc' := 17) rfl rfl rfl ?_
  dsimp only [put1]
  refine Go.iloadN B Xj at_17 (pc' := 18) rfl rfl ?_
  refine Go.callS B Xj ej (y := ⟨"com/example/patient_outbox/patientoutbox/db/StorableTextPinLaw", "draw", "(I)C"⟩) (Ct.back (W := 0) (ct_draw l Z a0 hw p3 h n0) B.hZ (tw hw 3 rfl) (tw hw 2 rfl) nb nb) (tw hw 0 rfl) (tw hw 1 rfl) (tw hw 2 rfl) (tw hw 3 rfl) (by decide) pd_17 at_18 (pc' := 21) rfl rfl (rest := []) rfl rfl nb nb nb ?_
  intro vk Tk Lk Xk Qk
  obtain ⟨c2, rfl, r2, Nk, ek⟩ := Qk
  dsimp only [Option.toList, List.nil_append, List.cons_append]
  refine Go.istore B Xk at_21 (pc' := 23) rfl rfl rfl ?_
  dsimp only [put1]
  rcases own_n p0 with hn | hn | hn | hn
  · rw [hn]
    exact own_len0 hw hEL wS hS hF B Xk ek Wv0 O (Fr.app (Fr.app (Fr.app (Fr.nil n0) Ni) Nj) Nk) r0 r1 r2
  · rw [hn]
    exact own_len1 hw hEL wS hS hF B Xk ek Wv0 O (Fr.app (Fr.app (Fr.app (Fr.nil n0) Ni) Nj) Nk) r0 r1 r2
  · rw [hn]
    exact own_len2 hw hEL wS hS hF B Xk ek Wv0 O (Fr.app (Fr.app (Fr.app (Fr.nil n0) Ni) Nj) Nk) r0 r1 r2
  · rw [hn]
    exact own_len3 hw hEL wS hS hF B Xk ek Wv0 O (Fr.app (Fr.app (Fr.app (Fr.nil n0) Ni) Nj) Nk) r0 r1 r2
set_option maxRecDepth 65536 in
set_option maxHeartbeats 40000000 in
theorem comes_1 {Post : Tables → Env → Array Value → State → Outcome → State → Prop} (hpost : ∀ tb e args s v u, (limb_1_1.after args s (.returned v) u = true ∧ limb_1_2.after args s (.returned v) u = true ∧ True) → ReturnedEndW s (.returned v) u (Jvm.fieldLocs frame_1_writes args s ++ Jvm.arrayLocs frame_1_arrays args s ++ Jvm.staticLocs frame_1_statics s) 24 2176 → Post tb e args s (.returned v) u) :
    ArmFor flags0 classFile x code maxLocals ret World_1 tables_1 room_1 Calls_1 rest_1 Pre_1 Post := by
  intro l hfl _ _ p e ha hc hk s m args below hf hA hF happ hP
  obtain ⟨hcalls, hrest, hpre⟩ := hP
  obtain ⟨-, -, -, hnamed, -, -, -, hat⟩ := (Spec.applies_iff hf).mp happ
  obtain ⟨hg, hn⟩ := and_e (Cond.before_iff.mp (show (Jvm.Cond.and given_1 narrow_1).before args s = true from hpre))
  obtain ⟨g0, k0⟩ := and_e hg
  obtain ⟨g1, k1⟩ := and_e k0
  obtain ⟨g2, k2⟩ := and_e k1
  obtain ⟨g3, k3⟩ := and_e k2
  obtain ⟨w0, w1, w2, w3, rfl⟩ : ∃ w0 w1 w2 w3 : Value, args = #[w0, w1, w2, w3] := by
    have hs : args.size = 4 := by simpa [Cond.value, given_1] using g0
    obtain ⟨L⟩ := args
    match L, hs with
    | [w0, w1, w2, w3], _ => exact ⟨w0, w1, w2, w3, rfl⟩
  have hw := fun d (hd : d ∈ tables_1) => atoms_spec (ws := Jvm.Cond.code x code maxLocals ret :: tables_1) hat d (List.mem_cons_of_mem _ hd)
  have hfit : Fit s := fun {y c} hc i hi => by
    obtain ⟨ha, rfl⟩ := Array.getElem?_eq_some_iff.mp hc
    have q := List.all_eq_true.mp ((Array.all_eq_true_iff_forall_mem.mp hF) _ (Array.getElem_mem ha)) i (List.mem_range.mpr hi)
    simpa [Array.getElem?_eq_getElem hi] using q
  obtain ⟨i0, t0⟩ := is_v g1
  obtain rfl : w0 = (.int i0) := Option.some.inj t0
  obtain ⟨i1, t1⟩ := is_v g2
  obtain rfl : w1 = (.int i1) := Option.some.inj t1
  obtain ⟨i2, t2⟩ := is_v g3
  obtain rfl : w2 = (.int i2) := Option.some.inj t2
  obtain ⟨i3, t3⟩ := is_v k3
  obtain rfl : w3 = (.int i3) := Option.some.inj t3
  obtain ⟨hsets, hown0⟩ := atoms_of _ (rest_1_c_eq ▸ (show rest_1_c.before _ s = true from hrest))
  have n_cs := not_v (Cond.before_iff.mp (hsets _ (List.mem_of_getElem? (i := 2) rfl)))
  obtain ⟨i_cs, t_cs⟩ := is_v (Cond.before_iff.mp (hsets _ (List.mem_of_getElem? (i := 1) rfl)))
  have S_cs : Sta s s.heap "java/lang/String" "COMPACT_STRINGS" "Z" (.int i_cs) := Sta.start t_cs (Or.inl (hsets _ (List.mem_of_getElem? (i := 0) rfl)))
  have c_cs : ¬ (i_cs = (0 : Int32)) := gotF (Cond.eq_ints t_cs (Term.int_eval (0))) n_cs
  obtain ⟨v_sf, t_sf, r_sf⟩ := isR_v (Cond.before_iff.mp (hsets _ (List.mem_of_getElem? (i := 8) rfl)))
  have S_sf : Sta s s.heap "jdk/internal/util/Preconditions" "SIOOBE_FORMATTER" "Ljava/util/function/BiFunction;" v_sf := Sta.start t_sf (Or.inl (hsets _ (List.mem_of_getElem? (i := 7) rfl)))
  have S_ad : Sta s s.heap "java/lang/StringUTF16" "$assertionsDisabled" "Z" (.int 1) := Sta.start (eqv_i (Term.int_eval 1) (Cond.before_iff.mp (hsets _ (List.mem_of_getElem? (i := 12) rfl)))) (Or.inl (hsets _ (List.mem_of_getElem? (i := 11) rfl)))
  have S_hi : Sta s s.heap "java/lang/StringUTF16" "HI_BYTE_SHIFT" "I" (.int 0) := Sta.start (eqv_i (Term.int_eval 0) (Cond.before_iff.mp (hsets _ (List.mem_of_getElem? (i := 15) rfl)))) (Or.inl (hsets _ (List.mem_of_getElem? (i := 14) rfl)))
  have S_lo : Sta s s.heap "java/lang/StringUTF16" "LO_BYTE_SHIFT" "I" (.int 8) := Sta.start (eqv_i (Term.int_eval 8) (Cond.before_iff.mp (hsets _ (List.mem_of_getElem? (i := 18) rfl)))) (Or.inl (hsets _ (List.mem_of_getElem? (i := 17) rfl)))
  have hStz : Stz s := ⟨⟨i_cs, S_cs, c_cs⟩, S_ad, S_hi, S_lo⟩
  have hSfm : Sfm s := ⟨v_sf, S_sf, r_sf⟩
  have hEL : EW s _ consts_1 := EW.cons (tw hw 6 rfl) (by decide +kernel) (EW.cons (tw hw 25 rfl) (by decide +kernel) (EW.nil))
  have wS : ∀ d ∈ Bundle.stringAtoms, d.before _ s = true := fun d hd => hw d ((by decide +kernel : ∀ d ∈ Bundle.stringAtoms, d ∈ tables_1) d hd)
  have hcw : Jvm.Lit.compactW.before _ s = true := hsets _ (List.mem_of_getElem? (i := 2) rfl)
  have hCH : CHv s consts_1 s.vm s.heap := CHv.start hEL (show ∀ q ∈ consts_1, Jvm.Lit.constHeld s q.1 q.2 from hcalls.1) hcw (tw hw 9 rfl) (tw hw 8 rfl)
  obtain ⟨n, o, h1, h2, h3, _, L, rfl, ⟨rfl, N⟩, -, hq⟩ := ctL l s _ hw i0 i1 i2 i3 s.heap s.heap.size hEL wS hStz hSfm (Old.start s) p e ha hc hk s m _ below hf ((Spec.applies_iff_loose hf).mp happ).1 ⟨rfl, State.Warmed39.refl s, rfl, hCH⟩ trivial
  refine ⟨n, _, h1, h2, h3, hpost _ _ _ _ _ _ ⟨Cond.after_iff.mpr rfl, Cond.after_iff.mpr (eq_i res_at (Term.int_eval (1)) rfl), trivial⟩ ⟨hq.1, hq.2.1, hq.2.2.1, (hq.2.2.2.sift fun y hy => Or.inr (N y hy)).mono (by decide) (by decide)⟩⟩
theorem main_1_1 : Claimed_1_1 := comes_1 fun _ _ _ _ _ _ h hF => ⟨h.1, hF⟩
theorem main_1_2 : Claimed_1_2 := comes_1 fun _ _ _ _ _ _ h hF => ⟨h.2.1, hF⟩
end Jvm.Pilot.@@N@@
namespace Jvm.Pilot.@@N@@
open Jvm Jvm.ClassFile Sem Op Lib Jvm.Free Jvm.Stand Jvm.Pilot.@@N@@.Jvm.D
/-! MADE BY PROGRAM (witnessworld.py) out of the Statement's table words and the real class files: 21 classes; the members and pool entries that the words name. The judged class is class 1, her method 1. -/
namespace start1
open Jvm.ClassFile
def u (s : String) : CpInfo := .utf8 (stringToUtf16 s)
/-- a pool by its gaps: so many unusable entries, then the entry; so many at the end -/
def gap : Nat → List CpInfo → List CpInfo
  | 0, r => r
  | n + 1, r => .unusable :: gap n r
def poolList (es : List (Nat × CpInfo)) (last : Nat) : List CpInfo := es.foldr (fun e r => gap e.1 (e.2 :: r)) (gap last [])
def pool (es : List (Nat × CpInfo)) (last : Nat) : Array CpInfo := ⟨poolList es last⟩
def fileOf (pool : Array CpInfo) (this : Nat) (attrs : Array Attribute := #[]) (ms : Array MethodInfo := #[]) (fl : Nat := 33) (sup : Nat := 0) (ifs : Array Nat := #[]) (fds : Array FieldInfo := #[]) : ClassFile where
  minorVersion := 0
  majorVersion := 65
  constantPool := pool
  accessFlags := fl
  thisClass := this
  superClass := sup
  interfaces := ifs
  fields := fds
  methods := ms
  attributes := attrs
def plain (name : String) (sup : Option ClassId) : Class where
  name := name
  kind := .ordinary
  loader := none
  accessFlags := 33
  super := sup
  interfaces := #[]
  cf := none
  fields := #[]
  methods := #[]
  instanceTypes := #[]
  staticTypes := #[]
  resolved := #[]
  callSites := []
  init := .initialized
  statics := none
  mirror := none

def pool0 : Array CpInfo := pool [(5, u "<init>"), (0, u "()V"), (1, .class_ 10), (1, u "java/lang/Object")] 113

def k0c0 : Code := { maxStack := 0, maxLocals := 1, code := object_method_1_code, exceptionTable := #[], attributes := #[] }
def k0m0 : Method := { name := "<init>", desc := "()V", sig := { parameters := [], returnType := none }, accessFlags := 1, code := some k0c0 }
/-- java/lang/Object -/
def k0 : Class := { plain "java/lang/Object" none with
  accessFlags := 33
  interfaces := #[]
  cf := some (fileOf pool0 8 #[] #[{ accessFlags := 1, nameIndex := 5, descriptorIndex := 6, attributes := #[] }] 33 0 #[] #[])
  fields := #[]
  methods := #[k0m0]
  instanceTypes := #[]
  staticTypes := #[]
  resolved := Array.replicate 124 none
  statics := none }

def pool1 : Array CpInfo := pool [(2, .class_ 4), (1, u "java/lang/Object"), (0, u "<init>"), (0, u "()V"), (0, .methodref 8 9), (0, .class_ 10), (0, .nameAndType 11 12), (0, u "com/example/patient_outbox/patientoutbox/db/StorableTextPinLaw"), (0, u "draw"), (0, u "(I)C"), (0, .methodref 8 14), (0, .nameAndType 15 16), (0, u "ok"), (0, u "(CZCZC)Z"), (0, .string 18), (0, u "value"), (0, .class_ 20), (0, u "java/lang/String"), (0, .methodref 19 22), (0, .nameAndType 5 23), (0, u "([C)V"), (0, .methodref 25 26), (0, .class_ 27), (0, .nameAndType 28 29), (0, u "com/example/patient_outbox/patientoutbox/db/Storable"), (0, u "text"), (0, u "(Ljava/lang/String;Ljava/lang/String;)V"), (0, .integer 55296), (0, .integer 56320), (0, .integer 65535), (0, .integer 56319), (0, .integer 57343), (0, .methodref 8 36), (0, .nameAndType 37 38), (0, u "isHigh"), (0, u "(C)Z"), (0, .methodref 8 40), (0, .nameAndType 41 38), (0, u "isLow"), (2, u "law"), (0, u "(IIII)Z")] 5

def k1m0 : Method := { name := "<init>", desc := "()V", sig := { parameters := [], returnType := none }, accessFlags := 1, code := none }
def k1c1 : Code := { maxStack := 5, maxLocals := 10, code := code, exceptionTable := #[], attributes := #[] }
def k1m1 : Method := { name := "law", desc := "(IIII)Z", sig := { parameters := [.int, .int, .int, .int], returnType := some .boolean }, accessFlags := 9, code := some k1c1 }
def k1c2 : Code := { maxStack := 3, maxLocals := 2, code := method_3_code, exceptionTable := #[], attributes := #[] }
def k1m2 : Method := { name := "draw", desc := "(I)C", sig := { parameters := [.int], returnType := some .char }, accessFlags := 10, code := some k1c2 }
def k1c3 : Code := { maxStack := 2, maxLocals := 1, code := method_4_code, exceptionTable := #[], attributes := #[] }
def k1m3 : Method := { name := "isHigh", desc := "(C)Z", sig := { parameters := [.char], returnType := some .boolean }, accessFlags := 10, code := some k1c3 }
def k1c4 : Code := { maxStack := 2, maxLocals := 1, code := method_5_code, exceptionTable := #[], attributes := #[] }
def k1m4 : Method := { name := "isLow", desc := "(C)Z", sig := { parameters := [.char], returnType := some .boolean }, accessFlags := 10, code := some k1c4 }
def k1c5 : Code := { maxStack := 1, maxLocals := 5, code := method_6_code, exceptionTable := #[], attributes := #[] }
def k1m5 : Method := { name := "ok", desc := "(CZCZC)Z", sig := { parameters := [.char, .boolean, .char, .boolean, .char], returnType := some .boolean }, accessFlags := 10, code := some k1c5 }
/-- com/example/patient_outbox/patientoutbox/db/StorableTextPinLaw -/
def k1 : Class := { plain "com/example/patient_outbox/patientoutbox/db/StorableTextPinLaw" (some 0) with
  accessFlags := 49
  interfaces := #[]
  cf := some (fileOf pool1 8 #[] #[{ accessFlags := 1, nameIndex := 5, descriptorIndex := 6, attributes := #[] }, { accessFlags := 9, nameIndex := 44, descriptorIndex := 45, attributes := #[] }, { accessFlags := 10, nameIndex := 11, descriptorIndex := 12, attributes := #[] }, { accessFlags := 10, nameIndex := 37, descriptorIndex := 38, attributes := #[] }, { accessFlags := 10, nameIndex := 41, descriptorIndex := 38, attributes := #[] }, { accessFlags := 10, nameIndex := 15, descriptorIndex := 16, attributes := #[] }] 49 2 #[] #[])
  fields := #[]
  methods := #[k1m0, k1m1, k1m2, k1m3, k1m4, k1m5]
  instanceTypes := #[]
  staticTypes := #[]
  resolved := Array.replicate 51 none
  statics := none }

def pool2 : Array CpInfo := pool [(1, .class_ 2), (0, u "java/io/Serializable"), (0, .class_ 4), (0, u "java/lang/Object")] 2

/-- java/io/Serializable -/
def k2 : Class := { plain "java/io/Serializable" (some 0) with
  accessFlags := 1537
  interfaces := #[]
  cf := some (fileOf pool2 1 #[] #[] 1537 3 #[] #[])
  fields := #[]
  methods := #[]
  instanceTypes := #[]
  staticTypes := #[]
  resolved := Array.replicate 7 none
  statics := none }

def pool3 : Array CpInfo := pool [(1, .class_ 2), (0, u "java/lang/Comparable"), (0, .class_ 4), (0, u "java/lang/Object")] 7

/-- java/lang/Comparable -/
def k3 : Class := { plain "java/lang/Comparable" (some 0) with
  accessFlags := 1537
  interfaces := #[]
  cf := some (fileOf pool3 1 #[] #[] 1537 3 #[] #[])
  fields := #[]
  methods := #[]
  instanceTypes := #[]
  staticTypes := #[]
  resolved := Array.replicate 12 none
  statics := none }

def pool4 : Array CpInfo := pool [(2, .class_ 4), (1, u "java/lang/CharSequence"), (42, .class_ 48), (0, u "java/lang/CharSequence$1CodePointIterator"), (10, .class_ 60), (0, u "java/lang/CharSequence$1CharIterator"), (5, .class_ 67), (0, u "java/lang/Object")] 63

/-- java/lang/CharSequence -/
def k4 : Class := { plain "java/lang/CharSequence" (some 0) with
  accessFlags := 1537
  interfaces := #[]
  cf := some (fileOf pool4 2 #[.nestMembers #[47, 59]] #[] 1537 66 #[] #[])
  fields := #[]
  methods := #[]
  instanceTypes := #[]
  staticTypes := #[]
  resolved := Array.replicate 131 none
  statics := none }

def pool5 : Array CpInfo := pool [(1, .class_ 2), (0, u "java/lang/constant/Constable"), (0, .class_ 4), (0, u "java/lang/Object")] 6

/-- java/lang/constant/Constable -/
def k5 : Class := { plain "java/lang/constant/Constable" (some 0) with
  accessFlags := 1537
  interfaces := #[]
  cf := some (fileOf pool5 1 #[] #[] 1537 3 #[] #[])
  fields := #[]
  methods := #[]
  instanceTypes := #[]
  staticTypes := #[]
  resolved := Array.replicate 11 none
  statics := none }

def pool6 : Array CpInfo := pool [(1, .class_ 2), (0, u "java/lang/constant/ConstantDesc"), (0, .class_ 4), (0, u "java/lang/Object")] 32

/-- java/lang/constant/ConstantDesc -/
def k6 : Class := { plain "java/lang/constant/ConstantDesc" (some 0) with
  accessFlags := 1537
  interfaces := #[]
  cf := some (fileOf pool6 1 #[] #[] 1537 3 #[] #[])
  fields := #[]
  methods := #[]
  instanceTypes := #[]
  staticTypes := #[]
  resolved := Array.replicate 37 none
  statics := none }

def pool7 : Array CpInfo := pool [(1, .methodref 2 3), (0, .class_ 4), (0, .nameAndType 5 6), (0, u "java/lang/Object"), (0, u "<init>"), (0, u "()V"), (0, .string 8), (0, u ""), (0, .fieldref 10 11), (0, .class_ 12), (0, .nameAndType 13 14), (0, u "java/lang/String"), (0, u "value"), (0, u "[B"), (0, .fieldref 10 16), (0, .nameAndType 17 18), (0, u "coder"), (0, u "B"), (2, u "hash"), (0, u "I"), (2, u "hashIsZero"), (0, u "Z"), (0, .methodref 10 28), (0, .nameAndType 5 29), (0, u "([CIILjava/lang/Void;)V"), (8, .fieldref 10 39), (0, .nameAndType 40 26), (0, u "COMPACT_STRINGS"), (1, .class_ 44), (1, u "java/lang/StringUTF16"), (0, u "compress"), (1, .methodref 42 48), (0, .nameAndType 49 50), (0, u "coderFromArrayLen"), (0, u "([BI)B"), (46, u "([BII)I"), (44, u "()Z"), (34, .methodref 42 178), (0, .nameAndType 45 179), (0, u "([CII)[B"), (154, u "()I"), (0, .methodref 10 336), (0, .nameAndType 17 337), (0, u "()B"), (53, u "(II)V"), (100, .methodref 10 493), (0, .nameAndType 494 142), (0, u "isLatin1"), (4, .methodref 10 500), (0, .nameAndType 501 391), (0, u "checkIndex"), (0, .methodref 42 503), (0, .nameAndType 504 97), (0, u "codePointAt"), (2, u "length"), (67, .class_ 576), (0, u "java/lang/CharSequence"), (22, u "CASE_INSENSITIVE_ORDER"), (0, u "Ljava/util/Comparator;"), (164, u "(I)I"), (244, u "([C)V"), (42, .fieldref 1054 1055), (0, .class_ 1056), (0, .nameAndType 1057 1058), (0, u "jdk/internal/util/Preconditions"), (0, u "SIOOBE_FORMATTER"), (0, u "Ljava/util/function/BiFunction;"), (0, .methodref 1054 1060), (0, .nameAndType 501 1061), (0, u "(IILjava/util/function/BiFunction;)I"), (39, u "serialPersistentFields"), (0, u "[Ljava/io/ObjectStreamField;"), (0, .class_ 1104), (0, u "java/lang/String$CaseInsensitiveComparator"), (1, .class_ 1107), (0, u "java/io/Serializable"), (0, .class_ 1109), (0, u "java/lang/Comparable"), (0, .class_ 1111), (0, u "java/lang/constant/Constable"), (0, .class_ 1113), (0, u "java/lang/constant/ConstantDesc"), (2, u "serialVersionUID"), (0, u "J"), (3, u "REPL"), (0, u "C"), (2, u "LATIN1"), (1, u "UTF16")] 323

def k7m0 : Method := { name := "<init>", desc := "()V", sig := { parameters := [], returnType := none }, accessFlags := 1, code := none }
def k7c1 : Code := { maxStack := 5, maxLocals := 2, code := jdk_42_method_3_code, exceptionTable := #[], attributes := #[] }
def k7m1 : Method := { name := "<init>", desc := "([C)V", sig := { parameters := [(.array .char)], returnType := none }, accessFlags := 1, code := some k7c1 }
def k7c2 : Code := { maxStack := 2, maxLocals := 1, code := jdk_42_method_54_code, exceptionTable := #[], attributes := #[] }
def k7m2 : Method := { name := "length", desc := "()I", sig := { parameters := [], returnType := some .int }, accessFlags := 1, code := some k7c2 }
def k7c3 : Code := { maxStack := 3, maxLocals := 3, code := jdk_42_method_57_code, exceptionTable := #[], attributes := #[] }
def k7m3 : Method := { name := "codePointAt", desc := "(I)I", sig := { parameters := [.int], returnType := some .int }, accessFlags := 1, code := some k7c3 }
def k7c4 : Code := { maxStack := 4, maxLocals := 6, code := jdk_42_method_149_code, exceptionTable := #[], attributes := #[] }
def k7m4 : Method := { name := "<init>", desc := "([CIILjava/lang/Void;)V", sig := { parameters := [(.array .char), .int, .int, (.object "java/lang/Void")], returnType := none }, accessFlags := 2, code := some k7c4 }
def k7c5 : Code := { maxStack := 1, maxLocals := 1, code := jdk_42_method_152_code, exceptionTable := #[], attributes := #[] }
def k7m5 : Method := { name := "coder", desc := "()B", sig := { parameters := [], returnType := some .byte }, accessFlags := 0, code := some k7c5 }
def k7c6 : Code := { maxStack := 1, maxLocals := 1, code := jdk_42_method_154_code, exceptionTable := #[], attributes := #[] }
def k7m6 : Method := { name := "isLatin1", desc := "()Z", sig := { parameters := [], returnType := some .boolean }, accessFlags := 0, code := some k7c6 }
def k7c7 : Code := { maxStack := 3, maxLocals := 2, code := jdk_42_method_155_code, exceptionTable := #[], attributes := #[] }
def k7m7 : Method := { name := "checkIndex", desc := "(II)V", sig := { parameters := [.int, .int], returnType := none }, accessFlags := 8, code := some k7c7 }
/-- java/lang/String -/
def k7 : Class := { plain "java/lang/String" (some 0) with
  accessFlags := 49
  interfaces := #[2, 3, 4, 5, 6]
  cf := some (fileOf pool7 10 #[.nestMembers #[1103]] #[{ accessFlags := 1, nameIndex := 5, descriptorIndex := 6, attributes := #[] }, { accessFlags := 1, nameIndex := 5, descriptorIndex := 1010, attributes := #[] }, { accessFlags := 1, nameIndex := 507, descriptorIndex := 334, attributes := #[] }, { accessFlags := 1, nameIndex := 504, descriptorIndex := 765, attributes := #[] }, { accessFlags := 2, nameIndex := 5, descriptorIndex := 29, attributes := #[] }, { accessFlags := 0, nameIndex := 17, descriptorIndex := 337, attributes := #[] }, { accessFlags := 0, nameIndex := 494, descriptorIndex := 142, attributes := #[] }, { accessFlags := 8, nameIndex := 501, descriptorIndex := 391, attributes := #[] }] 49 2 #[1106, 1108, 575, 1110, 1112] #[{ accessFlags := 18, nameIndex := 13, descriptorIndex := 14, attributes := #[] }, { accessFlags := 18, nameIndex := 17, descriptorIndex := 18, attributes := #[] }, { accessFlags := 2, nameIndex := 21, descriptorIndex := 22, attributes := #[] }, { accessFlags := 2, nameIndex := 25, descriptorIndex := 26, attributes := #[] }, { accessFlags := 26, nameIndex := 1116, descriptorIndex := 1117, attributes := #[] }, { accessFlags := 24, nameIndex := 40, descriptorIndex := 26, attributes := #[] }, { accessFlags := 26, nameIndex := 1101, descriptorIndex := 1102, attributes := #[] }, { accessFlags := 26, nameIndex := 1121, descriptorIndex := 1122, attributes := #[] }, { accessFlags := 25, nameIndex := 599, descriptorIndex := 600, attributes := #[] }, { accessFlags := 24, nameIndex := 1125, descriptorIndex := 18, attributes := #[] }, { accessFlags := 24, nameIndex := 1127, descriptorIndex := 18, attributes := #[] }])
  fields := #[{ name := "value", type := (.array .byte), accessFlags := 18, slot := 0, constantValue := 0 }, { name := "coder", type := .byte, accessFlags := 18, slot := 1, constantValue := 0 }, { name := "hash", type := .int, accessFlags := 2, slot := 2, constantValue := 0 }, { name := "hashIsZero", type := .boolean, accessFlags := 2, slot := 3, constantValue := 0 }, { name := "serialVersionUID", type := .long, accessFlags := 26, slot := 0, constantValue := 0 }, { name := "COMPACT_STRINGS", type := .boolean, accessFlags := 24, slot := 1, constantValue := 0 }, { name := "serialPersistentFields", type := (.array (.object "java/io/ObjectStreamField")), accessFlags := 26, slot := 2, constantValue := 0 }, { name := "REPL", type := .char, accessFlags := 26, slot := 3, constantValue := 0 }, { name := "CASE_INSENSITIVE_ORDER", type := (.object "java/util/Comparator"), accessFlags := 25, slot := 4, constantValue := 0 }, { name := "LATIN1", type := .byte, accessFlags := 24, slot := 5, constantValue := 0 }, { name := "UTF16", type := .byte, accessFlags := 24, slot := 6, constantValue := 0 }]
  methods := #[k7m0, k7m1, k7m2, k7m3, k7m4, k7m5, k7m6, k7m7]
  instanceTypes := #[(.array .byte), .byte, .int, .boolean]
  staticTypes := #[.long, .boolean, (.array (.object "java/io/ObjectStreamField")), .char, (.object "java/util/Comparator"), .byte, .byte]
  resolved := Array.replicate 1451 none
  statics := some 0 }

def pool8 : Array CpInfo := pool [(6, .class_ 8), (1, u "java/lang/Object"), (3, .class_ 14), (1, u "com/example/patient_outbox/patientoutbox/db/Storable"), (0, u "name"), (0, u "Ljava/lang/String;"), (2, u "json"), (0, .methodref 21 22), (0, .class_ 23), (0, .nameAndType 24 25), (0, u "java/lang/String"), (0, u "length"), (0, u "()I"), (0, .methodref 21 27), (0, .nameAndType 28 29), (0, u "codePointAt"), (0, u "(I)I"), (13, .class_ 44), (0, u "java/lang/Character"), (0, .integer 55296), (0, .integer 57343), (1, .methodref 43 49), (0, .nameAndType 50 29), (0, u "charCount"), (2, u "text"), (0, u "(Ljava/lang/String;Ljava/lang/String;)V"), (18, u "at"), (0, u "I"), (138, u "MAX_LEADING_EXPONENT"), (0, u "J"), (1, u "MAX_SCALE"), (0, u "MAX_EXPONENT"), (0, u "ZERO"), (0, u "HEX_DIGITS")] 32

def k8c0 : Code := { maxStack := 4, maxLocals := 4, code := prog_18_method_2_code, exceptionTable := #[], attributes := #[] }
def k8m0 : Method := { name := "text", desc := "(Ljava/lang/String;Ljava/lang/String;)V", sig := { parameters := [(.object "java/lang/String"), (.object "java/lang/String")], returnType := none }, accessFlags := 8, code := some k8c0 }
/-- com/example/patient_outbox/patientoutbox/db/Storable -/
def k8 : Class := { plain "com/example/patient_outbox/patientoutbox/db/Storable" (some 0) with
  accessFlags := 48
  interfaces := #[]
  cf := some (fileOf pool8 12 #[] #[{ accessFlags := 8, nameIndex := 53, descriptorIndex := 54, attributes := #[] }] 48 6 #[] #[{ accessFlags := 26, nameIndex := 213, descriptorIndex := 214, attributes := #[] }, { accessFlags := 26, nameIndex := 216, descriptorIndex := 214, attributes := #[] }, { accessFlags := 26, nameIndex := 217, descriptorIndex := 214, attributes := #[] }, { accessFlags := 26, nameIndex := 218, descriptorIndex := 214, attributes := #[] }, { accessFlags := 26, nameIndex := 219, descriptorIndex := 16, attributes := #[] }, { accessFlags := 18, nameIndex := 15, descriptorIndex := 16, attributes := #[] }, { accessFlags := 18, nameIndex := 19, descriptorIndex := 16, attributes := #[] }, { accessFlags := 2, nameIndex := 73, descriptorIndex := 74, attributes := #[] }])
  fields := #[{ name := "MAX_LEADING_EXPONENT", type := .long, accessFlags := 26, slot := 0, constantValue := 0 }, { name := "MAX_SCALE", type := .long, accessFlags := 26, slot := 1, constantValue := 0 }, { name := "MAX_EXPONENT", type := .long, accessFlags := 26, slot := 2, constantValue := 0 }, { name := "ZERO", type := .long, accessFlags := 26, slot := 3, constantValue := 0 }, { name := "HEX_DIGITS", type := (.object "java/lang/String"), accessFlags := 26, slot := 4, constantValue := 0 }, { name := "name", type := (.object "java/lang/String"), accessFlags := 18, slot := 0, constantValue := 0 }, { name := "json", type := (.object "java/lang/String"), accessFlags := 18, slot := 1, constantValue := 0 }, { name := "at", type := .int, accessFlags := 2, slot := 2, constantValue := 0 }]
  methods := #[k8m0]
  instanceTypes := #[(.object "java/lang/String"), (.object "java/lang/String"), .int]
  staticTypes := #[.long, .long, .long, .long, (.object "java/lang/String")]
  resolved := Array.replicate 252 none
  statics := none }

def pool9 : Array CpInfo := pool [(6, .class_ 8), (1, u "java/lang/Object"), (0, u "<init>"), (0, u "()V"), (0, .methodref 12 13), (0, .class_ 14), (0, .nameAndType 15 16), (0, u "java/lang/StringUTF16"), (0, u "newBytesLength"), (0, u "(I)I"), (3, .integer 1073741823), (23, .fieldref 12 45), (0, .nameAndType 46 47), (0, u "$assertionsDisabled"), (0, u "Z"), (11, .fieldref 12 60), (0, .nameAndType 61 62), (0, u "HI_BYTE_SHIFT"), (0, u "I"), (0, .fieldref 12 64), (0, .nameAndType 65 62), (0, u "LO_BYTE_SHIFT"), (5, .methodref 12 72), (0, .nameAndType 73 74), (0, u "getChar"), (0, u "([BI)C"), (0, .methodref 76 77), (0, .class_ 78), (0, .nameAndType 79 80), (0, u "java/lang/Character"), (0, u "isHighSurrogate"), (0, u "(C)Z"), (0, .methodref 76 82), (0, .nameAndType 83 80), (0, u "isLowSurrogate"), (0, .methodref 76 85), (0, .nameAndType 86 87), (0, u "toCodePoint"), (0, u "(CC)I"), (0, .methodref 12 89), (0, .nameAndType 90 91), (0, u "codePointAt"), (0, u "([BIIZ)I"), (15, .methodref 12 108), (0, .nameAndType 109 110), (0, u "newBytesFor"), (0, u "(I)[B"), (0, .methodref 12 112), (0, .nameAndType 113 114), (0, u "putChar"), (0, u "([BII)V"), (0, .methodref 12 116), (0, .nameAndType 117 118), (0, u "compress"), (0, u "([CI[BII)I"), (0, .methodref 12 120), (0, .nameAndType 121 122), (0, u "toBytes"), (0, u "([CII)[B"), (127, u "([BII)I"), (10, u "coderFromArrayLen"), (0, u "([BI)B"), (106, .class_ 371), (1, u "java/lang/StringUTF16$LinesSpliterator"), (58, u "MAX_LENGTH"), (196, .class_ 628), (0, u "java/lang/StringUTF16$CodePointsSpliterator"), (0, .class_ 630), (0, u "java/lang/StringUTF16$CharsSpliterator")] 4

def k9m0 : Method := { name := "<init>", desc := "()V", sig := { parameters := [], returnType := none }, accessFlags := 0, code := none }
def k9c1 : Code := { maxStack := 1, maxLocals := 1, code := jdk_52_method_2_code, exceptionTable := #[], attributes := #[] }
def k9m1 : Method := { name := "newBytesFor", desc := "(I)[B", sig := { parameters := [.int], returnType := some (.array .byte) }, accessFlags := 9, code := some k9c1 }
def k9c2 : Code := { maxStack := 4, maxLocals := 1, code := jdk_52_method_3_code, exceptionTable := #[], attributes := #[] }
def k9m2 : Method := { name := "newBytesLength", desc := "(I)I", sig := { parameters := [.int], returnType := some .int }, accessFlags := 9, code := some k9c2 }
def k9c3 : Code := { maxStack := 4, maxLocals := 3, code := jdk_52_method_4_code, exceptionTable := #[], attributes := #[] }
def k9m3 : Method := { name := "putChar", desc := "([BII)V", sig := { parameters := [(.array .byte), .int, .int], returnType := none }, accessFlags := 8, code := some k9c3 }
def k9c4 : Code := { maxStack := 3, maxLocals := 2, code := jdk_52_method_5_code, exceptionTable := #[], attributes := #[] }
def k9m4 : Method := { name := "getChar", desc := "([BI)C", sig := { parameters := [(.array .byte), .int], returnType := some .char }, accessFlags := 8, code := some k9c4 }
def k9c5 : Code := { maxStack := 2, maxLocals := 6, code := jdk_52_method_7_code, exceptionTable := #[], attributes := #[] }
def k9m5 : Method := { name := "codePointAt", desc := "([BIIZ)I", sig := { parameters := [(.array .byte), .int, .int, .boolean], returnType := some .int }, accessFlags := 10, code := some k9c5 }
def k9c6 : Code := { maxStack := 4, maxLocals := 3, code := jdk_52_method_8_code, exceptionTable := #[], attributes := #[] }
def k9m6 : Method := { name := "codePointAt", desc := "([BII)I", sig := { parameters := [(.array .byte), .int, .int], returnType := some .int }, accessFlags := 9, code := some k9c6 }
def k9c7 : Code := { maxStack := 4, maxLocals := 5, code := jdk_52_method_14_code, exceptionTable := #[], attributes := #[] }
def k9m7 : Method := { name := "toBytes", desc := "([CII)[B", sig := { parameters := [(.array .char), .int, .int], returnType := some (.array .byte) }, accessFlags := 9, code := some k9c7 }
def k9c8 : Code := { maxStack := 2, maxLocals := 2, code := jdk_52_method_15_code, exceptionTable := #[], attributes := #[] }
def k9m8 : Method := { name := "coderFromArrayLen", desc := "([BI)B", sig := { parameters := [(.array .byte), .int], returnType := some .byte }, accessFlags := 8, code := some k9c8 }
def k9c9 : Code := { maxStack := 5, maxLocals := 6, code := jdk_52_method_16_code, exceptionTable := #[], attributes := #[] }
def k9m9 : Method := { name := "compress", desc := "([CII)[B", sig := { parameters := [(.array .char), .int, .int], returnType := some (.array .byte) }, accessFlags := 9, code := some k9c9 }
def k9c10 : Code := { maxStack := 3, maxLocals := 7, code := jdk_52_method_21_code, exceptionTable := #[], attributes := #[] }
def k9m10 : Method := { name := "compress", desc := "([CI[BII)I", sig := { parameters := [(.array .char), .int, (.array .byte), .int, .int], returnType := some .int }, accessFlags := 9, code := some k9c10 }
/-- java/lang/StringUTF16 -/
def k9 : Class := { plain "java/lang/StringUTF16" (some 0) with
  accessFlags := 48
  interfaces := #[]
  cf := some (fileOf pool9 12 #[.nestMembers #[627, 629, 369]] #[{ accessFlags := 0, nameIndex := 9, descriptorIndex := 10, attributes := #[] }, { accessFlags := 9, nameIndex := 109, descriptorIndex := 110, attributes := #[] }, { accessFlags := 9, nameIndex := 15, descriptorIndex := 16, attributes := #[] }, { accessFlags := 8, nameIndex := 113, descriptorIndex := 114, attributes := #[] }, { accessFlags := 8, nameIndex := 73, descriptorIndex := 74, attributes := #[] }, { accessFlags := 10, nameIndex := 90, descriptorIndex := 91, attributes := #[] }, { accessFlags := 9, nameIndex := 90, descriptorIndex := 250, attributes := #[] }, { accessFlags := 9, nameIndex := 121, descriptorIndex := 122, attributes := #[] }, { accessFlags := 8, nameIndex := 261, descriptorIndex := 262, attributes := #[] }, { accessFlags := 9, nameIndex := 117, descriptorIndex := 122, attributes := #[] }, { accessFlags := 9, nameIndex := 117, descriptorIndex := 118, attributes := #[] }] 48 6 #[] #[{ accessFlags := 26, nameIndex := 61, descriptorIndex := 62, attributes := #[] }, { accessFlags := 26, nameIndex := 65, descriptorIndex := 62, attributes := #[] }, { accessFlags := 24, nameIndex := 430, descriptorIndex := 62, attributes := #[] }, { accessFlags := 4120, nameIndex := 46, descriptorIndex := 47, attributes := #[] }])
  fields := #[{ name := "HI_BYTE_SHIFT", type := .int, accessFlags := 26, slot := 0, constantValue := 0 }, { name := "LO_BYTE_SHIFT", type := .int, accessFlags := 26, slot := 1, constantValue := 0 }, { name := "MAX_LENGTH", type := .int, accessFlags := 24, slot := 2, constantValue := 0 }, { name := "$assertionsDisabled", type := .boolean, accessFlags := 4120, slot := 3, constantValue := 0 }]
  methods := #[k9m0, k9m1, k9m2, k9m3, k9m4, k9m5, k9m6, k9m7, k9m8, k9m9, k9m10]
  instanceTypes := #[]
  staticTypes := #[.int, .int, .int, .boolean]
  resolved := Array.replicate 635 none
  statics := some 1 }

def pool10 : Array CpInfo := pool [(2, .class_ 4), (1, u "java/lang/Object"), (0, u "<init>"), (0, u "()V"), (17, .class_ 26), (1, u "jdk/internal/util/Preconditions"), (6, u "checkIndex"), (21, .class_ 56), (0, u "jdk/internal/util/Preconditions$4"), (57, .class_ 115), (0, u "jdk/internal/util/Preconditions$1"), (7, u "SIOOBE_FORMATTER"), (0, u "Ljava/util/function/BiFunction;"), (0, .class_ 126), (0, u "jdk/internal/util/Preconditions$2"), (3, u "AIOOBE_FORMATTER"), (0, .class_ 132), (0, u "jdk/internal/util/Preconditions$3"), (3, u "IOOBE_FORMATTER"), (41, u "(IILjava/util/function/BiFunction;)I")] 15

def k10m0 : Method := { name := "<init>", desc := "()V", sig := { parameters := [], returnType := none }, accessFlags := 1, code := none }
def k10c1 : Code := { maxStack := 3, maxLocals := 3, code := jdk_41_method_11_code, exceptionTable := #[], attributes := #[] }
def k10m1 : Method := { name := "checkIndex", desc := "(IILjava/util/function/BiFunction;)I", sig := { parameters := [.int, .int, (.object "java/util/function/BiFunction")], returnType := some .int }, accessFlags := 9, code := some k10c1 }
/-- jdk/internal/util/Preconditions -/
def k10 : Class := { plain "jdk/internal/util/Preconditions" (some 0) with
  accessFlags := 33
  interfaces := #[]
  cf := some (fileOf pool10 24 #[.nestMembers #[55, 131, 125, 114]] #[{ accessFlags := 1, nameIndex := 5, descriptorIndex := 6, attributes := #[] }, { accessFlags := 9, nameIndex := 33, descriptorIndex := 178, attributes := #[] }] 33 2 #[] #[{ accessFlags := 25, nameIndex := 123, descriptorIndex := 124, attributes := #[] }, { accessFlags := 25, nameIndex := 130, descriptorIndex := 124, attributes := #[] }, { accessFlags := 25, nameIndex := 136, descriptorIndex := 124, attributes := #[] }])
  fields := #[{ name := "SIOOBE_FORMATTER", type := (.object "java/util/function/BiFunction"), accessFlags := 25, slot := 0, constantValue := 0 }, { name := "AIOOBE_FORMATTER", type := (.object "java/util/function/BiFunction"), accessFlags := 25, slot := 1, constantValue := 0 }, { name := "IOOBE_FORMATTER", type := (.object "java/util/function/BiFunction"), accessFlags := 25, slot := 2, constantValue := 0 }]
  methods := #[k10m0, k10m1]
  instanceTypes := #[]
  staticTypes := #[(.object "java/util/function/BiFunction"), (.object "java/util/function/BiFunction"), (.object "java/util/function/BiFunction")]
  resolved := Array.replicate 194 none
  statics := some 2 }

def pool11 : Array CpInfo := pool [(1, .class_ 2), (0, u "java/lang/Character"), (18, u "value"), (0, u "C"), (19, .class_ 44), (1, u "java/lang/Object"), (3, .class_ 50), (1, u "java/lang/Character$CharacterCache"), (22, .integer 65536), (1, .integer 55296), (0, .integer 56320), (0, .integer 57344), (2, u "isHighSurrogate"), (0, u "(C)Z"), (2, u "isLowSurrogate"), (0, .integer 4238353408), (12, u "toCodePoint"), (0, u "(CC)I"), (74, u "(I)I"), (109, u "$assertionsDisabled"), (0, u "Z"), (21, .class_ 309), (1, u "java/lang/Character$UnicodeBlock"), (73, u "TYPE"), (0, u "Ljava/lang/Class;"), (0, .class_ 386), (0, u "java/io/Serializable"), (0, .class_ 388), (0, u "java/lang/Comparable"), (0, .class_ 390), (0, u "java/lang/constant/Constable"), (0, u "MIN_RADIX"), (0, u "I"), (2, u "MAX_RADIX"), (1, u "MIN_VALUE"), (1, u "MAX_VALUE"), (3, u "UNASSIGNED"), (0, u "B"), (0, u "UPPERCASE_LETTER"), (1, u "LOWERCASE_LETTER"), (0, u "TITLECASE_LETTER"), (1, u "MODIFIER_LETTER"), (1, u "OTHER_LETTER"), (1, u "NON_SPACING_MARK"), (1, u "ENCLOSING_MARK"), (1, u "COMBINING_SPACING_MARK"), (1, u "DECIMAL_DIGIT_NUMBER"), (1, u "LETTER_NUMBER"), (1, u "OTHER_NUMBER"), (1, u "SPACE_SEPARATOR"), (1, u "LINE_SEPARATOR"), (1, u "PARAGRAPH_SEPARATOR"), (1, u "CONTROL"), (1, u "FORMAT"), (1, u "PRIVATE_USE"), (1, u "SURROGATE"), (1, u "DASH_PUNCTUATION"), (1, u "START_PUNCTUATION"), (1, u "END_PUNCTUATION"), (1, u "CONNECTOR_PUNCTUATION"), (1, u "OTHER_PUNCTUATION"), (1, u "MATH_SYMBOL"), (1, u "CURRENCY_SYMBOL"), (1, u "MODIFIER_SYMBOL"), (1, u "OTHER_SYMBOL"), (1, u "INITIAL_QUOTE_PUNCTUATION"), (1, u "FINAL_QUOTE_PUNCTUATION"), (1, u "ERROR"), (1, u "DIRECTIONALITY_UNDEFINED"), (0, u "DIRECTIONALITY_LEFT_TO_RIGHT"), (0, u "DIRECTIONALITY_RIGHT_TO_LEFT"), (0, u "DIRECTIONALITY_RIGHT_TO_LEFT_ARABIC"), (0, u "DIRECTIONALITY_EUROPEAN_NUMBER"), (0, u "DIRECTIONALITY_EUROPEAN_NUMBER_SEPARATOR"), (0, u "DIRECTIONALITY_EUROPEAN_NUMBER_TERMINATOR"), (0, u "DIRECTIONALITY_ARABIC_NUMBER"), (0, u "DIRECTIONALITY_COMMON_NUMBER_SEPARATOR"), (0, u "DIRECTIONALITY_NONSPACING_MARK"), (0, u "DIRECTIONALITY_BOUNDARY_NEUTRAL"), (0, u "DIRECTIONALITY_PARAGRAPH_SEPARATOR"), (0, u "DIRECTIONALITY_SEGMENT_SEPARATOR"), (0, u "DIRECTIONALITY_WHITESPACE"), (0, u "DIRECTIONALITY_OTHER_NEUTRALS"), (0, u "DIRECTIONALITY_LEFT_TO_RIGHT_EMBEDDING"), (0, u "DIRECTIONALITY_LEFT_TO_RIGHT_OVERRIDE"), (0, u "DIRECTIONALITY_RIGHT_TO_LEFT_EMBEDDING"), (0, u "DIRECTIONALITY_RIGHT_TO_LEFT_OVERRIDE"), (1, u "DIRECTIONALITY_POP_DIRECTIONAL_FORMAT"), (0, u "DIRECTIONALITY_LEFT_TO_RIGHT_ISOLATE"), (0, u "DIRECTIONALITY_RIGHT_TO_LEFT_ISOLATE"), (0, u "DIRECTIONALITY_FIRST_STRONG_ISOLATE"), (0, u "DIRECTIONALITY_POP_DIRECTIONAL_ISOLATE"), (0, u "MIN_HIGH_SURROGATE"), (0, u "MAX_HIGH_SURROGATE"), (1, u "MIN_LOW_SURROGATE"), (0, u "MAX_LOW_SURROGATE"), (1, u "MIN_SURROGATE"), (0, u "MAX_SURROGATE"), (0, u "MIN_SUPPLEMENTARY_CODE_POINT"), (0, u "MIN_CODE_POINT"), (0, u "MAX_CODE_POINT"), (1, u "serialVersionUID"), (0, u "J"), (2, u "SIZE"), (0, u "BYTES"), (29, u "charCount"), (58, .class_ 596), (0, u "java/lang/Character$UnicodeScript"), (0, .class_ 598), (0, u "java/lang/Character$Subset")] 5

def k11c0 : Code := { maxStack := 2, maxLocals := 1, code := jdk_89_method_14_code, exceptionTable := #[], attributes := #[] }
def k11m0 : Method := { name := "isHighSurrogate", desc := "(C)Z", sig := { parameters := [.char], returnType := some .boolean }, accessFlags := 9, code := some k11c0 }
def k11c1 : Code := { maxStack := 2, maxLocals := 1, code := jdk_89_method_15_code, exceptionTable := #[], attributes := #[] }
def k11m1 : Method := { name := "isLowSurrogate", desc := "(C)Z", sig := { parameters := [.char], returnType := some .boolean }, accessFlags := 9, code := some k11c1 }
def k11c2 : Code := { maxStack := 2, maxLocals := 1, code := jdk_89_method_18_code, exceptionTable := #[], attributes := #[] }
def k11m2 : Method := { name := "charCount", desc := "(I)I", sig := { parameters := [.int], returnType := some .int }, accessFlags := 9, code := some k11c2 }
def k11c3 : Code := { maxStack := 2, maxLocals := 2, code := jdk_89_method_19_code, exceptionTable := #[], attributes := #[] }
def k11m3 : Method := { name := "toCodePoint", desc := "(CC)I", sig := { parameters := [.char, .char], returnType := some .int }, accessFlags := 9, code := some k11c3 }
/-- java/lang/Character -/
def k11 : Class := { plain "java/lang/Character" (some 0) with
  accessFlags := 49
  interfaces := #[2, 3, 5]
  cf := some (fileOf pool11 1 #[.nestMembers #[48, 595, 307, 597]] #[{ accessFlags := 9, nameIndex := 80, descriptorIndex := 81, attributes := #[] }, { accessFlags := 9, nameIndex := 84, descriptorIndex := 81, attributes := #[] }, { accessFlags := 9, nameIndex := 536, descriptorIndex := 174, attributes := #[] }, { accessFlags := 9, nameIndex := 98, descriptorIndex := 99, attributes := #[] }] 49 42 #[385, 387, 389] #[{ accessFlags := 25, nameIndex := 391, descriptorIndex := 392, attributes := #[] }, { accessFlags := 25, nameIndex := 395, descriptorIndex := 392, attributes := #[] }, { accessFlags := 25, nameIndex := 397, descriptorIndex := 22, attributes := #[] }, { accessFlags := 25, nameIndex := 399, descriptorIndex := 22, attributes := #[] }, { accessFlags := 25, nameIndex := 383, descriptorIndex := 384, attributes := #[] }, { accessFlags := 25, nameIndex := 403, descriptorIndex := 404, attributes := #[] }, { accessFlags := 25, nameIndex := 405, descriptorIndex := 404, attributes := #[] }, { accessFlags := 25, nameIndex := 407, descriptorIndex := 404, attributes := #[] }, { accessFlags := 25, nameIndex := 408, descriptorIndex := 404, attributes := #[] }, { accessFlags := 25, nameIndex := 410, descriptorIndex := 404, attributes := #[] }, { accessFlags := 25, nameIndex := 412, descriptorIndex := 404, attributes := #[] }, { accessFlags := 25, nameIndex := 414, descriptorIndex := 404, attributes := #[] }, { accessFlags := 25, nameIndex := 416, descriptorIndex := 404, attributes := #[] }, { accessFlags := 25, nameIndex := 418, descriptorIndex := 404, attributes := #[] }, { accessFlags := 25, nameIndex := 420, descriptorIndex := 404, attributes := #[] }, { accessFlags := 25, nameIndex := 422, descriptorIndex := 404, attributes := #[] }, { accessFlags := 25, nameIndex := 424, descriptorIndex := 404, attributes := #[] }, { accessFlags := 25, nameIndex := 426, descriptorIndex := 404, attributes := #[] }, { accessFlags := 25, nameIndex := 428, descriptorIndex := 404, attributes := #[] }, { accessFlags := 25, nameIndex := 430, descriptorIndex := 404, attributes := #[] }, { accessFlags := 25, nameIndex := 432, descriptorIndex := 404, attributes := #[] }, { accessFlags := 25, nameIndex := 434, descriptorIndex := 404, attributes := #[] }, { accessFlags := 25, nameIndex := 436, descriptorIndex := 404, attributes := #[] }, { accessFlags := 25, nameIndex := 438, descriptorIndex := 404, attributes := #[] }, { accessFlags := 25, nameIndex := 440, descriptorIndex := 404, attributes := #[] }, { accessFlags := 25, nameIndex := 442, descriptorIndex := 404, attributes := #[] }, { accessFlags := 25, nameIndex := 444, descriptorIndex := 404, attributes := #[] }, { accessFlags := 25, nameIndex := 446, descriptorIndex := 404, attributes := #[] }, { accessFlags := 25, nameIndex := 448, descriptorIndex := 404, attributes := #[] }, { accessFlags := 25, nameIndex := 450, descriptorIndex := 404, attributes := #[] }, { accessFlags := 25, nameIndex := 452, descriptorIndex := 404, attributes := #[] }, { accessFlags := 25, nameIndex := 454, descriptorIndex := 404, attributes := #[] }, { accessFlags := 25, nameIndex := 456, descriptorIndex := 404, attributes := #[] }, { accessFlags := 25, nameIndex := 458, descriptorIndex := 404, attributes := #[] }, { accessFlags := 25, nameIndex := 460, descriptorIndex := 404, attributes := #[] }, { accessFlags := 24, nameIndex := 462, descriptorIndex := 392, attributes := #[] }, { accessFlags := 25, nameIndex := 464, descriptorIndex := 404, attributes := #[] }, { accessFlags := 25, nameIndex := 465, descriptorIndex := 404, attributes := #[] }, { accessFlags := 25, nameIndex := 466, descriptorIndex := 404, attributes := #[] }, { accessFlags := 25, nameIndex := 467, descriptorIndex := 404, attributes := #[] }, { accessFlags := 25, nameIndex := 468, descriptorIndex := 404, attributes := #[] }, { accessFlags := 25, nameIndex := 469, descriptorIndex := 404, attributes := #[] }, { accessFlags := 25, nameIndex := 470, descriptorIndex := 404, attributes := #[] }, { accessFlags := 25, nameIndex := 471, descriptorIndex := 404, attributes := #[] }, { accessFlags := 25, nameIndex := 472, descriptorIndex := 404, attributes := #[] }, { accessFlags := 25, nameIndex := 473, descriptorIndex := 404, attributes := #[] }, { accessFlags := 25, nameIndex := 474, descriptorIndex := 404, attributes := #[] }, { accessFlags := 25, nameIndex := 475, descriptorIndex := 404, attributes := #[] }, { accessFlags := 25, nameIndex := 476, descriptorIndex := 404, attributes := #[] }, { accessFlags := 25, nameIndex := 477, descriptorIndex := 404, attributes := #[] }, { accessFlags := 25, nameIndex := 478, descriptorIndex := 404, attributes := #[] }, { accessFlags := 25, nameIndex := 479, descriptorIndex := 404, attributes := #[] }, { accessFlags := 25, nameIndex := 480, descriptorIndex := 404, attributes := #[] }, { accessFlags := 25, nameIndex := 481, descriptorIndex := 404, attributes := #[] }, { accessFlags := 25, nameIndex := 482, descriptorIndex := 404, attributes := #[] }, { accessFlags := 25, nameIndex := 484, descriptorIndex := 404, attributes := #[] }, { accessFlags := 25, nameIndex := 485, descriptorIndex := 404, attributes := #[] }, { accessFlags := 25, nameIndex := 486, descriptorIndex := 404, attributes := #[] }, { accessFlags := 25, nameIndex := 487, descriptorIndex := 404, attributes := #[] }, { accessFlags := 25, nameIndex := 488, descriptorIndex := 404, attributes := #[] }, { accessFlags := 25, nameIndex := 489, descriptorIndex := 22, attributes := #[] }, { accessFlags := 25, nameIndex := 490, descriptorIndex := 22, attributes := #[] }, { accessFlags := 25, nameIndex := 492, descriptorIndex := 22, attributes := #[] }, { accessFlags := 25, nameIndex := 493, descriptorIndex := 22, attributes := #[] }, { accessFlags := 25, nameIndex := 495, descriptorIndex := 22, attributes := #[] }, { accessFlags := 25, nameIndex := 496, descriptorIndex := 22, attributes := #[] }, { accessFlags := 25, nameIndex := 497, descriptorIndex := 392, attributes := #[] }, { accessFlags := 25, nameIndex := 498, descriptorIndex := 392, attributes := #[] }, { accessFlags := 25, nameIndex := 499, descriptorIndex := 392, attributes := #[] }, { accessFlags := 18, nameIndex := 21, descriptorIndex := 22, attributes := #[] }, { accessFlags := 26, nameIndex := 501, descriptorIndex := 502, attributes := #[] }, { accessFlags := 25, nameIndex := 505, descriptorIndex := 392, attributes := #[] }, { accessFlags := 25, nameIndex := 506, descriptorIndex := 392, attributes := #[] }, { accessFlags := 4120, nameIndex := 284, descriptorIndex := 285, attributes := #[] }])
  fields := #[{ name := "MIN_RADIX", type := .int, accessFlags := 25, slot := 0, constantValue := 0 }, { name := "MAX_RADIX", type := .int, accessFlags := 25, slot := 1, constantValue := 0 }, { name := "MIN_VALUE", type := .char, accessFlags := 25, slot := 2, constantValue := 0 }, { name := "MAX_VALUE", type := .char, accessFlags := 25, slot := 3, constantValue := 0 }, { name := "TYPE", type := (.object "java/lang/Class"), accessFlags := 25, slot := 4, constantValue := 0 }, { name := "UNASSIGNED", type := .byte, accessFlags := 25, slot := 5, constantValue := 0 }, { name := "UPPERCASE_LETTER", type := .byte, accessFlags := 25, slot := 6, constantValue := 0 }, { name := "LOWERCASE_LETTER", type := .byte, accessFlags := 25, slot := 7, constantValue := 0 }, { name := "TITLECASE_LETTER", type := .byte, accessFlags := 25, slot := 8, constantValue := 0 }, { name := "MODIFIER_LETTER", type := .byte, accessFlags := 25, slot := 9, constantValue := 0 }, { name := "OTHER_LETTER", type := .byte, accessFlags := 25, slot := 10, constantValue := 0 }, { name := "NON_SPACING_MARK", type := .byte, accessFlags := 25, slot := 11, constantValue := 0 }, { name := "ENCLOSING_MARK", type := .byte, accessFlags := 25, slot := 12, constantValue := 0 }, { name := "COMBINING_SPACING_MARK", type := .byte, accessFlags := 25, slot := 13, constantValue := 0 }, { name := "DECIMAL_DIGIT_NUMBER", type := .byte, accessFlags := 25, slot := 14, constantValue := 0 }, { name := "LETTER_NUMBER", type := .byte, accessFlags := 25, slot := 15, constantValue := 0 }, { name := "OTHER_NUMBER", type := .byte, accessFlags := 25, slot := 16, constantValue := 0 }, { name := "SPACE_SEPARATOR", type := .byte, accessFlags := 25, slot := 17, constantValue := 0 }, { name := "LINE_SEPARATOR", type := .byte, accessFlags := 25, slot := 18, constantValue := 0 }, { name := "PARAGRAPH_SEPARATOR", type := .byte, accessFlags := 25, slot := 19, constantValue := 0 }, { name := "CONTROL", type := .byte, accessFlags := 25, slot := 20, constantValue := 0 }, { name := "FORMAT", type := .byte, accessFlags := 25, slot := 21, constantValue := 0 }, { name := "PRIVATE_USE", type := .byte, accessFlags := 25, slot := 22, constantValue := 0 }, { name := "SURROGATE", type := .byte, accessFlags := 25, slot := 23, constantValue := 0 }, { name := "DASH_PUNCTUATION", type := .byte, accessFlags := 25, slot := 24, constantValue := 0 }, { name := "START_PUNCTUATION", type := .byte, accessFlags := 25, slot := 25, constantValue := 0 }, { name := "END_PUNCTUATION", type := .byte, accessFlags := 25, slot := 26, constantValue := 0 }, { name := "CONNECTOR_PUNCTUATION", type := .byte, accessFlags := 25, slot := 27, constantValue := 0 }, { name := "OTHER_PUNCTUATION", type := .byte, accessFlags := 25, slot := 28, constantValue := 0 }, { name := "MATH_SYMBOL", type := .byte, accessFlags := 25, slot := 29, constantValue := 0 }, { name := "CURRENCY_SYMBOL", type := .byte, accessFlags := 25, slot := 30, constantValue := 0 }, { name := "MODIFIER_SYMBOL", type := .byte, accessFlags := 25, slot := 31, constantValue := 0 }, { name := "OTHER_SYMBOL", type := .byte, accessFlags := 25, slot := 32, constantValue := 0 }, { name := "INITIAL_QUOTE_PUNCTUATION", type := .byte, accessFlags := 25, slot := 33, constantValue := 0 }, { name := "FINAL_QUOTE_PUNCTUATION", type := .byte, accessFlags := 25, slot := 34, constantValue := 0 }, { name := "ERROR", type := .int, accessFlags := 24, slot := 35, constantValue := 0 }, { name := "DIRECTIONALITY_UNDEFINED", type := .byte, accessFlags := 25, slot := 36, constantValue := 0 }, { name := "DIRECTIONALITY_LEFT_TO_RIGHT", type := .byte, accessFlags := 25, slot := 37, constantValue := 0 }, { name := "DIRECTIONALITY_RIGHT_TO_LEFT", type := .byte, accessFlags := 25, slot := 38, constantValue := 0 }, { name := "DIRECTIONALITY_RIGHT_TO_LEFT_ARABIC", type := .byte, accessFlags := 25, slot := 39, constantValue := 0 }, { name := "DIRECTIONALITY_EUROPEAN_NUMBER", type := .byte, accessFlags := 25, slot := 40, constantValue := 0 }, { name := "DIRECTIONALITY_EUROPEAN_NUMBER_SEPARATOR", type := .byte, accessFlags := 25, slot := 41, constantValue := 0 }, { name := "DIRECTIONALITY_EUROPEAN_NUMBER_TERMINATOR", type := .byte, accessFlags := 25, slot := 42, constantValue := 0 }, { name := "DIRECTIONALITY_ARABIC_NUMBER", type := .byte, accessFlags := 25, slot := 43, constantValue := 0 }, { name := "DIRECTIONALITY_COMMON_NUMBER_SEPARATOR", type := .byte, accessFlags := 25, slot := 44, constantValue := 0 }, { name := "DIRECTIONALITY_NONSPACING_MARK", type := .byte, accessFlags := 25, slot := 45, constantValue := 0 }, { name := "DIRECTIONALITY_BOUNDARY_NEUTRAL", type := .byte, accessFlags := 25, slot := 46, constantValue := 0 }, { name := "DIRECTIONALITY_PARAGRAPH_SEPARATOR", type := .byte, accessFlags := 25, slot := 47, constantValue := 0 }, { name := "DIRECTIONALITY_SEGMENT_SEPARATOR", type := .byte, accessFlags := 25, slot := 48, constantValue := 0 }, { name := "DIRECTIONALITY_WHITESPACE", type := .byte, accessFlags := 25, slot := 49, constantValue := 0 }, { name := "DIRECTIONALITY_OTHER_NEUTRALS", type := .byte, accessFlags := 25, slot := 50, constantValue := 0 }, { name := "DIRECTIONALITY_LEFT_TO_RIGHT_EMBEDDING", type := .byte, accessFlags := 25, slot := 51, constantValue := 0 }, { name := "DIRECTIONALITY_LEFT_TO_RIGHT_OVERRIDE", type := .byte, accessFlags := 25, slot := 52, constantValue := 0 }, { name := "DIRECTIONALITY_RIGHT_TO_LEFT_EMBEDDING", type := .byte, accessFlags := 25, slot := 53, constantValue := 0 }, { name := "DIRECTIONALITY_RIGHT_TO_LEFT_OVERRIDE", type := .byte, accessFlags := 25, slot := 54, constantValue := 0 }, { name := "DIRECTIONALITY_POP_DIRECTIONAL_FORMAT", type := .byte, accessFlags := 25, slot := 55, constantValue := 0 }, { name := "DIRECTIONALITY_LEFT_TO_RIGHT_ISOLATE", type := .byte, accessFlags := 25, slot := 56, constantValue := 0 }, { name := "DIRECTIONALITY_RIGHT_TO_LEFT_ISOLATE", type := .byte, accessFlags := 25, slot := 57, constantValue := 0 }, { name := "DIRECTIONALITY_FIRST_STRONG_ISOLATE", type := .byte, accessFlags := 25, slot := 58, constantValue := 0 }, { name := "DIRECTIONALITY_POP_DIRECTIONAL_ISOLATE", type := .byte, accessFlags := 25, slot := 59, constantValue := 0 }, { name := "MIN_HIGH_SURROGATE", type := .char, accessFlags := 25, slot := 60, constantValue := 0 }, { name := "MAX_HIGH_SURROGATE", type := .char, accessFlags := 25, slot := 61, constantValue := 0 }, { name := "MIN_LOW_SURROGATE", type := .char, accessFlags := 25, slot := 62, constantValue := 0 }, { name := "MAX_LOW_SURROGATE", type := .char, accessFlags := 25, slot := 63, constantValue := 0 }, { name := "MIN_SURROGATE", type := .char, accessFlags := 25, slot := 64, constantValue := 0 }, { name := "MAX_SURROGATE", type := .char, accessFlags := 25, slot := 65, constantValue := 0 }, { name := "MIN_SUPPLEMENTARY_CODE_POINT", type := .int, accessFlags := 25, slot := 66, constantValue := 0 }, { name := "MIN_CODE_POINT", type := .int, accessFlags := 25, slot := 67, constantValue := 0 }, { name := "MAX_CODE_POINT", type := .int, accessFlags := 25, slot := 68, constantValue := 0 }, { name := "value", type := .char, accessFlags := 18, slot := 0, constantValue := 0 }, { name := "serialVersionUID", type := .long, accessFlags := 26, slot := 69, constantValue := 0 }, { name := "SIZE", type := .int, accessFlags := 25, slot := 70, constantValue := 0 }, { name := "BYTES", type := .int, accessFlags := 25, slot := 71, constantValue := 0 }, { name := "$assertionsDisabled", type := .boolean, accessFlags := 4120, slot := 72, constantValue := 0 }]
  methods := #[k11m0, k11m1, k11m2, k11m3]
  instanceTypes := #[.char]
  staticTypes := #[.int, .int, .char, .char, (.object "java/lang/Class"), .byte, .byte, .byte, .byte, .byte, .byte, .byte, .byte, .byte, .byte, .byte, .byte, .byte, .byte, .byte, .byte, .byte, .byte, .byte, .byte, .byte, .byte, .byte, .byte, .byte, .byte, .byte, .byte, .byte, .byte, .int, .byte, .byte, .byte, .byte, .byte, .byte, .byte, .byte, .byte, .byte, .byte, .byte, .byte, .byte, .byte, .byte, .byte, .byte, .byte, .byte, .byte, .byte, .byte, .byte, .char, .char, .char, .char, .char, .char, .int, .int, .int, .long, .int, .int, .boolean]
  resolved := Array.replicate 604 none
  statics := none }

def pool12 : Array CpInfo := pool [(4, .class_ 6), (1, u "java/lang/Object"), (0, u "<init>"), (0, u "()V"), (5, .class_ 16), (1, u "java/lang/StringLatin1"), (104, u "$assertionsDisabled"), (0, u "Z"), (98, .class_ 223), (1, u "java/lang/StringLatin1$LinesSpliterator"), (166, .class_ 391), (0, u "java/lang/StringLatin1$CharsSpliterator")] 3

def k12m0 : Method := { name := "<init>", desc := "()V", sig := { parameters := [], returnType := none }, accessFlags := 0, code := none }
/-- java/lang/StringLatin1 -/
def k12 : Class := { plain "java/lang/StringLatin1" (some 0) with
  accessFlags := 48
  interfaces := #[]
  cf := some (fileOf pool12 14 #[.nestMembers #[390, 221]] #[{ accessFlags := 0, nameIndex := 7, descriptorIndex := 8, attributes := #[] }] 48 4 #[] #[{ accessFlags := 4120, nameIndex := 121, descriptorIndex := 122, attributes := #[] }])
  fields := #[{ name := "$assertionsDisabled", type := .boolean, accessFlags := 4120, slot := 0, constantValue := 0 }]
  methods := #[k12m0]
  instanceTypes := #[]
  staticTypes := #[.boolean]
  resolved := Array.replicate 395 none
  statics := none }

def pool13 : Array CpInfo := pool [(9, u "<init>"), (6, .class_ 18), (1, u "java/lang/Object"), (0, u "()V"), (1, .class_ 23), (1, u "jdk/internal/util/ArraysSupport"), (0, u "LOG2_ARRAY_LONG_INDEX_SCALE"), (0, u "I"), (2, u "U"), (0, u "Ljdk/internal/misc/Unsafe;"), (8, u "BIG_ENDIAN"), (0, u "Z"), (8, u "LOG2_BYTE_BIT_SIZE"), (4, u "LOG2_ARRAY_INT_INDEX_SCALE"), (54, u "JLA"), (0, u "Ljdk/internal/access/JavaLangAccess;"), (11, u "LOG2_ARRAY_BOOLEAN_INDEX_SCALE"), (9, u "LOG2_ARRAY_BYTE_INDEX_SCALE"), (5, u "LOG2_ARRAY_CHAR_INDEX_SCALE"), (5, u "LOG2_ARRAY_SHORT_INDEX_SCALE"), (18, u "LOG2_ARRAY_FLOAT_INDEX_SCALE"), (24, u "LOG2_ARRAY_DOUBLE_INDEX_SCALE"), (89, u "T_BOOLEAN"), (2, u "T_CHAR"), (1, u "T_FLOAT"), (1, u "T_DOUBLE"), (1, u "T_BYTE"), (1, u "T_SHORT"), (1, u "T_INT"), (1, u "T_LONG"), (1, u "SOFT_MAX_ARRAY_LENGTH")] 83

def k13m0 : Method := { name := "<init>", desc := "()V", sig := { parameters := [], returnType := none }, accessFlags := 2, code := none }
/-- jdk/internal/util/ArraysSupport -/
def k13 : Class := { plain "jdk/internal/util/ArraysSupport" (some 0) with
  accessFlags := 33
  interfaces := #[]
  cf := some (fileOf pool13 21 #[] #[{ accessFlags := 2, nameIndex := 9, descriptorIndex := 19, attributes := #[] }] 33 16 #[] #[{ accessFlags := 24, nameIndex := 28, descriptorIndex := 29, attributes := #[] }, { accessFlags := 26, nameIndex := 38, descriptorIndex := 39, attributes := #[] }, { accessFlags := 25, nameIndex := 121, descriptorIndex := 25, attributes := #[] }, { accessFlags := 25, nameIndex := 131, descriptorIndex := 25, attributes := #[] }, { accessFlags := 25, nameIndex := 137, descriptorIndex := 25, attributes := #[] }, { accessFlags := 25, nameIndex := 143, descriptorIndex := 25, attributes := #[] }, { accessFlags := 25, nameIndex := 53, descriptorIndex := 25, attributes := #[] }, { accessFlags := 25, nameIndex := 24, descriptorIndex := 25, attributes := #[] }, { accessFlags := 25, nameIndex := 162, descriptorIndex := 25, attributes := #[] }, { accessFlags := 25, nameIndex := 187, descriptorIndex := 25, attributes := #[] }, { accessFlags := 26, nameIndex := 48, descriptorIndex := 25, attributes := #[] }, { accessFlags := 25, nameIndex := 277, descriptorIndex := 25, attributes := #[] }, { accessFlags := 25, nameIndex := 280, descriptorIndex := 25, attributes := #[] }, { accessFlags := 25, nameIndex := 282, descriptorIndex := 25, attributes := #[] }, { accessFlags := 25, nameIndex := 284, descriptorIndex := 25, attributes := #[] }, { accessFlags := 25, nameIndex := 286, descriptorIndex := 25, attributes := #[] }, { accessFlags := 25, nameIndex := 288, descriptorIndex := 25, attributes := #[] }, { accessFlags := 25, nameIndex := 290, descriptorIndex := 25, attributes := #[] }, { accessFlags := 25, nameIndex := 292, descriptorIndex := 25, attributes := #[] }, { accessFlags := 26, nameIndex := 108, descriptorIndex := 109, attributes := #[] }, { accessFlags := 25, nameIndex := 294, descriptorIndex := 25, attributes := #[] }])
  fields := #[{ name := "U", type := (.object "jdk/internal/misc/Unsafe"), accessFlags := 24, slot := 0, constantValue := 0 }, { name := "BIG_ENDIAN", type := .boolean, accessFlags := 26, slot := 1, constantValue := 0 }, { name := "LOG2_ARRAY_BOOLEAN_INDEX_SCALE", type := .int, accessFlags := 25, slot := 2, constantValue := 0 }, { name := "LOG2_ARRAY_BYTE_INDEX_SCALE", type := .int, accessFlags := 25, slot := 3, constantValue := 0 }, { name := "LOG2_ARRAY_CHAR_INDEX_SCALE", type := .int, accessFlags := 25, slot := 4, constantValue := 0 }, { name := "LOG2_ARRAY_SHORT_INDEX_SCALE", type := .int, accessFlags := 25, slot := 5, constantValue := 0 }, { name := "LOG2_ARRAY_INT_INDEX_SCALE", type := .int, accessFlags := 25, slot := 6, constantValue := 0 }, { name := "LOG2_ARRAY_LONG_INDEX_SCALE", type := .int, accessFlags := 25, slot := 7, constantValue := 0 }, { name := "LOG2_ARRAY_FLOAT_INDEX_SCALE", type := .int, accessFlags := 25, slot := 8, constantValue := 0 }, { name := "LOG2_ARRAY_DOUBLE_INDEX_SCALE", type := .int, accessFlags := 25, slot := 9, constantValue := 0 }, { name := "LOG2_BYTE_BIT_SIZE", type := .int, accessFlags := 26, slot := 10, constantValue := 0 }, { name := "T_BOOLEAN", type := .int, accessFlags := 25, slot := 11, constantValue := 0 }, { name := "T_CHAR", type := .int, accessFlags := 25, slot := 12, constantValue := 0 }, { name := "T_FLOAT", type := .int, accessFlags := 25, slot := 13, constantValue := 0 }, { name := "T_DOUBLE", type := .int, accessFlags := 25, slot := 14, constantValue := 0 }, { name := "T_BYTE", type := .int, accessFlags := 25, slot := 15, constantValue := 0 }, { name := "T_SHORT", type := .int, accessFlags := 25, slot := 16, constantValue := 0 }, { name := "T_INT", type := .int, accessFlags := 25, slot := 17, constantValue := 0 }, { name := "T_LONG", type := .int, accessFlags := 25, slot := 18, constantValue := 0 }, { name := "JLA", type := (.object "jdk/internal/access/JavaLangAccess"), accessFlags := 26, slot := 19, constantValue := 0 }, { name := "SOFT_MAX_ARRAY_LENGTH", type := .int, accessFlags := 25, slot := 20, constantValue := 0 }]
  methods := #[k13m0]
  instanceTypes := #[]
  staticTypes := #[(.object "jdk/internal/misc/Unsafe"), .boolean, .int, .int, .int, .int, .int, .int, .int, .int, .int, .int, .int, .int, .int, .int, .int, .int, .int, (.object "jdk/internal/access/JavaLangAccess"), .int]
  resolved := Array.replicate 378 none
  statics := none }

def pool14 : Array CpInfo := pool [(1, u "java/lang/Cloneable"), (0, .class_ 1), (0, u "java/lang/Object"), (0, .class_ 3)] 3

/-- java/lang/Cloneable -/
def k14 : Class := { plain "java/lang/Cloneable" (some 0) with
  accessFlags := 1537
  interfaces := #[]
  cf := some (fileOf pool14 2 #[] #[] 1537 4 #[] #[])
  fields := #[]
  methods := #[]
  instanceTypes := #[]
  staticTypes := #[]
  resolved := Array.replicate 8 none
  statics := none }

/-- the primitive byte -/
def k15 : Class := { plain "byte" none with kind := .primitive 'B', accessFlags := 0x411 }
/-- [B -/
def k16 : Class := { plain "[B" (some 0) with kind := .array 15 .byte, interfaces := #[14, 2], accessFlags := 1041 }

/-- the primitive char -/
def k17 : Class := { plain "char" none with kind := .primitive 'C', accessFlags := 0x411 }
/-- [C -/
def k18 : Class := { plain "[C" (some 0) with kind := .array 17 .char, interfaces := #[14, 2], accessFlags := 1041 }

/-- the primitive int -/
def k19 : Class := { plain "int" none with kind := .primitive 'I', accessFlags := 0x411 }
/-- [I -/
def k20 : Class := { plain "[I" (some 0) with kind := .array 19 .int, interfaces := #[14, 2], accessFlags := 1041 }

def heap : Heap := #[{ cls := 7, slots := #[.long 0, .int 1, .null, .int 0, .null, .int 0, .int 0], vm := .statics 7 },
  { cls := 9, slots := #[.int 0, .int 8, .int 0, .int 1], vm := .statics 9 },
  { cls := 10, slots := #[.null, .null, .null], vm := .statics 10 }]
def classes : Array Class := #[k0, k1, k2, k3, k4, k5, k6, k7, k8, k9, k10, k11, k12, k13, k14, k15, k16, k17, k18, k19, k20]
def interned : List (Array UInt16 × Addr) := []
def slotsUsed : Nat := 14
def theMethod : MethodId := ⟨1, 1⟩
def args0 : Array Value := #[.int 2, .int 65, .int 66, .int 67]
def aboutOver (below : List Frame) : State where
  vm := { classes := classes, interned := interned.toArray }
  heap := heap
  slotsUsed := slotsUsed
  threads := #[{ frames := .invoking theMethod args0 :: below }]
def below0 : List Frame := [.native { method := ⟨0, 0⟩, args := #[] }]
def about1 : State := aboutOver below0
def p0 : Program := .bare "" "" ""
def e0 : Env := launch0.env 0 0 0
theorem w_frames : about1.frames = Frame.invoking theMethod args0 :: below0 := rfl
set_option maxRecDepth 65536 in
theorem w_args : argsFit about1.vm theMethod args0 = true := by decide +kernel
set_option maxRecDepth 65536 in
theorem w_heap : heapFits about1 = true := by decide +kernel
set_option maxRecDepth 65536 in
theorem w_runnable : about1.curStatus? = some .runnable := by decide +kernel
set_option maxRecDepth 65536 in
theorem w_alone : about1.alone = true := by decide +kernel
set_option maxRecDepth 65536 in
theorem w_named : about1.methodNamed? x = some theMethod := by decide +kernel
set_option maxRecDepth 65536 in
theorem w_hears : about1.hears theMethod below0 = true := by decide +kernel
set_option maxRecDepth 65536 in
theorem w_ripe : about1.ripe theMethod args0 below0 = true := by decide +kernel
theorem w_running : about1.status = .running := rfl
set_option maxRecDepth 65536 in
theorem w_room : about1.hasRoom e0.platform room_1 = true :=
  launch0.hasRoom_least _ room_1 (by decide +kernel) (by decide +kernel) (by decide +kernel) (by decide +kernel) (by decide +kernel) (by decide +kernel)
theorem allAtoms_all (ts : List Jvm.Cond) (a : Array Jvm.Value) (st : Jvm.State) : (allAtoms ts).before a st = ts.all (fun c => c.before a st) := by
  induction ts with
  | nil => rfl
  | cons c t ih =>
    show (Jvm.Cond.and c (allAtoms t)).before a st = _
    rw [Jvm.Cond.before_and, ih, List.all_cons]
def words1 : List Jvm.Cond := Jvm.Cond.code x code maxLocals ret :: tables_1
/-- a 'code' word, met by the world's own term for the bytes: nothing is compared byte by byte -/
theorem code_word {y : MethodName} {bytes : ByteArray} {mx : Nat} {rt : Option FieldType} {a : Array Value} {s : State} {m : MethodId} {meth : Method} {c : Code} (h1 : s.methodNamed? y = some m) (h2 : s.vm.method? m = some meth) (h3 : meth.code = some c) (h4 : c.code = bytes)
    (h5 : (c.maxLocals == mx && c.exceptionTable.isEmpty && decide (c.maxStack ≤ mostOperands) && decide (meth.sig.returnType = rt) && !meth.locks && decide (parseMethodDescriptor y.desc = some meth.sig)) = true) : (Jvm.Cond.code y bytes mx rt).before a s = true := by
  simp only [Bool.and_eq_true, beq_iff_eq, Bool.not_eq_true', decide_eq_true_eq] at h5
  obtain ⟨⟨⟨⟨⟨g1, g2⟩, g3⟩, g4⟩, g5⟩, g6⟩ := h5
  simp [Cond.before, Cond.holds, Cond.value, h1, h2, h3, h4, g1, g2, g3, g4, g5, g6]
def isCode : Jvm.Cond → Bool
  | .code _ _ _ _ => true
  | _ => false
theorem all_split {L : List Jvm.Cond} {P : Jvm.Cond → Bool} (h1 : L.all (fun c => isCode c || P c) = true) (h2 : ∀ c ∈ L.filter isCode, P c = true) : L.all P = true := by
  refine List.all_eq_true.mpr fun c hc => ?_
  have h := List.all_eq_true.mp h1 c hc
  rcases Bool.eq_false_or_eq_true (isCode c) with hi | hi
  · exact h2 c (List.mem_filter.mpr ⟨hc, hi⟩)
  · simpa [hi] using h
set_option maxRecDepth 65536 in
theorem w_c0 : (Jvm.Cond.code x code maxLocals ret).before args0 about1 = true := code_word (m := ⟨1, 1⟩) (meth := k1m1) (c := k1c1) (by decide +kernel) rfl rfl rfl (by decide +kernel)
set_option maxRecDepth 65536 in
theorem w_c1 : (Jvm.Cond.code ({ cls := "com/example/patient_outbox/patientoutbox/db/StorableTextPinLaw", name := "draw", desc := "(I)C" } : Jvm.MethodName) method_3_code (2 : Nat) (Option.some Jvm.ClassFile.FieldType.char)).before args0 about1 = true := code_word (m := ⟨1, 2⟩) (meth := k1m2) (c := k1c2) (by decide +kernel) rfl rfl rfl (by decide +kernel)
set_option maxRecDepth 65536 in
theorem w_c2 : (Jvm.Cond.code ({ cls := "java/lang/String", name := "<init>", desc := "([C)V" } : Jvm.MethodName) jdk_42_method_3_code (2 : Nat) (Option.none : Option Jvm.ClassFile.FieldType)).before args0 about1 = true := code_word (m := ⟨7, 1⟩) (meth := k7m1) (c := k7c1) (by decide +kernel) rfl rfl rfl (by decide +kernel)
set_option maxRecDepth 65536 in
theorem w_c3 : (Jvm.Cond.code ({ cls := "java/lang/String", name := "<init>", desc := "([CIILjava/lang/Void;)V" } : Jvm.MethodName) jdk_42_method_149_code (6 : Nat) (Option.none : Option Jvm.ClassFile.FieldType)).before args0 about1 = true := code_word (m := ⟨7, 4⟩) (meth := k7m4) (c := k7c4) (by decide +kernel) rfl rfl rfl (by decide +kernel)
set_option maxRecDepth 65536 in
theorem w_c4 : (Jvm.Cond.code ({ cls := "java/lang/Object", name := "<init>", desc := "()V" } : Jvm.MethodName) object_method_1_code (1 : Nat) (Option.none : Option Jvm.ClassFile.FieldType)).before args0 about1 = true := code_word (m := ⟨0, 0⟩) (meth := k0m0) (c := k0c0) (by decide +kernel) rfl rfl rfl (by decide +kernel)
set_option maxRecDepth 65536 in
theorem w_c5 : (Jvm.Cond.code ({ cls := "com/example/patient_outbox/patientoutbox/db/Storable", name := "text", desc := "(Ljava/lang/String;Ljava/lang/String;)V" } : Jvm.MethodName) prog_18_method_2_code (4 : Nat) (Option.none : Option Jvm.ClassFile.FieldType)).before args0 about1 = true := code_word (m := ⟨8, 0⟩) (meth := k8m0) (c := k8c0) (by decide +kernel) rfl rfl rfl (by decide +kernel)
set_option maxRecDepth 65536 in
theorem w_c6 : (Jvm.Cond.code ({ cls := "java/lang/String", name := "length", desc := "()I" } : Jvm.MethodName) jdk_42_method_54_code (1 : Nat) (Option.some Jvm.ClassFile.FieldType.int)).before args0 about1 = true := code_word (m := ⟨7, 2⟩) (meth := k7m2) (c := k7c2) (by decide +kernel) rfl rfl rfl (by decide +kernel)
set_option maxRecDepth 65536 in
theorem w_c7 : (Jvm.Cond.code ({ cls := "java/lang/String", name := "coder", desc := "()B" } : Jvm.MethodName) jdk_42_method_152_code (1 : Nat) (Option.some Jvm.ClassFile.FieldType.byte)).before args0 about1 = true := code_word (m := ⟨7, 5⟩) (meth := k7m5) (c := k7c5) (by decide +kernel) rfl rfl rfl (by decide +kernel)
set_option maxRecDepth 65536 in
theorem w_c8 : (Jvm.Cond.code ({ cls := "com/example/patient_outbox/patientoutbox/db/StorableTextPinLaw", name := "ok", desc := "(CZCZC)Z" } : Jvm.MethodName) method_6_code (5 : Nat) (Option.some Jvm.ClassFile.FieldType.boolean)).before args0 about1 = true := code_word (m := ⟨1, 5⟩) (meth := k1m5) (c := k1c5) (by decide +kernel) rfl rfl rfl (by decide +kernel)
set_option maxRecDepth 65536 in
theorem w_c9 : (Jvm.Cond.code ({ cls := "com/example/patient_outbox/patientoutbox/db/StorableTextPinLaw", name := "isHigh", desc := "(C)Z" } : Jvm.MethodName) method_4_code (1 : Nat) (Option.some Jvm.ClassFile.FieldType.boolean)).before args0 about1 = true := code_word (m := ⟨1, 3⟩) (meth := k1m3) (c := k1c3) (by decide +kernel) rfl rfl rfl (by decide +kernel)
set_option maxRecDepth 65536 in
theorem w_c10 : (Jvm.Cond.code ({ cls := "com/example/patient_outbox/patientoutbox/db/StorableTextPinLaw", name := "isLow", desc := "(C)Z" } : Jvm.MethodName) method_5_code (1 : Nat) (Option.some Jvm.ClassFile.FieldType.boolean)).before args0 about1 = true := code_word (m := ⟨1, 4⟩) (meth := k1m4) (c := k1c4) (by decide +kernel) rfl rfl rfl (by decide +kernel)
set_option maxRecDepth 65536 in
theorem w_c11 : (Jvm.Cond.code ({ cls := "java/lang/StringUTF16", name := "compress", desc := "([CII)[B" } : Jvm.MethodName) jdk_52_method_16_code (6 : Nat) (Option.some (Jvm.ClassFile.FieldType.array Jvm.ClassFile.FieldType.byte))).before args0 about1 = true := code_word (m := ⟨9, 9⟩) (meth := k9m9) (c := k9c9) (by decide +kernel) rfl rfl rfl (by decide +kernel)
set_option maxRecDepth 65536 in
theorem w_c12 : (Jvm.Cond.code ({ cls := "java/lang/StringUTF16", name := "compress", desc := "([CI[BII)I" } : Jvm.MethodName) jdk_52_method_21_code (7 : Nat) (Option.some Jvm.ClassFile.FieldType.int)).before args0 about1 = true := code_word (m := ⟨9, 10⟩) (meth := k9m10) (c := k9c10) (by decide +kernel) rfl rfl rfl (by decide +kernel)
set_option maxRecDepth 65536 in
theorem w_c13 : (Jvm.Cond.code ({ cls := "java/lang/StringUTF16", name := "coderFromArrayLen", desc := "([BI)B" } : Jvm.MethodName) jdk_52_method_15_code (2 : Nat) (Option.some Jvm.ClassFile.FieldType.byte)).before args0 about1 = true := code_word (m := ⟨9, 8⟩) (meth := k9m8) (c := k9c8) (by decide +kernel) rfl rfl rfl (by decide +kernel)
set_option maxRecDepth 65536 in
theorem w_c14 : (Jvm.Cond.code ({ cls := "java/lang/String", name := "codePointAt", desc := "(I)I" } : Jvm.MethodName) jdk_42_method_57_code (3 : Nat) (Option.some Jvm.ClassFile.FieldType.int)).before args0 about1 = true := code_word (m := ⟨7, 3⟩) (meth := k7m3) (c := k7c3) (by decide +kernel) rfl rfl rfl (by decide +kernel)
set_option maxRecDepth 65536 in
theorem w_c15 : (Jvm.Cond.code ({ cls := "java/lang/String", name := "isLatin1", desc := "()Z" } : Jvm.MethodName) jdk_42_method_154_code (1 : Nat) (Option.some Jvm.ClassFile.FieldType.boolean)).before args0 about1 = true := code_word (m := ⟨7, 6⟩) (meth := k7m6) (c := k7c6) (by decide +kernel) rfl rfl rfl (by decide +kernel)
set_option maxRecDepth 65536 in
theorem w_c16 : (Jvm.Cond.code ({ cls := "java/lang/String", name := "checkIndex", desc := "(II)V" } : Jvm.MethodName) jdk_42_method_155_code (2 : Nat) (Option.none : Option Jvm.ClassFile.FieldType)).before args0 about1 = true := code_word (m := ⟨7, 7⟩) (meth := k7m7) (c := k7c7) (by decide +kernel) rfl rfl rfl (by decide +kernel)
set_option maxRecDepth 65536 in
theorem w_c17 : (Jvm.Cond.code ({ cls := "jdk/internal/util/Preconditions", name := "checkIndex", desc := "(IILjava/util/function/BiFunction;)I" } : Jvm.MethodName) jdk_41_method_11_code (3 : Nat) (Option.some Jvm.ClassFile.FieldType.int)).before args0 about1 = true := code_word (m := ⟨10, 1⟩) (meth := k10m1) (c := k10c1) (by decide +kernel) rfl rfl rfl (by decide +kernel)
set_option maxRecDepth 65536 in
theorem w_c18 : (Jvm.Cond.code ({ cls := "java/lang/Character", name := "charCount", desc := "(I)I" } : Jvm.MethodName) jdk_89_method_18_code (1 : Nat) (Option.some Jvm.ClassFile.FieldType.int)).before args0 about1 = true := code_word (m := ⟨11, 2⟩) (meth := k11m2) (c := k11c2) (by decide +kernel) rfl rfl rfl (by decide +kernel)
set_option maxRecDepth 65536 in
theorem w_c19 : (Jvm.Cond.code ({ cls := "java/lang/StringUTF16", name := "toBytes", desc := "([CII)[B" } : Jvm.MethodName) jdk_52_method_14_code (5 : Nat) (Option.some (Jvm.ClassFile.FieldType.array Jvm.ClassFile.FieldType.byte))).before args0 about1 = true := code_word (m := ⟨9, 7⟩) (meth := k9m7) (c := k9c7) (by decide +kernel) rfl rfl rfl (by decide +kernel)
set_option maxRecDepth 65536 in
theorem w_c20 : (Jvm.Cond.code ({ cls := "java/lang/StringUTF16", name := "newBytesFor", desc := "(I)[B" } : Jvm.MethodName) jdk_52_method_2_code (1 : Nat) (Option.some (Jvm.ClassFile.FieldType.array Jvm.ClassFile.FieldType.byte))).before args0 about1 = true := code_word (m := ⟨9, 1⟩) (meth := k9m1) (c := k9c1) (by decide +kernel) rfl rfl rfl (by decide +kernel)
set_option maxRecDepth 65536 in
theorem w_c21 : (Jvm.Cond.code ({ cls := "java/lang/StringUTF16", name := "newBytesLength", desc := "(I)I" } : Jvm.MethodName) jdk_52_method_3_code (1 : Nat) (Option.some Jvm.ClassFile.FieldType.int)).before args0 about1 = true := code_word (m := ⟨9, 2⟩) (meth := k9m2) (c := k9c2) (by decide +kernel) rfl rfl rfl (by decide +kernel)
set_option maxRecDepth 65536 in
theorem w_c22 : (Jvm.Cond.code ({ cls := "java/lang/StringUTF16", name := "putChar", desc := "([BII)V" } : Jvm.MethodName) jdk_52_method_4_code (3 : Nat) (Option.none : Option Jvm.ClassFile.FieldType)).before args0 about1 = true := code_word (m := ⟨9, 3⟩) (meth := k9m3) (c := k9c3) (by decide +kernel) rfl rfl rfl (by decide +kernel)
set_option maxRecDepth 65536 in
theorem w_c23 : (Jvm.Cond.code ({ cls := "java/lang/StringUTF16", name := "getChar", desc := "([BI)C" } : Jvm.MethodName) jdk_52_method_5_code (2 : Nat) (Option.some Jvm.ClassFile.FieldType.char)).before args0 about1 = true := code_word (m := ⟨9, 4⟩) (meth := k9m4) (c := k9c4) (by decide +kernel) rfl rfl rfl (by decide +kernel)
set_option maxRecDepth 65536 in
theorem w_c24 : (Jvm.Cond.code ({ cls := "java/lang/StringUTF16", name := "codePointAt", desc := "([BII)I" } : Jvm.MethodName) jdk_52_method_8_code (3 : Nat) (Option.some Jvm.ClassFile.FieldType.int)).before args0 about1 = true := code_word (m := ⟨9, 6⟩) (meth := k9m6) (c := k9c6) (by decide +kernel) rfl rfl rfl (by decide +kernel)
set_option maxRecDepth 65536 in
theorem w_c25 : (Jvm.Cond.code ({ cls := "java/lang/StringUTF16", name := "codePointAt", desc := "([BIIZ)I" } : Jvm.MethodName) jdk_52_method_7_code (6 : Nat) (Option.some Jvm.ClassFile.FieldType.int)).before args0 about1 = true := code_word (m := ⟨9, 5⟩) (meth := k9m5) (c := k9c5) (by decide +kernel) rfl rfl rfl (by decide +kernel)
set_option maxRecDepth 65536 in
theorem w_c26 : (Jvm.Cond.code ({ cls := "java/lang/Character", name := "isHighSurrogate", desc := "(C)Z" } : Jvm.MethodName) jdk_89_method_14_code (1 : Nat) (Option.some Jvm.ClassFile.FieldType.boolean)).before args0 about1 = true := code_word (m := ⟨11, 0⟩) (meth := k11m0) (c := k11c0) (by decide +kernel) rfl rfl rfl (by decide +kernel)
set_option maxRecDepth 65536 in
theorem w_c27 : (Jvm.Cond.code ({ cls := "java/lang/Character", name := "isLowSurrogate", desc := "(C)Z" } : Jvm.MethodName) jdk_89_method_15_code (1 : Nat) (Option.some Jvm.ClassFile.FieldType.boolean)).before args0 about1 = true := code_word (m := ⟨11, 1⟩) (meth := k11m1) (c := k11c1) (by decide +kernel) rfl rfl rfl (by decide +kernel)
set_option maxRecDepth 65536 in
theorem w_c28 : (Jvm.Cond.code ({ cls := "java/lang/Character", name := "toCodePoint", desc := "(CC)I" } : Jvm.MethodName) jdk_89_method_19_code (2 : Nat) (Option.some Jvm.ClassFile.FieldType.int)).before args0 about1 = true := code_word (m := ⟨11, 3⟩) (meth := k11m3) (c := k11c3) (by decide +kernel) rfl rfl rfl (by decide +kernel)
def codes1 : List Jvm.Cond := [Jvm.Cond.code x code maxLocals ret, Jvm.Cond.code ({ cls := "com/example/patient_outbox/patientoutbox/db/StorableTextPinLaw", name := "draw", desc := "(I)C" } : Jvm.MethodName) method_3_code (2 : Nat) (Option.some Jvm.ClassFile.FieldType.char), Jvm.Cond.code ({ cls := "java/lang/String", name := "<init>", desc := "([C)V" } : Jvm.MethodName) jdk_42_method_3_code (2 : Nat) (Option.none : Option Jvm.ClassFile.FieldType), Jvm.Cond.code ({ cls := "java/lang/String", name := "<init>", desc := "([CIILjava/lang/Void;)V" } : Jvm.MethodName) jdk_42_method_149_code (6 : Nat) (Option.none : Option Jvm.ClassFile.FieldType), Jvm.Cond.code ({ cls := "java/lang/Object", name := "<init>", desc := "()V" } : Jvm.MethodName) object_method_1_code (1 : Nat) (Option.none : Option Jvm.ClassFile.FieldType), Jvm.Cond.code ({ cls := "com/example/patient_outbox/patientoutbox/db/Storable", name := "text", desc := "(Ljava/lang/String;Ljava/lang/String;)V" } : Jvm.MethodName) prog_18_method_2_code (4 : Nat) (Option.none : Option Jvm.ClassFile.FieldType), Jvm.Cond.code ({ cls := "java/lang/String", name := "length", desc := "()I" } : Jvm.MethodName) jdk_42_method_54_code (1 : Nat) (Option.some Jvm.ClassFile.FieldType.int), Jvm.Cond.code ({ cls := "java/lang/String", name := "coder", desc := "()B" } : Jvm.MethodName) jdk_42_method_152_code (1 : Nat) (Option.some Jvm.ClassFile.FieldType.byte), Jvm.Cond.code ({ cls := "com/example/patient_outbox/patientoutbox/db/StorableTextPinLaw", name := "ok", desc := "(CZCZC)Z" } : Jvm.MethodName) method_6_code (5 : Nat) (Option.some Jvm.ClassFile.FieldType.boolean), Jvm.Cond.code ({ cls := "com/example/patient_outbox/patientoutbox/db/StorableTextPinLaw", name := "isHigh", desc := "(C)Z" } : Jvm.MethodName) method_4_code (1 : Nat) (Option.some Jvm.ClassFile.FieldType.boolean), Jvm.Cond.code ({ cls := "com/example/patient_outbox/patientoutbox/db/StorableTextPinLaw", name := "isLow", desc := "(C)Z" } : Jvm.MethodName) method_5_code (1 : Nat) (Option.some Jvm.ClassFile.FieldType.boolean), Jvm.Cond.code ({ cls := "java/lang/StringUTF16", name := "compress", desc := "([CII)[B" } : Jvm.MethodName) jdk_52_method_16_code (6 : Nat) (Option.some (Jvm.ClassFile.FieldType.array Jvm.ClassFile.FieldType.byte)), Jvm.Cond.code ({ cls := "java/lang/StringUTF16", name := "compress", desc := "([CI[BII)I" } : Jvm.MethodName) jdk_52_method_21_code (7 : Nat) (Option.some Jvm.ClassFile.FieldType.int), Jvm.Cond.code ({ cls := "java/lang/StringUTF16", name := "coderFromArrayLen", desc := "([BI)B" } : Jvm.MethodName) jdk_52_method_15_code (2 : Nat) (Option.some Jvm.ClassFile.FieldType.byte), Jvm.Cond.code ({ cls := "java/lang/String", name := "codePointAt", desc := "(I)I" } : Jvm.MethodName) jdk_42_method_57_code (3 : Nat) (Option.some Jvm.ClassFile.FieldType.int), Jvm.Cond.code ({ cls := "java/lang/String", name := "isLatin1", desc := "()Z" } : Jvm.MethodName) jdk_42_method_154_code (1 : Nat) (Option.some Jvm.ClassFile.FieldType.boolean), Jvm.Cond.code ({ cls := "java/lang/String", name := "checkIndex", desc := "(II)V" } : Jvm.MethodName) jdk_42_method_155_code (2 : Nat) (Option.none : Option Jvm.ClassFile.FieldType), Jvm.Cond.code ({ cls := "jdk/internal/util/Preconditions", name := "checkIndex", desc := "(IILjava/util/function/BiFunction;)I" } : Jvm.MethodName) jdk_41_method_11_code (3 : Nat) (Option.some Jvm.ClassFile.FieldType.int), Jvm.Cond.code ({ cls := "java/lang/Character", name := "charCount", desc := "(I)I" } : Jvm.MethodName) jdk_89_method_18_code (1 : Nat) (Option.some Jvm.ClassFile.FieldType.int), Jvm.Cond.code ({ cls := "java/lang/StringUTF16", name := "toBytes", desc := "([CII)[B" } : Jvm.MethodName) jdk_52_method_14_code (5 : Nat) (Option.some (Jvm.ClassFile.FieldType.array Jvm.ClassFile.FieldType.byte)), Jvm.Cond.code ({ cls := "java/lang/StringUTF16", name := "newBytesFor", desc := "(I)[B" } : Jvm.MethodName) jdk_52_method_2_code (1 : Nat) (Option.some (Jvm.ClassFile.FieldType.array Jvm.ClassFile.FieldType.byte)), Jvm.Cond.code ({ cls := "java/lang/StringUTF16", name := "newBytesLength", desc := "(I)I" } : Jvm.MethodName) jdk_52_method_3_code (1 : Nat) (Option.some Jvm.ClassFile.FieldType.int), Jvm.Cond.code ({ cls := "java/lang/StringUTF16", name := "putChar", desc := "([BII)V" } : Jvm.MethodName) jdk_52_method_4_code (3 : Nat) (Option.none : Option Jvm.ClassFile.FieldType), Jvm.Cond.code ({ cls := "java/lang/StringUTF16", name := "getChar", desc := "([BI)C" } : Jvm.MethodName) jdk_52_method_5_code (2 : Nat) (Option.some Jvm.ClassFile.FieldType.char), Jvm.Cond.code ({ cls := "java/lang/StringUTF16", name := "codePointAt", desc := "([BII)I" } : Jvm.MethodName) jdk_52_method_8_code (3 : Nat) (Option.some Jvm.ClassFile.FieldType.int), Jvm.Cond.code ({ cls := "java/lang/StringUTF16", name := "codePointAt", desc := "([BIIZ)I" } : Jvm.MethodName) jdk_52_method_7_code (6 : Nat) (Option.some Jvm.ClassFile.FieldType.int), Jvm.Cond.code ({ cls := "java/lang/Character", name := "isHighSurrogate", desc := "(C)Z" } : Jvm.MethodName) jdk_89_method_14_code (1 : Nat) (Option.some Jvm.ClassFile.FieldType.boolean), Jvm.Cond.code ({ cls := "java/lang/Character", name := "isLowSurrogate", desc := "(C)Z" } : Jvm.MethodName) jdk_89_method_15_code (1 : Nat) (Option.some Jvm.ClassFile.FieldType.boolean), Jvm.Cond.code ({ cls := "java/lang/Character", name := "toCodePoint", desc := "(CC)I" } : Jvm.MethodName) jdk_89_method_19_code (2 : Nat) (Option.some Jvm.ClassFile.FieldType.int)]
set_option maxRecDepth 65536 in
theorem codes_eq : words1.filter isCode = codes1 := rfl
theorem w_codes : ∀ c ∈ words1.filter isCode, c.before args0 about1 = true := by
  rw [codes_eq]
  intro c hc
  simp only [codes1, List.mem_cons, List.not_mem_nil, or_false] at hc
  rcases hc with rfl | rfl | rfl | rfl | rfl | rfl | rfl | rfl | rfl | rfl | rfl | rfl | rfl | rfl | rfl | rfl | rfl | rfl | rfl | rfl | rfl | rfl | rfl | rfl | rfl | rfl | rfl | rfl | rfl
  · exact w_c0
  · exact w_c1
  · exact w_c2
  · exact w_c3
  · exact w_c4
  · exact w_c5
  · exact w_c6
  · exact w_c7
  · exact w_c8
  · exact w_c9
  · exact w_c10
  · exact w_c11
  · exact w_c12
  · exact w_c13
  · exact w_c14
  · exact w_c15
  · exact w_c16
  · exact w_c17
  · exact w_c18
  · exact w_c19
  · exact w_c20
  · exact w_c21
  · exact w_c22
  · exact w_c23
  · exact w_c24
  · exact w_c25
  · exact w_c26
  · exact w_c27
  · exact w_c28
set_option maxRecDepth 65536 in
theorem w_t1 : (words1.take 24).all (fun c => isCode c || c.before args0 about1) = true := by decide +kernel
set_option maxRecDepth 65536 in
theorem w_t2 : ((words1.drop 24).take 24).all (fun c => isCode c || c.before args0 about1) = true := by decide +kernel
set_option maxRecDepth 65536 in
theorem w_t3 : (((words1.drop 24).drop 24).take 24).all (fun c => isCode c || c.before args0 about1) = true := by decide +kernel
set_option maxRecDepth 65536 in
theorem w_t4 : ((((words1.drop 24).drop 24).drop 24).take 24).all (fun c => isCode c || c.before args0 about1) = true := by decide +kernel
set_option maxRecDepth 65536 in
theorem w_t5 : (((((words1.drop 24).drop 24).drop 24).drop 24).take 24).all (fun c => isCode c || c.before args0 about1) = true := by decide +kernel
set_option maxRecDepth 65536 in
theorem w_t6 : (((((words1.drop 24).drop 24).drop 24).drop 24).drop 24).all (fun c => isCode c || c.before args0 about1) = true := by decide +kernel
theorem w_tables : (allAtoms (Jvm.Cond.code x code maxLocals ret :: tables_1)).before args0 about1 = true := by
  rw [allAtoms_all]
  show words1.all (fun c => c.before args0 about1) = true
  refine all_split ?_ w_codes
  rw [← List.take_append_drop 24 words1, List.all_append, w_t1, ← List.take_append_drop 24 (words1.drop 24), List.all_append, w_t2, ← List.take_append_drop 24 ((words1.drop 24).drop 24), List.all_append, w_t3, ← List.take_append_drop 24 (((words1.drop 24).drop 24).drop 24), List.all_append, w_t4, ← List.take_append_drop 24 ((((words1.drop 24).drop 24).drop 24).drop 24), List.all_append, w_t5, w_t6]
  rfl
set_option maxRecDepth 65536 in
theorem w_rest : rest_1_c.before args0 about1 = true := by decide +kernel
set_option maxRecDepth 65536 in
theorem w_case : (Jvm.Cond.and given_1 narrow_1).before args0 about1 = true := by decide +kernel
set_option maxRecDepth 65536 in
theorem w_consts : constsHeld consts_1 about1 := Jvm.Lit.constsHeldB_iff.mp (by decide +kernel)
theorem w_applies : (headSpec (Jvm.Cond.code x code maxLocals ret :: tables_1) room_1).applies x e0.platform about1 = true :=
  (Spec.applies_iff w_frames).mpr ⟨w_running, w_runnable, w_alone, w_named, w_hears, w_ripe, w_room, w_tables⟩
theorem atStart : AtStart classFile x code maxLocals ret World_1 tables_1 room_1 Calls_1 rest_1 Pre_1 launch0 p0 e0 about1 theMethod args0 below0 :=
  ⟨lists_1, trivial, launch0.admits_env _ _ _, launch0.least_env, fairChoices_fair.cas, fairChoices_fair.clock, w_frames, w_args, w_heap, w_applies, ⟨w_consts, trivial⟩, w_rest, w_case⟩
end start1
theorem witness_1 : WitnessClaimed_1 := ⟨start1.p0, start1.e0, start1.about1, start1.theMethod, start1.args0, start1.below0, start1.atStart⟩
end Jvm.Pilot.@@N@@
