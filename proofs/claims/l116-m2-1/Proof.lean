import JvmDerived
import JvmDerived.Pilot.@@N@@Statement
import JvmDerived.Pilot.@@N@@Code
set_option linter.unusedVariables false
set_option linter.unusedSimpArgs false
namespace Jvm.GoKit
open Sem ClassFile Op Lib Jvm.Stand Jvm.Free Jvm.LawKit Jvm.RoadKit
/- own layer: goal-directed steps -/
abbrev fr (m : MethodId) (pc : Nat) (L : List Slot) (st : List Value) : JFrame := mkF m pc ⟨L⟩ st
def Go (p : Program) (e : Env) (below : List Frame) (Q : Outcome → State → Prop) (t : State) : Prop :=
  ∃ s₂ o, Steps p.tables e below t s₂ ∧ s₂.status = .running ∧ Ended s₂ below o ∧ Q o s₂
def lk : List Slot → Nat → Option Slot
  | [], _ => none
  | a :: _, 0 => some a
  | _ :: t, n + 1 => lk t n
def put1 : List Slot → Nat → Slot → List Slot
  | [], _, _ => []
  | _ :: t, 0, v => v :: t
  | a :: t, n + 1, v => a :: put1 t n v
def one : Slot → Bool
  | .unset => true
  | .val (.int _) => true
  | .val (.float _) => true
  | .val (.ref _) => true
  | .val .null => true
  | _ => false
def two : Slot → Bool
  | .val (.long _) => true
  | .val (.double _) => true
  | _ => false
theorem lk_eq : ∀ (L : List Slot) (k : Nat), lk L k = L[k]?
  | [], _ => by simp [lk]
  | a :: _, 0 => by simp [lk]
  | _ :: t, n + 1 => by simp [lk, lk_eq t n]
theorem put1_eq : ∀ (L : List Slot) (k : Nat) (v : Slot), put1 L k v = L.set k v
  | [], _, _ => by simp [put1]
  | _ :: t, 0, v => by simp [put1]
  | a :: t, n + 1, v => by simp [put1, put1_eq t n v]
theorem lk_arr {L : List Slot} {k : Nat} {o : Slot} (h : lk L k = some o) : (Array.mk L)[k]? = some o := by rw [lk_eq] at h; simpa using h
theorem one_or {o : Slot} (h : one o = true) : o = .unset ∨ ∃ w, o = .val w ∧ w.category = 1 := by
  cases o with
  | unset => exact Or.inl rfl
  | second => simp [one] at h
  | val w => cases w <;> first | exact Or.inr ⟨_, rfl, rfl⟩ | (simp [one] at h; done)
theorem st1 {L : List Slot} {k : Nat} {o : Slot} {v : Value} (hl : lk L k = some o) (ho : one o = true) (hv : v.category = 1) : storeLocals ⟨L⟩ k v = some ⟨put1 L k (.val v)⟩ := by
  rw [XS.store1 (lk_arr hl) (one_or ho) hv, put1_eq]
  simp
theorem st2 {L : List Slot} {k : Nat} {o o' : Slot} {v : Value} (hl : lk L k = some o) (hl' : lk L (k + 1) = some o') (ho : (one o || two o) = true) (ho' : two o' = false) (hv : v.category = 2) :
    storeLocals ⟨L⟩ k v = some ⟨put1 (put1 L k (.val v)) (k + 1) .second⟩ := by
  rw [put1_eq, put1_eq]
  rw [lk_eq] at hl hl'
  obtain ⟨hi, e1⟩ := List.getElem?_eq_some_iff.mp hl
  obtain ⟨hi', e2⟩ := List.getElem?_eq_some_iff.mp hl'
  have a1 : (Array.mk L)[k]? = some o := by simpa using hl
  have key : ∀ L1 : List Slot, L1.length = L.length → (∃ w, L1[k + 1]? = some w ∧ two w = false) → (L1.set k (.val v)).set (k + 1) .second = (L.set k (.val v)).set (k + 1) .second → storeSelf ⟨L1⟩ k v = some ⟨(L.set k (.val v)).set (k + 1) .second⟩ := by
    intro L1 hlen hw heq
    obtain ⟨w, hw1, hw2⟩ := hw
    have b1 : ((Array.mk L1).setIfInBounds k (.val v))[k + 1]? = some w := by
      simp [List.getElem?_set, hw1]
    unfold storeSelf
    simp only [setAt, hv, if_true]
    rw [if_pos (by simpa [hlen] using hi)]
    simp only [Option.bind_eq_bind, Option.bind_some, b1]
    have fin : (if k + 1 < ((Array.mk L1).setIfInBounds k (.val v)).size then some (((Array.mk L1).setIfInBounds k (.val v)).setIfInBounds (k + 1) Slot.second) else none) = some ⟨(L.set k (.val v)).set (k + 1) .second⟩ := by
      rw [if_pos (by simpa [hlen] using hi')]
      simpa using heq
    cases w with
    | unset => exact fin
    | second => exact fin
    | val w => cases w <;> first | exact fin | (simp [two] at hw2; done)
  unfold storeLocals
  simp only [a1, Option.bind_eq_bind, Option.bind_some]
  have plain := key L rfl ⟨o', hl', ho'⟩ rfl
  cases o with
  | unset => exact plain
  | second => simp [one, two] at ho
  | val w =>
    cases w with
    | long z => 
      simp only [Value.category, if_true, setAt]
      rw [if_pos (by simpa using hi')]
      simp only [Option.bind_some]
      have := key (L.set (k + 1) .unset) (by simp) ⟨.unset, by simp [hi'], rfl⟩ (by
        apply List.ext_getElem?
        intro i
        simp only [List.getElem?_set, List.length_set]
        repeat' split
        all_goals first | rfl | omega | simp_all)
      simpa using this
    | double z =>
      simp only [Value.category, if_true, setAt]
      rw [if_pos (by simpa using hi')]
      simp only [Option.bind_some]
      have := key (L.set (k + 1) .unset) (by simp) ⟨.unset, by simp [hi'], rfl⟩ (by
        apply List.ext_getElem?
        intro i
        simp only [List.getElem?_set, List.length_set]
        repeat' split
        all_goals first | rfl | omega | simp_all)
      simpa using this
    | _ => first | exact plain | (simp [one, two] at ho; done)
theorem nl {a b : Nat} (h : Nat.ble (a + 1) b = true := by rfl) : a < b := Nat.le_of_ble_eq_true h
theorem Fr.low {k k' : Nat} {L : List Loc} (N : Fr k L) (q : k' ≤ k) : Fr k' L := fun y hy => Nat.le_trans q (N y hy)
theorem nb {a b : Nat} (h : Nat.ble a b = true := by rfl) : a ≤ b := Nat.le_of_ble_eq_true h
def CP : ClassFile.Cond → Int32 → Int32 → Prop
  | .eq, x, y => x = y
  | .ne, x, y => ¬ x = y
  | .lt, x, y => x < y
  | .ge, x, y => ¬ x < y
  | .gt, x, y => y < x
  | .le, x, y => ¬ y < x
def CN : ClassFile.Cond → Int32 → Int32 → Prop
  | .eq, x, y => ¬ x = y
  | .ne, x, y => x = y
  | .lt, x, y => ¬ x < y
  | .ge, x, y => x < y
  | .gt, x, y => ¬ y < x
  | .le, x, y => y < x
instance (cd : ClassFile.Cond) (x y : Int32) : Decidable (CP cd x y) := match cd with
  | .eq => inferInstanceAs (Decidable (x = y))
  | .ne => inferInstanceAs (Decidable (¬ x = y))
  | .lt => inferInstanceAs (Decidable (x < y))
  | .ge => inferInstanceAs (Decidable (¬ x < y))
  | .gt => inferInstanceAs (Decidable (y < x))
  | .le => inferInstanceAs (Decidable (¬ y < x))
instance (cd : ClassFile.Cond) (x y : Int32) : Decidable (CN cd x y) := match cd with
  | .eq => inferInstanceAs (Decidable (¬ x = y))
  | .ne => inferInstanceAs (Decidable (x = y))
  | .lt => inferInstanceAs (Decidable (¬ x < y))
  | .ge => inferInstanceAs (Decidable (x < y))
  | .gt => inferInstanceAs (Decidable (¬ y < x))
  | .le => inferInstanceAs (Decidable (y < x))
theorem CP.holds {cd : ClassFile.Cond} {x y : Int32} (h : CP cd x y) : if_icmp.holds cd x y = true := by
  cases cd
  · exact (teq h).1
  · exact (feq h).2
  · exact (tlt h).1
  · exact (flt h).2.1
  · exact (tlt h).2.2.1
  · exact (flt h).2.2.2
theorem CN.holds {cd : ClassFile.Cond} {x y : Int32} (h : CN cd x y) : if_icmp.holds cd x y = false := by
  cases cd
  · exact (feq h).1
  · exact (teq h).2
  · exact (flt h).1
  · exact (tlt h).2.1
  · exact (flt h).2.2.1
  · exact (tlt h).2.2.2
theorem cp_or (cd : ClassFile.Cond) (x y : Int32) : CP cd x y ∨ CN cd x y := by
  cases cd
  · exact Classical.em _
  · exact (Classical.em (x = y)).symm
  · exact Classical.em _
  · exact (Classical.em (x < y)).symm
  · exact Classical.em _
  · exact (Classical.em (y < x)).symm
/-- what a body's walk knows besides where it stands -/
def Ctx (p : Program) (Z : State) (s : State) (m : MethodId) (meth : Method) (c : Code) (own nm : String) (bytes : ByteArray) (maxL : Nat) (ret : Option FieldType) : Prop :=
  p.tables.exec = Jvm.exec ∧ c.code = bytes ∧ c.maxLocals = maxL ∧ s.vm.findClass own = some m.cls ∧ meth.name = nm ∧ Z.Warmed39 s.vm ∧ meth.sig.returnType = ret ∧ meth.locks = false
/-- the end that a contract asks -/
def End (s : State) (C S : Nat) (Q : Option Value → Heap → List Loc → Prop) (o : Outcome) (U' : State) : Prop := ∃ v L, o = .returned v ∧ Q v U'.heap L ∧ FrameEnd s o U' L C S
section
variable {p : Program} {l : Launch} {e : Env} {R : Room} {s : State} {m : MethodId} {args : Array Value} {below : List Frame} {meth : Method} {c : Code} {T : State} {locs : List Loc} {cells slots : Nat}
  {Z : State} {own nm : String} {bytes : ByteArray} {maxL : Nat} {ret : Option FieldType} {Q : Outcome → State → Prop} {pc pc' pcT : Nat} {L : List Slot} {st : List Value} {a0 : Array Value} {h : Heap}
theorem Ctx.hx (B : Ctx p Z s m meth c own nm bytes maxL ret) : p.tables.exec = Jvm.exec := B.1
theorem Ctx.by' (B : Ctx p Z s m meth c own nm bytes maxL ret) : c.code = bytes := B.2.1
theorem Ctx.ml (B : Ctx p Z s m meth c own nm bytes maxL ret) : c.maxLocals = maxL := B.2.2.1
theorem Ctx.cl (B : Ctx p Z s m meth c own nm bytes maxL ret) : s.vm.findClass own = some m.cls := B.2.2.2.1
theorem Ctx.na (B : Ctx p Z s m meth c own nm bytes maxL ret) : meth.name = nm := B.2.2.2.2.1
theorem Ctx.hZ (B : Ctx p Z s m meth c own nm bytes maxL ret) : Z.Warmed39 s.vm := B.2.2.2.2.2.1
theorem Ctx.re (B : Ctx p Z s m meth c own nm bytes maxL ret) : meth.sig.returnType = ret := B.2.2.2.2.2.2.1
theorem Ctx.lk (B : Ctx p Z s m meth c own nm bytes maxL ret) : meth.locks = false := B.2.2.2.2.2.2.2
theorem Go.of {t t' : State} (h : ∀ u, Steps p.tables e below t' u → Steps p.tables e below t u) (k : Go p e below Q t') : Go p e below Q t := by
  obtain ⟨s₂, o, h1, h2⟩ := k
  exact ⟨s₂, o, h _ h1, h2⟩
theorem Go.come {t t' : State} (h : Steps p.tables e below t t') (k : Go p e below Q t') : Go p e below Q t := Go.of (fun _ q => h.trans q) k

theorem Go.iloadN (B : Ctx p Z s m meth c own nm bytes maxL ret) (X : Stand p l e R s m args below meth c T locs cells slots) {k : Fin 4} {v : Int32} (hd : decode bytes pc = .ok (.iload_n k, 1)) (hp : pc + 1 = pc') (hl : lk L k.val = some (.val (.int v)))
    (k : Go p e below Q (T.setTop (fr m pc' L (.int v :: st)))) : Go p e below Q (T.setTop (fr m pc L (st))) := by
  subst hp
  exact Go.of (fun _ q => XS.iloadN X.here B.hx rfl (hb B.by' hd) (lk_arr hl) q) k
theorem Go.iload (B : Ctx p Z s m meth c own nm bytes maxL ret) (X : Stand p l e R s m args below meth c T locs cells slots) {k : Nat} {v : Int32} (hd : decode bytes pc = .ok (.iload k, 2)) (hp : pc + 2 = pc') (hl : lk L k = some (.val (.int v)))
    (k : Go p e below Q (T.setTop (fr m pc' L (.int v :: st)))) : Go p e below Q (T.setTop (fr m pc L (st))) := by
  subst hp
  exact Go.of (fun _ q => XS.iload X.here B.hx rfl (hb B.by' hd) (lk_arr hl) q) k
theorem Go.lloadN (B : Ctx p Z s m meth c own nm bytes maxL ret) (X : Stand p l e R s m args below meth c T locs cells slots) {k : Fin 4} {v : Int64} (hd : decode bytes pc = .ok (.lload_n k, 1)) (hp : pc + 1 = pc') (hl : lk L k.val = some (.val (.long v)))
    (k : Go p e below Q (T.setTop (fr m pc' L (.long v :: st)))) : Go p e below Q (T.setTop (fr m pc L (st))) := by
  subst hp
  exact Go.of (fun _ q => XS.lloadN X.here B.hx rfl (hb B.by' hd) (lk_arr hl) q) k
theorem Go.lload (B : Ctx p Z s m meth c own nm bytes maxL ret) (X : Stand p l e R s m args below meth c T locs cells slots) {k : Nat} {v : Int64} (hd : decode bytes pc = .ok (.lload k, 2)) (hp : pc + 2 = pc') (hl : lk L k = some (.val (.long v)))
    (k : Go p e below Q (T.setTop (fr m pc' L (.long v :: st)))) : Go p e below Q (T.setTop (fr m pc L (st))) := by
  subst hp
  exact Go.of (fun _ q => XS.lload X.here B.hx rfl (hb B.by' hd) (lk_arr hl) q) k
theorem Go.dloadN (B : Ctx p Z s m meth c own nm bytes maxL ret) (X : Stand p l e R s m args below meth c T locs cells slots) {k : Fin 4} {v : UInt64} (hd : decode bytes pc = .ok (.dload_n k, 1)) (hp : pc + 1 = pc') (hl : lk L k.val = some (.val (.double v)))
    (k : Go p e below Q (T.setTop (fr m pc' L (.double v :: st)))) : Go p e below Q (T.setTop (fr m pc L (st))) := by
  subst hp
  exact Go.of (fun _ q => XS.dloadN X.here B.hx rfl (hb B.by' hd) (lk_arr hl) q) k
theorem Go.dload (B : Ctx p Z s m meth c own nm bytes maxL ret) (X : Stand p l e R s m args below meth c T locs cells slots) {k : Nat} {v : UInt64} (hd : decode bytes pc = .ok (.dload k, 2)) (hp : pc + 2 = pc') (hl : lk L k = some (.val (.double v)))
    (k : Go p e below Q (T.setTop (fr m pc' L (.double v :: st)))) : Go p e below Q (T.setTop (fr m pc L (st))) := by
  subst hp
  exact Go.of (fun _ q => XS.dload X.here B.hx rfl (hb B.by' hd) (lk_arr hl) q) k
theorem Go.aloadN (B : Ctx p Z s m meth c own nm bytes maxL ret) (X : Stand p l e R s m args below meth c T locs cells slots) {k : Fin 4} {v : Value} (hd : decode bytes pc = .ok (.aload_n k, 1)) (hp : pc + 1 = pc') (hl : lk L k.val = some (.val v)) (hv : v.isRef = true)
    (k : Go p e below Q (T.setTop (fr m pc' L (v :: st)))) : Go p e below Q (T.setTop (fr m pc L (st))) := by
  subst hp
  exact Go.of (fun _ q => XS.aloadN X.here B.hx rfl (hb B.by' hd) (lk_arr hl) hv q) k
theorem Go.aload (B : Ctx p Z s m meth c own nm bytes maxL ret) (X : Stand p l e R s m args below meth c T locs cells slots) {k : Nat} {v : Value} (hd : decode bytes pc = .ok (.aload k, 2)) (hp : pc + 2 = pc') (hl : lk L k = some (.val v)) (hv : v.isRef = true)
    (k : Go p e below Q (T.setTop (fr m pc' L (v :: st)))) : Go p e below Q (T.setTop (fr m pc L (st))) := by
  subst hp
  exact Go.of (fun _ q => XS.aload X.here B.hx rfl (hb B.by' hd) (lk_arr hl) hv q) k
theorem Go.istoreN (B : Ctx p Z s m meth c own nm bytes maxL ret) (X : Stand p l e R s m args below meth c T locs cells slots) {k : Fin 4} {x : Int32} {o : Slot} (hd : decode bytes pc = .ok (.istore_n k, 1)) (hp : pc + 1 = pc') (hl : lk L k.val = some o) (ho : one o = true)
    (k : Go p e below Q (T.setTop (fr m pc' (put1 L k.val (.val (.int x))) (st)))) : Go p e below Q (T.setTop (fr m pc L (.int x :: st))) := by
  subst hp
  exact Go.of (fun _ q => XS.istoreN X.here B.hx rfl (hb B.by' hd) rfl (st1 hl ho rfl) q) k
theorem Go.istore (B : Ctx p Z s m meth c own nm bytes maxL ret) (X : Stand p l e R s m args below meth c T locs cells slots) {k : Nat} {x : Int32} {o : Slot} (hd : decode bytes pc = .ok (.istore k, 2)) (hp : pc + 2 = pc') (hl : lk L k = some o) (ho : one o = true)
    (k : Go p e below Q (T.setTop (fr m pc' (put1 L k (.val (.int x))) (st)))) : Go p e below Q (T.setTop (fr m pc L (.int x :: st))) := by
  subst hp
  exact Go.of (fun _ q => XS.istore X.here B.hx rfl (hb B.by' hd) rfl (st1 hl ho rfl) q) k
theorem Go.astoreN (B : Ctx p Z s m meth c own nm bytes maxL ret) (X : Stand p l e R s m args below meth c T locs cells slots) {k : Fin 4} {x : Value} {o : Slot} (hd : decode bytes pc = .ok (.astore_n k, 1)) (hp : pc + 1 = pc') (hl : lk L k.val = some o) (ho : one o = true) (hv : x.isRef = true)
    (k : Go p e below Q (T.setTop (fr m pc' (put1 L k.val (.val x)) (st)))) : Go p e below Q (T.setTop (fr m pc L (x :: st))) := by
  subst hp
  exact Go.of (fun _ q => XS.astoreN X.here B.hx rfl (hb B.by' hd) rfl hv (st1 hl ho (XT.cat1 hv)) q) k
theorem Go.astore (B : Ctx p Z s m meth c own nm bytes maxL ret) (X : Stand p l e R s m args below meth c T locs cells slots) {k : Nat} {x : Value} {o : Slot} (hd : decode bytes pc = .ok (.astore k, 2)) (hp : pc + 2 = pc') (hl : lk L k = some o) (ho : one o = true) (hv : x.isRef = true)
    (k : Go p e below Q (T.setTop (fr m pc' (put1 L k (.val x)) (st)))) : Go p e below Q (T.setTop (fr m pc L (x :: st))) := by
  subst hp
  exact Go.of (fun _ q => XS.astore X.here B.hx rfl (hb B.by' hd) rfl hv (st1 hl ho (XT.cat1 hv)) q) k
theorem Go.lstoreN (B : Ctx p Z s m meth c own nm bytes maxL ret) (X : Stand p l e R s m args below meth c T locs cells slots) {k : Fin 4} {x : Int64} {o o' : Slot} (hd : decode bytes pc = .ok (.lstore_n k, 1)) (hp : pc + 1 = pc') (hl : lk L k.val = some o) (hl' : lk L (k.val + 1) = some o') (ho : (one o || two o) = true) (ho' : two o' = false)
    (k : Go p e below Q (T.setTop (fr m pc' (put1 (put1 L k.val (.val (.long x))) (k.val + 1) .second) (st)))) : Go p e below Q (T.setTop (fr m pc L (.long x :: st))) := by
  subst hp
  exact Go.of (fun _ q => XS.lstoreN X.here B.hx rfl (hb B.by' hd) rfl (st2 hl hl' ho ho' rfl) q) k
theorem Go.lstore (B : Ctx p Z s m meth c own nm bytes maxL ret) (X : Stand p l e R s m args below meth c T locs cells slots) {k : Nat} {x : Int64} {o o' : Slot} (hd : decode bytes pc = .ok (.lstore k, 2)) (hp : pc + 2 = pc') (hl : lk L k = some o) (hl' : lk L (k + 1) = some o') (ho : (one o || two o) = true) (ho' : two o' = false)
    (k : Go p e below Q (T.setTop (fr m pc' (put1 (put1 L k (.val (.long x))) (k + 1) .second) (st)))) : Go p e below Q (T.setTop (fr m pc L (.long x :: st))) := by
  subst hp
  exact Go.of (fun _ q => XS.lstore X.here B.hx rfl (hb B.by' hd) rfl (st2 hl hl' ho ho' rfl) q) k
theorem Go.dstoreN (B : Ctx p Z s m meth c own nm bytes maxL ret) (X : Stand p l e R s m args below meth c T locs cells slots) {k : Fin 4} {x : UInt64} {o o' : Slot} (hd : decode bytes pc = .ok (.dstore_n k, 1)) (hp : pc + 1 = pc') (hl : lk L k.val = some o) (hl' : lk L (k.val + 1) = some o') (ho : (one o || two o) = true) (ho' : two o' = false)
    (k : Go p e below Q (T.setTop (fr m pc' (put1 (put1 L k.val (.val (.double x))) (k.val + 1) .second) (st)))) : Go p e below Q (T.setTop (fr m pc L (.double x :: st))) := by
  subst hp
  exact Go.of (fun _ q => XS.dstoreN X.here B.hx rfl (hb B.by' hd) rfl (st2 hl hl' ho ho' rfl) q) k
theorem Go.dstore (B : Ctx p Z s m meth c own nm bytes maxL ret) (X : Stand p l e R s m args below meth c T locs cells slots) {k : Nat} {x : UInt64} {o o' : Slot} (hd : decode bytes pc = .ok (.dstore k, 2)) (hp : pc + 2 = pc') (hl : lk L k = some o) (hl' : lk L (k + 1) = some o') (ho : (one o || two o) = true) (ho' : two o' = false)
    (k : Go p e below Q (T.setTop (fr m pc' (put1 (put1 L k (.val (.double x))) (k + 1) .second) (st)))) : Go p e below Q (T.setTop (fr m pc L (.double x :: st))) := by
  subst hp
  exact Go.of (fun _ q => XS.dstore X.here B.hx rfl (hb B.by' hd) rfl (st2 hl hl' ho ho' rfl) q) k
theorem Go.iconst (B : Ctx p Z s m meth c own nm bytes maxL ret) (X : Stand p l e R s m args below meth c T locs cells slots) {i : Int} (v : Int32) (hd : decode bytes pc = .ok (.iconst i, 1)) (hp : pc + 1 = pc') (hv : Int32.ofInt i = v)
    (k : Go p e below Q (T.setTop (fr m pc' L (.int v :: st)))) : Go p e below Q (T.setTop (fr m pc L (st))) := by
  subst hp
  exact Go.of (fun _ q => XS.iconst X.here B.hx rfl (hb B.by' hd) (hv ▸ q)) k
theorem Go.bipush (B : Ctx p Z s m meth c own nm bytes maxL ret) (X : Stand p l e R s m args below meth c T locs cells slots) {i : Int} (v : Int32) (hd : decode bytes pc = .ok (.bipush i, 2)) (hp : pc + 2 = pc') (hv : (Int8.ofInt i).toInt32 = v)
    (k : Go p e below Q (T.setTop (fr m pc' L (.int v :: st)))) : Go p e below Q (T.setTop (fr m pc L (st))) := by
  subst hp
  exact Go.of (fun _ q => XS.bipush X.here B.hx rfl (hb B.by' hd) (hv ▸ q)) k
theorem Go.sipush (B : Ctx p Z s m meth c own nm bytes maxL ret) (X : Stand p l e R s m args below meth c T locs cells slots) {i : Int} (v : Int32) (hd : decode bytes pc = .ok (.sipush i, 3)) (hp : pc + 3 = pc') (hv : (Int16.ofInt i).toInt32 = v)
    (k : Go p e below Q (T.setTop (fr m pc' L (.int v :: st)))) : Go p e below Q (T.setTop (fr m pc L (st))) := by
  subst hp
  exact Go.of (fun _ q => XS.sipush X.here B.hx rfl (hb B.by' hd) (hv ▸ q)) k
theorem Go.lconst (B : Ctx p Z s m meth c own nm bytes maxL ret) (X : Stand p l e R s m args below meth c T locs cells slots) {i : Fin 2} (v : Int64) (hd : decode bytes pc = .ok (.lconst i, 1)) (hp : pc + 1 = pc') (hv : Int64.ofNat i = v)
    (k : Go p e below Q (T.setTop (fr m pc' L (.long v :: st)))) : Go p e below Q (T.setTop (fr m pc L (st))) := by
  subst hp
  exact Go.of (fun _ q => XS.lconst X.here B.hx rfl (hb B.by' hd) (hv ▸ q)) k
theorem Go.aconstNull (B : Ctx p Z s m meth c own nm bytes maxL ret) (X : Stand p l e R s m args below meth c T locs cells slots)  (hd : decode bytes pc = .ok (.aconst_null, 1)) (hp : pc + 1 = pc') 
    (k : Go p e below Q (T.setTop (fr m pc' L (.null :: st)))) : Go p e below Q (T.setTop (fr m pc L (st))) := by
  subst hp
  exact Go.of (fun _ q => XS.aconstNull X.here B.hx rfl (hb B.by' hd) q) k
theorem Go.iadd (B : Ctx p Z s m meth c own nm bytes maxL ret) (X : Stand p l e R s m args below meth c T locs cells slots) {x y : Int32} (hd : decode bytes pc = .ok (.iadd, 1)) (hp : pc + 1 = pc') 
    (k : Go p e below Q (T.setTop (fr m pc' L (.int (x + y) :: st)))) : Go p e below Q (T.setTop (fr m pc L (.int y :: .int x :: st))) := by
  subst hp
  exact Go.of (fun _ q => XS.iadd X.here B.hx rfl (hb B.by' hd) rfl q) k
theorem Go.isub (B : Ctx p Z s m meth c own nm bytes maxL ret) (X : Stand p l e R s m args below meth c T locs cells slots) {x y : Int32} (hd : decode bytes pc = .ok (.isub, 1)) (hp : pc + 1 = pc') 
    (k : Go p e below Q (T.setTop (fr m pc' L (.int (x - y) :: st)))) : Go p e below Q (T.setTop (fr m pc L (.int y :: .int x :: st))) := by
  subst hp
  exact Go.of (fun _ q => XS.isub X.here B.hx rfl (hb B.by' hd) rfl q) k
theorem Go.imul (B : Ctx p Z s m meth c own nm bytes maxL ret) (X : Stand p l e R s m args below meth c T locs cells slots) {x y : Int32} (hd : decode bytes pc = .ok (.imul, 1)) (hp : pc + 1 = pc') 
    (k : Go p e below Q (T.setTop (fr m pc' L (.int (x * y) :: st)))) : Go p e below Q (T.setTop (fr m pc L (.int y :: .int x :: st))) := by
  subst hp
  exact Go.of (fun _ q => XS.imul X.here B.hx rfl (hb B.by' hd) rfl q) k
theorem Go.iand (B : Ctx p Z s m meth c own nm bytes maxL ret) (X : Stand p l e R s m args below meth c T locs cells slots) {x y : Int32} (hd : decode bytes pc = .ok (.iand, 1)) (hp : pc + 1 = pc') 
    (k : Go p e below Q (T.setTop (fr m pc' L (.int (x &&& y) :: st)))) : Go p e below Q (T.setTop (fr m pc L (.int y :: .int x :: st))) := by
  subst hp
  exact Go.of (fun _ q => XS.iand X.here B.hx rfl (hb B.by' hd) rfl q) k
theorem Go.ior (B : Ctx p Z s m meth c own nm bytes maxL ret) (X : Stand p l e R s m args below meth c T locs cells slots) {x y : Int32} (hd : decode bytes pc = .ok (.ior, 1)) (hp : pc + 1 = pc') 
    (k : Go p e below Q (T.setTop (fr m pc' L (.int (x ||| y) :: st)))) : Go p e below Q (T.setTop (fr m pc L (.int y :: .int x :: st))) := by
  subst hp
  exact Go.of (fun _ q => XS.ior X.here B.hx rfl (hb B.by' hd) rfl q) k
theorem Go.ixor (B : Ctx p Z s m meth c own nm bytes maxL ret) (X : Stand p l e R s m args below meth c T locs cells slots) {x y : Int32} (hd : decode bytes pc = .ok (.ixor, 1)) (hp : pc + 1 = pc') 
    (k : Go p e below Q (T.setTop (fr m pc' L (.int (x ^^^ y) :: st)))) : Go p e below Q (T.setTop (fr m pc L (.int y :: .int x :: st))) := by
  subst hp
  exact Go.of (fun _ q => XS.ixor X.here B.hx rfl (hb B.by' hd) rfl q) k
theorem Go.ishl (B : Ctx p Z s m meth c own nm bytes maxL ret) (X : Stand p l e R s m args below meth c T locs cells slots) {x y : Int32} (hd : decode bytes pc = .ok (.ishl, 1)) (hp : pc + 1 = pc') 
    (k : Go p e below Q (T.setTop (fr m pc' L (.int (x <<< (y &&& 31)) :: st)))) : Go p e below Q (T.setTop (fr m pc L (.int y :: .int x :: st))) := by
  subst hp
  exact Go.of (fun _ q => XS.ishl X.here B.hx rfl (hb B.by' hd) rfl q) k
theorem Go.ishr (B : Ctx p Z s m meth c own nm bytes maxL ret) (X : Stand p l e R s m args below meth c T locs cells slots) {x y : Int32} (hd : decode bytes pc = .ok (.ishr, 1)) (hp : pc + 1 = pc') 
    (k : Go p e below Q (T.setTop (fr m pc' L (.int (x >>> (y &&& 31)) :: st)))) : Go p e below Q (T.setTop (fr m pc L (.int y :: .int x :: st))) := by
  subst hp
  exact Go.of (fun _ q => XS.ishr X.here B.hx rfl (hb B.by' hd) rfl q) k
theorem Go.iushr (B : Ctx p Z s m meth c own nm bytes maxL ret) (X : Stand p l e R s m args below meth c T locs cells slots) {x y : Int32} (hd : decode bytes pc = .ok (.iushr, 1)) (hp : pc + 1 = pc') 
    (k : Go p e below Q (T.setTop (fr m pc' L (.int ((x.toUInt32 >>> (y &&& 31).toUInt32).toInt32) :: st)))) : Go p e below Q (T.setTop (fr m pc L (.int y :: .int x :: st))) := by
  subst hp
  exact Go.of (fun _ q => XS.iushr X.here B.hx rfl (hb B.by' hd) rfl q) k
theorem Go.idiv (B : Ctx p Z s m meth c own nm bytes maxL ret) (X : Stand p l e R s m args below meth c T locs cells slots) {x y : Int32} (hd : decode bytes pc = .ok (.idiv, 1)) (hp : pc + 1 = pc') (hy : y ≠ 0)
    (k : Go p e below Q (T.setTop (fr m pc' L (.int (x / y) :: st)))) : Go p e below Q (T.setTop (fr m pc L (.int y :: .int x :: st))) := by
  subst hp
  exact Go.of (fun _ q => XS.idiv X.here B.hx rfl (hb B.by' hd) rfl hy q) k
theorem Go.irem (B : Ctx p Z s m meth c own nm bytes maxL ret) (X : Stand p l e R s m args below meth c T locs cells slots) {x y : Int32} (hd : decode bytes pc = .ok (.irem, 1)) (hp : pc + 1 = pc') (hy : y ≠ 0)
    (k : Go p e below Q (T.setTop (fr m pc' L (.int (x % y) :: st)))) : Go p e below Q (T.setTop (fr m pc L (.int y :: .int x :: st))) := by
  subst hp
  exact Go.of (fun _ q => iremM X B.hx rfl (hb B.by' hd) rfl hy q) k
theorem Go.ineg (B : Ctx p Z s m meth c own nm bytes maxL ret) (X : Stand p l e R s m args below meth c T locs cells slots) {x : Int32} (hd : decode bytes pc = .ok (.ineg, 1)) (hp : pc + 1 = pc') 
    (k : Go p e below Q (T.setTop (fr m pc' L (.int (-x) :: st)))) : Go p e below Q (T.setTop (fr m pc L (.int x :: st))) := by
  subst hp
  exact Go.of (fun _ q => XS.ineg X.here B.hx rfl (hb B.by' hd) rfl q) k
theorem Go.ladd (B : Ctx p Z s m meth c own nm bytes maxL ret) (X : Stand p l e R s m args below meth c T locs cells slots) {x y : Int64} (hd : decode bytes pc = .ok (.ladd, 1)) (hp : pc + 1 = pc') 
    (k : Go p e below Q (T.setTop (fr m pc' L (.long (x + y) :: st)))) : Go p e below Q (T.setTop (fr m pc L (.long y :: .long x :: st))) := by
  subst hp
  exact Go.of (fun _ q => XS.ladd X.here B.hx rfl (hb B.by' hd) rfl q) k
theorem Go.lsub (B : Ctx p Z s m meth c own nm bytes maxL ret) (X : Stand p l e R s m args below meth c T locs cells slots) {x y : Int64} (hd : decode bytes pc = .ok (.lsub, 1)) (hp : pc + 1 = pc') 
    (k : Go p e below Q (T.setTop (fr m pc' L (.long (x - y) :: st)))) : Go p e below Q (T.setTop (fr m pc L (.long y :: .long x :: st))) := by
  subst hp
  exact Go.of (fun _ q => XS.lsub X.here B.hx rfl (hb B.by' hd) rfl q) k
theorem Go.lmul (B : Ctx p Z s m meth c own nm bytes maxL ret) (X : Stand p l e R s m args below meth c T locs cells slots) {x y : Int64} (hd : decode bytes pc = .ok (.lmul, 1)) (hp : pc + 1 = pc') 
    (k : Go p e below Q (T.setTop (fr m pc' L (.long (x * y) :: st)))) : Go p e below Q (T.setTop (fr m pc L (.long y :: .long x :: st))) := by
  subst hp
  exact Go.of (fun _ q => XS.lmul X.here B.hx rfl (hb B.by' hd) rfl q) k
theorem Go.land (B : Ctx p Z s m meth c own nm bytes maxL ret) (X : Stand p l e R s m args below meth c T locs cells slots) {x y : Int64} (hd : decode bytes pc = .ok (.land, 1)) (hp : pc + 1 = pc') 
    (k : Go p e below Q (T.setTop (fr m pc' L (.long (x &&& y) :: st)))) : Go p e below Q (T.setTop (fr m pc L (.long y :: .long x :: st))) := by
  subst hp
  exact Go.of (fun _ q => XS.land X.here B.hx rfl (hb B.by' hd) rfl q) k
theorem Go.lor (B : Ctx p Z s m meth c own nm bytes maxL ret) (X : Stand p l e R s m args below meth c T locs cells slots) {x y : Int64} (hd : decode bytes pc = .ok (.lor, 1)) (hp : pc + 1 = pc') 
    (k : Go p e below Q (T.setTop (fr m pc' L (.long (x ||| y) :: st)))) : Go p e below Q (T.setTop (fr m pc L (.long y :: .long x :: st))) := by
  subst hp
  exact Go.of (fun _ q => XS.lor X.here B.hx rfl (hb B.by' hd) rfl q) k
theorem Go.lxor (B : Ctx p Z s m meth c own nm bytes maxL ret) (X : Stand p l e R s m args below meth c T locs cells slots) {x y : Int64} (hd : decode bytes pc = .ok (.lxor, 1)) (hp : pc + 1 = pc') 
    (k : Go p e below Q (T.setTop (fr m pc' L (.long (x ^^^ y) :: st)))) : Go p e below Q (T.setTop (fr m pc L (.long y :: .long x :: st))) := by
  subst hp
  exact Go.of (fun _ q => XS.lxor X.here B.hx rfl (hb B.by' hd) rfl q) k
theorem Go.lshl (B : Ctx p Z s m meth c own nm bytes maxL ret) (X : Stand p l e R s m args below meth c T locs cells slots) {x : Int64} {y : Int32} (hd : decode bytes pc = .ok (.lshl, 1)) (hp : pc + 1 = pc') 
    (k : Go p e below Q (T.setTop (fr m pc' L (.long (x <<< (y &&& 0x3f).toInt64) :: st)))) : Go p e below Q (T.setTop (fr m pc L (.int y :: .long x :: st))) := by
  subst hp
  exact Go.of (fun _ q => XS.lshl X.here B.hx rfl (hb B.by' hd) rfl q) k
theorem Go.lshr (B : Ctx p Z s m meth c own nm bytes maxL ret) (X : Stand p l e R s m args below meth c T locs cells slots) {x : Int64} {y : Int32} (hd : decode bytes pc = .ok (.lshr, 1)) (hp : pc + 1 = pc') 
    (k : Go p e below Q (T.setTop (fr m pc' L (.long (x >>> (y &&& 0x3f).toInt64) :: st)))) : Go p e below Q (T.setTop (fr m pc L (.int y :: .long x :: st))) := by
  subst hp
  exact Go.of (fun _ q => XS.lshr X.here B.hx rfl (hb B.by' hd) rfl q) k
theorem Go.lushr (B : Ctx p Z s m meth c own nm bytes maxL ret) (X : Stand p l e R s m args below meth c T locs cells slots) {x : Int64} {y : Int32} (hd : decode bytes pc = .ok (.lushr, 1)) (hp : pc + 1 = pc') 
    (k : Go p e below Q (T.setTop (fr m pc' L (.long ((x.toUInt64 >>> (y &&& 0x3f).toInt64.toUInt64).toInt64) :: st)))) : Go p e below Q (T.setTop (fr m pc L (.int y :: .long x :: st))) := by
  subst hp
  exact Go.of (fun _ q => XS.lushr X.here B.hx rfl (hb B.by' hd) rfl q) k
theorem Go.ldiv (B : Ctx p Z s m meth c own nm bytes maxL ret) (X : Stand p l e R s m args below meth c T locs cells slots) {x y : Int64} (hd : decode bytes pc = .ok (.ldiv, 1)) (hp : pc + 1 = pc') (hy : y ≠ 0)
    (k : Go p e below Q (T.setTop (fr m pc' L (.long (x / y) :: st)))) : Go p e below Q (T.setTop (fr m pc L (.long y :: .long x :: st))) := by
  subst hp
  exact Go.of (fun _ q => XS.ldiv X.here B.hx rfl (hb B.by' hd) rfl hy q) k
theorem Go.lrem (B : Ctx p Z s m meth c own nm bytes maxL ret) (X : Stand p l e R s m args below meth c T locs cells slots) {x y : Int64} (hd : decode bytes pc = .ok (.lrem, 1)) (hp : pc + 1 = pc') (hy : y ≠ 0)
    (k : Go p e below Q (T.setTop (fr m pc' L (.long (x % y) :: st)))) : Go p e below Q (T.setTop (fr m pc L (.long y :: .long x :: st))) := by
  subst hp
  exact Go.of (fun _ q => XS.lrem X.here B.hx rfl (hb B.by' hd) rfl hy (by rw [lrem_mod]; exact q)) k
theorem Go.lneg (B : Ctx p Z s m meth c own nm bytes maxL ret) (X : Stand p l e R s m args below meth c T locs cells slots) {x : Int64} (hd : decode bytes pc = .ok (.lneg, 1)) (hp : pc + 1 = pc') 
    (k : Go p e below Q (T.setTop (fr m pc' L (.long (-x) :: st)))) : Go p e below Q (T.setTop (fr m pc L (.long x :: st))) := by
  subst hp
  exact Go.of (fun _ q => XS.lneg X.here B.hx rfl (hb B.by' hd) rfl q) k
theorem Go.i2l (B : Ctx p Z s m meth c own nm bytes maxL ret) (X : Stand p l e R s m args below meth c T locs cells slots) {x : Int32} (hd : decode bytes pc = .ok (.i2l, 1)) (hp : pc + 1 = pc') 
    (k : Go p e below Q (T.setTop (fr m pc' L (.long x.toInt64 :: st)))) : Go p e below Q (T.setTop (fr m pc L (.int x :: st))) := by
  subst hp
  exact Go.of (fun _ q => XS.i2l X.here B.hx rfl (hb B.by' hd) rfl q) k
theorem Go.l2i (B : Ctx p Z s m meth c own nm bytes maxL ret) (X : Stand p l e R s m args below meth c T locs cells slots) {x : Int64} (hd : decode bytes pc = .ok (.l2i, 1)) (hp : pc + 1 = pc') 
    (k : Go p e below Q (T.setTop (fr m pc' L (.int x.toInt32 :: st)))) : Go p e below Q (T.setTop (fr m pc L (.long x :: st))) := by
  subst hp
  exact Go.of (fun _ q => XS.l2i X.here B.hx rfl (hb B.by' hd) rfl q) k
theorem Go.i2b (B : Ctx p Z s m meth c own nm bytes maxL ret) (X : Stand p l e R s m args below meth c T locs cells slots) {x : Int32} (hd : decode bytes pc = .ok (.i2b, 1)) (hp : pc + 1 = pc') 
    (k : Go p e below Q (T.setTop (fr m pc' L (.int x.toInt8.toInt32 :: st)))) : Go p e below Q (T.setTop (fr m pc L (.int x :: st))) := by
  subst hp
  exact Go.of (fun _ q => XS.i2b X.here B.hx rfl (hb B.by' hd) rfl q) k
theorem Go.i2c (B : Ctx p Z s m meth c own nm bytes maxL ret) (X : Stand p l e R s m args below meth c T locs cells slots) {x : Int32} (hd : decode bytes pc = .ok (.i2c, 1)) (hp : pc + 1 = pc') 
    (k : Go p e below Q (T.setTop (fr m pc' L (.int x.toUInt32.toUInt16.toUInt32.toInt32 :: st)))) : Go p e below Q (T.setTop (fr m pc L (.int x :: st))) := by
  subst hp
  exact Go.of (fun _ q => XS.i2c X.here B.hx rfl (hb B.by' hd) rfl q) k
theorem Go.i2s (B : Ctx p Z s m meth c own nm bytes maxL ret) (X : Stand p l e R s m args below meth c T locs cells slots) {x : Int32} (hd : decode bytes pc = .ok (.i2s, 1)) (hp : pc + 1 = pc') 
    (k : Go p e below Q (T.setTop (fr m pc' L (.int x.toInt16.toInt32 :: st)))) : Go p e below Q (T.setTop (fr m pc L (.int x :: st))) := by
  subst hp
  exact Go.of (fun _ q => XS.i2s X.here B.hx rfl (hb B.by' hd) rfl q) k
theorem Go.lcmp (B : Ctx p Z s m meth c own nm bytes maxL ret) (X : Stand p l e R s m args below meth c T locs cells slots) {x y : Int64} (hd : decode bytes pc = .ok (.lcmp, 1)) (hp : pc + 1 = pc') 
    (k : Go p e below Q (T.setTop (fr m pc' L (.int (lcmpW x y) :: st)))) : Go p e below Q (T.setTop (fr m pc L (.long y :: .long x :: st))) := by
  subst hp
  exact Go.of (fun _ q => XS.lcmp X.here B.hx rfl (hb B.by' hd) rfl q) k
theorem Go.iinc (B : Ctx p Z s m meth c own nm bytes maxL ret) (X : Stand p l e R s m args below meth c T locs cells slots) {k : Nat} {i : Int} {x : Int32} (v : Int32) (hd : decode bytes pc = .ok (.iinc k i, 3)) (hp : pc + 3 = pc') (hl : lk L k = some (.val (.int x))) (hv : Int32.ofInt i = v)
    (k : Go p e below Q (T.setTop (fr m pc' (put1 L k (.val (.int (x + v)))) (st)))) : Go p e below Q (T.setTop (fr m pc L (st))) := by
  subst hp
  exact Go.of (fun _ q => XS.iinc X.here B.hx rfl (hb B.by' hd) (lk_arr hl) (hv ▸ st1 hl rfl rfl) q) k
theorem Go.dup (B : Ctx p Z s m meth c own nm bytes maxL ret) (X : Stand p l e R s m args below meth c T locs cells slots) {x : Value} (hd : decode bytes pc = .ok (.dup, 1)) (hp : pc + 1 = pc') (hv : x.category = 1)
    (k : Go p e below Q (T.setTop (fr m pc' L (x :: x :: st)))) : Go p e below Q (T.setTop (fr m pc L (x :: st))) := by
  subst hp
  exact Go.of (fun _ q => XS.dup X.here B.hx rfl (hb B.by' hd) rfl hv q) k
theorem Go.pop (B : Ctx p Z s m meth c own nm bytes maxL ret) (X : Stand p l e R s m args below meth c T locs cells slots) {x : Value} (hd : decode bytes pc = .ok (.pop, 1)) (hp : pc + 1 = pc') (hv : x.category = 1)
    (k : Go p e below Q (T.setTop (fr m pc' L (st)))) : Go p e below Q (T.setTop (fr m pc L (x :: st))) := by
  subst hp
  exact Go.of (fun _ q => XS.pop X.here B.hx rfl (hb B.by' hd) rfl hv q) k
theorem Go.dupX1 (B : Ctx p Z s m meth c own nm bytes maxL ret) (X : Stand p l e R s m args below meth c T locs cells slots) {x y : Value} (hd : decode bytes pc = .ok (.dup_x1, 1)) (hp : pc + 1 = pc') (hv : x.category = 1) (hw : y.category = 1)
    (k : Go p e below Q (T.setTop (fr m pc' L (x :: y :: x :: st)))) : Go p e below Q (T.setTop (fr m pc L (x :: y :: st))) := by
  subst hp
  exact Go.of (fun _ q => XS.dupX1 X.here B.hx rfl (hb B.by' hd) rfl hv hw q) k
theorem Go.dup2 (B : Ctx p Z s m meth c own nm bytes maxL ret) (X : Stand p l e R s m args below meth c T locs cells slots) {x y : Value} (hd : decode bytes pc = .ok (.dup2, 1)) (hp : pc + 1 = pc') (hv : x.category = 1) (hw : y.category = 1)
    (k : Go p e below Q (T.setTop (fr m pc' L (x :: y :: x :: y :: st)))) : Go p e below Q (T.setTop (fr m pc L (x :: y :: st))) := by
  subst hp
  exact Go.of (fun _ q => XT.dup2 X.here B.hx rfl (hb B.by' hd) rfl hv hw q) k
theorem Go.i2d (B : Ctx p Z s m meth c own nm bytes maxL ret) (X : Stand p l e R s m args below meth c T locs cells slots) {x : Int32} (hd : decode bytes pc = .ok (.i2d, 1)) (hp : pc + 1 = pc') 
    (k : Go p e below Q (T.setTop (fr m pc' L (.double (FP.i2d x) :: st)))) : Go p e below Q (T.setTop (fr m pc L (.int x :: st))) := by
  subst hp
  exact Go.of (fun _ q => XS.i2dS X.here B.hx rfl (hb B.by' hd) rfl rfl q) k
theorem Go.l2d (B : Ctx p Z s m meth c own nm bytes maxL ret) (X : Stand p l e R s m args below meth c T locs cells slots) {x : Int64} (hd : decode bytes pc = .ok (.l2d, 1)) (hp : pc + 1 = pc') 
    (k : Go p e below Q (T.setTop (fr m pc' L (.double (FP.l2d x) :: st)))) : Go p e below Q (T.setTop (fr m pc L (.long x :: st))) := by
  subst hp
  exact Go.of (fun _ q => XS.l2dS X.here B.hx rfl (hb B.by' hd) rfl rfl q) k
theorem Go.dconst0 (B : Ctx p Z s m meth c own nm bytes maxL ret) (X : Stand p l e R s m args below meth c T locs cells slots)  (hd : decode bytes pc = .ok (.dconst 0, 1)) (hp : pc + 1 = pc') 
    (k : Go p e below Q (T.setTop (fr m pc' L (.double FP.dconst0 :: st)))) : Go p e below Q (T.setTop (fr m pc L (st))) := by
  subst hp
  exact Go.of (fun _ q => XS.dconst0 X.here B.hx rfl (hb B.by' hd) rfl q) k
theorem Go.dconst1 (B : Ctx p Z s m meth c own nm bytes maxL ret) (X : Stand p l e R s m args below meth c T locs cells slots)  (hd : decode bytes pc = .ok (.dconst 1, 1)) (hp : pc + 1 = pc') 
    (k : Go p e below Q (T.setTop (fr m pc' L (.double FP.dconst1 :: st)))) : Go p e below Q (T.setTop (fr m pc L (st))) := by
  subst hp
  exact Go.of (fun _ q => XS.dconst1 X.here B.hx rfl (hb B.by' hd) rfl q) k
theorem Go.dneg (B : Ctx p Z s m meth c own nm bytes maxL ret) (X : Stand p l e R s m args below meth c T locs cells slots) {x : UInt64} (hd : decode bytes pc = .ok (.dneg, 1)) (hp : pc + 1 = pc') 
    (k : Go p e below Q (T.setTop (fr m pc' L (.double (FP.dneg x) :: st)))) : Go p e below Q (T.setTop (fr m pc L (.double x :: st))) := by
  subst hp
  exact Go.of (fun _ q => XS.dnegS X.here B.hx rfl (hb B.by' hd) rfl rfl q) k
theorem Go.dcmp (B : Ctx p Z s m meth c own nm bytes maxL ret) (X : Stand p l e R s m args below meth c T locs cells slots) {x y : UInt64} {o : CmpOp} (hd : decode bytes pc = .ok (.dcmp o, 1)) (hp : pc + 1 = pc') 
    (k : Go p e below Q (T.setTop (fr m pc' L (.int (cmpValue (FP.dcmp x y) o) :: st)))) : Go p e below Q (T.setTop (fr m pc L (.double y :: .double x :: st))) := by
  subst hp
  exact Go.of (fun _ q => XS.dcmpS X.here B.hx rfl (hb B.by' hd) rfl rfl q) k
theorem Go.dadd (B : Ctx p Z s m meth c own nm bytes maxL ret) (X : Stand p l e R s m args below meth c T locs cells slots) {x y : UInt64} (hd : decode bytes pc = .ok (.dadd, 1)) (hp : pc + 1 = pc') (hn : Jvm.Free.Fl.NoNaN64 (FP.dadd x y))
    (k : Go p e below Q (T.setTop (fr m pc' L (.double (FP.dadd x y) :: st)))) : Go p e below Q (T.setTop (fr m pc L (.double y :: .double x :: st))) := by
  subst hp
  exact Go.of (fun _ q => XS.daddS X.here B.hx rfl (hb B.by' hd) rfl hn rfl q) k
theorem Go.dsub (B : Ctx p Z s m meth c own nm bytes maxL ret) (X : Stand p l e R s m args below meth c T locs cells slots) {x y : UInt64} (hd : decode bytes pc = .ok (.dsub, 1)) (hp : pc + 1 = pc') (hn : Jvm.Free.Fl.NoNaN64 (FP.dsub x y))
    (k : Go p e below Q (T.setTop (fr m pc' L (.double (FP.dsub x y) :: st)))) : Go p e below Q (T.setTop (fr m pc L (.double y :: .double x :: st))) := by
  subst hp
  exact Go.of (fun _ q => XS.dsubS X.here B.hx rfl (hb B.by' hd) rfl hn rfl q) k
theorem Go.dmul (B : Ctx p Z s m meth c own nm bytes maxL ret) (X : Stand p l e R s m args below meth c T locs cells slots) {x y : UInt64} (hd : decode bytes pc = .ok (.dmul, 1)) (hp : pc + 1 = pc') (hn : Jvm.Free.Fl.NoNaN64 (FP.dmul x y))
    (k : Go p e below Q (T.setTop (fr m pc' L (.double (FP.dmul x y) :: st)))) : Go p e below Q (T.setTop (fr m pc L (.double y :: .double x :: st))) := by
  subst hp
  exact Go.of (fun _ q => XS.dmulS X.here B.hx rfl (hb B.by' hd) rfl hn rfl q) k
theorem Go.ddiv (B : Ctx p Z s m meth c own nm bytes maxL ret) (X : Stand p l e R s m args below meth c T locs cells slots) {x y : UInt64} (hd : decode bytes pc = .ok (.ddiv, 1)) (hp : pc + 1 = pc') (hn : Jvm.Free.Fl.NoNaN64 (FP.ddiv x y))
    (k : Go p e below Q (T.setTop (fr m pc' L (.double (FP.ddiv x y) :: st)))) : Go p e below Q (T.setTop (fr m pc L (.double y :: .double x :: st))) := by
  subst hp
  exact Go.of (fun _ q => XS.ddivS X.here B.hx rfl (hb B.by' hd) rfl hn rfl q) k
theorem Go.goto (B : Ctx p Z s m meth c own nm bytes maxL ret) (X : Stand p l e R s m args below meth c T locs cells slots) {o : Int} (hd : decode bytes pc = .ok (.goto o, 3)) (ho : 0 ≤ (pc : Int) + o) (hp : ((pc : Int) + o).toNat = pc')
    (k : Go p e below Q (T.setTop (fr m pc' L st))) : Go p e below Q (T.setTop (fr m pc L st)) :=
  Go.of (fun _ q => XS.goto X.here B.hx rfl rfl (hb B.by' hd) ho hp q) k
theorem Go.ifT (B : Ctx p Z s m meth c own nm bytes maxL ret) (X : Stand p l e R s m args below meth c T locs cells slots) {cd : ClassFile.Cond} {x : Int32} {o : Int} (hd : decode bytes pc = .ok (.ifCond cd o, 3)) (ho : 0 ≤ (pc : Int) + o) (hp : ((pc : Int) + o).toNat = pc') (hc : CP cd x 0)
    (k : Go p e below Q (T.setTop (fr m pc' L st))) : Go p e below Q (T.setTop (fr m pc L (.int x :: st))) :=
  Go.of (fun _ q => XS.ifYes X.here B.hx rfl rfl (hb B.by' hd) rfl ((if0 _ _).trans hc.holds) ho hp q) k
theorem Go.ifF (B : Ctx p Z s m meth c own nm bytes maxL ret) (X : Stand p l e R s m args below meth c T locs cells slots) {cd : ClassFile.Cond} {x : Int32} {o : Int} (hd : decode bytes pc = .ok (.ifCond cd o, 3)) (hp : pc + 3 = pc') (hc : CN cd x 0)
    (k : Go p e below Q (T.setTop (fr m pc' L st))) : Go p e below Q (T.setTop (fr m pc L (.int x :: st))) := by
  subst hp
  exact Go.of (fun _ q => XS.ifNo X.here B.hx rfl (hb B.by' hd) rfl ((if0 _ _).trans hc.holds) q) k
theorem Go.ifc (B : Ctx p Z s m meth c own nm bytes maxL ret) (X : Stand p l e R s m args below meth c T locs cells slots) {cd : ClassFile.Cond} {x : Int32} {o : Int} (hd : decode bytes pc = .ok (.ifCond cd o, 3)) (ho : 0 ≤ (pc : Int) + o) (hp : ((pc : Int) + o).toNat = pcT) (hp' : pc + 3 = pc')
    (kT : CP cd x 0 → Go p e below Q (T.setTop (fr m pcT L st))) (kF : CN cd x 0 → Go p e below Q (T.setTop (fr m pc' L st))) : Go p e below Q (T.setTop (fr m pc L (.int x :: st))) :=
  (cp_or cd x 0).elim (fun h => Go.ifT B X hd ho hp h (kT h)) (fun h => Go.ifF B X hd hp' h (kF h))
theorem Go.icT (B : Ctx p Z s m meth c own nm bytes maxL ret) (X : Stand p l e R s m args below meth c T locs cells slots) {cd : ClassFile.Cond} {x y : Int32} {o : Int} (hd : decode bytes pc = .ok (.if_icmp cd o, 3)) (ho : 0 ≤ (pc : Int) + o) (hp : ((pc : Int) + o).toNat = pc') (hc : CP cd x y)
    (k : Go p e below Q (T.setTop (fr m pc' L st))) : Go p e below Q (T.setTop (fr m pc L (.int y :: .int x :: st))) :=
  Go.of (fun _ q => XS.icmpYes X.here B.hx rfl rfl (hb B.by' hd) rfl hc.holds ho hp q) k
theorem Go.icF (B : Ctx p Z s m meth c own nm bytes maxL ret) (X : Stand p l e R s m args below meth c T locs cells slots) {cd : ClassFile.Cond} {x y : Int32} {o : Int} (hd : decode bytes pc = .ok (.if_icmp cd o, 3)) (hp : pc + 3 = pc') (hc : CN cd x y)
    (k : Go p e below Q (T.setTop (fr m pc' L st))) : Go p e below Q (T.setTop (fr m pc L (.int y :: .int x :: st))) := by
  subst hp
  exact Go.of (fun _ q => XS.icmpNo X.here B.hx rfl (hb B.by' hd) rfl hc.holds q) k
theorem Go.ic (B : Ctx p Z s m meth c own nm bytes maxL ret) (X : Stand p l e R s m args below meth c T locs cells slots) {cd : ClassFile.Cond} {x y : Int32} {o : Int} (hd : decode bytes pc = .ok (.if_icmp cd o, 3)) (ho : 0 ≤ (pc : Int) + o) (hp : ((pc : Int) + o).toNat = pcT) (hp' : pc + 3 = pc')
    (kT : CP cd x y → Go p e below Q (T.setTop (fr m pcT L st))) (kF : CN cd x y → Go p e below Q (T.setTop (fr m pc' L st))) : Go p e below Q (T.setTop (fr m pc L (.int y :: .int x :: st))) :=
  (cp_or cd x y).elim (fun h => Go.icT B X hd ho hp h (kT h)) (fun h => Go.icF B X hd hp' h (kF h))
theorem Go.nullT (B : Ctx p Z s m meth c own nm bytes maxL ret) (X : Stand p l e R s m args below meth c T locs cells slots) {o : Int} (hd : decode bytes pc = .ok (.ifnull o, 3)) (ho : 0 ≤ (pc : Int) + o) (hp : ((pc : Int) + o).toNat = pc')
    (k : Go p e below Q (T.setTop (fr m pc' L st))) : Go p e below Q (T.setTop (fr m pc L (.null :: st))) :=
  Go.of (fun _ q => XS.ifnullYes X.here B.hx rfl rfl (hb B.by' hd) rfl ho hp q) k
theorem Go.nullF (B : Ctx p Z s m meth c own nm bytes maxL ret) (X : Stand p l e R s m args below meth c T locs cells slots) {o : Int} {b : Addr} (hd : decode bytes pc = .ok (.ifnull o, 3)) (hp : pc + 3 = pc')
    (k : Go p e below Q (T.setTop (fr m pc' L st))) : Go p e below Q (T.setTop (fr m pc L (.ref b :: st))) := by
  subst hp
  exact Go.of (fun _ q => XS.ifnullNo X.here B.hx rfl (hb B.by' hd) rfl q) k
theorem Go.nnT (B : Ctx p Z s m meth c own nm bytes maxL ret) (X : Stand p l e R s m args below meth c T locs cells slots) {o : Int} {b : Addr} (hd : decode bytes pc = .ok (.ifnonnull o, 3)) (ho : 0 ≤ (pc : Int) + o) (hp : ((pc : Int) + o).toNat = pc')
    (k : Go p e below Q (T.setTop (fr m pc' L st))) : Go p e below Q (T.setTop (fr m pc L (.ref b :: st))) :=
  Go.of (fun _ q => XS.ifnonnullYes X.here B.hx rfl rfl (hb B.by' hd) rfl ho hp q) k
theorem Go.nnF (B : Ctx p Z s m meth c own nm bytes maxL ret) (X : Stand p l e R s m args below meth c T locs cells slots) {o : Int} (hd : decode bytes pc = .ok (.ifnonnull o, 3)) (hp : pc + 3 = pc')
    (k : Go p e below Q (T.setTop (fr m pc' L st))) : Go p e below Q (T.setTop (fr m pc L (.null :: st))) := by
  subst hp
  exact Go.of (fun _ q => XS.ifnonnullNo X.here B.hx rfl (hb B.by' hd) rfl q) k
theorem Go.acmp (B : Ctx p Z s m meth c own nm bytes maxL ret) (X : Stand p l e R s m args below meth c T locs cells slots) {cd : ACond} {x y : Value} {o : Int} {same : Bool} (hd : decode bytes pc = .ok (.if_acmp cd o, 3)) (h1 : x.isRef = true) (h2 : y.isRef = true) (hq : decide (x = y) = same) (ho : 0 ≤ (pc : Int) + o) (hp : pc' = if acV cd same = true then ((pc : Int) + o).toNat else pc + 3)
    (k : Go p e below Q (T.setTop (fr m pc' L st))) : Go p e below Q (T.setTop (fr m pc L (y :: x :: st))) :=
  Go.of (fun _ q => RoadKit.acmp X B.hx rfl h1 h2 rfl (hb B.by' hd) rfl hq ho hp q) k
/-! constants of the pool -/
theorem Go.ldcI (B : Ctx p Z s m meth c own nm bytes maxL ret) (X : Stand p l e R s m args below meth c T locs cells slots) {i : Nat} {v : Int32} (w : (Jvm.Cond.constant own i v).before a0 Z = true) (hd : decode bytes pc = .ok (.ldc i, 2)) (hp : pc + 2 = pc')
    (k : Go p e below Q (T.setTop (fr m pc' L (.int v :: st)))) : Go p e below Q (T.setTop (fr m pc L st)) := by
  subst hp
  exact Go.of (fun _ q => X.ldcI B.hx B.cl (mvT B.hZ w) (g := fr m pc L st) rfl (hb B.by' hd) q) k
theorem Go.ldc2D (B : Ctx p Z s m meth c own nm bytes maxL ret) (X : Stand p l e R s m args below meth c T locs cells slots) {i : Nat} {v : UInt64} (w : (Jvm.Cond.constantDouble own i v).before a0 Z = true) (hd : decode bytes pc = .ok (.ldc2_w i, 3)) (hp : pc + 3 = pc')
    (k : Go p e below Q (T.setTop (fr m pc' L (.double v :: st)))) : Go p e below Q (T.setTop (fr m pc L st)) := by
  subst hp
  exact Go.of (fun _ q => X.ldc2DoubleC B.hx B.cl (mvT B.hZ w) (g := fr m pc L st) rfl (hb B.by' hd) _ q) k
theorem Go.ldc2J (B : Ctx p Z s m meth c own nm bytes maxL ret) (X : Stand p l e R s m args below meth c T locs cells slots) {i : Nat} {v : Int64} (w : (Jvm.Cond.constantLong own i v).before a0 Z = true) (hd : decode bytes pc = .ok (.ldc2_w i, 3)) (hp : pc + 3 = pc')
    (k : Go p e below Q (T.setTop (fr m pc' L (.long v :: st)))) : Go p e below Q (T.setTop (fr m pc L st)) := by
  subst hp
  exact Go.of (fun _ q => X.ldc2Long B.hx B.cl (mvT B.hZ w) (g := fr m pc L st) rfl (hb B.by' hd) _ q) k
/-! the heap -/
theorem Go.newO (B : Ctx p Z s m meth c own nm bytes maxL ret) (X : Stand p l e R s m args below meth c T locs cells slots) (eT : T.heap = h) {C : String} {i n : Nat} (w : (Jvm.Cond.classLink own i C).before a0 Z = true) (wi : (Jvm.Cond.instantiable C n).before a0 Z = true) (wz : (Jvm.Cond.initialized C).before a0 Z = true)
    (hd : decode bytes pc = .ok (.new i, 3)) (hp : pc + 3 = pc') (hc : cells + 1 ≤ R.cells) (hl : slots + n ≤ R.slots)
    (k : ∀ T' h' a, a = h.size → Stand p l e R s m args below meth c T' locs (cells + 1) (slots + n) → T'.heap = h' → Ext h h' → Exa Z h' a C → (∀ {O nm d : String} {ty : FieldType}, Laid Z a0 C O nm d → parseFieldDescriptor d = some ty → Fld Z h' a O nm d (defaultValue ty)) → Go p e below Q (T'.setTop (fr m pc' L (.ref a :: st)))) : Go p e below Q (T.setTop (fr m pc L st)) := by
  subst hp
  obtain ⟨T', h', X', e', E, A, D, -, stp⟩ := RoadKit.newO X B.hx B.hZ B.cl w wi wz eT (g := fr m pc L st) rfl (hb B.by' hd) hc hl
  exact Go.of stp (k T' h' _ rfl X' e' E A D)
theorem Go.initO (B : Ctx p Z s m meth c own nm bytes maxL ret) (X : Stand p l e R s m args below meth c T locs cells slots) (eT : T.heap = h) {i : Nat} (w1 : (Jvm.Cond.methodLink own i Lib.objectInit).before a0 Z = true) (w2 : (Jvm.Cond.instanceMethod Lib.objectInit).before a0 Z = true) (w3 : (Jvm.Cond.code Lib.objectInit ⟨#[0xb1]⟩ 1 none).before a0 Z = true) {a : Addr}
    (hd : decode bytes pc = .ok (.invokespecial i, 3)) (hp : pc + 3 = pc') (hL : L.length = maxL) (hf : 1 ≤ R.frames) (hl : (st.map fun v => v.category).sum + 12 ≤ R.locals)
    (k : ∀ T', Stand p l e R s m args below meth c T' locs cells slots → T'.heap = h → Go p e below Q (T'.setTop (fr m pc' L st))) : Go p e below Q (T.setTop (fr m pc L (.ref a :: st))) := by
  subst hp
  obtain ⟨T', X', e', stp⟩ := RoadKit.initO X B.hx B.hZ B.cl w1 w2 w3 eT (g := fr m pc L (.ref a :: st)) rfl (by rw [B.ml]; exact hL) rfl (hb B.by' hd) hf (W := (st.map fun v => v.category).sum) (by show 2 * 0 + _ ≤ _; omega) hl
  exact Go.of stp (k T' X' e')
theorem Go.getF (B : Ctx p Z s m meth c own nm bytes maxL ret) (X : Stand p l e R s m args below meth c T locs cells slots) (eT : T.heap = h) {O n d : String} {i : Nat} {a : Addr} {v : Value} (w : (Jvm.Cond.fieldLink own i O n d).before a0 Z = true) (F : Fld Z h a O n d v) (hd : decode bytes pc = .ok (.getfield i, 3)) (hp : pc + 3 = pc')
    (k : ∀ T', Stand p l e R s m args below meth c T' locs cells slots → T'.heap = h → Go p e below Q (T'.setTop (fr m pc' L (v :: st)))) : Go p e below Q (T.setTop (fr m pc L (.ref a :: st))) := by
  subst hp
  obtain ⟨T', X', e', stp⟩ := RoadKit.getF X B.hx B.hZ B.cl (host := "") (Or.inl w) Via.refl eT F (g := fr m pc L (.ref a :: st)) rfl rfl (hb B.by' hd)
  exact Go.of stp (k T' X' e')
theorem Go.castY (B : Ctx p Z s m meth c own nm bytes maxL ret) (X : Stand p l e R s m args below meth c T locs cells slots) (eT : T.heap = h) {K : String} {i : Nat} {a : Addr} (w : (Jvm.Cond.classLink own i K).before a0 Z = true) (F : Ins Z h a K true) (hd : decode bytes pc = .ok (.checkcast i, 3)) (hp : pc + 3 = pc')
    (k : ∀ T', Stand p l e R s m args below meth c T' locs cells slots → T'.heap = h → Go p e below Q (T'.setTop (fr m pc' L (.ref a :: st)))) : Go p e below Q (T.setTop (fr m pc L (.ref a :: st))) := by
  subst hp
  obtain ⟨T', X', e', stp⟩ := RoadKit.castY X B.hx B.hZ B.cl w eT F (g := fr m pc L (.ref a :: st)) rfl rfl (hb B.by' hd)
  exact Go.of stp (k T' X' e')
theorem Go.instY (B : Ctx p Z s m meth c own nm bytes maxL ret) (X : Stand p l e R s m args below meth c T locs cells slots) (eT : T.heap = h) {K : String} {i : Nat} {a : Addr} (w : (Jvm.Cond.classLink own i K).before a0 Z = true) (F : Ins Z h a K true) (hd : decode bytes pc = .ok (.instanceof i, 3)) (hp : pc + 3 = pc')
    (k : ∀ T', Stand p l e R s m args below meth c T' locs cells slots → T'.heap = h → Go p e below Q (T'.setTop (fr m pc' L (.int 1 :: st)))) : Go p e below Q (T.setTop (fr m pc L (.ref a :: st))) := by
  subst hp
  obtain ⟨T', X', e', stp⟩ := RoadKit.instY X B.hx B.hZ B.cl w eT F (g := fr m pc L (.ref a :: st)) rfl rfl (hb B.by' hd)
  exact Go.of stp (k T' X' e')
theorem Go.getS (B : Ctx p Z s m meth c own nm bytes maxL ret) (X : Stand p l e R s m args below meth c T locs cells slots) (eT : T.heap = h) {O n d : String} {i : Nat} {v : Value} (w : (Jvm.Cond.fieldLink own i O n d).before a0 Z = true) (F : Sta Z h O n d v) (hd : decode bytes pc = .ok (.getstatic i, 3)) (hp : pc + 3 = pc')
    (k : ∀ T', Stand p l e R s m args below meth c T' locs cells slots → T'.heap = h → Go p e below Q (T'.setTop (fr m pc' L (v :: st)))) : Go p e below Q (T.setTop (fr m pc L st)) := by
  subst hp
  obtain ⟨T', X', e', stp⟩ := RoadKit.getS (host := "") X B.hx B.hZ B.cl w Via.refl eT F (g := fr m pc L st) rfl (hb B.by' hd)
  exact Go.of stp (k T' X' e')
theorem Go.putF (B : Ctx p Z s m meth c own nm bytes maxL ret) (X : Stand p l e R s m args below meth c T locs cells slots) (eT : T.heap = h) {O n d C : String} {i kk : Nat} {ty : FieldType} {a : Addr} {v old : Value} (w : (Jvm.Cond.fieldLink own i O n d).before a0 Z = true) (F : Fld Z h a O n d old) (E : Exa Z h a C)
    (Ly : (Jvm.Cond.lays C O n d).before a0 Z = true ∨ ((Jvm.Cond.laysFinal C O n d).before a0 Z = true ∧ own = O ∧ meth.name = "<init>")) (wi : (Jvm.Cond.instantiable C kk).before a0 Z = true) (hty : parseFieldDescriptor d = some ty) (hn : narrow ty v = v) (hf : fits ty v = true) (hd : decode bytes pc = .ok (.putfield i, 3)) (hp : pc + 3 = pc')
    (k : ∀ T' h', Stand p l e R s m args below meth c T' (locs ++ [⟨a, RoadKit.slotOf Z O n d⟩]) cells slots → T'.heap = h' → Wr h h' a (RoadKit.slotOf Z O n d) v → Go p e below Q (T'.setTop (fr m pc' L st))) : Go p e below Q (T.setTop (fr m pc L (v :: .ref a :: st))) := by
  subst hp
  obtain ⟨T', h', X', e', W, stp⟩ := RoadKit.putF X B.hx B.hZ B.cl (host := "") (Or.inl w) Via.refl eT F E Ly wi hty hn hf (g := fr m pc L (v :: .ref a :: st)) rfl rfl (hb B.by' hd)
  exact Go.of stp (k T' h' X' e' W)

/-- an array, its components listed -/
def Av (Z : State) (h : Heap) (a : Addr) (ty : FieldType) (vs : List Value) : Prop := ∃ c : Cell, Arr Z h a c ty ∧ c.slots = ⟨vs⟩ ∧ vs.length < 2 ^ 31 ∧ ∀ v ∈ vs, fits ty v = true
theorem Av.lt {a : Addr} {ty : FieldType} {vs : List Value} (F : Av Z h a ty vs) : a < h.size := by obtain ⟨c, A, -⟩ := F; exact A.lt
theorem Av.ext {h' : Heap} {a : Addr} {ty : FieldType} {vs : List Value} (F : Av Z h a ty vs) (E : Ext h h') : Av Z h' a ty vs := by obtain ⟨c, A, r⟩ := F; exact ⟨c, A.ext E, r⟩
theorem Av.other {h' : Heap} {a b : Addr} {ty : FieldType} {vs : List Value} {sl : Nat} {v : Value} (F : Av Z h b ty vs) (W : Wr h h' a sl v) (q : b ≠ a) : Av Z h' b ty vs := by obtain ⟨c, A, r⟩ := F; exact ⟨c, A.other W q, r⟩
theorem Av.keep {h' : Heap} {a : Addr} {ty : FieldType} {vs : List Value} {ws : List Addr} (F : Av Z h a ty vs) (K : Keep h h' ws) (q : a ∉ ws) : Av Z h' a ty vs := by obtain ⟨c, A, r⟩ := F; exact ⟨c, ⟨K.2.1 a c A.1 q, A.2⟩, r⟩
theorem Av.set {h' : Heap} {a : Addr} {ty : FieldType} {vs : List Value} {i : Nat} {v : Value} (F : Av Z h a ty vs) (W : Wr h h' a i v) (hv : fits ty v = true) : Av Z h' a ty (vs.set i v) := by
  obtain ⟨c, A, r1, r2, r3⟩ := F
  refine ⟨c.setSlot i v, A.same W, ?_, by simpa using r2, fun x hx => ?_⟩
  · simp only [Cell.setSlot, r1]; simp
  · rcases List.mem_or_eq_of_mem_set hx with q | q
    · exact r3 x q
    · exact q ▸ hv
theorem Av.arv {a : Addr} {ty : FieldType} {vs : List Value} (F : Av Z h a ty vs) (d : Value) : ∃ k, Arv Z h a k ty (Int32.ofNat vs.length) vs d := by
  obtain ⟨c, A, r1, r2, r3⟩ := F
  have q : c.slots.size = vs.length := by rw [r1]; rfl
  have w : (Int32.ofNat vs.length).toNatClampNeg = vs.length := Int32.toNatClampNeg_ofNat_of_lt r2
  refine ⟨c.cls, c, A, rfl, by rw [q, w], ?_, fun k hk => ?_, fun i hi => ?_⟩
  · intro hlt
    rw [Int32.lt_iff_toInt_lt] at hlt
    rw [Int32.toInt_ofNat_of_lt r2] at hlt
    have : (0 : Int32).toInt = 0 := by decide
    omega
  · rw [q] at hk
    rw [r1]
    simp [List.getD, hk]
  · rw [q] at hi
    have : vs.getD i d = vs[i] := by simp [List.getD, hi]
    rw [this]
    exact r3 _ (List.getElem_mem hi)
theorem Av.of_arv {a : Addr} {k : ClassId} {ty : FieldType} {n : Int32} {vs : List Value} {d : Value} (F : Arv Z h a k ty n vs d) (hn : n.toNatClampNeg = vs.length) : Av Z h a ty vs := by
  obtain ⟨c, A, r1, r2, r3, H, G⟩ := F
  have hb : vs.length < 2 ^ 31 := by rw [← hn]; exact (back32 r3).2
  have q : c.slots.size = vs.length := by rw [r2, hn]
  refine ⟨c, A, ?_, hb, fun v hv => ?_⟩
  · apply Array.ext'
    apply List.ext_getElem?
    intro i
    by_cases hi : i < vs.length
    · have := H i (by omega)
      simp [List.getD, hi] at this
      simp [this, hi]
    · rw [List.getElem?_eq_none (by simp; omega), List.getElem?_eq_none (by simp; omega)]
  · obtain ⟨i, hi, rfl⟩ := List.mem_iff_getElem.mp hv
    have := G i (by omega)
    simpa [List.getD, hi] using this
theorem idx_ok {i n : Nat} {j : Int32} (hj : j = Int32.ofNat i) (hi : i < n) (hn : n < 2 ^ 31) : ¬ (j < 0 ∨ n ≤ j.toNatClampNeg) ∧ j.toNatClampNeg = i := by
  subst hj
  exact ⟨idx_in hi hn, Int32.toNatClampNeg_ofNat_of_lt (by omega)⟩
theorem range_cut {vs : List Value} {sp nn : Nat} (h : sp + nn ≤ vs.length) (d : Value) : (List.range nn).map (fun i => vs.getD (sp + i) d) = (vs.drop sp).take nn := by
  apply List.ext_getElem?
  intro i
  by_cases hi : i < nn
  · simp [hi, List.getD, List.getElem?_take, List.getElem?_drop, show sp + i < vs.length by omega]
  · rw [List.getElem?_eq_none (by simp; omega), List.getElem?_eq_none (by simp; omega)]
theorem nn_ofNat {a : Nat} (h : a < 2 ^ 31) : ¬ Int32.ofNat a < 0 := by
  intro hlt
  rw [Int32.lt_iff_toInt_lt, Int32.toInt_ofNat_of_lt h] at hlt
  have : (0 : Int32).toInt = 0 := by decide
  omega
theorem Go.acopy (B : Ctx p Z s m meth c own nm bytes maxL ret) (X : Stand p l e R s m args below meth c T locs cells slots) (eT : T.heap = h) {ty : FieldType} (hpr : refKind ty = false) {a b : Addr} {vs vd : List Value} (A : Av Z h a ty vs) (D : Av Z h b ty vd) (sp dp nn : Nat) {js jd jn : Int32} {i : Nat}
    (w1 : (Jvm.Cond.methodLink own i Jvm.Stand.acN).before a0 Z = true) (w2 : (Jvm.Cond.native Jvm.Stand.acN).before a0 Z = true) (w3 : (Jvm.Cond.static Jvm.Stand.acN).before a0 Z = true) (w4 : (Jvm.Cond.initialized "java/lang/System").before a0 Z = true)
    (hd : decode bytes pc = .ok (.invokestatic i, 3)) (hp : pc + 3 = pc') (hjs : js = Int32.ofNat sp) (hjd : jd = Int32.ofNat dp) (hjn : jn = Int32.ofNat nn) (h4 : sp + nn ≤ vs.length) (h5 : dp + nn ≤ vd.length) {n0 : Nat} (N : Fr n0 locs) (ge : n0 ≤ b) (hL : L.length = maxL) (hf : 1 ≤ R.frames) (hlo : (st.map fun v => v.category).sum + (nativeFrameWords "java/lang/System" "arraycopy" 5 + 11) ≤ R.locals)
    (k : ∀ T' h' L', Fr n0 L' → Stand p l e R s m args below meth c T' L' cells slots → T'.heap = h' → Keep h h' [b] → Av Z h' b ty (vd.take dp ++ (vs.drop sp).take nn ++ vd.drop (dp + nn)) → Go p e below Q (T'.setTop (fr m pc' L st))) : Go p e below Q (T.setTop (fr m pc L (.int jn :: .int jd :: .ref b :: .int js :: .ref a :: st))) := by
  subst hp hjs hjd hjn
  have l1 : vs.length < 2 ^ 31 := by obtain ⟨_, _, _, q, _⟩ := A; exact q
  have l2 : vd.length < 2 ^ 31 := by obtain ⟨_, _, _, q, _⟩ := D; exact q
  obtain ⟨ka, A'⟩ := A.arv (.int 0)
  obtain ⟨kd, D'⟩ := D.arv (.int 0)
  have e1 : (Int32.ofNat sp).toNatClampNeg = sp := Int32.toNatClampNeg_ofNat_of_lt (by omega)
  have e2 : (Int32.ofNat dp).toNatClampNeg = dp := Int32.toNatClampNeg_ofNat_of_lt (by omega)
  have e3 : (Int32.ofNat nn).toNatClampNeg = nn := Int32.toNatClampNeg_ofNat_of_lt (by omega)
  have e4 : (Int32.ofNat vs.length).toNatClampNeg = vs.length := Int32.toNatClampNeg_ofNat_of_lt l1
  have e5 : (Int32.ofNat vd.length).toNatClampNeg = vd.length := Int32.toNatClampNeg_ofNat_of_lt l2
  obtain ⟨T', h', L', X', e', N', K', V', stp⟩ := RoadKit.cpA X B.hx B.hZ B.cl w1 w2 w3 w4 eT A' D' (us := (vs.drop sp).take nn) (Or.inl ⟨rfl, hpr⟩) (sp := Int32.ofNat sp) (dp := Int32.ofNat dp) (nn := Int32.ofNat nn) (nn_ofNat (by omega)) (nn_ofNat (by omega)) (nn_ofNat (by omega)) (by rw [e1, e3, e4]; exact h4) (by rw [e2, e3, e5]; exact h5) (by rw [e1, e3]; exact (range_cut h4 _).symm) (by rw [e2, e3]; exact h5) N ge (g := fr m pc L (.int (Int32.ofNat nn) :: .int (Int32.ofNat dp) :: .ref b :: .int (Int32.ofNat sp) :: .ref a :: st)) rfl (by rw [B.ml]; exact hL) rfl (hb B.by' hd) hf (W := (st.map fun v => v.category).sum) (by show 2 * 0 + _ ≤ _; omega) hlo
  rw [e2, e3] at V'
  exact Go.of stp (k T' h' L' N' X' e' K' (Av.of_arv V' (by rw [e5]; simp; omega)))
theorem Go.newP (B : Ctx p Z s m meth c own nm bytes maxL ret) (X : Stand p l e R s m args below meth c T locs cells slots) (eT : T.heap = h) {aty : ArrayType} (n : Nat) {j : Int32} (w : (Jvm.Cond.arrayClass (newarray.typeOf aty)).before a0 Z = true) (hd : decode bytes pc = .ok (.newarray aty, 2)) (hp : pc + 2 = pc') (hj : j = Int32.ofNat n) (hn : n ≤ 67108864) (hc : cells + 1 ≤ R.cells) (hl : slots + n ≤ R.slots)
    (k : ∀ T' h' a, a = h.size → Stand p l e R s m args below meth c T' locs (cells + 1) (slots + n) → T'.heap = h' → Ext h h' → Av Z h' a (newarray.typeOf aty) (List.replicate n (defaultValue (newarray.typeOf aty))) → Go p e below Q (T'.setTop (fr m pc' L (.ref a :: st)))) : Go p e below Q (T.setTop (fr m pc L (.int j :: st))) := by
  subst hp hj
  have w2 : (Int32.ofNat n).toNatClampNeg = n := Int32.toNatClampNeg_ofNat_of_lt (by omega)
  have hneg : ¬ Int32.ofNat n < 0 := by
    intro hlt
    rw [Int32.lt_iff_toInt_lt] at hlt
    rw [Int32.toInt_ofNat_of_lt (by omega)] at hlt
    have : (0 : Int32).toInt = 0 := by decide
    omega
  obtain ⟨T', h', cA, X', e', E, A, stp⟩ := RoadKit.newP X B.hx B.hZ w eT (g := fr m pc L (.int (Int32.ofNat n) :: st)) rfl (hb B.by' hd) rfl hneg (cap := n) (by omega) (by omega) hc hl
  refine Go.of stp (k T' h' _ rfl X' e' E ⟨_, A, by simp [newA, w2], by simp; omega, fun v hv => ?_⟩)
  rw [(List.mem_replicate.mp hv).2]
  cases aty <;> decide

theorem Go.caload (B : Ctx p Z s m meth c own nm bytes maxL ret) (X : Stand p l e R s m args below meth c T locs cells slots) (eT : T.heap = h) {a : Addr} {vs : List Value} {j : Int32} {v : Value} (A : Av Z h a .char vs) (i : Nat) (hd : decode bytes pc = .ok (.caload, 1)) (hp : pc + 1 = pc') (hj : j = Int32.ofNat i) (hv : vs[i]? = some v)
    (k : Go p e below Q (T.setTop (fr m pc' L (v :: st)))) : Go p e below Q (T.setTop (fr m pc L (.int j :: .ref a :: st))) := by
  subst hp
  obtain ⟨cl, Ar, r1, r2, r3⟩ := A
  obtain ⟨hi, -⟩ := List.getElem?_eq_some_iff.mp hv
  obtain ⟨q1, q2⟩ := idx_ok hj hi r2
  exact Go.of (fun _ q => X.caload B.hx (cell := cl) (j := j) (v := v) (by rw [eT]; exact Ar.1) (State.isArrayOf_alike B.hZ.alike Ar.2.1) Ar.2.2 (by rw [r1]; exact q1) (by rw [r1, q2]; simpa using hv) (g := fr m pc L (.int j :: .ref a :: st)) rfl rfl (hb B.by' hd) _ q) k
theorem Go.iaload (B : Ctx p Z s m meth c own nm bytes maxL ret) (X : Stand p l e R s m args below meth c T locs cells slots) (eT : T.heap = h) {a : Addr} {vs : List Value} {j : Int32} {v : Value} (A : Av Z h a .int vs) (i : Nat) (hd : decode bytes pc = .ok (.iaload, 1)) (hp : pc + 1 = pc') (hj : j = Int32.ofNat i) (hv : vs[i]? = some v)
    (k : Go p e below Q (T.setTop (fr m pc' L (v :: st)))) : Go p e below Q (T.setTop (fr m pc L (.int j :: .ref a :: st))) := by
  subst hp
  obtain ⟨cl, Ar, r1, r2, r3⟩ := A
  obtain ⟨hi, -⟩ := List.getElem?_eq_some_iff.mp hv
  obtain ⟨q1, q2⟩ := idx_ok hj hi r2
  exact Go.of (fun _ q => X.iaload B.hx (cell := cl) (j := j) (v := v) (by rw [eT]; exact Ar.1) (State.isArrayOf_alike B.hZ.alike Ar.2.1) Ar.2.2 (by rw [r1]; exact q1) (by rw [r1, q2]; simpa using hv) (g := fr m pc L (.int j :: .ref a :: st)) rfl rfl (hb B.by' hd) _ q) k
theorem Go.baload (B : Ctx p Z s m meth c own nm bytes maxL ret) (X : Stand p l e R s m args below meth c T locs cells slots) (eT : T.heap = h) {a : Addr} {vs : List Value} {j : Int32} {v : Value} (A : Av Z h a .byte vs) (i : Nat) (hd : decode bytes pc = .ok (.baload, 1)) (hp : pc + 1 = pc') (hj : j = Int32.ofNat i) (hv : vs[i]? = some v)
    (k : Go p e below Q (T.setTop (fr m pc' L (v :: st)))) : Go p e below Q (T.setTop (fr m pc L (.int j :: .ref a :: st))) := by
  subst hp
  obtain ⟨cl, Ar, r1, r2, r3⟩ := A
  obtain ⟨hi, -⟩ := List.getElem?_eq_some_iff.mp hv
  obtain ⟨q1, q2⟩ := idx_ok hj hi r2
  exact Go.of (fun _ q => X.baloadBytes B.hx (cell := cl) (j := j) (v := v) (by rw [eT]; exact Ar.1) (State.isArrayOf_alike B.hZ.alike Ar.2.1) Ar.2.2 (by rw [r1]; exact q1) (by rw [r1, q2]; simpa using hv) (g := fr m pc L (.int j :: .ref a :: st)) rfl rfl (hb B.by' hd) _ q) k
theorem Go.daload (B : Ctx p Z s m meth c own nm bytes maxL ret) (X : Stand p l e R s m args below meth c T locs cells slots) (eT : T.heap = h) {a : Addr} {vs : List Value} {j : Int32} {v : Value} (A : Av Z h a .double vs) (i : Nat) (hd : decode bytes pc = .ok (.daload, 1)) (hp : pc + 1 = pc') (hj : j = Int32.ofNat i) (hv : vs[i]? = some v)
    (k : Go p e below Q (T.setTop (fr m pc' L (v :: st)))) : Go p e below Q (T.setTop (fr m pc L (.int j :: .ref a :: st))) := by
  subst hp
  obtain ⟨cl, Ar, r1, r2, r3⟩ := A
  obtain ⟨hi, -⟩ := List.getElem?_eq_some_iff.mp hv
  obtain ⟨q1, q2⟩ := idx_ok hj hi r2
  exact Go.of (fun _ q => X.daload B.hx (cell := cl) (j := j) (v := v) (by rw [eT]; exact Ar.1) (State.isArrayOf_alike B.hZ.alike Ar.2.1) Ar.2.2 (by rw [r1]; exact q1) (by rw [r1, q2]; simpa using hv) (g := fr m pc L (.int j :: .ref a :: st)) rfl rfl (hb B.by' hd) _ q) k
theorem Go.laload (B : Ctx p Z s m meth c own nm bytes maxL ret) (X : Stand p l e R s m args below meth c T locs cells slots) (eT : T.heap = h) {a : Addr} {vs : List Value} {j : Int32} {v : Value} (A : Av Z h a .long vs) (i : Nat) (hd : decode bytes pc = .ok (.laload, 1)) (hp : pc + 1 = pc') (hj : j = Int32.ofNat i) (hv : vs[i]? = some v)
    (k : Go p e below Q (T.setTop (fr m pc' L (v :: st)))) : Go p e below Q (T.setTop (fr m pc L (.int j :: .ref a :: st))) := by
  subst hp
  obtain ⟨cl, Ar, r1, r2, r3⟩ := A
  obtain ⟨hi, -⟩ := List.getElem?_eq_some_iff.mp hv
  obtain ⟨q1, q2⟩ := idx_ok hj hi r2
  exact Go.of (fun _ q => X.laload B.hx (cell := cl) (j := j) (v := v) (by rw [eT]; exact Ar.1) (State.isArrayOf_alike B.hZ.alike Ar.2.1) Ar.2.2 (by rw [r1]; exact q1) (by rw [r1, q2]; simpa using hv) (g := fr m pc L (.int j :: .ref a :: st)) rfl rfl (hb B.by' hd) _ q) k
theorem Go.arraylength (B : Ctx p Z s m meth c own nm bytes maxL ret) (X : Stand p l e R s m args below meth c T locs cells slots) (eT : T.heap = h) {a : Addr} {ty : FieldType} {vs : List Value} (A : Av Z h a ty vs) (hd : decode bytes pc = .ok (.arraylength, 1)) (hp : pc + 1 = pc')
    (k : Go p e below Q (T.setTop (fr m pc' L (.int (Int32.ofNat vs.length) :: st)))) : Go p e below Q (T.setTop (fr m pc L (.ref a :: st))) := by
  subst hp
  obtain ⟨cl, Ar, r1, r2, r3⟩ := A
  have q1 : cl.slots.size = vs.length := by rw [r1]; rfl
  refine Go.of (fun _ q => X.arraylength B.hx (cell := cl) (by rw [eT]; exact Ar.1) (State.isArrayOf_alike B.hZ.alike Ar.2.1) (g := fr m pc L (.ref a :: st)) rfl rfl (hb B.by' hd) _ (by rw [q1]; exact q)) k
theorem Go.castore (B : Ctx p Z s m meth c own nm bytes maxL ret) (X : Stand p l e R s m args below meth c T locs cells slots) (eT : T.heap = h) {a : Addr} {vs : List Value} {j : Int32} {x : Int32} (A : Av Z h a .char vs) (i : Nat) (hd : decode bytes pc = .ok (.castore, 1)) (hp : pc + 1 = pc') (hj : j = Int32.ofNat i) (hi : i < vs.length)
    (k : ∀ T' h' L', Fr a L' → Stand p l e R s m args below meth c T' (locs ++ L') cells slots → T'.heap = h' → Wr h h' a i (.int (nar .char x)) → Av Z h' a .char (vs.set i (.int (nar .char x))) → Go p e below Q (T'.setTop (fr m pc' L st))) : Go p e below Q (T.setTop (fr m pc L (.int x :: .int j :: .ref a :: st))) := by
  subst hp
  have A0 := A
  obtain ⟨cl, Ar, r1, r2, r3⟩ := A
  obtain ⟨q1, q2⟩ := idx_ok hj hi r2
  obtain ⟨T', h', X', e', W, stp⟩ := RoadKit.stC X B.hx B.hZ eT Ar (j := j) (x := x) (by rw [r1]; exact q1) (g := fr m pc L (.int x :: .int j :: .ref a :: st)) rfl rfl (hb B.by' hd)
  rw [q2] at W
  exact Go.of stp (k T' h' _ (fun y hy => by cases List.mem_singleton.mp hy; exact Nat.le_refl _) X' e' W (A0.set W (fits_nar_char _)))
theorem Go.bastore (B : Ctx p Z s m meth c own nm bytes maxL ret) (X : Stand p l e R s m args below meth c T locs cells slots) (eT : T.heap = h) {a : Addr} {vs : List Value} {j : Int32} {x : Int32} (A : Av Z h a .byte vs) (i : Nat) (hd : decode bytes pc = .ok (.bastore, 1)) (hp : pc + 1 = pc') (hj : j = Int32.ofNat i) (hi : i < vs.length)
    (k : ∀ T' h' L', Fr a L' → Stand p l e R s m args below meth c T' (locs ++ L') cells slots → T'.heap = h' → Wr h h' a i (.int (nar .byte x)) → Av Z h' a .byte (vs.set i (.int (nar .byte x))) → Go p e below Q (T'.setTop (fr m pc' L st))) : Go p e below Q (T.setTop (fr m pc L (.int x :: .int j :: .ref a :: st))) := by
  subst hp
  have A0 := A
  obtain ⟨cl, Ar, r1, r2, r3⟩ := A
  obtain ⟨q1, q2⟩ := idx_ok hj hi r2
  obtain ⟨T', h', X', e', W, stp⟩ := RoadKit.stB X B.hx B.hZ eT Ar (j := j) (x := x) (by rw [r1]; exact q1) (g := fr m pc L (.int x :: .int j :: .ref a :: st)) rfl rfl (hb B.by' hd)
  rw [q2] at W
  exact Go.of stp (k T' h' _ (fun y hy => by cases List.mem_singleton.mp hy; exact Nat.le_refl _) X' e' W (A0.set W (fits_nar_byte _)))
theorem Go.iastore (B : Ctx p Z s m meth c own nm bytes maxL ret) (X : Stand p l e R s m args below meth c T locs cells slots) (eT : T.heap = h) {a : Addr} {vs : List Value} {j : Int32} {x : Int32} (A : Av Z h a .int vs) (i : Nat) (hd : decode bytes pc = .ok (.iastore, 1)) (hp : pc + 1 = pc') (hj : j = Int32.ofNat i) (hi : i < vs.length)
    (k : ∀ T' h' L', Fr a L' → Stand p l e R s m args below meth c T' (locs ++ L') cells slots → T'.heap = h' → Wr h h' a i (.int x) → Av Z h' a .int (vs.set i (.int x)) → Go p e below Q (T'.setTop (fr m pc' L st))) : Go p e below Q (T.setTop (fr m pc L (.int x :: .int j :: .ref a :: st))) := by
  subst hp
  have A0 := A
  obtain ⟨cl, Ar, r1, r2, r3⟩ := A
  obtain ⟨q1, q2⟩ := idx_ok hj hi r2
  obtain ⟨T', h', X', e', W, stp⟩ := RoadKit.stI X B.hx B.hZ eT Ar (j := j) (x := x) (by rw [r1]; exact q1) (g := fr m pc L (.int x :: .int j :: .ref a :: st)) rfl rfl (hb B.by' hd)
  rw [q2] at W
  exact Go.of stp (k T' h' _ (fun y hy => by cases List.mem_singleton.mp hy; exact Nat.le_refl _) X' e' W (A0.set W (rfl)))
theorem Go.dastore (B : Ctx p Z s m meth c own nm bytes maxL ret) (X : Stand p l e R s m args below meth c T locs cells slots) (eT : T.heap = h) {a : Addr} {vs : List Value} {j : Int32} {x : UInt64} (A : Av Z h a .double vs) (i : Nat) (hd : decode bytes pc = .ok (.dastore, 1)) (hp : pc + 1 = pc') (hj : j = Int32.ofNat i) (hi : i < vs.length)
    (k : ∀ T' h' L', Fr a L' → Stand p l e R s m args below meth c T' (locs ++ L') cells slots → T'.heap = h' → Wr h h' a i (.double x) → Av Z h' a .double (vs.set i (.double x)) → Go p e below Q (T'.setTop (fr m pc' L st))) : Go p e below Q (T.setTop (fr m pc L (.double x :: .int j :: .ref a :: st))) := by
  subst hp
  have A0 := A
  obtain ⟨cl, Ar, r1, r2, r3⟩ := A
  obtain ⟨q1, q2⟩ := idx_ok hj hi r2
  obtain ⟨T', h', X', e', W, stp⟩ := RoadKit.stD X B.hx B.hZ eT Ar (j := j) (x := x) (by rw [r1]; exact q1) (g := fr m pc L (.double x :: .int j :: .ref a :: st)) rfl rfl (hb B.by' hd)
  rw [q2] at W
  exact Go.of stp (k T' h' _ (fun y hy => by cases List.mem_singleton.mp hy; exact Nat.le_refl _) X' e' W (A0.set W (rfl)))
theorem Go.lastore (B : Ctx p Z s m meth c own nm bytes maxL ret) (X : Stand p l e R s m args below meth c T locs cells slots) (eT : T.heap = h) {a : Addr} {vs : List Value} {j : Int32} {x : Int64} (A : Av Z h a .long vs) (i : Nat) (hd : decode bytes pc = .ok (.lastore, 1)) (hp : pc + 1 = pc') (hj : j = Int32.ofNat i) (hi : i < vs.length)
    (k : ∀ T' h' L', Fr a L' → Stand p l e R s m args below meth c T' (locs ++ L') cells slots → T'.heap = h' → Wr h h' a i (.long x) → Av Z h' a .long (vs.set i (.long x)) → Go p e below Q (T'.setTop (fr m pc' L st))) : Go p e below Q (T.setTop (fr m pc L (.long x :: .int j :: .ref a :: st))) := by
  subst hp
  have A0 := A
  obtain ⟨cl, Ar, r1, r2, r3⟩ := A
  obtain ⟨q1, q2⟩ := idx_ok hj hi r2
  obtain ⟨T', h', X', e', W, stp⟩ := RoadKit.stJ X B.hx B.hZ eT Ar (j := j) (x := x) (by rw [r1]; exact q1) (g := fr m pc L (.long x :: .int j :: .ref a :: st)) rfl rfl (hb B.by' hd)
  rw [q2] at W
  exact Go.of stp (k T' h' _ (fun y hy => by cases List.mem_singleton.mp hy; exact Nat.le_refl _) X' e' W (A0.set W (rfl)))
/-! calls -/
abbrev BackQ (l : Launch) (R : Room) (p : Program) (e : Env) (below : List Frame) (s : State) (args : Array Value) (y : MethodName) (W : Nat) (as : List Value) (h : Heap) (kc ks : Nat) (Qc : Option Value → Heap → List Loc → Prop) : Prop :=
  Back l R p e below s args y 3 W (fun A a => a = as.toArray ∧ A.U.heap = h ∧ A.cells + kc ≤ R.cells ∧ A.slots + ks ≤ R.slots) (fun A _ v D => ∃ L, Qc v D.U.heap L ∧ D.locs = A.locs ++ L ∧ D.cells = A.cells + kc ∧ D.slots = A.slots + ks)
/-- a body's contract -/
def Ct (l : Launch) (Z : State) (y : MethodName) (bytes : ByteArray) (maxL : Nat) (ret : Option FieldType) (ws : List Jvm.Cond) (rm : Room) (C S : Nat) (as : List Value) (h0 : Heap) (Qc : Option Value → Heap → List Loc → Prop) : Prop :=
  MetFree l y (head1 (Jvm.Cond.code y bytes maxL ret :: ws) rm) (fun a U => a = as.toArray ∧ Z.Warmed39 U.vm ∧ U.heap = h0) (fun _ _ _ _ _ => True) (fun _ U o U' => ∃ v L, o = .returned v ∧ Qc v U'.heap L ∧ FrameEnd U o U' L C S)
theorem Ct.mk {y : MethodName} {ws : List Jvm.Cond} {rm : Room} {C S : Nat} {as : List Value} {Qc : Option Value → Heap → List Loc → Prop} {L0 : List Slot} (hpn : plainFor y = true) (hL : ∀ m, entryFrame m as.toArray maxL = fr m 0 L0 [])
    (body : ∀ (p : Program) (e : Env) (s : State) (m : MethodId) (below : List Frame) (meth : Method) (c : Code) (s₁ : State), Ctx p Z s m meth c y.cls y.name bytes maxL ret → Stand p l e rm s m as.toArray below meth c s₁ [] 0 0 → s₁.heap = h → Go p e below (End s C S Qc) (s₁.setTop (fr m 0 L0 []))) :
    Ct l Z y bytes maxL ret ws rm C S as h Qc := by
  refine MetFree.of_bodySF hpn hisR ?_
  intro p e s m args below meth c s₁ Bd hml0 hP hK
  obtain ⟨rfl, hZ, hh⟩ := hP
  have G := body p e s m below meth c s₁ ⟨Bd.exec, Bd.bytes, hml0, findClass_of_methodNamed Bd.named, (name_of_methodNamed Bd.named Bd.method).1, hZ, Bd.returns, Bd.notSynchronized⟩ (Stand.of_body Bd) (by rw [← hh, Bd.state]; rfl)
  rw [hL]
  exact G
theorem Ct.back {y : MethodName} {rm : Room} {as : List Value} {Qc : Option Value → Heap → List Loc → Prop} {W : Nat} {bytes' : ByteArray} {maxL' : Nat} {ret' : Option FieldType} (K : Ct l Z y bytes' maxL' ret' [] rm rm.cells rm.slots as h Qc) (hZ : Z.Warmed39 s.vm) (wc : (Jvm.Cond.code y bytes' maxL' ret').before a0 Z = true) (wz : (Jvm.Cond.initialized y.cls).before a0 Z = true) (hf : rm.frames + 1 ≤ R.frames) (hl : W + (maxL' + 11) + rm.locals ≤ R.locals) :
    BackQ l R p e below s args y W as h rm.cells rm.slots Qc := backOf K hZ wc wz hf hl
theorem Go.callS (B : Ctx p Z s m meth c own nm bytes maxL ret) (X : Stand p l e R s m args below meth c T locs cells slots) (eT : T.heap = h) {y : MethodName} {i W kc ks : Nat} {as rest : List Value} {Qc : Option Value → Heap → List Loc → Prop} {bytes' : ByteArray} {maxL' : Nat} {ret' : Option FieldType} {ps : List FieldType} {r : Option FieldType}
    (K : BackQ l R p e below s args y W as h kc ks Qc) (wl : (Jvm.Cond.methodLink own i y).before a0 Z = true) (ws : (Jvm.Cond.static y).before a0 Z = true) (wz : (Jvm.Cond.initialized y.cls).before a0 Z = true) (wc : (Jvm.Cond.code y bytes' maxL' ret').before a0 Z = true) (hy : y.cls ≠ "java/lang/invoke/MethodHandle" ∧ y.cls ≠ "java/lang/invoke/VarHandle")
    (hpd : parseMethodDescriptor y.desc = some ⟨ps, r⟩) (hd : decode bytes pc = .ok (.invokestatic i, 3)) (hp : pc + 3 = pc') (hL : L.length = maxL) (hst : st = as.reverse ++ rest) (hln : as.length = ps.length) (hW : (rest.map fun v => v.category).sum ≤ W) (hc : cells + kc ≤ R.cells) (hs : slots + ks ≤ R.slots)
    (k : ∀ v T' L', Stand p l e R s m args below meth c T' (locs ++ L') (cells + kc) (slots + ks) → Qc v T'.heap L' → Go p e below Q (T'.setTop (fr m pc' L (v.toList ++ rest)))) : Go p e below Q (T.setTop (fr m pc L st)) := by
  subst hp
  obtain ⟨v, _, ⟨T', L1, k1, n1⟩, -, X', ⟨L', hQ, l1, y1, z1⟩, stp⟩ := Jvm.LawKit.callS X B.hx (y := y) B.cl (mvT B.hZ wl) (mvT B.hZ ws) (mvT B.hZ wz) (mvT B.hZ wc) hy K (g := fr m pc L st) rfl (by rw [B.ml]; exact hL) (argsL := as) (rest := rest) (lenOf hpd hln) hst (by show 2 * 0 + _ ≤ _; omega) (hb B.by' hd) (fun _ _ => ⟨rfl, eT, hc, hs⟩)
  dsimp only [Pt.U, Pt.locs, Pt.cells, Pt.slots] at X' l1 y1 z1 stp hQ
  subst l1 y1 z1
  exact Go.of stp (k v T' L' X' hQ)
theorem Go.callI (B : Ctx p Z s m meth c own nm bytes maxL ret) (X : Stand p l e R s m args below meth c T locs cells slots) (eT : T.heap = h) {y : MethodName} {i W kc ks : Nat} {a : Addr} {as rest : List Value} {Qc : Option Value → Heap → List Loc → Prop} {bytes' : ByteArray} {maxL' : Nat} {ps : List FieldType} {r : Option FieldType}
    (hyn : y.name = "<init>") (K : BackQ l R p e below s args y W (.ref a :: as) h kc ks Qc) (wl : (Jvm.Cond.methodLink own i y).before a0 Z = true) (wi : (Jvm.Cond.instanceMethod y).before a0 Z = true) (wc : (Jvm.Cond.code y bytes' maxL' none).before a0 Z = true) (hy : y.cls ≠ "java/lang/invoke/MethodHandle" ∧ y.cls ≠ "java/lang/invoke/VarHandle")
    (hpd : parseMethodDescriptor y.desc = some ⟨ps, r⟩) (hd : decode bytes pc = .ok (.invokespecial i, 3)) (hp : pc + 3 = pc') (hL : L.length = maxL) (hst : st = as.reverse ++ .ref a :: rest) (hln : as.length = ps.length) (hW : (rest.map fun v => v.category).sum ≤ W) (hc : cells + kc ≤ R.cells) (hs : slots + ks ≤ R.slots)
    (k : ∀ v T' L', Stand p l e R s m args below meth c T' (locs ++ L') (cells + kc) (slots + ks) → Qc v T'.heap L' → Go p e below Q (T'.setTop (fr m pc' L (v.toList ++ rest)))) : Go p e below Q (T.setTop (fr m pc L st)) := by
  subst hp
  obtain ⟨v, _, ⟨T', L1, k1, n1⟩, -, X', ⟨L', hQ, l1, y1, z1⟩, stp⟩ := X.specialBack B.hx (y := y) hyn B.cl (mvT B.hZ wl) (mvT B.hZ wi) (mvT B.hZ wc) hy K (g := fr m pc L st) rfl (by rw [B.ml]; exact hL) (Steps.refl _) (a := a) (argsL := as) (rest := rest) (lenOf hpd hln) hst (by show 2 * 0 + _ ≤ _; omega) (hb B.by' hd) (fun _ _ => ⟨rfl, eT, hc, hs⟩)
  dsimp only [Pt.U, Pt.locs, Pt.cells, Pt.slots] at X' l1 y1 z1 stp hQ
  subst l1 y1 z1
  exact Go.come stp (k v T' L' X' hQ)
theorem Go.callV (B : Ctx p Z s m meth c own nm bytes maxL ret) (X : Stand p l e R s m args below meth c T locs cells slots) (eT : T.heap = h) {y z : MethodName} {C : String} {i W kc ks : Nat} {a : Addr} {as rest : List Value} {Qc : Option Value → Heap → List Loc → Prop} {ps : List FieldType} {r : Option FieldType}
    (K : BackQ l R p e below s args z W (.ref a :: as) h kc ks Qc) (E : Exa Z h a C) (wl : (Jvm.Cond.methodLink own i y).before a0 Z = true) (wd : (Jvm.Cond.declares y).before a0 Z = true) (wsel : (Jvm.Cond.selects C y z).before a0 Z = true) (wi : (Jvm.Cond.instanceMethod z).before a0 Z = true) (hy : y.cls ≠ "java/lang/invoke/MethodHandle" ∧ y.cls ≠ "java/lang/invoke/VarHandle") (hnf : NotFace s y)
    (hpd : parseMethodDescriptor y.desc = some ⟨ps, r⟩) (hd : decode bytes pc = .ok (.invokevirtual i, 3)) (hp : pc + 3 = pc') (hL : L.length = maxL) (hst : st = as.reverse ++ .ref a :: rest) (hln : as.length = ps.length) (hW : (rest.map fun v => v.category).sum ≤ W) (hc : cells + kc ≤ R.cells) (hs : slots + ks ≤ R.slots)
    (k : ∀ v T' L', Stand p l e R s m args below meth c T' (locs ++ L') (cells + kc) (slots + ks) → Qc v T'.heap L' → Go p e below Q (T'.setTop (fr m pc' L (v.toList ++ rest)))) : Go p e below Q (T.setTop (fr m pc L st)) := by
  subst hp
  obtain ⟨cq, kq, q1, -, q3⟩ := isOf B.hZ eT E
  obtain ⟨v, _, ⟨T', L1, k1, n1⟩, -, X', ⟨L', hQ, l1, y1, z1⟩, stp⟩ := X.virtualBack B.hx (y := y) (z := z) B.cl (mvT B.hZ wl) (mvT B.hZ wd) hnf (mvT B.hZ wsel) (mvT B.hZ wi) hy K q1 q3 (g := fr m pc L st) rfl (by rw [B.ml]; exact hL) (Steps.refl _) (argsL := as) (rest := rest) (lenOf hpd hln) hst (by show 2 * 0 + _ ≤ _; omega) (hb B.by' hd) (fun _ _ => ⟨rfl, eT, hc, hs⟩)
  dsimp only [Pt.U, Pt.locs, Pt.cells, Pt.slots] at X' l1 y1 z1 stp hQ
  subst l1 y1 z1
  exact Go.come stp (k v T' L' X' hQ)
/-! returns -/
theorem Go.fin (X : Stand p l e R s m args below meth c T locs cells slots) (B : Ctx p Z s m meth c own nm bytes maxL ret) {C S : Nat} {Qc : Option Value → Heap → List Loc → Prop} {v : Option Value} {f : JFrame} (hv : meth.sig.returnType = none → v = none) (hc : cells ≤ C) (hs : slots ≤ S) (q : Qc v T.heap locs)
    (stp : ∀ fs : List Frame, (∀ (f : JFrame) (acts : List Action), f.method = m → f.locked = none → f.entered = [] → (doReturn e (T.setTop f) acts v).1 = T.setFrames fs) → Steps p.tables e below (T.setTop f) (T.setFrames fs)) : Go p e below (End s C S Qc) (T.setTop f) := by
  obtain ⟨fs, hr, hrun, hended, hW, hsame⟩ := X.leave (v := v) hv B.lk
  exact ⟨_, _, stp fs hr, hrun, hended, _, _, rfl, q, ⟨_, rfl⟩, hW, hsame.mono hc hs⟩
theorem Go.iret (B : Ctx p Z s m meth c own nm bytes maxL (some .int)) (X : Stand p l e R s m args below meth c T locs cells slots) {C S : Nat} {Qc : Option Value → Heap → List Loc → Prop} {z : Int32} (hd : decode bytes pc = .ok (.ireturn, 1)) (hc : cells ≤ C) (hs : slots ≤ S) (q : Qc (some (.int z)) T.heap locs) : Go p e below (End s C S Qc) (T.setTop (fr m pc L (.int z :: st))) :=
  Go.fin X B (v := some (.int z)) (fun h => by rw [B.re] at h; cases h) hc hs q (fun fs hr => RoadKit.retOut X B.hx B.re rfl (Or.inl ⟨rfl, Or.inl rfl, z, rfl⟩) (hb B.by' hd) hr)
theorem Go.zret (B : Ctx p Z s m meth c own nm bytes maxL (some .boolean)) (X : Stand p l e R s m args below meth c T locs cells slots) {C S : Nat} {Qc : Option Value → Heap → List Loc → Prop} {z : Int32} (hd : decode bytes pc = .ok (.ireturn, 1)) (hz : narrow .boolean (.int z) = .int z) (hc : cells ≤ C) (hs : slots ≤ S) (q : Qc (some (.int z)) T.heap locs) : Go p e below (End s C S Qc) (T.setTop (fr m pc L (.int z :: st))) :=
  Go.fin X B (v := some (.int z)) (fun h => by rw [B.re] at h; cases h) hc hs q (fun fs hr => RoadKit.retOut X B.hx B.re hz (Or.inl ⟨rfl, Or.inr (Or.inl rfl), z, rfl⟩) (hb B.by' hd) hr)
theorem Go.cret (B : Ctx p Z s m meth c own nm bytes maxL (some .char)) (X : Stand p l e R s m args below meth c T locs cells slots) {C S : Nat} {Qc : Option Value → Heap → List Loc → Prop} {z : Int32} (hd : decode bytes pc = .ok (.ireturn, 1)) (hz : narrow .char (.int z) = .int z) (hc : cells ≤ C) (hs : slots ≤ S) (q : Qc (some (.int z)) T.heap locs) : Go p e below (End s C S Qc) (T.setTop (fr m pc L (.int z :: st))) :=
  Go.fin X B (v := some (.int z)) (fun h => by rw [B.re] at h; cases h) hc hs q (fun fs hr => RoadKit.retOut X B.hx B.re hz (Or.inl ⟨rfl, Or.inr (Or.inr (Or.inr (Or.inl rfl))), z, rfl⟩) (hb B.by' hd) hr)
theorem Go.bret (B : Ctx p Z s m meth c own nm bytes maxL (some .byte)) (X : Stand p l e R s m args below meth c T locs cells slots) {C S : Nat} {Qc : Option Value → Heap → List Loc → Prop} {z : Int32} (hd : decode bytes pc = .ok (.ireturn, 1)) (hz : narrow .byte (.int z) = .int z) (hc : cells ≤ C) (hs : slots ≤ S) (q : Qc (some (.int z)) T.heap locs) : Go p e below (End s C S Qc) (T.setTop (fr m pc L (.int z :: st))) :=
  Go.fin X B (v := some (.int z)) (fun h => by rw [B.re] at h; cases h) hc hs q (fun fs hr => RoadKit.retOut X B.hx B.re hz (Or.inl ⟨rfl, Or.inr (Or.inr (Or.inl rfl)), z, rfl⟩) (hb B.by' hd) hr)
theorem Go.lret (B : Ctx p Z s m meth c own nm bytes maxL (some .long)) (X : Stand p l e R s m args below meth c T locs cells slots) {C S : Nat} {Qc : Option Value → Heap → List Loc → Prop} {z : Int64} (hd : decode bytes pc = .ok (.lreturn, 1)) (hc : cells ≤ C) (hs : slots ≤ S) (q : Qc (some (.long z)) T.heap locs) : Go p e below (End s C S Qc) (T.setTop (fr m pc L (.long z :: st))) :=
  Go.fin X B (v := some (.long z)) (fun h => by rw [B.re] at h; cases h) hc hs q (fun fs hr => RoadKit.retOut X B.hx B.re rfl (Or.inr (Or.inl ⟨rfl, rfl, z, rfl⟩)) (hb B.by' hd) hr)
theorem Go.dret (B : Ctx p Z s m meth c own nm bytes maxL (some .double)) (X : Stand p l e R s m args below meth c T locs cells slots) {C S : Nat} {Qc : Option Value → Heap → List Loc → Prop} {z : UInt64} (hd : decode bytes pc = .ok (.dreturn, 1)) (hc : cells ≤ C) (hs : slots ≤ S) (q : Qc (some (.double z)) T.heap locs) : Go p e below (End s C S Qc) (T.setTop (fr m pc L (.double z :: st))) :=
  Go.fin X B (v := some (.double z)) (fun h => by rw [B.re] at h; cases h) hc hs q (fun fs hr => RoadKit.retOut X B.hx B.re rfl (Or.inr (Or.inr (Or.inl ⟨rfl, rfl, z, rfl⟩))) (hb B.by' hd) hr)
theorem Go.aret {t : FieldType} (B : Ctx p Z s m meth c own nm bytes maxL (some t)) (X : Stand p l e R s m args below meth c T locs cells slots) {C S : Nat} {Qc : Option Value → Heap → List Loc → Prop} {w : Value} (hd : decode bytes pc = .ok (.areturn, 1)) (ht : t.isReference = true) (hw : w.isRef = true) (hn : narrow t w = w) (hc : cells ≤ C) (hs : slots ≤ S) (q : Qc (some w) T.heap locs) : Go p e below (End s C S Qc) (T.setTop (fr m pc L (w :: st))) :=
  Go.fin X B (v := some w) (fun h => by rw [B.re] at h; cases h) hc hs q (fun fs hr => RoadKit.retOut X B.hx B.re hn (Or.inr (Or.inr (Or.inr (Or.inr ⟨rfl, ht, hw⟩)))) (hb B.by' hd) hr)
theorem Go.vret (B : Ctx p Z s m meth c own nm bytes maxL none) (X : Stand p l e R s m args below meth c T locs cells slots) {C S : Nat} {Qc : Option Value → Heap → List Loc → Prop} (hd : decode bytes pc = .ok (.return_, 1)) (hc : cells ≤ C) (hs : slots ≤ S) (q : Qc none T.heap locs) : Go p e below (End s C S Qc) (T.setTop (fr m pc L [])) :=
  Go.fin X B (v := none) (fun _ => rfl) hc hs q (fun fs hr => X.returnOut B.hx B.re (hb B.by' hd) hr)

end
section
open Jvm.Free.SB Jvm.Free.SBG
variable {p : Program} {l : Launch} {e : Env} {R : Room} {s : State} {m : MethodId} {args : Array Value} {below : List Frame} {meth : Method} {c : Code} {T : State} {locs : List Loc} {cells slots : Nat}
  {Z : State} {own nm : String} {bytes : ByteArray} {maxL : Nat} {ret : Option FieldType} {Q : Outcome → State → Prop} {pc pc' pcT : Nat} {L : List Slot} {st : List Value} {a0 : Array Value} {h h' : Heap} {vm0 : Vm} {EL : List (String × Nat)}
/-- what a walk that may intern knows of its past -/
def Wx (Z : State) (a0 : Array Value) (EL : List (String × Nat)) (s : State) (vm0 : Vm) (h : Heap) : Prop :=
  EW Z a0 EL ∧ (∀ d ∈ Bundle.stringAtoms, d.before a0 Z = true) ∧ (∃ k0, s.Since vm0 k0 ∧ k0 ≤ h.size) ∧ CHr Z EL s.vm s.heap vm0 h
theorem Wx.chv (V : Wx Z a0 EL s vm0 h) : CHv Z EL vm0 h := V.2.2.2.1
theorem Wx.step (V : Wx Z a0 EL s vm0 h) (g : h.size ≤ h'.size) (r : CHr Z EL vm0 h vm0 h') : Wx Z a0 EL s vm0 h' := by
  obtain ⟨v1, v2, ⟨k0, v3, v4⟩, v5⟩ := V
  exact ⟨v1, v2, ⟨k0, v3, Nat.le_trans v4 g⟩, v5.trans r⟩
theorem Wx.ext (V : Wx Z a0 EL s vm0 h) (E : Ext h h') : Wx Z a0 EL s vm0 h' := V.step E.1 (CHr.ext E V.chv)
theorem Wx.wr {a : Addr} {sl : Nat} {v : Value} (V : Wx Z a0 EL s vm0 h) (W : Wr h h' a sl v) (S : Safe Z EL vm0 h a) : Wx Z a0 EL s vm0 h' := V.step (Nat.le_of_eq W.size.symm) (CHr.wr W S V.chv)
theorem Wx.keep {ws : List Addr} (V : Wx Z a0 EL s vm0 h) (K : Keep h h' ws) (hs : ∀ x ∈ ws, Safe Z EL vm0 h x) : Wx Z a0 EL s vm0 h' := V.step K.1 (CHr.keep K hs V.chv)
theorem Wx.first (E : EW Z a0 EL) (wS : ∀ d ∈ Bundle.stringAtoms, d.before a0 Z = true) (eh : s.heap = h) (H : CHv Z EL s.vm h) : Wx Z a0 EL s s.vm h :=
  ⟨E, wS, ⟨h.size, (State.WarmedH.refl s).since _, Nat.le_refl _⟩, by rw [eh]; exact CHr.refl H⟩
theorem Ctx.again {vm1 : Vm} {n : Nat} (B : Ctx p Z (s.setVm vm0) m meth c own nm bytes maxL ret) (hS : (s.setVm vm0).Since vm1 n) : Ctx p Z (s.setVm vm1) m meth c own nm bytes maxL ret :=
  ⟨B.1, B.2.1, B.2.2.1, by show vm1.findClass own = _; rw [hS.1.alike.findClass]; exact B.cl, B.na, State.Warmed39.trans (t := s.setVm vm0) B.hZ hS.1, B.re, B.lk⟩
/-- the end of a walk that may intern -/
def EndW (s : State) (C S : Nat) (Z : State) (EL : List (String × Nat)) (Q : Option Value → Heap → List Loc → Prop) (o : Outcome) (U' : State) : Prop := ∃ v L, o = .returned v ∧ Q v U'.heap L ∧ CHr Z EL s.vm s.heap U'.vm U'.heap ∧ ReturnedEndW s o U' L C S
def CtW (l : Launch) (Z : State) (EL : List (String × Nat)) (y : MethodName) (bytes : ByteArray) (maxL : Nat) (ret : Option FieldType) (ws : List Jvm.Cond) (rm : Room) (C S : Nat) (as : List Value) (h0 : Heap) (Qc : Option Value → Heap → List Loc → Prop) : Prop :=
  MetFree l y (head1 (Jvm.Cond.code y bytes maxL ret :: ws) rm) (fun a U => a = as.toArray ∧ Z.Warmed39 U.vm ∧ U.heap = h0 ∧ CHv Z EL U.vm h0) (fun _ _ _ _ _ => True) (fun _ U o U' => ∃ v L, o = .returned v ∧ Qc v U'.heap L ∧ CHr Z EL U.vm U.heap U'.vm U'.heap ∧ ReturnedEndW U o U' L C S)
theorem CtW.mk {y : MethodName} {ws : List Jvm.Cond} {rm : Room} {C S : Nat} {as : List Value} {Qc : Option Value → Heap → List Loc → Prop} {L0 : List Slot} (hEL : EW Z a0 EL) (wS : ∀ d ∈ Bundle.stringAtoms, d.before a0 Z = true) (hpn : plainFor y = true) (hL : ∀ m, entryFrame m as.toArray maxL = fr m 0 L0 [])
    (body : ∀ (p : Program) (e : Env) (s : State) (m : MethodId) (below : List Frame) (meth : Method) (c : Code) (s₁ : State), Ctx p Z (s.setVm s.vm) m meth c y.cls y.name bytes maxL ret → Stand p l e rm (s.setVm s.vm) m as.toArray below meth c s₁ [] 0 0 → s₁.heap = h → Wx Z a0 EL s s.vm h → Go p e below (EndW s C S Z EL Qc) (s₁.setTop (fr m 0 L0 []))) :
    CtW l Z EL y bytes maxL ret ws rm C S as h Qc := by
  refine MetFree.of_bodySF hpn hisR ?_
  intro p e s m args below meth c s₁ Bd hml0 hP hK
  obtain ⟨rfl, hZ, hh, hC⟩ := hP
  have G := body p e s m below meth c s₁ ⟨Bd.exec, Bd.bytes, hml0, findClass_of_methodNamed Bd.named, (name_of_methodNamed Bd.named Bd.method).1, hZ, Bd.returns, Bd.notSynchronized⟩ (Stand.of_body Bd) (by rw [← hh, Bd.state]; rfl) (Wx.first hEL wS hh hC)
  rw [hL]
  exact G
theorem Go.finW (X : Stand p l e R (s.setVm vm0) m args below meth c T locs cells slots) (B : Ctx p Z (s.setVm vm0) m meth c own nm bytes maxL ret) (eT : T.heap = h) (V : Wx Z a0 EL s vm0 h) {C S : Nat} {Qc : Option Value → Heap → List Loc → Prop} {v : Option Value} {f : JFrame} (hv : meth.sig.returnType = none → v = none) (hc : cells ≤ C) (hs : slots ≤ S) (q : Qc v T.heap locs)
    (stp : ∀ fs : List Frame, (∀ (f : JFrame) (acts : List Action), f.method = m → f.locked = none → f.entered = [] → (doReturn e (T.setTop f) acts v).1 = T.setFrames fs) → Steps p.tables e below (T.setTop f) (T.setFrames fs)) : Go p e below (EndW s C S Z EL Qc) (T.setTop f) := by
  obtain ⟨v1, v2, ⟨k0, v3, v4⟩, v5⟩ := V
  obtain ⟨fs, hr, hrun, hended, r1, r2, r3, r4⟩ := X.leaveW v3 (by rw [eT]; exact v4) (v := v) hv B.lk
  refine ⟨_, _, stp fs hr, hrun, hended, v, locs, rfl, q, ?_, r1, r2, r3, r4.mono hc hs⟩
  have A := CHv.at X B.hZ v1 v5.1
  show CHr Z EL s.vm s.heap T.vm T.heap
  rw [eT]
  exact v5.trans A
theorem Go.ldcS (B : Ctx p Z (s.setVm vm0) m meth c own nm bytes maxL ret) (X : Stand p l e R (s.setVm vm0) m args below meth c T locs cells slots) (eT : T.heap = h) (V : Wx Z a0 EL s vm0 h) {text : String} {i : Nat} (n : Nat) {vs : List Value} (w : (Jvm.Cond.stringLink own i text).before a0 Z = true) (hmem : (own, i) ∈ EL)
    (ht : (∀ c ∈ text.toList, c.toNat < 256) ∧ text.toList.map (fun c => Value.int (Jvm.Lit.byteI c.toNat.toUInt16)) = vs) (hlen : vs.length < 2 ^ 31) (hd : decode bytes pc = .ok (.ldc i, 2)) (hp : pc + 2 = pc') (hn : 4 * text.toList.length ≤ n) (hbig : n ≤ 536870912) (hc : cells + 2 ≤ R.cells) (hl : slots + (n + 4) ≤ R.slots)
    (k : ∀ a T' h' b, Ctx p Z (s.setVm T'.vm) m meth c own nm bytes maxL ret → Stand p l e R (s.setVm T'.vm) m args below meth c T' locs (cells + 2) (slots + (n + 4)) → T'.heap = h' → Ext h h' → Wx Z a0 EL s T'.vm h' → Exa Z h' a "java/lang/String" → Fld Z h' a "java/lang/String" "coder" "B" (.int 0) → Fld Z h' a "java/lang/String" "value" "[B" (.ref b) → Av Z h' b .byte vs →
      (∀ x, x < h.size → Safe Z EL vm0 h x → Safe Z EL T'.vm h' x) → (∀ x, Safe Z EL T'.vm h' x → x ≠ a ∧ x ≠ b) → Go p e below Q (T'.setTop (fr m pc' L (.ref a :: st)))) : Go p e below Q (T.setTop (fr m pc L st)) := by
  subst hp
  obtain ⟨v1, v2, ⟨k0, v3, v4⟩, v5⟩ := V
  have hneg : ¬ Int32.ofNat vs.length < 0 := by
    intro hlt
    rw [Int32.lt_iff_toInt_lt] at hlt
    rw [Int32.toInt_ofNat_of_lt hlen] at hlt
    have : (0 : Int32).toInt = 0 := by decide
    omega
  obtain ⟨a, T', h', k1, b, kk, X', e', E, hS, hk1, hZ', hown', E1, F1, F2, A1, -, -, hC, -, hne, stp⟩ := ldcCH X B.hx B.hZ B.cl w v2 eT v3 v4 v1 hmem v5.1 ht hneg (Int32.toNatClampNeg_ofNat_of_lt hlen) (g := fr m pc L st) rfl (hb B.by' hd) hn hbig hc hl
  refine Go.of stp (k a T' h' b ⟨B.1, B.2.1, B.2.2.1, hown', B.na, hZ', B.re, B.lk⟩ X' e' E ⟨v1, v2, ⟨k1, hS, hk1⟩, v5.trans hC⟩ E1 F1 F2 (Av.of_arv A1 (Int32.toNatClampNeg_ofNat_of_lt hlen)) (fun x hx S => hC.safe hx S) hne)
theorem safe_null {x : Addr} (hal : Z.vm.Alike vm0) (E : Exa Z h x "java/lang/String") (V : Fld Z h x "java/lang/String" "value" "[B" .null) : Safe Z EL vm0 h x := fun K => by
  obtain ⟨p, -, u, a, -, q, -, F, rfl | rfl⟩ := K
  · obtain ⟨cell, cf, k, i, f, v1, v2, v3, v4, v5, v6, v7⟩ := V
    cases (show h[q.sa]? = some q.sC from F.ha).symm.trans v1
    obtain ⟨cS, ⟨⟨-, -, -, ⟨cv, kv, iv, s4, -⟩, -, -, -, s8, -⟩, -⟩, -⟩ := F
    obtain ⟨k', e1, -⟩ := State.fieldFound?_setVm (s := Z) hal v2
    have e2 := (show (Wst Z vm0 h).fieldFound? "java/lang/String" "value" "[B" = some (cf, k', i, f) from e1).symm.trans s4
    simp only [Option.some.injEq, Prod.mk.injEq] at e2
    rw [← e2.2.2.2, v7] at s8
    cases s8
  · obtain ⟨cell, k, e1, e2, -⟩ := E
    cases (show h[q.sd]? = some q.SA from F.hd).symm.trans e1
    obtain ⟨cS, -, -, f, -⟩ := F
    have f' : vm0.findClass "[B" = some q.SA.cls := f
    rw [hal.findClass] at f'
    obtain ⟨k1, q1, q2⟩ := Vm.findClass_spec f'
    obtain ⟨k2, q3, q4⟩ := Vm.findClass_spec e2
    cases q1.symm.trans q3
    exact absurd (q2.symm.trans q4) (by decide)
abbrev BackQW (l : Launch) (R : Room) (p : Program) (e : Env) (below : List Frame) (s : State) (vm0 : Vm) (args : Array Value) (y : MethodName) (W : Nat) (as : List Value) (h : Heap) (kc ks : Nat) (Z : State) (EL : List (String × Nat)) (Qc : Option Value → Heap → List Loc → Prop) : Prop :=
  BackS l R p e below (s.setVm vm0) args y 3 W (fun A a => a = as.toArray ∧ A.U.heap = h ∧ A.cells + kc ≤ R.cells ∧ A.slots + ks ≤ R.slots) (fun A _ v D => ∃ L, Qc v D.U.heap L ∧ D.locs = A.locs ++ L ∧ D.cells = A.cells + kc ∧ D.slots = A.slots + ks ∧ CHr Z EL vm0 h D.U.vm D.U.heap)
theorem CtW.back {y : MethodName} {rm : Room} {as : List Value} {Qc : Option Value → Heap → List Loc → Prop} {W : Nat} {bytes' : ByteArray} {maxL' : Nat} {ret' : Option FieldType} (K : CtW l Z EL y bytes' maxL' ret' [] rm rm.cells rm.slots as h Qc) (hZ : Z.Warmed39 vm0) (wc : (Jvm.Cond.code y bytes' maxL' ret').before a0 Z = true) (wz : (Jvm.Cond.initialized y.cls).before a0 Z = true) (hf : rm.frames + 1 ≤ R.frames) (hl : W + (maxL' + 11) + rm.locals ≤ R.locals) (V : Wx Z a0 EL s vm0 h) :
    BackQW l R p e below s vm0 args y W as h rm.cells rm.slots Z EL Qc := backOfSH K hZ wc wz hf hl V.1 V.chv
theorem Wx.over {T' : State} (V : Wx Z a0 EL s vm0 h) (eT : T.heap = h) (hS : (s.setVm vm0).Since T'.vm T'.heap.size) (g : T.heap.size ≤ T'.heap.size) (r : CHr Z EL vm0 h T'.vm T'.heap) : Wx Z a0 EL s T'.vm T'.heap := by
  obtain ⟨v1, v2, ⟨k0, v3, v4⟩, v5⟩ := V
  exact ⟨v1, v2, ⟨_, v3.trans hS (Nat.le_trans v4 (by rw [← eT]; exact g)), Nat.le_refl _⟩, v5.trans r⟩
theorem Go.callSW (B : Ctx p Z (s.setVm vm0) m meth c own nm bytes maxL ret) (X : Stand p l e R (s.setVm vm0) m args below meth c T locs cells slots) (eT : T.heap = h) (V : Wx Z a0 EL s vm0 h) {y : MethodName} {i W kc ks : Nat} {as rest : List Value} {Qc : Option Value → Heap → List Loc → Prop} {bytes' : ByteArray} {maxL' : Nat} {ret' : Option FieldType} {ps : List FieldType} {r : Option FieldType}
    (K : BackQW l R p e below s vm0 args y W as h kc ks Z EL Qc) (wl : (Jvm.Cond.methodLink own i y).before a0 Z = true) (ws : (Jvm.Cond.static y).before a0 Z = true) (wz : (Jvm.Cond.initialized y.cls).before a0 Z = true) (wc : (Jvm.Cond.code y bytes' maxL' ret').before a0 Z = true) (hy : y.cls ≠ "java/lang/invoke/MethodHandle" ∧ y.cls ≠ "java/lang/invoke/VarHandle")
    (hpd : parseMethodDescriptor y.desc = some ⟨ps, r⟩) (hd : decode bytes pc = .ok (.invokestatic i, 3)) (hp : pc + 3 = pc') (hL : L.length = maxL) (hst : st = as.reverse ++ rest) (hln : as.length = ps.length) (hW : (rest.map fun v => v.category).sum ≤ W) (hc : cells + kc ≤ R.cells) (hs : slots + ks ≤ R.slots)
    (k : ∀ v T' L', Ctx p Z (s.setVm T'.vm) m meth c own nm bytes maxL ret → Stand p l e R (s.setVm T'.vm) m args below meth c T' (locs ++ L') (cells + kc) (slots + ks) → Qc v T'.heap L' → Wx Z a0 EL s T'.vm T'.heap → (∀ x, x < h.size → Safe Z EL vm0 h x → Safe Z EL T'.vm T'.heap x) → Go p e below Q (T'.setTop (fr m pc' L (v.toList ++ rest)))) : Go p e below Q (T.setTop (fr m pc L st)) := by
  subst hp
  obtain ⟨v, _, ⟨T', L1, k1, n1⟩, -, X', hS, hg, ⟨L', hQ, l1, y1, z1, hC⟩, stp⟩ := RoadKit.callSS X B.hx (y := y) B.cl (mvT B.hZ wl) (mvT B.hZ ws) (mvT B.hZ wz) (mvT B.hZ wc) hy K (g := fr m pc L st) rfl (by rw [B.ml]; exact hL) (argsL := as) (rest := rest) (lenOf hpd hln) hst (by show 2 * 0 + _ ≤ _; omega) (hb B.by' hd) (fun _ _ => ⟨rfl, eT, hc, hs⟩)
  dsimp only [Pt.U, Pt.locs, Pt.cells, Pt.slots] at X' l1 y1 z1 stp hQ hS hg hC
  subst l1 y1 z1
  exact Go.come stp (k v T' L' (B.again hS) X' hQ (V.over eT hS hg hC) (fun x hx S => hC.safe hx S))
theorem Go.callIW (B : Ctx p Z (s.setVm vm0) m meth c own nm bytes maxL ret) (X : Stand p l e R (s.setVm vm0) m args below meth c T locs cells slots) (eT : T.heap = h) (V : Wx Z a0 EL s vm0 h) {y : MethodName} {i W kc ks : Nat} {a : Addr} {as rest : List Value} {Qc : Option Value → Heap → List Loc → Prop} {bytes' : ByteArray} {maxL' : Nat} {ps : List FieldType} {r : Option FieldType}
    (hyn : y.name = "<init>") (K : BackQW l R p e below s vm0 args y W (.ref a :: as) h kc ks Z EL Qc) (wl : (Jvm.Cond.methodLink own i y).before a0 Z = true) (wi : (Jvm.Cond.instanceMethod y).before a0 Z = true) (wc : (Jvm.Cond.code y bytes' maxL' none).before a0 Z = true) (hy : y.cls ≠ "java/lang/invoke/MethodHandle" ∧ y.cls ≠ "java/lang/invoke/VarHandle")
    (hpd : parseMethodDescriptor y.desc = some ⟨ps, r⟩) (hd : decode bytes pc = .ok (.invokespecial i, 3)) (hp : pc + 3 = pc') (hL : L.length = maxL) (hst : st = as.reverse ++ .ref a :: rest) (hln : as.length = ps.length) (hW : (rest.map fun v => v.category).sum ≤ W) (hc : cells + kc ≤ R.cells) (hs : slots + ks ≤ R.slots)
    (k : ∀ v T' L', Ctx p Z (s.setVm T'.vm) m meth c own nm bytes maxL ret → Stand p l e R (s.setVm T'.vm) m args below meth c T' (locs ++ L') (cells + kc) (slots + ks) → Qc v T'.heap L' → Wx Z a0 EL s T'.vm T'.heap → (∀ x, x < h.size → Safe Z EL vm0 h x → Safe Z EL T'.vm T'.heap x) → Go p e below Q (T'.setTop (fr m pc' L (v.toList ++ rest)))) : Go p e below Q (T.setTop (fr m pc L st)) := by
  subst hp
  obtain ⟨v, _, ⟨T', L1, k1, n1⟩, -, X', hS, hg, ⟨L', hQ, l1, y1, z1, hC⟩, stp⟩ := X.specialBackS B.hx (y := y) hyn B.cl (mvT B.hZ wl) (mvT B.hZ wi) (mvT B.hZ wc) hy K (g := fr m pc L st) rfl (by rw [B.ml]; exact hL) (Steps.refl _) (a := a) (argsL := as) (rest := rest) (lenOf hpd hln) hst (by show 2 * 0 + _ ≤ _; omega) (hb B.by' hd) (fun _ _ => ⟨rfl, eT, hc, hs⟩)
  dsimp only [Pt.U, Pt.locs, Pt.cells, Pt.slots] at X' l1 y1 z1 stp hQ hS hg hC
  subst l1 y1 z1
  exact Go.come stp (k v T' L' (B.again hS) X' hQ (V.over eT hS hg hC) (fun x hx S => hC.safe hx S))
theorem Go.callVW (B : Ctx p Z (s.setVm vm0) m meth c own nm bytes maxL ret) (X : Stand p l e R (s.setVm vm0) m args below meth c T locs cells slots) (eT : T.heap = h) (V : Wx Z a0 EL s vm0 h) {y z : MethodName} {C : String} {i W kc ks : Nat} {a : Addr} {as rest : List Value} {Qc : Option Value → Heap → List Loc → Prop} {ps : List FieldType} {r : Option FieldType}
    (K : BackQW l R p e below s vm0 args z W (.ref a :: as) h kc ks Z EL Qc) (E : Exa Z h a C) (wl : (Jvm.Cond.methodLink own i y).before a0 Z = true) (wd : (Jvm.Cond.declares y).before a0 Z = true) (wsel : (Jvm.Cond.selects C y z).before a0 Z = true) (wi : (Jvm.Cond.instanceMethod z).before a0 Z = true) (hy : y.cls ≠ "java/lang/invoke/MethodHandle" ∧ y.cls ≠ "java/lang/invoke/VarHandle") (hnf : NotFace (s.setVm vm0) y)
    (hpd : parseMethodDescriptor y.desc = some ⟨ps, r⟩) (hd : decode bytes pc = .ok (.invokevirtual i, 3)) (hp : pc + 3 = pc') (hL : L.length = maxL) (hst : st = as.reverse ++ .ref a :: rest) (hln : as.length = ps.length) (hW : (rest.map fun v => v.category).sum ≤ W) (hc : cells + kc ≤ R.cells) (hs : slots + ks ≤ R.slots)
    (k : ∀ v T' L', Ctx p Z (s.setVm T'.vm) m meth c own nm bytes maxL ret → Stand p l e R (s.setVm T'.vm) m args below meth c T' (locs ++ L') (cells + kc) (slots + ks) → Qc v T'.heap L' → Wx Z a0 EL s T'.vm T'.heap → (∀ x, x < h.size → Safe Z EL vm0 h x → Safe Z EL T'.vm T'.heap x) → Go p e below Q (T'.setTop (fr m pc' L (v.toList ++ rest)))) : Go p e below Q (T.setTop (fr m pc L st)) := by
  subst hp
  obtain ⟨cq, kq, q1, -, q3⟩ := isOf B.hZ eT E
  obtain ⟨v, _, ⟨T', L1, k1, n1⟩, -, X', hS, hg, ⟨L', hQ, l1, y1, z1, hC⟩, stp⟩ := X.virtualBackS B.hx (y := y) (z := z) B.cl (mvT B.hZ wl) (mvT B.hZ wd) hnf (mvT B.hZ wsel) (mvT B.hZ wi) hy K q1 q3 (g := fr m pc L st) rfl (by rw [B.ml]; exact hL) (Steps.refl _) (argsL := as) (rest := rest) (lenOf hpd hln) hst (by show 2 * 0 + _ ≤ _; omega) (hb B.by' hd) (fun _ _ => ⟨rfl, eT, hc, hs⟩)
  dsimp only [Pt.U, Pt.locs, Pt.cells, Pt.slots] at X' l1 y1 z1 stp hQ hS hg hC
  subst l1 y1 z1
  exact Go.come stp (k v T' L' (B.again hS) X' hQ (V.over eT hS hg hC) (fun x hx S => hC.safe hx S))
theorem Go.iretW (B : Ctx p Z (s.setVm vm0) m meth c own nm bytes maxL (some .int)) (X : Stand p l e R (s.setVm vm0) m args below meth c T locs cells slots) (eT : T.heap = h) (V : Wx Z a0 EL s vm0 h) {C S : Nat} {Qc : Option Value → Heap → List Loc → Prop} {z : Int32} (hd : decode bytes pc = .ok (.ireturn, 1)) (hc : cells ≤ C) (hs : slots ≤ S) (q : Qc (some (.int z)) T.heap locs) : Go p e below (EndW s C S Z EL Qc) (T.setTop (fr m pc L (.int z :: st))) :=
  Go.finW X B eT V (v := some (.int z)) (fun h => by rw [B.re] at h; cases h) hc hs q (fun fs hr => RoadKit.retOut X B.hx B.re rfl (Or.inl ⟨rfl, Or.inl rfl, z, rfl⟩) (hb B.by' hd) hr)
theorem Go.zretW (B : Ctx p Z (s.setVm vm0) m meth c own nm bytes maxL (some .boolean)) (X : Stand p l e R (s.setVm vm0) m args below meth c T locs cells slots) (eT : T.heap = h) (V : Wx Z a0 EL s vm0 h) {C S : Nat} {Qc : Option Value → Heap → List Loc → Prop} {z : Int32} (hd : decode bytes pc = .ok (.ireturn, 1)) (hz : narrow .boolean (.int z) = .int z) (hc : cells ≤ C) (hs : slots ≤ S) (q : Qc (some (.int z)) T.heap locs) : Go p e below (EndW s C S Z EL Qc) (T.setTop (fr m pc L (.int z :: st))) :=
  Go.finW X B eT V (v := some (.int z)) (fun h => by rw [B.re] at h; cases h) hc hs q (fun fs hr => RoadKit.retOut X B.hx B.re hz (Or.inl ⟨rfl, Or.inr (Or.inl rfl), z, rfl⟩) (hb B.by' hd) hr)
theorem Go.cretW (B : Ctx p Z (s.setVm vm0) m meth c own nm bytes maxL (some .char)) (X : Stand p l e R (s.setVm vm0) m args below meth c T locs cells slots) (eT : T.heap = h) (V : Wx Z a0 EL s vm0 h) {C S : Nat} {Qc : Option Value → Heap → List Loc → Prop} {z : Int32} (hd : decode bytes pc = .ok (.ireturn, 1)) (hz : narrow .char (.int z) = .int z) (hc : cells ≤ C) (hs : slots ≤ S) (q : Qc (some (.int z)) T.heap locs) : Go p e below (EndW s C S Z EL Qc) (T.setTop (fr m pc L (.int z :: st))) :=
  Go.finW X B eT V (v := some (.int z)) (fun h => by rw [B.re] at h; cases h) hc hs q (fun fs hr => RoadKit.retOut X B.hx B.re hz (Or.inl ⟨rfl, Or.inr (Or.inr (Or.inr (Or.inl rfl))), z, rfl⟩) (hb B.by' hd) hr)
theorem Go.aretW {t : FieldType} (B : Ctx p Z (s.setVm vm0) m meth c own nm bytes maxL (some t)) (X : Stand p l e R (s.setVm vm0) m args below meth c T locs cells slots) (eT : T.heap = h) (V : Wx Z a0 EL s vm0 h) {C S : Nat} {Qc : Option Value → Heap → List Loc → Prop} {w : Value} (hd : decode bytes pc = .ok (.areturn, 1)) (ht : t.isReference = true) (hw : w.isRef = true) (hn : narrow t w = w) (hc : cells ≤ C) (hs : slots ≤ S) (q : Qc (some w) T.heap locs) : Go p e below (EndW s C S Z EL Qc) (T.setTop (fr m pc L (w :: st))) :=
  Go.finW X B eT V (v := some w) (fun h => by rw [B.re] at h; cases h) hc hs q (fun fs hr => RoadKit.retOut X B.hx B.re hn (Or.inr (Or.inr (Or.inr (Or.inr ⟨rfl, ht, hw⟩)))) (hb B.by' hd) hr)
theorem Go.vretW (B : Ctx p Z (s.setVm vm0) m meth c own nm bytes maxL none) (X : Stand p l e R (s.setVm vm0) m args below meth c T locs cells slots) (eT : T.heap = h) (V : Wx Z a0 EL s vm0 h) {C S : Nat} {Qc : Option Value → Heap → List Loc → Prop} (hd : decode bytes pc = .ok (.return_, 1)) (hc : cells ≤ C) (hs : slots ≤ S) (q : Qc none T.heap locs) : Go p e below (EndW s C S Z EL Qc) (T.setTop (fr m pc L [])) :=
  Go.finW X B eT V (v := none) (fun _ => rfl) hc hs q (fun fs hr => X.returnOut B.hx B.re (hb B.by' hd) hr)
end
end Jvm.GoKit
/- laws to paste: StrChars.pair_says, StrChars.narrow_ch, StrChars.shr0, StrChars.shr1, StrChars.chr8_lo8, StrChars.fits_lo8 (cut by pick.py; bodies as the Statement names them) -/
namespace Jvm.Pilot.@@N@@
namespace StrChars
open Jvm Sem ClassFile Op Lib Jvm.Stand Jvm.Free.XT Jvm.Free.ALB Jvm.Free.JM Jvm.Free
open Jvm.Lib.Cold (StaticIs)
/-- the byte that i2b leaves of a char -/
def lo8 (x : Int32) : Int32 := x.toInt8.toInt32
theorem fits_lo8 (y : Int32) : fits .byte (.int (lo8 y)) = true := by
  have h1 := y.toInt8.le_toInt
  have h2 := y.toInt8.toInt_lt
  simp only [lo8, fits, Bool.and_eq_true, decide_eq_true_eq, Int32.le_iff_toInt_le, Int8.toInt_toInt32, show (-128 : Int32).toInt = -128 from by decide, show (127 : Int32).toInt = 127 from by decide]
  omega
/-- the byte, read back as charAt reads it, is the char -/
theorem lo8_mask {x : Int32} (h0 : ¬ x < 0) (h1 : ¬ 255 < x) : lo8 x &&& 255 = x := by
  have t : ∀ k : Fin 256, lo8 (Int32.ofNat k.val) &&& 255 = Int32.ofNat k.val := by decide +kernel
  rw [Int32.lt_iff_toInt_lt] at h0 h1
  have e0 : (0 : Int32).toInt = 0 := rfl
  have e1 : (255 : Int32).toInt = 255 := rfl
  obtain ⟨k, hk⟩ : ∃ k : Nat, x.toInt = k := ⟨x.toInt.toNat, by omega⟩
  have hx : x = Int32.ofNat k := Int32.toInt_inj.mp (by rw [hk, Int32.toInt_ofNat_small (by omega)])
  rw [hx]
  exact t ⟨k, by omega⟩
end StrChars
namespace StrChars
open Jvm Sem ClassFile Op Lib Jvm.Stand Jvm.Free.XT Jvm.Free.ALB Jvm.Free.JM Jvm.Free
open Jvm.Lib.Cold (StaticIs)
def hi8 (x : Int32) : Int32 := lo8 (x >>> ((8 : Int32) &&& 31))
/-- what StringUTF16.getChar makes of two bytes -/
def pairCh (u v : Int32) : Int32 := (((u &&& 255) <<< ((0 : Int32) &&& 31)) ||| ((v &&& 255) <<< ((8 : Int32) &&& 31))).toUInt32.toUInt16.toUInt32.toInt32
theorem shr0 (c : Int32) : c >>> ((0 : Int32) &&& 31) = c := by
  have e : ((0 : Int32) &&& 31) = 0 := by decide
  rw [e]
  apply Int32.toBitVec_inj.mp
  rw [Int32.toBitVec_shiftRight]
  have e1 : ((0 : Int32).toBitVec.smod 32) = 0#32 := by decide
  rw [e1, BitVec.sshiftRight_eq']
  exact BitVec.sshiftRight_zero
theorem lo8_and (x : Int32) : (lo8 x &&& 255).toBitVec.toNat = x.toBitVec.toNat % 256 := by
  have h : (lo8 x).toBitVec = (x.toBitVec.signExtend 8).signExtend 32 := by rw [lo8, Int8.toBitVec_toInt32, Int32.toBitVec_toInt8]
  rw [Int32.toBitVec_and, BitVec.toNat_and, h]
  have e : ((x.toBitVec.signExtend 8).signExtend 32).toNat % 256 = x.toBitVec.toNat % 256 := by
    rw [BitVec.toNat_signExtend]
    have hlt := x.toBitVec.isLt
    simp only [BitVec.toNat_setWidth, BitVec.toNat_signExtend]
    split <;> split <;> omega
  rw [← e]
  exact Nat.and_two_pow_sub_one_eq_mod _ 8
theorem pair_says {c : Int32} (h0 : ¬ c < 0) (h1 : ¬ 65535 < c) : pairCh (lo8 c) (hi8 c) = c := by
  rw [Int32.lt_iff_toInt_lt] at h0 h1
  have e0 : (0 : Int32).toInt = 0 := rfl
  have e1 : (65535 : Int32).toInt = 65535 := rfl
  have hc : c.toInt = c.toBitVec.toNat := by
    have := c.toBitVec.isLt
    have e : c.toInt = c.toBitVec.toInt := rfl
    rw [e] at h0 h1
    rw [e]
    rw [BitVec.toInt_eq_toNat_cond] at h0 h1 ⊢
    split at h0 <;> split <;> omega
  have hn : c.toBitVec.toNat < 65536 := by omega
  have a1 := lo8_and c
  have a2 : (hi8 c &&& 255).toBitVec.toNat = c.toBitVec.toNat / 256 := by
    rw [hi8, lo8_and]
    have e : ((8 : Int32) &&& 31) = 8 := by decide
    rw [e, Int32.toBitVec_shiftRight]
    have e2 : ((8 : Int32).toBitVec.smod 32) = 8#32 := by decide
    rw [e2, BitVec.sshiftRight_eq', BitVec.toNat_sshiftRight_of_msb_false (by rw [BitVec.msb_eq_false_iff_two_mul_lt]; omega)]
    show c.toBitVec.toNat >>> 8 % 256 = _
    rw [Nat.shiftRight_eq_div_pow]
    omega
  unfold pairCh
  apply Int32.toBitVec_inj.mp
  apply BitVec.eq_of_toNat_eq
  have f0 : ((0 : Int32) &&& 31) = 0 := by decide
  have f8 : ((8 : Int32) &&& 31) = 8 := by decide
  rw [f0, f8]
  have g : (((lo8 c &&& 255) <<< (0 : Int32)) ||| ((hi8 c &&& 255) <<< (8 : Int32))).toBitVec.toNat = c.toBitVec.toNat := by
    rw [Int32.toBitVec_or, Int32.toBitVec_shiftLeft, Int32.toBitVec_shiftLeft]
    have s0 : ((0 : Int32).toBitVec.smod 32) = 0#32 := by decide
    have s8 : ((8 : Int32).toBitVec.smod 32) = 8#32 := by decide
    rw [s0, s8, BitVec.toNat_or]
    simp only [BitVec.shiftLeft_eq', BitVec.toNat_shiftLeft, a1, a2]
    show (c.toBitVec.toNat % 256) <<< 0 % 2 ^ 32 ||| (c.toBitVec.toNat / 256) <<< 8 % 2 ^ 32 = _
    rw [Nat.shiftLeft_zero, Nat.mod_eq_of_lt (show c.toBitVec.toNat % 256 < 2 ^ 32 by omega), Nat.mod_eq_of_lt (show (c.toBitVec.toNat / 256) <<< 8 < 2 ^ 32 by rw [Nat.shiftLeft_eq]; omega), Nat.or_comm, ← Nat.shiftLeft_add_eq_or_of_lt (by omega), Nat.shiftLeft_eq]
    omega
  show BitVec.toNat (((((lo8 c &&& 255) <<< (0 : Int32)) ||| ((hi8 c &&& 255) <<< (8 : Int32))).toBitVec.setWidth 16).setWidth 32) = _
  rw [BitVec.toNat_setWidth, BitVec.toNat_setWidth, g]
  omega
end StrChars
namespace StrChars
open Jvm Sem ClassFile Op Lib Jvm.Stand Jvm.Free.XT Jvm.Free.ALB Jvm.Free.JM Jvm.Free
open Jvm.Lib.Cold (StaticIs)
theorem shr1 {n : Nat} (h : 2 * n < 2 ^ 31) : Int32.ofNat (2 * n) >>> ((1 : Int32) &&& 31) = Int32.ofNat n := by
  have e : ((1 : Int32) &&& 31) = 1 := by decide
  rw [e]
  apply Int32.toBitVec_inj.mp
  rw [Int32.toBitVec_shiftRight]
  have e1 : ((1 : Int32).toBitVec.smod 32) = 1#32 := by decide
  have hm : (BitVec.ofNat 32 (2 * n)).toNat = 2 * n := by rw [BitVec.toNat_ofNat, Nat.mod_eq_of_lt (by omega)]
  rw [e1, BitVec.sshiftRight_eq']
  apply BitVec.eq_of_toNat_eq
  show ((BitVec.ofNat 32 (2 * n)).sshiftRight 1).toNat = (BitVec.ofNat 32 n).toNat
  rw [BitVec.toNat_sshiftRight_of_msb_false (by rw [BitVec.msb_eq_false_iff_two_mul_lt, hm]; omega), hm, BitVec.toNat_ofNat, Nat.shiftRight_eq_div_pow]
  omega
/-- charAt's cast of a byte read back -/
def chr8 (u : Int32) : Int32 := (u &&& 255).toUInt32.toUInt16.toUInt32.toInt32
theorem chr8_lo8 {c : Int32} (h0 : ¬ c < 0) (h1 : ¬ 255 < c) : chr8 (lo8 c) = c := by
  have t : ∀ k : Fin 256, (Int32.ofNat k.val).toUInt32.toUInt16.toUInt32.toInt32 = Int32.ofNat k.val := by decide +kernel
  unfold chr8
  rw [lo8_mask h0 h1]
  rw [Int32.lt_iff_toInt_lt] at h0 h1
  have e0 : (0 : Int32).toInt = 0 := rfl
  have e1 : (255 : Int32).toInt = 255 := rfl
  obtain ⟨k, hk⟩ : ∃ k : Nat, c.toInt = k := ⟨c.toInt.toNat, by omega⟩
  have hx : c = Int32.ofNat k := Int32.toInt_inj.mp (by rw [hk, Int32.toInt_ofNat_small (by omega)])
  rw [hx]
  exact t ⟨k, by omega⟩
theorem narrow_ch {c : Int32} (h0 : ¬ c < 0) (h1 : ¬ 65535 < c) : narrow .char (.int c) = .int c := by
  have q : narrow .char (.int (pairCh (lo8 c) (hi8 c))) = .int (pairCh (lo8 c) (hi8 c)) := narrow_c _
  rwa [pair_says h0 h1] at q
end StrChars
end Jvm.Pilot.@@N@@
namespace Jvm.Pilot.@@N@@
open Jvm Jvm.ClassFile Sem Op Lib Jvm.Free Jvm.Stand Jvm.LawKit Jvm.RoadKit Bundle Jvm.GoKit Jvm.Pilot.@@N@@.Jvm.D
theorem tw {Z : State} {a0 : Array Value} (hw : ∀ d ∈ tables_1, d.before a0 Z = true) (i : Nat) {d : Jvm.Cond} (h : tables_1[i]? = some d) : d.before a0 Z = true := hw d (List.mem_of_getElem? h)
open StrChars (lo8 hi8 pairCh)
def wide : List Int32 → List Int32
  | [] => []
  | c :: cs => lo8 c :: hi8 c :: wide cs
theorem wide_len : ∀ cs : List Int32, (wide cs).length = 2 * cs.length
  | [] => rfl
  | c :: cs => by simp only [wide, List.length_cons, wide_len cs]; omega
theorem wide_app : ∀ (a b : List Int32), wide (a ++ b) = wide a ++ wide b
  | [], b => rfl
  | c :: cs, b => by simp [wide, wide_app cs b]
theorem wide_step (pre : List Int32) (c : Int32) (k : Nat) : ((wide pre ++ List.replicate (2 * (k + 1)) 0).set (2 * pre.length) (lo8 c)).set (2 * pre.length + 1) (hi8 c) = wide (pre ++ [c]) ++ List.replicate (2 * k) 0 := by
  have e : List.replicate (2 * (k + 1)) (0 : Int32) = 0 :: 0 :: List.replicate (2 * k) 0 := by
    rw [show 2 * (k + 1) = 2 * k + 1 + 1 by omega]; rfl
  have l := wide_len pre
  rw [e, List.set_append_right _ _ (by omega), List.set_append_right _ _ (by omega), wide_app, l]
  simp [wide]
theorem wide_lo : ∀ (cs : List Int32) (j : Nat) (c : Int32), cs[j]? = some c → (wide cs)[2 * j]? = some (lo8 c) ∧ (wide cs)[2 * j + 1]? = some (hi8 c)
  | [], j, c, h => by simp at h
  | x :: cs, 0, c, h => by simp at h; subst h; simp [wide]
  | x :: cs, j + 1, c, h => by
    have q := wide_lo cs j c (by simpa using h)
    rw [show 2 * (j + 1) = 2 * j + 1 + 1 by omega]
    simpa [wide] using q
theorem lat_step (pre : List Int32) (c : Int32) (k : Nat) : ((pre.map lo8) ++ List.replicate (k + 1) 0).set pre.length (lo8 c) = (pre ++ [c]).map lo8 ++ List.replicate k 0 := by
  rw [List.set_append_right _ _ (by simp), List.replicate_succ]
  simp
theorem take_step {cs : List Int32} {i : Nat} {c : Int32} (h : cs[i]? = some c) : cs.take (i + 1) = cs.take i ++ [c] := by
  obtain ⟨hi, rfl⟩ := List.getElem?_eq_some_iff.mp h
  simp
theorem nar_lo (c : Int32) : nar .byte c.toInt8.toInt32 = lo8 c := by
  show c.toInt8.toInt32.toInt8.toInt32 = c.toInt8.toInt32
  simp
theorem lt_ofNat {a b : Nat} (ha : a < 2 ^ 31) (hb : b < 2 ^ 31) : Int32.ofNat a < Int32.ofNat b ↔ a < b := by
  rw [Int32.lt_iff_toInt_lt, Int32.toInt_ofNat_of_lt ha, Int32.toInt_ofNat_of_lt hb]
  omega
theorem eq_ofNat {a b : Nat} (ha : a < 2 ^ 31) (hb : b < 2 ^ 31) : Int32.ofNat a = Int32.ofNat b ↔ a = b := by
  rw [← Int32.toInt_inj, Int32.toInt_ofNat_of_lt ha, Int32.toInt_ofNat_of_lt hb]
  omega
theorem ofNat_succ (k : Nat) : Int32.ofNat k + 1 = Int32.ofNat (k + 1) := (Int32.ofNat_add k 1).symm
theorem shl1 {i : Nat} (h : 2 * i < 2 ^ 31) : Int32.ofNat i <<< ((1 : Int32) &&& 31) = Int32.ofNat (2 * i) := by
  have a := c_ishl (Int32.ofNat i) 1 1 (by decide)
  rw [← Int32.toInt_inj, Int32.toInt_ofNat_of_lt h]
  rw [Int32.toInt_ofNat_of_lt (by omega)] at a
  have r := rng32 (Int32.ofNat i <<< ((1 : Int32) &&& 31))
  omega
/-- the statics that the sets name -/
def Stz (Z : State) : Prop := (∃ G : Int32, Sta Z Z.heap "java/lang/String" "COMPACT_STRINGS" "Z" (.int G) ∧ ¬ G = 0) ∧ True
/-- x is a String of the chars cs -/
def StrD (Z : State) (h : Heap) (x : Addr) (cs : List Int32) : Prop := ∃ (t : Addr) (cd : Int32) (bs : List Int32), Exa Z h x "java/lang/String" ∧ Fld Z h x "java/lang/String" "coder" "B" (.int cd) ∧ Fld Z h x "java/lang/String" "value" "[B" (.ref t) ∧ Av Z h t .byte (bs.map Value.int) ∧ ((cd = 0 ∧ bs = cs.map lo8 ∧ ∀ c ∈ cs, ¬ 255 < c) ∨ (cd = 1 ∧ bs = wide cs ∧ ∃ c ∈ cs, 255 < c))
theorem keep0 {h h' : Heap} (K : Keep h h' []) : Ext h h' := ⟨K.1, fun x c q => K.2.1 x c q (by simp)⟩

theorem nar_ch {c : Int32} (h : ¬ c < 0 ∧ ¬ 65535 < c) : nar .char c = c := by
  have q := StrChars.narrow_ch h.1 h.2
  have e : narrow .char (.int c) = .int (nar .char c) := rfl
  rw [e] at q
  exact Value.int.inj q
def Sfm (Z : State) : Prop := ∃ fm : Value, Sta Z Z.heap "jdk/internal/util/Preconditions" "SIOOBE_FORMATTER" "Ljava/util/function/BiFunction;" fm ∧ fm.isRef = true
theorem StrD.len31 {Z : State} {h : Heap} {t : Addr} {bs : List Int32} (A : Av Z h t .byte (bs.map Value.int)) : bs.length < 2 ^ 31 := by obtain ⟨_, _, _, q, _⟩ := A; simpa using q
theorem StrD.keep {Z : State} {h h' : Heap} {x : Addr} {cs : List Int32} (D : StrD Z h x cs) (E : Ext h h') : StrD Z h' x cs := by
  obtain ⟨t, cd, bs, x1, x2, x3, x4, hb⟩ := D
  exact ⟨t, cd, bs, x1.ext E, x2.ext E, x3.ext E, x4.ext E, hb⟩
theorem StrD.exa {Z : State} {h : Heap} {x : Addr} {cs : List Int32} (D : StrD Z h x cs) : Exa Z h x "java/lang/String" := by obtain ⟨t, cd, bs, x1, -⟩ := D; exact x1
theorem ofNat_nn {k : Nat} (h : k < 2 ^ 31) : ¬ Int32.ofNat k < 0 := fun q => by
  rw [show (0 : Int32) = Int32.ofNat 0 from rfl] at q
  exact absurd ((lt_ofNat h (by omega)).mp q) (by omega)

/-- x is a Latin-1 String of the bytes bs -/
def StrL (Z : State) (h : Heap) (x : Addr) (bs : List Int32) : Prop := ∃ t : Addr, Exa Z h x "java/lang/String" ∧ Fld Z h x "java/lang/String" "coder" "B" (.int 0) ∧ Fld Z h x "java/lang/String" "value" "[B" (.ref t) ∧ Av Z h t .byte (bs.map Value.int)
theorem StrL.of {Z : State} {h : Heap} {x : Addr} {cs : List Int32} (D : StrD Z h x cs) (hl : ∀ c ∈ cs, ¬ 255 < c) : StrL Z h x (cs.map lo8) := by
  obtain ⟨t, cd, bs, x1, x2, x3, x4, hb⟩ := D
  rcases hb with ⟨rfl, rfl, -⟩ | ⟨-, -, c, hc, q⟩
  · exact ⟨t, x1, x2, x3, x4⟩
  · exact absurd q (hl c hc)
theorem StrL.exa {Z : State} {h : Heap} {x : Addr} {bs : List Int32} (D : StrL Z h x bs) : Exa Z h x "java/lang/String" := by obtain ⟨t, x1, -⟩ := D; exact x1
theorem StrL.ext {Z : State} {h h' : Heap} {x : Addr} {bs : List Int32} (D : StrL Z h x bs) (E : Ext h h') : StrL Z h' x bs := by
  obtain ⟨t, x1, x2, x3, x4⟩ := D
  exact ⟨t, x1.ext E, x2.ext E, x3.ext E, x4.ext E⟩
theorem fld_det {Z : State} {h : Heap} {x : Addr} {C n d : String} {v w : Value} (F : Fld Z h x C n d v) (G : Fld Z h x C n d w) : v = w := by
  obtain ⟨c1, cf, k, i, f, h1, h2, h3, h4, h5, h6, h7⟩ := F
  obtain ⟨c2, cf', k', i', f', g1, g2, g3, g4, g5, g6, g7⟩ := G
  cases h1.symm.trans g1
  have e := h2.symm.trans g2
  simp only [Option.some.injEq, Prod.mk.injEq] at e
  rw [e.2.2.2] at h7
  exact Option.some.inj (h7.symm.trans g7)
theorem av_det {Z : State} {h : Heap} {x : Addr} {ty : FieldType} {v w : List Value} (F : Av Z h x ty v) (G : Av Z h x ty w) : v = w := by
  obtain ⟨c1, A1, e1, -⟩ := F
  obtain ⟨c2, A2, e2, -⟩ := G
  cases A1.1.symm.trans A2.1
  have := e1.symm.trans e2
  simpa using this
theorem map_inj {a b : List Int32} (h : a.map Value.int = b.map Value.int) : a = b := by
  induction a generalizing b with
  | nil => cases b with
    | nil => rfl
    | cons y t => simp at h
  | cons x s ih => cases b with
    | nil => simp at h
    | cons y t =>
      simp only [List.map_cons, List.cons.injEq, Value.int.injEq] at h
      rw [h.1, ih h.2]
theorem StrL.det {Z : State} {h : Heap} {x : Addr} {a b : List Int32} (D : StrL Z h x a) (E : StrL Z h x b) : a = b := by
  obtain ⟨t, -, -, x3, x4⟩ := D
  obtain ⟨u, -, -, y3, y4⟩ := E
  cases fld_det x3 y3
  exact map_inj (av_det x4 y4)
theorem take_all {a b : List Int32} {i : Nat} (hl : a.length = b.length) (h : a.take i = b.take i) (hi : a.length ≤ i) : a = b := by
  rwa [List.take_of_length_le hi, List.take_of_length_le (by omega)] at h

theorem sub_ofNat {a b : Nat} (h : b ≤ a) : Int32.ofNat a - Int32.ofNat b = Int32.ofNat (a - b) := by
  have e : Int32.ofNat a = Int32.ofNat (a - b) + Int32.ofNat b := by rw [← Int32.ofNat_add, Nat.sub_add_cancel h]
  rw [e, Int32.add_sub_cancel]
theorem StrL.keep {Z : State} {h h' : Heap} {x : Addr} {bs : List Int32} (D : StrL Z h x bs) (K : Keep h h' []) : StrL Z h' x bs := D.ext (keep0 K)
theorem StrL.l31 {Z : State} {h : Heap} {x : Addr} {bs : List Int32} (D : StrL Z h x bs) : bs.length < 2 ^ 31 := by obtain ⟨t, -, -, -, a⟩ := D; exact StrD.len31 a

theorem d1_0 : decode jdk_52_method_21_code 0 = .ok (.iconst 0, 1) := by decide +kernel
theorem d1_1 : decode jdk_52_method_21_code 1 = .ok (.istore 5, 2) := by decide +kernel
theorem d1_3 : decode jdk_52_method_21_code 3 = .ok (.iload 5, 2) := by decide +kernel
theorem d1_5 : decode jdk_52_method_21_code 5 = .ok (.iload 4, 2) := by decide +kernel
theorem d1_7 : decode jdk_52_method_21_code 7 = .ok (.if_icmp .ge 37, 3) := by decide +kernel
theorem d1_10 : decode jdk_52_method_21_code 10 = .ok (.aload_n 0, 1) := by decide +kernel
theorem d1_11 : decode jdk_52_method_21_code 11 = .ok (.iload_n 1, 1) := by decide +kernel
theorem d1_12 : decode jdk_52_method_21_code 12 = .ok (.caload, 1) := by decide +kernel
theorem d1_13 : decode jdk_52_method_21_code 13 = .ok (.istore 6, 2) := by decide +kernel
theorem d1_15 : decode jdk_52_method_21_code 15 = .ok (.iload 6, 2) := by decide +kernel
theorem d1_17 : decode jdk_52_method_21_code 17 = .ok (.sipush 255, 3) := by decide +kernel
theorem d1_20 : decode jdk_52_method_21_code 20 = .ok (.if_icmp .le 6, 3) := by decide +kernel
theorem d1_23 : decode jdk_52_method_21_code 23 = .ok (.iload 5, 2) := by decide +kernel
theorem d1_25 : decode jdk_52_method_21_code 25 = .ok (.ireturn, 1) := by decide +kernel
theorem d1_26 : decode jdk_52_method_21_code 26 = .ok (.aload_n 2, 1) := by decide +kernel
theorem d1_27 : decode jdk_52_method_21_code 27 = .ok (.iload_n 3, 1) := by decide +kernel
theorem d1_28 : decode jdk_52_method_21_code 28 = .ok (.iload 6, 2) := by decide +kernel
theorem d1_30 : decode jdk_52_method_21_code 30 = .ok (.i2b, 1) := by decide +kernel
theorem d1_31 : decode jdk_52_method_21_code 31 = .ok (.bastore, 1) := by decide +kernel
theorem d1_32 : decode jdk_52_method_21_code 32 = .ok (.iinc 1 1, 3) := by decide +kernel
theorem d1_35 : decode jdk_52_method_21_code 35 = .ok (.iinc 3 1, 3) := by decide +kernel
theorem d1_38 : decode jdk_52_method_21_code 38 = .ok (.iinc 5 1, 3) := by decide +kernel
theorem d1_41 : decode jdk_52_method_21_code 41 = .ok (.goto (-38), 3) := by decide +kernel
theorem d1_44 : decode jdk_52_method_21_code 44 = .ok (.iload 4, 2) := by decide +kernel
theorem d1_46 : decode jdk_52_method_21_code 46 = .ok (.ireturn, 1) := by decide +kernel
set_option maxRecDepth 65536 in
set_option maxHeartbeats 4000000 in
theorem own_c5 {p : Program} {l : Launch} {e : Env} {R : Room} {s : State} {m : MethodId} {args : Array Value} {below : List Frame} {meth : Method} {c : Code} {Z : State} {a0 : Array Value} {nm : String} {n0 : Nat} {h : Heap} {cs : List Int32} {src d : Addr} (hw : ∀ d ∈ tables_1, d.before a0 Z = true) (B : Ctx p Z s m meth c "java/lang/StringUTF16" nm jdk_52_method_21_code 7 (some .int)) (nd : n0 ≤ d) (hsd : src ≠ d) (hn : cs.length ≤ 8) :
    ∀ (r i : Nat), r + i = cs.length → ∀ (sl : Slot) (hsl : one sl = true) {T : State} {locs : List Loc} {hc : Heap} (X : Stand p l e R s m args below meth c T locs 0 0) (eT : T.heap = hc), Av Z hc src .char (cs.map Value.int) → Fr n0 locs → Keep h hc [d] → (∀ x ∈ cs.take i, ¬ 255 < x) → Av Z hc d .byte (((cs.take i).map lo8 ++ List.replicate (cs.length - i) 0).map Value.int) →
      Go p e below (End s 0 0 (fun v h' L => ∃ k, v = some (.int (Int32.ofNat k)) ∧ k ≤ cs.length ∧ Fr n0 L ∧ Keep h h' [d] ∧ (k = cs.length → (∀ x ∈ cs, ¬ 255 < x) ∧ Av Z h' d .byte ((cs.map lo8).map Value.int)) ∧ (k < cs.length → ∃ x, cs[k]? = some x ∧ 255 < x))) (T.setTop (fr m 3 [.val (.ref src), .val (.int (Int32.ofNat i)), .val (.ref d), .val (.int (Int32.ofNat i)), .val (.int (Int32.ofNat cs.length)), .val (.int (Int32.ofNat i)), sl] [])) := by
  intro r
  induction r with
  | zero =>
    intro i hri sl hsl T locs hc X eT As N K hlow At
    refine Go.iload B X d1_3 (pc' := 5) rfl rfl ?_
    refine Go.iload B X d1_5 (pc' := 7) rfl rfl ?_
    refine Go.ic B X d1_7 (by decide) (pcT := 44) rfl (pc' := 10) rfl (fun hcd => ?_) (fun hcd => ?_)
    · dsimp only [GoKit.CP] at hcd
      have hk : ¬ i < cs.length := fun q => hcd ((lt_ofNat (by omega) (by omega)).mpr q)
      have hi2 : i = cs.length := by omega
      subst hi2
      refine Go.iload B X d1_44 (pc' := 46) rfl rfl ?_
      exact Go.iret B X d1_46 nb nb ⟨_, rfl, Nat.le_refl _, N, by rw [eT]; exact K, fun _ => ⟨by simpa using hlow, by rw [eT]; simpa using At⟩, fun q => absurd q (Nat.lt_irrefl _)⟩
    · dsimp only [GoKit.CN] at hcd
      have hk : i < cs.length := (lt_ofNat (by omega) (by omega)).mp hcd
      obtain ⟨cc, hcc⟩ : ∃ cc, cs[i]? = some cc := ⟨cs[i], by simp [hk]⟩
      have At2 : Av Z hc d .byte (((cs.take i).map lo8 ++ List.replicate ((cs.length - i - 1) + 1) 0).map Value.int) := by rw [show cs.length - i - 1 + 1 = cs.length - i by omega]; exact At
      have e1 : (cs.take i).length = i := by simp; omega
      refine Go.aloadN B X d1_10 (pc' := 11) rfl rfl rfl ?_
      refine Go.iloadN B X d1_11 (pc' := 12) rfl rfl ?_
      refine Go.caload B X eT As i d1_12 (pc' := 13) rfl rfl (v := .int cc) (by rw [List.getElem?_map, hcc]; rfl) ?_
      refine Go.istore B X d1_13 (pc' := 15) rfl rfl hsl ?_
      dsimp only [put1]
      refine Go.iload B X d1_15 (pc' := 17) rfl rfl ?_
      refine Go.sipush B X 255 d1_17 (pc' := 20) rfl rfl ?_
      refine Go.ic B X d1_20 (by decide) (pcT := 26) rfl (pc' := 23) rfl (fun hc2 => ?_) (fun hc2 => ?_)
      · dsimp only [GoKit.CP] at hc2
        refine Go.aloadN B X d1_26 (pc' := 27) rfl rfl rfl ?_
        refine Go.iloadN B X d1_27 (pc' := 28) rfl rfl ?_
        refine Go.iload B X d1_28 (pc' := 30) rfl rfl ?_
        refine Go.i2b B X d1_30 (pc' := 31) rfl ?_
        refine Go.bastore B X eT At2 i d1_31 (pc' := 32) rfl rfl (by simp; omega) ?_
        intro Tq hq Lq Fq Xq eq Wq Aq'
        rw [nar_lo, ← List.map_set] at Aq'
        have ws := lat_step (cs.take i) cc (cs.length - i - 1)
        rw [e1, ← take_step hcc] at ws
        rw [ws] at Aq'
        have As2 := As.other Wq hsd
        have K2 : Keep h hq [d] := K.wr Wq (Or.inl (by simp))
        have hlow2 : ∀ x ∈ cs.take (i + 1), ¬ 255 < x := by
          intro x hx
          rw [take_step hcc] at hx
          rcases List.mem_append.mp hx with q | q
          · exact hlow x q
          · rw [List.mem_singleton.mp q]; exact hc2
        refine Go.iinc B Xq 1 d1_32 (pc' := 35) rfl rfl rfl ?_
        dsimp only [put1]
        refine Go.iinc B Xq 1 d1_35 (pc' := 38) rfl rfl rfl ?_
        dsimp only [put1]
        refine Go.iinc B Xq 1 d1_38 (pc' := 41) rfl rfl rfl ?_
        dsimp only [put1]
        refine Go.goto B Xq d1_41 (by decide) (pc' := 3) rfl ?_
        rw [ofNat_succ]
        omega
      · dsimp only [GoKit.CN] at hc2
        refine Go.iload B X d1_23 (pc' := 25) rfl rfl ?_
        exact Go.iret B X d1_25 nb nb ⟨i, rfl, by omega, N, by rw [eT]; exact K, fun q => absurd q (by omega), fun _ => ⟨cc, hcc, hc2⟩⟩
  | succ r ih =>
    intro i hri sl hsl T locs hc X eT As N K hlow At
    refine Go.iload B X d1_3 (pc' := 5) rfl rfl ?_
    refine Go.iload B X d1_5 (pc' := 7) rfl rfl ?_
    refine Go.ic B X d1_7 (by decide) (pcT := 44) rfl (pc' := 10) rfl (fun hcd => ?_) (fun hcd => ?_)
    · dsimp only [GoKit.CP] at hcd
      have hk : ¬ i < cs.length := fun q => hcd ((lt_ofNat (by omega) (by omega)).mpr q)
      have hi2 : i = cs.length := by omega
      subst hi2
      refine Go.iload B X d1_44 (pc' := 46) rfl rfl ?_
      exact Go.iret B X d1_46 nb nb ⟨_, rfl, Nat.le_refl _, N, by rw [eT]; exact K, fun _ => ⟨by simpa using hlow, by rw [eT]; simpa using At⟩, fun q => absurd q (Nat.lt_irrefl _)⟩
    · dsimp only [GoKit.CN] at hcd
      have hk : i < cs.length := (lt_ofNat (by omega) (by omega)).mp hcd
      obtain ⟨cc, hcc⟩ : ∃ cc, cs[i]? = some cc := ⟨cs[i], by simp [hk]⟩
      have At2 : Av Z hc d .byte (((cs.take i).map lo8 ++ List.replicate ((cs.length - i - 1) + 1) 0).map Value.int) := by rw [show cs.length - i - 1 + 1 = cs.length - i by omega]; exact At
      have e1 : (cs.take i).length = i := by simp; omega
      refine Go.aloadN B X d1_10 (pc' := 11) rfl rfl rfl ?_
      refine Go.iloadN B X d1_11 (pc' := 12) rfl rfl ?_
      refine Go.caload B X eT As i d1_12 (pc' := 13) rfl rfl (v := .int cc) (by rw [List.getElem?_map, hcc]; rfl) ?_
      refine Go.istore B X d1_13 (pc' := 15) rfl rfl hsl ?_
      dsimp only [put1]
      refine Go.iload B X d1_15 (pc' := 17) rfl rfl ?_
      refine Go.sipush B X 255 d1_17 (pc' := 20) rfl rfl ?_
      refine Go.ic B X d1_20 (by decide) (pcT := 26) rfl (pc' := 23) rfl (fun hc2 => ?_) (fun hc2 => ?_)
      · dsimp only [GoKit.CP] at hc2
        refine Go.aloadN B X d1_26 (pc' := 27) rfl rfl rfl ?_
        refine Go.iloadN B X d1_27 (pc' := 28) rfl rfl ?_
        refine Go.iload B X d1_28 (pc' := 30) rfl rfl ?_
        refine Go.i2b B X d1_30 (pc' := 31) rfl ?_
        refine Go.bastore B X eT At2 i d1_31 (pc' := 32) rfl rfl (by simp; omega) ?_
        intro Tq hq Lq Fq Xq eq Wq Aq'
        rw [nar_lo, ← List.map_set] at Aq'
        have ws := lat_step (cs.take i) cc (cs.length - i - 1)
        rw [e1, ← take_step hcc] at ws
        rw [ws] at Aq'
        have As2 := As.other Wq hsd
        have K2 : Keep h hq [d] := K.wr Wq (Or.inl (by simp))
        have hlow2 : ∀ x ∈ cs.take (i + 1), ¬ 255 < x := by
          intro x hx
          rw [take_step hcc] at hx
          rcases List.mem_append.mp hx with q | q
          · exact hlow x q
          · rw [List.mem_singleton.mp q]; exact hc2
        refine Go.iinc B Xq 1 d1_32 (pc' := 35) rfl rfl rfl ?_
        dsimp only [put1]
        refine Go.iinc B Xq 1 d1_35 (pc' := 38) rfl rfl rfl ?_
        dsimp only [put1]
        refine Go.iinc B Xq 1 d1_38 (pc' := 41) rfl rfl rfl ?_
        dsimp only [put1]
        refine Go.goto B Xq d1_41 (by decide) (pc' := 3) rfl ?_
        rw [ofNat_succ]
        exact ih (i + 1) (by omega) _ rfl Xq eq As2 (Fr.app N (GoKit.Fr.low Fq nd)) K2 hlow2 (by rw [show cs.length - (i + 1) = cs.length - i - 1 by omega]; exact Aq')
      · dsimp only [GoKit.CN] at hc2
        refine Go.iload B X d1_23 (pc' := 25) rfl rfl ?_
        exact Go.iret B X d1_25 nb nb ⟨i, rfl, by omega, N, by rw [eT]; exact K, fun q => absurd q (by omega), fun _ => ⟨cc, hcc, hc2⟩⟩
theorem pn_0 : plainName "java/lang/StringUTF16" = true := by first | (simp [plainName, overriddenIn]; done) | decide +kernel
def ct_c5_R : Room := ({ frames := 0, cells := 0, slots := 0, locals := 0 } : Room)
set_option maxRecDepth 65536 in
set_option maxHeartbeats 40000000 in
theorem ct_c5 (l : Launch) (Z : State) (a0 : Array Value) (hw : ∀ d ∈ tables_1, d.before a0 Z = true) (src d : Addr) (cs : List Int32) (h : Heap) (n0 : Nat) (nd : n0 ≤ d) (hsd : src ≠ d) (As : Av Z h src .char (cs.map Value.int)) (Ad : Av Z h d .byte ((List.replicate cs.length (0 : Int32)).map Value.int)) (hn : cs.length ≤ 8) :
    Ct l Z ⟨"java/lang/StringUTF16", "compress", "([CI[BII)I"⟩ jdk_52_method_21_code 7 (some .int) [] ct_c5_R ct_c5_R.cells ct_c5_R.slots [(.ref src), (.int (0 : Int32)), (.ref d), (.int (0 : Int32)), (.int (Int32.ofNat cs.length))] h (fun v h' L => ∃ k, v = some (.int (Int32.ofNat k)) ∧ k ≤ cs.length ∧ Fr n0 L ∧ Keep h h' [d] ∧ (k = cs.length → (∀ x ∈ cs, ¬ 255 < x) ∧ Av Z h' d .byte ((cs.map lo8).map Value.int)) ∧ (k < cs.length → ∃ x, cs[k]? = some x ∧ 255 < x)) := by
  refine Ct.mk (L0 := [.val (.ref src), .val (.int (0 : Int32)), .val (.ref d), .val (.int (0 : Int32)), .val (.int (Int32.ofNat cs.length)), .unset, .unset]) (plainFor_of_name pn_0) (fun m => by first | (simp [entryFrame, mkF, argsToLocals, Value.category]; done) | rfl) ?_
  intro p e s m below meth c s₁ B X0 e0
  refine Go.iconst B X0 0 d1_0 (pc' := 1) rfl rfl ?_
  refine Go.istore B X0 d1_1 (pc' := 3) rfl rfl rfl ?_
  dsimp only [put1]
  exact own_c5 hw B nd hsd hn cs.length 0 (by simp) .unset rfl X0 e0 As (Fr.nil _) (Keep.refl h [d]) (by simp) (by simpa using Ad)
theorem d2_0 : decode jdk_52_method_16_code 0 = .ok (.iload_n 2, 1) := by decide +kernel
theorem d2_1 : decode jdk_52_method_16_code 1 = .ok (.newarray .byte, 2) := by decide +kernel
theorem d2_3 : decode jdk_52_method_16_code 3 = .ok (.astore_n 3, 1) := by decide +kernel
theorem d2_4 : decode jdk_52_method_16_code 4 = .ok (.aload_n 0, 1) := by decide +kernel
theorem d2_5 : decode jdk_52_method_16_code 5 = .ok (.iload_n 1, 1) := by decide +kernel
theorem d2_6 : decode jdk_52_method_16_code 6 = .ok (.aload_n 3, 1) := by decide +kernel
theorem d2_7 : decode jdk_52_method_16_code 7 = .ok (.iconst 0, 1) := by decide +kernel
theorem d2_8 : decode jdk_52_method_16_code 8 = .ok (.iload_n 2, 1) := by decide +kernel
theorem d2_9 : decode jdk_52_method_16_code 9 = .ok (.invokestatic 115, 3) := by decide +kernel
theorem d2_12 : decode jdk_52_method_16_code 12 = .ok (.istore 4, 2) := by decide +kernel
theorem d2_14 : decode jdk_52_method_16_code 14 = .ok (.iload 4, 2) := by decide +kernel
theorem d2_16 : decode jdk_52_method_16_code 16 = .ok (.iload_n 2, 1) := by decide +kernel
theorem d2_17 : decode jdk_52_method_16_code 17 = .ok (.if_icmp .eq 40, 3) := by decide +kernel
theorem d2_20 : decode jdk_52_method_16_code 20 = .ok (.aload_n 0, 1) := by decide +kernel
theorem d2_21 : decode jdk_52_method_16_code 21 = .ok (.iload_n 1, 1) := by decide +kernel
theorem d2_22 : decode jdk_52_method_16_code 22 = .ok (.iload_n 2, 1) := by decide +kernel
theorem d2_23 : decode jdk_52_method_16_code 23 = .ok (.invokestatic 119, 3) := by decide +kernel
theorem d2_26 : decode jdk_52_method_16_code 26 = .ok (.astore 5, 2) := by decide +kernel
theorem d2_28 : decode jdk_52_method_16_code 28 = .ok (.aload 5, 2) := by decide +kernel
theorem d2_30 : decode jdk_52_method_16_code 30 = .ok (.iload 4, 2) := by decide +kernel
theorem d2_32 : decode jdk_52_method_16_code 32 = .ok (.invokestatic 71, 3) := by decide +kernel
theorem d2_35 : decode jdk_52_method_16_code 35 = .ok (.sipush 255, 3) := by decide +kernel
theorem d2_38 : decode jdk_52_method_16_code 38 = .ok (.if_icmp .gt 16, 3) := by decide +kernel
theorem d2_41 : decode jdk_52_method_16_code 41 = .ok (.aload 5, 2) := by decide +kernel
theorem d2_43 : decode jdk_52_method_16_code 43 = .ok (.iconst 0, 1) := by decide +kernel
theorem d2_44 : decode jdk_52_method_16_code 44 = .ok (.aload_n 3, 1) := by decide +kernel
theorem d2_45 : decode jdk_52_method_16_code 45 = .ok (.iconst 0, 1) := by decide +kernel
theorem d2_46 : decode jdk_52_method_16_code 46 = .ok (.iload_n 2, 1) := by decide +kernel
theorem d2_47 : decode jdk_52_method_16_code 47 = .ok (.invokestatic 123, 3) := by decide +kernel
theorem d2_50 : decode jdk_52_method_16_code 50 = .ok (.iload_n 2, 1) := by decide +kernel
theorem d2_51 : decode jdk_52_method_16_code 51 = .ok (.if_icmp .eq 6, 3) := by decide +kernel
theorem d2_54 : decode jdk_52_method_16_code 54 = .ok (.aload 5, 2) := by decide +kernel
theorem d2_56 : decode jdk_52_method_16_code 56 = .ok (.areturn, 1) := by decide +kernel
theorem d2_57 : decode jdk_52_method_16_code 57 = .ok (.aload_n 3, 1) := by decide +kernel
theorem d2_58 : decode jdk_52_method_16_code 58 = .ok (.areturn, 1) := by decide +kernel
theorem pd_0 : parseMethodDescriptor "([CI[BII)I" = some ⟨[(.array .char), .int, (.array .byte), .int, .int], some .int⟩ := by decide +kernel
def ct_c3_R : Room := ({ frames := 3, cells := 2, slots := 24, locals := 100 } : Room)
set_option maxRecDepth 65536 in
set_option maxHeartbeats 40000000 in
theorem ct_c3 (l : Launch) (Z : State) (a0 : Array Value) (hw : ∀ d ∈ tables_1, d.before a0 Z = true) (src : Addr) (cs : List Int32) (h : Heap) (n0 : Nat) (hS : Stz Z) (O : Old Z n0 h) (As : Av Z h src .char (cs.map Value.int)) (hn : cs.length ≤ 8) (hr : ∀ x ∈ cs, ¬ x < 0 ∧ ¬ 65535 < x) (hl : ∀ x ∈ cs, ¬ 255 < x) :
    Ct l Z ⟨"java/lang/StringUTF16", "compress", "([CII)[B"⟩ jdk_52_method_16_code 6 (some (.array .byte)) [] ct_c3_R ct_c3_R.cells ct_c3_R.slots [(.ref src), (.int (0 : Int32)), (.int (Int32.ofNat cs.length))] h (fun v h' L => ∃ t, v = some (.ref t) ∧ h.size ≤ t ∧ n0 ≤ t ∧ Fr n0 L ∧ Keep h h' [] ∧ (((∀ x ∈ cs, ¬ 255 < x) ∧ Av Z h' t .byte ((cs.map lo8).map Value.int)) ∨ ((∃ x ∈ cs, 255 < x) ∧ Av Z h' t .byte ((wide cs).map Value.int)))) := by
  refine Ct.mk (L0 := [.val (.ref src), .val (.int (0 : Int32)), .val (.int (Int32.ofNat cs.length)), .unset, .unset, .unset]) (plainFor_of_name pn_0) (fun m => by first | (simp [entryFrame, mkF, argsToLocals, Value.category]; done) | rfl) ?_
  intro p e s m below meth c s₁ B X0 e0
  refine Go.iloadN B X0 d2_0 (pc' := 1) rfl rfl ?_
  refine Go.newP B X0 e0 cs.length (tw hw 20 rfl) d2_1 (pc' := 3) rfl rfl (by omega) nb (by show 0 + cs.length ≤ 24; omega) ?_
  intro Ta ha d ga Xa ea Ea Aa'
  have Aa : Av Z ha d .byte ((List.replicate cs.length (0 : Int32)).map Value.int) := by rw [List.map_replicate]; exact Aa'
  have nd : n0 ≤ d := by rw [ga, ← O.1]; exact O.2.1
  have hsd : src ≠ d := Nat.ne_of_lt (Nat.lt_of_lt_of_eq As.lt ga.symm)
  have As1 := As.ext Ea
  have O1 := O.ext Ea
  refine Go.astoreN B Xa d2_3 (pc' := 4) rfl rfl rfl rfl ?_
  dsimp only [put1]
  refine Go.aloadN B Xa d2_4 (pc' := 5) rfl rfl rfl ?_
  refine Go.iloadN B Xa d2_5 (pc' := 6) rfl rfl ?_
  refine Go.aloadN B Xa d2_6 (pc' := 7) rfl rfl rfl ?_
  refine Go.iconst B Xa 0 d2_7 (pc' := 8) rfl rfl ?_
  refine Go.iloadN B Xa d2_8 (pc' := 9) rfl rfl ?_
  refine Go.callS B Xa ea (y := ⟨"java/lang/StringUTF16", "compress", "([CI[BII)I"⟩) (Ct.back (W := 0) (ct_c5 l Z a0 hw src d cs ha n0 nd hsd As1 Aa hn) B.hZ (tw hw 93 rfl) (tw hw 89 rfl) nb nb) (tw hw 91 rfl) (tw hw 92 rfl) (tw hw 89 rfl) (tw hw 93 rfl) (by decide) pd_0 d2_9 (pc' := 12) rfl rfl (rest := []) rfl rfl nb nb (by show 0 + cs.length + 0 ≤ 24; omega) ?_
  intro vb Tb Lb Xb Qb
  obtain ⟨k, rfl, hk, Nb, Kb, q1, q2⟩ := Qb
  dsimp only [Option.toList, List.nil_append, List.cons_append]
  have Kb' : Keep h Tb.heap [] := ((Keep.refl h []).ext Ea).trans Kb (fun x hx => Or.inr (by simp at hx; subst hx; exact Nat.le_of_eq ga.symm))
  have As2 := As1.keep Kb (ninS hsd nin0)
  have Ob := O1.keep Kb (allS nd all0)
  refine Go.istore B Xb d2_12 (pc' := 14) rfl rfl rfl ?_
  dsimp only [put1]
  refine Go.iload B Xb d2_14 (pc' := 16) rfl rfl ?_
  refine Go.iloadN B Xb d2_16 (pc' := 17) rfl rfl ?_
  refine Go.ic B Xb d2_17 (by decide) (pcT := 57) rfl (pc' := 20) rfl (fun hc => ?_) (fun hc => ?_)
  · dsimp only [GoKit.CP] at hc
    have hk2 : k = cs.length := (eq_ofNat (by omega) (by omega)).mp hc
    obtain ⟨l1, l2⟩ := q1 hk2
    refine Go.aloadN B Xb d2_57 (pc' := 58) rfl rfl rfl ?_
    exact Go.aret B Xb d2_58 rfl rfl rfl nb (by show 0 + cs.length + 0 ≤ 24; omega) ⟨d, rfl, Nat.le_of_eq ga.symm, nd, Fr.app (Fr.nil _) Nb, Kb', Or.inl ⟨l1, l2⟩⟩
  · dsimp only [GoKit.CN] at hc
    have hk2 : k < cs.length := by
      rcases Nat.lt_or_eq_of_le hk with q | q
      · exact q
      · exact absurd (by rw [q]) hc
    obtain ⟨cc, hcc, hwide⟩ := q2 hk2
    exact absurd hwide (hl cc (List.mem_of_getElem? hcc))
theorem own_cfl (n k : Nat) (hb : n ≤ 8 ∧ (k = n ∨ (k = 2 * n ∧ 0 < n))) : ((Int32.ofNat n - Int32.ofNat k).toUInt32 >>> ((31 : Int32) &&& 31).toUInt32).toInt32.toInt8.toInt32 = if k = n then 0 else 1 := by
  have t : ∀ a : Fin 9, (((Int32.ofNat a.val - Int32.ofNat a.val).toUInt32 >>> ((31 : Int32) &&& 31).toUInt32).toInt32.toInt8.toInt32 = 0) ∧ (0 < a.val → ((Int32.ofNat a.val - Int32.ofNat (2 * a.val)).toUInt32 >>> ((31 : Int32) &&& 31).toUInt32).toInt32.toInt8.toInt32 = 1) := by decide +kernel
  obtain ⟨h8, rfl | ⟨rfl, h0⟩⟩ := hb
  · rw [if_pos rfl]; exact (t ⟨k, by omega⟩).1
  · rw [if_neg (by omega)]; exact (t ⟨n, by omega⟩).2 h0
theorem d3_0 : decode jdk_52_method_15_code 0 = .ok (.iload_n 1, 1) := by decide +kernel
theorem d3_1 : decode jdk_52_method_15_code 1 = .ok (.aload_n 0, 1) := by decide +kernel
theorem d3_2 : decode jdk_52_method_15_code 2 = .ok (.arraylength, 1) := by decide +kernel
theorem d3_3 : decode jdk_52_method_15_code 3 = .ok (.isub, 1) := by decide +kernel
theorem d3_4 : decode jdk_52_method_15_code 4 = .ok (.bipush 31, 2) := by decide +kernel
theorem d3_6 : decode jdk_52_method_15_code 6 = .ok (.iushr, 1) := by decide +kernel
theorem d3_7 : decode jdk_52_method_15_code 7 = .ok (.i2b, 1) := by decide +kernel
theorem d3_8 : decode jdk_52_method_15_code 8 = .ok (.ireturn, 1) := by decide +kernel
def ct_cfl_R : Room := ({ frames := 0, cells := 0, slots := 0, locals := 0 } : Room)
set_option maxRecDepth 65536 in
set_option maxHeartbeats 40000000 in
theorem ct_cfl (l : Launch) (Z : State) (a0 : Array Value) (hw : ∀ d ∈ tables_1, d.before a0 Z = true) (b : Addr) (n : Nat) (bs : List Int32) (h : Heap) (n0 : Nat) (A0 : Av Z h b .byte (bs.map Value.int)) (hb0 : n ≤ 8 ∧ (bs.length = n ∨ (bs.length = 2 * n ∧ 0 < n))) :
    Ct l Z ⟨"java/lang/StringUTF16", "coderFromArrayLen", "([BI)B"⟩ jdk_52_method_15_code 2 (some .byte) [] ct_cfl_R ct_cfl_R.cells ct_cfl_R.slots [(.ref b), (.int (Int32.ofNat n))] h (fun v h' L => v = some (.int (if bs.length = n then 0 else 1)) ∧ Fr n0 L ∧ h' = h) := by
  refine Ct.mk (L0 := [.val (.ref b), .val (.int (Int32.ofNat n))]) (plainFor_of_name pn_0) (fun m => by first | (simp [entryFrame, mkF, argsToLocals, Value.category]; done) | rfl) ?_
  intro p e s m below meth c s₁ B X0 e0
  refine Go.iloadN B X0 d3_0 (pc' := 1) rfl rfl ?_
  refine Go.aloadN B X0 d3_1 (pc' := 2) rfl rfl rfl ?_
  refine Go.arraylength B X0 e0 A0 d3_2 (pc' := 3) rfl ?_
  refine Go.isub B X0 d3_3 (pc' := 4) rfl ?_
  refine Go.bipush B X0 31 d3_4 (pc' := 6) rfl rfl ?_
  refine Go.iushr B X0 d3_6 (pc' := 7) rfl ?_
  refine Go.i2b B X0 d3_7 (pc' := 8) rfl ?_
  rw [List.length_map]
  have ev := own_cfl n bs.length hb0
  rw [ev]
  exact Go.bret B X0 d3_8 (by split <;> rfl) nb nb ⟨rfl, Fr.nil _, e0⟩
theorem d4_0 : decode jdk_42_method_149_code 0 = .ok (.aload_n 0, 1) := by decide +kernel
theorem d4_1 : decode jdk_42_method_149_code 1 = .ok (.invokespecial 1, 3) := by decide +kernel
theorem d4_4 : decode jdk_42_method_149_code 4 = .ok (.iload_n 3, 1) := by decide +kernel
theorem d4_5 : decode jdk_42_method_149_code 5 = .ok (.ifCond .ne 22, 3) := by decide +kernel
theorem d4_8 : decode jdk_42_method_149_code 8 = .ok (.aload_n 0, 1) := by decide +kernel
theorem d4_9 : decode jdk_42_method_149_code 9 = .ok (.ldc 7, 2) := by decide +kernel
theorem d4_11 : decode jdk_42_method_149_code 11 = .ok (.getfield 9, 3) := by decide +kernel
theorem d4_14 : decode jdk_42_method_149_code 14 = .ok (.putfield 9, 3) := by decide +kernel
theorem d4_17 : decode jdk_42_method_149_code 17 = .ok (.aload_n 0, 1) := by decide +kernel
theorem d4_18 : decode jdk_42_method_149_code 18 = .ok (.ldc 7, 2) := by decide +kernel
theorem d4_20 : decode jdk_42_method_149_code 20 = .ok (.getfield 15, 3) := by decide +kernel
theorem d4_23 : decode jdk_42_method_149_code 23 = .ok (.putfield 15, 3) := by decide +kernel
theorem d4_26 : decode jdk_42_method_149_code 26 = .ok (.return_, 1) := by decide +kernel
theorem d4_27 : decode jdk_42_method_149_code 27 = .ok (.getstatic 38, 3) := by decide +kernel
theorem d4_30 : decode jdk_42_method_149_code 30 = .ok (.ifCond .eq 28, 3) := by decide +kernel
theorem d4_33 : decode jdk_42_method_149_code 33 = .ok (.aload_n 1, 1) := by decide +kernel
theorem d4_34 : decode jdk_42_method_149_code 34 = .ok (.iload_n 2, 1) := by decide +kernel
theorem d4_35 : decode jdk_42_method_149_code 35 = .ok (.iload_n 3, 1) := by decide +kernel
theorem d4_36 : decode jdk_42_method_149_code 36 = .ok (.invokestatic 177, 3) := by decide +kernel
theorem d4_39 : decode jdk_42_method_149_code 39 = .ok (.astore 5, 2) := by decide +kernel
theorem d4_41 : decode jdk_42_method_149_code 41 = .ok (.aload_n 0, 1) := by decide +kernel
theorem d4_42 : decode jdk_42_method_149_code 42 = .ok (.aload 5, 2) := by decide +kernel
theorem d4_44 : decode jdk_42_method_149_code 44 = .ok (.iload_n 3, 1) := by decide +kernel
theorem d4_45 : decode jdk_42_method_149_code 45 = .ok (.invokestatic 47, 3) := by decide +kernel
theorem d4_48 : decode jdk_42_method_149_code 48 = .ok (.putfield 15, 3) := by decide +kernel
theorem d4_51 : decode jdk_42_method_149_code 51 = .ok (.aload_n 0, 1) := by decide +kernel
theorem d4_52 : decode jdk_42_method_149_code 52 = .ok (.aload 5, 2) := by decide +kernel
theorem d4_54 : decode jdk_42_method_149_code 54 = .ok (.putfield 9, 3) := by decide +kernel
theorem d4_57 : decode jdk_42_method_149_code 57 = .ok (.return_, 1) := by decide +kernel
theorem d4_58 : decode jdk_42_method_149_code 58 = .ok (.aload_n 0, 1) := by decide +kernel
theorem d4_59 : decode jdk_42_method_149_code 59 = .ok (.iconst 1, 1) := by decide +kernel
theorem d4_60 : decode jdk_42_method_149_code 60 = .ok (.putfield 15, 3) := by decide +kernel
theorem d4_63 : decode jdk_42_method_149_code 63 = .ok (.aload_n 0, 1) := by decide +kernel
theorem d4_64 : decode jdk_42_method_149_code 64 = .ok (.aload_n 1, 1) := by decide +kernel
theorem d4_65 : decode jdk_42_method_149_code 65 = .ok (.iload_n 2, 1) := by decide +kernel
theorem d4_66 : decode jdk_42_method_149_code 66 = .ok (.iload_n 3, 1) := by decide +kernel
theorem d4_67 : decode jdk_42_method_149_code 67 = .ok (.invokestatic 180, 3) := by decide +kernel
theorem d4_70 : decode jdk_42_method_149_code 70 = .ok (.putfield 9, 3) := by decide +kernel
theorem d4_73 : decode jdk_42_method_149_code 73 = .ok (.return_, 1) := by decide +kernel
theorem pd_1 : parseMethodDescriptor "([CII)[B" = some ⟨[(.array .char), .int, .int], some (.array .byte)⟩ := by decide +kernel
theorem pd_2 : parseMethodDescriptor "([BI)B" = some ⟨[(.array .byte), .int], some .byte⟩ := by decide +kernel
theorem pn_1 : plainName "java/lang/String" = true := by first | (simp [plainName, overriddenIn]; done) | decide +kernel
def ct_init4_R : Room := ({ frames := 4, cells := 2, slots := 24, locals := 140 } : Room)
set_option maxRecDepth 65536 in
set_option maxHeartbeats 40000000 in
theorem ct_init4 (l : Launch) (Z : State) (a0 : Array Value) (hw : ∀ d ∈ tables_1, d.before a0 Z = true) (x src : Addr) (cs : List Int32) (v0 c0 : Value) (h : Heap) (n0 : Nat) (hS : Stz Z) (O : Old Z n0 h) (nx : n0 ≤ x) (Ex : Exa Z h x "java/lang/String") (V0 : Fld Z h x "java/lang/String" "value" "[B" v0) (C0 : Fld Z h x "java/lang/String" "coder" "B" c0) (As : Av Z h src .char (cs.map Value.int)) (hn : cs.length ≤ 8) (h0 : 0 < cs.length) (hr : ∀ x ∈ cs, ¬ x < 0 ∧ ¬ 65535 < x) (hl : ∀ x ∈ cs, ¬ 255 < x) :
    Ct l Z ⟨"java/lang/String", "<init>", "([CIILjava/lang/Void;)V"⟩ jdk_42_method_149_code 6 (none) [] ct_init4_R ct_init4_R.cells ct_init4_R.slots [(.ref x), (.ref src), (.int (0 : Int32)), (.int (Int32.ofNat cs.length)), .null] h (fun v h' L => v = none ∧ Fr n0 L ∧ Keep h h' [x] ∧ StrD Z h' x cs) := by
  refine Ct.mk (L0 := [.val (.ref x), .val (.ref src), .val (.int (0 : Int32)), .val (.int (Int32.ofNat cs.length)), .val .null, .unset]) (plainFor_of_name pn_1) (fun m => by first | (simp [entryFrame, mkF, argsToLocals, Value.category]; done) | rfl) ?_
  intro p e s m below meth c s₁ B X0 e0
  refine Go.aloadN B X0 d4_0 (pc' := 1) rfl rfl rfl ?_
  refine Go.initO B X0 e0 (tw hw 16 rfl) (tw hw 17 rfl) (tw hw 18 rfl) d4_1 (pc' := 4) rfl rfl nb nb ?_
  intro Tt1_1 Xt1_1 et1_1
  refine Go.iloadN B Xt1_1 d4_4 (pc' := 5) rfl rfl ?_
  have hn1 : ¬ Int32.ofNat cs.length = 0 := fun q => by
    rw [show (0 : Int32) = Int32.ofNat 0 from rfl] at q
    exact absurd ((eq_ofNat (by omega) (by omega)).mp q) (by omega)
  refine Go.ifT B Xt1_1 d4_5 (by decide) (pc' := 27) rfl hn1 ?_
  obtain ⟨G, SG, hG⟩ := hS.1
  refine Go.getS B Xt1_1 et1_1 (tw hw 46 rfl) (SG.ext O.2) d4_27 (pc' := 30) rfl ?_
  intro Tt27_2 Xt27_2 et27_2
  refine Go.ifF B Xt27_2 d4_30 (pc' := 33) rfl hG ?_
  refine Go.aloadN B Xt27_2 d4_33 (pc' := 34) rfl rfl rfl ?_
  refine Go.iloadN B Xt27_2 d4_34 (pc' := 35) rfl rfl ?_
  refine Go.iloadN B Xt27_2 d4_35 (pc' := 36) rfl rfl ?_
  refine Go.callS B Xt27_2 et27_2 (y := ⟨"java/lang/StringUTF16", "compress", "([CII)[B"⟩) (Ct.back (W := 0) (ct_c3 l Z a0 hw src cs h n0 hS O As hn hr hl) B.hZ (tw hw 90 rfl) (tw hw 89 rfl) nb nb) (tw hw 87 rfl) (tw hw 88 rfl) (tw hw 89 rfl) (tw hw 90 rfl) (by decide) pd_1 d4_36 (pc' := 39) rfl rfl (rest := []) rfl rfl nb nb nb ?_
  intro va Ta La Xa Qa
  obtain ⟨t, rfl, ht, nt, Na, Ka, hq⟩ := Qa
  dsimp only [Option.toList, List.nil_append, List.cons_append]
  have O1 := O.keep Ka all0
  have Ex1 := Ex.ext (keep0 Ka)
  have V1 := V0.ext (keep0 Ka)
  have C1 := C0.ext (keep0 Ka)
  have hxt : x ≠ t := Nat.ne_of_lt (Nat.lt_of_lt_of_le Ex.lt ht)
  refine Go.astore B Xa d4_39 (pc' := 41) rfl rfl rfl rfl ?_
  dsimp only [put1]
  refine Go.aloadN B Xa d4_41 (pc' := 42) rfl rfl rfl ?_
  refine Go.aload B Xa d4_42 (pc' := 44) rfl rfl rfl ?_
  refine Go.iloadN B Xa d4_44 (pc' := 45) rfl rfl ?_
  rcases hq with hq | hq
  · obtain ⟨l1, l2⟩ := hq
    have ln : (cs.map lo8).length = cs.length := by simp
    refine Go.callS B Xa rfl (y := ⟨"java/lang/StringUTF16", "coderFromArrayLen", "([BI)B"⟩) (Ct.back (W := 1) (ct_cfl l Z a0 hw t cs.length (cs.map lo8) Ta.heap n0 l2 ⟨hn, Or.inl ln⟩) B.hZ (tw hw 96 rfl) (tw hw 89 rfl) nb nb) (tw hw 94 rfl) (tw hw 95 rfl) (tw hw 89 rfl) (tw hw 96 rfl) (by decide) pd_2 d4_45 (pc' := 48) rfl rfl (rest := [_]) rfl rfl nb nb nb ?_
    intro vb Tb Lb Xb Qb
    obtain ⟨rfl, Nb, eb⟩ := Qb
    dsimp only [Option.toList, List.nil_append, List.cons_append]
    rw [ln, if_pos rfl]
    refine Go.putF B Xb eb (tw hw 26 rfl) C1 Ex1 (Or.inr ⟨(tw hw 22 rfl), rfl, B.na⟩) (tw hw 7 rfl) (ty := .byte) (by decide) rfl rfl d4_48 (pc' := 51) rfl ?_
    intro Tc hc Xc ec Wc
    have hsl : RoadKit.slotOf Z "java/lang/String" "value" "[B" ≠ RoadKit.slotOf Z "java/lang/String" "coder" "B" := slot_ne (Or.inr (tw hw 21 rfl)) (Or.inr (tw hw 22 rfl)) (by decide) (t := .array .byte) (by decide) (t' := .byte) (by decide)
    have V2 := V1.other Wc (Or.inr hsl)
    have C2 := C1.same Wc
    have Ex2 := Ex1.wr Wc
    have A2 := l2.other Wc hxt.symm
    refine Go.aloadN B Xc d4_51 (pc' := 52) rfl rfl rfl ?_
    refine Go.aload B Xc d4_52 (pc' := 54) rfl rfl rfl ?_
    refine Go.putF B Xc ec (tw hw 25 rfl) V2 Ex2 (Or.inr ⟨(tw hw 21 rfl), rfl, B.na⟩) (tw hw 7 rfl) (ty := (.array .byte)) (by decide) rfl rfl d4_54 (pc' := 57) rfl ?_
    intro Td hd Xd ed Wd
    have V3 := V2.same Wd
    have C3 := C2.other Wd (Or.inr hsl.symm)
    have Ex3 := Ex2.wr Wd
    have A3 := A2.other Wd hxt.symm
    have K3 : Keep h hd [x] := (((Keep.refl h [x]).ext (keep0 Ka)).wr Wc (Or.inl (by simp))).wr Wd (Or.inl (by simp))
    have N3 := Fr.snoc Xd (Fr.snoc Xc (Fr.app (Fr.app (Fr.nil _) Na) Nb) nx) nx
    exact Go.vret B Xd d4_57 nb nb ⟨rfl, N3, by rw [ed]; exact K3, by rw [ed]; exact ⟨t, 0, (cs.map lo8), Ex3, C3, V3, A3, Or.inl ⟨rfl, rfl, l1⟩⟩⟩
  · obtain ⟨l1, l2⟩ := hq
    have ln : (wide cs).length = 2 * cs.length := by simp [wide_len]
    refine Go.callS B Xa rfl (y := ⟨"java/lang/StringUTF16", "coderFromArrayLen", "([BI)B"⟩) (Ct.back (W := 1) (ct_cfl l Z a0 hw t cs.length (wide cs) Ta.heap n0 l2 ⟨hn, Or.inr ⟨ln, h0⟩⟩) B.hZ (tw hw 96 rfl) (tw hw 89 rfl) nb nb) (tw hw 94 rfl) (tw hw 95 rfl) (tw hw 89 rfl) (tw hw 96 rfl) (by decide) pd_2 d4_45 (pc' := 48) rfl rfl (rest := [_]) rfl rfl nb nb nb ?_
    intro vb Tb Lb Xb Qb
    obtain ⟨rfl, Nb, eb⟩ := Qb
    dsimp only [Option.toList, List.nil_append, List.cons_append]
    rw [ln, if_neg (by omega)]
    refine Go.putF B Xb eb (tw hw 26 rfl) C1 Ex1 (Or.inr ⟨(tw hw 22 rfl), rfl, B.na⟩) (tw hw 7 rfl) (ty := .byte) (by decide) rfl rfl d4_48 (pc' := 51) rfl ?_
    intro Tc hc Xc ec Wc
    have hsl : RoadKit.slotOf Z "java/lang/String" "value" "[B" ≠ RoadKit.slotOf Z "java/lang/String" "coder" "B" := slot_ne (Or.inr (tw hw 21 rfl)) (Or.inr (tw hw 22 rfl)) (by decide) (t := .array .byte) (by decide) (t' := .byte) (by decide)
    have V2 := V1.other Wc (Or.inr hsl)
    have C2 := C1.same Wc
    have Ex2 := Ex1.wr Wc
    have A2 := l2.other Wc hxt.symm
    refine Go.aloadN B Xc d4_51 (pc' := 52) rfl rfl rfl ?_
    refine Go.aload B Xc d4_52 (pc' := 54) rfl rfl rfl ?_
    refine Go.putF B Xc ec (tw hw 25 rfl) V2 Ex2 (Or.inr ⟨(tw hw 21 rfl), rfl, B.na⟩) (tw hw 7 rfl) (ty := (.array .byte)) (by decide) rfl rfl d4_54 (pc' := 57) rfl ?_
    intro Td hd Xd ed Wd
    have V3 := V2.same Wd
    have C3 := C2.other Wd (Or.inr hsl.symm)
    have Ex3 := Ex2.wr Wd
    have A3 := A2.other Wd hxt.symm
    have K3 : Keep h hd [x] := (((Keep.refl h [x]).ext (keep0 Ka)).wr Wc (Or.inl (by simp))).wr Wd (Or.inl (by simp))
    have N3 := Fr.snoc Xd (Fr.snoc Xc (Fr.app (Fr.app (Fr.nil _) Na) Nb) nx) nx
    exact Go.vret B Xd d4_57 nb nb ⟨rfl, N3, by rw [ed]; exact K3, by rw [ed]; exact ⟨t, 1, (wide cs), Ex3, C3, V3, A3, Or.inr ⟨rfl, rfl, l1⟩⟩⟩
theorem d5_0 : decode jdk_42_method_3_code 0 = .ok (.aload_n 0, 1) := by decide +kernel
theorem d5_1 : decode jdk_42_method_3_code 1 = .ok (.aload_n 1, 1) := by decide +kernel
theorem d5_2 : decode jdk_42_method_3_code 2 = .ok (.iconst 0, 1) := by decide +kernel
theorem d5_3 : decode jdk_42_method_3_code 3 = .ok (.aload_n 1, 1) := by decide +kernel
theorem d5_4 : decode jdk_42_method_3_code 4 = .ok (.arraylength, 1) := by decide +kernel
theorem d5_5 : decode jdk_42_method_3_code 5 = .ok (.aconst_null, 1) := by decide +kernel
theorem d5_6 : decode jdk_42_method_3_code 6 = .ok (.invokespecial 27, 3) := by decide +kernel
theorem d5_9 : decode jdk_42_method_3_code 9 = .ok (.return_, 1) := by decide +kernel
theorem pd_3 : parseMethodDescriptor "([CIILjava/lang/Void;)V" = some ⟨[(.array .char), .int, .int, (.object "java/lang/Void")], none⟩ := by decide +kernel
def ct_init1_R : Room := ({ frames := 5, cells := 2, slots := 24, locals := 160 } : Room)
set_option maxRecDepth 65536 in
set_option maxHeartbeats 40000000 in
theorem ct_init1 (l : Launch) (Z : State) (a0 : Array Value) (hw : ∀ d ∈ tables_1, d.before a0 Z = true) (x src : Addr) (cs : List Int32) (v0 c0 : Value) (h : Heap) (n0 : Nat) (hS : Stz Z) (O : Old Z n0 h) (nx : n0 ≤ x) (Ex : Exa Z h x "java/lang/String") (V0 : Fld Z h x "java/lang/String" "value" "[B" v0) (C0 : Fld Z h x "java/lang/String" "coder" "B" c0) (As : Av Z h src .char (cs.map Value.int)) (hn : cs.length ≤ 8) (h0 : 0 < cs.length) (hr : ∀ x ∈ cs, ¬ x < 0 ∧ ¬ 65535 < x) (hl : ∀ x ∈ cs, ¬ 255 < x) :
    Ct l Z ⟨"java/lang/String", "<init>", "([C)V"⟩ jdk_42_method_3_code 2 (none) [] ct_init1_R ct_init1_R.cells ct_init1_R.slots [(.ref x), (.ref src)] h (fun v h' L => v = none ∧ Fr n0 L ∧ Keep h h' [x] ∧ StrD Z h' x cs) := by
  refine Ct.mk (L0 := [.val (.ref x), .val (.ref src)]) (plainFor_of_name pn_1) (fun m => by first | (simp [entryFrame, mkF, argsToLocals, Value.category]; done) | rfl) ?_
  intro p e s m below meth c s₁ B X0 e0
  refine Go.aloadN B X0 d5_0 (pc' := 1) rfl rfl rfl ?_
  refine Go.aloadN B X0 d5_1 (pc' := 2) rfl rfl rfl ?_
  refine Go.iconst B X0 0 d5_2 (pc' := 3) rfl rfl ?_
  refine Go.aloadN B X0 d5_3 (pc' := 4) rfl rfl rfl ?_
  refine Go.arraylength B X0 e0 As d5_4 (pc' := 5) rfl ?_
  refine Go.aconstNull B X0 d5_5 (pc' := 6) rfl ?_
  rw [List.length_map]
  refine Go.callI B X0 e0 (y := ⟨"java/lang/String", "<init>", "([CIILjava/lang/Void;)V"⟩) rfl (Ct.back (W := 0) (ct_init4 l Z a0 hw x src cs v0 c0 h n0 hS O nx Ex V0 C0 As hn h0 hr hl) B.hZ (tw hw 15 rfl) (tw hw 8 rfl) nb nb) (tw hw 12 rfl) (tw hw 13 rfl) (tw hw 15 rfl) (by decide) pd_3 d5_6 (pc' := 9) rfl rfl (rest := []) rfl rfl nb nb nb ?_
  intro va Ta La Xa Qa
  obtain ⟨rfl, Na, Ka, Da⟩ := Qa
  dsimp only [Option.toList, List.nil_append, List.cons_append]
  exact Go.vret B Xa d5_9 nb nb ⟨rfl, Fr.app (Fr.nil _) Na, Ka, Da⟩

def ct_init4E_R : Room := ({ frames := 1, cells := 4, slots := 8, locals := 30 } : Room)
set_option maxRecDepth 65536 in
set_option maxHeartbeats 40000000 in
theorem ct_init4E (l : Launch) (Z : State) (a0 : Array Value) (hw : ∀ d ∈ tables_1, d.before a0 Z = true) (x src : Addr) (c0 : Value) (h : Heap) (n0 : Nat) (hEL : EW Z a0 consts_1) (wS : ∀ d ∈ Bundle.stringAtoms, d.before a0 Z = true) (O : Old Z n0 h) (nx : n0 ≤ x) (Ex : Exa Z h x "java/lang/String") (V0 : Fld Z h x "java/lang/String" "value" "[B" .null) (C0 : Fld Z h x "java/lang/String" "coder" "B" c0) :
    CtW l Z consts_1 ⟨"java/lang/String", "<init>", "([CIILjava/lang/Void;)V"⟩ jdk_42_method_149_code 6 (none) [] ct_init4E_R ct_init4E_R.cells ct_init4E_R.slots [(.ref x), (.ref src), (.int (0 : Int32)), (.int (0 : Int32)), .null] h (fun v h' L => v = none ∧ Fr n0 L ∧ Keep h h' [x] ∧ StrD Z h' x []) := by
  refine CtW.mk (L0 := [.val (.ref x), .val (.ref src), .val (.int (0 : Int32)), .val (.int (0 : Int32)), .val .null, .unset]) hEL wS (plainFor_of_name pn_1) (fun m => by first | (simp [entryFrame, mkF, argsToLocals, Value.category]; done) | rfl) ?_
  intro p e s m below meth c s₁ B X0 e0 Wv0
  refine Go.aloadN B X0 d4_0 (pc' := 1) rfl rfl rfl ?_
  refine Go.initO B X0 e0 (tw hw 16 rfl) (tw hw 17 rfl) (tw hw 18 rfl) d4_1 (pc' := 4) rfl rfl nb nb ?_
  intro Tt1_1 Xt1_1 et1_1
  refine Go.iloadN B Xt1_1 d4_4 (pc' := 5) rfl rfl ?_
  refine Go.ifF B Xt1_1 d4_5 (pc' := 8) rfl rfl ?_
  refine Go.aloadN B Xt1_1 d4_8 (pc' := 9) rfl rfl rfl ?_
  refine Go.ldcS B Xt1_1 et1_1 Wv0 0 (vs := []) (tw hw 19 rfl) (by decide) (by decide +kernel) nl d4_9 (pc' := 11) rfl (by decide +kernel) nb nb nb ?_
  intro aa Ta ha ba Ba Xa ea Ea Va Exa Fa Ga Aa Sa Na
  have hal := Ba.hZ.alike
  have Ex1 := Ex.ext Ea
  have V1 := V0.ext Ea
  have C1 := C0.ext Ea
  have Sx1 : RoadKit.Safe Z consts_1 Ta.vm ha x := safe_null hal Ex1 V1
  have O1 := O.ext Ea
  have nba := (Na x Sx1).2
  refine Go.getF Ba Xa ea (tw hw 25 rfl) Ga d4_11 (pc' := 14) rfl ?_
  intro Tt11_2 Xt11_2 et11_2
  refine Go.putF Ba Xt11_2 et11_2 (tw hw 25 rfl) V1 Ex1 (Or.inr ⟨(tw hw 21 rfl), rfl, Ba.na⟩) (tw hw 7 rfl) (ty := (.array .byte)) (by decide) rfl rfl d4_14 (pc' := 17) rfl ?_
  intro Tc hc Xc ec Wc
  have hsl : RoadKit.slotOf Z "java/lang/String" "value" "[B" ≠ RoadKit.slotOf Z "java/lang/String" "coder" "B" := slot_ne (Or.inr (tw hw 21 rfl)) (Or.inr (tw hw 22 rfl)) (by decide) (t := .array .byte) (by decide) (t' := .byte) (by decide)
  have V2 := V1.same Wc
  have C2 := C1.other Wc (Or.inr hsl.symm)
  have Ex2 := Ex1.wr Wc
  have A2 := Aa.other Wc nba.symm
  have Vc := Va.wr Wc Sx1
  have Sx2 := RoadKit.Safe.wr Wc Sx1 Va.chv Sx1
  refine Go.aloadN Ba Xc d4_17 (pc' := 18) rfl rfl rfl ?_
  refine Go.ldcS Ba Xc ec Vc 0 (vs := []) (tw hw 19 rfl) (by decide) (by decide +kernel) nl d4_18 (pc' := 20) rfl (by decide +kernel) nb nb nb ?_
  intro ad Td hd bd Bd Xd ed Ed Vd Exd Fd Gd Ad Sd Nd
  have V3 := V2.ext Ed
  have C3 := C2.ext Ed
  have Ex3 := Ex2.ext Ed
  have A3 := A2.ext Ed
  have Sx3 := Sd x Ex2.lt Sx2
  refine Go.getF Bd Xd ed (tw hw 26 rfl) Fd d4_20 (pc' := 23) rfl ?_
  intro Tt20_3 Xt20_3 et20_3
  refine Go.putF Bd Xt20_3 et20_3 (tw hw 26 rfl) C3 Ex3 (Or.inr ⟨(tw hw 22 rfl), rfl, Bd.na⟩) (tw hw 7 rfl) (ty := .byte) (by decide) rfl rfl d4_23 (pc' := 26) rfl ?_
  intro Tf hf Xf ef Wf
  have V4 := V3.other Wf (Or.inr hsl)
  have C4 := C3.same Wf
  have Ex4 := Ex3.wr Wf
  have A4 := A3.other Wf nba.symm
  have Vf := Vd.wr Wf Sx3
  have K4 : Keep h hf [x] := ((((Keep.refl h [x]).ext Ea).wr Wc (Or.inl (by simp))).ext Ed).wr Wf (Or.inl (by simp))
  have N4 := Fr.snoc Xf (Fr.snoc Xc (Fr.nil n0) nx) nx
  exact Go.vretW Bd Xf ef Vf d4_26 nb nb ⟨rfl, N4, by rw [ef]; exact K4, by rw [ef]; exact ⟨ba, 0, [], Ex4, C4, V4, A4, Or.inl ⟨rfl, rfl, by simp⟩⟩⟩

def ct_init1E_R : Room := ({ frames := 2, cells := 4, slots := 8, locals := 60 } : Room)
set_option maxRecDepth 65536 in
set_option maxHeartbeats 40000000 in
theorem ct_init1E (l : Launch) (Z : State) (a0 : Array Value) (hw : ∀ d ∈ tables_1, d.before a0 Z = true) (x src : Addr) (c0 : Value) (h : Heap) (n0 : Nat) (hEL : EW Z a0 consts_1) (wS : ∀ d ∈ Bundle.stringAtoms, d.before a0 Z = true) (O : Old Z n0 h) (nx : n0 ≤ x) (Ex : Exa Z h x "java/lang/String") (V0 : Fld Z h x "java/lang/String" "value" "[B" .null) (C0 : Fld Z h x "java/lang/String" "coder" "B" c0) (As : Av Z h src .char []) :
    CtW l Z consts_1 ⟨"java/lang/String", "<init>", "([C)V"⟩ jdk_42_method_3_code 2 (none) [] ct_init1E_R ct_init1E_R.cells ct_init1E_R.slots [(.ref x), (.ref src)] h (fun v h' L => v = none ∧ Fr n0 L ∧ Keep h h' [x] ∧ StrD Z h' x []) := by
  refine CtW.mk (L0 := [.val (.ref x), .val (.ref src)]) hEL wS (plainFor_of_name pn_1) (fun m => by first | (simp [entryFrame, mkF, argsToLocals, Value.category]; done) | rfl) ?_
  intro p e s m below meth c s₁ B X0 e0 Wv0
  refine Go.aloadN B X0 d5_0 (pc' := 1) rfl rfl rfl ?_
  refine Go.aloadN B X0 d5_1 (pc' := 2) rfl rfl rfl ?_
  refine Go.iconst B X0 0 d5_2 (pc' := 3) rfl rfl ?_
  refine Go.aloadN B X0 d5_3 (pc' := 4) rfl rfl rfl ?_
  refine Go.arraylength B X0 e0 As d5_4 (pc' := 5) rfl ?_
  refine Go.aconstNull B X0 d5_5 (pc' := 6) rfl ?_
  refine Go.callIW B X0 e0 Wv0 (y := ⟨"java/lang/String", "<init>", "([CIILjava/lang/Void;)V"⟩) rfl (CtW.back (W := 0) (ct_init4E l Z a0 hw x src c0 h n0 hEL wS O nx Ex V0 C0) B.hZ (tw hw 15 rfl) (tw hw 8 rfl) nb nb Wv0) (tw hw 12 rfl) (tw hw 13 rfl) (tw hw 15 rfl) (by decide) pd_3 d5_6 (pc' := 9) rfl rfl (rest := []) rfl rfl nb nb nb ?_
  intro va Ta La Ba Xa Qa Va Sa
  obtain ⟨rfl, Na, Ka, Da⟩ := Qa
  dsimp only [Option.toList, List.nil_append, List.cons_append]
  exact Go.vretW Ba Xa rfl Va d5_9 nb nb ⟨rfl, Fr.app (Fr.nil _) Na, Ka, Da⟩
theorem d6_0 : decode jdk_42_method_152_code 0 = .ok (.getstatic 38, 3) := by decide +kernel
theorem d6_3 : decode jdk_42_method_152_code 3 = .ok (.ifCond .eq 10, 3) := by decide +kernel
theorem d6_6 : decode jdk_42_method_152_code 6 = .ok (.aload_n 0, 1) := by decide +kernel
theorem d6_7 : decode jdk_42_method_152_code 7 = .ok (.getfield 15, 3) := by decide +kernel
theorem d6_10 : decode jdk_42_method_152_code 10 = .ok (.goto 4, 3) := by decide +kernel
theorem d6_13 : decode jdk_42_method_152_code 13 = .ok (.iconst 1, 1) := by decide +kernel
theorem d6_14 : decode jdk_42_method_152_code 14 = .ok (.ireturn, 1) := by decide +kernel
def ct_coder_R : Room := ({ frames := 0, cells := 0, slots := 0, locals := 0 } : Room)
set_option maxRecDepth 65536 in
set_option maxHeartbeats 40000000 in
theorem ct_coder (l : Launch) (Z : State) (a0 : Array Value) (hw : ∀ d ∈ tables_1, d.before a0 Z = true) (x : Addr) (cd : Int32) (h : Heap) (n0 : Nat) (hS : Stz Z) (O : Old Z n0 h) (C0 : Fld Z h x "java/lang/String" "coder" "B" (.int cd)) (hcd : cd = 0 ∨ cd = 1) :
    Ct l Z ⟨"java/lang/String", "coder", "()B"⟩ jdk_42_method_152_code 1 (some .byte) [] ct_coder_R ct_coder_R.cells ct_coder_R.slots [(.ref x)] h (fun v h' L => v = some (.int cd) ∧ Fr n0 L ∧ h' = h) := by
  refine Ct.mk (L0 := [.val (.ref x)]) (plainFor_of_name pn_1) (fun m => by first | (simp [entryFrame, mkF, argsToLocals, Value.category]; done) | rfl) ?_
  intro p e s m below meth c s₁ B X0 e0
  obtain ⟨G, SG, hG⟩ := hS.1
  refine Go.getS B X0 e0 (tw hw 46 rfl) (SG.ext O.2) d6_0 (pc' := 3) rfl ?_
  intro Tt0_1 Xt0_1 et0_1
  refine Go.ifF B Xt0_1 d6_3 (pc' := 6) rfl hG ?_
  refine Go.aloadN B Xt0_1 d6_6 (pc' := 7) rfl rfl rfl ?_
  refine Go.getF B Xt0_1 et0_1 (tw hw 26 rfl) C0 d6_7 (pc' := 10) rfl ?_
  intro Tt7_2 Xt7_2 et7_2
  refine Go.goto B Xt7_2 d6_10 (by decide) (pc' := 14) rfl ?_
  exact Go.bret B Xt7_2 d6_14 (by rcases hcd with rfl | rfl <;> rfl) nb nb ⟨rfl, Fr.nil _, et7_2⟩
theorem d7_0 : decode jdk_42_method_54_code 0 = .ok (.aload_n 0, 1) := by decide +kernel
theorem d7_1 : decode jdk_42_method_54_code 1 = .ok (.getfield 9, 3) := by decide +kernel
theorem d7_4 : decode jdk_42_method_54_code 4 = .ok (.arraylength, 1) := by decide +kernel
theorem d7_5 : decode jdk_42_method_54_code 5 = .ok (.aload_n 0, 1) := by decide +kernel
theorem d7_6 : decode jdk_42_method_54_code 6 = .ok (.invokevirtual 335, 3) := by decide +kernel
theorem d7_9 : decode jdk_42_method_54_code 9 = .ok (.ishr, 1) := by decide +kernel
theorem d7_10 : decode jdk_42_method_54_code 10 = .ok (.ireturn, 1) := by decide +kernel
theorem pd_4 : parseMethodDescriptor "()B" = some ⟨[], some .byte⟩ := by decide +kernel
def ct_lenL_R : Room := ({ frames := 1, cells := 0, slots := 0, locals := 20 } : Room)
set_option maxRecDepth 65536 in
set_option maxHeartbeats 40000000 in
theorem ct_lenL (l : Launch) (Z : State) (a0 : Array Value) (hw : ∀ d ∈ tables_1, d.before a0 Z = true) (x : Addr) (bs : List Int32) (h : Heap) (n0 : Nat) (hS : Stz Z) (O : Old Z n0 h) (D : StrL Z h x bs) :
    Ct l Z ⟨"java/lang/String", "length", "()I"⟩ jdk_42_method_54_code 1 (some .int) [] ct_lenL_R ct_lenL_R.cells ct_lenL_R.slots [(.ref x)] h (fun v h' L => v = some (.int (Int32.ofNat bs.length)) ∧ Fr n0 L ∧ h' = h) := by
  refine Ct.mk (L0 := [.val (.ref x)]) (plainFor_of_name pn_1) (fun m => by first | (simp [entryFrame, mkF, argsToLocals, Value.category]; done) | rfl) ?_
  intro p e s m below meth c s₁ B X0 e0
  obtain ⟨t, x1, x2, x3, x4⟩ := D
  refine Go.aloadN B X0 d7_0 (pc' := 1) rfl rfl rfl ?_
  refine Go.getF B X0 e0 (tw hw 25 rfl) x3 d7_1 (pc' := 4) rfl ?_
  intro Tt1_1 Xt1_1 et1_1
  refine Go.arraylength B Xt1_1 et1_1 x4 d7_4 (pc' := 5) rfl ?_
  refine Go.aloadN B Xt1_1 d7_5 (pc' := 6) rfl rfl rfl ?_
  refine Go.callV B Xt1_1 et1_1 (y := ⟨"java/lang/String", "coder", "()B"⟩) (z := ⟨"java/lang/String", "coder", "()B"⟩) (Ct.back (W := 1) (ct_coder l Z a0 hw x 0 h n0 hS O x2 (Or.inl rfl)) B.hZ (tw hw 45 rfl) (tw hw 8 rfl) nb nb) x1 (tw hw 41 rfl) (tw hw 42 rfl) (tw hw 44 rfl) (tw hw 43 rfl) (by decide) (notFace_of_selects (args := #[]) (mvT B.hZ (tw hw 44 rfl))) pd_4 d7_6 (pc' := 9) rfl rfl (rest := [_]) rfl rfl nb nb nb ?_
  intro va Ta La Xa Qa
  obtain ⟨rfl, Na, ea⟩ := Qa
  dsimp only [Option.toList, List.nil_append, List.cons_append]
  refine Go.ishr B Xa d7_9 (pc' := 10) rfl ?_
  rw [StrChars.shr0, List.length_map]
  exact Go.iret B Xa d7_10 nb nb ⟨rfl, Fr.app (Fr.nil _) Na, ea⟩
theorem d8_0 : decode jdk_42_method_154_code 0 = .ok (.getstatic 38, 3) := by decide +kernel
theorem d8_3 : decode jdk_42_method_154_code 3 = .ok (.ifCond .eq 14, 3) := by decide +kernel
theorem d8_6 : decode jdk_42_method_154_code 6 = .ok (.aload_n 0, 1) := by decide +kernel
theorem d8_7 : decode jdk_42_method_154_code 7 = .ok (.getfield 15, 3) := by decide +kernel
theorem d8_10 : decode jdk_42_method_154_code 10 = .ok (.ifCond .ne 7, 3) := by decide +kernel
theorem d8_13 : decode jdk_42_method_154_code 13 = .ok (.iconst 1, 1) := by decide +kernel
theorem d8_14 : decode jdk_42_method_154_code 14 = .ok (.goto 4, 3) := by decide +kernel
theorem d8_17 : decode jdk_42_method_154_code 17 = .ok (.iconst 0, 1) := by decide +kernel
theorem d8_18 : decode jdk_42_method_154_code 18 = .ok (.ireturn, 1) := by decide +kernel
def ct_isLat_R : Room := ({ frames := 0, cells := 0, slots := 0, locals := 0 } : Room)
set_option maxRecDepth 65536 in
set_option maxHeartbeats 40000000 in
theorem ct_isLat (l : Launch) (Z : State) (a0 : Array Value) (hw : ∀ d ∈ tables_1, d.before a0 Z = true) (x : Addr) (cd : Int32) (h : Heap) (n0 : Nat) (hS : Stz Z) (O : Old Z n0 h) (C0 : Fld Z h x "java/lang/String" "coder" "B" (.int cd)) :
    Ct l Z ⟨"java/lang/String", "isLatin1", "()Z"⟩ jdk_42_method_154_code 1 (some .boolean) [] ct_isLat_R ct_isLat_R.cells ct_isLat_R.slots [(.ref x)] h (fun v h' L => v = some (.int (if cd = 0 then 1 else 0)) ∧ Fr n0 L ∧ h' = h) := by
  refine Ct.mk (L0 := [.val (.ref x)]) (plainFor_of_name pn_1) (fun m => by first | (simp [entryFrame, mkF, argsToLocals, Value.category]; done) | rfl) ?_
  intro p e s m below meth c s₁ B X0 e0
  obtain ⟨G, SG, hG⟩ := hS.1
  refine Go.getS B X0 e0 (tw hw 46 rfl) (SG.ext O.2) d8_0 (pc' := 3) rfl ?_
  intro Tt0_1 Xt0_1 et0_1
  refine Go.ifF B Xt0_1 d8_3 (pc' := 6) rfl hG ?_
  refine Go.aloadN B Xt0_1 d8_6 (pc' := 7) rfl rfl rfl ?_
  refine Go.getF B Xt0_1 et0_1 (tw hw 26 rfl) C0 d8_7 (pc' := 10) rfl ?_
  intro Tt7_2 Xt7_2 et7_2
  refine Go.ifc B Xt7_2 d8_10 (by decide) (pcT := 17) rfl (pc' := 13) rfl (fun hc => ?_) (fun hc => ?_)
  · dsimp only [GoKit.CP] at hc
    refine Go.iconst B Xt7_2 0 d8_17 (pc' := 18) rfl rfl ?_
    exact Go.zret B Xt7_2 d8_18 rfl nb nb ⟨by rw [if_neg hc], Fr.nil _, et7_2⟩
  · dsimp only [GoKit.CN] at hc
    refine Go.iconst B Xt7_2 1 d8_13 (pc' := 14) rfl rfl ?_
    refine Go.goto B Xt7_2 d8_14 (by decide) (pc' := 18) rfl ?_
    exact Go.zret B Xt7_2 d8_18 rfl nb nb ⟨by rw [if_pos hc], Fr.nil _, et7_2⟩
theorem d9_0 : decode jdk_29_method_69_code 0 = .ok (.iload_n 0, 1) := by decide +kernel
theorem d9_1 : decode jdk_29_method_69_code 1 = .ok (.iload_n 1, 1) := by decide +kernel
theorem d9_2 : decode jdk_29_method_69_code 2 = .ok (.if_icmp .gt 7, 3) := by decide +kernel
theorem d9_5 : decode jdk_29_method_69_code 5 = .ok (.iload_n 0, 1) := by decide +kernel
theorem d9_6 : decode jdk_29_method_69_code 6 = .ok (.goto 4, 3) := by decide +kernel
theorem d9_9 : decode jdk_29_method_69_code 9 = .ok (.iload_n 1, 1) := by decide +kernel
theorem d9_10 : decode jdk_29_method_69_code 10 = .ok (.ireturn, 1) := by decide +kernel
def ct_min_R : Room := ({ frames := 0, cells := 0, slots := 0, locals := 0 } : Room)
set_option maxRecDepth 65536 in
set_option maxHeartbeats 40000000 in
theorem ct_min (l : Launch) (Z : State) (a0 : Array Value) (hw : ∀ d ∈ tables_1, d.before a0 Z = true) (pp qq : Int32) (h : Heap) (n0 : Nat)  :
    Ct l Z ⟨"java/lang/Math", "min", "(II)I"⟩ jdk_29_method_69_code 2 (some .int) [] ct_min_R ct_min_R.cells ct_min_R.slots [(.int pp), (.int qq)] h (fun v h' L => v = some (.int (if qq < pp then qq else pp)) ∧ Fr n0 L ∧ h' = h) := by
  refine Ct.mk (L0 := [.val (.int pp), .val (.int qq)]) (by decide +kernel) (fun m => by first | (simp [entryFrame, mkF, argsToLocals, Value.category]; done) | rfl) ?_
  intro p e s m below meth c s₁ B X0 e0
  refine Go.iloadN B X0 d9_0 (pc' := 1) rfl rfl ?_
  refine Go.iloadN B X0 d9_1 (pc' := 2) rfl rfl ?_
  refine Go.ic B X0 d9_2 (by decide) (pcT := 9) rfl (pc' := 5) rfl (fun hc => ?_) (fun hc => ?_)
  · dsimp only [GoKit.CP] at hc
    refine Go.iloadN B X0 d9_9 (pc' := 10) rfl rfl ?_
    exact Go.iret B X0 d9_10 nb nb ⟨by rw [if_pos hc], Fr.nil _, e0⟩
  · dsimp only [GoKit.CN] at hc
    refine Go.iloadN B X0 d9_5 (pc' := 6) rfl rfl ?_
    refine Go.goto B X0 d9_6 (by decide) (pc' := 10) rfl ?_
    exact Go.iret B X0 d9_10 nb nb ⟨by rw [if_neg hc], Fr.nil _, e0⟩
theorem d10_0 : decode jdk_41_method_12_code 0 = .ok (.iload_n 0, 1) := by decide +kernel
theorem d10_1 : decode jdk_41_method_12_code 1 = .ok (.ifCond .lt 13, 3) := by decide +kernel
theorem d10_4 : decode jdk_41_method_12_code 4 = .ok (.iload_n 0, 1) := by decide +kernel
theorem d10_5 : decode jdk_41_method_12_code 5 = .ok (.iload_n 1, 1) := by decide +kernel
theorem d10_6 : decode jdk_41_method_12_code 6 = .ok (.if_icmp .gt 8, 3) := by decide +kernel
theorem d10_9 : decode jdk_41_method_12_code 9 = .ok (.iload_n 1, 1) := by decide +kernel
theorem d10_10 : decode jdk_41_method_12_code 10 = .ok (.iload_n 2, 1) := by decide +kernel
theorem d10_11 : decode jdk_41_method_12_code 11 = .ok (.if_icmp .le 11, 3) := by decide +kernel
theorem d10_14 : decode jdk_41_method_12_code 14 = .ok (.aload_n 3, 1) := by decide +kernel
theorem d10_15 : decode jdk_41_method_12_code 15 = .ok (.iload_n 0, 1) := by decide +kernel
theorem d10_16 : decode jdk_41_method_12_code 16 = .ok (.iload_n 1, 1) := by decide +kernel
theorem d10_17 : decode jdk_41_method_12_code 17 = .ok (.iload_n 2, 1) := by decide +kernel
theorem d10_18 : decode jdk_41_method_12_code 18 = .ok (.invokestatic 99, 3) := by decide +kernel
theorem d10_21 : decode jdk_41_method_12_code 21 = .ok (.athrow, 1) := by decide +kernel
theorem d10_22 : decode jdk_41_method_12_code 22 = .ok (.iload_n 0, 1) := by decide +kernel
theorem d10_23 : decode jdk_41_method_12_code 23 = .ok (.ireturn, 1) := by decide +kernel
theorem pn_2 : plainName "jdk/internal/util/Preconditions" = true := by first | (simp [plainName, overriddenIn]; done) | decide +kernel
def ct_cftN_R : Room := ({ frames := 0, cells := 0, slots := 0, locals := 0 } : Room)
set_option maxRecDepth 65536 in
set_option maxHeartbeats 40000000 in
theorem ct_cftN (l : Launch) (Z : State) (a0 : Array Value) (hw : ∀ d ∈ tables_1, d.before a0 Z = true) (i j k : Int32) (h : Heap) (n0 : Nat) (h1 : ¬ i < 0) (h2 : ¬ j < i) (h3 : ¬ k < j) :
    Ct l Z ⟨"jdk/internal/util/Preconditions", "checkFromToIndex", "(IIILjava/util/function/BiFunction;)I"⟩ jdk_41_method_12_code 4 (some .int) [] ct_cftN_R ct_cftN_R.cells ct_cftN_R.slots [(.int i), (.int j), (.int k), .null] h (fun v h' L => v = some (.int i) ∧ Fr n0 L ∧ h' = h) := by
  refine Ct.mk (L0 := [.val (.int i), .val (.int j), .val (.int k), .val .null]) (plainFor_of_name pn_2) (fun m => by first | (simp [entryFrame, mkF, argsToLocals, Value.category]; done) | rfl) ?_
  intro p e s m below meth c s₁ B X0 e0
  refine Go.iloadN B X0 d10_0 (pc' := 1) rfl rfl ?_
  refine Go.ifF B X0 d10_1 (pc' := 4) rfl h1 ?_
  refine Go.iloadN B X0 d10_4 (pc' := 5) rfl rfl ?_
  refine Go.iloadN B X0 d10_5 (pc' := 6) rfl rfl ?_
  refine Go.icF B X0 d10_6 (pc' := 9) rfl h2 ?_
  refine Go.iloadN B X0 d10_9 (pc' := 10) rfl rfl ?_
  refine Go.iloadN B X0 d10_10 (pc' := 11) rfl rfl ?_
  refine Go.icT B X0 d10_11 (by decide) (pc' := 22) rfl h3 ?_
  refine Go.iloadN B X0 d10_22 (pc' := 23) rfl rfl ?_
  exact Go.iret B X0 d10_23 nb nb ⟨rfl, Fr.nil _, e0⟩

def ct_cftR_R : Room := ({ frames := 0, cells := 0, slots := 0, locals := 0 } : Room)
set_option maxRecDepth 65536 in
set_option maxHeartbeats 40000000 in
theorem ct_cftR (l : Launch) (Z : State) (a0 : Array Value) (hw : ∀ d ∈ tables_1, d.before a0 Z = true) (i j k : Int32) (fa : Addr) (h : Heap) (n0 : Nat) (h1 : ¬ i < 0) (h2 : ¬ j < i) (h3 : ¬ k < j) :
    Ct l Z ⟨"jdk/internal/util/Preconditions", "checkFromToIndex", "(IIILjava/util/function/BiFunction;)I"⟩ jdk_41_method_12_code 4 (some .int) [] ct_cftR_R ct_cftR_R.cells ct_cftR_R.slots [(.int i), (.int j), (.int k), (.ref fa)] h (fun v h' L => v = some (.int i) ∧ Fr n0 L ∧ h' = h) := by
  refine Ct.mk (L0 := [.val (.int i), .val (.int j), .val (.int k), .val (.ref fa)]) (plainFor_of_name pn_2) (fun m => by first | (simp [entryFrame, mkF, argsToLocals, Value.category]; done) | rfl) ?_
  intro p e s m below meth c s₁ B X0 e0
  refine Go.iloadN B X0 d10_0 (pc' := 1) rfl rfl ?_
  refine Go.ifF B X0 d10_1 (pc' := 4) rfl h1 ?_
  refine Go.iloadN B X0 d10_4 (pc' := 5) rfl rfl ?_
  refine Go.iloadN B X0 d10_5 (pc' := 6) rfl rfl ?_
  refine Go.icF B X0 d10_6 (pc' := 9) rfl h2 ?_
  refine Go.iloadN B X0 d10_9 (pc' := 10) rfl rfl ?_
  refine Go.iloadN B X0 d10_10 (pc' := 11) rfl rfl ?_
  refine Go.icT B X0 d10_11 (by decide) (pc' := 22) rfl h3 ?_
  refine Go.iloadN B X0 d10_22 (pc' := 23) rfl rfl ?_
  exact Go.iret B X0 d10_23 nb nb ⟨rfl, Fr.nil _, e0⟩
theorem ct_cft (l : Launch) (Z : State) (a0 : Array Value) (hw : ∀ d ∈ tables_1, d.before a0 Z = true) (i j k : Int32) (fm : Value) (rf : fm.isRef = true) (h : Heap) (n0 : Nat) (h1 : ¬ i < 0) (h2 : ¬ j < i) (h3 : ¬ k < j) :
    Ct l Z ⟨"jdk/internal/util/Preconditions", "checkFromToIndex", "(IIILjava/util/function/BiFunction;)I"⟩ jdk_41_method_12_code 4 (some .int) [] ct_cftN_R ct_cftN_R.cells ct_cftN_R.slots [(.int i), (.int j), (.int k), fm] h (fun v h' L => v = some (.int i) ∧ Fr n0 L ∧ h' = h) := by
  rcases ref_cases rf with rfl | ⟨fa, rfl⟩
  · exact ct_cftN l Z a0 hw i j k h n0 h1 h2 h3
  · exact ct_cftR l Z a0 hw i j k fa h n0 h1 h2 h3
theorem d11_0 : decode jdk_42_method_158_code 0 = .ok (.iload_n 0, 1) := by decide +kernel
theorem d11_1 : decode jdk_42_method_158_code 1 = .ok (.iload_n 1, 1) := by decide +kernel
theorem d11_2 : decode jdk_42_method_158_code 2 = .ok (.iload_n 2, 1) := by decide +kernel
theorem d11_3 : decode jdk_42_method_158_code 3 = .ok (.getstatic 1053, 3) := by decide +kernel
theorem d11_6 : decode jdk_42_method_158_code 6 = .ok (.invokestatic 1062, 3) := by decide +kernel
theorem d11_9 : decode jdk_42_method_158_code 9 = .ok (.pop, 1) := by decide +kernel
theorem d11_10 : decode jdk_42_method_158_code 10 = .ok (.return_, 1) := by decide +kernel
theorem pd_5 : parseMethodDescriptor "(IIILjava/util/function/BiFunction;)I" = some ⟨[.int, .int, .int, (.object "java/util/function/BiFunction")], some .int⟩ := by decide +kernel
def ct_cbe_R : Room := ({ frames := 1, cells := 0, slots := 0, locals := 20 } : Room)
set_option maxRecDepth 65536 in
set_option maxHeartbeats 40000000 in
theorem ct_cbe (l : Launch) (Z : State) (a0 : Array Value) (hw : ∀ d ∈ tables_1, d.before a0 Z = true) (i j k : Int32) (h : Heap) (n0 : Nat) (hF : Sfm Z) (O : Old Z n0 h) (h1 : ¬ i < 0) (h2 : ¬ j < i) (h3 : ¬ k < j) :
    Ct l Z ⟨"java/lang/String", "checkBoundsBeginEnd", "(III)V"⟩ jdk_42_method_158_code 3 (none) [] ct_cbe_R ct_cbe_R.cells ct_cbe_R.slots [(.int i), (.int j), (.int k)] h (fun v h' L => v = none ∧ Fr n0 L ∧ h' = h) := by
  refine Ct.mk (L0 := [.val (.int i), .val (.int j), .val (.int k)]) (plainFor_of_name pn_1) (fun m => by first | (simp [entryFrame, mkF, argsToLocals, Value.category]; done) | rfl) ?_
  intro p e s m below meth c s₁ B X0 e0
  obtain ⟨fm, SF, rf⟩ := hF
  refine Go.iloadN B X0 d11_0 (pc' := 1) rfl rfl ?_
  refine Go.iloadN B X0 d11_1 (pc' := 2) rfl rfl ?_
  refine Go.iloadN B X0 d11_2 (pc' := 3) rfl rfl ?_
  refine Go.getS B X0 e0 (tw hw 81 rfl) (SF.ext O.2) d11_3 (pc' := 6) rfl ?_
  intro Tt3_1 Xt3_1 et3_1
  refine Go.callS B Xt3_1 et3_1 (y := ⟨"jdk/internal/util/Preconditions", "checkFromToIndex", "(IIILjava/util/function/BiFunction;)I"⟩) (Ct.back (W := 0) (ct_cft l Z a0 hw i j k fm rf h n0 h1 h2 h3) B.hZ (tw hw 85 rfl) (tw hw 82 rfl) nb nb) (tw hw 83 rfl) (tw hw 84 rfl) (tw hw 82 rfl) (tw hw 85 rfl) (by decide) pd_5 d11_6 (pc' := 9) rfl rfl (rest := []) rfl rfl nb nb nb ?_
  intro va Ta La Xa Qa
  obtain ⟨rfl, Na, ea⟩ := Qa
  dsimp only [Option.toList, List.nil_append, List.cons_append]
  refine Go.pop B Xa d11_9 (pc' := 10) rfl rfl ?_
  exact Go.vret B Xa d11_10 nb nb ⟨rfl, Fr.app (Fr.nil _) Na, ea⟩
theorem d12_0 : decode jdk_41_method_11_code 0 = .ok (.iload_n 0, 1) := by decide +kernel
theorem d12_1 : decode jdk_41_method_11_code 1 = .ok (.ifCond .lt 8, 3) := by decide +kernel
theorem d12_4 : decode jdk_41_method_11_code 4 = .ok (.iload_n 0, 1) := by decide +kernel
theorem d12_5 : decode jdk_41_method_11_code 5 = .ok (.iload_n 1, 1) := by decide +kernel
theorem d12_6 : decode jdk_41_method_11_code 6 = .ok (.if_icmp .lt 10, 3) := by decide +kernel
theorem d12_9 : decode jdk_41_method_11_code 9 = .ok (.aload_n 2, 1) := by decide +kernel
theorem d12_10 : decode jdk_41_method_11_code 10 = .ok (.iload_n 0, 1) := by decide +kernel
theorem d12_11 : decode jdk_41_method_11_code 11 = .ok (.iload_n 1, 1) := by decide +kernel
theorem d12_12 : decode jdk_41_method_11_code 12 = .ok (.invokestatic 95, 3) := by decide +kernel
theorem d12_15 : decode jdk_41_method_11_code 15 = .ok (.athrow, 1) := by decide +kernel
theorem d12_16 : decode jdk_41_method_11_code 16 = .ok (.iload_n 0, 1) := by decide +kernel
theorem d12_17 : decode jdk_41_method_11_code 17 = .ok (.ireturn, 1) := by decide +kernel
def ct_cixN_R : Room := ({ frames := 0, cells := 0, slots := 0, locals := 0 } : Room)
set_option maxRecDepth 65536 in
set_option maxHeartbeats 40000000 in
theorem ct_cixN (l : Launch) (Z : State) (a0 : Array Value) (hw : ∀ d ∈ tables_1, d.before a0 Z = true) (i j : Int32) (h : Heap) (n0 : Nat) (h1 : ¬ i < 0) (h2 : i < j) :
    Ct l Z ⟨"jdk/internal/util/Preconditions", "checkIndex", "(IILjava/util/function/BiFunction;)I"⟩ jdk_41_method_11_code 3 (some .int) [] ct_cixN_R ct_cixN_R.cells ct_cixN_R.slots [(.int i), (.int j), .null] h (fun v h' L => v = some (.int i) ∧ Fr n0 L ∧ h' = h) := by
  refine Ct.mk (L0 := [.val (.int i), .val (.int j), .val .null]) (plainFor_of_name pn_2) (fun m => by first | (simp [entryFrame, mkF, argsToLocals, Value.category]; done) | rfl) ?_
  intro p e s m below meth c s₁ B X0 e0
  refine Go.iloadN B X0 d12_0 (pc' := 1) rfl rfl ?_
  refine Go.ifF B X0 d12_1 (pc' := 4) rfl h1 ?_
  refine Go.iloadN B X0 d12_4 (pc' := 5) rfl rfl ?_
  refine Go.iloadN B X0 d12_5 (pc' := 6) rfl rfl ?_
  refine Go.icT B X0 d12_6 (by decide) (pc' := 16) rfl h2 ?_
  refine Go.iloadN B X0 d12_16 (pc' := 17) rfl rfl ?_
  exact Go.iret B X0 d12_17 nb nb ⟨rfl, Fr.nil _, e0⟩

def ct_cixR_R : Room := ({ frames := 0, cells := 0, slots := 0, locals := 0 } : Room)
set_option maxRecDepth 65536 in
set_option maxHeartbeats 40000000 in
theorem ct_cixR (l : Launch) (Z : State) (a0 : Array Value) (hw : ∀ d ∈ tables_1, d.before a0 Z = true) (i j : Int32) (fa : Addr) (h : Heap) (n0 : Nat) (h1 : ¬ i < 0) (h2 : i < j) :
    Ct l Z ⟨"jdk/internal/util/Preconditions", "checkIndex", "(IILjava/util/function/BiFunction;)I"⟩ jdk_41_method_11_code 3 (some .int) [] ct_cixR_R ct_cixR_R.cells ct_cixR_R.slots [(.int i), (.int j), (.ref fa)] h (fun v h' L => v = some (.int i) ∧ Fr n0 L ∧ h' = h) := by
  refine Ct.mk (L0 := [.val (.int i), .val (.int j), .val (.ref fa)]) (plainFor_of_name pn_2) (fun m => by first | (simp [entryFrame, mkF, argsToLocals, Value.category]; done) | rfl) ?_
  intro p e s m below meth c s₁ B X0 e0
  refine Go.iloadN B X0 d12_0 (pc' := 1) rfl rfl ?_
  refine Go.ifF B X0 d12_1 (pc' := 4) rfl h1 ?_
  refine Go.iloadN B X0 d12_4 (pc' := 5) rfl rfl ?_
  refine Go.iloadN B X0 d12_5 (pc' := 6) rfl rfl ?_
  refine Go.icT B X0 d12_6 (by decide) (pc' := 16) rfl h2 ?_
  refine Go.iloadN B X0 d12_16 (pc' := 17) rfl rfl ?_
  exact Go.iret B X0 d12_17 nb nb ⟨rfl, Fr.nil _, e0⟩
theorem ct_cix (l : Launch) (Z : State) (a0 : Array Value) (hw : ∀ d ∈ tables_1, d.before a0 Z = true) (i j : Int32) (fm : Value) (rf : fm.isRef = true) (h : Heap) (n0 : Nat) (h1 : ¬ i < 0) (h2 : i < j) :
    Ct l Z ⟨"jdk/internal/util/Preconditions", "checkIndex", "(IILjava/util/function/BiFunction;)I"⟩ jdk_41_method_11_code 3 (some .int) [] ct_cixN_R ct_cixN_R.cells ct_cixN_R.slots [(.int i), (.int j), fm] h (fun v h' L => v = some (.int i) ∧ Fr n0 L ∧ h' = h) := by
  rcases ref_cases rf with rfl | ⟨fa, rfl⟩
  · exact ct_cixN l Z a0 hw i j h n0 h1 h2
  · exact ct_cixR l Z a0 hw i j fa h n0 h1 h2
theorem d13_0 : decode jdk_42_method_155_code 0 = .ok (.iload_n 0, 1) := by decide +kernel
theorem d13_1 : decode jdk_42_method_155_code 1 = .ok (.iload_n 1, 1) := by decide +kernel
theorem d13_2 : decode jdk_42_method_155_code 2 = .ok (.getstatic 1053, 3) := by decide +kernel
theorem d13_5 : decode jdk_42_method_155_code 5 = .ok (.invokestatic 1059, 3) := by decide +kernel
theorem d13_8 : decode jdk_42_method_155_code 8 = .ok (.pop, 1) := by decide +kernel
theorem d13_9 : decode jdk_42_method_155_code 9 = .ok (.return_, 1) := by decide +kernel
theorem pd_6 : parseMethodDescriptor "(IILjava/util/function/BiFunction;)I" = some ⟨[.int, .int, (.object "java/util/function/BiFunction")], some .int⟩ := by decide +kernel
def ct_sci_R : Room := ({ frames := 1, cells := 0, slots := 0, locals := 20 } : Room)
set_option maxRecDepth 65536 in
set_option maxHeartbeats 40000000 in
theorem ct_sci (l : Launch) (Z : State) (a0 : Array Value) (hw : ∀ d ∈ tables_1, d.before a0 Z = true) (i j : Int32) (h : Heap) (n0 : Nat) (hF : Sfm Z) (O : Old Z n0 h) (h1 : ¬ i < 0) (h2 : i < j) :
    Ct l Z ⟨"java/lang/String", "checkIndex", "(II)V"⟩ jdk_42_method_155_code 2 (none) [] ct_sci_R ct_sci_R.cells ct_sci_R.slots [(.int i), (.int j)] h (fun v h' L => v = none ∧ Fr n0 L ∧ h' = h) := by
  refine Ct.mk (L0 := [.val (.int i), .val (.int j)]) (plainFor_of_name pn_1) (fun m => by first | (simp [entryFrame, mkF, argsToLocals, Value.category]; done) | rfl) ?_
  intro p e s m below meth c s₁ B X0 e0
  obtain ⟨fm, SF, rf⟩ := hF
  refine Go.iloadN B X0 d13_0 (pc' := 1) rfl rfl ?_
  refine Go.iloadN B X0 d13_1 (pc' := 2) rfl rfl ?_
  refine Go.getS B X0 e0 (tw hw 81 rfl) (SF.ext O.2) d13_2 (pc' := 5) rfl ?_
  intro Tt2_1 Xt2_1 et2_1
  refine Go.callS B Xt2_1 et2_1 (y := ⟨"jdk/internal/util/Preconditions", "checkIndex", "(IILjava/util/function/BiFunction;)I"⟩) (Ct.back (W := 0) (ct_cix l Z a0 hw i j fm rf h n0 h1 h2) B.hZ (tw hw 133 rfl) (tw hw 82 rfl) nb nb) (tw hw 131 rfl) (tw hw 132 rfl) (tw hw 82 rfl) (tw hw 133 rfl) (by decide) pd_6 d13_5 (pc' := 8) rfl rfl (rest := []) rfl rfl nb nb nb ?_
  intro va Ta La Xa Qa
  obtain ⟨rfl, Na, ea⟩ := Qa
  dsimp only [Option.toList, List.nil_append, List.cons_append]
  refine Go.pop B Xa d13_8 (pc' := 9) rfl rfl ?_
  exact Go.vret B Xa d13_9 nb nb ⟨rfl, Fr.app (Fr.nil _) Na, ea⟩
theorem d14_0 : decode jdk_43_method_2_code 0 = .ok (.iload_n 1, 1) := by decide +kernel
theorem d14_1 : decode jdk_43_method_2_code 1 = .ok (.aload_n 0, 1) := by decide +kernel
theorem d14_2 : decode jdk_43_method_2_code 2 = .ok (.arraylength, 1) := by decide +kernel
theorem d14_3 : decode jdk_43_method_2_code 3 = .ok (.invokestatic 9, 3) := by decide +kernel
theorem d14_6 : decode jdk_43_method_2_code 6 = .ok (.aload_n 0, 1) := by decide +kernel
theorem d14_7 : decode jdk_43_method_2_code 7 = .ok (.iload_n 1, 1) := by decide +kernel
theorem d14_8 : decode jdk_43_method_2_code 8 = .ok (.baload, 1) := by decide +kernel
theorem d14_9 : decode jdk_43_method_2_code 9 = .ok (.sipush 255, 3) := by decide +kernel
theorem d14_12 : decode jdk_43_method_2_code 12 = .ok (.iand, 1) := by decide +kernel
theorem d14_13 : decode jdk_43_method_2_code 13 = .ok (.i2c, 1) := by decide +kernel
theorem d14_14 : decode jdk_43_method_2_code 14 = .ok (.ireturn, 1) := by decide +kernel
theorem pd_7 : parseMethodDescriptor "(II)V" = some ⟨[.int, .int], none⟩ := by decide +kernel
theorem pn_3 : plainName "java/lang/StringLatin1" = true := by first | (simp [plainName, overriddenIn]; done) | decide +kernel
def ct_lca_R : Room := ({ frames := 2, cells := 0, slots := 0, locals := 50 } : Room)
set_option maxRecDepth 65536 in
set_option maxHeartbeats 40000000 in
theorem ct_lca (l : Launch) (Z : State) (a0 : Array Value) (hw : ∀ d ∈ tables_1, d.before a0 Z = true) (b : Addr) (i : Nat) (bs : List Int32) (u z : Int32) (h : Heap) (n0 : Nat) (hF : Sfm Z) (O : Old Z n0 h) (A0 : Av Z h b .byte (bs.map Value.int)) (hc : bs[i]? = some u) (hz : StrChars.chr8 u = z) (hr : ¬ z < 0 ∧ ¬ 65535 < z) :
    Ct l Z ⟨"java/lang/StringLatin1", "charAt", "([BI)C"⟩ jdk_43_method_2_code 2 (some .char) [] ct_lca_R ct_lca_R.cells ct_lca_R.slots [(.ref b), (.int (Int32.ofNat i))] h (fun v h' L => v = some (.int z) ∧ Fr n0 L ∧ h' = h) := by
  refine Ct.mk (L0 := [.val (.ref b), .val (.int (Int32.ofNat i))]) (plainFor_of_name pn_3) (fun m => by first | (simp [entryFrame, mkF, argsToLocals, Value.category]; done) | rfl) ?_
  intro p e s m below meth c s₁ B X0 e0
  have hi : i < bs.length := (List.getElem?_eq_some_iff.mp hc).1
  have l31 := StrD.len31 A0
  refine Go.iloadN B X0 d14_0 (pc' := 1) rfl rfl ?_
  refine Go.aloadN B X0 d14_1 (pc' := 2) rfl rfl rfl ?_
  refine Go.arraylength B X0 e0 A0 d14_2 (pc' := 3) rfl ?_
  rw [List.length_map]
  refine Go.callS B X0 e0 (y := ⟨"java/lang/String", "checkIndex", "(II)V"⟩) (Ct.back (W := 0) (ct_sci l Z a0 hw (Int32.ofNat i) (Int32.ofNat bs.length) h n0 hF O (ofNat_nn (by omega)) ((lt_ofNat (by omega) (by omega)).mpr hi)) B.hZ (tw hw 130 rfl) (tw hw 8 rfl) nb nb) (tw hw 128 rfl) (tw hw 129 rfl) (tw hw 8 rfl) (tw hw 130 rfl) (by decide) pd_7 d14_3 (pc' := 6) rfl rfl (rest := []) rfl rfl nb nb nb ?_
  intro va Ta La Xa Qa
  obtain ⟨rfl, Na, ea⟩ := Qa
  dsimp only [Option.toList, List.nil_append, List.cons_append]
  refine Go.aloadN B Xa d14_6 (pc' := 7) rfl rfl rfl ?_
  refine Go.iloadN B Xa d14_7 (pc' := 8) rfl rfl ?_
  refine Go.baload B Xa ea A0 i d14_8 (pc' := 9) rfl rfl (v := .int u) (by rw [List.getElem?_map, hc]; rfl) ?_
  refine Go.sipush B Xa 255 d14_9 (pc' := 12) rfl rfl ?_
  refine Go.iand B Xa d14_12 (pc' := 13) rfl ?_
  refine Go.i2c B Xa d14_13 (pc' := 14) rfl ?_
  rw [show (u &&& 255).toUInt32.toUInt16.toUInt32.toInt32 = z from hz]
  exact Go.cret B Xa d14_14 (StrChars.narrow_ch hr.1 hr.2) nb nb ⟨rfl, Fr.app (Fr.nil _) Na, ea⟩
theorem d15_0 : decode jdk_42_method_56_code 0 = .ok (.aload_n 0, 1) := by decide +kernel
theorem d15_1 : decode jdk_42_method_56_code 1 = .ok (.invokevirtual 492, 3) := by decide +kernel
theorem d15_4 : decode jdk_42_method_56_code 4 = .ok (.ifCond .eq 12, 3) := by decide +kernel
theorem d15_7 : decode jdk_42_method_56_code 7 = .ok (.aload_n 0, 1) := by decide +kernel
theorem d15_8 : decode jdk_42_method_56_code 8 = .ok (.getfield 9, 3) := by decide +kernel
theorem d15_11 : decode jdk_42_method_56_code 11 = .ok (.iload_n 1, 1) := by decide +kernel
theorem d15_12 : decode jdk_42_method_56_code 12 = .ok (.invokestatic 495, 3) := by decide +kernel
theorem d15_15 : decode jdk_42_method_56_code 15 = .ok (.ireturn, 1) := by decide +kernel
theorem d15_16 : decode jdk_42_method_56_code 16 = .ok (.aload_n 0, 1) := by decide +kernel
theorem d15_17 : decode jdk_42_method_56_code 17 = .ok (.getfield 9, 3) := by decide +kernel
theorem d15_20 : decode jdk_42_method_56_code 20 = .ok (.iload_n 1, 1) := by decide +kernel
theorem d15_21 : decode jdk_42_method_56_code 21 = .ok (.invokestatic 498, 3) := by decide +kernel
theorem d15_24 : decode jdk_42_method_56_code 24 = .ok (.ireturn, 1) := by decide +kernel
theorem pd_8 : parseMethodDescriptor "()Z" = some ⟨[], some .boolean⟩ := by decide +kernel
theorem pd_9 : parseMethodDescriptor "([BI)C" = some ⟨[(.array .byte), .int], some .char⟩ := by decide +kernel
def ct_charAt_R : Room := ({ frames := 3, cells := 0, slots := 0, locals := 80 } : Room)
set_option maxRecDepth 65536 in
set_option maxHeartbeats 40000000 in
theorem ct_charAt (l : Launch) (Z : State) (a0 : Array Value) (hw : ∀ d ∈ tables_1, d.before a0 Z = true) (x : Addr) (i : Nat) (bs : List Int32) (u z : Int32) (h : Heap) (n0 : Nat) (hS : Stz Z) (O : Old Z n0 h) (hF : Sfm Z) (D : StrL Z h x bs) (hc : bs[i]? = some u) (hz : StrChars.chr8 u = z) (hr : ¬ z < 0 ∧ ¬ 65535 < z) :
    Ct l Z ⟨"java/lang/String", "charAt", "(I)C"⟩ jdk_42_method_56_code 2 (some .char) [] ct_charAt_R ct_charAt_R.cells ct_charAt_R.slots [(.ref x), (.int (Int32.ofNat i))] h (fun v h' L => v = some (.int z) ∧ Fr n0 L ∧ h' = h) := by
  refine Ct.mk (L0 := [.val (.ref x), .val (.int (Int32.ofNat i))]) (plainFor_of_name pn_1) (fun m => by first | (simp [entryFrame, mkF, argsToLocals, Value.category]; done) | rfl) ?_
  intro p e s m below meth c s₁ B X0 e0
  obtain ⟨t, x1, x2, x3, x4⟩ := D
  refine Go.aloadN B X0 d15_0 (pc' := 1) rfl rfl rfl ?_
  refine Go.callV B X0 e0 (y := ⟨"java/lang/String", "isLatin1", "()Z"⟩) (z := ⟨"java/lang/String", "isLatin1", "()Z"⟩) (Ct.back (W := 0) (ct_isLat l Z a0 hw x 0 h n0 hS O x2) B.hZ (tw hw 56 rfl) (tw hw 8 rfl) nb nb) x1 (tw hw 52 rfl) (tw hw 53 rfl) (tw hw 55 rfl) (tw hw 54 rfl) (by decide) (notFace_of_selects (args := #[]) (mvT B.hZ (tw hw 55 rfl))) pd_8 d15_1 (pc' := 4) rfl rfl (rest := []) rfl rfl nb nb nb ?_
  intro va Ta La Xa Qa
  obtain ⟨rfl, Na, ea⟩ := Qa
  dsimp only [Option.toList, List.nil_append, List.cons_append]
  rw [if_pos rfl]
  refine Go.ifF B Xa d15_4 (pc' := 7) rfl (by decide) ?_
  refine Go.aloadN B Xa d15_7 (pc' := 8) rfl rfl rfl ?_
  refine Go.getF B Xa ea (tw hw 25 rfl) x3 d15_8 (pc' := 11) rfl ?_
  intro Tt8_1 Xt8_1 et8_1
  refine Go.iloadN B Xt8_1 d15_11 (pc' := 12) rfl rfl ?_
  refine Go.callS B Xt8_1 et8_1 (y := ⟨"java/lang/StringLatin1", "charAt", "([BI)C"⟩) (Ct.back (W := 0) (ct_lca l Z a0 hw t i bs u z h n0 hF O x4 hc hz hr) B.hZ (tw hw 127 rfl) (tw hw 59 rfl) nb nb) (tw hw 125 rfl) (tw hw 126 rfl) (tw hw 59 rfl) (tw hw 127 rfl) (by decide) pd_9 d15_12 (pc' := 15) rfl rfl (rest := []) rfl rfl nb nb nb ?_
  intro vb Tb Lb Xb Qb
  obtain ⟨rfl, Nb, eb⟩ := Qb
  dsimp only [Option.toList, List.nil_append, List.cons_append]
  exact Go.cret B Xb d15_15 (StrChars.narrow_ch hr.1 hr.2) nb nb ⟨rfl, Fr.app (Fr.app (Fr.nil _) Na) Nb, eb⟩
theorem d16_0 : decode jdk_65_method_131_code 0 = .ok (.iload_n 1, 1) := by decide +kernel
theorem d16_1 : decode jdk_65_method_131_code 1 = .ok (.iload_n 0, 1) := by decide +kernel
theorem d16_2 : decode jdk_65_method_131_code 2 = .ok (.if_icmp .ge 35, 3) := by decide +kernel
theorem d16_5 : decode jdk_65_method_131_code 5 = .ok (.new 43, 3) := by decide +kernel
theorem d16_8 : decode jdk_65_method_131_code 8 = .ok (.dup, 1) := by decide +kernel
theorem d16_9 : decode jdk_65_method_131_code 9 = .ok (.new 45, 3) := by decide +kernel
theorem d16_12 : decode jdk_65_method_131_code 12 = .ok (.dup, 1) := by decide +kernel
theorem d16_13 : decode jdk_65_method_131_code 13 = .ok (.invokespecial 47, 3) := by decide +kernel
theorem d16_16 : decode jdk_65_method_131_code 16 = .ok (.iload_n 0, 1) := by decide +kernel
theorem d16_17 : decode jdk_65_method_131_code 17 = .ok (.invokevirtual 54, 3) := by decide +kernel
theorem d16_20 : decode jdk_65_method_131_code 20 = .ok (.ldc_w 337, 3) := by decide +kernel
theorem d16_23 : decode jdk_65_method_131_code 23 = .ok (.invokevirtual 50, 3) := by decide +kernel
theorem d16_26 : decode jdk_65_method_131_code 26 = .ok (.iload_n 1, 1) := by decide +kernel
theorem d16_27 : decode jdk_65_method_131_code 27 = .ok (.invokevirtual 54, 3) := by decide +kernel
theorem d16_30 : decode jdk_65_method_131_code 30 = .ok (.invokevirtual 61, 3) := by decide +kernel
theorem d16_33 : decode jdk_65_method_131_code 33 = .ok (.invokespecial 65, 3) := by decide +kernel
theorem d16_36 : decode jdk_65_method_131_code 36 = .ok (.athrow, 1) := by decide +kernel
theorem d16_37 : decode jdk_65_method_131_code 37 = .ok (.return_, 1) := by decide +kernel
theorem pn_4 : plainName "java/util/Arrays" = true := by first | (simp [plainName, overriddenIn]; done) | decide +kernel
def ct_chl_R : Room := ({ frames := 0, cells := 0, slots := 0, locals := 0 } : Room)
set_option maxRecDepth 65536 in
set_option maxHeartbeats 40000000 in
theorem ct_chl (l : Launch) (Z : State) (a0 : Array Value) (hw : ∀ d ∈ tables_1, d.before a0 Z = true) (i j : Int32) (h : Heap) (n0 : Nat) (h1 : ¬ j < i) :
    Ct l Z ⟨"java/util/Arrays", "checkLength", "(II)V"⟩ jdk_65_method_131_code 2 (none) [] ct_chl_R ct_chl_R.cells ct_chl_R.slots [(.int i), (.int j)] h (fun v h' L => v = none ∧ Fr n0 L ∧ h' = h) := by
  refine Ct.mk (L0 := [.val (.int i), .val (.int j)]) (plainFor_of_name pn_4) (fun m => by first | (simp [entryFrame, mkF, argsToLocals, Value.category]; done) | rfl) ?_
  intro p e s m below meth c s₁ B X0 e0
  refine Go.iloadN B X0 d16_0 (pc' := 1) rfl rfl ?_
  refine Go.iloadN B X0 d16_1 (pc' := 2) rfl rfl ?_
  refine Go.icT B X0 d16_2 (by decide) (pc' := 37) rfl h1 ?_
  exact Go.vret B X0 d16_37 nb nb ⟨rfl, Fr.nil _, e0⟩
theorem d17_0 : decode jdk_65_method_133_code 0 = .ok (.iload_n 1, 1) := by decide +kernel
theorem d17_1 : decode jdk_65_method_133_code 1 = .ok (.iload_n 2, 1) := by decide +kernel
theorem d17_2 : decode jdk_65_method_133_code 2 = .ok (.invokestatic 343, 3) := by decide +kernel
theorem d17_5 : decode jdk_65_method_133_code 5 = .ok (.iload_n 2, 1) := by decide +kernel
theorem d17_6 : decode jdk_65_method_133_code 6 = .ok (.iload_n 1, 1) := by decide +kernel
theorem d17_7 : decode jdk_65_method_133_code 7 = .ok (.isub, 1) := by decide +kernel
theorem d17_8 : decode jdk_65_method_133_code 8 = .ok (.istore_n 3, 1) := by decide +kernel
theorem d17_9 : decode jdk_65_method_133_code 9 = .ok (.iload_n 3, 1) := by decide +kernel
theorem d17_10 : decode jdk_65_method_133_code 10 = .ok (.newarray .byte, 2) := by decide +kernel
theorem d17_12 : decode jdk_65_method_133_code 12 = .ok (.astore 4, 2) := by decide +kernel
theorem d17_14 : decode jdk_65_method_133_code 14 = .ok (.aload_n 0, 1) := by decide +kernel
theorem d17_15 : decode jdk_65_method_133_code 15 = .ok (.iload_n 1, 1) := by decide +kernel
theorem d17_16 : decode jdk_65_method_133_code 16 = .ok (.aload 4, 2) := by decide +kernel
theorem d17_18 : decode jdk_65_method_133_code 18 = .ok (.iconst 0, 1) := by decide +kernel
theorem d17_19 : decode jdk_65_method_133_code 19 = .ok (.aload_n 0, 1) := by decide +kernel
theorem d17_20 : decode jdk_65_method_133_code 20 = .ok (.arraylength, 1) := by decide +kernel
theorem d17_21 : decode jdk_65_method_133_code 21 = .ok (.iload_n 1, 1) := by decide +kernel
theorem d17_22 : decode jdk_65_method_133_code 22 = .ok (.isub, 1) := by decide +kernel
theorem d17_23 : decode jdk_65_method_133_code 23 = .ok (.iload_n 3, 1) := by decide +kernel
theorem d17_24 : decode jdk_65_method_133_code 24 = .ok (.invokestatic 304, 3) := by decide +kernel
theorem d17_27 : decode jdk_65_method_133_code 27 = .ok (.invokestatic 150, 3) := by decide +kernel
theorem d17_30 : decode jdk_65_method_133_code 30 = .ok (.aload 4, 2) := by decide +kernel
theorem d17_32 : decode jdk_65_method_133_code 32 = .ok (.areturn, 1) := by decide +kernel
theorem pd_10 : parseMethodDescriptor "(II)I" = some ⟨[.int, .int], some .int⟩ := by decide +kernel
def ct_corb_R : Room := ({ frames := 1, cells := 1, slots := 64, locals := 60 } : Room)
set_option maxRecDepth 65536 in
set_option maxHeartbeats 40000000 in
theorem ct_corb (l : Launch) (Z : State) (a0 : Array Value) (hw : ∀ d ∈ tables_1, d.before a0 Z = true) (b : Addr) (i n : Nat) (bs : List Int32) (h : Heap) (n0 : Nat) (O : Old Z n0 h) (A0 : Av Z h b .byte (bs.map Value.int)) (hin : i + n ≤ bs.length) (hn : n ≤ 64) :
    Ct l Z ⟨"java/util/Arrays", "copyOfRangeByte", "([BII)[B"⟩ jdk_65_method_133_code 5 (some (.array .byte)) [] ct_corb_R ct_corb_R.cells ct_corb_R.slots [(.ref b), (.int (Int32.ofNat i)), (.int (Int32.ofNat (i + n)))] h (fun v h' L => ∃ d, v = some (.ref d) ∧ h.size ≤ d ∧ n0 ≤ d ∧ Fr n0 L ∧ Keep h h' [] ∧ Av Z h' d .byte (((bs.drop i).take n).map Value.int)) := by
  refine Ct.mk (L0 := [.val (.ref b), .val (.int (Int32.ofNat i)), .val (.int (Int32.ofNat (i + n))), .unset, .unset]) (plainFor_of_name pn_4) (fun m => by first | (simp [entryFrame, mkF, argsToLocals, Value.category]; done) | rfl) ?_
  intro p e s m below meth c s₁ B X0 e0
  have l31 := StrD.len31 A0
  refine Go.iloadN B X0 d17_0 (pc' := 1) rfl rfl ?_
  refine Go.iloadN B X0 d17_1 (pc' := 2) rfl rfl ?_
  refine Go.callS B X0 e0 (y := ⟨"java/util/Arrays", "checkLength", "(II)V"⟩) (Ct.back (W := 0) (ct_chl l Z a0 hw (Int32.ofNat i) (Int32.ofNat (i + n)) h n0 (fun q => absurd ((lt_ofNat (by omega) (by omega)).mp q) (by omega))) B.hZ (tw hw 111 rfl) (tw hw 104 rfl) nb nb) (tw hw 109 rfl) (tw hw 110 rfl) (tw hw 104 rfl) (tw hw 111 rfl) (by decide) pd_7 d17_2 (pc' := 5) rfl rfl (rest := []) rfl rfl nb nb nb ?_
  intro va Ta La Xa Qa
  obtain ⟨rfl, Na, ea⟩ := Qa
  dsimp only [Option.toList, List.nil_append, List.cons_append]
  refine Go.iloadN B Xa d17_5 (pc' := 6) rfl rfl ?_
  refine Go.iloadN B Xa d17_6 (pc' := 7) rfl rfl ?_
  refine Go.isub B Xa d17_7 (pc' := 8) rfl ?_
  rw [sub_ofNat (by omega), Nat.add_sub_cancel_left]
  refine Go.istoreN B Xa d17_8 (pc' := 9) rfl rfl rfl ?_
  dsimp only [put1]
  refine Go.iloadN B Xa d17_9 (pc' := 10) rfl rfl ?_
  refine Go.newP B Xa ea n (tw hw 20 rfl) d17_10 (pc' := 12) rfl rfl (by omega) nb (by show 0 + 0 + n ≤ 64; omega) ?_
  intro Tb hb d gb Xb eb Eb Ab'
  have Ab : Av Z hb d .byte ((List.replicate n (0 : Int32)).map Value.int) := by rw [List.map_replicate]; exact Ab'
  have nd : n0 ≤ d := by rw [gb, ← O.1]; exact O.2.1
  refine Go.astore B Xb d17_12 (pc' := 14) rfl rfl rfl rfl ?_
  dsimp only [put1]
  refine Go.aloadN B Xb d17_14 (pc' := 15) rfl rfl rfl ?_
  refine Go.iloadN B Xb d17_15 (pc' := 16) rfl rfl ?_
  refine Go.aload B Xb d17_16 (pc' := 18) rfl rfl rfl ?_
  refine Go.iconst B Xb 0 d17_18 (pc' := 19) rfl rfl ?_
  refine Go.aloadN B Xb d17_19 (pc' := 20) rfl rfl rfl ?_
  refine Go.arraylength B Xb eb (A0.ext Eb) d17_20 (pc' := 21) rfl ?_
  refine Go.iloadN B Xb d17_21 (pc' := 22) rfl rfl ?_
  refine Go.isub B Xb d17_22 (pc' := 23) rfl ?_
  rw [List.length_map, sub_ofNat (by omega)]
  refine Go.iloadN B Xb d17_23 (pc' := 24) rfl rfl ?_
  refine Go.callS B Xb eb (y := ⟨"java/lang/Math", "min", "(II)I"⟩) (Ct.back (W := 4) (ct_min l Z a0 hw (Int32.ofNat (bs.length - i)) (Int32.ofNat n) hb n0) B.hZ (tw hw 67 rfl) (tw hw 66 rfl) nb nb) (tw hw 112 rfl) (tw hw 65 rfl) (tw hw 66 rfl) (tw hw 67 rfl) (by decide) pd_10 d17_24 (pc' := 27) rfl rfl (rest := [_, _, _, _]) rfl rfl nb nb (by show 0 + 0 + n + 0 ≤ 64; omega) ?_
  intro vc Tc Lc Xc Qc
  obtain ⟨rfl, Nc, ec⟩ := Qc
  dsimp only [Option.toList, List.nil_append, List.cons_append]
  have em : (if Int32.ofNat n < Int32.ofNat (bs.length - i) then Int32.ofNat n else Int32.ofNat (bs.length - i)) = Int32.ofNat n := by
    split
    · rfl
    · rename_i q
      have : ¬ n < bs.length - i := fun z => q ((lt_ofNat (by omega) (by omega)).mpr z)
      rw [show bs.length - i = n by omega]
  rw [em]
  refine Go.acopy B Xc ec rfl (A0.ext Eb) Ab (i) (0) (n) (tw hw 113 rfl) (tw hw 116 rfl) (tw hw 114 rfl) (tw hw 115 rfl) d17_27 (pc' := 30) rfl rfl rfl rfl (by simp; omega) (by simp) (Fr.app (Fr.app (Fr.nil n0) Na) Nc) nd rfl nb nb ?_
  intro Tf hf Lf Nf Xf ef Kf Af
  have Af2 : Av Z hf d .byte (((bs.drop i).take n).map Value.int) := by simpa [List.map_drop, List.map_take] using Af
  refine Go.aload B Xf d17_30 (pc' := 32) rfl rfl rfl ?_
  have K : Keep h hf [] := ((Keep.refl h []).ext Eb).trans Kf (fun y hy => Or.inr (by simp at hy; subst hy; exact Nat.le_of_eq gb.symm))
  exact Go.aret B Xf d17_32 rfl rfl rfl nb (by show 0 + 0 + n + 0 ≤ 64; omega) ⟨d, rfl, Nat.le_of_eq gb.symm, nd, Nf, by rw [ef]; exact K, by rw [ef]; exact Af2⟩
theorem d18_0 : decode jdk_65_method_132_code 0 = .ok (.iload_n 1, 1) := by decide +kernel
theorem d18_1 : decode jdk_65_method_132_code 1 = .ok (.ifCond .ne 9, 3) := by decide +kernel
theorem d18_4 : decode jdk_65_method_132_code 4 = .ok (.iload_n 2, 1) := by decide +kernel
theorem d18_5 : decode jdk_65_method_132_code 5 = .ok (.aload_n 0, 1) := by decide +kernel
theorem d18_6 : decode jdk_65_method_132_code 6 = .ok (.arraylength, 1) := by decide +kernel
theorem d18_7 : decode jdk_65_method_132_code 7 = .ok (.if_icmp .eq 10, 3) := by decide +kernel
theorem d18_10 : decode jdk_65_method_132_code 10 = .ok (.aload_n 0, 1) := by decide +kernel
theorem d18_11 : decode jdk_65_method_132_code 11 = .ok (.iload_n 1, 1) := by decide +kernel
theorem d18_12 : decode jdk_65_method_132_code 12 = .ok (.iload_n 2, 1) := by decide +kernel
theorem d18_13 : decode jdk_65_method_132_code 13 = .ok (.invokestatic 339, 3) := by decide +kernel
theorem d18_16 : decode jdk_65_method_132_code 16 = .ok (.areturn, 1) := by decide +kernel
theorem d18_17 : decode jdk_65_method_132_code 17 = .ok (.aload_n 0, 1) := by decide +kernel
theorem d18_18 : decode jdk_65_method_132_code 18 = .ok (.invokevirtual 310, 3) := by decide +kernel
theorem d18_21 : decode jdk_65_method_132_code 21 = .ok (.checkcast 311, 3) := by decide +kernel
theorem d18_24 : decode jdk_65_method_132_code 24 = .ok (.areturn, 1) := by decide +kernel
theorem pd_11 : parseMethodDescriptor "([BII)[B" = some ⟨[(.array .byte), .int, .int], some (.array .byte)⟩ := by decide +kernel
def ct_cor_R : Room := ({ frames := 2, cells := 1, slots := 64, locals := 90 } : Room)
set_option maxRecDepth 65536 in
set_option maxHeartbeats 40000000 in
theorem ct_cor (l : Launch) (Z : State) (a0 : Array Value) (hw : ∀ d ∈ tables_1, d.before a0 Z = true) (b : Addr) (i n : Nat) (bs : List Int32) (h : Heap) (n0 : Nat) (O : Old Z n0 h) (A0 : Av Z h b .byte (bs.map Value.int)) (hin : i + n ≤ bs.length) (hn : n ≤ 64) (h0 : 0 < i) :
    Ct l Z ⟨"java/util/Arrays", "copyOfRange", "([BII)[B"⟩ jdk_65_method_132_code 3 (some (.array .byte)) [] ct_cor_R ct_cor_R.cells ct_cor_R.slots [(.ref b), (.int (Int32.ofNat i)), (.int (Int32.ofNat (i + n)))] h (fun v h' L => ∃ d, v = some (.ref d) ∧ h.size ≤ d ∧ n0 ≤ d ∧ Fr n0 L ∧ Keep h h' [] ∧ Av Z h' d .byte (((bs.drop i).take n).map Value.int)) := by
  refine Ct.mk (L0 := [.val (.ref b), .val (.int (Int32.ofNat i)), .val (.int (Int32.ofNat (i + n)))]) (plainFor_of_name pn_4) (fun m => by first | (simp [entryFrame, mkF, argsToLocals, Value.category]; done) | rfl) ?_
  intro p e s m below meth c s₁ B X0 e0
  have l31 := StrD.len31 A0
  have hi0 : ¬ Int32.ofNat i = 0 := fun q => absurd ((eq_ofNat (b := 0) (by omega) (by omega)).mp q) (by omega)
  refine Go.iloadN B X0 d18_0 (pc' := 1) rfl rfl ?_
  refine Go.ifT B X0 d18_1 (by decide) (pc' := 10) rfl hi0 ?_
  refine Go.aloadN B X0 d18_10 (pc' := 11) rfl rfl rfl ?_
  refine Go.iloadN B X0 d18_11 (pc' := 12) rfl rfl ?_
  refine Go.iloadN B X0 d18_12 (pc' := 13) rfl rfl ?_
  refine Go.callS B X0 e0 (y := ⟨"java/util/Arrays", "copyOfRangeByte", "([BII)[B"⟩) (Ct.back (W := 0) (ct_corb l Z a0 hw b i n bs h n0 O A0 hin hn) B.hZ (tw hw 108 rfl) (tw hw 104 rfl) nb nb) (tw hw 106 rfl) (tw hw 107 rfl) (tw hw 104 rfl) (tw hw 108 rfl) (by decide) pd_11 d18_13 (pc' := 16) rfl rfl (rest := []) rfl rfl nb nb nb ?_
  intro va Ta La Xa Qa
  obtain ⟨d, rfl, hd, nd, Na, Ka, Aa⟩ := Qa
  dsimp only [Option.toList, List.nil_append, List.cons_append]
  exact Go.aret B Xa d18_16 rfl rfl rfl nb nb ⟨d, rfl, hd, nd, Fr.app (Fr.nil _) Na, Ka, Aa⟩
theorem d19_0 : decode jdk_42_method_151_code 0 = .ok (.aload_n 0, 1) := by decide +kernel
theorem d19_1 : decode jdk_42_method_151_code 1 = .ok (.invokespecial 1, 3) := by decide +kernel
theorem d19_4 : decode jdk_42_method_151_code 4 = .ok (.aload_n 0, 1) := by decide +kernel
theorem d19_5 : decode jdk_42_method_151_code 5 = .ok (.aload_n 1, 1) := by decide +kernel
theorem d19_6 : decode jdk_42_method_151_code 6 = .ok (.putfield 9, 3) := by decide +kernel
theorem d19_9 : decode jdk_42_method_151_code 9 = .ok (.aload_n 0, 1) := by decide +kernel
theorem d19_10 : decode jdk_42_method_151_code 10 = .ok (.iload_n 2, 1) := by decide +kernel
theorem d19_11 : decode jdk_42_method_151_code 11 = .ok (.putfield 15, 3) := by decide +kernel
theorem d19_14 : decode jdk_42_method_151_code 14 = .ok (.return_, 1) := by decide +kernel
def ct_init2_R : Room := ({ frames := 1, cells := 0, slots := 0, locals := 30 } : Room)
set_option maxRecDepth 65536 in
set_option maxHeartbeats 40000000 in
theorem ct_init2 (l : Launch) (Z : State) (a0 : Array Value) (hw : ∀ d ∈ tables_1, d.before a0 Z = true) (x b : Addr) (bs : List Int32) (v0 c0 : Value) (h : Heap) (n0 : Nat) (nx : n0 ≤ x) (hxb : b ≠ x) (Ex : Exa Z h x "java/lang/String") (V0 : Fld Z h x "java/lang/String" "value" "[B" v0) (C0 : Fld Z h x "java/lang/String" "coder" "B" c0) (A0 : Av Z h b .byte (bs.map Value.int)) :
    Ct l Z ⟨"java/lang/String", "<init>", "([BB)V"⟩ jdk_42_method_151_code 3 (none) [] ct_init2_R ct_init2_R.cells ct_init2_R.slots [(.ref x), (.ref b), (.int (0 : Int32))] h (fun v h' L => v = none ∧ Fr n0 L ∧ Keep h h' [x] ∧ StrL Z h' x bs) := by
  refine Ct.mk (L0 := [.val (.ref x), .val (.ref b), .val (.int (0 : Int32))]) (plainFor_of_name pn_1) (fun m => by first | (simp [entryFrame, mkF, argsToLocals, Value.category]; done) | rfl) ?_
  intro p e s m below meth c s₁ B X0 e0
  refine Go.aloadN B X0 d19_0 (pc' := 1) rfl rfl rfl ?_
  refine Go.initO B X0 e0 (tw hw 16 rfl) (tw hw 17 rfl) (tw hw 18 rfl) d19_1 (pc' := 4) rfl rfl nb nb ?_
  intro Tt1_1 Xt1_1 et1_1
  refine Go.aloadN B Xt1_1 d19_4 (pc' := 5) rfl rfl rfl ?_
  refine Go.aloadN B Xt1_1 d19_5 (pc' := 6) rfl rfl rfl ?_
  refine Go.putF B Xt1_1 et1_1 (tw hw 25 rfl) V0 Ex (Or.inr ⟨(tw hw 21 rfl), rfl, B.na⟩) (tw hw 7 rfl) (ty := (.array .byte)) (by decide) rfl rfl d19_6 (pc' := 9) rfl ?_
  intro Ta ha Xa ea Wa
  have hsl : RoadKit.slotOf Z "java/lang/String" "value" "[B" ≠ RoadKit.slotOf Z "java/lang/String" "coder" "B" := slot_ne (Or.inr (tw hw 21 rfl)) (Or.inr (tw hw 22 rfl)) (by decide) (t := .array .byte) (by decide) (t' := .byte) (by decide)
  have V1 := V0.same Wa
  have C1 := C0.other Wa (Or.inr hsl.symm)
  have Ex1 := Ex.wr Wa
  have A1 := A0.other Wa hxb
  refine Go.aloadN B Xa d19_9 (pc' := 10) rfl rfl rfl ?_
  refine Go.iloadN B Xa d19_10 (pc' := 11) rfl rfl ?_
  refine Go.putF B Xa ea (tw hw 26 rfl) C1 Ex1 (Or.inr ⟨(tw hw 22 rfl), rfl, B.na⟩) (tw hw 7 rfl) (ty := .byte) (by decide) rfl rfl d19_11 (pc' := 14) rfl ?_
  intro Tb hb Xb eb Wb
  have V2 := V1.other Wb (Or.inr hsl)
  have C2 := C1.same Wb
  have Ex2 := Ex1.wr Wb
  have A2 := A1.other Wb hxb
  have K : Keep h hb [x] := ((Keep.refl h [x]).wr Wa (Or.inl (by simp))).wr Wb (Or.inl (by simp))
  have N := Fr.snoc Xb (Fr.snoc Xa (Fr.nil n0) nx) nx
  exact Go.vret B Xb d19_14 nb nb ⟨rfl, N, by rw [eb]; exact K, by rw [eb]; exact ⟨b, Ex2, C2, V2, A2⟩⟩
theorem d20_0 : decode jdk_43_method_47_code 0 = .ok (.iload_n 2, 1) := by decide +kernel
theorem d20_1 : decode jdk_43_method_47_code 1 = .ok (.ifCond .ne 6, 3) := by decide +kernel
theorem d20_4 : decode jdk_43_method_47_code 4 = .ok (.ldc 151, 2) := by decide +kernel
theorem d20_6 : decode jdk_43_method_47_code 6 = .ok (.areturn, 1) := by decide +kernel
theorem d20_7 : decode jdk_43_method_47_code 7 = .ok (.new 1, 3) := by decide +kernel
theorem d20_10 : decode jdk_43_method_47_code 10 = .ok (.dup, 1) := by decide +kernel
theorem d20_11 : decode jdk_43_method_47_code 11 = .ok (.aload_n 0, 1) := by decide +kernel
theorem d20_12 : decode jdk_43_method_47_code 12 = .ok (.iload_n 1, 1) := by decide +kernel
theorem d20_13 : decode jdk_43_method_47_code 13 = .ok (.iload_n 1, 1) := by decide +kernel
theorem d20_14 : decode jdk_43_method_47_code 14 = .ok (.iload_n 2, 1) := by decide +kernel
theorem d20_15 : decode jdk_43_method_47_code 15 = .ok (.iadd, 1) := by decide +kernel
theorem d20_16 : decode jdk_43_method_47_code 16 = .ok (.invokestatic 232, 3) := by decide +kernel
theorem d20_19 : decode jdk_43_method_47_code 19 = .ok (.iconst 0, 1) := by decide +kernel
theorem d20_20 : decode jdk_43_method_47_code 20 = .ok (.invokespecial 112, 3) := by decide +kernel
theorem d20_23 : decode jdk_43_method_47_code 23 = .ok (.areturn, 1) := by decide +kernel
def ct_ns0_R : Room := ({ frames := 0, cells := 2, slots := 4, locals := 0 } : Room)
set_option maxRecDepth 65536 in
set_option maxHeartbeats 40000000 in
theorem ct_ns0 (l : Launch) (Z : State) (a0 : Array Value) (hw : ∀ d ∈ tables_1, d.before a0 Z = true) (b : Addr) (i : Int32) (h : Heap) (n0 : Nat) (hEL : EW Z a0 consts_1) (wS : ∀ d ∈ Bundle.stringAtoms, d.before a0 Z = true)  :
    CtW l Z consts_1 ⟨"java/lang/StringLatin1", "newString", "([BII)Ljava/lang/String;"⟩ jdk_43_method_47_code 3 (some (.object "java/lang/String")) [] ct_ns0_R ct_ns0_R.cells ct_ns0_R.slots [(.ref b), (.int i), (.int (0 : Int32))] h (fun v h' L => ∃ y, v = some (.ref y) ∧ Fr n0 L ∧ Ext h h' ∧ StrL Z h' y []) := by
  refine CtW.mk (L0 := [.val (.ref b), .val (.int i), .val (.int (0 : Int32))]) hEL wS (plainFor_of_name pn_3) (fun m => by first | (simp [entryFrame, mkF, argsToLocals, Value.category]; done) | rfl) ?_
  intro p e s m below meth c s₁ B X0 e0 Wv0
  refine Go.iloadN B X0 d20_0 (pc' := 1) rfl rfl ?_
  refine Go.ifF B X0 d20_1 (pc' := 4) rfl rfl ?_
  refine Go.ldcS B X0 e0 Wv0 0 (vs := []) (tw hw 100 rfl) (by decide) (by decide +kernel) nl d20_4 (pc' := 6) rfl (by decide +kernel) nb nb nb ?_
  intro aa Ta ha ba Ba Xa ea Ea Va Exa Fa Ga Aa Sa Na
  exact Go.aretW Ba Xa ea Va d20_6 rfl rfl rfl nb nb ⟨aa, rfl, Fr.nil _, by rw [ea]; exact Ea, by rw [ea]; exact ⟨ba, Exa, Fa, Ga, Aa⟩⟩
theorem pd_12 : parseMethodDescriptor "([BB)V" = some ⟨[(.array .byte), .byte], none⟩ := by decide +kernel
def ct_ns1_R : Room := ({ frames := 3, cells := 2, slots := 68, locals := 120 } : Room)
set_option maxRecDepth 65536 in
set_option maxHeartbeats 40000000 in
theorem ct_ns1 (l : Launch) (Z : State) (a0 : Array Value) (hw : ∀ d ∈ tables_1, d.before a0 Z = true) (b : Addr) (i n : Nat) (bs : List Int32) (h : Heap) (n0 : Nat) (O : Old Z n0 h) (A0 : Av Z h b .byte (bs.map Value.int)) (hin : i + n ≤ bs.length) (h0 : 0 < i) (hn1 : 0 < n) (hn64 : n ≤ 64) :
    Ct l Z ⟨"java/lang/StringLatin1", "newString", "([BII)Ljava/lang/String;"⟩ jdk_43_method_47_code 3 (some (.object "java/lang/String")) [] ct_ns1_R ct_ns1_R.cells ct_ns1_R.slots [(.ref b), (.int (Int32.ofNat i)), (.int (Int32.ofNat n))] h (fun v h' L => ∃ y, v = some (.ref y) ∧ Fr n0 L ∧ Keep h h' [] ∧ StrL Z h' y ((bs.drop i).take n)) := by
  refine Ct.mk (L0 := [.val (.ref b), .val (.int (Int32.ofNat i)), .val (.int (Int32.ofNat n))]) (plainFor_of_name pn_3) (fun m => by first | (simp [entryFrame, mkF, argsToLocals, Value.category]; done) | rfl) ?_
  intro p e s m below meth c s₁ B X0 e0
  have l31 := StrD.len31 A0
  have hn0 : ¬ Int32.ofNat n = 0 := fun q => absurd ((eq_ofNat (b := 0) (by omega) (by omega)).mp q) (by omega)
  refine Go.iloadN B X0 d20_0 (pc' := 1) rfl rfl ?_
  refine Go.ifT B X0 d20_1 (by decide) (pc' := 7) rfl hn0 ?_
  refine Go.newO B X0 e0 (tw hw 101 rfl) (tw hw 7 rfl) (tw hw 8 rfl) d20_7 (pc' := 10) rfl nb nb ?_
  intro Ta ha x ga Xa ea Ea Aa Da
  have V0 : Fld Z ha x "java/lang/String" "value" "[B" .null := Da (Or.inr (tw hw 21 rfl)) (ty := .array .byte) (by decide)
  have C0 : Fld Z ha x "java/lang/String" "coder" "B" (.int 0) := Da (Or.inr (tw hw 22 rfl)) (ty := .byte) (by decide)
  have nx : n0 ≤ x := by rw [ga, ← O.1]; exact O.2.1
  have Oa := O.ext Ea
  refine Go.dup B Xa d20_10 (pc' := 11) rfl rfl ?_
  refine Go.aloadN B Xa d20_11 (pc' := 12) rfl rfl rfl ?_
  refine Go.iloadN B Xa d20_12 (pc' := 13) rfl rfl ?_
  refine Go.iloadN B Xa d20_13 (pc' := 14) rfl rfl ?_
  refine Go.iloadN B Xa d20_14 (pc' := 15) rfl rfl ?_
  refine Go.iadd B Xa d20_15 (pc' := 16) rfl ?_
  rw [← Int32.ofNat_add]
  refine Go.callS B Xa ea (y := ⟨"java/util/Arrays", "copyOfRange", "([BII)[B"⟩) (Ct.back (W := 2) (ct_cor l Z a0 hw b i n bs ha n0 Oa (A0.ext Ea) hin hn64 h0) B.hZ (tw hw 105 rfl) (tw hw 104 rfl) nb nb) (tw hw 102 rfl) (tw hw 103 rfl) (tw hw 104 rfl) (tw hw 105 rfl) (by decide) pd_11 d20_16 (pc' := 19) rfl rfl (rest := [_, _]) rfl rfl nb nb nb ?_
  intro vb Tb Lb Xb Qb
  obtain ⟨d, rfl, hd, nd, Nb, Kb, Ab⟩ := Qb
  dsimp only [Option.toList, List.nil_append, List.cons_append]
  have hxd : d ≠ x := fun q => Nat.lt_irrefl x (Nat.lt_of_lt_of_le Aa.lt (Nat.le_trans hd (Nat.le_of_eq q)))
  refine Go.iconst B Xb 0 d20_19 (pc' := 20) rfl rfl ?_
  refine Go.callI B Xb rfl (y := ⟨"java/lang/String", "<init>", "([BB)V"⟩) rfl (Ct.back (W := 1) (ct_init2 l Z a0 hw x d ((bs.drop i).take n) .null (.int 0) Tb.heap n0 nx hxd (Aa.ext (keep0 Kb)) (V0.ext (keep0 Kb)) (C0.ext (keep0 Kb)) Ab) B.hZ (tw hw 119 rfl) (tw hw 8 rfl) nb nb) (tw hw 117 rfl) (tw hw 118 rfl) (tw hw 119 rfl) (by decide) pd_12 d20_20 (pc' := 23) rfl rfl (rest := [_]) rfl rfl nb nb nb ?_
  intro vf Tf Lf Xf Qf
  obtain ⟨rfl, Nf, Kf, Df⟩ := Qf
  dsimp only [Option.toList, List.nil_append, List.cons_append]
  have K : Keep h Tf.heap [] := (((Keep.refl h []).ext Ea).ext (keep0 Kb)).trans Kf (fun y hy => Or.inr (by simp at hy; subst hy; exact Nat.le_of_eq ga.symm))
  exact Go.aret B Xf d20_23 rfl rfl rfl nb nb ⟨x, rfl, Fr.app (Fr.app (Fr.nil _) Nb) Nf, K, Df⟩
theorem d21_0 : decode jdk_42_method_92_code 0 = .ok (.aload_n 0, 1) := by decide +kernel
theorem d21_1 : decode jdk_42_method_92_code 1 = .ok (.invokevirtual 505, 3) := by decide +kernel
theorem d21_4 : decode jdk_42_method_92_code 4 = .ok (.istore_n 3, 1) := by decide +kernel
theorem d21_5 : decode jdk_42_method_92_code 5 = .ok (.iload_n 1, 1) := by decide +kernel
theorem d21_6 : decode jdk_42_method_92_code 6 = .ok (.iload_n 2, 1) := by decide +kernel
theorem d21_7 : decode jdk_42_method_92_code 7 = .ok (.iload_n 3, 1) := by decide +kernel
theorem d21_8 : decode jdk_42_method_92_code 8 = .ok (.invokestatic 521, 3) := by decide +kernel
theorem d21_11 : decode jdk_42_method_92_code 11 = .ok (.iload_n 1, 1) := by decide +kernel
theorem d21_12 : decode jdk_42_method_92_code 12 = .ok (.ifCond .ne 10, 3) := by decide +kernel
theorem d21_15 : decode jdk_42_method_92_code 15 = .ok (.iload_n 2, 1) := by decide +kernel
theorem d21_16 : decode jdk_42_method_92_code 16 = .ok (.iload_n 3, 1) := by decide +kernel
theorem d21_17 : decode jdk_42_method_92_code 17 = .ok (.if_icmp .ne 5, 3) := by decide +kernel
theorem d21_20 : decode jdk_42_method_92_code 20 = .ok (.aload_n 0, 1) := by decide +kernel
theorem d21_21 : decode jdk_42_method_92_code 21 = .ok (.areturn, 1) := by decide +kernel
theorem d21_22 : decode jdk_42_method_92_code 22 = .ok (.iload_n 2, 1) := by decide +kernel
theorem d21_23 : decode jdk_42_method_92_code 23 = .ok (.iload_n 1, 1) := by decide +kernel
theorem d21_24 : decode jdk_42_method_92_code 24 = .ok (.isub, 1) := by decide +kernel
theorem d21_25 : decode jdk_42_method_92_code 25 = .ok (.istore 4, 2) := by decide +kernel
theorem d21_27 : decode jdk_42_method_92_code 27 = .ok (.aload_n 0, 1) := by decide +kernel
theorem d21_28 : decode jdk_42_method_92_code 28 = .ok (.invokevirtual 492, 3) := by decide +kernel
theorem d21_31 : decode jdk_42_method_92_code 31 = .ok (.ifCond .eq 16, 3) := by decide +kernel
theorem d21_34 : decode jdk_42_method_92_code 34 = .ok (.aload_n 0, 1) := by decide +kernel
theorem d21_35 : decode jdk_42_method_92_code 35 = .ok (.getfield 9, 3) := by decide +kernel
theorem d21_38 : decode jdk_42_method_92_code 38 = .ok (.iload_n 1, 1) := by decide +kernel
theorem d21_39 : decode jdk_42_method_92_code 39 = .ok (.iload 4, 2) := by decide +kernel
theorem d21_41 : decode jdk_42_method_92_code 41 = .ok (.invokestatic 685, 3) := by decide +kernel
theorem d21_44 : decode jdk_42_method_92_code 44 = .ok (.goto 13, 3) := by decide +kernel
theorem d21_47 : decode jdk_42_method_92_code 47 = .ok (.aload_n 0, 1) := by decide +kernel
theorem d21_48 : decode jdk_42_method_92_code 48 = .ok (.getfield 9, 3) := by decide +kernel
theorem d21_51 : decode jdk_42_method_92_code 51 = .ok (.iload_n 1, 1) := by decide +kernel
theorem d21_52 : decode jdk_42_method_92_code 52 = .ok (.iload 4, 2) := by decide +kernel
theorem d21_54 : decode jdk_42_method_92_code 54 = .ok (.invokestatic 689, 3) := by decide +kernel
theorem d21_57 : decode jdk_42_method_92_code 57 = .ok (.areturn, 1) := by decide +kernel
theorem pd_13 : parseMethodDescriptor "()I" = some ⟨[], some .int⟩ := by decide +kernel
theorem pd_14 : parseMethodDescriptor "(III)V" = some ⟨[.int, .int, .int], none⟩ := by decide +kernel
theorem pd_15 : parseMethodDescriptor "([BII)Ljava/lang/String;" = some ⟨[(.array .byte), .int, .int], some (.object "java/lang/String")⟩ := by decide +kernel
def ct_sub2_R : Room := ({ frames := 4, cells := 2, slots := 68, locals := 150 } : Room)
set_option maxRecDepth 65536 in
set_option maxHeartbeats 40000000 in
theorem ct_sub2 (l : Launch) (Z : State) (a0 : Array Value) (hw : ∀ d ∈ tables_1, d.before a0 Z = true) (x : Addr) (i : Nat) (bs : List Int32) (h : Heap) (n0 : Nat) (hEL : EW Z a0 consts_1) (wS : ∀ d ∈ Bundle.stringAtoms, d.before a0 Z = true) (hS : Stz Z) (O : Old Z n0 h) (hF : Sfm Z) (D : StrL Z h x bs) (hin : i ≤ bs.length) (h64 : bs.length ≤ 64) :
    CtW l Z consts_1 ⟨"java/lang/String", "substring", "(II)Ljava/lang/String;"⟩ jdk_42_method_92_code 5 (some (.object "java/lang/String")) [] ct_sub2_R ct_sub2_R.cells ct_sub2_R.slots [(.ref x), (.int (Int32.ofNat i)), (.int (Int32.ofNat bs.length))] h (fun v h' L => ∃ y, v = some (.ref y) ∧ Fr n0 L ∧ Keep h h' [] ∧ StrL Z h' y (bs.drop i)) := by
  refine CtW.mk (L0 := [.val (.ref x), .val (.int (Int32.ofNat i)), .val (.int (Int32.ofNat bs.length)), .unset, .unset]) hEL wS (plainFor_of_name pn_1) (fun m => by first | (simp [entryFrame, mkF, argsToLocals, Value.category]; done) | rfl) ?_
  intro p e s m below meth c s₁ B X0 e0 Wv0
  have l31 := D.l31
  refine Go.aloadN B X0 d21_0 (pc' := 1) rfl rfl rfl ?_
  refine Go.callV B X0 e0 (y := ⟨"java/lang/String", "length", "()I"⟩) (z := ⟨"java/lang/String", "length", "()I"⟩) (Ct.back (W := 0) (ct_lenL l Z a0 hw x bs h n0 hS O D) B.hZ (tw hw 40 rfl) (tw hw 8 rfl) nb nb) D.exa (tw hw 36 rfl) (tw hw 37 rfl) (tw hw 39 rfl) (tw hw 38 rfl) (by decide) (notFace_of_selects (args := #[]) (mvT B.hZ (tw hw 39 rfl))) pd_13 d21_1 (pc' := 4) rfl rfl (rest := []) rfl rfl nb nb nb ?_
  intro va Ta La Xa Qa
  obtain ⟨rfl, Na, ea⟩ := Qa
  dsimp only [Option.toList, List.nil_append, List.cons_append]
  refine Go.istoreN B Xa d21_4 (pc' := 5) rfl rfl rfl ?_
  dsimp only [put1]
  refine Go.iloadN B Xa d21_5 (pc' := 6) rfl rfl ?_
  refine Go.iloadN B Xa d21_6 (pc' := 7) rfl rfl ?_
  refine Go.iloadN B Xa d21_7 (pc' := 8) rfl rfl ?_
  refine Go.callS B Xa ea (y := ⟨"java/lang/String", "checkBoundsBeginEnd", "(III)V"⟩) (Ct.back (W := 0) (ct_cbe l Z a0 hw (Int32.ofNat i) (Int32.ofNat bs.length) (Int32.ofNat bs.length) h n0 hF O (ofNat_nn (by omega)) (fun q => absurd ((lt_ofNat (by omega) (by omega)).mp q) (by omega)) Int32.lt_irrefl) B.hZ (tw hw 80 rfl) (tw hw 8 rfl) nb nb) (tw hw 78 rfl) (tw hw 79 rfl) (tw hw 8 rfl) (tw hw 80 rfl) (by decide) pd_14 d21_8 (pc' := 11) rfl rfl (rest := []) rfl rfl nb nb nb ?_
  intro vb Tb Lb Xb Qb
  obtain ⟨rfl, Nb, eb⟩ := Qb
  dsimp only [Option.toList, List.nil_append, List.cons_append]
  refine Go.iloadN B Xb d21_11 (pc' := 12) rfl rfl ?_
  by_cases hi0 : i = 0
  · subst hi0
    refine Go.ifF B Xb d21_12 (pc' := 15) rfl rfl ?_
    refine Go.iloadN B Xb d21_15 (pc' := 16) rfl rfl ?_
    refine Go.iloadN B Xb d21_16 (pc' := 17) rfl rfl ?_
    refine Go.icF B Xb d21_17 (pc' := 20) rfl rfl ?_
    refine Go.aloadN B Xb d21_20 (pc' := 21) rfl rfl rfl ?_
    exact Go.aretW B Xb eb Wv0 d21_21 rfl rfl rfl nb nb ⟨x, rfl, Fr.app (Fr.app (Fr.nil _) Na) Nb, by rw [eb]; exact Keep.refl h [], by rw [eb]; exact D⟩
  · have hin0 : ¬ Int32.ofNat i = 0 := fun q => absurd ((eq_ofNat (b := 0) (by omega) (by omega)).mp q) hi0
    have D0 := D
    obtain ⟨t, x1, x2, x3, x4⟩ := D
    refine Go.ifT B Xb d21_12 (by decide) (pc' := 22) rfl hin0 ?_
    refine Go.iloadN B Xb d21_22 (pc' := 23) rfl rfl ?_
    refine Go.iloadN B Xb d21_23 (pc' := 24) rfl rfl ?_
    refine Go.isub B Xb d21_24 (pc' := 25) rfl ?_
    rw [sub_ofNat hin]
    refine Go.istore B Xb d21_25 (pc' := 27) rfl rfl rfl ?_
    dsimp only [put1]
    refine Go.aloadN B Xb d21_27 (pc' := 28) rfl rfl rfl ?_
    refine Go.callV B Xb eb (y := ⟨"java/lang/String", "isLatin1", "()Z"⟩) (z := ⟨"java/lang/String", "isLatin1", "()Z"⟩) (Ct.back (W := 0) (ct_isLat l Z a0 hw x 0 h n0 hS O x2) B.hZ (tw hw 56 rfl) (tw hw 8 rfl) nb nb) x1 (tw hw 52 rfl) (tw hw 53 rfl) (tw hw 55 rfl) (tw hw 54 rfl) (by decide) (notFace_of_selects (args := #[]) (mvT B.hZ (tw hw 55 rfl))) pd_8 d21_28 (pc' := 31) rfl rfl (rest := []) rfl rfl nb nb nb ?_
    intro vc Tc Lc Xc Qc
    obtain ⟨rfl, Nc, ec⟩ := Qc
    dsimp only [Option.toList, List.nil_append, List.cons_append]
    rw [if_pos rfl]
    refine Go.ifF B Xc d21_31 (pc' := 34) rfl (by decide) ?_
    refine Go.aloadN B Xc d21_34 (pc' := 35) rfl rfl rfl ?_
    refine Go.getF B Xc ec (tw hw 25 rfl) x3 d21_35 (pc' := 38) rfl ?_
    intro Tt35_1 Xt35_1 et35_1
    refine Go.iloadN B Xt35_1 d21_38 (pc' := 39) rfl rfl ?_
    refine Go.iload B Xt35_1 d21_39 (pc' := 41) rfl rfl ?_
    by_cases hfl : bs.length ≤ i
    · have e0' : bs.length - i = 0 := by omega
      rw [e0', show Int32.ofNat 0 = 0 from rfl]
      refine Go.callSW B Xt35_1 et35_1 Wv0 (y := ⟨"java/lang/StringLatin1", "newString", "([BII)Ljava/lang/String;"⟩) (CtW.back (W := 0) (ct_ns0 l Z a0 hw t (Int32.ofNat i) h n0 hEL wS) B.hZ (tw hw 99 rfl) (tw hw 59 rfl) nb nb Wv0) (tw hw 97 rfl) (tw hw 98 rfl) (tw hw 59 rfl) (tw hw 99 rfl) (by decide) pd_15 d21_41 (pc' := 44) rfl rfl (rest := []) rfl rfl nb nb nb ?_
      intro vf Tf Lf Bf Xf Qf Vf Sf
      obtain ⟨y, rfl, Nf, Ef, Df⟩ := Qf
      dsimp only [Option.toList, List.nil_append, List.cons_append]
      refine Go.goto Bf Xf d21_44 (by decide) (pc' := 57) rfl ?_
      exact Go.aretW Bf Xf rfl Vf d21_57 rfl rfl rfl nb nb ⟨y, rfl, (Fr.app (Fr.app (Fr.app (Fr.app (Fr.nil _) Na) Nb) Nc) Nf), (Keep.refl h []).ext Ef, by rw [show bs.drop i = [] from List.drop_eq_nil_of_le (by omega)]; exact Df⟩
    · refine Go.callS B Xt35_1 et35_1 (y := ⟨"java/lang/StringLatin1", "newString", "([BII)Ljava/lang/String;"⟩) (Ct.back (W := 0) (ct_ns1 l Z a0 hw t i (bs.length - i) bs h n0 O x4 (by omega) (by omega) (by omega) (by omega)) B.hZ (tw hw 99 rfl) (tw hw 59 rfl) nb nb) (tw hw 97 rfl) (tw hw 98 rfl) (tw hw 59 rfl) (tw hw 99 rfl) (by decide) pd_15 d21_41 (pc' := 44) rfl rfl (rest := []) rfl rfl nb nb nb ?_
      intro vf Tf Lf Xf Qf
      obtain ⟨y, rfl, Nf, Kf, Df⟩ := Qf
      dsimp only [Option.toList, List.nil_append, List.cons_append]
      refine Go.goto B Xf d21_44 (by decide) (pc' := 57) rfl ?_
      rw [List.take_of_length_le (by simp)] at Df
      exact Go.aretW B Xf rfl (Wv0.keep Kf all0) d21_57 rfl rfl rfl nb nb ⟨y, rfl, (Fr.app (Fr.app (Fr.app (Fr.app (Fr.nil _) Na) Nb) Nc) Nf), Kf, Df⟩
theorem d22_0 : decode jdk_42_method_91_code 0 = .ok (.aload_n 0, 1) := by decide +kernel
theorem d22_1 : decode jdk_42_method_91_code 1 = .ok (.iload_n 1, 1) := by decide +kernel
theorem d22_2 : decode jdk_42_method_91_code 2 = .ok (.aload_n 0, 1) := by decide +kernel
theorem d22_3 : decode jdk_42_method_91_code 3 = .ok (.invokevirtual 505, 3) := by decide +kernel
theorem d22_6 : decode jdk_42_method_91_code 6 = .ok (.invokevirtual 681, 3) := by decide +kernel
theorem d22_9 : decode jdk_42_method_91_code 9 = .ok (.areturn, 1) := by decide +kernel
theorem pd_16 : parseMethodDescriptor "(II)Ljava/lang/String;" = some ⟨[.int, .int], some (.object "java/lang/String")⟩ := by decide +kernel
def ct_sub1_R : Room := ({ frames := 5, cells := 2, slots := 68, locals := 170 } : Room)
set_option maxRecDepth 65536 in
set_option maxHeartbeats 40000000 in
theorem ct_sub1 (l : Launch) (Z : State) (a0 : Array Value) (hw : ∀ d ∈ tables_1, d.before a0 Z = true) (x : Addr) (i : Nat) (bs : List Int32) (h : Heap) (n0 : Nat) (hEL : EW Z a0 consts_1) (wS : ∀ d ∈ Bundle.stringAtoms, d.before a0 Z = true) (hS : Stz Z) (O : Old Z n0 h) (hF : Sfm Z) (D : StrL Z h x bs) (hin : i ≤ bs.length) (h64 : bs.length ≤ 64) :
    CtW l Z consts_1 ⟨"java/lang/String", "substring", "(I)Ljava/lang/String;"⟩ jdk_42_method_91_code 2 (some (.object "java/lang/String")) [] ct_sub1_R ct_sub1_R.cells ct_sub1_R.slots [(.ref x), (.int (Int32.ofNat i))] h (fun v h' L => ∃ y, v = some (.ref y) ∧ Fr n0 L ∧ Keep h h' [] ∧ StrL Z h' y (bs.drop i)) := by
  refine CtW.mk (L0 := [.val (.ref x), .val (.int (Int32.ofNat i))]) hEL wS (plainFor_of_name pn_1) (fun m => by first | (simp [entryFrame, mkF, argsToLocals, Value.category]; done) | rfl) ?_
  intro p e s m below meth c s₁ B X0 e0 Wv0
  refine Go.aloadN B X0 d22_0 (pc' := 1) rfl rfl rfl ?_
  refine Go.iloadN B X0 d22_1 (pc' := 2) rfl rfl ?_
  refine Go.aloadN B X0 d22_2 (pc' := 3) rfl rfl rfl ?_
  refine Go.callV B X0 e0 (y := ⟨"java/lang/String", "length", "()I"⟩) (z := ⟨"java/lang/String", "length", "()I"⟩) (Ct.back (W := 2) (ct_lenL l Z a0 hw x bs h n0 hS O D) B.hZ (tw hw 40 rfl) (tw hw 8 rfl) nb nb) D.exa (tw hw 36 rfl) (tw hw 37 rfl) (tw hw 39 rfl) (tw hw 38 rfl) (by decide) (notFace_of_selects (args := #[]) (mvT B.hZ (tw hw 39 rfl))) pd_13 d22_3 (pc' := 6) rfl rfl (rest := [_, _]) rfl rfl nb nb nb ?_
  intro va Ta La Xa Qa
  obtain ⟨rfl, Na, ea⟩ := Qa
  dsimp only [Option.toList, List.nil_append, List.cons_append]
  refine Go.callVW B Xa ea Wv0 (y := ⟨"java/lang/String", "substring", "(II)Ljava/lang/String;"⟩) (z := ⟨"java/lang/String", "substring", "(II)Ljava/lang/String;"⟩) (CtW.back (W := 0) (ct_sub2 l Z a0 hw x i bs h n0 hEL wS hS O hF D hin h64) B.hZ (tw hw 77 rfl) (tw hw 8 rfl) nb nb Wv0) D.exa (tw hw 73 rfl) (tw hw 74 rfl) (tw hw 76 rfl) (tw hw 75 rfl) (by decide) (notFace_of_selects (args := #[]) (mvT B.hZ (tw hw 76 rfl))) pd_16 d22_6 (pc' := 9) rfl rfl (rest := []) rfl rfl nb nb nb ?_
  intro vb Tb Lb Bb Xb Qb Vb Sb
  obtain ⟨y, rfl, Nb, Kb, Db⟩ := Qb
  dsimp only [Option.toList, List.nil_append, List.cons_append]
  exact Go.aretW Bb Xb rfl Vb d22_9 rfl rfl rfl nb nb ⟨y, rfl, Fr.app (Fr.app (Fr.nil _) Na) Nb, Kb, Db⟩
theorem d23_0 : decode jdk_43_method_4_code 0 = .ok (.iload_n 0, 1) := by decide +kernel
theorem d23_1 : decode jdk_43_method_4_code 1 = .ok (.ifCond .lt 14, 3) := by decide +kernel
theorem d23_4 : decode jdk_43_method_4_code 4 = .ok (.iload_n 0, 1) := by decide +kernel
theorem d23_5 : decode jdk_43_method_4_code 5 = .ok (.sipush 255, 3) := by decide +kernel
theorem d23_8 : decode jdk_43_method_4_code 8 = .ok (.if_icmp .gt 7, 3) := by decide +kernel
theorem d23_11 : decode jdk_43_method_4_code 11 = .ok (.iconst 1, 1) := by decide +kernel
theorem d23_12 : decode jdk_43_method_4_code 12 = .ok (.goto 4, 3) := by decide +kernel
theorem d23_15 : decode jdk_43_method_4_code 15 = .ok (.iconst 0, 1) := by decide +kernel
theorem d23_16 : decode jdk_43_method_4_code 16 = .ok (.ireturn, 1) := by decide +kernel
def ct_canEncI_R : Room := ({ frames := 0, cells := 0, slots := 0, locals := 0 } : Room)
set_option maxRecDepth 65536 in
set_option maxHeartbeats 40000000 in
theorem ct_canEncI (l : Launch) (Z : State) (a0 : Array Value) (hw : ∀ d ∈ tables_1, d.before a0 Z = true)  (h : Heap) (n0 : Nat)  :
    Ct l Z ⟨"java/lang/StringLatin1", "canEncode", "(I)Z"⟩ jdk_43_method_4_code 1 (some .boolean) [] ct_canEncI_R ct_canEncI_R.cells ct_canEncI_R.slots [(.int (47 : Int32))] h (fun v h' L => v = some (.int 1) ∧ Fr n0 L ∧ h' = h) := by
  refine Ct.mk (L0 := [.val (.int (47 : Int32))]) (plainFor_of_name pn_3) (fun m => by first | (simp [entryFrame, mkF, argsToLocals, Value.category]; done) | rfl) ?_
  intro p e s m below meth c s₁ B X0 e0
  refine Go.iloadN B X0 d23_0 (pc' := 1) rfl rfl ?_
  refine Go.ifF B X0 d23_1 (pc' := 4) rfl (by decide) ?_
  refine Go.iloadN B X0 d23_4 (pc' := 5) rfl rfl ?_
  refine Go.sipush B X0 255 d23_5 (pc' := 8) rfl rfl ?_
  refine Go.icF B X0 d23_8 (pc' := 11) rfl (by decide) ?_
  refine Go.iconst B X0 1 d23_11 (pc' := 12) rfl rfl ?_
  refine Go.goto B X0 d23_12 (by decide) (pc' := 16) rfl ?_
  exact Go.zret B X0 d23_16 rfl nb nb ⟨rfl, Fr.nil _, e0⟩
def lastK : List Int32 → Nat
  | [] => 0
  | c :: cs => if lastK cs = 0 then (if c = 47 then 1 else 0) else lastK cs + 1
theorem lastK_snoc (pre : List Int32) (c : Int32) : lastK (pre ++ [c]) = if c = 47 then pre.length + 1 else lastK pre := by
  induction pre with
  | nil => simp [lastK]
  | cons x t ih =>
    simp only [List.cons_append, lastK, ih, List.length_cons]
    by_cases q : c = 47
    · simp [q]
    · simp [q]
theorem lastK_le (bs : List Int32) : lastK bs ≤ bs.length := by
  induction bs with
  | nil => simp [lastK]
  | cons x t ih =>
    simp only [lastK, List.length_cons]
    split
    · split <;> omega
    · omega
theorem ofNat_pred (j : Nat) : Int32.ofNat (j + 1) - 1 = Int32.ofNat j := by
  have := sub_ofNat (a := j + 1) (b := 1) (by omega)
  rw [Nat.add_sub_cancel] at this
  exact this
theorem add_m1 (x : Int32) : x + (-1) = x - 1 := (Int32.sub_eq_add_neg ..).symm
theorem d24_0 : decode jdk_43_method_27_code 0 = .ok (.iload_n 1, 1) := by decide +kernel
theorem d24_1 : decode jdk_43_method_27_code 1 = .ok (.invokestatic 88, 3) := by decide +kernel
theorem d24_4 : decode jdk_43_method_27_code 4 = .ok (.ifCond .ne 5, 3) := by decide +kernel
theorem d24_7 : decode jdk_43_method_27_code 7 = .ok (.iconst (-1), 1) := by decide +kernel
theorem d24_8 : decode jdk_43_method_27_code 8 = .ok (.ireturn, 1) := by decide +kernel
theorem d24_9 : decode jdk_43_method_27_code 9 = .ok (.iload_n 2, 1) := by decide +kernel
theorem d24_10 : decode jdk_43_method_27_code 10 = .ok (.aload_n 0, 1) := by decide +kernel
theorem d24_11 : decode jdk_43_method_27_code 11 = .ok (.arraylength, 1) := by decide +kernel
theorem d24_12 : decode jdk_43_method_27_code 12 = .ok (.iconst 1, 1) := by decide +kernel
theorem d24_13 : decode jdk_43_method_27_code 13 = .ok (.isub, 1) := by decide +kernel
theorem d24_14 : decode jdk_43_method_27_code 14 = .ok (.invokestatic 38, 3) := by decide +kernel
theorem d24_17 : decode jdk_43_method_27_code 17 = .ok (.istore_n 3, 1) := by decide +kernel
theorem d24_18 : decode jdk_43_method_27_code 18 = .ok (.iload_n 3, 1) := by decide +kernel
theorem d24_19 : decode jdk_43_method_27_code 19 = .ok (.ifCond .lt 19, 3) := by decide +kernel
theorem d24_22 : decode jdk_43_method_27_code 22 = .ok (.aload_n 0, 1) := by decide +kernel
theorem d24_23 : decode jdk_43_method_27_code 23 = .ok (.iload_n 3, 1) := by decide +kernel
theorem d24_24 : decode jdk_43_method_27_code 24 = .ok (.baload, 1) := by decide +kernel
theorem d24_25 : decode jdk_43_method_27_code 25 = .ok (.iload_n 1, 1) := by decide +kernel
theorem d24_26 : decode jdk_43_method_27_code 26 = .ok (.i2b, 1) := by decide +kernel
theorem d24_27 : decode jdk_43_method_27_code 27 = .ok (.if_icmp .ne 5, 3) := by decide +kernel
theorem d24_30 : decode jdk_43_method_27_code 30 = .ok (.iload_n 3, 1) := by decide +kernel
theorem d24_31 : decode jdk_43_method_27_code 31 = .ok (.ireturn, 1) := by decide +kernel
theorem d24_32 : decode jdk_43_method_27_code 32 = .ok (.iinc 3 (-1), 3) := by decide +kernel
theorem d24_35 : decode jdk_43_method_27_code 35 = .ok (.goto (-17), 3) := by decide +kernel
theorem d24_38 : decode jdk_43_method_27_code 38 = .ok (.iconst (-1), 1) := by decide +kernel
theorem d24_39 : decode jdk_43_method_27_code 39 = .ok (.ireturn, 1) := by decide +kernel
theorem pd_17 : parseMethodDescriptor "(I)Z" = some ⟨[.int], some .boolean⟩ := by decide +kernel
set_option maxRecDepth 65536 in
set_option maxHeartbeats 4000000 in
theorem own_lix {p : Program} {l : Launch} {e : Env} {R : Room} {s : State} {m : MethodId} {args : Array Value} {below : List Frame} {meth : Method} {c : Code} {Z : State} {a0 : Array Value} {nm : String} {n0 : Nat} {h : Heap} {bs : List Int32} {b : Addr} {off : Int32} (hw : ∀ d ∈ tables_1, d.before a0 Z = true) (B : Ctx p Z s m meth c "java/lang/StringLatin1" nm jdk_43_method_27_code 4 (some .int)) (A0 : Av Z h b .byte (bs.map Value.int)) (l31 : bs.length < 2 ^ 31) :
    ∀ (k : Nat), k ≤ bs.length → ∀ {T : State} {locs : List Loc} (X : Stand p l e R s m args below meth c T locs 0 0) (eT : T.heap = h), Fr n0 locs → lastK bs = lastK (bs.take k) →
      Go p e below (End s 0 0 (fun v h' L => v = some (.int (Int32.ofNat (lastK bs) - 1)) ∧ Fr n0 L ∧ h' = h)) (T.setTop (fr m 18 [.val (.ref b), .val (.int 47), .val (.int off), .val (.int (Int32.ofNat k - 1))] [])) := by
  intro k
  induction k with
  | zero =>
    intro hk T locs X eT N hinv
    refine Go.iloadN B X d24_18 (pc' := 19) rfl rfl ?_
    refine Go.ifT B X d24_19 (by decide) (pc' := 38) rfl (by decide) ?_
    refine Go.iconst B X (-1) d24_38 (pc' := 39) rfl rfl ?_
    exact Go.iret B X d24_39 nb nb ⟨by rw [hinv]; rfl, N, eT⟩
  | succ j ih =>
    intro hk T locs X eT N hinv
    rw [ofNat_pred]
    obtain ⟨u1, hu1⟩ : ∃ u, bs[j]? = some u := ⟨bs[j]'(by omega), by simp⟩
    rw [take_step hu1, lastK_snoc] at hinv
    have e1 : (bs.take j).length = j := by simp; omega
    rw [e1] at hinv
    refine Go.iloadN B X d24_18 (pc' := 19) rfl rfl ?_
    refine Go.ifF B X d24_19 (pc' := 22) rfl (ofNat_nn (by omega)) ?_
    refine Go.aloadN B X d24_22 (pc' := 23) rfl rfl rfl ?_
    refine Go.iloadN B X d24_23 (pc' := 24) rfl rfl ?_
    refine Go.baload B X eT A0 j d24_24 (pc' := 25) rfl rfl (v := .int u1) (by rw [List.getElem?_map, hu1]; rfl) ?_
    refine Go.iloadN B X d24_25 (pc' := 26) rfl rfl ?_
    refine Go.i2b B X d24_26 (pc' := 27) rfl ?_
    rw [show (47 : Int32).toInt8.toInt32 = 47 from by decide]
    refine Go.ic B X d24_27 (by decide) (pcT := 32) rfl (pc' := 30) rfl (fun hc2 => ?_) (fun hc2 => ?_)
    · dsimp only [GoKit.CP] at hc2
      rw [if_neg hc2] at hinv
      refine Go.iinc B X (-1) d24_32 (pc' := 35) rfl rfl rfl ?_
      dsimp only [put1]
      refine Go.goto B X d24_35 (by decide) (pc' := 18) rfl ?_
      rw [add_m1]
      exact ih (by omega) X eT N hinv
    · dsimp only [GoKit.CN] at hc2
      rw [if_pos hc2] at hinv
      refine Go.iloadN B X d24_30 (pc' := 31) rfl rfl ?_
      exact Go.iret B X d24_31 nb nb ⟨by rw [hinv, ofNat_pred], N, eT⟩

def ct_lix_R : Room := ({ frames := 1, cells := 0, slots := 0, locals := 20 } : Room)
set_option maxRecDepth 65536 in
set_option maxHeartbeats 40000000 in
theorem ct_lix (l : Launch) (Z : State) (a0 : Array Value) (hw : ∀ d ∈ tables_1, d.before a0 Z = true) (b : Addr) (bs : List Int32) (h : Heap) (n0 : Nat) (A0 : Av Z h b .byte (bs.map Value.int)) :
    Ct l Z ⟨"java/lang/StringLatin1", "lastIndexOf", "([BII)I"⟩ jdk_43_method_27_code 4 (some .int) [] ct_lix_R ct_lix_R.cells ct_lix_R.slots [(.ref b), (.int (47 : Int32)), (.int (Int32.ofNat bs.length - 1))] h (fun v h' L => v = some (.int (Int32.ofNat (lastK bs) - 1)) ∧ Fr n0 L ∧ h' = h) := by
  refine Ct.mk (L0 := [.val (.ref b), .val (.int (47 : Int32)), .val (.int (Int32.ofNat bs.length - 1)), .unset]) (plainFor_of_name pn_3) (fun m => by first | (simp [entryFrame, mkF, argsToLocals, Value.category]; done) | rfl) ?_
  intro p e s m below meth c s₁ B X0 e0
  have l31 := StrD.len31 A0
  refine Go.iloadN B X0 d24_0 (pc' := 1) rfl rfl ?_
  refine Go.callS B X0 e0 (y := ⟨"java/lang/StringLatin1", "canEncode", "(I)Z"⟩) (Ct.back (W := 0) (ct_canEncI l Z a0 hw h n0) B.hZ (tw hw 63 rfl) (tw hw 59 rfl) nb nb) (tw hw 61 rfl) (tw hw 62 rfl) (tw hw 59 rfl) (tw hw 63 rfl) (by decide) pd_17 d24_1 (pc' := 4) rfl rfl (rest := []) rfl rfl nb nb nb ?_
  intro va Ta La Xa Qa
  obtain ⟨rfl, Na, ea⟩ := Qa
  dsimp only [Option.toList, List.nil_append, List.cons_append]
  refine Go.ifT B Xa d24_4 (by decide) (pc' := 9) rfl (by decide) ?_
  refine Go.iloadN B Xa d24_9 (pc' := 10) rfl rfl ?_
  refine Go.aloadN B Xa d24_10 (pc' := 11) rfl rfl rfl ?_
  refine Go.arraylength B Xa ea A0 d24_11 (pc' := 12) rfl ?_
  refine Go.iconst B Xa 1 d24_12 (pc' := 13) rfl rfl ?_
  refine Go.isub B Xa d24_13 (pc' := 14) rfl ?_
  rw [List.length_map]
  refine Go.callS B Xa ea (y := ⟨"java/lang/Math", "min", "(II)I"⟩) (Ct.back (W := 0) (ct_min l Z a0 hw (Int32.ofNat bs.length - 1) (Int32.ofNat bs.length - 1) h n0) B.hZ (tw hw 67 rfl) (tw hw 66 rfl) nb nb) (tw hw 64 rfl) (tw hw 65 rfl) (tw hw 66 rfl) (tw hw 67 rfl) (by decide) pd_10 d24_14 (pc' := 17) rfl rfl (rest := []) rfl rfl nb nb nb ?_
  intro vd Td Ld Xd Qd
  obtain ⟨rfl, Nd, ed⟩ := Qd
  dsimp only [Option.toList, List.nil_append, List.cons_append]
  rw [if_neg Int32.lt_irrefl]
  refine Go.istoreN B Xd d24_17 (pc' := 18) rfl rfl rfl ?_
  dsimp only [put1]
  exact own_lix hw B A0 l31 bs.length (Nat.le_refl _) Xd ed (Fr.app (Fr.app (Fr.nil _) Na) Nd) (by rw [List.take_length])
theorem d25_0 : decode jdk_42_method_83_code 0 = .ok (.aload_n 0, 1) := by decide +kernel
theorem d25_1 : decode jdk_42_method_83_code 1 = .ok (.invokevirtual 492, 3) := by decide +kernel
theorem d25_4 : decode jdk_42_method_83_code 4 = .ok (.ifCond .eq 15, 3) := by decide +kernel
theorem d25_7 : decode jdk_42_method_83_code 7 = .ok (.aload_n 0, 1) := by decide +kernel
theorem d25_8 : decode jdk_42_method_83_code 8 = .ok (.getfield 9, 3) := by decide +kernel
theorem d25_11 : decode jdk_42_method_83_code 11 = .ok (.iload_n 1, 1) := by decide +kernel
theorem d25_12 : decode jdk_42_method_83_code 12 = .ok (.iload_n 2, 1) := by decide +kernel
theorem d25_13 : decode jdk_42_method_83_code 13 = .ok (.invokestatic 644, 3) := by decide +kernel
theorem d25_16 : decode jdk_42_method_83_code 16 = .ok (.goto 12, 3) := by decide +kernel
theorem d25_19 : decode jdk_42_method_83_code 19 = .ok (.aload_n 0, 1) := by decide +kernel
theorem d25_20 : decode jdk_42_method_83_code 20 = .ok (.getfield 9, 3) := by decide +kernel
theorem d25_23 : decode jdk_42_method_83_code 23 = .ok (.iload_n 1, 1) := by decide +kernel
theorem d25_24 : decode jdk_42_method_83_code 24 = .ok (.iload_n 2, 1) := by decide +kernel
theorem d25_25 : decode jdk_42_method_83_code 25 = .ok (.invokestatic 646, 3) := by decide +kernel
theorem d25_28 : decode jdk_42_method_83_code 28 = .ok (.ireturn, 1) := by decide +kernel
theorem pd_18 : parseMethodDescriptor "([BII)I" = some ⟨[(.array .byte), .int, .int], some .int⟩ := by decide +kernel
def ct_li2_R : Room := ({ frames := 2, cells := 0, slots := 0, locals := 50 } : Room)
set_option maxRecDepth 65536 in
set_option maxHeartbeats 40000000 in
theorem ct_li2 (l : Launch) (Z : State) (a0 : Array Value) (hw : ∀ d ∈ tables_1, d.before a0 Z = true) (x : Addr) (bs : List Int32) (h : Heap) (n0 : Nat) (hS : Stz Z) (O : Old Z n0 h) (D : StrL Z h x bs) :
    Ct l Z ⟨"java/lang/String", "lastIndexOf", "(II)I"⟩ jdk_42_method_83_code 3 (some .int) [] ct_li2_R ct_li2_R.cells ct_li2_R.slots [(.ref x), (.int (47 : Int32)), (.int (Int32.ofNat bs.length - 1))] h (fun v h' L => v = some (.int (Int32.ofNat (lastK bs) - 1)) ∧ Fr n0 L ∧ h' = h) := by
  refine Ct.mk (L0 := [.val (.ref x), .val (.int (47 : Int32)), .val (.int (Int32.ofNat bs.length - 1))]) (plainFor_of_name pn_1) (fun m => by first | (simp [entryFrame, mkF, argsToLocals, Value.category]; done) | rfl) ?_
  intro p e s m below meth c s₁ B X0 e0
  obtain ⟨t, x1, x2, x3, x4⟩ := D
  refine Go.aloadN B X0 d25_0 (pc' := 1) rfl rfl rfl ?_
  refine Go.callV B X0 e0 (y := ⟨"java/lang/String", "isLatin1", "()Z"⟩) (z := ⟨"java/lang/String", "isLatin1", "()Z"⟩) (Ct.back (W := 0) (ct_isLat l Z a0 hw x 0 h n0 hS O x2) B.hZ (tw hw 56 rfl) (tw hw 8 rfl) nb nb) x1 (tw hw 52 rfl) (tw hw 53 rfl) (tw hw 55 rfl) (tw hw 54 rfl) (by decide) (notFace_of_selects (args := #[]) (mvT B.hZ (tw hw 55 rfl))) pd_8 d25_1 (pc' := 4) rfl rfl (rest := []) rfl rfl nb nb nb ?_
  intro va Ta La Xa Qa
  obtain ⟨rfl, Na, ea⟩ := Qa
  dsimp only [Option.toList, List.nil_append, List.cons_append]
  rw [if_pos rfl]
  refine Go.ifF B Xa d25_4 (pc' := 7) rfl (by decide) ?_
  refine Go.aloadN B Xa d25_7 (pc' := 8) rfl rfl rfl ?_
  refine Go.getF B Xa ea (tw hw 25 rfl) x3 d25_8 (pc' := 11) rfl ?_
  intro Tt8_1 Xt8_1 et8_1
  refine Go.iloadN B Xt8_1 d25_11 (pc' := 12) rfl rfl ?_
  refine Go.iloadN B Xt8_1 d25_12 (pc' := 13) rfl rfl ?_
  refine Go.callS B Xt8_1 et8_1 (y := ⟨"java/lang/StringLatin1", "lastIndexOf", "([BII)I"⟩) (Ct.back (W := 0) (ct_lix l Z a0 hw t bs h n0 x4) B.hZ (tw hw 60 rfl) (tw hw 59 rfl) nb nb) (tw hw 57 rfl) (tw hw 58 rfl) (tw hw 59 rfl) (tw hw 60 rfl) (by decide) pd_18 d25_13 (pc' := 16) rfl rfl (rest := []) rfl rfl nb nb nb ?_
  intro vb Tb Lb Xb Qb
  obtain ⟨rfl, Nb, eb⟩ := Qb
  dsimp only [Option.toList, List.nil_append, List.cons_append]
  refine Go.goto B Xb d25_16 (by decide) (pc' := 28) rfl ?_
  exact Go.iret B Xb d25_28 nb nb ⟨rfl, Fr.app (Fr.app (Fr.nil _) Na) Nb, eb⟩
theorem d26_0 : decode jdk_42_method_82_code 0 = .ok (.aload_n 0, 1) := by decide +kernel
theorem d26_1 : decode jdk_42_method_82_code 1 = .ok (.iload_n 1, 1) := by decide +kernel
theorem d26_2 : decode jdk_42_method_82_code 2 = .ok (.aload_n 0, 1) := by decide +kernel
theorem d26_3 : decode jdk_42_method_82_code 3 = .ok (.invokevirtual 505, 3) := by decide +kernel
theorem d26_6 : decode jdk_42_method_82_code 6 = .ok (.iconst 1, 1) := by decide +kernel
theorem d26_7 : decode jdk_42_method_82_code 7 = .ok (.isub, 1) := by decide +kernel
theorem d26_8 : decode jdk_42_method_82_code 8 = .ok (.invokevirtual 641, 3) := by decide +kernel
theorem d26_11 : decode jdk_42_method_82_code 11 = .ok (.ireturn, 1) := by decide +kernel
def ct_li1_R : Room := ({ frames := 3, cells := 0, slots := 0, locals := 80 } : Room)
set_option maxRecDepth 65536 in
set_option maxHeartbeats 40000000 in
theorem ct_li1 (l : Launch) (Z : State) (a0 : Array Value) (hw : ∀ d ∈ tables_1, d.before a0 Z = true) (x : Addr) (bs : List Int32) (h : Heap) (n0 : Nat) (hS : Stz Z) (O : Old Z n0 h) (D : StrL Z h x bs) :
    Ct l Z ⟨"java/lang/String", "lastIndexOf", "(I)I"⟩ jdk_42_method_82_code 2 (some .int) [] ct_li1_R ct_li1_R.cells ct_li1_R.slots [(.ref x), (.int (47 : Int32))] h (fun v h' L => v = some (.int (Int32.ofNat (lastK bs) - 1)) ∧ Fr n0 L ∧ h' = h) := by
  refine Ct.mk (L0 := [.val (.ref x), .val (.int (47 : Int32))]) (plainFor_of_name pn_1) (fun m => by first | (simp [entryFrame, mkF, argsToLocals, Value.category]; done) | rfl) ?_
  intro p e s m below meth c s₁ B X0 e0
  refine Go.aloadN B X0 d26_0 (pc' := 1) rfl rfl rfl ?_
  refine Go.iloadN B X0 d26_1 (pc' := 2) rfl rfl ?_
  refine Go.aloadN B X0 d26_2 (pc' := 3) rfl rfl rfl ?_
  refine Go.callV B X0 e0 (y := ⟨"java/lang/String", "length", "()I"⟩) (z := ⟨"java/lang/String", "length", "()I"⟩) (Ct.back (W := 2) (ct_lenL l Z a0 hw x bs h n0 hS O D) B.hZ (tw hw 40 rfl) (tw hw 8 rfl) nb nb) D.exa (tw hw 36 rfl) (tw hw 37 rfl) (tw hw 39 rfl) (tw hw 38 rfl) (by decide) (notFace_of_selects (args := #[]) (mvT B.hZ (tw hw 39 rfl))) pd_13 d26_3 (pc' := 6) rfl rfl (rest := [_, _]) rfl rfl nb nb nb ?_
  intro va Ta La Xa Qa
  obtain ⟨rfl, Na, ea⟩ := Qa
  dsimp only [Option.toList, List.nil_append, List.cons_append]
  refine Go.iconst B Xa 1 d26_6 (pc' := 7) rfl rfl ?_
  refine Go.isub B Xa d26_7 (pc' := 8) rfl ?_
  refine Go.callV B Xa ea (y := ⟨"java/lang/String", "lastIndexOf", "(II)I"⟩) (z := ⟨"java/lang/String", "lastIndexOf", "(II)I"⟩) (Ct.back (W := 0) (ct_li2 l Z a0 hw x bs h n0 hS O D) B.hZ (tw hw 51 rfl) (tw hw 8 rfl) nb nb) D.exa (tw hw 47 rfl) (tw hw 48 rfl) (tw hw 50 rfl) (tw hw 49 rfl) (by decide) (notFace_of_selects (args := #[]) (mvT B.hZ (tw hw 50 rfl))) pd_10 d26_8 (pc' := 11) rfl rfl (rest := []) rfl rfl nb nb nb ?_
  intro vb Tb Lb Xb Qb
  obtain ⟨rfl, Nb, eb⟩ := Qb
  dsimp only [Option.toList, List.nil_append, List.cons_append]
  exact Go.iret B Xb d26_11 nb nb ⟨rfl, Fr.app (Fr.app (Fr.nil _) Na) Nb, eb⟩
theorem d27_0 : decode prog_3_method_14_code 0 = .ok (.aload_n 0, 1) := by decide +kernel
theorem d27_1 : decode prog_3_method_14_code 1 = .ok (.aload_n 0, 1) := by decide +kernel
theorem d27_2 : decode prog_3_method_14_code 2 = .ok (.bipush 47, 2) := by decide +kernel
theorem d27_4 : decode prog_3_method_14_code 4 = .ok (.invokevirtual 71, 3) := by decide +kernel
theorem d27_7 : decode prog_3_method_14_code 7 = .ok (.iconst 1, 1) := by decide +kernel
theorem d27_8 : decode prog_3_method_14_code 8 = .ok (.iadd, 1) := by decide +kernel
theorem d27_9 : decode prog_3_method_14_code 9 = .ok (.invokevirtual 75, 3) := by decide +kernel
theorem d27_12 : decode prog_3_method_14_code 12 = .ok (.areturn, 1) := by decide +kernel
theorem pd_19 : parseMethodDescriptor "(I)I" = some ⟨[.int], some .int⟩ := by decide +kernel
theorem pd_20 : parseMethodDescriptor "(I)Ljava/lang/String;" = some ⟨[.int], some (.object "java/lang/String")⟩ := by decide +kernel
theorem pn_5 : plainName "com/example/uplink_augur/uplinkaugur/commondata/InvalidParamException" = true := by first | (simp [plainName, overriddenIn]; done) | decide +kernel
def ct_name_R : Room := ({ frames := 6, cells := 2, slots := 68, locals := 190 } : Room)
set_option maxRecDepth 65536 in
set_option maxHeartbeats 40000000 in
theorem ct_name (l : Launch) (Z : State) (a0 : Array Value) (hw : ∀ d ∈ tables_1, d.before a0 Z = true) (x : Addr) (bs : List Int32) (h : Heap) (n0 : Nat) (hEL : EW Z a0 consts_1) (wS : ∀ d ∈ Bundle.stringAtoms, d.before a0 Z = true) (hS : Stz Z) (O : Old Z n0 h) (D : StrL Z h x bs) (hF : Sfm Z) (h64 : bs.length ≤ 64) :
    CtW l Z consts_1 ⟨"com/example/uplink_augur/uplinkaugur/commondata/InvalidParamException", "name", "(Ljava/lang/String;)Ljava/lang/String;"⟩ prog_3_method_14_code 1 (some (.object "java/lang/String")) [] ct_name_R ct_name_R.cells ct_name_R.slots [(.ref x)] h (fun v h' L => ∃ y, v = some (.ref y) ∧ Fr n0 L ∧ Keep h h' [] ∧ StrL Z h' y (bs.drop (lastK bs))) := by
  refine CtW.mk (L0 := [.val (.ref x)]) hEL wS (plainFor_of_name pn_5) (fun m => by first | (simp [entryFrame, mkF, argsToLocals, Value.category]; done) | rfl) ?_
  intro p e s m below meth c s₁ B X0 e0 Wv0
  refine Go.aloadN B X0 d27_0 (pc' := 1) rfl rfl rfl ?_
  refine Go.aloadN B X0 d27_1 (pc' := 2) rfl rfl rfl ?_
  refine Go.bipush B X0 47 d27_2 (pc' := 4) rfl rfl ?_
  refine Go.callV B X0 e0 (y := ⟨"java/lang/String", "lastIndexOf", "(I)I"⟩) (z := ⟨"java/lang/String", "lastIndexOf", "(I)I"⟩) (Ct.back (W := 1) (ct_li1 l Z a0 hw x bs h n0 hS O D) B.hZ (tw hw 35 rfl) (tw hw 8 rfl) nb nb) D.exa (tw hw 31 rfl) (tw hw 32 rfl) (tw hw 34 rfl) (tw hw 33 rfl) (by decide) (notFace_of_selects (args := #[]) (mvT B.hZ (tw hw 34 rfl))) pd_19 d27_4 (pc' := 7) rfl rfl (rest := [_]) rfl rfl nb nb nb ?_
  intro va Ta La Xa Qa
  obtain ⟨rfl, Na, ea⟩ := Qa
  dsimp only [Option.toList, List.nil_append, List.cons_append]
  refine Go.iconst B Xa 1 d27_7 (pc' := 8) rfl rfl ?_
  refine Go.iadd B Xa d27_8 (pc' := 9) rfl ?_
  rw [Int32.sub_add_cancel]
  refine Go.callVW B Xa ea Wv0 (y := ⟨"java/lang/String", "substring", "(I)Ljava/lang/String;"⟩) (z := ⟨"java/lang/String", "substring", "(I)Ljava/lang/String;"⟩) (CtW.back (W := 0) (ct_sub1 l Z a0 hw x (lastK bs) bs h n0 hEL wS hS O hF D (lastK_le bs) h64) B.hZ (tw hw 72 rfl) (tw hw 8 rfl) nb nb Wv0) D.exa (tw hw 68 rfl) (tw hw 69 rfl) (tw hw 71 rfl) (tw hw 70 rfl) (by decide) (notFace_of_selects (args := #[]) (mvT B.hZ (tw hw 71 rfl))) pd_20 d27_9 (pc' := 12) rfl rfl (rest := []) rfl rfl nb nb nb ?_
  intro vb Tb Lb Bb Xb Qb Vb Sb
  obtain ⟨y, rfl, Nb, Kb, Db⟩ := Qb
  dsimp only [Option.toList, List.nil_append, List.cons_append]
  exact Go.aretW Bb Xb rfl Vb d27_12 rfl rfl rfl nb nb ⟨y, rfl, Fr.app (Fr.app (Fr.nil _) Na) Nb, Kb, Db⟩
def drawS (p : Int32) : Int32 := if p &&& 1 = 0 then ((p.toUInt32 >>> ((1 : Int32) &&& 31).toUInt32).toInt32 &&& 255).toUInt32.toUInt16.toUInt32.toInt32 else 47
theorem draw_rng (p : Int32) : (¬ drawS p < 0 ∧ ¬ 65535 < drawS p) ∧ ¬ 255 < drawS p := by
  unfold drawS
  split
  · generalize (p.toUInt32 >>> ((1 : Int32) &&& 31).toUInt32).toInt32 = z
    have q := c_i2c (z &&& 255)
    have r := c_and z 255 (by decide)
    have e0 : (0 : Int32).toInt = 0 := by decide
    have e1 : (65535 : Int32).toInt = 65535 := by decide
    have e2 : (255 : Int32).toInt = 255 := by decide
    rw [Int32.lt_iff_toInt_lt, Int32.lt_iff_toInt_lt, Int32.lt_iff_toInt_lt]
    omega
  · decide
def atS (i c0 c1 c2 c3 : Int32) : Int32 := if i = 0 then c0 else if i = 1 then c1 else if i = 2 then c2 else c3
abbrev Rg (c : Int32) : Prop := (¬ c < 0 ∧ ¬ 65535 < c) ∧ ¬ 255 < c
theorem lo8_47 {c : Int32} (h : Rg c) (q : ¬ c = 47) : ¬ lo8 c = 47 := by
  intro e
  have t := StrChars.chr8_lo8 h.1.1 h.2
  rw [e] at t
  exact q (by rw [← t]; decide)
theorem lo8_eq {c : Int32} (q : c = 47) : lo8 c = 47 := by rw [q]; decide
theorem d28_0 : decode method_3_code 0 = .ok (.iload_n 0, 1) := by decide +kernel
theorem d28_1 : decode method_3_code 1 = .ok (.iconst 1, 1) := by decide +kernel
theorem d28_2 : decode method_3_code 2 = .ok (.iand, 1) := by decide +kernel
theorem d28_3 : decode method_3_code 3 = .ok (.ifCond .eq 6, 3) := by decide +kernel
theorem d28_6 : decode method_3_code 6 = .ok (.bipush 47, 2) := by decide +kernel
theorem d28_8 : decode method_3_code 8 = .ok (.ireturn, 1) := by decide +kernel
theorem d28_9 : decode method_3_code 9 = .ok (.iload_n 0, 1) := by decide +kernel
theorem d28_10 : decode method_3_code 10 = .ok (.iconst 1, 1) := by decide +kernel
theorem d28_11 : decode method_3_code 11 = .ok (.iushr, 1) := by decide +kernel
theorem d28_12 : decode method_3_code 12 = .ok (.sipush 255, 3) := by decide +kernel
theorem d28_15 : decode method_3_code 15 = .ok (.iand, 1) := by decide +kernel
theorem d28_16 : decode method_3_code 16 = .ok (.i2c, 1) := by decide +kernel
theorem d28_17 : decode method_3_code 17 = .ok (.ireturn, 1) := by decide +kernel
theorem pn_6 : plainName "com/example/uplink_augur/uplinkaugur/commondata/InvalidParamExceptionNamePinLaw" = true := by first | (simp [plainName, overriddenIn]; done) | decide +kernel
def ct_draw_R : Room := ({ frames := 0, cells := 0, slots := 0, locals := 0 } : Room)
set_option maxRecDepth 65536 in
set_option maxHeartbeats 40000000 in
theorem ct_draw (l : Launch) (Z : State) (a0 : Array Value) (hw : ∀ d ∈ tables_1, d.before a0 Z = true) (q0 : Int32) (h : Heap) (n0 : Nat)  :
    Ct l Z ⟨"com/example/uplink_augur/uplinkaugur/commondata/InvalidParamExceptionNamePinLaw", "draw", "(I)C"⟩ method_3_code 1 (some .char) [] ct_draw_R ct_draw_R.cells ct_draw_R.slots [(.int q0)] h (fun v h' L => v = some (.int (drawS q0)) ∧ Fr n0 L ∧ h' = h) := by
  refine Ct.mk (L0 := [.val (.int q0)]) (plainFor_of_name pn_6) (fun m => by first | (simp [entryFrame, mkF, argsToLocals, Value.category]; done) | rfl) ?_
  intro p e s m below meth c s₁ B X0 e0
  refine Go.iloadN B X0 d28_0 (pc' := 1) rfl rfl ?_
  refine Go.iconst B X0 1 d28_1 (pc' := 2) rfl rfl ?_
  refine Go.iand B X0 d28_2 (pc' := 3) rfl ?_
  refine Go.ifc B X0 d28_3 (by decide) (pcT := 9) rfl (pc' := 6) rfl (fun hc => ?_) (fun hc => ?_)
  · dsimp only [GoKit.CP] at hc
    refine Go.iloadN B X0 d28_9 (pc' := 10) rfl rfl ?_
    refine Go.iconst B X0 1 d28_10 (pc' := 11) rfl rfl ?_
    refine Go.iushr B X0 d28_11 (pc' := 12) rfl ?_
    refine Go.sipush B X0 255 d28_12 (pc' := 15) rfl rfl ?_
    refine Go.iand B X0 d28_15 (pc' := 16) rfl ?_
    refine Go.i2c B X0 d28_16 (pc' := 17) rfl ?_
    exact Go.cret B X0 d28_17 (by rw [← (show drawS q0 = _ from if_pos hc)]; exact StrChars.narrow_ch (draw_rng q0).1.1 (draw_rng q0).1.2) nb nb ⟨by rw [show drawS q0 = _ from if_pos hc], Fr.nil _, e0⟩
  · dsimp only [GoKit.CN] at hc
    refine Go.bipush B X0 47 d28_6 (pc' := 8) rfl rfl ?_
    exact Go.cret B X0 d28_8 rfl nb nb ⟨by rw [show drawS q0 = _ from if_neg hc], Fr.nil _, e0⟩
theorem d29_0 : decode method_4_code 0 = .ok (.iload_n 0, 1) := by decide +kernel
theorem d29_1 : decode method_4_code 1 = .ok (.ifCond .ne 5, 3) := by decide +kernel
theorem d29_4 : decode method_4_code 4 = .ok (.iload_n 1, 1) := by decide +kernel
theorem d29_5 : decode method_4_code 5 = .ok (.ireturn, 1) := by decide +kernel
theorem d29_6 : decode method_4_code 6 = .ok (.iload_n 0, 1) := by decide +kernel
theorem d29_7 : decode method_4_code 7 = .ok (.iconst 1, 1) := by decide +kernel
theorem d29_8 : decode method_4_code 8 = .ok (.if_icmp .ne 5, 3) := by decide +kernel
theorem d29_11 : decode method_4_code 11 = .ok (.iload_n 2, 1) := by decide +kernel
theorem d29_12 : decode method_4_code 12 = .ok (.ireturn, 1) := by decide +kernel
theorem d29_13 : decode method_4_code 13 = .ok (.iload_n 0, 1) := by decide +kernel
theorem d29_14 : decode method_4_code 14 = .ok (.iconst 2, 1) := by decide +kernel
theorem d29_15 : decode method_4_code 15 = .ok (.if_icmp .ne 5, 3) := by decide +kernel
theorem d29_18 : decode method_4_code 18 = .ok (.iload_n 3, 1) := by decide +kernel
theorem d29_19 : decode method_4_code 19 = .ok (.ireturn, 1) := by decide +kernel
theorem d29_20 : decode method_4_code 20 = .ok (.iload 4, 2) := by decide +kernel
theorem d29_22 : decode method_4_code 22 = .ok (.ireturn, 1) := by decide +kernel
def ct_at_R : Room := ({ frames := 0, cells := 0, slots := 0, locals := 0 } : Room)
set_option maxRecDepth 65536 in
set_option maxHeartbeats 40000000 in
theorem ct_at (l : Launch) (Z : State) (a0 : Array Value) (hw : ∀ d ∈ tables_1, d.before a0 Z = true) (i c0 c1 c2 c3 : Int32) (h : Heap) (n0 : Nat) (r0 : Rg c0) (r1 : Rg c1) (r2 : Rg c2) (r3 : Rg c3) :
    Ct l Z ⟨"com/example/uplink_augur/uplinkaugur/commondata/InvalidParamExceptionNamePinLaw", "at", "(ICCCC)C"⟩ method_4_code 5 (some .char) [] ct_at_R ct_at_R.cells ct_at_R.slots [(.int i), (.int c0), (.int c1), (.int c2), (.int c3)] h (fun v h' L => v = some (.int (atS i c0 c1 c2 c3)) ∧ Fr n0 L ∧ h' = h) := by
  refine Ct.mk (L0 := [.val (.int i), .val (.int c0), .val (.int c1), .val (.int c2), .val (.int c3)]) (plainFor_of_name pn_6) (fun m => by first | (simp [entryFrame, mkF, argsToLocals, Value.category]; done) | rfl) ?_
  intro p e s m below meth c s₁ B X0 e0
  refine Go.iloadN B X0 d29_0 (pc' := 1) rfl rfl ?_
  refine Go.ifc B X0 d29_1 (by decide) (pcT := 6) rfl (pc' := 4) rfl (fun q0 => ?_) (fun q0 => ?_)
  · dsimp only [GoKit.CP] at q0
    refine Go.iloadN B X0 d29_6 (pc' := 7) rfl rfl ?_
    refine Go.iconst B X0 1 d29_7 (pc' := 8) rfl rfl ?_
    refine Go.ic B X0 d29_8 (by decide) (pcT := 13) rfl (pc' := 11) rfl (fun q1 => ?_) (fun q1 => ?_)
    · dsimp only [GoKit.CP] at q1
      refine Go.iloadN B X0 d29_13 (pc' := 14) rfl rfl ?_
      refine Go.iconst B X0 2 d29_14 (pc' := 15) rfl rfl ?_
      refine Go.ic B X0 d29_15 (by decide) (pcT := 20) rfl (pc' := 18) rfl (fun q2 => ?_) (fun q2 => ?_)
      · dsimp only [GoKit.CP] at q2
        refine Go.iload B X0 d29_20 (pc' := 22) rfl rfl ?_
        exact Go.cret B X0 d29_22 (StrChars.narrow_ch r3.1.1 r3.1.2) nb nb ⟨by unfold atS; rw [if_neg q0, if_neg q1, if_neg q2], Fr.nil _, e0⟩
      · dsimp only [GoKit.CN] at q2
        refine Go.iloadN B X0 d29_18 (pc' := 19) rfl rfl ?_
        exact Go.cret B X0 d29_19 (StrChars.narrow_ch r2.1.1 r2.1.2) nb nb ⟨by unfold atS; rw [if_neg q0, if_neg q1, if_pos q2], Fr.nil _, e0⟩
    · dsimp only [GoKit.CN] at q1
      refine Go.iloadN B X0 d29_11 (pc' := 12) rfl rfl ?_
      exact Go.cret B X0 d29_12 (StrChars.narrow_ch r1.1.1 r1.1.2) nb nb ⟨by unfold atS; rw [if_neg q0, if_pos q1], Fr.nil _, e0⟩
  · dsimp only [GoKit.CN] at q0
    refine Go.iloadN B X0 d29_4 (pc' := 5) rfl rfl ?_
    exact Go.cret B X0 d29_5 (StrChars.narrow_ch r0.1.1 r0.1.2) nb nb ⟨by unfold atS; rw [if_pos q0], Fr.nil _, e0⟩

set_option maxRecDepth 65536 in
set_option maxHeartbeats 40000000 in
theorem tail0 {p : Program} {l : Launch} {e : Env} {s : State} {m : MethodId} {args : Array Value} {below : List Frame} {meth : Method} {c : Code} {Z : State} {a0 : Array Value} {nm : String} {n0 : Nat} {h : Heap} {vm0 : Vm} {T : State} {locs : List Loc} {cells slots : Nat} (hw : ∀ d ∈ tables_1, d.before a0 Z = true) (hS : Stz Z) (hF : Sfm Z) (B : Ctx p Z (s.setVm vm0) m meth c x.cls nm code maxLocals ret) (X : Stand p l e room_1 (s.setVm vm0) m args below meth c T locs cells slots) (eT : T.heap = h) (V : Wx Z a0 consts_1 s vm0 h) (O : Old Z n0 h) (N : Fr n0 locs) (hcl : cells ≤ 24) (hsl : slots ≤ 2176)
    {y ar : Addr} {p0 p1 p2 p3 p4 nn : Int32} (last : Int32) {c0 c1 c2 c3 : Int32} (D : StrL Z h y []) (r0 : Rg c0) (r1 : Rg c1) (r2 : Rg c2) (r3 : Rg c3)   :
    Go p e below (EndW s 24 2176 Z consts_1 (fun v h' L => v = some (.int 1) ∧ Fr n0 L)) (T.setTop (fr m 232 [.val (.int p0), .val (.int p1), .val (.int p2), .val (.int p3), .val (.int p4), .val (.int nn), .val (.int c0), .val (.int c1), .val (.int c2), .val (.int c3), .val (.ref ar), .val (.ref y), .val (.int last), .val (.int 0), .unset] [])) := by
  refine Go.aload B X at_232 (pc' := 234) rfl rfl rfl ?_
  refine Go.callV B X eT (y := ⟨"java/lang/String", "length", "()I"⟩) (z := ⟨"java/lang/String", "length", "()I"⟩) (Ct.back (W := 0) (ct_lenL l Z a0 hw y [] h n0 hS O D) B.hZ (tw hw 40 rfl) (tw hw 8 rfl) nb nb) D.exa (tw hw 86 rfl) (tw hw 37 rfl) (tw hw 39 rfl) (tw hw 38 rfl) (by decide) (notFace_of_selects (args := #[]) (mvT B.hZ (tw hw 39 rfl))) pd_13 at_234 (pc' := 237) rfl rfl (rest := []) rfl rfl nb hcl hsl ?_
  intro va Ta La Xa Qa
  obtain ⟨rfl, Na, ea⟩ := Qa
  dsimp only [Option.toList, List.nil_append, List.cons_append]
  refine Go.iload B Xa at_237 (pc' := 239) rfl rfl ?_
  refine Go.icT B Xa at_239 (by decide) (pc' := 244) rfl rfl ?_
  refine Go.iconst B Xa 1 at_244 (pc' := 245) rfl rfl ?_
  refine Go.istore B Xa at_245 (pc' := 247) rfl rfl rfl ?_
  dsimp only [put1]
  refine Go.iload B Xa at_247 (pc' := 249) rfl rfl ?_
  refine Go.ifT B Xa at_249 (by decide) (pc' := 288) rfl (by decide) ?_
  refine Go.iload B Xa at_288 (pc' := 290) rfl rfl ?_
  refine Go.iconst B Xa 1 at_290 (pc' := 291) rfl rfl ?_
  refine Go.icT B Xa at_291 (by decide) (pc' := 330) rfl (by decide) ?_
  refine Go.iload B Xa at_330 (pc' := 332) rfl rfl ?_
  refine Go.iconst B Xa 2 at_332 (pc' := 333) rfl rfl ?_
  refine Go.icT B Xa at_333 (by decide) (pc' := 372) rfl (by decide) ?_
  refine Go.iload B Xa at_372 (pc' := 374) rfl rfl ?_
  refine Go.iconst B Xa 3 at_374 (pc' := 375) rfl rfl ?_
  refine Go.icT B Xa at_375 (by decide) (pc' := 414) rfl (by decide) ?_
  refine Go.iload B Xa at_414 (pc' := 416) rfl rfl ?_
  exact Go.zretW B Xa ea V at_416 rfl hcl hsl ⟨rfl, (Fr.app N Na)⟩
theorem pd_21 : parseMethodDescriptor "(I)C" = some ⟨[.int], some .char⟩ := by decide +kernel
theorem pd_22 : parseMethodDescriptor "(ICCCC)C" = some ⟨[.int, .char, .char, .char, .char], some .char⟩ := by decide +kernel
set_option maxRecDepth 65536 in
set_option maxHeartbeats 40000000 in
theorem tail1 {p : Program} {l : Launch} {e : Env} {s : State} {m : MethodId} {args : Array Value} {below : List Frame} {meth : Method} {c : Code} {Z : State} {a0 : Array Value} {nm : String} {n0 : Nat} {h : Heap} {vm0 : Vm} {T : State} {locs : List Loc} {cells slots : Nat} (hw : ∀ d ∈ tables_1, d.before a0 Z = true) (hS : Stz Z) (hF : Sfm Z) (B : Ctx p Z (s.setVm vm0) m meth c x.cls nm code maxLocals ret) (X : Stand p l e room_1 (s.setVm vm0) m args below meth c T locs cells slots) (eT : T.heap = h) (V : Wx Z a0 consts_1 s vm0 h) (O : Old Z n0 h) (N : Fr n0 locs) (hcl : cells ≤ 24) (hsl : slots ≤ 2176)
    {y ar : Addr} {p0 p1 p2 p3 p4 nn : Int32} (last : Int32) {c0 c1 c2 c3 d0 : Int32} (D : StrL Z h y [lo8 d0]) (r0 : Rg c0) (r1 : Rg c1) (r2 : Rg c2) (r3 : Rg c3) (g0 : Rg d0) (at0 : atS (last + 1) c0 c1 c2 c3 = d0) :
    Go p e below (EndW s 24 2176 Z consts_1 (fun v h' L => v = some (.int 1) ∧ Fr n0 L)) (T.setTop (fr m 232 [.val (.int p0), .val (.int p1), .val (.int p2), .val (.int p3), .val (.int p4), .val (.int nn), .val (.int c0), .val (.int c1), .val (.int c2), .val (.int c3), .val (.ref ar), .val (.ref y), .val (.int last), .val (.int 1), .unset] [])) := by
  refine Go.aload B X at_232 (pc' := 234) rfl rfl rfl ?_
  refine Go.callV B X eT (y := ⟨"java/lang/String", "length", "()I"⟩) (z := ⟨"java/lang/String", "length", "()I"⟩) (Ct.back (W := 0) (ct_lenL l Z a0 hw y [lo8 d0] h n0 hS O D) B.hZ (tw hw 40 rfl) (tw hw 8 rfl) nb nb) D.exa (tw hw 86 rfl) (tw hw 37 rfl) (tw hw 39 rfl) (tw hw 38 rfl) (by decide) (notFace_of_selects (args := #[]) (mvT B.hZ (tw hw 39 rfl))) pd_13 at_234 (pc' := 237) rfl rfl (rest := []) rfl rfl nb hcl hsl ?_
  intro va Ta La Xa Qa
  obtain ⟨rfl, Na, ea⟩ := Qa
  dsimp only [Option.toList, List.nil_append, List.cons_append]
  refine Go.iload B Xa at_237 (pc' := 239) rfl rfl ?_
  refine Go.icT B Xa at_239 (by decide) (pc' := 244) rfl rfl ?_
  refine Go.iconst B Xa 1 at_244 (pc' := 245) rfl rfl ?_
  refine Go.istore B Xa at_245 (pc' := 247) rfl rfl rfl ?_
  dsimp only [put1]
  refine Go.iload B Xa at_247 (pc' := 249) rfl rfl ?_
  refine Go.ifF B Xa at_249 (pc' := 252) rfl (by decide) ?_
  refine Go.iload B Xa at_252 (pc' := 254) rfl rfl ?_
  refine Go.ifF B Xa at_254 (pc' := 257) rfl (by decide) ?_
  refine Go.aload B Xa at_257 (pc' := 259) rfl rfl rfl ?_
  refine Go.iconst B Xa 0 at_259 (pc' := 260) rfl rfl ?_
  refine Go.callV B Xa ea (y := ⟨"java/lang/String", "charAt", "(I)C"⟩) (z := ⟨"java/lang/String", "charAt", "(I)C"⟩) (Ct.back (W := 0) (ct_charAt l Z a0 hw y 0 [lo8 d0] (lo8 d0) d0 h n0 hS O hF D rfl (StrChars.chr8_lo8 g0.1.1 g0.2) g0.1) B.hZ (tw hw 124 rfl) (tw hw 8 rfl) nb nb) D.exa (tw hw 120 rfl) (tw hw 121 rfl) (tw hw 123 rfl) (tw hw 122 rfl) (by decide) (notFace_of_selects (args := #[]) (mvT B.hZ (tw hw 123 rfl))) pd_21 at_260 (pc' := 263) rfl rfl (rest := []) rfl rfl nb hcl hsl ?_
  intro vb0 Tb0 Lb0 Xb0 Qb0
  obtain ⟨rfl, Nb0, eb0⟩ := Qb0
  dsimp only [Option.toList, List.nil_append, List.cons_append]
  refine Go.iload B Xb0 at_263 (pc' := 265) rfl rfl ?_
  refine Go.iconst B Xb0 1 at_265 (pc' := 266) rfl rfl ?_
  refine Go.iadd B Xb0 at_266 (pc' := 267) rfl ?_
  refine Go.iload B Xb0 at_267 (pc' := 269) rfl rfl ?_
  refine Go.iload B Xb0 at_269 (pc' := 271) rfl rfl ?_
  refine Go.iload B Xb0 at_271 (pc' := 273) rfl rfl ?_
  refine Go.iload B Xb0 at_273 (pc' := 275) rfl rfl ?_
  refine Go.callS B Xb0 eb0 (y := ⟨"com/example/uplink_augur/uplinkaugur/commondata/InvalidParamExceptionNamePinLaw", "at", "(ICCCC)C"⟩) (Ct.back (W := 1) (ct_at l Z a0 hw (last + 1) c0 c1 c2 c3 h n0 r0 r1 r2 r3) B.hZ (tw hw 136 rfl) (tw hw 3 rfl) nb nb) (tw hw 134 rfl) (tw hw 135 rfl) (tw hw 3 rfl) (tw hw 136 rfl) (by decide) pd_22 at_275 (pc' := 278) rfl rfl (rest := [_]) rfl rfl nb hcl hsl ?_
  intro vc0 Tc0 Lc0 Xc0 Qc0
  obtain ⟨rfl, Nc0, ec0⟩ := Qc0
  dsimp only [Option.toList, List.nil_append, List.cons_append]
  rw [at0]
  refine Go.icF B Xc0 at_278 (pc' := 281) rfl rfl ?_
  refine Go.iconst B Xc0 1 at_281 (pc' := 282) rfl rfl ?_
  refine Go.goto B Xc0 at_282 (by decide) (pc' := 286) rfl ?_
  refine Go.istore B Xc0 at_286 (pc' := 288) rfl rfl rfl ?_
  dsimp only [put1]
  refine Go.iload B Xc0 at_288 (pc' := 290) rfl rfl ?_
  refine Go.iconst B Xc0 1 at_290 (pc' := 291) rfl rfl ?_
  refine Go.icT B Xc0 at_291 (by decide) (pc' := 330) rfl (by decide) ?_
  refine Go.iload B Xc0 at_330 (pc' := 332) rfl rfl ?_
  refine Go.iconst B Xc0 2 at_332 (pc' := 333) rfl rfl ?_
  refine Go.icT B Xc0 at_333 (by decide) (pc' := 372) rfl (by decide) ?_
  refine Go.iload B Xc0 at_372 (pc' := 374) rfl rfl ?_
  refine Go.iconst B Xc0 3 at_374 (pc' := 375) rfl rfl ?_
  refine Go.icT B Xc0 at_375 (by decide) (pc' := 414) rfl (by decide) ?_
  refine Go.iload B Xc0 at_414 (pc' := 416) rfl rfl ?_
  exact Go.zretW B Xc0 ec0 V at_416 rfl hcl hsl ⟨rfl, (Fr.app (Fr.app (Fr.app N Na) Nb0) Nc0)⟩

set_option maxRecDepth 65536 in
set_option maxHeartbeats 40000000 in
theorem tail2 {p : Program} {l : Launch} {e : Env} {s : State} {m : MethodId} {args : Array Value} {below : List Frame} {meth : Method} {c : Code} {Z : State} {a0 : Array Value} {nm : String} {n0 : Nat} {h : Heap} {vm0 : Vm} {T : State} {locs : List Loc} {cells slots : Nat} (hw : ∀ d ∈ tables_1, d.before a0 Z = true) (hS : Stz Z) (hF : Sfm Z) (B : Ctx p Z (s.setVm vm0) m meth c x.cls nm code maxLocals ret) (X : Stand p l e room_1 (s.setVm vm0) m args below meth c T locs cells slots) (eT : T.heap = h) (V : Wx Z a0 consts_1 s vm0 h) (O : Old Z n0 h) (N : Fr n0 locs) (hcl : cells ≤ 24) (hsl : slots ≤ 2176)
    {y ar : Addr} {p0 p1 p2 p3 p4 nn : Int32} (last : Int32) {c0 c1 c2 c3 d0 d1 : Int32} (D : StrL Z h y [lo8 d0, lo8 d1]) (r0 : Rg c0) (r1 : Rg c1) (r2 : Rg c2) (r3 : Rg c3) (g0 : Rg d0) (g1 : Rg d1) (at0 : atS (last + 1) c0 c1 c2 c3 = d0) (at1 : atS (last + 2) c0 c1 c2 c3 = d1) :
    Go p e below (EndW s 24 2176 Z consts_1 (fun v h' L => v = some (.int 1) ∧ Fr n0 L)) (T.setTop (fr m 232 [.val (.int p0), .val (.int p1), .val (.int p2), .val (.int p3), .val (.int p4), .val (.int nn), .val (.int c0), .val (.int c1), .val (.int c2), .val (.int c3), .val (.ref ar), .val (.ref y), .val (.int last), .val (.int 2), .unset] [])) := by
  refine Go.aload B X at_232 (pc' := 234) rfl rfl rfl ?_
  refine Go.callV B X eT (y := ⟨"java/lang/String", "length", "()I"⟩) (z := ⟨"java/lang/String", "length", "()I"⟩) (Ct.back (W := 0) (ct_lenL l Z a0 hw y [lo8 d0, lo8 d1] h n0 hS O D) B.hZ (tw hw 40 rfl) (tw hw 8 rfl) nb nb) D.exa (tw hw 86 rfl) (tw hw 37 rfl) (tw hw 39 rfl) (tw hw 38 rfl) (by decide) (notFace_of_selects (args := #[]) (mvT B.hZ (tw hw 39 rfl))) pd_13 at_234 (pc' := 237) rfl rfl (rest := []) rfl rfl nb hcl hsl ?_
  intro va Ta La Xa Qa
  obtain ⟨rfl, Na, ea⟩ := Qa
  dsimp only [Option.toList, List.nil_append, List.cons_append]
  refine Go.iload B Xa at_237 (pc' := 239) rfl rfl ?_
  refine Go.icT B Xa at_239 (by decide) (pc' := 244) rfl rfl ?_
  refine Go.iconst B Xa 1 at_244 (pc' := 245) rfl rfl ?_
  refine Go.istore B Xa at_245 (pc' := 247) rfl rfl rfl ?_
  dsimp only [put1]
  refine Go.iload B Xa at_247 (pc' := 249) rfl rfl ?_
  refine Go.ifF B Xa at_249 (pc' := 252) rfl (by decide) ?_
  refine Go.iload B Xa at_252 (pc' := 254) rfl rfl ?_
  refine Go.ifF B Xa at_254 (pc' := 257) rfl (by decide) ?_
  refine Go.aload B Xa at_257 (pc' := 259) rfl rfl rfl ?_
  refine Go.iconst B Xa 0 at_259 (pc' := 260) rfl rfl ?_
  refine Go.callV B Xa ea (y := ⟨"java/lang/String", "charAt", "(I)C"⟩) (z := ⟨"java/lang/String", "charAt", "(I)C"⟩) (Ct.back (W := 0) (ct_charAt l Z a0 hw y 0 [lo8 d0, lo8 d1] (lo8 d0) d0 h n0 hS O hF D rfl (StrChars.chr8_lo8 g0.1.1 g0.2) g0.1) B.hZ (tw hw 124 rfl) (tw hw 8 rfl) nb nb) D.exa (tw hw 120 rfl) (tw hw 121 rfl) (tw hw 123 rfl) (tw hw 122 rfl) (by decide) (notFace_of_selects (args := #[]) (mvT B.hZ (tw hw 123 rfl))) pd_21 at_260 (pc' := 263) rfl rfl (rest := []) rfl rfl nb hcl hsl ?_
  intro vb0 Tb0 Lb0 Xb0 Qb0
  obtain ⟨rfl, Nb0, eb0⟩ := Qb0
  dsimp only [Option.toList, List.nil_append, List.cons_append]
  refine Go.iload B Xb0 at_263 (pc' := 265) rfl rfl ?_
  refine Go.iconst B Xb0 1 at_265 (pc' := 266) rfl rfl ?_
  refine Go.iadd B Xb0 at_266 (pc' := 267) rfl ?_
  refine Go.iload B Xb0 at_267 (pc' := 269) rfl rfl ?_
  refine Go.iload B Xb0 at_269 (pc' := 271) rfl rfl ?_
  refine Go.iload B Xb0 at_271 (pc' := 273) rfl rfl ?_
  refine Go.iload B Xb0 at_273 (pc' := 275) rfl rfl ?_
  refine Go.callS B Xb0 eb0 (y := ⟨"com/example/uplink_augur/uplinkaugur/commondata/InvalidParamExceptionNamePinLaw", "at", "(ICCCC)C"⟩) (Ct.back (W := 1) (ct_at l Z a0 hw (last + 1) c0 c1 c2 c3 h n0 r0 r1 r2 r3) B.hZ (tw hw 136 rfl) (tw hw 3 rfl) nb nb) (tw hw 134 rfl) (tw hw 135 rfl) (tw hw 3 rfl) (tw hw 136 rfl) (by decide) pd_22 at_275 (pc' := 278) rfl rfl (rest := [_]) rfl rfl nb hcl hsl ?_
  intro vc0 Tc0 Lc0 Xc0 Qc0
  obtain ⟨rfl, Nc0, ec0⟩ := Qc0
  dsimp only [Option.toList, List.nil_append, List.cons_append]
  rw [at0]
  refine Go.icF B Xc0 at_278 (pc' := 281) rfl rfl ?_
  refine Go.iconst B Xc0 1 at_281 (pc' := 282) rfl rfl ?_
  refine Go.goto B Xc0 at_282 (by decide) (pc' := 286) rfl ?_
  refine Go.istore B Xc0 at_286 (pc' := 288) rfl rfl rfl ?_
  dsimp only [put1]
  refine Go.iload B Xc0 at_288 (pc' := 290) rfl rfl ?_
  refine Go.iconst B Xc0 1 at_290 (pc' := 291) rfl rfl ?_
  refine Go.icF B Xc0 at_291 (pc' := 294) rfl (by decide) ?_
  refine Go.iload B Xc0 at_294 (pc' := 296) rfl rfl ?_
  refine Go.ifF B Xc0 at_296 (pc' := 299) rfl (by decide) ?_
  refine Go.aload B Xc0 at_299 (pc' := 301) rfl rfl rfl ?_
  refine Go.iconst B Xc0 1 at_301 (pc' := 302) rfl rfl ?_
  refine Go.callV B Xc0 ec0 (y := ⟨"java/lang/String", "charAt", "(I)C"⟩) (z := ⟨"java/lang/String", "charAt", "(I)C"⟩) (Ct.back (W := 0) (ct_charAt l Z a0 hw y 1 [lo8 d0, lo8 d1] (lo8 d1) d1 h n0 hS O hF D rfl (StrChars.chr8_lo8 g1.1.1 g1.2) g1.1) B.hZ (tw hw 124 rfl) (tw hw 8 rfl) nb nb) D.exa (tw hw 120 rfl) (tw hw 121 rfl) (tw hw 123 rfl) (tw hw 122 rfl) (by decide) (notFace_of_selects (args := #[]) (mvT B.hZ (tw hw 123 rfl))) pd_21 at_302 (pc' := 305) rfl rfl (rest := []) rfl rfl nb hcl hsl ?_
  intro vb1 Tb1 Lb1 Xb1 Qb1
  obtain ⟨rfl, Nb1, eb1⟩ := Qb1
  dsimp only [Option.toList, List.nil_append, List.cons_append]
  refine Go.iload B Xb1 at_305 (pc' := 307) rfl rfl ?_
  refine Go.iconst B Xb1 2 at_307 (pc' := 308) rfl rfl ?_
  refine Go.iadd B Xb1 at_308 (pc' := 309) rfl ?_
  refine Go.iload B Xb1 at_309 (pc' := 311) rfl rfl ?_
  refine Go.iload B Xb1 at_311 (pc' := 313) rfl rfl ?_
  refine Go.iload B Xb1 at_313 (pc' := 315) rfl rfl ?_
  refine Go.iload B Xb1 at_315 (pc' := 317) rfl rfl ?_
  refine Go.callS B Xb1 eb1 (y := ⟨"com/example/uplink_augur/uplinkaugur/commondata/InvalidParamExceptionNamePinLaw", "at", "(ICCCC)C"⟩) (Ct.back (W := 1) (ct_at l Z a0 hw (last + 2) c0 c1 c2 c3 h n0 r0 r1 r2 r3) B.hZ (tw hw 136 rfl) (tw hw 3 rfl) nb nb) (tw hw 134 rfl) (tw hw 135 rfl) (tw hw 3 rfl) (tw hw 136 rfl) (by decide) pd_22 at_317 (pc' := 320) rfl rfl (rest := [_]) rfl rfl nb hcl hsl ?_
  intro vc1 Tc1 Lc1 Xc1 Qc1
  obtain ⟨rfl, Nc1, ec1⟩ := Qc1
  dsimp only [Option.toList, List.nil_append, List.cons_append]
  rw [at1]
  refine Go.icF B Xc1 at_320 (pc' := 323) rfl rfl ?_
  refine Go.iconst B Xc1 1 at_323 (pc' := 324) rfl rfl ?_
  refine Go.goto B Xc1 at_324 (by decide) (pc' := 328) rfl ?_
  refine Go.istore B Xc1 at_328 (pc' := 330) rfl rfl rfl ?_
  dsimp only [put1]
  refine Go.iload B Xc1 at_330 (pc' := 332) rfl rfl ?_
  refine Go.iconst B Xc1 2 at_332 (pc' := 333) rfl rfl ?_
  refine Go.icT B Xc1 at_333 (by decide) (pc' := 372) rfl (by decide) ?_
  refine Go.iload B Xc1 at_372 (pc' := 374) rfl rfl ?_
  refine Go.iconst B Xc1 3 at_374 (pc' := 375) rfl rfl ?_
  refine Go.icT B Xc1 at_375 (by decide) (pc' := 414) rfl (by decide) ?_
  refine Go.iload B Xc1 at_414 (pc' := 416) rfl rfl ?_
  exact Go.zretW B Xc1 ec1 V at_416 rfl hcl hsl ⟨rfl, (Fr.app (Fr.app (Fr.app (Fr.app (Fr.app N Na) Nb0) Nc0) Nb1) Nc1)⟩

set_option maxRecDepth 65536 in
set_option maxHeartbeats 40000000 in
theorem tail3 {p : Program} {l : Launch} {e : Env} {s : State} {m : MethodId} {args : Array Value} {below : List Frame} {meth : Method} {c : Code} {Z : State} {a0 : Array Value} {nm : String} {n0 : Nat} {h : Heap} {vm0 : Vm} {T : State} {locs : List Loc} {cells slots : Nat} (hw : ∀ d ∈ tables_1, d.before a0 Z = true) (hS : Stz Z) (hF : Sfm Z) (B : Ctx p Z (s.setVm vm0) m meth c x.cls nm code maxLocals ret) (X : Stand p l e room_1 (s.setVm vm0) m args below meth c T locs cells slots) (eT : T.heap = h) (V : Wx Z a0 consts_1 s vm0 h) (O : Old Z n0 h) (N : Fr n0 locs) (hcl : cells ≤ 24) (hsl : slots ≤ 2176)
    {y ar : Addr} {p0 p1 p2 p3 p4 nn : Int32} (last : Int32) {c0 c1 c2 c3 d0 d1 d2 : Int32} (D : StrL Z h y [lo8 d0, lo8 d1, lo8 d2]) (r0 : Rg c0) (r1 : Rg c1) (r2 : Rg c2) (r3 : Rg c3) (g0 : Rg d0) (g1 : Rg d1) (g2 : Rg d2) (at0 : atS (last + 1) c0 c1 c2 c3 = d0) (at1 : atS (last + 2) c0 c1 c2 c3 = d1) (at2 : atS (last + 3) c0 c1 c2 c3 = d2) :
    Go p e below (EndW s 24 2176 Z consts_1 (fun v h' L => v = some (.int 1) ∧ Fr n0 L)) (T.setTop (fr m 232 [.val (.int p0), .val (.int p1), .val (.int p2), .val (.int p3), .val (.int p4), .val (.int nn), .val (.int c0), .val (.int c1), .val (.int c2), .val (.int c3), .val (.ref ar), .val (.ref y), .val (.int last), .val (.int 3), .unset] [])) := by
  refine Go.aload B X at_232 (pc' := 234) rfl rfl rfl ?_
  refine Go.callV B X eT (y := ⟨"java/lang/String", "length", "()I"⟩) (z := ⟨"java/lang/String", "length", "()I"⟩) (Ct.back (W := 0) (ct_lenL l Z a0 hw y [lo8 d0, lo8 d1, lo8 d2] h n0 hS O D) B.hZ (tw hw 40 rfl) (tw hw 8 rfl) nb nb) D.exa (tw hw 86 rfl) (tw hw 37 rfl) (tw hw 39 rfl) (tw hw 38 rfl) (by decide) (notFace_of_selects (args := #[]) (mvT B.hZ (tw hw 39 rfl))) pd_13 at_234 (pc' := 237) rfl rfl (rest := []) rfl rfl nb hcl hsl ?_
  intro va Ta La Xa Qa
  obtain ⟨rfl, Na, ea⟩ := Qa
  dsimp only [Option.toList, List.nil_append, List.cons_append]
  refine Go.iload B Xa at_237 (pc' := 239) rfl rfl ?_
  refine Go.icT B Xa at_239 (by decide) (pc' := 244) rfl rfl ?_
  refine Go.iconst B Xa 1 at_244 (pc' := 245) rfl rfl ?_
  refine Go.istore B Xa at_245 (pc' := 247) rfl rfl rfl ?_
  dsimp only [put1]
  refine Go.iload B Xa at_247 (pc' := 249) rfl rfl ?_
  refine Go.ifF B Xa at_249 (pc' := 252) rfl (by decide) ?_
  refine Go.iload B Xa at_252 (pc' := 254) rfl rfl ?_
  refine Go.ifF B Xa at_254 (pc' := 257) rfl (by decide) ?_
  refine Go.aload B Xa at_257 (pc' := 259) rfl rfl rfl ?_
  refine Go.iconst B Xa 0 at_259 (pc' := 260) rfl rfl ?_
  refine Go.callV B Xa ea (y := ⟨"java/lang/String", "charAt", "(I)C"⟩) (z := ⟨"java/lang/String", "charAt", "(I)C"⟩) (Ct.back (W := 0) (ct_charAt l Z a0 hw y 0 [lo8 d0, lo8 d1, lo8 d2] (lo8 d0) d0 h n0 hS O hF D rfl (StrChars.chr8_lo8 g0.1.1 g0.2) g0.1) B.hZ (tw hw 124 rfl) (tw hw 8 rfl) nb nb) D.exa (tw hw 120 rfl) (tw hw 121 rfl) (tw hw 123 rfl) (tw hw 122 rfl) (by decide) (notFace_of_selects (args := #[]) (mvT B.hZ (tw hw 123 rfl))) pd_21 at_260 (pc' := 263) rfl rfl (rest := []) rfl rfl nb hcl hsl ?_
  intro vb0 Tb0 Lb0 Xb0 Qb0
  obtain ⟨rfl, Nb0, eb0⟩ := Qb0
  dsimp only [Option.toList, List.nil_append, List.cons_append]
  refine Go.iload B Xb0 at_263 (pc' := 265) rfl rfl ?_
  refine Go.iconst B Xb0 1 at_265 (pc' := 266) rfl rfl ?_
  refine Go.iadd B Xb0 at_266 (pc' := 267) rfl ?_
  refine Go.iload B Xb0 at_267 (pc' := 269) rfl rfl ?_
  refine Go.iload B Xb0 at_269 (pc' := 271) rfl rfl ?_
  refine Go.iload B Xb0 at_271 (pc' := 273) rfl rfl ?_
  refine Go.iload B Xb0 at_273 (pc' := 275) rfl rfl ?_
  refine Go.callS B Xb0 eb0 (y := ⟨"com/example/uplink_augur/uplinkaugur/commondata/InvalidParamExceptionNamePinLaw", "at", "(ICCCC)C"⟩) (Ct.back (W := 1) (ct_at l Z a0 hw (last + 1) c0 c1 c2 c3 h n0 r0 r1 r2 r3) B.hZ (tw hw 136 rfl) (tw hw 3 rfl) nb nb) (tw hw 134 rfl) (tw hw 135 rfl) (tw hw 3 rfl) (tw hw 136 rfl) (by decide) pd_22 at_275 (pc' := 278) rfl rfl (rest := [_]) rfl rfl nb hcl hsl ?_
  intro vc0 Tc0 Lc0 Xc0 Qc0
  obtain ⟨rfl, Nc0, ec0⟩ := Qc0
  dsimp only [Option.toList, List.nil_append, List.cons_append]
  rw [at0]
  refine Go.icF B Xc0 at_278 (pc' := 281) rfl rfl ?_
  refine Go.iconst B Xc0 1 at_281 (pc' := 282) rfl rfl ?_
  refine Go.goto B Xc0 at_282 (by decide) (pc' := 286) rfl ?_
  refine Go.istore B Xc0 at_286 (pc' := 288) rfl rfl rfl ?_
  dsimp only [put1]
  refine Go.iload B Xc0 at_288 (pc' := 290) rfl rfl ?_
  refine Go.iconst B Xc0 1 at_290 (pc' := 291) rfl rfl ?_
  refine Go.icF B Xc0 at_291 (pc' := 294) rfl (by decide) ?_
  refine Go.iload B Xc0 at_294 (pc' := 296) rfl rfl ?_
  refine Go.ifF B Xc0 at_296 (pc' := 299) rfl (by decide) ?_
  refine Go.aload B Xc0 at_299 (pc' := 301) rfl rfl rfl ?_
  refine Go.iconst B Xc0 1 at_301 (pc' := 302) rfl rfl ?_
  refine Go.callV B Xc0 ec0 (y := ⟨"java/lang/String", "charAt", "(I)C"⟩) (z := ⟨"java/lang/String", "charAt", "(I)C"⟩) (Ct.back (W := 0) (ct_charAt l Z a0 hw y 1 [lo8 d0, lo8 d1, lo8 d2] (lo8 d1) d1 h n0 hS O hF D rfl (StrChars.chr8_lo8 g1.1.1 g1.2) g1.1) B.hZ (tw hw 124 rfl) (tw hw 8 rfl) nb nb) D.exa (tw hw 120 rfl) (tw hw 121 rfl) (tw hw 123 rfl) (tw hw 122 rfl) (by decide) (notFace_of_selects (args := #[]) (mvT B.hZ (tw hw 123 rfl))) pd_21 at_302 (pc' := 305) rfl rfl (rest := []) rfl rfl nb hcl hsl ?_
  intro vb1 Tb1 Lb1 Xb1 Qb1
  obtain ⟨rfl, Nb1, eb1⟩ := Qb1
  dsimp only [Option.toList, List.nil_append, List.cons_append]
  refine Go.iload B Xb1 at_305 (pc' := 307) rfl rfl ?_
  refine Go.iconst B Xb1 2 at_307 (pc' := 308) rfl rfl ?_
  refine Go.iadd B Xb1 at_308 (pc' := 309) rfl ?_
  refine Go.iload B Xb1 at_309 (pc' := 311) rfl rfl ?_
  refine Go.iload B Xb1 at_311 (pc' := 313) rfl rfl ?_
  refine Go.iload B Xb1 at_313 (pc' := 315) rfl rfl ?_
  refine Go.iload B Xb1 at_315 (pc' := 317) rfl rfl ?_
  refine Go.callS B Xb1 eb1 (y := ⟨"com/example/uplink_augur/uplinkaugur/commondata/InvalidParamExceptionNamePinLaw", "at", "(ICCCC)C"⟩) (Ct.back (W := 1) (ct_at l Z a0 hw (last + 2) c0 c1 c2 c3 h n0 r0 r1 r2 r3) B.hZ (tw hw 136 rfl) (tw hw 3 rfl) nb nb) (tw hw 134 rfl) (tw hw 135 rfl) (tw hw 3 rfl) (tw hw 136 rfl) (by decide) pd_22 at_317 (pc' := 320) rfl rfl (rest := [_]) rfl rfl nb hcl hsl ?_
  intro vc1 Tc1 Lc1 Xc1 Qc1
  obtain ⟨rfl, Nc1, ec1⟩ := Qc1
  dsimp only [Option.toList, List.nil_append, List.cons_append]
  rw [at1]
  refine Go.icF B Xc1 at_320 (pc' := 323) rfl rfl ?_
  refine Go.iconst B Xc1 1 at_323 (pc' := 324) rfl rfl ?_
  refine Go.goto B Xc1 at_324 (by decide) (pc' := 328) rfl ?_
  refine Go.istore B Xc1 at_328 (pc' := 330) rfl rfl rfl ?_
  dsimp only [put1]
  refine Go.iload B Xc1 at_330 (pc' := 332) rfl rfl ?_
  refine Go.iconst B Xc1 2 at_332 (pc' := 333) rfl rfl ?_
  refine Go.icF B Xc1 at_333 (pc' := 336) rfl (by decide) ?_
  refine Go.iload B Xc1 at_336 (pc' := 338) rfl rfl ?_
  refine Go.ifF B Xc1 at_338 (pc' := 341) rfl (by decide) ?_
  refine Go.aload B Xc1 at_341 (pc' := 343) rfl rfl rfl ?_
  refine Go.iconst B Xc1 2 at_343 (pc' := 344) rfl rfl ?_
  refine Go.callV B Xc1 ec1 (y := ⟨"java/lang/String", "charAt", "(I)C"⟩) (z := ⟨"java/lang/String", "charAt", "(I)C"⟩) (Ct.back (W := 0) (ct_charAt l Z a0 hw y 2 [lo8 d0, lo8 d1, lo8 d2] (lo8 d2) d2 h n0 hS O hF D rfl (StrChars.chr8_lo8 g2.1.1 g2.2) g2.1) B.hZ (tw hw 124 rfl) (tw hw 8 rfl) nb nb) D.exa (tw hw 120 rfl) (tw hw 121 rfl) (tw hw 123 rfl) (tw hw 122 rfl) (by decide) (notFace_of_selects (args := #[]) (mvT B.hZ (tw hw 123 rfl))) pd_21 at_344 (pc' := 347) rfl rfl (rest := []) rfl rfl nb hcl hsl ?_
  intro vb2 Tb2 Lb2 Xb2 Qb2
  obtain ⟨rfl, Nb2, eb2⟩ := Qb2
  dsimp only [Option.toList, List.nil_append, List.cons_append]
  refine Go.iload B Xb2 at_347 (pc' := 349) rfl rfl ?_
  refine Go.iconst B Xb2 3 at_349 (pc' := 350) rfl rfl ?_
  refine Go.iadd B Xb2 at_350 (pc' := 351) rfl ?_
  refine Go.iload B Xb2 at_351 (pc' := 353) rfl rfl ?_
  refine Go.iload B Xb2 at_353 (pc' := 355) rfl rfl ?_
  refine Go.iload B Xb2 at_355 (pc' := 357) rfl rfl ?_
  refine Go.iload B Xb2 at_357 (pc' := 359) rfl rfl ?_
  refine Go.callS B Xb2 eb2 (y := ⟨"com/example/uplink_augur/uplinkaugur/commondata/InvalidParamExceptionNamePinLaw", "at", "(ICCCC)C"⟩) (Ct.back (W := 1) (ct_at l Z a0 hw (last + 3) c0 c1 c2 c3 h n0 r0 r1 r2 r3) B.hZ (tw hw 136 rfl) (tw hw 3 rfl) nb nb) (tw hw 134 rfl) (tw hw 135 rfl) (tw hw 3 rfl) (tw hw 136 rfl) (by decide) pd_22 at_359 (pc' := 362) rfl rfl (rest := [_]) rfl rfl nb hcl hsl ?_
  intro vc2 Tc2 Lc2 Xc2 Qc2
  obtain ⟨rfl, Nc2, ec2⟩ := Qc2
  dsimp only [Option.toList, List.nil_append, List.cons_append]
  rw [at2]
  refine Go.icF B Xc2 at_362 (pc' := 365) rfl rfl ?_
  refine Go.iconst B Xc2 1 at_365 (pc' := 366) rfl rfl ?_
  refine Go.goto B Xc2 at_366 (by decide) (pc' := 370) rfl ?_
  refine Go.istore B Xc2 at_370 (pc' := 372) rfl rfl rfl ?_
  dsimp only [put1]
  refine Go.iload B Xc2 at_372 (pc' := 374) rfl rfl ?_
  refine Go.iconst B Xc2 3 at_374 (pc' := 375) rfl rfl ?_
  refine Go.icT B Xc2 at_375 (by decide) (pc' := 414) rfl (by decide) ?_
  refine Go.iload B Xc2 at_414 (pc' := 416) rfl rfl ?_
  exact Go.zretW B Xc2 ec2 V at_416 rfl hcl hsl ⟨rfl, (Fr.app (Fr.app (Fr.app (Fr.app (Fr.app (Fr.app (Fr.app N Na) Nb0) Nc0) Nb1) Nc1) Nb2) Nc2)⟩

set_option maxRecDepth 65536 in
set_option maxHeartbeats 40000000 in
theorem tail4 {p : Program} {l : Launch} {e : Env} {s : State} {m : MethodId} {args : Array Value} {below : List Frame} {meth : Method} {c : Code} {Z : State} {a0 : Array Value} {nm : String} {n0 : Nat} {h : Heap} {vm0 : Vm} {T : State} {locs : List Loc} {cells slots : Nat} (hw : ∀ d ∈ tables_1, d.before a0 Z = true) (hS : Stz Z) (hF : Sfm Z) (B : Ctx p Z (s.setVm vm0) m meth c x.cls nm code maxLocals ret) (X : Stand p l e room_1 (s.setVm vm0) m args below meth c T locs cells slots) (eT : T.heap = h) (V : Wx Z a0 consts_1 s vm0 h) (O : Old Z n0 h) (N : Fr n0 locs) (hcl : cells ≤ 24) (hsl : slots ≤ 2176)
    {y ar : Addr} {p0 p1 p2 p3 p4 nn : Int32} (last : Int32) {c0 c1 c2 c3 d0 d1 d2 d3 : Int32} (D : StrL Z h y [lo8 d0, lo8 d1, lo8 d2, lo8 d3]) (r0 : Rg c0) (r1 : Rg c1) (r2 : Rg c2) (r3 : Rg c3) (g0 : Rg d0) (g1 : Rg d1) (g2 : Rg d2) (g3 : Rg d3) (at0 : atS (last + 1) c0 c1 c2 c3 = d0) (at1 : atS (last + 2) c0 c1 c2 c3 = d1) (at2 : atS (last + 3) c0 c1 c2 c3 = d2) (at3 : atS (last + 4) c0 c1 c2 c3 = d3) :
    Go p e below (EndW s 24 2176 Z consts_1 (fun v h' L => v = some (.int 1) ∧ Fr n0 L)) (T.setTop (fr m 232 [.val (.int p0), .val (.int p1), .val (.int p2), .val (.int p3), .val (.int p4), .val (.int nn), .val (.int c0), .val (.int c1), .val (.int c2), .val (.int c3), .val (.ref ar), .val (.ref y), .val (.int last), .val (.int 4), .unset] [])) := by
  refine Go.aload B X at_232 (pc' := 234) rfl rfl rfl ?_
  refine Go.callV B X eT (y := ⟨"java/lang/String", "length", "()I"⟩) (z := ⟨"java/lang/String", "length", "()I"⟩) (Ct.back (W := 0) (ct_lenL l Z a0 hw y [lo8 d0, lo8 d1, lo8 d2, lo8 d3] h n0 hS O D) B.hZ (tw hw 40 rfl) (tw hw 8 rfl) nb nb) D.exa (tw hw 86 rfl) (tw hw 37 rfl) (tw hw 39 rfl) (tw hw 38 rfl) (by decide) (notFace_of_selects (args := #[]) (mvT B.hZ (tw hw 39 rfl))) pd_13 at_234 (pc' := 237) rfl rfl (rest := []) rfl rfl nb hcl hsl ?_
  intro va Ta La Xa Qa
  obtain ⟨rfl, Na, ea⟩ := Qa
  dsimp only [Option.toList, List.nil_append, List.cons_append]
  refine Go.iload B Xa at_237 (pc' := 239) rfl rfl ?_
  refine Go.icT B Xa at_239 (by decide) (pc' := 244) rfl rfl ?_
  refine Go.iconst B Xa 1 at_244 (pc' := 245) rfl rfl ?_
  refine Go.istore B Xa at_245 (pc' := 247) rfl rfl rfl ?_
  dsimp only [put1]
  refine Go.iload B Xa at_247 (pc' := 249) rfl rfl ?_
  refine Go.ifF B Xa at_249 (pc' := 252) rfl (by decide) ?_
  refine Go.iload B Xa at_252 (pc' := 254) rfl rfl ?_
  refine Go.ifF B Xa at_254 (pc' := 257) rfl (by decide) ?_
  refine Go.aload B Xa at_257 (pc' := 259) rfl rfl rfl ?_
  refine Go.iconst B Xa 0 at_259 (pc' := 260) rfl rfl ?_
  refine Go.callV B Xa ea (y := ⟨"java/lang/String", "charAt", "(I)C"⟩) (z := ⟨"java/lang/String", "charAt", "(I)C"⟩) (Ct.back (W := 0) (ct_charAt l Z a0 hw y 0 [lo8 d0, lo8 d1, lo8 d2, lo8 d3] (lo8 d0) d0 h n0 hS O hF D rfl (StrChars.chr8_lo8 g0.1.1 g0.2) g0.1) B.hZ (tw hw 124 rfl) (tw hw 8 rfl) nb nb) D.exa (tw hw 120 rfl) (tw hw 121 rfl) (tw hw 123 rfl) (tw hw 122 rfl) (by decide) (notFace_of_selects (args := #[]) (mvT B.hZ (tw hw 123 rfl))) pd_21 at_260 (pc' := 263) rfl rfl (rest := []) rfl rfl nb hcl hsl ?_
  intro vb0 Tb0 Lb0 Xb0 Qb0
  obtain ⟨rfl, Nb0, eb0⟩ := Qb0
  dsimp only [Option.toList, List.nil_append, List.cons_append]
  refine Go.iload B Xb0 at_263 (pc' := 265) rfl rfl ?_
  refine Go.iconst B Xb0 1 at_265 (pc' := 266) rfl rfl ?_
  refine Go.iadd B Xb0 at_266 (pc' := 267) rfl ?_
  refine Go.iload B Xb0 at_267 (pc' := 269) rfl rfl ?_
  refine Go.iload B Xb0 at_269 (pc' := 271) rfl rfl ?_
  refine Go.iload B Xb0 at_271 (pc' := 273) rfl rfl ?_
  refine Go.iload B Xb0 at_273 (pc' := 275) rfl rfl ?_
  refine Go.callS B Xb0 eb0 (y := ⟨"com/example/uplink_augur/uplinkaugur/commondata/InvalidParamExceptionNamePinLaw", "at", "(ICCCC)C"⟩) (Ct.back (W := 1) (ct_at l Z a0 hw (last + 1) c0 c1 c2 c3 h n0 r0 r1 r2 r3) B.hZ (tw hw 136 rfl) (tw hw 3 rfl) nb nb) (tw hw 134 rfl) (tw hw 135 rfl) (tw hw 3 rfl) (tw hw 136 rfl) (by decide) pd_22 at_275 (pc' := 278) rfl rfl (rest := [_]) rfl rfl nb hcl hsl ?_
  intro vc0 Tc0 Lc0 Xc0 Qc0
  obtain ⟨rfl, Nc0, ec0⟩ := Qc0
  dsimp only [Option.toList, List.nil_append, List.cons_append]
  rw [at0]
  refine Go.icF B Xc0 at_278 (pc' := 281) rfl rfl ?_
  refine Go.iconst B Xc0 1 at_281 (pc' := 282) rfl rfl ?_
  refine Go.goto B Xc0 at_282 (by decide) (pc' := 286) rfl ?_
  refine Go.istore B Xc0 at_286 (pc' := 288) rfl rfl rfl ?_
  dsimp only [put1]
  refine Go.iload B Xc0 at_288 (pc' := 290) rfl rfl ?_
  refine Go.iconst B Xc0 1 at_290 (pc' := 291) rfl rfl ?_
  refine Go.icF B Xc0 at_291 (pc' := 294) rfl (by decide) ?_
  refine Go.iload B Xc0 at_294 (pc' := 296) rfl rfl ?_
  refine Go.ifF B Xc0 at_296 (pc' := 299) rfl (by decide) ?_
  refine Go.aload B Xc0 at_299 (pc' := 301) rfl rfl rfl ?_
  refine Go.iconst B Xc0 1 at_301 (pc' := 302) rfl rfl ?_
  refine Go.callV B Xc0 ec0 (y := ⟨"java/lang/String", "charAt", "(I)C"⟩) (z := ⟨"java/lang/String", "charAt", "(I)C"⟩) (Ct.back (W := 0) (ct_charAt l Z a0 hw y 1 [lo8 d0, lo8 d1, lo8 d2, lo8 d3] (lo8 d1) d1 h n0 hS O hF D rfl (StrChars.chr8_lo8 g1.1.1 g1.2) g1.1) B.hZ (tw hw 124 rfl) (tw hw 8 rfl) nb nb) D.exa (tw hw 120 rfl) (tw hw 121 rfl) (tw hw 123 rfl) (tw hw 122 rfl) (by decide) (notFace_of_selects (args := #[]) (mvT B.hZ (tw hw 123 rfl))) pd_21 at_302 (pc' := 305) rfl rfl (rest := []) rfl rfl nb hcl hsl ?_
  intro vb1 Tb1 Lb1 Xb1 Qb1
  obtain ⟨rfl, Nb1, eb1⟩ := Qb1
  dsimp only [Option.toList, List.nil_append, List.cons_append]
  refine Go.iload B Xb1 at_305 (pc' := 307) rfl rfl ?_
  refine Go.iconst B Xb1 2 at_307 (pc' := 308) rfl rfl ?_
  refine Go.iadd B Xb1 at_308 (pc' := 309) rfl ?_
  refine Go.iload B Xb1 at_309 (pc' := 311) rfl rfl ?_
  refine Go.iload B Xb1 at_311 (pc' := 313) rfl rfl ?_
  refine Go.iload B Xb1 at_313 (pc' := 315) rfl rfl ?_
  refine Go.iload B Xb1 at_315 (pc' := 317) rfl rfl ?_
  refine Go.callS B Xb1 eb1 (y := ⟨"com/example/uplink_augur/uplinkaugur/commondata/InvalidParamExceptionNamePinLaw", "at", "(ICCCC)C"⟩) (Ct.back (W := 1) (ct_at l Z a0 hw (last + 2) c0 c1 c2 c3 h n0 r0 r1 r2 r3) B.hZ (tw hw 136 rfl) (tw hw 3 rfl) nb nb) (tw hw 134 rfl) (tw hw 135 rfl) (tw hw 3 rfl) (tw hw 136 rfl) (by decide) pd_22 at_317 (pc' := 320) rfl rfl (rest := [_]) rfl rfl nb hcl hsl ?_
  intro vc1 Tc1 Lc1 Xc1 Qc1
  obtain ⟨rfl, Nc1, ec1⟩ := Qc1
  dsimp only [Option.toList, List.nil_append, List.cons_append]
  rw [at1]
  refine Go.icF B Xc1 at_320 (pc' := 323) rfl rfl ?_
  refine Go.iconst B Xc1 1 at_323 (pc' := 324) rfl rfl ?_
  refine Go.goto B Xc1 at_324 (by decide) (pc' := 328) rfl ?_
  refine Go.istore B Xc1 at_328 (pc' := 330) rfl rfl rfl ?_
  dsimp only [put1]
  refine Go.iload B Xc1 at_330 (pc' := 332) rfl rfl ?_
  refine Go.iconst B Xc1 2 at_332 (pc' := 333) rfl rfl ?_
  refine Go.icF B Xc1 at_333 (pc' := 336) rfl (by decide) ?_
  refine Go.iload B Xc1 at_336 (pc' := 338) rfl rfl ?_
  refine Go.ifF B Xc1 at_338 (pc' := 341) rfl (by decide) ?_
  refine Go.aload B Xc1 at_341 (pc' := 343) rfl rfl rfl ?_
  refine Go.iconst B Xc1 2 at_343 (pc' := 344) rfl rfl ?_
  refine Go.callV B Xc1 ec1 (y := ⟨"java/lang/String", "charAt", "(I)C"⟩) (z := ⟨"java/lang/String", "charAt", "(I)C"⟩) (Ct.back (W := 0) (ct_charAt l Z a0 hw y 2 [lo8 d0, lo8 d1, lo8 d2, lo8 d3] (lo8 d2) d2 h n0 hS O hF D rfl (StrChars.chr8_lo8 g2.1.1 g2.2) g2.1) B.hZ (tw hw 124 rfl) (tw hw 8 rfl) nb nb) D.exa (tw hw 120 rfl) (tw hw 121 rfl) (tw hw 123 rfl) (tw hw 122 rfl) (by decide) (notFace_of_selects (args := #[]) (mvT B.hZ (tw hw 123 rfl))) pd_21 at_344 (pc' := 347) rfl rfl (rest := []) rfl rfl nb hcl hsl ?_
  intro vb2 Tb2 Lb2 Xb2 Qb2
  obtain ⟨rfl, Nb2, eb2⟩ := Qb2
  dsimp only [Option.toList, List.nil_append, List.cons_append]
  refine Go.iload B Xb2 at_347 (pc' := 349) rfl rfl ?_
  refine Go.iconst B Xb2 3 at_349 (pc' := 350) rfl rfl ?_
  refine Go.iadd B Xb2 at_350 (pc' := 351) rfl ?_
  refine Go.iload B Xb2 at_351 (pc' := 353) rfl rfl ?_
  refine Go.iload B Xb2 at_353 (pc' := 355) rfl rfl ?_
  refine Go.iload B Xb2 at_355 (pc' := 357) rfl rfl ?_
  refine Go.iload B Xb2 at_357 (pc' := 359) rfl rfl ?_
  refine Go.callS B Xb2 eb2 (y := ⟨"com/example/uplink_augur/uplinkaugur/commondata/InvalidParamExceptionNamePinLaw", "at", "(ICCCC)C"⟩) (Ct.back (W := 1) (ct_at l Z a0 hw (last + 3) c0 c1 c2 c3 h n0 r0 r1 r2 r3) B.hZ (tw hw 136 rfl) (tw hw 3 rfl) nb nb) (tw hw 134 rfl) (tw hw 135 rfl) (tw hw 3 rfl) (tw hw 136 rfl) (by decide) pd_22 at_359 (pc' := 362) rfl rfl (rest := [_]) rfl rfl nb hcl hsl ?_
  intro vc2 Tc2 Lc2 Xc2 Qc2
  obtain ⟨rfl, Nc2, ec2⟩ := Qc2
  dsimp only [Option.toList, List.nil_append, List.cons_append]
  rw [at2]
  refine Go.icF B Xc2 at_362 (pc' := 365) rfl rfl ?_
  refine Go.iconst B Xc2 1 at_365 (pc' := 366) rfl rfl ?_
  refine Go.goto B Xc2 at_366 (by decide) (pc' := 370) rfl ?_
  refine Go.istore B Xc2 at_370 (pc' := 372) rfl rfl rfl ?_
  dsimp only [put1]
  refine Go.iload B Xc2 at_372 (pc' := 374) rfl rfl ?_
  refine Go.iconst B Xc2 3 at_374 (pc' := 375) rfl rfl ?_
  refine Go.icF B Xc2 at_375 (pc' := 378) rfl (by decide) ?_
  refine Go.iload B Xc2 at_378 (pc' := 380) rfl rfl ?_
  refine Go.ifF B Xc2 at_380 (pc' := 383) rfl (by decide) ?_
  refine Go.aload B Xc2 at_383 (pc' := 385) rfl rfl rfl ?_
  refine Go.iconst B Xc2 3 at_385 (pc' := 386) rfl rfl ?_
  refine Go.callV B Xc2 ec2 (y := ⟨"java/lang/String", "charAt", "(I)C"⟩) (z := ⟨"java/lang/String", "charAt", "(I)C"⟩) (Ct.back (W := 0) (ct_charAt l Z a0 hw y 3 [lo8 d0, lo8 d1, lo8 d2, lo8 d3] (lo8 d3) d3 h n0 hS O hF D rfl (StrChars.chr8_lo8 g3.1.1 g3.2) g3.1) B.hZ (tw hw 124 rfl) (tw hw 8 rfl) nb nb) D.exa (tw hw 120 rfl) (tw hw 121 rfl) (tw hw 123 rfl) (tw hw 122 rfl) (by decide) (notFace_of_selects (args := #[]) (mvT B.hZ (tw hw 123 rfl))) pd_21 at_386 (pc' := 389) rfl rfl (rest := []) rfl rfl nb hcl hsl ?_
  intro vb3 Tb3 Lb3 Xb3 Qb3
  obtain ⟨rfl, Nb3, eb3⟩ := Qb3
  dsimp only [Option.toList, List.nil_append, List.cons_append]
  refine Go.iload B Xb3 at_389 (pc' := 391) rfl rfl ?_
  refine Go.iconst B Xb3 4 at_391 (pc' := 392) rfl rfl ?_
  refine Go.iadd B Xb3 at_392 (pc' := 393) rfl ?_
  refine Go.iload B Xb3 at_393 (pc' := 395) rfl rfl ?_
  refine Go.iload B Xb3 at_395 (pc' := 397) rfl rfl ?_
  refine Go.iload B Xb3 at_397 (pc' := 399) rfl rfl ?_
  refine Go.iload B Xb3 at_399 (pc' := 401) rfl rfl ?_
  refine Go.callS B Xb3 eb3 (y := ⟨"com/example/uplink_augur/uplinkaugur/commondata/InvalidParamExceptionNamePinLaw", "at", "(ICCCC)C"⟩) (Ct.back (W := 1) (ct_at l Z a0 hw (last + 4) c0 c1 c2 c3 h n0 r0 r1 r2 r3) B.hZ (tw hw 136 rfl) (tw hw 3 rfl) nb nb) (tw hw 134 rfl) (tw hw 135 rfl) (tw hw 3 rfl) (tw hw 136 rfl) (by decide) pd_22 at_401 (pc' := 404) rfl rfl (rest := [_]) rfl rfl nb hcl hsl ?_
  intro vc3 Tc3 Lc3 Xc3 Qc3
  obtain ⟨rfl, Nc3, ec3⟩ := Qc3
  dsimp only [Option.toList, List.nil_append, List.cons_append]
  rw [at3]
  refine Go.icF B Xc3 at_404 (pc' := 407) rfl rfl ?_
  refine Go.iconst B Xc3 1 at_407 (pc' := 408) rfl rfl ?_
  refine Go.goto B Xc3 at_408 (by decide) (pc' := 412) rfl ?_
  refine Go.istore B Xc3 at_412 (pc' := 414) rfl rfl rfl ?_
  dsimp only [put1]
  refine Go.iload B Xc3 at_414 (pc' := 416) rfl rfl ?_
  exact Go.zretW B Xc3 ec3 V at_416 rfl hcl hsl ⟨rfl, (Fr.app (Fr.app (Fr.app (Fr.app (Fr.app (Fr.app (Fr.app (Fr.app (Fr.app N Na) Nb0) Nc0) Nb1) Nc1) Nb2) Nc2) Nb3) Nc3)⟩
theorem own_n (p : Int32) : (p &&& 2147483647) % 5 = 0 ∨ (p &&& 2147483647) % 5 = 1 ∨ (p &&& 2147483647) % 5 = 2 ∨ (p &&& 2147483647) % 5 = 3 ∨ (p &&& 2147483647) % 5 = 4 := by
  have h := c_and p 2147483647 (by decide)
  have q := (c_irem (p &&& 2147483647) 5 5 (by decide)).1 h.1
  have e0 : (0 : Int32).toInt = 0 := by decide
  have e1 : (1 : Int32).toInt = 1 := by decide
  have e2 : (2 : Int32).toInt = 2 := by decide
  have e3 : (3 : Int32).toInt = 3 := by decide
  have e4 : (4 : Int32).toInt = 4 := by decide
  rw [← Int32.toInt_inj, ← Int32.toInt_inj, ← Int32.toInt_inj, ← Int32.toInt_inj, ← Int32.toInt_inj, e0, e1, e2, e3, e4]
  omega
theorem pd_23 : parseMethodDescriptor "([C)V" = some ⟨[(.array .char)], none⟩ := by decide +kernel
theorem pd_24 : parseMethodDescriptor "(Ljava/lang/String;)Ljava/lang/String;" = some ⟨[(.object "java/lang/String")], some (.object "java/lang/String")⟩ := by decide +kernel
set_option maxRecDepth 65536 in
set_option maxHeartbeats 40000000 in
theorem own_len0 {p : Program} {l : Launch} {e : Env} {s : State} {m : MethodId} {args : Array Value} {below : List Frame} {meth : Method} {c : Code} {Z : State} {a0 : Array Value} {nm : String} {n0 : Nat} {h : Heap} {vm0 : Vm} {T : State} {locs : List Loc} (hw : ∀ d ∈ tables_1, d.before a0 Z = true) (hEL : EW Z a0 consts_1) (wS : ∀ d ∈ Bundle.stringAtoms, d.before a0 Z = true) (hS : Stz Z) (hF : Sfm Z) (B : Ctx p Z (s.setVm vm0) m meth c x.cls nm code maxLocals ret) (X : Stand p l e room_1 (s.setVm vm0) m args below meth c T locs 0 0) (eT : T.heap = h) (V : Wx Z a0 consts_1 s vm0 h) (O : Old Z n0 h) (N : Fr n0 locs)
    {p0 p1 p2 p3 p4 c0 c1 c2 c3 : Int32} (r0 : Rg c0) (r1 : Rg c1) (r2 : Rg c2) (r3 : Rg c3) :
    Go p e below (EndW s 24 2176 Z consts_1 (fun v h' L => v = some (.int 1) ∧ Fr n0 L)) (T.setTop (fr m 33 [.val (.int p0), .val (.int p1), .val (.int p2), .val (.int p3), .val (.int p4), .val (.int 0), .val (.int c0), .val (.int c1), .val (.int c2), .val (.int c3), .unset, .unset, .unset, .unset, .unset] [])) := by
  refine Go.iload B X at_33 (pc' := 35) rfl rfl ?_
  refine Go.ifF B X at_35 (pc' := 38) rfl rfl ?_
  refine Go.iconst B X 0 at_38 (pc' := 39) rfl rfl ?_
  refine Go.newP B X eT 0 (tw hw 5 rfl) at_39 (pc' := 41) rfl rfl nb nb nb ?_
  intro Tn hn b gn Xn en En An'
  have An : Av Z hn b .char (([] : List Int32).map Value.int) := An'
  have nb0 : n0 ≤ b := by rw [gn, ← O.1]; exact O.2.1
  have hb0 : h.size ≤ b := by rw [gn]; exact Nat.le_refl _
  have On := O.ext En
  have Kn := (Keep.refl h []).ext En
  have Nn := N
  refine Go.astore B Xn at_41 (pc' := 43) rfl rfl rfl rfl ?_
  dsimp only [put1]
  refine Go.goto B Xn at_43 (by decide) (pc' := 143) rfl ?_
  refine Go.newO B Xn en (tw hw 6 rfl) (tw hw 7 rfl) (tw hw 8 rfl) at_143 (pc' := 146) rfl nb nb ?_
  intro Ta ha x ga Xa ea Ea Aa Da
  have V0 : Fld Z ha x "java/lang/String" "value" "[B" .null := Da (Or.inr (tw hw 21 rfl)) (ty := .array .byte) (by decide)
  have C0 : Fld Z ha x "java/lang/String" "coder" "B" (.int 0) := Da (Or.inr (tw hw 22 rfl)) (ty := .byte) (by decide)
  have nx : n0 ≤ x := by rw [ga, ← On.1]; exact On.2.1
  have hx0 : h.size ≤ x := by rw [ga]; exact Kn.1
  have Oa := On.ext Ea
  have Ka := Kn.ext Ea
  have Ab := An.ext Ea
  refine Go.dup B Xa at_146 (pc' := 147) rfl rfl ?_
  refine Go.aload B Xa at_147 (pc' := 149) rfl rfl rfl ?_
  have Va := V.keep Ka all0
  refine Go.callIW B Xa ea Va (y := ⟨"java/lang/String", "<init>", "([C)V"⟩) rfl (CtW.back (W := 1) (ct_init1E l Z a0 hw x b (.int 0) ha n0 hEL wS Oa nx Aa V0 C0 Ab) B.hZ (tw hw 11 rfl) (tw hw 8 rfl) nb nb Va) (tw hw 9 rfl) (tw hw 10 rfl) (tw hw 11 rfl) (by decide) pd_23 at_149 (pc' := 152) rfl rfl (rest := [_]) rfl rfl nb nb nb ?_
  intro vf Tf Lf Bf Xf Qf Vf Sf
  obtain ⟨rfl, Nf, Kf, Df⟩ := Qf
  dsimp only [Option.toList, List.nil_append, List.cons_append]
  have hr : ∀ y ∈ ([] : List Int32), ¬ 255 < y := by intro y hy; exact absurd hy (by simp)
  have K : Keep h Tf.heap [] := Ka.trans Kf (fun y hy => Or.inr (by simp at hy; subst hy; exact hx0))
  have Of := O.keep K all0
  have Dx := StrL.of Df hr
  refine Go.callSW Bf Xf rfl Vf (y := ⟨"com/example/uplink_augur/uplinkaugur/commondata/InvalidParamException", "name", "(Ljava/lang/String;)Ljava/lang/String;"⟩) (CtW.back (W := 0) (ct_name l Z a0 hw x ([].map lo8) Tf.heap n0 hEL wS hS Of Dx hF nb) Bf.hZ (tw hw 30 rfl) (tw hw 29 rfl) nb nb Vf) (tw hw 27 rfl) (tw hw 28 rfl) (tw hw 29 rfl) (tw hw 30 rfl) (by decide) pd_24 at_152 (pc' := 155) rfl rfl (rest := []) rfl rfl nb nb nb ?_
  intro vg Tg Lg Bg Xg Qg Vg Sg
  obtain ⟨y, rfl, Ng, Kg, Dg⟩ := Qg
  dsimp only [Option.toList, List.nil_append, List.cons_append]
  have Og := Of.keep Kg all0
  refine Go.astore Bg Xg at_155 (pc' := 157) rfl rfl rfl rfl ?_
  dsimp only [put1]
  refine Go.iconst Bg Xg (-1) at_157 (pc' := 158) rfl rfl ?_
  refine Go.istore Bg Xg at_158 (pc' := 160) rfl rfl rfl ?_
  dsimp only [put1]
  refine Go.iload Bg Xg at_160 (pc' := 162) rfl rfl ?_
  refine Go.ifT Bg Xg at_162 (by decide) (pc' := 175) rfl (by decide) ?_
  refine Go.iload Bg Xg at_175 (pc' := 177) rfl rfl ?_
  refine Go.iconst Bg Xg 1 at_177 (pc' := 178) rfl rfl ?_
  refine Go.icT Bg Xg at_178 (by decide) (pc' := 191) rfl (by decide) ?_
  refine Go.iload Bg Xg at_191 (pc' := 193) rfl rfl ?_
  refine Go.iconst Bg Xg 2 at_193 (pc' := 194) rfl rfl ?_
  refine Go.icT Bg Xg at_194 (by decide) (pc' := 207) rfl (by decide) ?_
  refine Go.iload Bg Xg at_207 (pc' := 209) rfl rfl ?_
  refine Go.iconst Bg Xg 3 at_209 (pc' := 210) rfl rfl ?_
  refine Go.icT Bg Xg at_210 (by decide) (pc' := 223) rfl (by decide) ?_
  refine Go.iload Bg Xg at_223 (pc' := 225) rfl rfl ?_
  refine Go.iload Bg Xg at_225 (pc' := 227) rfl rfl ?_
  refine Go.isub Bg Xg at_227 (pc' := 228) rfl ?_
  refine Go.iconst Bg Xg 1 at_228 (pc' := 229) rfl rfl ?_
  refine Go.isub Bg Xg at_229 (pc' := 230) rfl ?_
  rw [show ((0 : Int32) - (-1)) - 1 = 0 from by decide]
  refine Go.istore Bg Xg at_230 (pc' := 232) rfl rfl rfl ?_
  dsimp only [put1]
  have ek : lastK ([].map lo8) = 0 := by simp [lastK]
  rw [ek] at Dg
  have Dg2 : StrL Z Tg.heap y [] := Dg
  exact tail0 hw hS hF Bg Xg rfl Vg Og (Fr.app (Fr.app Nn Nf) Ng) nb nb (-1) Dg2 r0 r1 r2 r3  

set_option maxRecDepth 65536 in
set_option maxHeartbeats 40000000 in
theorem own_len1 {p : Program} {l : Launch} {e : Env} {s : State} {m : MethodId} {args : Array Value} {below : List Frame} {meth : Method} {c : Code} {Z : State} {a0 : Array Value} {nm : String} {n0 : Nat} {h : Heap} {vm0 : Vm} {T : State} {locs : List Loc} (hw : ∀ d ∈ tables_1, d.before a0 Z = true) (hEL : EW Z a0 consts_1) (wS : ∀ d ∈ Bundle.stringAtoms, d.before a0 Z = true) (hS : Stz Z) (hF : Sfm Z) (B : Ctx p Z (s.setVm vm0) m meth c x.cls nm code maxLocals ret) (X : Stand p l e room_1 (s.setVm vm0) m args below meth c T locs 0 0) (eT : T.heap = h) (V : Wx Z a0 consts_1 s vm0 h) (O : Old Z n0 h) (N : Fr n0 locs)
    {p0 p1 p2 p3 p4 c0 c1 c2 c3 : Int32} (r0 : Rg c0) (r1 : Rg c1) (r2 : Rg c2) (r3 : Rg c3) :
    Go p e below (EndW s 24 2176 Z consts_1 (fun v h' L => v = some (.int 1) ∧ Fr n0 L)) (T.setTop (fr m 33 [.val (.int p0), .val (.int p1), .val (.int p2), .val (.int p3), .val (.int p4), .val (.int 1), .val (.int c0), .val (.int c1), .val (.int c2), .val (.int c3), .unset, .unset, .unset, .unset, .unset] [])) := by
  refine Go.iload B X at_33 (pc' := 35) rfl rfl ?_
  refine Go.ifT B X at_35 (by decide) (pc' := 46) rfl (by decide) ?_
  refine Go.iload B X at_46 (pc' := 48) rfl rfl ?_
  refine Go.iconst B X 1 at_48 (pc' := 49) rfl rfl ?_
  refine Go.icF B X at_49 (pc' := 52) rfl rfl ?_
  refine Go.iconst B X 1 at_52 (pc' := 53) rfl rfl ?_
  refine Go.newP B X eT 1 (tw hw 5 rfl) at_53 (pc' := 55) rfl rfl nb nb nb ?_
  intro Tn hn b gn Xn en En An'
  have An : Av Z hn b .char (([0] : List Int32).map Value.int) := An'
  have nb0 : n0 ≤ b := by rw [gn, ← O.1]; exact O.2.1
  have hb0 : h.size ≤ b := by rw [gn]; exact Nat.le_refl _
  have On := O.ext En
  have Kn := (Keep.refl h []).ext En
  have Nn := N
  refine Go.dup B Xn at_55 (pc' := 56) rfl rfl ?_
  refine Go.iconst B Xn 0 at_56 (pc' := 57) rfl rfl ?_
  refine Go.iload B Xn at_57 (pc' := 59) rfl rfl ?_
  refine Go.castore B Xn en An 0 at_59 (pc' := 60) rfl rfl nl ?_
  intro Ts0 hs0 Ls0 Fs0 Xs0 es0 Ws0 As0'
  rw [nar_ch r0.1] at As0'
  have As0 : Av Z hs0 b .char (([c0] : List Int32).map Value.int) := As0'
  have Os0 := On.wr Ws0 nb0
  have Ks0 := Kn.wr Ws0 (Or.inr hb0)
  have Ns0 := Fr.app Nn (GoKit.Fr.low Fs0 nb0)
  refine Go.astore B Xs0 at_60 (pc' := 62) rfl rfl rfl rfl ?_
  dsimp only [put1]
  refine Go.goto B Xs0 at_62 (by decide) (pc' := 143) rfl ?_
  refine Go.newO B Xs0 es0 (tw hw 6 rfl) (tw hw 7 rfl) (tw hw 8 rfl) at_143 (pc' := 146) rfl nb nb ?_
  intro Ta ha x ga Xa ea Ea Aa Da
  have V0 : Fld Z ha x "java/lang/String" "value" "[B" .null := Da (Or.inr (tw hw 21 rfl)) (ty := .array .byte) (by decide)
  have C0 : Fld Z ha x "java/lang/String" "coder" "B" (.int 0) := Da (Or.inr (tw hw 22 rfl)) (ty := .byte) (by decide)
  have nx : n0 ≤ x := by rw [ga, ← Os0.1]; exact Os0.2.1
  have hx0 : h.size ≤ x := by rw [ga]; exact Ks0.1
  have Oa := Os0.ext Ea
  have Ka := Ks0.ext Ea
  have Ab := As0.ext Ea
  refine Go.dup B Xa at_146 (pc' := 147) rfl rfl ?_
  refine Go.aload B Xa at_147 (pc' := 149) rfl rfl rfl ?_
  refine Go.callI B Xa ea (y := ⟨"java/lang/String", "<init>", "([C)V"⟩) rfl (Ct.back (W := 1) (ct_init1 l Z a0 hw x b [c0] .null (.int 0) ha n0 hS Oa nx Aa V0 C0 Ab nb nb (by intro y hy; simp only [List.mem_cons, List.not_mem_nil, or_false] at hy; rcases hy with rfl; exact r0.1) (by intro y hy; simp only [List.mem_cons, List.not_mem_nil, or_false] at hy; rcases hy with rfl; exact r0.2)) B.hZ (tw hw 11 rfl) (tw hw 8 rfl) nb nb) (tw hw 9 rfl) (tw hw 10 rfl) (tw hw 11 rfl) (by decide) pd_23 at_149 (pc' := 152) rfl rfl (rest := [_]) rfl rfl nb nb nb ?_
  intro vf Tf Lf Xf Qf
  obtain ⟨rfl, Nf, Kf, Df⟩ := Qf
  dsimp only [Option.toList, List.nil_append, List.cons_append]
  have hr : ∀ y ∈ ([c0] : List Int32), ¬ 255 < y := (by intro y hy; simp only [List.mem_cons, List.not_mem_nil, or_false] at hy; rcases hy with rfl; exact r0.2)
  have K : Keep h Tf.heap [] := Ka.trans Kf (fun y hy => Or.inr (by simp at hy; subst hy; exact hx0))
  have Of := O.keep K all0
  have Dx := StrL.of Df hr
  have Vf := V.keep K all0
  refine Go.callSW B Xf rfl Vf (y := ⟨"com/example/uplink_augur/uplinkaugur/commondata/InvalidParamException", "name", "(Ljava/lang/String;)Ljava/lang/String;"⟩) (CtW.back (W := 0) (ct_name l Z a0 hw x ([c0].map lo8) Tf.heap n0 hEL wS hS Of Dx hF nb) B.hZ (tw hw 30 rfl) (tw hw 29 rfl) nb nb Vf) (tw hw 27 rfl) (tw hw 28 rfl) (tw hw 29 rfl) (tw hw 30 rfl) (by decide) pd_24 at_152 (pc' := 155) rfl rfl (rest := []) rfl rfl nb nb nb ?_
  intro vg Tg Lg Bg Xg Qg Vg Sg
  obtain ⟨y, rfl, Ng, Kg, Dg⟩ := Qg
  dsimp only [Option.toList, List.nil_append, List.cons_append]
  have Og := Of.keep Kg all0
  refine Go.astore Bg Xg at_155 (pc' := 157) rfl rfl rfl rfl ?_
  dsimp only [put1]
  refine Go.iconst Bg Xg (-1) at_157 (pc' := 158) rfl rfl ?_
  refine Go.istore Bg Xg at_158 (pc' := 160) rfl rfl rfl ?_
  dsimp only [put1]
  refine Go.iload Bg Xg at_160 (pc' := 162) rfl rfl ?_
  refine Go.ifF Bg Xg at_162 (pc' := 165) rfl (by decide) ?_
  refine Go.iload Bg Xg at_165 (pc' := 167) rfl rfl ?_
  refine Go.bipush Bg Xg 47 at_167 (pc' := 169) rfl rfl ?_
  refine Go.ic Bg Xg at_169 (by decide) (pcT := 175) rfl (pc' := 172) rfl (fun y0 => ?_) (fun y0 => ?_)
  · dsimp only [GoKit.CP] at y0
    have z0 := lo8_47 r0 y0
    refine Go.iload Bg Xg at_175 (pc' := 177) rfl rfl ?_
    refine Go.iconst Bg Xg 1 at_177 (pc' := 178) rfl rfl ?_
    refine Go.icT Bg Xg at_178 (by decide) (pc' := 191) rfl (by decide) ?_
    refine Go.iload Bg Xg at_191 (pc' := 193) rfl rfl ?_
    refine Go.iconst Bg Xg 2 at_193 (pc' := 194) rfl rfl ?_
    refine Go.icT Bg Xg at_194 (by decide) (pc' := 207) rfl (by decide) ?_
    refine Go.iload Bg Xg at_207 (pc' := 209) rfl rfl ?_
    refine Go.iconst Bg Xg 3 at_209 (pc' := 210) rfl rfl ?_
    refine Go.icT Bg Xg at_210 (by decide) (pc' := 223) rfl (by decide) ?_
    refine Go.iload Bg Xg at_223 (pc' := 225) rfl rfl ?_
    refine Go.iload Bg Xg at_225 (pc' := 227) rfl rfl ?_
    refine Go.isub Bg Xg at_227 (pc' := 228) rfl ?_
    refine Go.iconst Bg Xg 1 at_228 (pc' := 229) rfl rfl ?_
    refine Go.isub Bg Xg at_229 (pc' := 230) rfl ?_
    rw [show ((1 : Int32) - (-1)) - 1 = 1 from by decide]
    refine Go.istore Bg Xg at_230 (pc' := 232) rfl rfl rfl ?_
    dsimp only [put1]
    have ek : lastK ([c0].map lo8) = 0 := by simp [lastK, z0]
    rw [ek] at Dg
    have Dg2 : StrL Z Tg.heap y [lo8 c0] := Dg
    exact tail1 hw hS hF Bg Xg rfl Vg Og (Fr.app (Fr.app Ns0 Nf) Ng) nb nb (-1) Dg2 r0 r1 r2 r3 r0 rfl
  · dsimp only [GoKit.CN] at y0
    have z0 := lo8_eq y0
    refine Go.iconst Bg Xg 0 at_172 (pc' := 173) rfl rfl ?_
    refine Go.istore Bg Xg at_173 (pc' := 175) rfl rfl rfl ?_
    dsimp only [put1]
    refine Go.iload Bg Xg at_175 (pc' := 177) rfl rfl ?_
    refine Go.iconst Bg Xg 1 at_177 (pc' := 178) rfl rfl ?_
    refine Go.icT Bg Xg at_178 (by decide) (pc' := 191) rfl (by decide) ?_
    refine Go.iload Bg Xg at_191 (pc' := 193) rfl rfl ?_
    refine Go.iconst Bg Xg 2 at_193 (pc' := 194) rfl rfl ?_
    refine Go.icT Bg Xg at_194 (by decide) (pc' := 207) rfl (by decide) ?_
    refine Go.iload Bg Xg at_207 (pc' := 209) rfl rfl ?_
    refine Go.iconst Bg Xg 3 at_209 (pc' := 210) rfl rfl ?_
    refine Go.icT Bg Xg at_210 (by decide) (pc' := 223) rfl (by decide) ?_
    refine Go.iload Bg Xg at_223 (pc' := 225) rfl rfl ?_
    refine Go.iload Bg Xg at_225 (pc' := 227) rfl rfl ?_
    refine Go.isub Bg Xg at_227 (pc' := 228) rfl ?_
    refine Go.iconst Bg Xg 1 at_228 (pc' := 229) rfl rfl ?_
    refine Go.isub Bg Xg at_229 (pc' := 230) rfl ?_
    rw [show ((1 : Int32) - 0) - 1 = 0 from by decide]
    refine Go.istore Bg Xg at_230 (pc' := 232) rfl rfl rfl ?_
    dsimp only [put1]
    have ek : lastK ([c0].map lo8) = 1 := by simp [lastK, z0]
    rw [ek] at Dg
    have Dg2 : StrL Z Tg.heap y [] := Dg
    exact tail0 hw hS hF Bg Xg rfl Vg Og (Fr.app (Fr.app Ns0 Nf) Ng) nb nb (0) Dg2 r0 r1 r2 r3  

set_option maxRecDepth 65536 in
set_option maxHeartbeats 40000000 in
theorem own_len2 {p : Program} {l : Launch} {e : Env} {s : State} {m : MethodId} {args : Array Value} {below : List Frame} {meth : Method} {c : Code} {Z : State} {a0 : Array Value} {nm : String} {n0 : Nat} {h : Heap} {vm0 : Vm} {T : State} {locs : List Loc} (hw : ∀ d ∈ tables_1, d.before a0 Z = true) (hEL : EW Z a0 consts_1) (wS : ∀ d ∈ Bundle.stringAtoms, d.before a0 Z = true) (hS : Stz Z) (hF : Sfm Z) (B : Ctx p Z (s.setVm vm0) m meth c x.cls nm code maxLocals ret) (X : Stand p l e room_1 (s.setVm vm0) m args below meth c T locs 0 0) (eT : T.heap = h) (V : Wx Z a0 consts_1 s vm0 h) (O : Old Z n0 h) (N : Fr n0 locs)
    {p0 p1 p2 p3 p4 c0 c1 c2 c3 : Int32} (r0 : Rg c0) (r1 : Rg c1) (r2 : Rg c2) (r3 : Rg c3) :
    Go p e below (EndW s 24 2176 Z consts_1 (fun v h' L => v = some (.int 1) ∧ Fr n0 L)) (T.setTop (fr m 33 [.val (.int p0), .val (.int p1), .val (.int p2), .val (.int p3), .val (.int p4), .val (.int 2), .val (.int c0), .val (.int c1), .val (.int c2), .val (.int c3), .unset, .unset, .unset, .unset, .unset] [])) := by
  refine Go.iload B X at_33 (pc' := 35) rfl rfl ?_
  refine Go.ifT B X at_35 (by decide) (pc' := 46) rfl (by decide) ?_
  refine Go.iload B X at_46 (pc' := 48) rfl rfl ?_
  refine Go.iconst B X 1 at_48 (pc' := 49) rfl rfl ?_
  refine Go.icT B X at_49 (by decide) (pc' := 65) rfl (by decide) ?_
  refine Go.iload B X at_65 (pc' := 67) rfl rfl ?_
  refine Go.iconst B X 2 at_67 (pc' := 68) rfl rfl ?_
  refine Go.icF B X at_68 (pc' := 71) rfl rfl ?_
  refine Go.iconst B X 2 at_71 (pc' := 72) rfl rfl ?_
  refine Go.newP B X eT 2 (tw hw 5 rfl) at_72 (pc' := 74) rfl rfl nb nb nb ?_
  intro Tn hn b gn Xn en En An'
  have An : Av Z hn b .char (([0, 0] : List Int32).map Value.int) := An'
  have nb0 : n0 ≤ b := by rw [gn, ← O.1]; exact O.2.1
  have hb0 : h.size ≤ b := by rw [gn]; exact Nat.le_refl _
  have On := O.ext En
  have Kn := (Keep.refl h []).ext En
  have Nn := N
  refine Go.dup B Xn at_74 (pc' := 75) rfl rfl ?_
  refine Go.iconst B Xn 0 at_75 (pc' := 76) rfl rfl ?_
  refine Go.iload B Xn at_76 (pc' := 78) rfl rfl ?_
  refine Go.castore B Xn en An 0 at_78 (pc' := 79) rfl rfl nl ?_
  intro Ts0 hs0 Ls0 Fs0 Xs0 es0 Ws0 As0'
  rw [nar_ch r0.1] at As0'
  have As0 : Av Z hs0 b .char (([c0, 0] : List Int32).map Value.int) := As0'
  have Os0 := On.wr Ws0 nb0
  have Ks0 := Kn.wr Ws0 (Or.inr hb0)
  have Ns0 := Fr.app Nn (GoKit.Fr.low Fs0 nb0)
  refine Go.dup B Xs0 at_79 (pc' := 80) rfl rfl ?_
  refine Go.iconst B Xs0 1 at_80 (pc' := 81) rfl rfl ?_
  refine Go.iload B Xs0 at_81 (pc' := 83) rfl rfl ?_
  refine Go.castore B Xs0 es0 As0 1 at_83 (pc' := 84) rfl rfl nl ?_
  intro Ts1 hs1 Ls1 Fs1 Xs1 es1 Ws1 As1'
  rw [nar_ch r1.1] at As1'
  have As1 : Av Z hs1 b .char (([c0, c1] : List Int32).map Value.int) := As1'
  have Os1 := Os0.wr Ws1 nb0
  have Ks1 := Ks0.wr Ws1 (Or.inr hb0)
  have Ns1 := Fr.app Ns0 (GoKit.Fr.low Fs1 nb0)
  refine Go.astore B Xs1 at_84 (pc' := 86) rfl rfl rfl rfl ?_
  dsimp only [put1]
  refine Go.goto B Xs1 at_86 (by decide) (pc' := 143) rfl ?_
  refine Go.newO B Xs1 es1 (tw hw 6 rfl) (tw hw 7 rfl) (tw hw 8 rfl) at_143 (pc' := 146) rfl nb nb ?_
  intro Ta ha x ga Xa ea Ea Aa Da
  have V0 : Fld Z ha x "java/lang/String" "value" "[B" .null := Da (Or.inr (tw hw 21 rfl)) (ty := .array .byte) (by decide)
  have C0 : Fld Z ha x "java/lang/String" "coder" "B" (.int 0) := Da (Or.inr (tw hw 22 rfl)) (ty := .byte) (by decide)
  have nx : n0 ≤ x := by rw [ga, ← Os1.1]; exact Os1.2.1
  have hx0 : h.size ≤ x := by rw [ga]; exact Ks1.1
  have Oa := Os1.ext Ea
  have Ka := Ks1.ext Ea
  have Ab := As1.ext Ea
  refine Go.dup B Xa at_146 (pc' := 147) rfl rfl ?_
  refine Go.aload B Xa at_147 (pc' := 149) rfl rfl rfl ?_
  refine Go.callI B Xa ea (y := ⟨"java/lang/String", "<init>", "([C)V"⟩) rfl (Ct.back (W := 1) (ct_init1 l Z a0 hw x b [c0, c1] .null (.int 0) ha n0 hS Oa nx Aa V0 C0 Ab nb nb (by intro y hy; simp only [List.mem_cons, List.not_mem_nil, or_false] at hy; rcases hy with rfl | rfl; exact r0.1; exact r1.1) (by intro y hy; simp only [List.mem_cons, List.not_mem_nil, or_false] at hy; rcases hy with rfl | rfl; exact r0.2; exact r1.2)) B.hZ (tw hw 11 rfl) (tw hw 8 rfl) nb nb) (tw hw 9 rfl) (tw hw 10 rfl) (tw hw 11 rfl) (by decide) pd_23 at_149 (pc' := 152) rfl rfl (rest := [_]) rfl rfl nb nb nb ?_
  intro vf Tf Lf Xf Qf
  obtain ⟨rfl, Nf, Kf, Df⟩ := Qf
  dsimp only [Option.toList, List.nil_append, List.cons_append]
  have hr : ∀ y ∈ ([c0, c1] : List Int32), ¬ 255 < y := (by intro y hy; simp only [List.mem_cons, List.not_mem_nil, or_false] at hy; rcases hy with rfl | rfl; exact r0.2; exact r1.2)
  have K : Keep h Tf.heap [] := Ka.trans Kf (fun y hy => Or.inr (by simp at hy; subst hy; exact hx0))
  have Of := O.keep K all0
  have Dx := StrL.of Df hr
  have Vf := V.keep K all0
  refine Go.callSW B Xf rfl Vf (y := ⟨"com/example/uplink_augur/uplinkaugur/commondata/InvalidParamException", "name", "(Ljava/lang/String;)Ljava/lang/String;"⟩) (CtW.back (W := 0) (ct_name l Z a0 hw x ([c0, c1].map lo8) Tf.heap n0 hEL wS hS Of Dx hF nb) B.hZ (tw hw 30 rfl) (tw hw 29 rfl) nb nb Vf) (tw hw 27 rfl) (tw hw 28 rfl) (tw hw 29 rfl) (tw hw 30 rfl) (by decide) pd_24 at_152 (pc' := 155) rfl rfl (rest := []) rfl rfl nb nb nb ?_
  intro vg Tg Lg Bg Xg Qg Vg Sg
  obtain ⟨y, rfl, Ng, Kg, Dg⟩ := Qg
  dsimp only [Option.toList, List.nil_append, List.cons_append]
  have Og := Of.keep Kg all0
  refine Go.astore Bg Xg at_155 (pc' := 157) rfl rfl rfl rfl ?_
  dsimp only [put1]
  refine Go.iconst Bg Xg (-1) at_157 (pc' := 158) rfl rfl ?_
  refine Go.istore Bg Xg at_158 (pc' := 160) rfl rfl rfl ?_
  dsimp only [put1]
  refine Go.iload Bg Xg at_160 (pc' := 162) rfl rfl ?_
  refine Go.ifF Bg Xg at_162 (pc' := 165) rfl (by decide) ?_
  refine Go.iload Bg Xg at_165 (pc' := 167) rfl rfl ?_
  refine Go.bipush Bg Xg 47 at_167 (pc' := 169) rfl rfl ?_
  refine Go.ic Bg Xg at_169 (by decide) (pcT := 175) rfl (pc' := 172) rfl (fun y0 => ?_) (fun y0 => ?_)
  · dsimp only [GoKit.CP] at y0
    have z0 := lo8_47 r0 y0
    refine Go.iload Bg Xg at_175 (pc' := 177) rfl rfl ?_
    refine Go.iconst Bg Xg 1 at_177 (pc' := 178) rfl rfl ?_
    refine Go.icF Bg Xg at_178 (pc' := 181) rfl (by decide) ?_
    refine Go.iload Bg Xg at_181 (pc' := 183) rfl rfl ?_
    refine Go.bipush Bg Xg 47 at_183 (pc' := 185) rfl rfl ?_
    refine Go.ic Bg Xg at_185 (by decide) (pcT := 191) rfl (pc' := 188) rfl (fun y1 => ?_) (fun y1 => ?_)
    · dsimp only [GoKit.CP] at y1
      have z1 := lo8_47 r1 y1
      refine Go.iload Bg Xg at_191 (pc' := 193) rfl rfl ?_
      refine Go.iconst Bg Xg 2 at_193 (pc' := 194) rfl rfl ?_
      refine Go.icT Bg Xg at_194 (by decide) (pc' := 207) rfl (by decide) ?_
      refine Go.iload Bg Xg at_207 (pc' := 209) rfl rfl ?_
      refine Go.iconst Bg Xg 3 at_209 (pc' := 210) rfl rfl ?_
      refine Go.icT Bg Xg at_210 (by decide) (pc' := 223) rfl (by decide) ?_
      refine Go.iload Bg Xg at_223 (pc' := 225) rfl rfl ?_
      refine Go.iload Bg Xg at_225 (pc' := 227) rfl rfl ?_
      refine Go.isub Bg Xg at_227 (pc' := 228) rfl ?_
      refine Go.iconst Bg Xg 1 at_228 (pc' := 229) rfl rfl ?_
      refine Go.isub Bg Xg at_229 (pc' := 230) rfl ?_
      rw [show ((2 : Int32) - (-1)) - 1 = 2 from by decide]
      refine Go.istore Bg Xg at_230 (pc' := 232) rfl rfl rfl ?_
      dsimp only [put1]
      have ek : lastK ([c0, c1].map lo8) = 0 := by simp [lastK, z0, z1]
      rw [ek] at Dg
      have Dg2 : StrL Z Tg.heap y [lo8 c0, lo8 c1] := Dg
      exact tail2 hw hS hF Bg Xg rfl Vg Og (Fr.app (Fr.app Ns1 Nf) Ng) nb nb (-1) Dg2 r0 r1 r2 r3 r0 r1 rfl rfl
    · dsimp only [GoKit.CN] at y1
      have z1 := lo8_eq y1
      refine Go.iconst Bg Xg 1 at_188 (pc' := 189) rfl rfl ?_
      refine Go.istore Bg Xg at_189 (pc' := 191) rfl rfl rfl ?_
      dsimp only [put1]
      refine Go.iload Bg Xg at_191 (pc' := 193) rfl rfl ?_
      refine Go.iconst Bg Xg 2 at_193 (pc' := 194) rfl rfl ?_
      refine Go.icT Bg Xg at_194 (by decide) (pc' := 207) rfl (by decide) ?_
      refine Go.iload Bg Xg at_207 (pc' := 209) rfl rfl ?_
      refine Go.iconst Bg Xg 3 at_209 (pc' := 210) rfl rfl ?_
      refine Go.icT Bg Xg at_210 (by decide) (pc' := 223) rfl (by decide) ?_
      refine Go.iload Bg Xg at_223 (pc' := 225) rfl rfl ?_
      refine Go.iload Bg Xg at_225 (pc' := 227) rfl rfl ?_
      refine Go.isub Bg Xg at_227 (pc' := 228) rfl ?_
      refine Go.iconst Bg Xg 1 at_228 (pc' := 229) rfl rfl ?_
      refine Go.isub Bg Xg at_229 (pc' := 230) rfl ?_
      rw [show ((2 : Int32) - 1) - 1 = 0 from by decide]
      refine Go.istore Bg Xg at_230 (pc' := 232) rfl rfl rfl ?_
      dsimp only [put1]
      have ek : lastK ([c0, c1].map lo8) = 2 := by simp [lastK, z0, z1]
      rw [ek] at Dg
      have Dg2 : StrL Z Tg.heap y [] := Dg
      exact tail0 hw hS hF Bg Xg rfl Vg Og (Fr.app (Fr.app Ns1 Nf) Ng) nb nb (1) Dg2 r0 r1 r2 r3  
  · dsimp only [GoKit.CN] at y0
    have z0 := lo8_eq y0
    refine Go.iconst Bg Xg 0 at_172 (pc' := 173) rfl rfl ?_
    refine Go.istore Bg Xg at_173 (pc' := 175) rfl rfl rfl ?_
    dsimp only [put1]
    refine Go.iload Bg Xg at_175 (pc' := 177) rfl rfl ?_
    refine Go.iconst Bg Xg 1 at_177 (pc' := 178) rfl rfl ?_
    refine Go.icF Bg Xg at_178 (pc' := 181) rfl (by decide) ?_
    refine Go.iload Bg Xg at_181 (pc' := 183) rfl rfl ?_
    refine Go.bipush Bg Xg 47 at_183 (pc' := 185) rfl rfl ?_
    refine Go.ic Bg Xg at_185 (by decide) (pcT := 191) rfl (pc' := 188) rfl (fun y1 => ?_) (fun y1 => ?_)
    · dsimp only [GoKit.CP] at y1
      have z1 := lo8_47 r1 y1
      refine Go.iload Bg Xg at_191 (pc' := 193) rfl rfl ?_
      refine Go.iconst Bg Xg 2 at_193 (pc' := 194) rfl rfl ?_
      refine Go.icT Bg Xg at_194 (by decide) (pc' := 207) rfl (by decide) ?_
      refine Go.iload Bg Xg at_207 (pc' := 209) rfl rfl ?_
      refine Go.iconst Bg Xg 3 at_209 (pc' := 210) rfl rfl ?_
      refine Go.icT Bg Xg at_210 (by decide) (pc' := 223) rfl (by decide) ?_
      refine Go.iload Bg Xg at_223 (pc' := 225) rfl rfl ?_
      refine Go.iload Bg Xg at_225 (pc' := 227) rfl rfl ?_
      refine Go.isub Bg Xg at_227 (pc' := 228) rfl ?_
      refine Go.iconst Bg Xg 1 at_228 (pc' := 229) rfl rfl ?_
      refine Go.isub Bg Xg at_229 (pc' := 230) rfl ?_
      rw [show ((2 : Int32) - 0) - 1 = 1 from by decide]
      refine Go.istore Bg Xg at_230 (pc' := 232) rfl rfl rfl ?_
      dsimp only [put1]
      have ek : lastK ([c0, c1].map lo8) = 1 := by simp [lastK, z0, z1]
      rw [ek] at Dg
      have Dg2 : StrL Z Tg.heap y [lo8 c1] := Dg
      exact tail1 hw hS hF Bg Xg rfl Vg Og (Fr.app (Fr.app Ns1 Nf) Ng) nb nb (0) Dg2 r0 r1 r2 r3 r1 rfl
    · dsimp only [GoKit.CN] at y1
      have z1 := lo8_eq y1
      refine Go.iconst Bg Xg 1 at_188 (pc' := 189) rfl rfl ?_
      refine Go.istore Bg Xg at_189 (pc' := 191) rfl rfl rfl ?_
      dsimp only [put1]
      refine Go.iload Bg Xg at_191 (pc' := 193) rfl rfl ?_
      refine Go.iconst Bg Xg 2 at_193 (pc' := 194) rfl rfl ?_
      refine Go.icT Bg Xg at_194 (by decide) (pc' := 207) rfl (by decide) ?_
      refine Go.iload Bg Xg at_207 (pc' := 209) rfl rfl ?_
      refine Go.iconst Bg Xg 3 at_209 (pc' := 210) rfl rfl ?_
      refine Go.icT Bg Xg at_210 (by decide) (pc' := 223) rfl (by decide) ?_
      refine Go.iload Bg Xg at_223 (pc' := 225) rfl rfl ?_
      refine Go.iload Bg Xg at_225 (pc' := 227) rfl rfl ?_
      refine Go.isub Bg Xg at_227 (pc' := 228) rfl ?_
      refine Go.iconst Bg Xg 1 at_228 (pc' := 229) rfl rfl ?_
      refine Go.isub Bg Xg at_229 (pc' := 230) rfl ?_
      rw [show ((2 : Int32) - 1) - 1 = 0 from by decide]
      refine Go.istore Bg Xg at_230 (pc' := 232) rfl rfl rfl ?_
      dsimp only [put1]
      have ek : lastK ([c0, c1].map lo8) = 2 := by simp [lastK, z0, z1]
      rw [ek] at Dg
      have Dg2 : StrL Z Tg.heap y [] := Dg
      exact tail0 hw hS hF Bg Xg rfl Vg Og (Fr.app (Fr.app Ns1 Nf) Ng) nb nb (1) Dg2 r0 r1 r2 r3  

set_option maxRecDepth 65536 in
set_option maxHeartbeats 40000000 in
theorem own_len3 {p : Program} {l : Launch} {e : Env} {s : State} {m : MethodId} {args : Array Value} {below : List Frame} {meth : Method} {c : Code} {Z : State} {a0 : Array Value} {nm : String} {n0 : Nat} {h : Heap} {vm0 : Vm} {T : State} {locs : List Loc} (hw : ∀ d ∈ tables_1, d.before a0 Z = true) (hEL : EW Z a0 consts_1) (wS : ∀ d ∈ Bundle.stringAtoms, d.before a0 Z = true) (hS : Stz Z) (hF : Sfm Z) (B : Ctx p Z (s.setVm vm0) m meth c x.cls nm code maxLocals ret) (X : Stand p l e room_1 (s.setVm vm0) m args below meth c T locs 0 0) (eT : T.heap = h) (V : Wx Z a0 consts_1 s vm0 h) (O : Old Z n0 h) (N : Fr n0 locs)
    {p0 p1 p2 p3 p4 c0 c1 c2 c3 : Int32} (r0 : Rg c0) (r1 : Rg c1) (r2 : Rg c2) (r3 : Rg c3) :
    Go p e below (EndW s 24 2176 Z consts_1 (fun v h' L => v = some (.int 1) ∧ Fr n0 L)) (T.setTop (fr m 33 [.val (.int p0), .val (.int p1), .val (.int p2), .val (.int p3), .val (.int p4), .val (.int 3), .val (.int c0), .val (.int c1), .val (.int c2), .val (.int c3), .unset, .unset, .unset, .unset, .unset] [])) := by
  refine Go.iload B X at_33 (pc' := 35) rfl rfl ?_
  refine Go.ifT B X at_35 (by decide) (pc' := 46) rfl (by decide) ?_
  refine Go.iload B X at_46 (pc' := 48) rfl rfl ?_
  refine Go.iconst B X 1 at_48 (pc' := 49) rfl rfl ?_
  refine Go.icT B X at_49 (by decide) (pc' := 65) rfl (by decide) ?_
  refine Go.iload B X at_65 (pc' := 67) rfl rfl ?_
  refine Go.iconst B X 2 at_67 (pc' := 68) rfl rfl ?_
  refine Go.icT B X at_68 (by decide) (pc' := 89) rfl (by decide) ?_
  refine Go.iload B X at_89 (pc' := 91) rfl rfl ?_
  refine Go.iconst B X 3 at_91 (pc' := 92) rfl rfl ?_
  refine Go.icF B X at_92 (pc' := 95) rfl rfl ?_
  refine Go.iconst B X 3 at_95 (pc' := 96) rfl rfl ?_
  refine Go.newP B X eT 3 (tw hw 5 rfl) at_96 (pc' := 98) rfl rfl nb nb nb ?_
  intro Tn hn b gn Xn en En An'
  have An : Av Z hn b .char (([0, 0, 0] : List Int32).map Value.int) := An'
  have nb0 : n0 ≤ b := by rw [gn, ← O.1]; exact O.2.1
  have hb0 : h.size ≤ b := by rw [gn]; exact Nat.le_refl _
  have On := O.ext En
  have Kn := (Keep.refl h []).ext En
  have Nn := N
  refine Go.dup B Xn at_98 (pc' := 99) rfl rfl ?_
  refine Go.iconst B Xn 0 at_99 (pc' := 100) rfl rfl ?_
  refine Go.iload B Xn at_100 (pc' := 102) rfl rfl ?_
  refine Go.castore B Xn en An 0 at_102 (pc' := 103) rfl rfl nl ?_
  intro Ts0 hs0 Ls0 Fs0 Xs0 es0 Ws0 As0'
  rw [nar_ch r0.1] at As0'
  have As0 : Av Z hs0 b .char (([c0, 0, 0] : List Int32).map Value.int) := As0'
  have Os0 := On.wr Ws0 nb0
  have Ks0 := Kn.wr Ws0 (Or.inr hb0)
  have Ns0 := Fr.app Nn (GoKit.Fr.low Fs0 nb0)
  refine Go.dup B Xs0 at_103 (pc' := 104) rfl rfl ?_
  refine Go.iconst B Xs0 1 at_104 (pc' := 105) rfl rfl ?_
  refine Go.iload B Xs0 at_105 (pc' := 107) rfl rfl ?_
  refine Go.castore B Xs0 es0 As0 1 at_107 (pc' := 108) rfl rfl nl ?_
  intro Ts1 hs1 Ls1 Fs1 Xs1 es1 Ws1 As1'
  rw [nar_ch r1.1] at As1'
  have As1 : Av Z hs1 b .char (([c0, c1, 0] : List Int32).map Value.int) := As1'
  have Os1 := Os0.wr Ws1 nb0
  have Ks1 := Ks0.wr Ws1 (Or.inr hb0)
  have Ns1 := Fr.app Ns0 (GoKit.Fr.low Fs1 nb0)
  refine Go.dup B Xs1 at_108 (pc' := 109) rfl rfl ?_
  refine Go.iconst B Xs1 2 at_109 (pc' := 110) rfl rfl ?_
  refine Go.iload B Xs1 at_110 (pc' := 112) rfl rfl ?_
  refine Go.castore B Xs1 es1 As1 2 at_112 (pc' := 113) rfl rfl nl ?_
  intro Ts2 hs2 Ls2 Fs2 Xs2 es2 Ws2 As2'
  rw [nar_ch r2.1] at As2'
  have As2 : Av Z hs2 b .char (([c0, c1, c2] : List Int32).map Value.int) := As2'
  have Os2 := Os1.wr Ws2 nb0
  have Ks2 := Ks1.wr Ws2 (Or.inr hb0)
  have Ns2 := Fr.app Ns1 (GoKit.Fr.low Fs2 nb0)
  refine Go.astore B Xs2 at_113 (pc' := 115) rfl rfl rfl rfl ?_
  dsimp only [put1]
  refine Go.goto B Xs2 at_115 (by decide) (pc' := 143) rfl ?_
  refine Go.newO B Xs2 es2 (tw hw 6 rfl) (tw hw 7 rfl) (tw hw 8 rfl) at_143 (pc' := 146) rfl nb nb ?_
  intro Ta ha x ga Xa ea Ea Aa Da
  have V0 : Fld Z ha x "java/lang/String" "value" "[B" .null := Da (Or.inr (tw hw 21 rfl)) (ty := .array .byte) (by decide)
  have C0 : Fld Z ha x "java/lang/String" "coder" "B" (.int 0) := Da (Or.inr (tw hw 22 rfl)) (ty := .byte) (by decide)
  have nx : n0 ≤ x := by rw [ga, ← Os2.1]; exact Os2.2.1
  have hx0 : h.size ≤ x := by rw [ga]; exact Ks2.1
  have Oa := Os2.ext Ea
  have Ka := Ks2.ext Ea
  have Ab := As2.ext Ea
  refine Go.dup B Xa at_146 (pc' := 147) rfl rfl ?_
  refine Go.aload B Xa at_147 (pc' := 149) rfl rfl rfl ?_
  refine Go.callI B Xa ea (y := ⟨"java/lang/String", "<init>", "([C)V"⟩) rfl (Ct.back (W := 1) (ct_init1 l Z a0 hw x b [c0, c1, c2] .null (.int 0) ha n0 hS Oa nx Aa V0 C0 Ab nb nb (by intro y hy; simp only [List.mem_cons, List.not_mem_nil, or_false] at hy; rcases hy with rfl | rfl | rfl; exact r0.1; exact r1.1; exact r2.1) (by intro y hy; simp only [List.mem_cons, List.not_mem_nil, or_false] at hy; rcases hy with rfl | rfl | rfl; exact r0.2; exact r1.2; exact r2.2)) B.hZ (tw hw 11 rfl) (tw hw 8 rfl) nb nb) (tw hw 9 rfl) (tw hw 10 rfl) (tw hw 11 rfl) (by decide) pd_23 at_149 (pc' := 152) rfl rfl (rest := [_]) rfl rfl nb nb nb ?_
  intro vf Tf Lf Xf Qf
  obtain ⟨rfl, Nf, Kf, Df⟩ := Qf
  dsimp only [Option.toList, List.nil_append, List.cons_append]
  have hr : ∀ y ∈ ([c0, c1, c2] : List Int32), ¬ 255 < y := (by intro y hy; simp only [List.mem_cons, List.not_mem_nil, or_false] at hy; rcases hy with rfl | rfl | rfl; exact r0.2; exact r1.2; exact r2.2)
  have K : Keep h Tf.heap [] := Ka.trans Kf (fun y hy => Or.inr (by simp at hy; subst hy; exact hx0))
  have Of := O.keep K all0
  have Dx := StrL.of Df hr
  have Vf := V.keep K all0
  refine Go.callSW B Xf rfl Vf (y := ⟨"com/example/uplink_augur/uplinkaugur/commondata/InvalidParamException", "name", "(Ljava/lang/String;)Ljava/lang/String;"⟩) (CtW.back (W := 0) (ct_name l Z a0 hw x ([c0, c1, c2].map lo8) Tf.heap n0 hEL wS hS Of Dx hF nb) B.hZ (tw hw 30 rfl) (tw hw 29 rfl) nb nb Vf) (tw hw 27 rfl) (tw hw 28 rfl) (tw hw 29 rfl) (tw hw 30 rfl) (by decide) pd_24 at_152 (pc' := 155) rfl rfl (rest := []) rfl rfl nb nb nb ?_
  intro vg Tg Lg Bg Xg Qg Vg Sg
  obtain ⟨y, rfl, Ng, Kg, Dg⟩ := Qg
  dsimp only [Option.toList, List.nil_append, List.cons_append]
  have Og := Of.keep Kg all0
  refine Go.astore Bg Xg at_155 (pc' := 157) rfl rfl rfl rfl ?_
  dsimp only [put1]
  refine Go.iconst Bg Xg (-1) at_157 (pc' := 158) rfl rfl ?_
  refine Go.istore Bg Xg at_158 (pc' := 160) rfl rfl rfl ?_
  dsimp only [put1]
  refine Go.iload Bg Xg at_160 (pc' := 162) rfl rfl ?_
  refine Go.ifF Bg Xg at_162 (pc' := 165) rfl (by decide) ?_
  refine Go.iload Bg Xg at_165 (pc' := 167) rfl rfl ?_
  refine Go.bipush Bg Xg 47 at_167 (pc' := 169) rfl rfl ?_
  refine Go.ic Bg Xg at_169 (by decide) (pcT := 175) rfl (pc' := 172) rfl (fun y0 => ?_) (fun y0 => ?_)
  · dsimp only [GoKit.CP] at y0
    have z0 := lo8_47 r0 y0
    refine Go.iload Bg Xg at_175 (pc' := 177) rfl rfl ?_
    refine Go.iconst Bg Xg 1 at_177 (pc' := 178) rfl rfl ?_
    refine Go.icF Bg Xg at_178 (pc' := 181) rfl (by decide) ?_
    refine Go.iload Bg Xg at_181 (pc' := 183) rfl rfl ?_
    refine Go.bipush Bg Xg 47 at_183 (pc' := 185) rfl rfl ?_
    refine Go.ic Bg Xg at_185 (by decide) (pcT := 191) rfl (pc' := 188) rfl (fun y1 => ?_) (fun y1 => ?_)
    · dsimp only [GoKit.CP] at y1
      have z1 := lo8_47 r1 y1
      refine Go.iload Bg Xg at_191 (pc' := 193) rfl rfl ?_
      refine Go.iconst Bg Xg 2 at_193 (pc' := 194) rfl rfl ?_
      refine Go.icF Bg Xg at_194 (pc' := 197) rfl (by decide) ?_
      refine Go.iload Bg Xg at_197 (pc' := 199) rfl rfl ?_
      refine Go.bipush Bg Xg 47 at_199 (pc' := 201) rfl rfl ?_
      refine Go.ic Bg Xg at_201 (by decide) (pcT := 207) rfl (pc' := 204) rfl (fun y2 => ?_) (fun y2 => ?_)
      · dsimp only [GoKit.CP] at y2
        have z2 := lo8_47 r2 y2
        refine Go.iload Bg Xg at_207 (pc' := 209) rfl rfl ?_
        refine Go.iconst Bg Xg 3 at_209 (pc' := 210) rfl rfl ?_
        refine Go.icT Bg Xg at_210 (by decide) (pc' := 223) rfl (by decide) ?_
        refine Go.iload Bg Xg at_223 (pc' := 225) rfl rfl ?_
        refine Go.iload Bg Xg at_225 (pc' := 227) rfl rfl ?_
        refine Go.isub Bg Xg at_227 (pc' := 228) rfl ?_
        refine Go.iconst Bg Xg 1 at_228 (pc' := 229) rfl rfl ?_
        refine Go.isub Bg Xg at_229 (pc' := 230) rfl ?_
        rw [show ((3 : Int32) - (-1)) - 1 = 3 from by decide]
        refine Go.istore Bg Xg at_230 (pc' := 232) rfl rfl rfl ?_
        dsimp only [put1]
        have ek : lastK ([c0, c1, c2].map lo8) = 0 := by simp [lastK, z0, z1, z2]
        rw [ek] at Dg
        have Dg2 : StrL Z Tg.heap y [lo8 c0, lo8 c1, lo8 c2] := Dg
        exact tail3 hw hS hF Bg Xg rfl Vg Og (Fr.app (Fr.app Ns2 Nf) Ng) nb nb (-1) Dg2 r0 r1 r2 r3 r0 r1 r2 rfl rfl rfl
      · dsimp only [GoKit.CN] at y2
        have z2 := lo8_eq y2
        refine Go.iconst Bg Xg 2 at_204 (pc' := 205) rfl rfl ?_
        refine Go.istore Bg Xg at_205 (pc' := 207) rfl rfl rfl ?_
        dsimp only [put1]
        refine Go.iload Bg Xg at_207 (pc' := 209) rfl rfl ?_
        refine Go.iconst Bg Xg 3 at_209 (pc' := 210) rfl rfl ?_
        refine Go.icT Bg Xg at_210 (by decide) (pc' := 223) rfl (by decide) ?_
        refine Go.iload Bg Xg at_223 (pc' := 225) rfl rfl ?_
        refine Go.iload Bg Xg at_225 (pc' := 227) rfl rfl ?_
        refine Go.isub Bg Xg at_227 (pc' := 228) rfl ?_
        refine Go.iconst Bg Xg 1 at_228 (pc' := 229) rfl rfl ?_
        refine Go.isub Bg Xg at_229 (pc' := 230) rfl ?_
        rw [show ((3 : Int32) - 2) - 1 = 0 from by decide]
        refine Go.istore Bg Xg at_230 (pc' := 232) rfl rfl rfl ?_
        dsimp only [put1]
        have ek : lastK ([c0, c1, c2].map lo8) = 3 := by simp [lastK, z0, z1, z2]
        rw [ek] at Dg
        have Dg2 : StrL Z Tg.heap y [] := Dg
        exact tail0 hw hS hF Bg Xg rfl Vg Og (Fr.app (Fr.app Ns2 Nf) Ng) nb nb (2) Dg2 r0 r1 r2 r3  
    · dsimp only [GoKit.CN] at y1
      have z1 := lo8_eq y1
      refine Go.iconst Bg Xg 1 at_188 (pc' := 189) rfl rfl ?_
      refine Go.istore Bg Xg at_189 (pc' := 191) rfl rfl rfl ?_
      dsimp only [put1]
      refine Go.iload Bg Xg at_191 (pc' := 193) rfl rfl ?_
      refine Go.iconst Bg Xg 2 at_193 (pc' := 194) rfl rfl ?_
      refine Go.icF Bg Xg at_194 (pc' := 197) rfl (by decide) ?_
      refine Go.iload Bg Xg at_197 (pc' := 199) rfl rfl ?_
      refine Go.bipush Bg Xg 47 at_199 (pc' := 201) rfl rfl ?_
      refine Go.ic Bg Xg at_201 (by decide) (pcT := 207) rfl (pc' := 204) rfl (fun y2 => ?_) (fun y2 => ?_)
      · dsimp only [GoKit.CP] at y2
        have z2 := lo8_47 r2 y2
        refine Go.iload Bg Xg at_207 (pc' := 209) rfl rfl ?_
        refine Go.iconst Bg Xg 3 at_209 (pc' := 210) rfl rfl ?_
        refine Go.icT Bg Xg at_210 (by decide) (pc' := 223) rfl (by decide) ?_
        refine Go.iload Bg Xg at_223 (pc' := 225) rfl rfl ?_
        refine Go.iload Bg Xg at_225 (pc' := 227) rfl rfl ?_
        refine Go.isub Bg Xg at_227 (pc' := 228) rfl ?_
        refine Go.iconst Bg Xg 1 at_228 (pc' := 229) rfl rfl ?_
        refine Go.isub Bg Xg at_229 (pc' := 230) rfl ?_
        rw [show ((3 : Int32) - 1) - 1 = 1 from by decide]
        refine Go.istore Bg Xg at_230 (pc' := 232) rfl rfl rfl ?_
        dsimp only [put1]
        have ek : lastK ([c0, c1, c2].map lo8) = 2 := by simp [lastK, z0, z1, z2]
        rw [ek] at Dg
        have Dg2 : StrL Z Tg.heap y [lo8 c2] := Dg
        exact tail1 hw hS hF Bg Xg rfl Vg Og (Fr.app (Fr.app Ns2 Nf) Ng) nb nb (1) Dg2 r0 r1 r2 r3 r2 rfl
      · dsimp only [GoKit.CN] at y2
        have z2 := lo8_eq y2
        refine Go.iconst Bg Xg 2 at_204 (pc' := 205) rfl rfl ?_
        refine Go.istore Bg Xg at_205 (pc' := 207) rfl rfl rfl ?_
        dsimp only [put1]
        refine Go.iload Bg Xg at_207 (pc' := 209) rfl rfl ?_
        refine Go.iconst Bg Xg 3 at_209 (pc' := 210) rfl rfl ?_
        refine Go.icT Bg Xg at_210 (by decide) (pc' := 223) rfl (by decide) ?_
        refine Go.iload Bg Xg at_223 (pc' := 225) rfl rfl ?_
        refine Go.iload Bg Xg at_225 (pc' := 227) rfl rfl ?_
        refine Go.isub Bg Xg at_227 (pc' := 228) rfl ?_
        refine Go.iconst Bg Xg 1 at_228 (pc' := 229) rfl rfl ?_
        refine Go.isub Bg Xg at_229 (pc' := 230) rfl ?_
        rw [show ((3 : Int32) - 2) - 1 = 0 from by decide]
        refine Go.istore Bg Xg at_230 (pc' := 232) rfl rfl rfl ?_
        dsimp only [put1]
        have ek : lastK ([c0, c1, c2].map lo8) = 3 := by simp [lastK, z0, z1, z2]
        rw [ek] at Dg
        have Dg2 : StrL Z Tg.heap y [] := Dg
        exact tail0 hw hS hF Bg Xg rfl Vg Og (Fr.app (Fr.app Ns2 Nf) Ng) nb nb (2) Dg2 r0 r1 r2 r3  
  · dsimp only [GoKit.CN] at y0
    have z0 := lo8_eq y0
    refine Go.iconst Bg Xg 0 at_172 (pc' := 173) rfl rfl ?_
    refine Go.istore Bg Xg at_173 (pc' := 175) rfl rfl rfl ?_
    dsimp only [put1]
    refine Go.iload Bg Xg at_175 (pc' := 177) rfl rfl ?_
    refine Go.iconst Bg Xg 1 at_177 (pc' := 178) rfl rfl ?_
    refine Go.icF Bg Xg at_178 (pc' := 181) rfl (by decide) ?_
    refine Go.iload Bg Xg at_181 (pc' := 183) rfl rfl ?_
    refine Go.bipush Bg Xg 47 at_183 (pc' := 185) rfl rfl ?_
    refine Go.ic Bg Xg at_185 (by decide) (pcT := 191) rfl (pc' := 188) rfl (fun y1 => ?_) (fun y1 => ?_)
    · dsimp only [GoKit.CP] at y1
      have z1 := lo8_47 r1 y1
      refine Go.iload Bg Xg at_191 (pc' := 193) rfl rfl ?_
      refine Go.iconst Bg Xg 2 at_193 (pc' := 194) rfl rfl ?_
      refine Go.icF Bg Xg at_194 (pc' := 197) rfl (by decide) ?_
      refine Go.iload Bg Xg at_197 (pc' := 199) rfl rfl ?_
      refine Go.bipush Bg Xg 47 at_199 (pc' := 201) rfl rfl ?_
      refine Go.ic Bg Xg at_201 (by decide) (pcT := 207) rfl (pc' := 204) rfl (fun y2 => ?_) (fun y2 => ?_)
      · dsimp only [GoKit.CP] at y2
        have z2 := lo8_47 r2 y2
        refine Go.iload Bg Xg at_207 (pc' := 209) rfl rfl ?_
        refine Go.iconst Bg Xg 3 at_209 (pc' := 210) rfl rfl ?_
        refine Go.icT Bg Xg at_210 (by decide) (pc' := 223) rfl (by decide) ?_
        refine Go.iload Bg Xg at_223 (pc' := 225) rfl rfl ?_
        refine Go.iload Bg Xg at_225 (pc' := 227) rfl rfl ?_
        refine Go.isub Bg Xg at_227 (pc' := 228) rfl ?_
        refine Go.iconst Bg Xg 1 at_228 (pc' := 229) rfl rfl ?_
        refine Go.isub Bg Xg at_229 (pc' := 230) rfl ?_
        rw [show ((3 : Int32) - 0) - 1 = 2 from by decide]
        refine Go.istore Bg Xg at_230 (pc' := 232) rfl rfl rfl ?_
        dsimp only [put1]
        have ek : lastK ([c0, c1, c2].map lo8) = 1 := by simp [lastK, z0, z1, z2]
        rw [ek] at Dg
        have Dg2 : StrL Z Tg.heap y [lo8 c1, lo8 c2] := Dg
        exact tail2 hw hS hF Bg Xg rfl Vg Og (Fr.app (Fr.app Ns2 Nf) Ng) nb nb (0) Dg2 r0 r1 r2 r3 r1 r2 rfl rfl
      · dsimp only [GoKit.CN] at y2
        have z2 := lo8_eq y2
        refine Go.iconst Bg Xg 2 at_204 (pc' := 205) rfl rfl ?_
        refine Go.istore Bg Xg at_205 (pc' := 207) rfl rfl rfl ?_
        dsimp only [put1]
        refine Go.iload Bg Xg at_207 (pc' := 209) rfl rfl ?_
        refine Go.iconst Bg Xg 3 at_209 (pc' := 210) rfl rfl ?_
        refine Go.icT Bg Xg at_210 (by decide) (pc' := 223) rfl (by decide) ?_
        refine Go.iload Bg Xg at_223 (pc' := 225) rfl rfl ?_
        refine Go.iload Bg Xg at_225 (pc' := 227) rfl rfl ?_
        refine Go.isub Bg Xg at_227 (pc' := 228) rfl ?_
        refine Go.iconst Bg Xg 1 at_228 (pc' := 229) rfl rfl ?_
        refine Go.isub Bg Xg at_229 (pc' := 230) rfl ?_
        rw [show ((3 : Int32) - 2) - 1 = 0 from by decide]
        refine Go.istore Bg Xg at_230 (pc' := 232) rfl rfl rfl ?_
        dsimp only [put1]
        have ek : lastK ([c0, c1, c2].map lo8) = 3 := by simp [lastK, z0, z1, z2]
        rw [ek] at Dg
        have Dg2 : StrL Z Tg.heap y [] := Dg
        exact tail0 hw hS hF Bg Xg rfl Vg Og (Fr.app (Fr.app Ns2 Nf) Ng) nb nb (2) Dg2 r0 r1 r2 r3  
    · dsimp only [GoKit.CN] at y1
      have z1 := lo8_eq y1
      refine Go.iconst Bg Xg 1 at_188 (pc' := 189) rfl rfl ?_
      refine Go.istore Bg Xg at_189 (pc' := 191) rfl rfl rfl ?_
      dsimp only [put1]
      refine Go.iload Bg Xg at_191 (pc' := 193) rfl rfl ?_
      refine Go.iconst Bg Xg 2 at_193 (pc' := 194) rfl rfl ?_
      refine Go.icF Bg Xg at_194 (pc' := 197) rfl (by decide) ?_
      refine Go.iload Bg Xg at_197 (pc' := 199) rfl rfl ?_
      refine Go.bipush Bg Xg 47 at_199 (pc' := 201) rfl rfl ?_
      refine Go.ic Bg Xg at_201 (by decide) (pcT := 207) rfl (pc' := 204) rfl (fun y2 => ?_) (fun y2 => ?_)
      · dsimp only [GoKit.CP] at y2
        have z2 := lo8_47 r2 y2
        refine Go.iload Bg Xg at_207 (pc' := 209) rfl rfl ?_
        refine Go.iconst Bg Xg 3 at_209 (pc' := 210) rfl rfl ?_
        refine Go.icT Bg Xg at_210 (by decide) (pc' := 223) rfl (by decide) ?_
        refine Go.iload Bg Xg at_223 (pc' := 225) rfl rfl ?_
        refine Go.iload Bg Xg at_225 (pc' := 227) rfl rfl ?_
        refine Go.isub Bg Xg at_227 (pc' := 228) rfl ?_
        refine Go.iconst Bg Xg 1 at_228 (pc' := 229) rfl rfl ?_
        refine Go.isub Bg Xg at_229 (pc' := 230) rfl ?_
        rw [show ((3 : Int32) - 1) - 1 = 1 from by decide]
        refine Go.istore Bg Xg at_230 (pc' := 232) rfl rfl rfl ?_
        dsimp only [put1]
        have ek : lastK ([c0, c1, c2].map lo8) = 2 := by simp [lastK, z0, z1, z2]
        rw [ek] at Dg
        have Dg2 : StrL Z Tg.heap y [lo8 c2] := Dg
        exact tail1 hw hS hF Bg Xg rfl Vg Og (Fr.app (Fr.app Ns2 Nf) Ng) nb nb (1) Dg2 r0 r1 r2 r3 r2 rfl
      · dsimp only [GoKit.CN] at y2
        have z2 := lo8_eq y2
        refine Go.iconst Bg Xg 2 at_204 (pc' := 205) rfl rfl ?_
        refine Go.istore Bg Xg at_205 (pc' := 207) rfl rfl rfl ?_
        dsimp only [put1]
        refine Go.iload Bg Xg at_207 (pc' := 209) rfl rfl ?_
        refine Go.iconst Bg Xg 3 at_209 (pc' := 210) rfl rfl ?_
        refine Go.icT Bg Xg at_210 (by decide) (pc' := 223) rfl (by decide) ?_
        refine Go.iload Bg Xg at_223 (pc' := 225) rfl rfl ?_
        refine Go.iload Bg Xg at_225 (pc' := 227) rfl rfl ?_
        refine Go.isub Bg Xg at_227 (pc' := 228) rfl ?_
        refine Go.iconst Bg Xg 1 at_228 (pc' := 229) rfl rfl ?_
        refine Go.isub Bg Xg at_229 (pc' := 230) rfl ?_
        rw [show ((3 : Int32) - 2) - 1 = 0 from by decide]
        refine Go.istore Bg Xg at_230 (pc' := 232) rfl rfl rfl ?_
        dsimp only [put1]
        have ek : lastK ([c0, c1, c2].map lo8) = 3 := by simp [lastK, z0, z1, z2]
        rw [ek] at Dg
        have Dg2 : StrL Z Tg.heap y [] := Dg
        exact tail0 hw hS hF Bg Xg rfl Vg Og (Fr.app (Fr.app Ns2 Nf) Ng) nb nb (2) Dg2 r0 r1 r2 r3  

set_option maxRecDepth 65536 in
set_option maxHeartbeats 40000000 in
theorem own_len4 {p : Program} {l : Launch} {e : Env} {s : State} {m : MethodId} {args : Array Value} {below : List Frame} {meth : Method} {c : Code} {Z : State} {a0 : Array Value} {nm : String} {n0 : Nat} {h : Heap} {vm0 : Vm} {T : State} {locs : List Loc} (hw : ∀ d ∈ tables_1, d.before a0 Z = true) (hEL : EW Z a0 consts_1) (wS : ∀ d ∈ Bundle.stringAtoms, d.before a0 Z = true) (hS : Stz Z) (hF : Sfm Z) (B : Ctx p Z (s.setVm vm0) m meth c x.cls nm code maxLocals ret) (X : Stand p l e room_1 (s.setVm vm0) m args below meth c T locs 0 0) (eT : T.heap = h) (V : Wx Z a0 consts_1 s vm0 h) (O : Old Z n0 h) (N : Fr n0 locs)
    {p0 p1 p2 p3 p4 c0 c1 c2 c3 : Int32} (r0 : Rg c0) (r1 : Rg c1) (r2 : Rg c2) (r3 : Rg c3) :
    Go p e below (EndW s 24 2176 Z consts_1 (fun v h' L => v = some (.int 1) ∧ Fr n0 L)) (T.setTop (fr m 33 [.val (.int p0), .val (.int p1), .val (.int p2), .val (.int p3), .val (.int p4), .val (.int 4), .val (.int c0), .val (.int c1), .val (.int c2), .val (.int c3), .unset, .unset, .unset, .unset, .unset] [])) := by
  refine Go.iload B X at_33 (pc' := 35) rfl rfl ?_
  refine Go.ifT B X at_35 (by decide) (pc' := 46) rfl (by decide) ?_
  refine Go.iload B X at_46 (pc' := 48) rfl rfl ?_
  refine Go.iconst B X 1 at_48 (pc' := 49) rfl rfl ?_
  refine Go.icT B X at_49 (by decide) (pc' := 65) rfl (by decide) ?_
  refine Go.iload B X at_65 (pc' := 67) rfl rfl ?_
  refine Go.iconst B X 2 at_67 (pc' := 68) rfl rfl ?_
  refine Go.icT B X at_68 (by decide) (pc' := 89) rfl (by decide) ?_
  refine Go.iload B X at_89 (pc' := 91) rfl rfl ?_
  refine Go.iconst B X 3 at_91 (pc' := 92) rfl rfl ?_
  refine Go.icT B X at_92 (by decide) (pc' := 118) rfl (by decide) ?_
  refine Go.iconst B X 4 at_118 (pc' := 119) rfl rfl ?_
  refine Go.newP B X eT 4 (tw hw 5 rfl) at_119 (pc' := 121) rfl rfl nb nb nb ?_
  intro Tn hn b gn Xn en En An'
  have An : Av Z hn b .char (([0, 0, 0, 0] : List Int32).map Value.int) := An'
  have nb0 : n0 ≤ b := by rw [gn, ← O.1]; exact O.2.1
  have hb0 : h.size ≤ b := by rw [gn]; exact Nat.le_refl _
  have On := O.ext En
  have Kn := (Keep.refl h []).ext En
  have Nn := N
  refine Go.dup B Xn at_121 (pc' := 122) rfl rfl ?_
  refine Go.iconst B Xn 0 at_122 (pc' := 123) rfl rfl ?_
  refine Go.iload B Xn at_123 (pc' := 125) rfl rfl ?_
  refine Go.castore B Xn en An 0 at_125 (pc' := 126) rfl rfl nl ?_
  intro Ts0 hs0 Ls0 Fs0 Xs0 es0 Ws0 As0'
  rw [nar_ch r0.1] at As0'
  have As0 : Av Z hs0 b .char (([c0, 0, 0, 0] : List Int32).map Value.int) := As0'
  have Os0 := On.wr Ws0 nb0
  have Ks0 := Kn.wr Ws0 (Or.inr hb0)
  have Ns0 := Fr.app Nn (GoKit.Fr.low Fs0 nb0)
  refine Go.dup B Xs0 at_126 (pc' := 127) rfl rfl ?_
  refine Go.iconst B Xs0 1 at_127 (pc' := 128) rfl rfl ?_
  refine Go.iload B Xs0 at_128 (pc' := 130) rfl rfl ?_
  refine Go.castore B Xs0 es0 As0 1 at_130 (pc' := 131) rfl rfl nl ?_
  intro Ts1 hs1 Ls1 Fs1 Xs1 es1 Ws1 As1'
  rw [nar_ch r1.1] at As1'
  have As1 : Av Z hs1 b .char (([c0, c1, 0, 0] : List Int32).map Value.int) := As1'
  have Os1 := Os0.wr Ws1 nb0
  have Ks1 := Ks0.wr Ws1 (Or.inr hb0)
  have Ns1 := Fr.app Ns0 (GoKit.Fr.low Fs1 nb0)
  refine Go.dup B Xs1 at_131 (pc' := 132) rfl rfl ?_
  refine Go.iconst B Xs1 2 at_132 (pc' := 133) rfl rfl ?_
  refine Go.iload B Xs1 at_133 (pc' := 135) rfl rfl ?_
  refine Go.castore B Xs1 es1 As1 2 at_135 (pc' := 136) rfl rfl nl ?_
  intro Ts2 hs2 Ls2 Fs2 Xs2 es2 Ws2 As2'
  rw [nar_ch r2.1] at As2'
  have As2 : Av Z hs2 b .char (([c0, c1, c2, 0] : List Int32).map Value.int) := As2'
  have Os2 := Os1.wr Ws2 nb0
  have Ks2 := Ks1.wr Ws2 (Or.inr hb0)
  have Ns2 := Fr.app Ns1 (GoKit.Fr.low Fs2 nb0)
  refine Go.dup B Xs2 at_136 (pc' := 137) rfl rfl ?_
  refine Go.iconst B Xs2 3 at_137 (pc' := 138) rfl rfl ?_
  refine Go.iload B Xs2 at_138 (pc' := 140) rfl rfl ?_
  refine Go.castore B Xs2 es2 As2 3 at_140 (pc' := 141) rfl rfl nl ?_
  intro Ts3 hs3 Ls3 Fs3 Xs3 es3 Ws3 As3'
  rw [nar_ch r3.1] at As3'
  have As3 : Av Z hs3 b .char (([c0, c1, c2, c3] : List Int32).map Value.int) := As3'
  have Os3 := Os2.wr Ws3 nb0
  have Ks3 := Ks2.wr Ws3 (Or.inr hb0)
  have Ns3 := Fr.app Ns2 (GoKit.Fr.low Fs3 nb0)
  refine Go.astore B Xs3 at_141 (pc' := 143) rfl rfl rfl rfl ?_
  dsimp only [put1]
  refine Go.newO B Xs3 es3 (tw hw 6 rfl) (tw hw 7 rfl) (tw hw 8 rfl) at_143 (pc' := 146) rfl nb nb ?_
  intro Ta ha x ga Xa ea Ea Aa Da
  have V0 : Fld Z ha x "java/lang/String" "value" "[B" .null := Da (Or.inr (tw hw 21 rfl)) (ty := .array .byte) (by decide)
  have C0 : Fld Z ha x "java/lang/String" "coder" "B" (.int 0) := Da (Or.inr (tw hw 22 rfl)) (ty := .byte) (by decide)
  have nx : n0 ≤ x := by rw [ga, ← Os3.1]; exact Os3.2.1
  have hx0 : h.size ≤ x := by rw [ga]; exact Ks3.1
  have Oa := Os3.ext Ea
  have Ka := Ks3.ext Ea
  have Ab := As3.ext Ea
  refine Go.dup B Xa at_146 (pc' := 147) rfl rfl ?_
  refine Go.aload B Xa at_147 (pc' := 149) rfl rfl rfl ?_
  refine Go.callI B Xa ea (y := ⟨"java/lang/String", "<init>", "([C)V"⟩) rfl (Ct.back (W := 1) (ct_init1 l Z a0 hw x b [c0, c1, c2, c3] .null (.int 0) ha n0 hS Oa nx Aa V0 C0 Ab nb nb (by intro y hy; simp only [List.mem_cons, List.not_mem_nil, or_false] at hy; rcases hy with rfl | rfl | rfl | rfl; exact r0.1; exact r1.1; exact r2.1; exact r3.1) (by intro y hy; simp only [List.mem_cons, List.not_mem_nil, or_false] at hy; rcases hy with rfl | rfl | rfl | rfl; exact r0.2; exact r1.2; exact r2.2; exact r3.2)) B.hZ (tw hw 11 rfl) (tw hw 8 rfl) nb nb) (tw hw 9 rfl) (tw hw 10 rfl) (tw hw 11 rfl) (by decide) pd_23 at_149 (pc' := 152) rfl rfl (rest := [_]) rfl rfl nb nb nb ?_
  intro vf Tf Lf Xf Qf
  obtain ⟨rfl, Nf, Kf, Df⟩ := Qf
  dsimp only [Option.toList, List.nil_append, List.cons_append]
  have hr : ∀ y ∈ ([c0, c1, c2, c3] : List Int32), ¬ 255 < y := (by intro y hy; simp only [List.mem_cons, List.not_mem_nil, or_false] at hy; rcases hy with rfl | rfl | rfl | rfl; exact r0.2; exact r1.2; exact r2.2; exact r3.2)
  have K : Keep h Tf.heap [] := Ka.trans Kf (fun y hy => Or.inr (by simp at hy; subst hy; exact hx0))
  have Of := O.keep K all0
  have Dx := StrL.of Df hr
  have Vf := V.keep K all0
  refine Go.callSW B Xf rfl Vf (y := ⟨"com/example/uplink_augur/uplinkaugur/commondata/InvalidParamException", "name", "(Ljava/lang/String;)Ljava/lang/String;"⟩) (CtW.back (W := 0) (ct_name l Z a0 hw x ([c0, c1, c2, c3].map lo8) Tf.heap n0 hEL wS hS Of Dx hF nb) B.hZ (tw hw 30 rfl) (tw hw 29 rfl) nb nb Vf) (tw hw 27 rfl) (tw hw 28 rfl) (tw hw 29 rfl) (tw hw 30 rfl) (by decide) pd_24 at_152 (pc' := 155) rfl rfl (rest := []) rfl rfl nb nb nb ?_
  intro vg Tg Lg Bg Xg Qg Vg Sg
  obtain ⟨y, rfl, Ng, Kg, Dg⟩ := Qg
  dsimp only [Option.toList, List.nil_append, List.cons_append]
  have Og := Of.keep Kg all0
  refine Go.astore Bg Xg at_155 (pc' := 157) rfl rfl rfl rfl ?_
  dsimp only [put1]
  refine Go.iconst Bg Xg (-1) at_157 (pc' := 158) rfl rfl ?_
  refine Go.istore Bg Xg at_158 (pc' := 160) rfl rfl rfl ?_
  dsimp only [put1]
  refine Go.iload Bg Xg at_160 (pc' := 162) rfl rfl ?_
  refine Go.ifF Bg Xg at_162 (pc' := 165) rfl (by decide) ?_
  refine Go.iload Bg Xg at_165 (pc' := 167) rfl rfl ?_
  refine Go.bipush Bg Xg 47 at_167 (pc' := 169) rfl rfl ?_
  refine Go.ic Bg Xg at_169 (by decide) (pcT := 175) rfl (pc' := 172) rfl (fun y0 => ?_) (fun y0 => ?_)
  · dsimp only [GoKit.CP] at y0
    have z0 := lo8_47 r0 y0
    refine Go.iload Bg Xg at_175 (pc' := 177) rfl rfl ?_
    refine Go.iconst Bg Xg 1 at_177 (pc' := 178) rfl rfl ?_
    refine Go.icF Bg Xg at_178 (pc' := 181) rfl (by decide) ?_
    refine Go.iload Bg Xg at_181 (pc' := 183) rfl rfl ?_
    refine Go.bipush Bg Xg 47 at_183 (pc' := 185) rfl rfl ?_
    refine Go.ic Bg Xg at_185 (by decide) (pcT := 191) rfl (pc' := 188) rfl (fun y1 => ?_) (fun y1 => ?_)
    · dsimp only [GoKit.CP] at y1
      have z1 := lo8_47 r1 y1
      refine Go.iload Bg Xg at_191 (pc' := 193) rfl rfl ?_
      refine Go.iconst Bg Xg 2 at_193 (pc' := 194) rfl rfl ?_
      refine Go.icF Bg Xg at_194 (pc' := 197) rfl (by decide) ?_
      refine Go.iload Bg Xg at_197 (pc' := 199) rfl rfl ?_
      refine Go.bipush Bg Xg 47 at_199 (pc' := 201) rfl rfl ?_
      refine Go.ic Bg Xg at_201 (by decide) (pcT := 207) rfl (pc' := 204) rfl (fun y2 => ?_) (fun y2 => ?_)
      · dsimp only [GoKit.CP] at y2
        have z2 := lo8_47 r2 y2
        refine Go.iload Bg Xg at_207 (pc' := 209) rfl rfl ?_
        refine Go.iconst Bg Xg 3 at_209 (pc' := 210) rfl rfl ?_
        refine Go.icF Bg Xg at_210 (pc' := 213) rfl (by decide) ?_
        refine Go.iload Bg Xg at_213 (pc' := 215) rfl rfl ?_
        refine Go.bipush Bg Xg 47 at_215 (pc' := 217) rfl rfl ?_
        refine Go.ic Bg Xg at_217 (by decide) (pcT := 223) rfl (pc' := 220) rfl (fun y3 => ?_) (fun y3 => ?_)
        · dsimp only [GoKit.CP] at y3
          have z3 := lo8_47 r3 y3
          refine Go.iload Bg Xg at_223 (pc' := 225) rfl rfl ?_
          refine Go.iload Bg Xg at_225 (pc' := 227) rfl rfl ?_
          refine Go.isub Bg Xg at_227 (pc' := 228) rfl ?_
          refine Go.iconst Bg Xg 1 at_228 (pc' := 229) rfl rfl ?_
          refine Go.isub Bg Xg at_229 (pc' := 230) rfl ?_
          rw [show ((4 : Int32) - (-1)) - 1 = 4 from by decide]
          refine Go.istore Bg Xg at_230 (pc' := 232) rfl rfl rfl ?_
          dsimp only [put1]
          have ek : lastK ([c0, c1, c2, c3].map lo8) = 0 := by simp [lastK, z0, z1, z2, z3]
          rw [ek] at Dg
          have Dg2 : StrL Z Tg.heap y [lo8 c0, lo8 c1, lo8 c2, lo8 c3] := Dg
          exact tail4 hw hS hF Bg Xg rfl Vg Og (Fr.app (Fr.app Ns3 Nf) Ng) nb nb (-1) Dg2 r0 r1 r2 r3 r0 r1 r2 r3 rfl rfl rfl rfl
        · dsimp only [GoKit.CN] at y3
          have z3 := lo8_eq y3
          refine Go.iconst Bg Xg 3 at_220 (pc' := 221) rfl rfl ?_
          refine Go.istore Bg Xg at_221 (pc' := 223) rfl rfl rfl ?_
          dsimp only [put1]
          refine Go.iload Bg Xg at_223 (pc' := 225) rfl rfl ?_
          refine Go.iload Bg Xg at_225 (pc' := 227) rfl rfl ?_
          refine Go.isub Bg Xg at_227 (pc' := 228) rfl ?_
          refine Go.iconst Bg Xg 1 at_228 (pc' := 229) rfl rfl ?_
          refine Go.isub Bg Xg at_229 (pc' := 230) rfl ?_
          rw [show ((4 : Int32) - 3) - 1 = 0 from by decide]
          refine Go.istore Bg Xg at_230 (pc' := 232) rfl rfl rfl ?_
          dsimp only [put1]
          have ek : lastK ([c0, c1, c2, c3].map lo8) = 4 := by simp [lastK, z0, z1, z2, z3]
          rw [ek] at Dg
          have Dg2 : StrL Z Tg.heap y [] := Dg
          exact tail0 hw hS hF Bg Xg rfl Vg Og (Fr.app (Fr.app Ns3 Nf) Ng) nb nb (3) Dg2 r0 r1 r2 r3  
      · dsimp only [GoKit.CN] at y2
        have z2 := lo8_eq y2
        refine Go.iconst Bg Xg 2 at_204 (pc' := 205) rfl rfl ?_
        refine Go.istore Bg Xg at_205 (pc' := 207) rfl rfl rfl ?_
        dsimp only [put1]
        refine Go.iload Bg Xg at_207 (pc' := 209) rfl rfl ?_
        refine Go.iconst Bg Xg 3 at_209 (pc' := 210) rfl rfl ?_
        refine Go.icF Bg Xg at_210 (pc' := 213) rfl (by decide) ?_
        refine Go.iload Bg Xg at_213 (pc' := 215) rfl rfl ?_
        refine Go.bipush Bg Xg 47 at_215 (pc' := 217) rfl rfl ?_
        refine Go.ic Bg Xg at_217 (by decide) (pcT := 223) rfl (pc' := 220) rfl (fun y3 => ?_) (fun y3 => ?_)
        · dsimp only [GoKit.CP] at y3
          have z3 := lo8_47 r3 y3
          refine Go.iload Bg Xg at_223 (pc' := 225) rfl rfl ?_
          refine Go.iload Bg Xg at_225 (pc' := 227) rfl rfl ?_
          refine Go.isub Bg Xg at_227 (pc' := 228) rfl ?_
          refine Go.iconst Bg Xg 1 at_228 (pc' := 229) rfl rfl ?_
          refine Go.isub Bg Xg at_229 (pc' := 230) rfl ?_
          rw [show ((4 : Int32) - 2) - 1 = 1 from by decide]
          refine Go.istore Bg Xg at_230 (pc' := 232) rfl rfl rfl ?_
          dsimp only [put1]
          have ek : lastK ([c0, c1, c2, c3].map lo8) = 3 := by simp [lastK, z0, z1, z2, z3]
          rw [ek] at Dg
          have Dg2 : StrL Z Tg.heap y [lo8 c3] := Dg
          exact tail1 hw hS hF Bg Xg rfl Vg Og (Fr.app (Fr.app Ns3 Nf) Ng) nb nb (2) Dg2 r0 r1 r2 r3 r3 rfl
        · dsimp only [GoKit.CN] at y3
          have z3 := lo8_eq y3
          refine Go.iconst Bg Xg 3 at_220 (pc' := 221) rfl rfl ?_
          refine Go.istore Bg Xg at_221 (pc' := 223) rfl rfl rfl ?_
          dsimp only [put1]
          refine Go.iload Bg Xg at_223 (pc' := 225) rfl rfl ?_
          refine Go.iload Bg Xg at_225 (pc' := 227) rfl rfl ?_
          refine Go.isub Bg Xg at_227 (pc' := 228) rfl ?_
          refine Go.iconst Bg Xg 1 at_228 (pc' := 229) rfl rfl ?_
          refine Go.isub Bg Xg at_229 (pc' := 230) rfl ?_
          rw [show ((4 : Int32) - 3) - 1 = 0 from by decide]
          refine Go.istore Bg Xg at_230 (pc' := 232) rfl rfl rfl ?_
          dsimp only [put1]
          have ek : lastK ([c0, c1, c2, c3].map lo8) = 4 := by simp [lastK, z0, z1, z2, z3]
          rw [ek] at Dg
          have Dg2 : StrL Z Tg.heap y [] := Dg
          exact tail0 hw hS hF Bg Xg rfl Vg Og (Fr.app (Fr.app Ns3 Nf) Ng) nb nb (3) Dg2 r0 r1 r2 r3  
    · dsimp only [GoKit.CN] at y1
      have z1 := lo8_eq y1
      refine Go.iconst Bg Xg 1 at_188 (pc' := 189) rfl rfl ?_
      refine Go.istore Bg Xg at_189 (pc' := 191) rfl rfl rfl ?_
      dsimp only [put1]
      refine Go.iload Bg Xg at_191 (pc' := 193) rfl rfl ?_
      refine Go.iconst Bg Xg 2 at_193 (pc' := 194) rfl rfl ?_
      refine Go.icF Bg Xg at_194 (pc' := 197) rfl (by decide) ?_
      refine Go.iload Bg Xg at_197 (pc' := 199) rfl rfl ?_
      refine Go.bipush Bg Xg 47 at_199 (pc' := 201) rfl rfl ?_
      refine Go.ic Bg Xg at_201 (by decide) (pcT := 207) rfl (pc' := 204) rfl (fun y2 => ?_) (fun y2 => ?_)
      · dsimp only [GoKit.CP] at y2
        have z2 := lo8_47 r2 y2
        refine Go.iload Bg Xg at_207 (pc' := 209) rfl rfl ?_
        refine Go.iconst Bg Xg 3 at_209 (pc' := 210) rfl rfl ?_
        refine Go.icF Bg Xg at_210 (pc' := 213) rfl (by decide) ?_
        refine Go.iload Bg Xg at_213 (pc' := 215) rfl rfl ?_
        refine Go.bipush Bg Xg 47 at_215 (pc' := 217) rfl rfl ?_
        refine Go.ic Bg Xg at_217 (by decide) (pcT := 223) rfl (pc' := 220) rfl (fun y3 => ?_) (fun y3 => ?_)
        · dsimp only [GoKit.CP] at y3
          have z3 := lo8_47 r3 y3
          refine Go.iload Bg Xg at_223 (pc' := 225) rfl rfl ?_
          refine Go.iload Bg Xg at_225 (pc' := 227) rfl rfl ?_
          refine Go.isub Bg Xg at_227 (pc' := 228) rfl ?_
          refine Go.iconst Bg Xg 1 at_228 (pc' := 229) rfl rfl ?_
          refine Go.isub Bg Xg at_229 (pc' := 230) rfl ?_
          rw [show ((4 : Int32) - 1) - 1 = 2 from by decide]
          refine Go.istore Bg Xg at_230 (pc' := 232) rfl rfl rfl ?_
          dsimp only [put1]
          have ek : lastK ([c0, c1, c2, c3].map lo8) = 2 := by simp [lastK, z0, z1, z2, z3]
          rw [ek] at Dg
          have Dg2 : StrL Z Tg.heap y [lo8 c2, lo8 c3] := Dg
          exact tail2 hw hS hF Bg Xg rfl Vg Og (Fr.app (Fr.app Ns3 Nf) Ng) nb nb (1) Dg2 r0 r1 r2 r3 r2 r3 rfl rfl
        · dsimp only [GoKit.CN] at y3
          have z3 := lo8_eq y3
          refine Go.iconst Bg Xg 3 at_220 (pc' := 221) rfl rfl ?_
          refine Go.istore Bg Xg at_221 (pc' := 223) rfl rfl rfl ?_
          dsimp only [put1]
          refine Go.iload Bg Xg at_223 (pc' := 225) rfl rfl ?_
          refine Go.iload Bg Xg at_225 (pc' := 227) rfl rfl ?_
          refine Go.isub Bg Xg at_227 (pc' := 228) rfl ?_
          refine Go.iconst Bg Xg 1 at_228 (pc' := 229) rfl rfl ?_
          refine Go.isub Bg Xg at_229 (pc' := 230) rfl ?_
          rw [show ((4 : Int32) - 3) - 1 = 0 from by decide]
          refine Go.istore Bg Xg at_230 (pc' := 232) rfl rfl rfl ?_
          dsimp only [put1]
          have ek : lastK ([c0, c1, c2, c3].map lo8) = 4 := by simp [lastK, z0, z1, z2, z3]
          rw [ek] at Dg
          have Dg2 : StrL Z Tg.heap y [] := Dg
          exact tail0 hw hS hF Bg Xg rfl Vg Og (Fr.app (Fr.app Ns3 Nf) Ng) nb nb (3) Dg2 r0 r1 r2 r3  
      · dsimp only [GoKit.CN] at y2
        have z2 := lo8_eq y2
        refine Go.iconst Bg Xg 2 at_204 (pc' := 205) rfl rfl ?_
        refine Go.istore Bg Xg at_205 (pc' := 207) rfl rfl rfl ?_
        dsimp only [put1]
        refine Go.iload Bg Xg at_207 (pc' := 209) rfl rfl ?_
        refine Go.iconst Bg Xg 3 at_209 (pc' := 210) rfl rfl ?_
        refine Go.icF Bg Xg at_210 (pc' := 213) rfl (by decide) ?_
        refine Go.iload Bg Xg at_213 (pc' := 215) rfl rfl ?_
        refine Go.bipush Bg Xg 47 at_215 (pc' := 217) rfl rfl ?_
        refine Go.ic Bg Xg at_217 (by decide) (pcT := 223) rfl (pc' := 220) rfl (fun y3 => ?_) (fun y3 => ?_)
        · dsimp only [GoKit.CP] at y3
          have z3 := lo8_47 r3 y3
          refine Go.iload Bg Xg at_223 (pc' := 225) rfl rfl ?_
          refine Go.iload Bg Xg at_225 (pc' := 227) rfl rfl ?_
          refine Go.isub Bg Xg at_227 (pc' := 228) rfl ?_
          refine Go.iconst Bg Xg 1 at_228 (pc' := 229) rfl rfl ?_
          refine Go.isub Bg Xg at_229 (pc' := 230) rfl ?_
          rw [show ((4 : Int32) - 2) - 1 = 1 from by decide]
          refine Go.istore Bg Xg at_230 (pc' := 232) rfl rfl rfl ?_
          dsimp only [put1]
          have ek : lastK ([c0, c1, c2, c3].map lo8) = 3 := by simp [lastK, z0, z1, z2, z3]
          rw [ek] at Dg
          have Dg2 : StrL Z Tg.heap y [lo8 c3] := Dg
          exact tail1 hw hS hF Bg Xg rfl Vg Og (Fr.app (Fr.app Ns3 Nf) Ng) nb nb (2) Dg2 r0 r1 r2 r3 r3 rfl
        · dsimp only [GoKit.CN] at y3
          have z3 := lo8_eq y3
          refine Go.iconst Bg Xg 3 at_220 (pc' := 221) rfl rfl ?_
          refine Go.istore Bg Xg at_221 (pc' := 223) rfl rfl rfl ?_
          dsimp only [put1]
          refine Go.iload Bg Xg at_223 (pc' := 225) rfl rfl ?_
          refine Go.iload Bg Xg at_225 (pc' := 227) rfl rfl ?_
          refine Go.isub Bg Xg at_227 (pc' := 228) rfl ?_
          refine Go.iconst Bg Xg 1 at_228 (pc' := 229) rfl rfl ?_
          refine Go.isub Bg Xg at_229 (pc' := 230) rfl ?_
          rw [show ((4 : Int32) - 3) - 1 = 0 from by decide]
          refine Go.istore Bg Xg at_230 (pc' := 232) rfl rfl rfl ?_
          dsimp only [put1]
          have ek : lastK ([c0, c1, c2, c3].map lo8) = 4 := by simp [lastK, z0, z1, z2, z3]
          rw [ek] at Dg
          have Dg2 : StrL Z Tg.heap y [] := Dg
          exact tail0 hw hS hF Bg Xg rfl Vg Og (Fr.app (Fr.app Ns3 Nf) Ng) nb nb (3) Dg2 r0 r1 r2 r3  
  · dsimp only [GoKit.CN] at y0
    have z0 := lo8_eq y0
    refine Go.iconst Bg Xg 0 at_172 (pc' := 173) rfl rfl ?_
    refine Go.istore Bg Xg at_173 (pc' := 175) rfl rfl rfl ?_
    dsimp only [put1]
    refine Go.iload Bg Xg at_175 (pc' := 177) rfl rfl ?_
    refine Go.iconst Bg Xg 1 at_177 (pc' := 178) rfl rfl ?_
    refine Go.icF Bg Xg at_178 (pc' := 181) rfl (by decide) ?_
    refine Go.iload Bg Xg at_181 (pc' := 183) rfl rfl ?_
    refine Go.bipush Bg Xg 47 at_183 (pc' := 185) rfl rfl ?_
    refine Go.ic Bg Xg at_185 (by decide) (pcT := 191) rfl (pc' := 188) rfl (fun y1 => ?_) (fun y1 => ?_)
    · dsimp only [GoKit.CP] at y1
      have z1 := lo8_47 r1 y1
      refine Go.iload Bg Xg at_191 (pc' := 193) rfl rfl ?_
      refine Go.iconst Bg Xg 2 at_193 (pc' := 194) rfl rfl ?_
      refine Go.icF Bg Xg at_194 (pc' := 197) rfl (by decide) ?_
      refine Go.iload Bg Xg at_197 (pc' := 199) rfl rfl ?_
      refine Go.bipush Bg Xg 47 at_199 (pc' := 201) rfl rfl ?_
      refine Go.ic Bg Xg at_201 (by decide) (pcT := 207) rfl (pc' := 204) rfl (fun y2 => ?_) (fun y2 => ?_)
      · dsimp only [GoKit.CP] at y2
        have z2 := lo8_47 r2 y2
        refine Go.iload Bg Xg at_207 (pc' := 209) rfl rfl ?_
        refine Go.iconst Bg Xg 3 at_209 (pc' := 210) rfl rfl ?_
        refine Go.icF Bg Xg at_210 (pc' := 213) rfl (by decide) ?_
        refine Go.iload Bg Xg at_213 (pc' := 215) rfl rfl ?_
        refine Go.bipush Bg Xg 47 at_215 (pc' := 217) rfl rfl ?_
        refine Go.ic Bg Xg at_217 (by decide) (pcT := 223) rfl (pc' := 220) rfl (fun y3 => ?_) (fun y3 => ?_)
        · dsimp only [GoKit.CP] at y3
          have z3 := lo8_47 r3 y3
          refine Go.iload Bg Xg at_223 (pc' := 225) rfl rfl ?_
          refine Go.iload Bg Xg at_225 (pc' := 227) rfl rfl ?_
          refine Go.isub Bg Xg at_227 (pc' := 228) rfl ?_
          refine Go.iconst Bg Xg 1 at_228 (pc' := 229) rfl rfl ?_
          refine Go.isub Bg Xg at_229 (pc' := 230) rfl ?_
          rw [show ((4 : Int32) - 0) - 1 = 3 from by decide]
          refine Go.istore Bg Xg at_230 (pc' := 232) rfl rfl rfl ?_
          dsimp only [put1]
          have ek : lastK ([c0, c1, c2, c3].map lo8) = 1 := by simp [lastK, z0, z1, z2, z3]
          rw [ek] at Dg
          have Dg2 : StrL Z Tg.heap y [lo8 c1, lo8 c2, lo8 c3] := Dg
          exact tail3 hw hS hF Bg Xg rfl Vg Og (Fr.app (Fr.app Ns3 Nf) Ng) nb nb (0) Dg2 r0 r1 r2 r3 r1 r2 r3 rfl rfl rfl
        · dsimp only [GoKit.CN] at y3
          have z3 := lo8_eq y3
          refine Go.iconst Bg Xg 3 at_220 (pc' := 221) rfl rfl ?_
          refine Go.istore Bg Xg at_221 (pc' := 223) rfl rfl rfl ?_
          dsimp only [put1]
          refine Go.iload Bg Xg at_223 (pc' := 225) rfl rfl ?_
          refine Go.iload Bg Xg at_225 (pc' := 227) rfl rfl ?_
          refine Go.isub Bg Xg at_227 (pc' := 228) rfl ?_
          refine Go.iconst Bg Xg 1 at_228 (pc' := 229) rfl rfl ?_
          refine Go.isub Bg Xg at_229 (pc' := 230) rfl ?_
          rw [show ((4 : Int32) - 3) - 1 = 0 from by decide]
          refine Go.istore Bg Xg at_230 (pc' := 232) rfl rfl rfl ?_
          dsimp only [put1]
          have ek : lastK ([c0, c1, c2, c3].map lo8) = 4 := by simp [lastK, z0, z1, z2, z3]
          rw [ek] at Dg
          have Dg2 : StrL Z Tg.heap y [] := Dg
          exact tail0 hw hS hF Bg Xg rfl Vg Og (Fr.app (Fr.app Ns3 Nf) Ng) nb nb (3) Dg2 r0 r1 r2 r3  
      · dsimp only [GoKit.CN] at y2
        have z2 := lo8_eq y2
        refine Go.iconst Bg Xg 2 at_204 (pc' := 205) rfl rfl ?_
        refine Go.istore Bg Xg at_205 (pc' := 207) rfl rfl rfl ?_
        dsimp only [put1]
        refine Go.iload Bg Xg at_207 (pc' := 209) rfl rfl ?_
        refine Go.iconst Bg Xg 3 at_209 (pc' := 210) rfl rfl ?_
        refine Go.icF Bg Xg at_210 (pc' := 213) rfl (by decide) ?_
        refine Go.iload Bg Xg at_213 (pc' := 215) rfl rfl ?_
        refine Go.bipush Bg Xg 47 at_215 (pc' := 217) rfl rfl ?_
        refine Go.ic Bg Xg at_217 (by decide) (pcT := 223) rfl (pc' := 220) rfl (fun y3 => ?_) (fun y3 => ?_)
        · dsimp only [GoKit.CP] at y3
          have z3 := lo8_47 r3 y3
          refine Go.iload Bg Xg at_223 (pc' := 225) rfl rfl ?_
          refine Go.iload Bg Xg at_225 (pc' := 227) rfl rfl ?_
          refine Go.isub Bg Xg at_227 (pc' := 228) rfl ?_
          refine Go.iconst Bg Xg 1 at_228 (pc' := 229) rfl rfl ?_
          refine Go.isub Bg Xg at_229 (pc' := 230) rfl ?_
          rw [show ((4 : Int32) - 2) - 1 = 1 from by decide]
          refine Go.istore Bg Xg at_230 (pc' := 232) rfl rfl rfl ?_
          dsimp only [put1]
          have ek : lastK ([c0, c1, c2, c3].map lo8) = 3 := by simp [lastK, z0, z1, z2, z3]
          rw [ek] at Dg
          have Dg2 : StrL Z Tg.heap y [lo8 c3] := Dg
          exact tail1 hw hS hF Bg Xg rfl Vg Og (Fr.app (Fr.app Ns3 Nf) Ng) nb nb (2) Dg2 r0 r1 r2 r3 r3 rfl
        · dsimp only [GoKit.CN] at y3
          have z3 := lo8_eq y3
          refine Go.iconst Bg Xg 3 at_220 (pc' := 221) rfl rfl ?_
          refine Go.istore Bg Xg at_221 (pc' := 223) rfl rfl rfl ?_
          dsimp only [put1]
          refine Go.iload Bg Xg at_223 (pc' := 225) rfl rfl ?_
          refine Go.iload Bg Xg at_225 (pc' := 227) rfl rfl ?_
          refine Go.isub Bg Xg at_227 (pc' := 228) rfl ?_
          refine Go.iconst Bg Xg 1 at_228 (pc' := 229) rfl rfl ?_
          refine Go.isub Bg Xg at_229 (pc' := 230) rfl ?_
          rw [show ((4 : Int32) - 3) - 1 = 0 from by decide]
          refine Go.istore Bg Xg at_230 (pc' := 232) rfl rfl rfl ?_
          dsimp only [put1]
          have ek : lastK ([c0, c1, c2, c3].map lo8) = 4 := by simp [lastK, z0, z1, z2, z3]
          rw [ek] at Dg
          have Dg2 : StrL Z Tg.heap y [] := Dg
          exact tail0 hw hS hF Bg Xg rfl Vg Og (Fr.app (Fr.app Ns3 Nf) Ng) nb nb (3) Dg2 r0 r1 r2 r3  
    · dsimp only [GoKit.CN] at y1
      have z1 := lo8_eq y1
      refine Go.iconst Bg Xg 1 at_188 (pc' := 189) rfl rfl ?_
      refine Go.istore Bg Xg at_189 (pc' := 191) rfl rfl rfl ?_
      dsimp only [put1]
      refine Go.iload Bg Xg at_191 (pc' := 193) rfl rfl ?_
      refine Go.iconst Bg Xg 2 at_193 (pc' := 194) rfl rfl ?_
      refine Go.icF Bg Xg at_194 (pc' := 197) rfl (by decide) ?_
      refine Go.iload Bg Xg at_197 (pc' := 199) rfl rfl ?_
      refine Go.bipush Bg Xg 47 at_199 (pc' := 201) rfl rfl ?_
      refine Go.ic Bg Xg at_201 (by decide) (pcT := 207) rfl (pc' := 204) rfl (fun y2 => ?_) (fun y2 => ?_)
      · dsimp only [GoKit.CP] at y2
        have z2 := lo8_47 r2 y2
        refine Go.iload Bg Xg at_207 (pc' := 209) rfl rfl ?_
        refine Go.iconst Bg Xg 3 at_209 (pc' := 210) rfl rfl ?_
        refine Go.icF Bg Xg at_210 (pc' := 213) rfl (by decide) ?_
        refine Go.iload Bg Xg at_213 (pc' := 215) rfl rfl ?_
        refine Go.bipush Bg Xg 47 at_215 (pc' := 217) rfl rfl ?_
        refine Go.ic Bg Xg at_217 (by decide) (pcT := 223) rfl (pc' := 220) rfl (fun y3 => ?_) (fun y3 => ?_)
        · dsimp only [GoKit.CP] at y3
          have z3 := lo8_47 r3 y3
          refine Go.iload Bg Xg at_223 (pc' := 225) rfl rfl ?_
          refine Go.iload Bg Xg at_225 (pc' := 227) rfl rfl ?_
          refine Go.isub Bg Xg at_227 (pc' := 228) rfl ?_
          refine Go.iconst Bg Xg 1 at_228 (pc' := 229) rfl rfl ?_
          refine Go.isub Bg Xg at_229 (pc' := 230) rfl ?_
          rw [show ((4 : Int32) - 1) - 1 = 2 from by decide]
          refine Go.istore Bg Xg at_230 (pc' := 232) rfl rfl rfl ?_
          dsimp only [put1]
          have ek : lastK ([c0, c1, c2, c3].map lo8) = 2 := by simp [lastK, z0, z1, z2, z3]
          rw [ek] at Dg
          have Dg2 : StrL Z Tg.heap y [lo8 c2, lo8 c3] := Dg
          exact tail2 hw hS hF Bg Xg rfl Vg Og (Fr.app (Fr.app Ns3 Nf) Ng) nb nb (1) Dg2 r0 r1 r2 r3 r2 r3 rfl rfl
        · dsimp only [GoKit.CN] at y3
          have z3 := lo8_eq y3
          refine Go.iconst Bg Xg 3 at_220 (pc' := 221) rfl rfl ?_
          refine Go.istore Bg Xg at_221 (pc' := 223) rfl rfl rfl ?_
          dsimp only [put1]
          refine Go.iload Bg Xg at_223 (pc' := 225) rfl rfl ?_
          refine Go.iload Bg Xg at_225 (pc' := 227) rfl rfl ?_
          refine Go.isub Bg Xg at_227 (pc' := 228) rfl ?_
          refine Go.iconst Bg Xg 1 at_228 (pc' := 229) rfl rfl ?_
          refine Go.isub Bg Xg at_229 (pc' := 230) rfl ?_
          rw [show ((4 : Int32) - 3) - 1 = 0 from by decide]
          refine Go.istore Bg Xg at_230 (pc' := 232) rfl rfl rfl ?_
          dsimp only [put1]
          have ek : lastK ([c0, c1, c2, c3].map lo8) = 4 := by simp [lastK, z0, z1, z2, z3]
          rw [ek] at Dg
          have Dg2 : StrL Z Tg.heap y [] := Dg
          exact tail0 hw hS hF Bg Xg rfl Vg Og (Fr.app (Fr.app Ns3 Nf) Ng) nb nb (3) Dg2 r0 r1 r2 r3  
      · dsimp only [GoKit.CN] at y2
        have z2 := lo8_eq y2
        refine Go.iconst Bg Xg 2 at_204 (pc' := 205) rfl rfl ?_
        refine Go.istore Bg Xg at_205 (pc' := 207) rfl rfl rfl ?_
        dsimp only [put1]
        refine Go.iload Bg Xg at_207 (pc' := 209) rfl rfl ?_
        refine Go.iconst Bg Xg 3 at_209 (pc' := 210) rfl rfl ?_
        refine Go.icF Bg Xg at_210 (pc' := 213) rfl (by decide) ?_
        refine Go.iload Bg Xg at_213 (pc' := 215) rfl rfl ?_
        refine Go.bipush Bg Xg 47 at_215 (pc' := 217) rfl rfl ?_
        refine Go.ic Bg Xg at_217 (by decide) (pcT := 223) rfl (pc' := 220) rfl (fun y3 => ?_) (fun y3 => ?_)
        · dsimp only [GoKit.CP] at y3
          have z3 := lo8_47 r3 y3
          refine Go.iload Bg Xg at_223 (pc' := 225) rfl rfl ?_
          refine Go.iload Bg Xg at_225 (pc' := 227) rfl rfl ?_
          refine Go.isub Bg Xg at_227 (pc' := 228) rfl ?_
          refine Go.iconst Bg Xg 1 at_228 (pc' := 229) rfl rfl ?_
          refine Go.isub Bg Xg at_229 (pc' := 230) rfl ?_
          rw [show ((4 : Int32) - 2) - 1 = 1 from by decide]
          refine Go.istore Bg Xg at_230 (pc' := 232) rfl rfl rfl ?_
          dsimp only [put1]
          have ek : lastK ([c0, c1, c2, c3].map lo8) = 3 := by simp [lastK, z0, z1, z2, z3]
          rw [ek] at Dg
          have Dg2 : StrL Z Tg.heap y [lo8 c3] := Dg
          exact tail1 hw hS hF Bg Xg rfl Vg Og (Fr.app (Fr.app Ns3 Nf) Ng) nb nb (2) Dg2 r0 r1 r2 r3 r3 rfl
        · dsimp only [GoKit.CN] at y3
          have z3 := lo8_eq y3
          refine Go.iconst Bg Xg 3 at_220 (pc' := 221) rfl rfl ?_
          refine Go.istore Bg Xg at_221 (pc' := 223) rfl rfl rfl ?_
          dsimp only [put1]
          refine Go.iload Bg Xg at_223 (pc' := 225) rfl rfl ?_
          refine Go.iload Bg Xg at_225 (pc' := 227) rfl rfl ?_
          refine Go.isub Bg Xg at_227 (pc' := 228) rfl ?_
          refine Go.iconst Bg Xg 1 at_228 (pc' := 229) rfl rfl ?_
          refine Go.isub Bg Xg at_229 (pc' := 230) rfl ?_
          rw [show ((4 : Int32) - 3) - 1 = 0 from by decide]
          refine Go.istore Bg Xg at_230 (pc' := 232) rfl rfl rfl ?_
          dsimp only [put1]
          have ek : lastK ([c0, c1, c2, c3].map lo8) = 4 := by simp [lastK, z0, z1, z2, z3]
          rw [ek] at Dg
          have Dg2 : StrL Z Tg.heap y [] := Dg
          exact tail0 hw hS hF Bg Xg rfl Vg Og (Fr.app (Fr.app Ns3 Nf) Ng) nb nb (3) Dg2 r0 r1 r2 r3  

set_option maxRecDepth 65536 in
set_option maxHeartbeats 40000000 in
theorem ctL (l : Launch) (Z : State) (a0 : Array Value) (hw : ∀ d ∈ tables_1, d.before a0 Z = true) (p0 p1 p2 p3 p4 : Int32) (h : Heap) (n0 : Nat) (hEL : EW Z a0 consts_1) (wS : ∀ d ∈ Bundle.stringAtoms, d.before a0 Z = true) (hS : Stz Z) (hF : Sfm Z) (O : Old Z n0 h) :
    CtW l Z consts_1 x code maxLocals ret tables_1 room_1 24 2176 [(.int p0), (.int p1), (.int p2), (.int p3), (.int p4)] h (fun v h' L => v = some (.int 1) ∧ Fr n0 L) := by
  refine CtW.mk (L0 := [.val (.int p0), .val (.int p1), .val (.int p2), .val (.int p3), .val (.int p4), .unset, .unset, .unset, .unset, .unset, .unset, .unset, .unset, .unset, .unset]) hEL wS (plainFor_of_name pn_6) (fun m => by first | (simp [entryFrame, mkF, argsToLocals, Value.category, maxLocals]; done) | rfl) ?_
  intro p e s m below meth c s₁ B X0 e0 Wv0
  refine Go.iloadN B X0 at_0 (pc' := 1) rfl rfl ?_
  refine Go.ldcI B X0 (tw hw 0 rfl) at_1 (pc' := 3) rfl ?_
  refine Go.iand B X0 at_3 (pc' := 4) rfl ?_
  refine Go.iconst B X0 5 at_4 (pc' := 5) rfl rfl ?_
  refine Go.irem B X0 at_5 (pc' := 6) rfl (by decide) ?_
  refine Go.istore B X0 at_6 (pc' := 8) rfl rfl rfl ?_
  dsimp only [put1]
  refine Go.iloadN B X0 at_8 (pc' := 9) rfl rfl ?_
  refine Go.callS B X0 e0 (y := ⟨"com/example/uplink_augur/uplinkaugur/commondata/InvalidParamExceptionNamePinLaw", "draw", "(I)C"⟩) (Ct.back (W := 0) (ct_draw l Z a0 hw p1 h n0) B.hZ (tw hw 4 rfl) (tw hw 3 rfl) nb nb) (tw hw 1 rfl) (tw hw 2 rfl) (tw hw 3 rfl) (tw hw 4 rfl) (by decide) pd_21 at_9 (pc' := 12) rfl rfl (rest := []) rfl rfl nb nb nb ?_
  intro vi Ti Li Xi Qi
  obtain ⟨rfl, Ni, ei⟩ := Qi
  dsimp only [Option.toList, List.nil_append, List.cons_append]
  refine Go.istore B Xi at_12 (pc' := 14) rfl rfl rfl ?_
  dsimp only [put1]
  refine Go.iloadN B Xi at_14 (pc' := 15) rfl rfl ?_
  refine Go.callS B Xi ei (y := ⟨"com/example/uplink_augur/uplinkaugur/commondata/InvalidParamExceptionNamePinLaw", "draw", "(I)C"⟩) (Ct.back (W := 0) (ct_draw l Z a0 hw p2 h n0) B.hZ (tw hw 4 rfl) (tw hw 3 rfl) nb nb) (tw hw 1 rfl) (tw hw 2 rfl) (tw hw 3 rfl) (tw hw 4 rfl) (by decide) pd_21 at_15 (pc' := 18) rfl rfl (rest := []) rfl rfl nb nb nb ?_
  intro vj Tj Lj Xj Qj
  obtain ⟨rfl, Nj, ej⟩ := Qj
  dsimp only [Option.toList, List.nil_append, List.cons_append]
  refine Go.istore B Xj at_18 (pc' := 20) rfl rfl rfl ?_
  dsimp only [put1]
  refine Go.iloadN B Xj at_20 (pc' := 21) rfl rfl ?_
  refine Go.callS B Xj ej (y := ⟨"com/example/uplink_augur/uplinkaugur/commondata/InvalidParamExceptionNamePinLaw", "draw", "(I)C"⟩) (Ct.back (W := 0) (ct_draw l Z a0 hw p3 h n0) B.hZ (tw hw 4 rfl) (tw hw 3 rfl) nb nb) (tw hw 1 rfl) (tw hw 2 rfl) (tw hw 3 rfl) (tw hw 4 rfl) (by decide) pd_21 at_21 (pc' := 24) rfl rfl (rest := []) rfl rfl nb nb nb ?_
  intro vk Tk Lk Xk Qk
  obtain ⟨rfl, Nk, ek⟩ := Qk
  dsimp only [Option.toList, List.nil_append, List.cons_append]
  refine Go.istore B Xk at_24 (pc' := 26) rfl rfl rfl ?_
  dsimp only [put1]
  refine Go.iload B Xk at_26 (pc' := 28) rfl rfl ?_
  refine Go.callS B Xk ek (y := ⟨"com/example/uplink_augur/uplinkaugur/commondata/InvalidParamExceptionNamePinLaw", "draw", "(I)C"⟩) (Ct.back (W := 0) (ct_draw l Z a0 hw p4 h n0) B.hZ (tw hw 4 rfl) (tw hw 3 rfl) nb nb) (tw hw 1 rfl) (tw hw 2 rfl) (tw hw 3 rfl) (tw hw 4 rfl) (by decide) pd_21 at_28 (pc' := 31) rfl rfl (rest := []) rfl rfl nb nb nb ?_
  intro vq Tq Lq Xq Qq
  obtain ⟨rfl, Nq, eq⟩ := Qq
  dsimp only [Option.toList, List.nil_append, List.cons_append]
  have r0 := draw_rng p1
  have r1 := draw_rng p2
  have r2 := draw_rng p3
  have r3 := draw_rng p4
  generalize drawS p1 = c0 at *
  generalize drawS p2 = c1 at *
  generalize drawS p3 = c2 at *
  generalize drawS p4 = c3 at *
  refine Go.istore B Xq at_31 (pc' := 33) rfl rfl rfl ?_
  dsimp only [put1]
  rcases own_n p0 with hn | hn | hn | hn | hn
  · rw [hn]
    exact own_len0 hw hEL wS hS hF B Xq eq Wv0 O (Fr.app (Fr.app (Fr.app (Fr.app (Fr.nil n0) Ni) Nj) Nk) Nq) r0 r1 r2 r3
  · rw [hn]
    exact own_len1 hw hEL wS hS hF B Xq eq Wv0 O (Fr.app (Fr.app (Fr.app (Fr.app (Fr.nil n0) Ni) Nj) Nk) Nq) r0 r1 r2 r3
  · rw [hn]
    exact own_len2 hw hEL wS hS hF B Xq eq Wv0 O (Fr.app (Fr.app (Fr.app (Fr.app (Fr.nil n0) Ni) Nj) Nk) Nq) r0 r1 r2 r3
  · rw [hn]
    exact own_len3 hw hEL wS hS hF B Xq eq Wv0 O (Fr.app (Fr.app (Fr.app (Fr.app (Fr.nil n0) Ni) Nj) Nk) Nq) r0 r1 r2 r3
  · rw [hn]
    exact own_len4 hw hEL wS hS hF B Xq eq Wv0 O (Fr.app (Fr.app (Fr.app (Fr.app (Fr.nil n0) Ni) Nj) Nk) Nq) r0 r1 r2 r3
set_option maxRecDepth 65536 in
set_option maxHeartbeats 40000000 in
theorem comes_1 {Post : Tables → Env → Array Value → State → Outcome → State → Prop} (hpost : ∀ tb e args s v u, (limb_1_1.after args s (.returned v) u = true ∧ limb_1_2.after args s (.returned v) u = true ∧ True) → ReturnedEndW s (.returned v) u (Jvm.fieldLocs frame_1_writes args s ++ Jvm.arrayLocs frame_1_arrays args s ++ Jvm.staticLocs frame_1_statics s) 24 2176 → Post tb e args s (.returned v) u) :
    ArmFor flags0 classFile x code maxLocals ret World_1 tables_1 room_1 Calls_1 rest_1 Pre_1 Post := by
  intro l hfl _ _ p e ha hc hk s m args below hf hA hF happ hP
  obtain ⟨hcalls, hrest, hpre⟩ := hP
  obtain ⟨-, -, -, hnamed, -, -, -, hat⟩ := (Spec.applies_iff hf).mp happ
  obtain ⟨hg, hn⟩ := and_e (Cond.before_iff.mp (show (Jvm.Cond.and given_1 narrow_1).before args s = true from hpre))
  obtain ⟨g0, k0⟩ := and_e hg
  obtain ⟨g1, k1⟩ := and_e k0
  obtain ⟨g2, k2⟩ := and_e k1
  obtain ⟨g3, k3⟩ := and_e k2
  obtain ⟨g4, k4⟩ := and_e k3
  obtain ⟨w0, w1, w2, w3, w4, rfl⟩ : ∃ w0 w1 w2 w3 w4 : Value, args = #[w0, w1, w2, w3, w4] := by
    have hs : args.size = 5 := by simpa [Cond.value, given_1] using g0
    obtain ⟨L⟩ := args
    match L, hs with
    | [w0, w1, w2, w3, w4], _ => exact ⟨w0, w1, w2, w3, w4, rfl⟩
  have hw := fun d (hd : d ∈ tables_1) => atoms_spec (ws := Jvm.Cond.code x code maxLocals ret :: tables_1) hat d (List.mem_cons_of_mem _ hd)
  have hfit : Fit s := fun {y c} hc i hi => by
    obtain ⟨ha, rfl⟩ := Array.getElem?_eq_some_iff.mp hc
    have q := List.all_eq_true.mp ((Array.all_eq_true_iff_forall_mem.mp hF) _ (Array.getElem_mem ha)) i (List.mem_range.mpr hi)
    simpa [Array.getElem?_eq_getElem hi] using q
  obtain ⟨i0, t0⟩ := is_v g1
  obtain rfl : w0 = (.int i0) := Option.some.inj t0
  obtain ⟨i1, t1⟩ := is_v g2
  obtain rfl : w1 = (.int i1) := Option.some.inj t1
  obtain ⟨i2, t2⟩ := is_v g3
  obtain rfl : w2 = (.int i2) := Option.some.inj t2
  obtain ⟨i3, t3⟩ := is_v g4
  obtain rfl : w3 = (.int i3) := Option.some.inj t3
  obtain ⟨i4, t4⟩ := is_v k4
  obtain rfl : w4 = (.int i4) := Option.some.inj t4
  obtain ⟨hsets, hown0⟩ := atoms_of _ (rest_1_c_eq ▸ (show rest_1_c.before _ s = true from hrest))
  have n_cs := not_v (Cond.before_iff.mp (hsets _ (List.mem_of_getElem? (i := 2) rfl)))
  obtain ⟨i_cs, t_cs⟩ := is_v (Cond.before_iff.mp (hsets _ (List.mem_of_getElem? (i := 1) rfl)))
  have S_cs : Sta s s.heap "java/lang/String" "COMPACT_STRINGS" "Z" (.int i_cs) := Sta.start t_cs (Or.inl (hsets _ (List.mem_of_getElem? (i := 0) rfl)))
  have c_cs : ¬ (i_cs = (0 : Int32)) := gotF (Cond.eq_ints t_cs (Term.int_eval (0))) n_cs
  obtain ⟨v_sf, t_sf, r_sf⟩ := isR_v (Cond.before_iff.mp (hsets _ (List.mem_of_getElem? (i := 8) rfl)))
  have S_sf : Sta s s.heap "jdk/internal/util/Preconditions" "SIOOBE_FORMATTER" "Ljava/util/function/BiFunction;" v_sf := Sta.start t_sf (Or.inl (hsets _ (List.mem_of_getElem? (i := 7) rfl)))
  have hStz : Stz s := ⟨⟨i_cs, S_cs, c_cs⟩, trivial⟩
  have hSfm : Sfm s := ⟨v_sf, S_sf, r_sf⟩
  have hEL : EW s _ consts_1 := EW.cons (tw hw 19 rfl) (by decide +kernel) (EW.cons (tw hw 100 rfl) (by decide +kernel) (EW.nil))
  have wS : ∀ d ∈ Bundle.stringAtoms, d.before _ s = true := fun d hd => hw d ((by decide +kernel : ∀ d ∈ Bundle.stringAtoms, d ∈ tables_1) d hd)
  have hcw : Jvm.Lit.compactW.before _ s = true := hsets _ (List.mem_of_getElem? (i := 2) rfl)
  have hCH : CHv s consts_1 s.vm s.heap := CHv.start hEL (show ∀ q ∈ consts_1, Jvm.Lit.constHeld s q.1 q.2 from hcalls.1) hcw (tw hw 20 rfl) (tw hw 7 rfl)
  obtain ⟨n, o, h1, h2, h3, _, L, rfl, ⟨rfl, N⟩, -, hq⟩ := ctL l s _ hw i0 i1 i2 i3 i4 s.heap s.heap.size hEL wS hStz hSfm (Old.start s) p e ha hc hk s m _ below hf ((Spec.applies_iff_loose hf).mp happ).1 ⟨rfl, State.Warmed39.refl s, rfl, hCH⟩ trivial
  refine ⟨n, _, h1, h2, h3, hpost _ _ _ _ _ _ ⟨Cond.after_iff.mpr rfl, Cond.after_iff.mpr (eq_i res_at (Term.int_eval (1)) rfl), trivial⟩ ⟨hq.1, hq.2.1, hq.2.2.1, (hq.2.2.2.sift fun y hy => Or.inr (N y hy)).mono (by decide) (by decide)⟩⟩
theorem main_1_1 : Claimed_1_1 := comes_1 fun _ _ _ _ _ _ h hF => ⟨h.1, hF⟩
theorem main_1_2 : Claimed_1_2 := comes_1 fun _ _ _ _ _ _ h hF => ⟨h.2.1, hF⟩
end Jvm.Pilot.@@N@@
namespace Jvm.Pilot.@@N@@
open Jvm Jvm.ClassFile Sem Op Lib Jvm.Free Jvm.Stand Jvm.Pilot.@@N@@.Jvm.D
/-! MADE BY PROGRAM (witnessworld.py) out of the Statement's table words and the real class files: 25 classes; the members and pool entries that the words name. The judged class is class 1, her method 1. -/
namespace start1
open Jvm.ClassFile
def u (s : String) : CpInfo := .utf8 (stringToUtf16 s)
/-- a pool by its gaps: so many unusable entries, then the entry; so many at the end -/
def gap : Nat → List CpInfo → List CpInfo
  | 0, r => r
  | n + 1, r => .unusable :: gap n r
def poolList (es : List (Nat × CpInfo)) (last : Nat) : List CpInfo := es.foldr (fun e r => gap e.1 (e.2 :: r)) (gap last [])
def pool (es : List (Nat × CpInfo)) (last : Nat) : Array CpInfo := ⟨poolList es last⟩
def fileOf (pool : Array CpInfo) (this : Nat) (attrs : Array Attribute := #[]) (ms : Array MethodInfo := #[]) (fl : Nat := 33) (sup : Nat := 0) (ifs : Array Nat := #[]) (fds : Array FieldInfo := #[]) : ClassFile where
  minorVersion := 0
  majorVersion := 65
  constantPool := pool
  accessFlags := fl
  thisClass := this
  superClass := sup
  interfaces := ifs
  fields := fds
  methods := ms
  attributes := attrs
def plain (name : String) (sup : Option ClassId) : Class where
  name := name
  kind := .ordinary
  loader := none
  accessFlags := 33
  super := sup
  interfaces := #[]
  cf := none
  fields := #[]
  methods := #[]
  instanceTypes := #[]
  staticTypes := #[]
  resolved := #[]
  callSites := []
  init := .initialized
  statics := none
  mirror := none

def pool0 : Array CpInfo := pool [(5, u "<init>"), (0, u "()V"), (1, .class_ 10), (1, u "java/lang/Object")] 113

def k0c0 : Code := { maxStack := 0, maxLocals := 1, code := object_method_1_code, exceptionTable := #[], attributes := #[] }
def k0m0 : Method := { name := "<init>", desc := "()V", sig := { parameters := [], returnType := none }, accessFlags := 1, code := some k0c0 }
/-- java/lang/Object -/
def k0 : Class := { plain "java/lang/Object" none with
  accessFlags := 33
  interfaces := #[]
  cf := some (fileOf pool0 8 #[] #[{ accessFlags := 1, nameIndex := 5, descriptorIndex := 6, attributes := #[] }] 33 0 #[] #[])
  fields := #[]
  methods := #[k0m0]
  instanceTypes := #[]
  staticTypes := #[]
  resolved := Array.replicate 124 none
  statics := none }

def pool1 : Array CpInfo := pool [(2, .class_ 4), (1, u "java/lang/Object"), (0, u "<init>"), (0, u "()V"), (0, .integer 2147483647), (0, .methodref 9 10), (0, .class_ 11), (0, .nameAndType 12 13), (0, u "com/example/uplink_augur/uplinkaugur/commondata/InvalidParamExceptionNamePinLaw"), (0, u "draw"), (0, u "(I)C"), (0, .class_ 15), (0, u "java/lang/String"), (0, .methodref 14 17), (0, .nameAndType 5 18), (0, u "([C)V"), (0, .methodref 20 21), (0, .class_ 22), (0, .nameAndType 23 24), (0, u "com/example/uplink_augur/uplinkaugur/commondata/InvalidParamException"), (0, u "name"), (0, u "(Ljava/lang/String;)Ljava/lang/String;"), (0, .methodref 14 26), (0, .nameAndType 27 28), (0, u "length"), (0, u "()I"), (0, .methodref 14 30), (0, .nameAndType 31 13), (0, u "charAt"), (0, .methodref 9 33), (0, .nameAndType 34 35), (0, u "at"), (0, u "(ICCCC)C"), (2, u "law"), (0, u "(IIIII)Z")] 5

def k1m0 : Method := { name := "<init>", desc := "()V", sig := { parameters := [], returnType := none }, accessFlags := 1, code := none }
def k1c1 : Code := { maxStack := 6, maxLocals := 15, code := code, exceptionTable := #[], attributes := #[] }
def k1m1 : Method := { name := "law", desc := "(IIIII)Z", sig := { parameters := [.int, .int, .int, .int, .int], returnType := some .boolean }, accessFlags := 9, code := some k1c1 }
def k1c2 : Code := { maxStack := 2, maxLocals := 1, code := method_3_code, exceptionTable := #[], attributes := #[] }
def k1m2 : Method := { name := "draw", desc := "(I)C", sig := { parameters := [.int], returnType := some .char }, accessFlags := 10, code := some k1c2 }
def k1c3 : Code := { maxStack := 2, maxLocals := 5, code := method_4_code, exceptionTable := #[], attributes := #[] }
def k1m3 : Method := { name := "at", desc := "(ICCCC)C", sig := { parameters := [.int, .char, .char, .char, .char], returnType := some .char }, accessFlags := 10, code := some k1c3 }
/-- com/example/uplink_augur/uplinkaugur/commondata/InvalidParamExceptionNamePinLaw -/
def k1 : Class := { plain "com/example/uplink_augur/uplinkaugur/commondata/InvalidParamExceptionNamePinLaw" (some 0) with
  accessFlags := 49
  interfaces := #[]
  cf := some (fileOf pool1 9 #[] #[{ accessFlags := 1, nameIndex := 5, descriptorIndex := 6, attributes := #[] }, { accessFlags := 9, nameIndex := 38, descriptorIndex := 39, attributes := #[] }, { accessFlags := 10, nameIndex := 12, descriptorIndex := 13, attributes := #[] }, { accessFlags := 10, nameIndex := 34, descriptorIndex := 35, attributes := #[] }] 49 2 #[] #[])
  fields := #[]
  methods := #[k1m0, k1m1, k1m2, k1m3]
  instanceTypes := #[]
  staticTypes := #[]
  resolved := Array.replicate 45 none
  statics := none }

def pool2 : Array CpInfo := pool [(1, .class_ 2), (0, u "java/io/Serializable"), (0, .class_ 4), (0, u "java/lang/Object")] 2

/-- java/io/Serializable -/
def k2 : Class := { plain "java/io/Serializable" (some 0) with
  accessFlags := 1537
  interfaces := #[]
  cf := some (fileOf pool2 1 #[] #[] 1537 3 #[] #[])
  fields := #[]
  methods := #[]
  instanceTypes := #[]
  staticTypes := #[]
  resolved := Array.replicate 7 none
  statics := none }

def pool3 : Array CpInfo := pool [(1, .class_ 2), (0, u "java/lang/Comparable"), (0, .class_ 4), (0, u "java/lang/Object")] 7

/-- java/lang/Comparable -/
def k3 : Class := { plain "java/lang/Comparable" (some 0) with
  accessFlags := 1537
  interfaces := #[]
  cf := some (fileOf pool3 1 #[] #[] 1537 3 #[] #[])
  fields := #[]
  methods := #[]
  instanceTypes := #[]
  staticTypes := #[]
  resolved := Array.replicate 12 none
  statics := none }

def pool4 : Array CpInfo := pool [(2, .class_ 4), (1, u "java/lang/CharSequence"), (42, .class_ 48), (0, u "java/lang/CharSequence$1CodePointIterator"), (10, .class_ 60), (0, u "java/lang/CharSequence$1CharIterator"), (5, .class_ 67), (0, u "java/lang/Object")] 63

/-- java/lang/CharSequence -/
def k4 : Class := { plain "java/lang/CharSequence" (some 0) with
  accessFlags := 1537
  interfaces := #[]
  cf := some (fileOf pool4 2 #[.nestMembers #[47, 59]] #[] 1537 66 #[] #[])
  fields := #[]
  methods := #[]
  instanceTypes := #[]
  staticTypes := #[]
  resolved := Array.replicate 131 none
  statics := none }

def pool5 : Array CpInfo := pool [(1, .class_ 2), (0, u "java/lang/constant/Constable"), (0, .class_ 4), (0, u "java/lang/Object")] 6

/-- java/lang/constant/Constable -/
def k5 : Class := { plain "java/lang/constant/Constable" (some 0) with
  accessFlags := 1537
  interfaces := #[]
  cf := some (fileOf pool5 1 #[] #[] 1537 3 #[] #[])
  fields := #[]
  methods := #[]
  instanceTypes := #[]
  staticTypes := #[]
  resolved := Array.replicate 11 none
  statics := none }

def pool6 : Array CpInfo := pool [(1, .class_ 2), (0, u "java/lang/constant/ConstantDesc"), (0, .class_ 4), (0, u "java/lang/Object")] 32

/-- java/lang/constant/ConstantDesc -/
def k6 : Class := { plain "java/lang/constant/ConstantDesc" (some 0) with
  accessFlags := 1537
  interfaces := #[]
  cf := some (fileOf pool6 1 #[] #[] 1537 3 #[] #[])
  fields := #[]
  methods := #[]
  instanceTypes := #[]
  staticTypes := #[]
  resolved := Array.replicate 37 none
  statics := none }

def pool7 : Array CpInfo := pool [(1, .methodref 2 3), (0, .class_ 4), (0, .nameAndType 5 6), (0, u "java/lang/Object"), (0, u "<init>"), (0, u "()V"), (0, .string 8), (0, u ""), (0, .fieldref 10 11), (0, .class_ 12), (0, .nameAndType 13 14), (0, u "java/lang/String"), (0, u "value"), (0, u "[B"), (0, .fieldref 10 16), (0, .nameAndType 17 18), (0, u "coder"), (0, u "B"), (2, u "hash"), (0, u "I"), (2, u "hashIsZero"), (0, u "Z"), (0, .methodref 10 28), (0, .nameAndType 5 29), (0, u "([CIILjava/lang/Void;)V"), (8, .fieldref 10 39), (0, .nameAndType 40 26), (0, u "COMPACT_STRINGS"), (1, .class_ 44), (1, u "java/lang/StringUTF16"), (0, u "compress"), (1, .methodref 42 48), (0, .nameAndType 49 50), (0, u "coderFromArrayLen"), (0, u "([BI)B"), (46, u "([BII)I"), (9, .class_ 109), (1, u "java/lang/StringLatin1"), (32, u "()Z"), (34, .methodref 42 178), (0, .nameAndType 45 179), (0, u "([CII)[B"), (31, u "([BB)V"), (122, u "()I"), (0, .methodref 10 336), (0, .nameAndType 17 337), (0, u "()B"), (25, u "([BI)C"), (27, u "(II)V"), (35, u "(I)C"), (64, .methodref 10 493), (0, .nameAndType 494 142), (0, u "isLatin1"), (0, .methodref 107 496), (0, .nameAndType 497 363), (0, u "charAt"), (3, u "checkIndex"), (3, .methodref 10 506), (0, .nameAndType 507 334), (0, u "length"), (5, u "checkFromToIndex"), (7, .methodref 10 522), (0, .nameAndType 523 524), (0, u "checkBoundsBeginEnd"), (0, u "(III)V"), (50, .class_ 576), (0, u "java/lang/CharSequence"), (22, u "CASE_INSENSITIVE_ORDER"), (0, u "Ljava/util/Comparator;"), (35, u "(II)I"), (4, .methodref 10 642), (0, .nameAndType 643 636), (0, u "lastIndexOf"), (0, .methodref 107 645), (0, .nameAndType 643 97), (35, .methodref 10 682), (0, .nameAndType 683 684), (0, u "substring"), (0, u "(II)Ljava/lang/String;"), (0, .methodref 107 686), (0, .nameAndType 687 688), (0, u "newString"), (0, u "([BII)Ljava/lang/String;"), (76, u "(I)I"), (126, u "(I)Ljava/lang/String;"), (117, u "([C)V"), (42, .fieldref 1054 1055), (0, .class_ 1056), (0, .nameAndType 1057 1058), (0, u "jdk/internal/util/Preconditions"), (0, u "SIOOBE_FORMATTER"), (0, u "Ljava/util/function/BiFunction;"), (0, .methodref 1054 1060), (0, .nameAndType 501 1061), (0, u "(IILjava/util/function/BiFunction;)I"), (0, .methodref 1054 1063), (0, .nameAndType 513 1064), (0, u "(IIILjava/util/function/BiFunction;)I"), (36, u "serialPersistentFields"), (0, u "[Ljava/io/ObjectStreamField;"), (0, .class_ 1104), (0, u "java/lang/String$CaseInsensitiveComparator"), (1, .class_ 1107), (0, u "java/io/Serializable"), (0, .class_ 1109), (0, u "java/lang/Comparable"), (0, .class_ 1111), (0, u "java/lang/constant/Constable"), (0, .class_ 1113), (0, u "java/lang/constant/ConstantDesc"), (2, u "serialVersionUID"), (0, u "J"), (3, u "REPL"), (0, u "C"), (2, u "LATIN1"), (1, u "UTF16")] 323

def k7m0 : Method := { name := "<init>", desc := "()V", sig := { parameters := [], returnType := none }, accessFlags := 1, code := none }
def k7c1 : Code := { maxStack := 5, maxLocals := 2, code := jdk_42_method_3_code, exceptionTable := #[], attributes := #[] }
def k7m1 : Method := { name := "<init>", desc := "([C)V", sig := { parameters := [(.array .char)], returnType := none }, accessFlags := 1, code := some k7c1 }
def k7c2 : Code := { maxStack := 2, maxLocals := 1, code := jdk_42_method_54_code, exceptionTable := #[], attributes := #[] }
def k7m2 : Method := { name := "length", desc := "()I", sig := { parameters := [], returnType := some .int }, accessFlags := 1, code := some k7c2 }
def k7c3 : Code := { maxStack := 2, maxLocals := 2, code := jdk_42_method_56_code, exceptionTable := #[], attributes := #[] }
def k7m3 : Method := { name := "charAt", desc := "(I)C", sig := { parameters := [.int], returnType := some .char }, accessFlags := 1, code := some k7c3 }
def k7c4 : Code := { maxStack := 4, maxLocals := 2, code := jdk_42_method_82_code, exceptionTable := #[], attributes := #[] }
def k7m4 : Method := { name := "lastIndexOf", desc := "(I)I", sig := { parameters := [.int], returnType := some .int }, accessFlags := 1, code := some k7c4 }
def k7c5 : Code := { maxStack := 3, maxLocals := 3, code := jdk_42_method_83_code, exceptionTable := #[], attributes := #[] }
def k7m5 : Method := { name := "lastIndexOf", desc := "(II)I", sig := { parameters := [.int, .int], returnType := some .int }, accessFlags := 1, code := some k7c5 }
def k7c6 : Code := { maxStack := 3, maxLocals := 2, code := jdk_42_method_91_code, exceptionTable := #[], attributes := #[] }
def k7m6 : Method := { name := "substring", desc := "(I)Ljava/lang/String;", sig := { parameters := [.int], returnType := some (.object "java/lang/String") }, accessFlags := 1, code := some k7c6 }
def k7c7 : Code := { maxStack := 3, maxLocals := 5, code := jdk_42_method_92_code, exceptionTable := #[], attributes := #[] }
def k7m7 : Method := { name := "substring", desc := "(II)Ljava/lang/String;", sig := { parameters := [.int, .int], returnType := some (.object "java/lang/String") }, accessFlags := 1, code := some k7c7 }
def k7c8 : Code := { maxStack := 4, maxLocals := 6, code := jdk_42_method_149_code, exceptionTable := #[], attributes := #[] }
def k7m8 : Method := { name := "<init>", desc := "([CIILjava/lang/Void;)V", sig := { parameters := [(.array .char), .int, .int, (.object "java/lang/Void")], returnType := none }, accessFlags := 2, code := some k7c8 }
def k7c9 : Code := { maxStack := 2, maxLocals := 3, code := jdk_42_method_151_code, exceptionTable := #[], attributes := #[] }
def k7m9 : Method := { name := "<init>", desc := "([BB)V", sig := { parameters := [(.array .byte), .byte], returnType := none }, accessFlags := 0, code := some k7c9 }
def k7c10 : Code := { maxStack := 1, maxLocals := 1, code := jdk_42_method_152_code, exceptionTable := #[], attributes := #[] }
def k7m10 : Method := { name := "coder", desc := "()B", sig := { parameters := [], returnType := some .byte }, accessFlags := 0, code := some k7c10 }
def k7c11 : Code := { maxStack := 1, maxLocals := 1, code := jdk_42_method_154_code, exceptionTable := #[], attributes := #[] }
def k7m11 : Method := { name := "isLatin1", desc := "()Z", sig := { parameters := [], returnType := some .boolean }, accessFlags := 0, code := some k7c11 }
def k7c12 : Code := { maxStack := 3, maxLocals := 2, code := jdk_42_method_155_code, exceptionTable := #[], attributes := #[] }
def k7m12 : Method := { name := "checkIndex", desc := "(II)V", sig := { parameters := [.int, .int], returnType := none }, accessFlags := 8, code := some k7c12 }
def k7c13 : Code := { maxStack := 4, maxLocals := 3, code := jdk_42_method_158_code, exceptionTable := #[], attributes := #[] }
def k7m13 : Method := { name := "checkBoundsBeginEnd", desc := "(III)V", sig := { parameters := [.int, .int, .int], returnType := none }, accessFlags := 8, code := some k7c13 }
/-- java/lang/String -/
def k7 : Class := { plain "java/lang/String" (some 0) with
  accessFlags := 49
  interfaces := #[2, 3, 4, 5, 6]
  cf := some (fileOf pool7 10 #[.nestMembers #[1103]] #[{ accessFlags := 1, nameIndex := 5, descriptorIndex := 6, attributes := #[] }, { accessFlags := 1, nameIndex := 5, descriptorIndex := 1010, attributes := #[] }, { accessFlags := 1, nameIndex := 507, descriptorIndex := 334, attributes := #[] }, { accessFlags := 1, nameIndex := 497, descriptorIndex := 427, attributes := #[] }, { accessFlags := 1, nameIndex := 643, descriptorIndex := 765, attributes := #[] }, { accessFlags := 1, nameIndex := 643, descriptorIndex := 636, attributes := #[] }, { accessFlags := 1, nameIndex := 683, descriptorIndex := 892, attributes := #[] }, { accessFlags := 1, nameIndex := 683, descriptorIndex := 684, attributes := #[] }, { accessFlags := 2, nameIndex := 5, descriptorIndex := 29, attributes := #[] }, { accessFlags := 0, nameIndex := 5, descriptorIndex := 211, attributes := #[] }, { accessFlags := 0, nameIndex := 17, descriptorIndex := 337, attributes := #[] }, { accessFlags := 0, nameIndex := 494, descriptorIndex := 142, attributes := #[] }, { accessFlags := 8, nameIndex := 501, descriptorIndex := 391, attributes := #[] }, { accessFlags := 8, nameIndex := 523, descriptorIndex := 524, attributes := #[] }] 49 2 #[1106, 1108, 575, 1110, 1112] #[{ accessFlags := 18, nameIndex := 13, descriptorIndex := 14, attributes := #[] }, { accessFlags := 18, nameIndex := 17, descriptorIndex := 18, attributes := #[] }, { accessFlags := 2, nameIndex := 21, descriptorIndex := 22, attributes := #[] }, { accessFlags := 2, nameIndex := 25, descriptorIndex := 26, attributes := #[] }, { accessFlags := 26, nameIndex := 1116, descriptorIndex := 1117, attributes := #[] }, { accessFlags := 24, nameIndex := 40, descriptorIndex := 26, attributes := #[] }, { accessFlags := 26, nameIndex := 1101, descriptorIndex := 1102, attributes := #[] }, { accessFlags := 26, nameIndex := 1121, descriptorIndex := 1122, attributes := #[] }, { accessFlags := 25, nameIndex := 599, descriptorIndex := 600, attributes := #[] }, { accessFlags := 24, nameIndex := 1125, descriptorIndex := 18, attributes := #[] }, { accessFlags := 24, nameIndex := 1127, descriptorIndex := 18, attributes := #[] }])
  fields := #[{ name := "value", type := (.array .byte), accessFlags := 18, slot := 0, constantValue := 0 }, { name := "coder", type := .byte, accessFlags := 18, slot := 1, constantValue := 0 }, { name := "hash", type := .int, accessFlags := 2, slot := 2, constantValue := 0 }, { name := "hashIsZero", type := .boolean, accessFlags := 2, slot := 3, constantValue := 0 }, { name := "serialVersionUID", type := .long, accessFlags := 26, slot := 0, constantValue := 0 }, { name := "COMPACT_STRINGS", type := .boolean, accessFlags := 24, slot := 1, constantValue := 0 }, { name := "serialPersistentFields", type := (.array (.object "java/io/ObjectStreamField")), accessFlags := 26, slot := 2, constantValue := 0 }, { name := "REPL", type := .char, accessFlags := 26, slot := 3, constantValue := 0 }, { name := "CASE_INSENSITIVE_ORDER", type := (.object "java/util/Comparator"), accessFlags := 25, slot := 4, constantValue := 0 }, { name := "LATIN1", type := .byte, accessFlags := 24, slot := 5, constantValue := 0 }, { name := "UTF16", type := .byte, accessFlags := 24, slot := 6, constantValue := 0 }]
  methods := #[k7m0, k7m1, k7m2, k7m3, k7m4, k7m5, k7m6, k7m7, k7m8, k7m9, k7m10, k7m11, k7m12, k7m13]
  instanceTypes := #[(.array .byte), .byte, .int, .boolean]
  staticTypes := #[.long, .boolean, (.array (.object "java/io/ObjectStreamField")), .char, (.object "java/util/Comparator"), .byte, .byte]
  resolved := Array.replicate 1451 none
  statics := some 0 }

def pool8 : Array CpInfo := pool [(2, .class_ 4), (1, u "java/lang/Object"), (0, u "<init>"), (0, u "()V"), (1, .class_ 10), (1, u "java/lang/Throwable"), (0, u "cause"), (0, u "Ljava/lang/Throwable;"), (2, u "UNASSIGNED_STACK"), (0, u "[Ljava/lang/StackTraceElement;"), (2, u "stackTrace"), (2, u "SUPPRESSED_SENTINEL"), (0, u "Ljava/util/List;"), (2, u "suppressedExceptions"), (6, u "detailMessage"), (0, u "Ljava/lang/String;"), (58, .class_ 94), (0, u "java/lang/Throwable$WrappedPrintStream"), (6, .class_ 103), (1, u "java/lang/Throwable$PrintStreamOrWriter"), (61, u "$assertionsDisabled"), (0, u "Z"), (26, .class_ 194), (0, u "java/lang/Throwable$WrappedPrintWriter"), (5, u "backtrace"), (0, u "Ljava/lang/Object;"), (9, u "depth"), (0, u "I"), (56, .class_ 271), (1, u "java/lang/Throwable$SentinelHolder"), (32, u "EMPTY_THROWABLE_ARRAY"), (0, u "[Ljava/lang/Throwable;"), (12, .class_ 319), (0, u "java/io/Serializable"), (0, u "serialVersionUID"), (0, u "J"), (5, u "NULL_CAUSE_MESSAGE"), (0, u "SELF_SUPPRESSION_MESSAGE"), (0, u "CAUSE_CAPTION"), (0, u "SUPPRESSED_CAPTION")] 73

def k8m0 : Method := { name := "<init>", desc := "()V", sig := { parameters := [], returnType := none }, accessFlags := 1, code := none }
/-- java/lang/Throwable -/
def k8 : Class := { plain "java/lang/Throwable" (some 0) with
  accessFlags := 33
  interfaces := #[2]
  cf := some (fileOf pool8 8 #[.nestMembers #[193, 93, 101, 269]] #[{ accessFlags := 1, nameIndex := 5, descriptorIndex := 6, attributes := #[] }] 33 2 #[318] #[{ accessFlags := 26, nameIndex := 320, descriptorIndex := 321, attributes := #[] }, { accessFlags := 130, nameIndex := 200, descriptorIndex := 201, attributes := #[] }, { accessFlags := 2, nameIndex := 33, descriptorIndex := 34, attributes := #[] }, { accessFlags := 26, nameIndex := 15, descriptorIndex := 16, attributes := #[] }, { accessFlags := 2, nameIndex := 11, descriptorIndex := 12, attributes := #[] }, { accessFlags := 2, nameIndex := 19, descriptorIndex := 16, attributes := #[] }, { accessFlags := 130, nameIndex := 211, descriptorIndex := 212, attributes := #[] }, { accessFlags := 26, nameIndex := 22, descriptorIndex := 23, attributes := #[] }, { accessFlags := 2, nameIndex := 26, descriptorIndex := 23, attributes := #[] }, { accessFlags := 26, nameIndex := 327, descriptorIndex := 34, attributes := #[] }, { accessFlags := 26, nameIndex := 328, descriptorIndex := 34, attributes := #[] }, { accessFlags := 26, nameIndex := 329, descriptorIndex := 34, attributes := #[] }, { accessFlags := 26, nameIndex := 330, descriptorIndex := 34, attributes := #[] }, { accessFlags := 26, nameIndex := 304, descriptorIndex := 305, attributes := #[] }, { accessFlags := 4120, nameIndex := 165, descriptorIndex := 166, attributes := #[] }])
  fields := #[{ name := "serialVersionUID", type := .long, accessFlags := 26, slot := 0, constantValue := 0 }, { name := "backtrace", type := (.object "java/lang/Object"), accessFlags := 130, slot := 0, constantValue := 0 }, { name := "detailMessage", type := (.object "java/lang/String"), accessFlags := 2, slot := 1, constantValue := 0 }, { name := "UNASSIGNED_STACK", type := (.array (.object "java/lang/StackTraceElement")), accessFlags := 26, slot := 1, constantValue := 0 }, { name := "cause", type := (.object "java/lang/Throwable"), accessFlags := 2, slot := 2, constantValue := 0 }, { name := "stackTrace", type := (.array (.object "java/lang/StackTraceElement")), accessFlags := 2, slot := 3, constantValue := 0 }, { name := "depth", type := .int, accessFlags := 130, slot := 4, constantValue := 0 }, { name := "SUPPRESSED_SENTINEL", type := (.object "java/util/List"), accessFlags := 26, slot := 2, constantValue := 0 }, { name := "suppressedExceptions", type := (.object "java/util/List"), accessFlags := 2, slot := 5, constantValue := 0 }, { name := "NULL_CAUSE_MESSAGE", type := (.object "java/lang/String"), accessFlags := 26, slot := 3, constantValue := 0 }, { name := "SELF_SUPPRESSION_MESSAGE", type := (.object "java/lang/String"), accessFlags := 26, slot := 4, constantValue := 0 }, { name := "CAUSE_CAPTION", type := (.object "java/lang/String"), accessFlags := 26, slot := 5, constantValue := 0 }, { name := "SUPPRESSED_CAPTION", type := (.object "java/lang/String"), accessFlags := 26, slot := 6, constantValue := 0 }, { name := "EMPTY_THROWABLE_ARRAY", type := (.array (.object "java/lang/Throwable")), accessFlags := 26, slot := 7, constantValue := 0 }, { name := "$assertionsDisabled", type := .boolean, accessFlags := 4120, slot := 8, constantValue := 0 }]
  methods := #[k8m0]
  instanceTypes := #[(.object "java/lang/Object"), (.object "java/lang/String"), (.object "java/lang/Throwable"), (.array (.object "java/lang/StackTraceElement")), .int, (.object "java/util/List")]
  staticTypes := #[.long, (.array (.object "java/lang/StackTraceElement")), (.object "java/util/List"), (.object "java/lang/String"), (.object "java/lang/String"), (.object "java/lang/String"), (.object "java/lang/String"), (.array (.object "java/lang/Throwable")), .boolean]
  resolved := Array.replicate 404 none
  statics := none }

def pool9 : Array CpInfo := pool [(2, .class_ 4), (1, u "java/lang/Throwable"), (0, u "<init>"), (0, u "()V"), (12, .class_ 20), (0, u "java/lang/Exception"), (0, u "serialVersionUID"), (0, u "J")] 17

def k9m0 : Method := { name := "<init>", desc := "()V", sig := { parameters := [], returnType := none }, accessFlags := 1, code := none }
/-- java/lang/Exception -/
def k9 : Class := { plain "java/lang/Exception" (some 8) with
  accessFlags := 33
  interfaces := #[]
  cf := some (fileOf pool9 19 #[] #[{ accessFlags := 1, nameIndex := 5, descriptorIndex := 6, attributes := #[] }] 33 2 #[] #[{ accessFlags := 24, nameIndex := 21, descriptorIndex := 22, attributes := #[] }])
  fields := #[{ name := "serialVersionUID", type := .long, accessFlags := 24, slot := 0, constantValue := 0 }]
  methods := #[k9m0]
  instanceTypes := #[(.object "java/lang/Object"), (.object "java/lang/String"), (.object "java/lang/Throwable"), (.array (.object "java/lang/StackTraceElement")), .int, (.object "java/util/List")]
  staticTypes := #[.long]
  resolved := Array.replicate 40 none
  statics := none }

def pool10 : Array CpInfo := pool [(2, .class_ 4), (1, u "com/example/uplink_augur/uplinkaugur/commondata/InvalidParamException$Fault"), (1, u "Lcom/example/uplink_augur/uplinkaugur/commondata/InvalidParamException$Fault;"), (1, .class_ 10), (1, u "com/example/uplink_augur/uplinkaugur/commondata/InvalidParamException"), (7, .class_ 20), (1, u "java/lang/Exception"), (3, u "param"), (0, u "Ljava/lang/String;"), (2, u "reason"), (2, u "fault"), (2, u "queryParameter"), (0, u "Z"), (2, u "name"), (0, u "(Ljava/lang/String;)Ljava/lang/String;"), (18, .class_ 60), (1, u "java/lang/String"), (10, .methodref 58 72), (0, .nameAndType 73 74), (0, u "lastIndexOf"), (0, u "(I)I"), (0, .methodref 58 76), (0, .nameAndType 77 78), (0, u "substring"), (0, u "(I)Ljava/lang/String;"), (1, u "serialVersionUID"), (0, u "J")] 41

def k10c0 : Code := { maxStack := 3, maxLocals := 1, code := prog_3_method_14_code, exceptionTable := #[], attributes := #[] }
def k10m0 : Method := { name := "name", desc := "(Ljava/lang/String;)Ljava/lang/String;", sig := { parameters := [(.object "java/lang/String")], returnType := some (.object "java/lang/String") }, accessFlags := 8, code := some k10c0 }
/-- com/example/uplink_augur/uplinkaugur/commondata/InvalidParamException -/
def k10 : Class := { plain "com/example/uplink_augur/uplinkaugur/commondata/InvalidParamException" (some 9) with
  accessFlags := 49
  interfaces := #[]
  cf := some (fileOf pool10 8 #[.nestMembers #[2]] #[{ accessFlags := 8, nameIndex := 38, descriptorIndex := 39, attributes := #[] }] 49 18 #[] #[{ accessFlags := 26, nameIndex := 80, descriptorIndex := 81, attributes := #[] }, { accessFlags := 18, nameIndex := 24, descriptorIndex := 25, attributes := #[] }, { accessFlags := 18, nameIndex := 28, descriptorIndex := 25, attributes := #[] }, { accessFlags := 18, nameIndex := 31, descriptorIndex := 6, attributes := #[] }, { accessFlags := 18, nameIndex := 34, descriptorIndex := 35, attributes := #[] }])
  fields := #[{ name := "serialVersionUID", type := .long, accessFlags := 26, slot := 0, constantValue := 0 }, { name := "param", type := (.object "java/lang/String"), accessFlags := 18, slot := 6, constantValue := 0 }, { name := "reason", type := (.object "java/lang/String"), accessFlags := 18, slot := 7, constantValue := 0 }, { name := "fault", type := (.object "com/example/uplink_augur/uplinkaugur/commondata/InvalidParamException$Fault"), accessFlags := 18, slot := 8, constantValue := 0 }, { name := "queryParameter", type := .boolean, accessFlags := 18, slot := 9, constantValue := 0 }]
  methods := #[k10m0]
  instanceTypes := #[(.object "java/lang/Object"), (.object "java/lang/String"), (.object "java/lang/Throwable"), (.array (.object "java/lang/StackTraceElement")), .int, (.object "java/util/List"), (.object "java/lang/String"), (.object "java/lang/String"), (.object "com/example/uplink_augur/uplinkaugur/commondata/InvalidParamException$Fault"), .boolean]
  staticTypes := #[.long]
  resolved := Array.replicate 123 none
  statics := none }

def pool11 : Array CpInfo := pool [(1, .class_ 2), (0, u "java/lang/String"), (1, .class_ 6), (1, u "java/lang/Object"), (0, u "<init>"), (0, u "()V"), (0, .methodref 1 10), (0, .nameAndType 11 12), (0, u "checkIndex"), (0, u "(II)V"), (1, .class_ 16), (1, u "java/lang/StringLatin1"), (21, .methodref 39 40), (0, .class_ 41), (0, .nameAndType 42 43), (0, u "java/lang/Math"), (0, u "min"), (0, u "(II)I"), (9, u "([BI)C"), (34, .methodref 14 89), (0, .nameAndType 90 91), (0, u "canEncode"), (0, u "(I)Z"), (20, .methodref 1 113), (0, .nameAndType 7 114), (0, u "([BB)V"), (6, u "$assertionsDisabled"), (0, u "Z"), (8, .class_ 133), (1, u "java/util/Arrays"), (17, .string 152), (0, u ""), (43, u "newString"), (0, u "([BII)Ljava/lang/String;"), (23, .class_ 223), (1, u "java/lang/StringLatin1$LinesSpliterator"), (8, .methodref 131 233), (0, .nameAndType 234 235), (0, u "copyOfRange"), (0, u "([BII)[B"), (16, u "charAt"), (8, u "([BII)I"), (47, u "lastIndexOf"), (80, .class_ 391), (0, u "java/lang/StringLatin1$CharsSpliterator")] 3

def k11m0 : Method := { name := "<init>", desc := "()V", sig := { parameters := [], returnType := none }, accessFlags := 0, code := none }
def k11c1 : Code := { maxStack := 2, maxLocals := 2, code := jdk_43_method_2_code, exceptionTable := #[], attributes := #[] }
def k11m1 : Method := { name := "charAt", desc := "([BI)C", sig := { parameters := [(.array .byte), .int], returnType := some .char }, accessFlags := 9, code := some k11c1 }
def k11c2 : Code := { maxStack := 2, maxLocals := 1, code := jdk_43_method_4_code, exceptionTable := #[], attributes := #[] }
def k11m2 : Method := { name := "canEncode", desc := "(I)Z", sig := { parameters := [.int], returnType := some .boolean }, accessFlags := 9, code := some k11c2 }
def k11c3 : Code := { maxStack := 3, maxLocals := 4, code := jdk_43_method_27_code, exceptionTable := #[], attributes := #[] }
def k11m3 : Method := { name := "lastIndexOf", desc := "([BII)I", sig := { parameters := [(.array .byte), .int, .int], returnType := some .int }, accessFlags := 9, code := some k11c3 }
def k11c4 : Code := { maxStack := 6, maxLocals := 3, code := jdk_43_method_47_code, exceptionTable := #[], attributes := #[] }
def k11m4 : Method := { name := "newString", desc := "([BII)Ljava/lang/String;", sig := { parameters := [(.array .byte), .int, .int], returnType := some (.object "java/lang/String") }, accessFlags := 9, code := some k11c4 }
/-- java/lang/StringLatin1 -/
def k11 : Class := { plain "java/lang/StringLatin1" (some 0) with
  accessFlags := 48
  interfaces := #[]
  cf := some (fileOf pool11 14 #[.nestMembers #[390, 221]] #[{ accessFlags := 0, nameIndex := 7, descriptorIndex := 8, attributes := #[] }, { accessFlags := 9, nameIndex := 252, descriptorIndex := 53, attributes := #[] }, { accessFlags := 9, nameIndex := 90, descriptorIndex := 91, attributes := #[] }, { accessFlags := 9, nameIndex := 309, descriptorIndex := 261, attributes := #[] }, { accessFlags := 9, nameIndex := 196, descriptorIndex := 197, attributes := #[] }] 48 4 #[] #[{ accessFlags := 4120, nameIndex := 121, descriptorIndex := 122, attributes := #[] }])
  fields := #[{ name := "$assertionsDisabled", type := .boolean, accessFlags := 4120, slot := 0, constantValue := 0 }]
  methods := #[k11m0, k11m1, k11m2, k11m3, k11m4]
  instanceTypes := #[]
  staticTypes := #[.boolean]
  resolved := Array.replicate 395 none
  statics := none }

def pool12 : Array CpInfo := pool [(1, .class_ 2), (0, u "java/lang/Math"), (1, .class_ 6), (1, u "java/lang/Object"), (0, u "<init>"), (0, u "()V"), (89, .class_ 100), (1, u "java/lang/Math$RandomNumberGeneratorHolder"), (71, u "negativeZeroFloatBits"), (0, u "J"), (2, u "negativeZeroDoubleBits"), (24, u "min"), (43, u "$assertionsDisabled"), (0, u "Z"), (88, u "(II)I"), (2, u "twoToTheDoubleScaleDown"), (0, u "D"), (4, u "twoToTheDoubleScaleUp"), (9, u "E"), (3, u "PI"), (2, u "TAU"), (2, u "DEGREES_TO_RADIANS"), (0, u "RADIANS_TO_DEGREES")] 94

def k12m0 : Method := { name := "<init>", desc := "()V", sig := { parameters := [], returnType := none }, accessFlags := 2, code := none }
def k12c1 : Code := { maxStack := 2, maxLocals := 2, code := jdk_29_method_69_code, exceptionTable := #[], attributes := #[] }
def k12m1 : Method := { name := "min", desc := "(II)I", sig := { parameters := [.int, .int], returnType := some .int }, accessFlags := 9, code := some k12c1 }
/-- java/lang/Math -/
def k12 : Class := { plain "java/lang/Math" (some 0) with
  accessFlags := 49
  interfaces := #[]
  cf := some (fileOf pool12 1 #[.nestMembers #[98]] #[{ accessFlags := 2, nameIndex := 7, descriptorIndex := 8, attributes := #[] }, { accessFlags := 9, nameIndex := 201, descriptorIndex := 335, attributes := #[] }] 49 4 #[] #[{ accessFlags := 25, nameIndex := 354, descriptorIndex := 339, attributes := #[] }, { accessFlags := 25, nameIndex := 358, descriptorIndex := 339, attributes := #[] }, { accessFlags := 25, nameIndex := 361, descriptorIndex := 339, attributes := #[] }, { accessFlags := 26, nameIndex := 364, descriptorIndex := 339, attributes := #[] }, { accessFlags := 26, nameIndex := 365, descriptorIndex := 339, attributes := #[] }, { accessFlags := 26, nameIndex := 172, descriptorIndex := 173, attributes := #[] }, { accessFlags := 26, nameIndex := 176, descriptorIndex := 173, attributes := #[] }, { accessFlags := 8, nameIndex := 344, descriptorIndex := 339, attributes := #[] }, { accessFlags := 8, nameIndex := 338, descriptorIndex := 339, attributes := #[] }, { accessFlags := 4120, nameIndex := 245, descriptorIndex := 246, attributes := #[] }])
  fields := #[{ name := "E", type := .double, accessFlags := 25, slot := 0, constantValue := 0 }, { name := "PI", type := .double, accessFlags := 25, slot := 1, constantValue := 0 }, { name := "TAU", type := .double, accessFlags := 25, slot := 2, constantValue := 0 }, { name := "DEGREES_TO_RADIANS", type := .double, accessFlags := 26, slot := 3, constantValue := 0 }, { name := "RADIANS_TO_DEGREES", type := .double, accessFlags := 26, slot := 4, constantValue := 0 }, { name := "negativeZeroFloatBits", type := .long, accessFlags := 26, slot := 5, constantValue := 0 }, { name := "negativeZeroDoubleBits", type := .long, accessFlags := 26, slot := 6, constantValue := 0 }, { name := "twoToTheDoubleScaleUp", type := .double, accessFlags := 8, slot := 7, constantValue := 0 }, { name := "twoToTheDoubleScaleDown", type := .double, accessFlags := 8, slot := 8, constantValue := 0 }, { name := "$assertionsDisabled", type := .boolean, accessFlags := 4120, slot := 9, constantValue := 0 }]
  methods := #[k12m0, k12m1]
  instanceTypes := #[]
  staticTypes := #[.double, .double, .double, .double, .double, .long, .long, .double, .double, .boolean]
  resolved := Array.replicate 460 none
  statics := none }

def pool13 : Array CpInfo := pool [(2, .class_ 4), (1, u "java/lang/Object"), (0, u "<init>"), (0, u "()V"), (17, .class_ 26), (1, u "jdk/internal/util/Preconditions"), (6, u "checkIndex"), (13, u "checkFromToIndex"), (7, .class_ 56), (0, u "jdk/internal/util/Preconditions$4"), (57, .class_ 115), (0, u "jdk/internal/util/Preconditions$1"), (7, u "SIOOBE_FORMATTER"), (0, u "Ljava/util/function/BiFunction;"), (0, .class_ 126), (0, u "jdk/internal/util/Preconditions$2"), (3, u "AIOOBE_FORMATTER"), (0, .class_ 132), (0, u "jdk/internal/util/Preconditions$3"), (3, u "IOOBE_FORMATTER"), (41, u "(IILjava/util/function/BiFunction;)I"), (4, u "(IIILjava/util/function/BiFunction;)I")] 10

def k13m0 : Method := { name := "<init>", desc := "()V", sig := { parameters := [], returnType := none }, accessFlags := 1, code := none }
def k13c1 : Code := { maxStack := 3, maxLocals := 3, code := jdk_41_method_11_code, exceptionTable := #[], attributes := #[] }
def k13m1 : Method := { name := "checkIndex", desc := "(IILjava/util/function/BiFunction;)I", sig := { parameters := [.int, .int, (.object "java/util/function/BiFunction")], returnType := some .int }, accessFlags := 9, code := some k13c1 }
def k13c2 : Code := { maxStack := 4, maxLocals := 4, code := jdk_41_method_12_code, exceptionTable := #[], attributes := #[] }
def k13m2 : Method := { name := "checkFromToIndex", desc := "(IIILjava/util/function/BiFunction;)I", sig := { parameters := [.int, .int, .int, (.object "java/util/function/BiFunction")], returnType := some .int }, accessFlags := 9, code := some k13c2 }
/-- jdk/internal/util/Preconditions -/
def k13 : Class := { plain "jdk/internal/util/Preconditions" (some 0) with
  accessFlags := 33
  interfaces := #[]
  cf := some (fileOf pool13 24 #[.nestMembers #[55, 131, 125, 114]] #[{ accessFlags := 1, nameIndex := 5, descriptorIndex := 6, attributes := #[] }, { accessFlags := 9, nameIndex := 33, descriptorIndex := 178, attributes := #[] }, { accessFlags := 9, nameIndex := 47, descriptorIndex := 183, attributes := #[] }] 33 2 #[] #[{ accessFlags := 25, nameIndex := 123, descriptorIndex := 124, attributes := #[] }, { accessFlags := 25, nameIndex := 130, descriptorIndex := 124, attributes := #[] }, { accessFlags := 25, nameIndex := 136, descriptorIndex := 124, attributes := #[] }])
  fields := #[{ name := "SIOOBE_FORMATTER", type := (.object "java/util/function/BiFunction"), accessFlags := 25, slot := 0, constantValue := 0 }, { name := "AIOOBE_FORMATTER", type := (.object "java/util/function/BiFunction"), accessFlags := 25, slot := 1, constantValue := 0 }, { name := "IOOBE_FORMATTER", type := (.object "java/util/function/BiFunction"), accessFlags := 25, slot := 2, constantValue := 0 }]
  methods := #[k13m0, k13m1, k13m2]
  instanceTypes := #[]
  staticTypes := #[(.object "java/util/function/BiFunction"), (.object "java/util/function/BiFunction"), (.object "java/util/function/BiFunction")]
  resolved := Array.replicate 194 none
  statics := some 1 }

def pool14 : Array CpInfo := pool [(6, .class_ 8), (1, u "java/lang/Object"), (0, u "<init>"), (0, u "()V"), (1, .class_ 14), (1, u "java/lang/StringUTF16"), (31, u "$assertionsDisabled"), (0, u "Z"), (13, u "HI_BYTE_SHIFT"), (0, u "I"), (2, u "LO_BYTE_SHIFT"), (49, .methodref 12 116), (0, .nameAndType 117 118), (0, u "compress"), (0, u "([CI[BII)I"), (3, u "([CII)[B"), (138, u "coderFromArrayLen"), (0, u "([BI)B"), (106, .class_ 371), (1, u "java/lang/StringUTF16$LinesSpliterator"), (58, u "MAX_LENGTH"), (196, .class_ 628), (0, u "java/lang/StringUTF16$CodePointsSpliterator"), (0, .class_ 630), (0, u "java/lang/StringUTF16$CharsSpliterator")] 4

def k14m0 : Method := { name := "<init>", desc := "()V", sig := { parameters := [], returnType := none }, accessFlags := 0, code := none }
def k14c1 : Code := { maxStack := 2, maxLocals := 2, code := jdk_52_method_15_code, exceptionTable := #[], attributes := #[] }
def k14m1 : Method := { name := "coderFromArrayLen", desc := "([BI)B", sig := { parameters := [(.array .byte), .int], returnType := some .byte }, accessFlags := 8, code := some k14c1 }
def k14c2 : Code := { maxStack := 5, maxLocals := 6, code := jdk_52_method_16_code, exceptionTable := #[], attributes := #[] }
def k14m2 : Method := { name := "compress", desc := "([CII)[B", sig := { parameters := [(.array .char), .int, .int], returnType := some (.array .byte) }, accessFlags := 9, code := some k14c2 }
def k14c3 : Code := { maxStack := 3, maxLocals := 7, code := jdk_52_method_21_code, exceptionTable := #[], attributes := #[] }
def k14m3 : Method := { name := "compress", desc := "([CI[BII)I", sig := { parameters := [(.array .char), .int, (.array .byte), .int, .int], returnType := some .int }, accessFlags := 9, code := some k14c3 }
/-- java/lang/StringUTF16 -/
def k14 : Class := { plain "java/lang/StringUTF16" (some 0) with
  accessFlags := 48
  interfaces := #[]
  cf := some (fileOf pool14 12 #[.nestMembers #[627, 629, 369]] #[{ accessFlags := 0, nameIndex := 9, descriptorIndex := 10, attributes := #[] }, { accessFlags := 8, nameIndex := 261, descriptorIndex := 262, attributes := #[] }, { accessFlags := 9, nameIndex := 117, descriptorIndex := 122, attributes := #[] }, { accessFlags := 9, nameIndex := 117, descriptorIndex := 118, attributes := #[] }] 48 6 #[] #[{ accessFlags := 26, nameIndex := 61, descriptorIndex := 62, attributes := #[] }, { accessFlags := 26, nameIndex := 65, descriptorIndex := 62, attributes := #[] }, { accessFlags := 24, nameIndex := 430, descriptorIndex := 62, attributes := #[] }, { accessFlags := 4120, nameIndex := 46, descriptorIndex := 47, attributes := #[] }])
  fields := #[{ name := "HI_BYTE_SHIFT", type := .int, accessFlags := 26, slot := 0, constantValue := 0 }, { name := "LO_BYTE_SHIFT", type := .int, accessFlags := 26, slot := 1, constantValue := 0 }, { name := "MAX_LENGTH", type := .int, accessFlags := 24, slot := 2, constantValue := 0 }, { name := "$assertionsDisabled", type := .boolean, accessFlags := 4120, slot := 3, constantValue := 0 }]
  methods := #[k14m0, k14m1, k14m2, k14m3]
  instanceTypes := #[]
  staticTypes := #[.int, .int, .int, .boolean]
  resolved := Array.replicate 635 none
  statics := none }

def pool15 : Array CpInfo := pool [(2, .class_ 4), (1, u "java/lang/Object"), (0, u "<init>"), (0, u "()V"), (7, .class_ 16), (1, u "java/util/Arrays"), (57, .class_ 76), (1, u "java/util/Arrays$NaturalOrder"), (36, .class_ 115), (1, u "java/util/Arrays$LegacyMergeSort"), (1, u "Z"), (21, u "copyOfRange"), (10, .methodref 151 152), (0, .class_ 153), (0, .nameAndType 154 155), (0, u "java/lang/System"), (0, u "arraycopy"), (0, u "(Ljava/lang/Object;ILjava/lang/Object;II)V"), (148, .methodref 305 306), (0, .class_ 307), (0, .nameAndType 308 309), (0, u "java/lang/Math"), (0, u "min"), (0, u "(II)I"), (29, .methodref 14 340), (0, .nameAndType 341 342), (0, u "copyOfRangeByte"), (0, u "([BII)[B"), (0, .methodref 14 344), (0, .nameAndType 345 346), (0, u "checkLength"), (0, u "(II)V"), (28, .class_ 376), (0, u "java/util/Arrays$ArrayList"), (68, u "$assertionsDisabled"), (269, u "MIN_ARRAY_SORT_GRAN"), (0, u "I"), (2, u "INSERTIONSORT_THRESHOLD"), (255, .class_ 976), (0, u "java/util/Arrays$ArrayItr")] 52

def k15m0 : Method := { name := "<init>", desc := "()V", sig := { parameters := [], returnType := none }, accessFlags := 2, code := none }
def k15c1 : Code := { maxStack := 4, maxLocals := 2, code := jdk_65_method_131_code, exceptionTable := #[], attributes := #[] }
def k15m1 : Method := { name := "checkLength", desc := "(II)V", sig := { parameters := [.int, .int], returnType := none }, accessFlags := 10, code := some k15c1 }
def k15c2 : Code := { maxStack := 3, maxLocals := 3, code := jdk_65_method_132_code, exceptionTable := #[], attributes := #[] }
def k15m2 : Method := { name := "copyOfRange", desc := "([BII)[B", sig := { parameters := [(.array .byte), .int, .int], returnType := some (.array .byte) }, accessFlags := 9, code := some k15c2 }
def k15c3 : Code := { maxStack := 6, maxLocals := 5, code := jdk_65_method_133_code, exceptionTable := #[], attributes := #[] }
def k15m3 : Method := { name := "copyOfRangeByte", desc := "([BII)[B", sig := { parameters := [(.array .byte), .int, .int], returnType := some (.array .byte) }, accessFlags := 10, code := some k15c3 }
/-- java/util/Arrays -/
def k15 : Class := { plain "java/util/Arrays" (some 0) with
  accessFlags := 49
  interfaces := #[]
  cf := some (fileOf pool15 14 #[.nestMembers #[975, 375, 113, 74]] #[{ accessFlags := 2, nameIndex := 5, descriptorIndex := 6, attributes := #[] }, { accessFlags := 10, nameIndex := 345, descriptorIndex := 346, attributes := #[] }, { accessFlags := 9, nameIndex := 139, descriptorIndex := 342, attributes := #[] }, { accessFlags := 10, nameIndex := 341, descriptorIndex := 342, attributes := #[] }] 49 2 #[] #[{ accessFlags := 26, nameIndex := 715, descriptorIndex := 716, attributes := #[] }, { accessFlags := 26, nameIndex := 719, descriptorIndex := 716, attributes := #[] }, { accessFlags := 4120, nameIndex := 445, descriptorIndex := 117, attributes := #[] }])
  fields := #[{ name := "MIN_ARRAY_SORT_GRAN", type := .int, accessFlags := 26, slot := 0, constantValue := 0 }, { name := "INSERTIONSORT_THRESHOLD", type := .int, accessFlags := 26, slot := 1, constantValue := 0 }, { name := "$assertionsDisabled", type := .boolean, accessFlags := 4120, slot := 2, constantValue := 0 }]
  methods := #[k15m0, k15m1, k15m2, k15m3]
  instanceTypes := #[]
  staticTypes := #[.int, .int, .boolean]
  resolved := Array.replicate 1029 none
  statics := none }

def pool16 : Array CpInfo := pool [(2, .class_ 4), (1, u "java/lang/Object"), (0, u "<init>"), (0, u "()V"), (1, .class_ 10), (1, u "java/lang/System"), (0, u "allowSecurityManager"), (0, u "I"), (16, u "cons"), (0, u "Ljava/io/Console;"), (77, .class_ 110), (1, u "java/lang/System$CallersHolder"), (43, u "initialErrStream"), (0, u "Ljava/io/PrintStream;"), (19, u "security"), (0, u "Ljava/lang/SecurityManager;"), (31, .class_ 209), (0, u "java/lang/System$1"), (7, u "props"), (0, u "Ljava/util/Properties;"), (2, u "lineSeparator"), (0, u "Ljava/lang/String;"), (96, .class_ 321), (1, u "java/lang/System$LoggerFinder"), (5, .class_ 328), (0, u "java/lang/System$Logger"), (67, u "err"), (2, u "out"), (91, u "notSupportedJnuEncoding"), (15, u "in"), (17, u "initialIn"), (0, u "Ljava/io/InputStream;"), (35, u "bootLayer"), (0, u "Ljava/lang/ModuleLayer;"), (99, .class_ 664), (0, u "java/lang/System$2"), (9, u "NEVER"), (2, u "MAYBE"), (49, u "arraycopy"), (0, u "(Ljava/lang/Object;ILjava/lang/Object;II)V"), (72, .class_ 802), (0, u "java/lang/System$Logger$Level")] 31

def k16m0 : Method := { name := "<init>", desc := "()V", sig := { parameters := [], returnType := none }, accessFlags := 2, code := none }
def k16m1 : Method := { name := "arraycopy", desc := "(Ljava/lang/Object;ILjava/lang/Object;II)V", sig := { parameters := [(.object "java/lang/Object"), .int, (.object "java/lang/Object"), .int, .int], returnType := none }, accessFlags := 265, code := none }
/-- java/lang/System -/
def k16 : Class := { plain "java/lang/System" (some 0) with
  accessFlags := 49
  interfaces := #[]
  cf := some (fileOf pool16 8 #[.nestMembers #[319, 327, 801, 108, 663, 208]] #[{ accessFlags := 2, nameIndex := 5, descriptorIndex := 6, attributes := #[] }, { accessFlags := 265, nameIndex := 727, descriptorIndex := 728, attributes := #[] }] 49 2 #[] #[{ accessFlags := 25, nameIndex := 507, descriptorIndex := 526, attributes := #[] }, { accessFlags := 25, nameIndex := 399, descriptorIndex := 155, attributes := #[] }, { accessFlags := 25, nameIndex := 396, descriptorIndex := 155, attributes := #[] }, { accessFlags := 10, nameIndex := 525, descriptorIndex := 526, attributes := #[] }, { accessFlags := 26, nameIndex := 674, descriptorIndex := 12, attributes := #[] }, { accessFlags := 26, nameIndex := 677, descriptorIndex := 12, attributes := #[] }, { accessFlags := 10, nameIndex := 11, descriptorIndex := 12, attributes := #[] }, { accessFlags := 74, nameIndex := 175, descriptorIndex := 176, attributes := #[] }, { accessFlags := 10, nameIndex := 491, descriptorIndex := 222, attributes := #[] }, { accessFlags := 74, nameIndex := 29, descriptorIndex := 30, attributes := #[] }, { accessFlags := 74, nameIndex := 154, descriptorIndex := 155, attributes := #[] }, { accessFlags := 10, nameIndex := 217, descriptorIndex := 218, attributes := #[] }, { accessFlags := 10, nameIndex := 221, descriptorIndex := 222, attributes := #[] }, { accessFlags := 8, nameIndex := 562, descriptorIndex := 563, attributes := #[] }])
  fields := #[{ name := "in", type := (.object "java/io/InputStream"), accessFlags := 25, slot := 0, constantValue := 0 }, { name := "out", type := (.object "java/io/PrintStream"), accessFlags := 25, slot := 1, constantValue := 0 }, { name := "err", type := (.object "java/io/PrintStream"), accessFlags := 25, slot := 2, constantValue := 0 }, { name := "initialIn", type := (.object "java/io/InputStream"), accessFlags := 10, slot := 3, constantValue := 0 }, { name := "NEVER", type := .int, accessFlags := 26, slot := 4, constantValue := 0 }, { name := "MAYBE", type := .int, accessFlags := 26, slot := 5, constantValue := 0 }, { name := "allowSecurityManager", type := .int, accessFlags := 10, slot := 6, constantValue := 0 }, { name := "security", type := (.object "java/lang/SecurityManager"), accessFlags := 74, slot := 7, constantValue := 0 }, { name := "notSupportedJnuEncoding", type := (.object "java/lang/String"), accessFlags := 10, slot := 8, constantValue := 0 }, { name := "cons", type := (.object "java/io/Console"), accessFlags := 74, slot := 9, constantValue := 0 }, { name := "initialErrStream", type := (.object "java/io/PrintStream"), accessFlags := 74, slot := 10, constantValue := 0 }, { name := "props", type := (.object "java/util/Properties"), accessFlags := 10, slot := 11, constantValue := 0 }, { name := "lineSeparator", type := (.object "java/lang/String"), accessFlags := 10, slot := 12, constantValue := 0 }, { name := "bootLayer", type := (.object "java/lang/ModuleLayer"), accessFlags := 8, slot := 13, constantValue := 0 }]
  methods := #[k16m0, k16m1]
  instanceTypes := #[]
  staticTypes := #[(.object "java/io/InputStream"), (.object "java/io/PrintStream"), (.object "java/io/PrintStream"), (.object "java/io/InputStream"), .int, .int, .int, (.object "java/lang/SecurityManager"), (.object "java/lang/String"), (.object "java/io/Console"), (.object "java/io/PrintStream"), (.object "java/util/Properties"), (.object "java/lang/String"), (.object "java/lang/ModuleLayer")]
  resolved := Array.replicate 834 none
  statics := none }

def pool17 : Array CpInfo := pool [(9, u "<init>"), (6, .class_ 18), (1, u "java/lang/Object"), (0, u "()V"), (1, .class_ 23), (1, u "jdk/internal/util/ArraysSupport"), (0, u "LOG2_ARRAY_LONG_INDEX_SCALE"), (0, u "I"), (2, u "U"), (0, u "Ljdk/internal/misc/Unsafe;"), (8, u "BIG_ENDIAN"), (0, u "Z"), (8, u "LOG2_BYTE_BIT_SIZE"), (4, u "LOG2_ARRAY_INT_INDEX_SCALE"), (54, u "JLA"), (0, u "Ljdk/internal/access/JavaLangAccess;"), (11, u "LOG2_ARRAY_BOOLEAN_INDEX_SCALE"), (9, u "LOG2_ARRAY_BYTE_INDEX_SCALE"), (5, u "LOG2_ARRAY_CHAR_INDEX_SCALE"), (5, u "LOG2_ARRAY_SHORT_INDEX_SCALE"), (18, u "LOG2_ARRAY_FLOAT_INDEX_SCALE"), (24, u "LOG2_ARRAY_DOUBLE_INDEX_SCALE"), (89, u "T_BOOLEAN"), (2, u "T_CHAR"), (1, u "T_FLOAT"), (1, u "T_DOUBLE"), (1, u "T_BYTE"), (1, u "T_SHORT"), (1, u "T_INT"), (1, u "T_LONG"), (1, u "SOFT_MAX_ARRAY_LENGTH")] 83

def k17m0 : Method := { name := "<init>", desc := "()V", sig := { parameters := [], returnType := none }, accessFlags := 2, code := none }
/-- jdk/internal/util/ArraysSupport -/
def k17 : Class := { plain "jdk/internal/util/ArraysSupport" (some 0) with
  accessFlags := 33
  interfaces := #[]
  cf := some (fileOf pool17 21 #[] #[{ accessFlags := 2, nameIndex := 9, descriptorIndex := 19, attributes := #[] }] 33 16 #[] #[{ accessFlags := 24, nameIndex := 28, descriptorIndex := 29, attributes := #[] }, { accessFlags := 26, nameIndex := 38, descriptorIndex := 39, attributes := #[] }, { accessFlags := 25, nameIndex := 121, descriptorIndex := 25, attributes := #[] }, { accessFlags := 25, nameIndex := 131, descriptorIndex := 25, attributes := #[] }, { accessFlags := 25, nameIndex := 137, descriptorIndex := 25, attributes := #[] }, { accessFlags := 25, nameIndex := 143, descriptorIndex := 25, attributes := #[] }, { accessFlags := 25, nameIndex := 53, descriptorIndex := 25, attributes := #[] }, { accessFlags := 25, nameIndex := 24, descriptorIndex := 25, attributes := #[] }, { accessFlags := 25, nameIndex := 162, descriptorIndex := 25, attributes := #[] }, { accessFlags := 25, nameIndex := 187, descriptorIndex := 25, attributes := #[] }, { accessFlags := 26, nameIndex := 48, descriptorIndex := 25, attributes := #[] }, { accessFlags := 25, nameIndex := 277, descriptorIndex := 25, attributes := #[] }, { accessFlags := 25, nameIndex := 280, descriptorIndex := 25, attributes := #[] }, { accessFlags := 25, nameIndex := 282, descriptorIndex := 25, attributes := #[] }, { accessFlags := 25, nameIndex := 284, descriptorIndex := 25, attributes := #[] }, { accessFlags := 25, nameIndex := 286, descriptorIndex := 25, attributes := #[] }, { accessFlags := 25, nameIndex := 288, descriptorIndex := 25, attributes := #[] }, { accessFlags := 25, nameIndex := 290, descriptorIndex := 25, attributes := #[] }, { accessFlags := 25, nameIndex := 292, descriptorIndex := 25, attributes := #[] }, { accessFlags := 26, nameIndex := 108, descriptorIndex := 109, attributes := #[] }, { accessFlags := 25, nameIndex := 294, descriptorIndex := 25, attributes := #[] }])
  fields := #[{ name := "U", type := (.object "jdk/internal/misc/Unsafe"), accessFlags := 24, slot := 0, constantValue := 0 }, { name := "BIG_ENDIAN", type := .boolean, accessFlags := 26, slot := 1, constantValue := 0 }, { name := "LOG2_ARRAY_BOOLEAN_INDEX_SCALE", type := .int, accessFlags := 25, slot := 2, constantValue := 0 }, { name := "LOG2_ARRAY_BYTE_INDEX_SCALE", type := .int, accessFlags := 25, slot := 3, constantValue := 0 }, { name := "LOG2_ARRAY_CHAR_INDEX_SCALE", type := .int, accessFlags := 25, slot := 4, constantValue := 0 }, { name := "LOG2_ARRAY_SHORT_INDEX_SCALE", type := .int, accessFlags := 25, slot := 5, constantValue := 0 }, { name := "LOG2_ARRAY_INT_INDEX_SCALE", type := .int, accessFlags := 25, slot := 6, constantValue := 0 }, { name := "LOG2_ARRAY_LONG_INDEX_SCALE", type := .int, accessFlags := 25, slot := 7, constantValue := 0 }, { name := "LOG2_ARRAY_FLOAT_INDEX_SCALE", type := .int, accessFlags := 25, slot := 8, constantValue := 0 }, { name := "LOG2_ARRAY_DOUBLE_INDEX_SCALE", type := .int, accessFlags := 25, slot := 9, constantValue := 0 }, { name := "LOG2_BYTE_BIT_SIZE", type := .int, accessFlags := 26, slot := 10, constantValue := 0 }, { name := "T_BOOLEAN", type := .int, accessFlags := 25, slot := 11, constantValue := 0 }, { name := "T_CHAR", type := .int, accessFlags := 25, slot := 12, constantValue := 0 }, { name := "T_FLOAT", type := .int, accessFlags := 25, slot := 13, constantValue := 0 }, { name := "T_DOUBLE", type := .int, accessFlags := 25, slot := 14, constantValue := 0 }, { name := "T_BYTE", type := .int, accessFlags := 25, slot := 15, constantValue := 0 }, { name := "T_SHORT", type := .int, accessFlags := 25, slot := 16, constantValue := 0 }, { name := "T_INT", type := .int, accessFlags := 25, slot := 17, constantValue := 0 }, { name := "T_LONG", type := .int, accessFlags := 25, slot := 18, constantValue := 0 }, { name := "JLA", type := (.object "jdk/internal/access/JavaLangAccess"), accessFlags := 26, slot := 19, constantValue := 0 }, { name := "SOFT_MAX_ARRAY_LENGTH", type := .int, accessFlags := 25, slot := 20, constantValue := 0 }]
  methods := #[k17m0]
  instanceTypes := #[]
  staticTypes := #[(.object "jdk/internal/misc/Unsafe"), .boolean, .int, .int, .int, .int, .int, .int, .int, .int, .int, .int, .int, .int, .int, .int, .int, .int, .int, (.object "jdk/internal/access/JavaLangAccess"), .int]
  resolved := Array.replicate 378 none
  statics := none }

def pool18 : Array CpInfo := pool [(1, u "java/lang/Cloneable"), (0, .class_ 1), (0, u "java/lang/Object"), (0, .class_ 3)] 3

/-- java/lang/Cloneable -/
def k18 : Class := { plain "java/lang/Cloneable" (some 0) with
  accessFlags := 1537
  interfaces := #[]
  cf := some (fileOf pool18 2 #[] #[] 1537 4 #[] #[])
  fields := #[]
  methods := #[]
  instanceTypes := #[]
  staticTypes := #[]
  resolved := Array.replicate 8 none
  statics := none }

/-- the primitive byte -/
def k19 : Class := { plain "byte" none with kind := .primitive 'B', accessFlags := 0x411 }
/-- [B -/
def k20 : Class := { plain "[B" (some 0) with kind := .array 19 .byte, interfaces := #[18, 2], accessFlags := 1041 }

/-- the primitive char -/
def k21 : Class := { plain "char" none with kind := .primitive 'C', accessFlags := 0x411 }
/-- [C -/
def k22 : Class := { plain "[C" (some 0) with kind := .array 21 .char, interfaces := #[18, 2], accessFlags := 1041 }

/-- the primitive int -/
def k23 : Class := { plain "int" none with kind := .primitive 'I', accessFlags := 0x411 }
/-- [I -/
def k24 : Class := { plain "[I" (some 0) with kind := .array 23 .int, interfaces := #[18, 2], accessFlags := 1041 }

def heap : Heap := #[{ cls := 7, slots := #[.long 0, .int 1, .null, .int 0, .null, .int 0, .int 0], vm := .statics 7 },
  { cls := 13, slots := #[.null, .null, .null], vm := .statics 13 }]
def classes : Array Class := #[k0, k1, k2, k3, k4, k5, k6, k7, k8, k9, k10, k11, k12, k13, k14, k15, k16, k17, k18, k19, k20, k21, k22, k23, k24]
def interned : List (Array UInt16 × Addr) := []
def slotsUsed : Nat := 10
def theMethod : MethodId := ⟨1, 1⟩
def args0 : Array Value := #[.int 2, .int 65, .int 66, .int 67, .int 68]
def aboutOver (below : List Frame) : State where
  vm := { classes := classes, interned := interned.toArray }
  heap := heap
  slotsUsed := slotsUsed
  threads := #[{ frames := .invoking theMethod args0 :: below }]
def below0 : List Frame := [.native { method := ⟨0, 0⟩, args := #[] }]
def about1 : State := aboutOver below0
def p0 : Program := .bare "" "" ""
def e0 : Env := launch0.env 0 0 0
theorem w_frames : about1.frames = Frame.invoking theMethod args0 :: below0 := rfl
set_option maxRecDepth 65536 in
theorem w_args : argsFit about1.vm theMethod args0 = true := by decide +kernel
set_option maxRecDepth 65536 in
theorem w_heap : heapFits about1 = true := by decide +kernel
set_option maxRecDepth 65536 in
theorem w_runnable : about1.curStatus? = some .runnable := by decide +kernel
set_option maxRecDepth 65536 in
theorem w_alone : about1.alone = true := by decide +kernel
set_option maxRecDepth 65536 in
theorem w_named : about1.methodNamed? x = some theMethod := by decide +kernel
set_option maxRecDepth 65536 in
theorem w_hears : about1.hears theMethod below0 = true := by decide +kernel
set_option maxRecDepth 65536 in
theorem w_ripe : about1.ripe theMethod args0 below0 = true := by decide +kernel
theorem w_running : about1.status = .running := rfl
set_option maxRecDepth 65536 in
theorem w_room : about1.hasRoom e0.platform room_1 = true :=
  launch0.hasRoom_least _ room_1 (by decide +kernel) (by decide +kernel) (by decide +kernel) (by decide +kernel) (by decide +kernel) (by decide +kernel)
theorem allAtoms_all (ts : List Jvm.Cond) (a : Array Jvm.Value) (st : Jvm.State) : (allAtoms ts).before a st = ts.all (fun c => c.before a st) := by
  induction ts with
  | nil => rfl
  | cons c t ih =>
    show (Jvm.Cond.and c (allAtoms t)).before a st = _
    rw [Jvm.Cond.before_and, ih, List.all_cons]
def words1 : List Jvm.Cond := Jvm.Cond.code x code maxLocals ret :: tables_1
/-- a 'code' word, met by the world's own term for the bytes: nothing is compared byte by byte -/
theorem code_word {y : MethodName} {bytes : ByteArray} {mx : Nat} {rt : Option FieldType} {a : Array Value} {s : State} {m : MethodId} {meth : Method} {c : Code} (h1 : s.methodNamed? y = some m) (h2 : s.vm.method? m = some meth) (h3 : meth.code = some c) (h4 : c.code = bytes)
    (h5 : (c.maxLocals == mx && c.exceptionTable.isEmpty && decide (c.maxStack ≤ mostOperands) && decide (meth.sig.returnType = rt) && !meth.locks && decide (parseMethodDescriptor y.desc = some meth.sig)) = true) : (Jvm.Cond.code y bytes mx rt).before a s = true := by
  simp only [Bool.and_eq_true, beq_iff_eq, Bool.not_eq_true', decide_eq_true_eq] at h5
  obtain ⟨⟨⟨⟨⟨g1, g2⟩, g3⟩, g4⟩, g5⟩, g6⟩ := h5
  simp [Cond.before, Cond.holds, Cond.value, h1, h2, h3, h4, g1, g2, g3, g4, g5, g6]
def isCode : Jvm.Cond → Bool
  | .code _ _ _ _ => true
  | _ => false
theorem all_split {L : List Jvm.Cond} {P : Jvm.Cond → Bool} (h1 : L.all (fun c => isCode c || P c) = true) (h2 : ∀ c ∈ L.filter isCode, P c = true) : L.all P = true := by
  refine List.all_eq_true.mpr fun c hc => ?_
  have h := List.all_eq_true.mp h1 c hc
  rcases Bool.eq_false_or_eq_true (isCode c) with hi | hi
  · exact h2 c (List.mem_filter.mpr ⟨hc, hi⟩)
  · simpa [hi] using h
set_option maxRecDepth 65536 in
theorem w_c0 : (Jvm.Cond.code x code maxLocals ret).before args0 about1 = true := code_word (m := ⟨1, 1⟩) (meth := k1m1) (c := k1c1) (by decide +kernel) rfl rfl rfl (by decide +kernel)
set_option maxRecDepth 65536 in
theorem w_c1 : (Jvm.Cond.code ({ cls := "com/example/uplink_augur/uplinkaugur/commondata/InvalidParamExceptionNamePinLaw", name := "draw", desc := "(I)C" } : Jvm.MethodName) method_3_code (1 : Nat) (Option.some Jvm.ClassFile.FieldType.char)).before args0 about1 = true := code_word (m := ⟨1, 2⟩) (meth := k1m2) (c := k1c2) (by decide +kernel) rfl rfl rfl (by decide +kernel)
set_option maxRecDepth 65536 in
theorem w_c2 : (Jvm.Cond.code ({ cls := "java/lang/String", name := "<init>", desc := "([C)V" } : Jvm.MethodName) jdk_42_method_3_code (2 : Nat) (Option.none : Option Jvm.ClassFile.FieldType)).before args0 about1 = true := code_word (m := ⟨7, 1⟩) (meth := k7m1) (c := k7c1) (by decide +kernel) rfl rfl rfl (by decide +kernel)
set_option maxRecDepth 65536 in
theorem w_c3 : (Jvm.Cond.code ({ cls := "java/lang/String", name := "<init>", desc := "([CIILjava/lang/Void;)V" } : Jvm.MethodName) jdk_42_method_149_code (6 : Nat) (Option.none : Option Jvm.ClassFile.FieldType)).before args0 about1 = true := code_word (m := ⟨7, 8⟩) (meth := k7m8) (c := k7c8) (by decide +kernel) rfl rfl rfl (by decide +kernel)
set_option maxRecDepth 65536 in
theorem w_c4 : (Jvm.Cond.code ({ cls := "java/lang/Object", name := "<init>", desc := "()V" } : Jvm.MethodName) object_method_1_code (1 : Nat) (Option.none : Option Jvm.ClassFile.FieldType)).before args0 about1 = true := code_word (m := ⟨0, 0⟩) (meth := k0m0) (c := k0c0) (by decide +kernel) rfl rfl rfl (by decide +kernel)
set_option maxRecDepth 65536 in
theorem w_c5 : (Jvm.Cond.code ({ cls := "com/example/uplink_augur/uplinkaugur/commondata/InvalidParamException", name := "name", desc := "(Ljava/lang/String;)Ljava/lang/String;" } : Jvm.MethodName) prog_3_method_14_code (1 : Nat) (Option.some (Jvm.ClassFile.FieldType.object "java/lang/String"))).before args0 about1 = true := code_word (m := ⟨10, 0⟩) (meth := k10m0) (c := k10c0) (by decide +kernel) rfl rfl rfl (by decide +kernel)
set_option maxRecDepth 65536 in
theorem w_c6 : (Jvm.Cond.code ({ cls := "java/lang/String", name := "lastIndexOf", desc := "(I)I" } : Jvm.MethodName) jdk_42_method_82_code (2 : Nat) (Option.some Jvm.ClassFile.FieldType.int)).before args0 about1 = true := code_word (m := ⟨7, 4⟩) (meth := k7m4) (c := k7c4) (by decide +kernel) rfl rfl rfl (by decide +kernel)
set_option maxRecDepth 65536 in
theorem w_c7 : (Jvm.Cond.code ({ cls := "java/lang/String", name := "length", desc := "()I" } : Jvm.MethodName) jdk_42_method_54_code (1 : Nat) (Option.some Jvm.ClassFile.FieldType.int)).before args0 about1 = true := code_word (m := ⟨7, 2⟩) (meth := k7m2) (c := k7c2) (by decide +kernel) rfl rfl rfl (by decide +kernel)
set_option maxRecDepth 65536 in
theorem w_c8 : (Jvm.Cond.code ({ cls := "java/lang/String", name := "coder", desc := "()B" } : Jvm.MethodName) jdk_42_method_152_code (1 : Nat) (Option.some Jvm.ClassFile.FieldType.byte)).before args0 about1 = true := code_word (m := ⟨7, 10⟩) (meth := k7m10) (c := k7c10) (by decide +kernel) rfl rfl rfl (by decide +kernel)
set_option maxRecDepth 65536 in
theorem w_c9 : (Jvm.Cond.code ({ cls := "java/lang/String", name := "lastIndexOf", desc := "(II)I" } : Jvm.MethodName) jdk_42_method_83_code (3 : Nat) (Option.some Jvm.ClassFile.FieldType.int)).before args0 about1 = true := code_word (m := ⟨7, 5⟩) (meth := k7m5) (c := k7c5) (by decide +kernel) rfl rfl rfl (by decide +kernel)
set_option maxRecDepth 65536 in
theorem w_c10 : (Jvm.Cond.code ({ cls := "java/lang/String", name := "isLatin1", desc := "()Z" } : Jvm.MethodName) jdk_42_method_154_code (1 : Nat) (Option.some Jvm.ClassFile.FieldType.boolean)).before args0 about1 = true := code_word (m := ⟨7, 11⟩) (meth := k7m11) (c := k7c11) (by decide +kernel) rfl rfl rfl (by decide +kernel)
set_option maxRecDepth 65536 in
theorem w_c11 : (Jvm.Cond.code ({ cls := "java/lang/StringLatin1", name := "lastIndexOf", desc := "([BII)I" } : Jvm.MethodName) jdk_43_method_27_code (4 : Nat) (Option.some Jvm.ClassFile.FieldType.int)).before args0 about1 = true := code_word (m := ⟨11, 3⟩) (meth := k11m3) (c := k11c3) (by decide +kernel) rfl rfl rfl (by decide +kernel)
set_option maxRecDepth 65536 in
theorem w_c12 : (Jvm.Cond.code ({ cls := "java/lang/StringLatin1", name := "canEncode", desc := "(I)Z" } : Jvm.MethodName) jdk_43_method_4_code (1 : Nat) (Option.some Jvm.ClassFile.FieldType.boolean)).before args0 about1 = true := code_word (m := ⟨11, 2⟩) (meth := k11m2) (c := k11c2) (by decide +kernel) rfl rfl rfl (by decide +kernel)
set_option maxRecDepth 65536 in
theorem w_c13 : (Jvm.Cond.code ({ cls := "java/lang/Math", name := "min", desc := "(II)I" } : Jvm.MethodName) jdk_29_method_69_code (2 : Nat) (Option.some Jvm.ClassFile.FieldType.int)).before args0 about1 = true := code_word (m := ⟨12, 1⟩) (meth := k12m1) (c := k12c1) (by decide +kernel) rfl rfl rfl (by decide +kernel)
set_option maxRecDepth 65536 in
theorem w_c14 : (Jvm.Cond.code ({ cls := "java/lang/String", name := "substring", desc := "(I)Ljava/lang/String;" } : Jvm.MethodName) jdk_42_method_91_code (2 : Nat) (Option.some (Jvm.ClassFile.FieldType.object "java/lang/String"))).before args0 about1 = true := code_word (m := ⟨7, 6⟩) (meth := k7m6) (c := k7c6) (by decide +kernel) rfl rfl rfl (by decide +kernel)
set_option maxRecDepth 65536 in
theorem w_c15 : (Jvm.Cond.code ({ cls := "java/lang/String", name := "substring", desc := "(II)Ljava/lang/String;" } : Jvm.MethodName) jdk_42_method_92_code (5 : Nat) (Option.some (Jvm.ClassFile.FieldType.object "java/lang/String"))).before args0 about1 = true := code_word (m := ⟨7, 7⟩) (meth := k7m7) (c := k7c7) (by decide +kernel) rfl rfl rfl (by decide +kernel)
set_option maxRecDepth 65536 in
theorem w_c16 : (Jvm.Cond.code ({ cls := "java/lang/String", name := "checkBoundsBeginEnd", desc := "(III)V" } : Jvm.MethodName) jdk_42_method_158_code (3 : Nat) (Option.none : Option Jvm.ClassFile.FieldType)).before args0 about1 = true := code_word (m := ⟨7, 13⟩) (meth := k7m13) (c := k7c13) (by decide +kernel) rfl rfl rfl (by decide +kernel)
set_option maxRecDepth 65536 in
theorem w_c17 : (Jvm.Cond.code ({ cls := "jdk/internal/util/Preconditions", name := "checkFromToIndex", desc := "(IIILjava/util/function/BiFunction;)I" } : Jvm.MethodName) jdk_41_method_12_code (4 : Nat) (Option.some Jvm.ClassFile.FieldType.int)).before args0 about1 = true := code_word (m := ⟨13, 2⟩) (meth := k13m2) (c := k13c2) (by decide +kernel) rfl rfl rfl (by decide +kernel)
set_option maxRecDepth 65536 in
theorem w_c18 : (Jvm.Cond.code ({ cls := "java/lang/StringUTF16", name := "compress", desc := "([CII)[B" } : Jvm.MethodName) jdk_52_method_16_code (6 : Nat) (Option.some (Jvm.ClassFile.FieldType.array Jvm.ClassFile.FieldType.byte))).before args0 about1 = true := code_word (m := ⟨14, 2⟩) (meth := k14m2) (c := k14c2) (by decide +kernel) rfl rfl rfl (by decide +kernel)
set_option maxRecDepth 65536 in
theorem w_c19 : (Jvm.Cond.code ({ cls := "java/lang/StringUTF16", name := "compress", desc := "([CI[BII)I" } : Jvm.MethodName) jdk_52_method_21_code (7 : Nat) (Option.some Jvm.ClassFile.FieldType.int)).before args0 about1 = true := code_word (m := ⟨14, 3⟩) (meth := k14m3) (c := k14c3) (by decide +kernel) rfl rfl rfl (by decide +kernel)
set_option maxRecDepth 65536 in
theorem w_c20 : (Jvm.Cond.code ({ cls := "java/lang/StringUTF16", name := "coderFromArrayLen", desc := "([BI)B" } : Jvm.MethodName) jdk_52_method_15_code (2 : Nat) (Option.some Jvm.ClassFile.FieldType.byte)).before args0 about1 = true := code_word (m := ⟨14, 1⟩) (meth := k14m1) (c := k14c1) (by decide +kernel) rfl rfl rfl (by decide +kernel)
set_option maxRecDepth 65536 in
theorem w_c21 : (Jvm.Cond.code ({ cls := "java/lang/StringLatin1", name := "newString", desc := "([BII)Ljava/lang/String;" } : Jvm.MethodName) jdk_43_method_47_code (3 : Nat) (Option.some (Jvm.ClassFile.FieldType.object "java/lang/String"))).before args0 about1 = true := code_word (m := ⟨11, 4⟩) (meth := k11m4) (c := k11c4) (by decide +kernel) rfl rfl rfl (by decide +kernel)
set_option maxRecDepth 65536 in
theorem w_c22 : (Jvm.Cond.code ({ cls := "java/util/Arrays", name := "copyOfRange", desc := "([BII)[B" } : Jvm.MethodName) jdk_65_method_132_code (3 : Nat) (Option.some (Jvm.ClassFile.FieldType.array Jvm.ClassFile.FieldType.byte))).before args0 about1 = true := code_word (m := ⟨15, 2⟩) (meth := k15m2) (c := k15c2) (by decide +kernel) rfl rfl rfl (by decide +kernel)
set_option maxRecDepth 65536 in
theorem w_c23 : (Jvm.Cond.code ({ cls := "java/util/Arrays", name := "copyOfRangeByte", desc := "([BII)[B" } : Jvm.MethodName) jdk_65_method_133_code (5 : Nat) (Option.some (Jvm.ClassFile.FieldType.array Jvm.ClassFile.FieldType.byte))).before args0 about1 = true := code_word (m := ⟨15, 3⟩) (meth := k15m3) (c := k15c3) (by decide +kernel) rfl rfl rfl (by decide +kernel)
set_option maxRecDepth 65536 in
theorem w_c24 : (Jvm.Cond.code ({ cls := "java/util/Arrays", name := "checkLength", desc := "(II)V" } : Jvm.MethodName) jdk_65_method_131_code (2 : Nat) (Option.none : Option Jvm.ClassFile.FieldType)).before args0 about1 = true := code_word (m := ⟨15, 1⟩) (meth := k15m1) (c := k15c1) (by decide +kernel) rfl rfl rfl (by decide +kernel)
set_option maxRecDepth 65536 in
theorem w_c25 : (Jvm.Cond.code ({ cls := "java/lang/String", name := "<init>", desc := "([BB)V" } : Jvm.MethodName) jdk_42_method_151_code (3 : Nat) (Option.none : Option Jvm.ClassFile.FieldType)).before args0 about1 = true := code_word (m := ⟨7, 9⟩) (meth := k7m9) (c := k7c9) (by decide +kernel) rfl rfl rfl (by decide +kernel)
set_option maxRecDepth 65536 in
theorem w_c26 : (Jvm.Cond.code ({ cls := "java/lang/String", name := "charAt", desc := "(I)C" } : Jvm.MethodName) jdk_42_method_56_code (2 : Nat) (Option.some Jvm.ClassFile.FieldType.char)).before args0 about1 = true := code_word (m := ⟨7, 3⟩) (meth := k7m3) (c := k7c3) (by decide +kernel) rfl rfl rfl (by decide +kernel)
set_option maxRecDepth 65536 in
theorem w_c27 : (Jvm.Cond.code ({ cls := "java/lang/StringLatin1", name := "charAt", desc := "([BI)C" } : Jvm.MethodName) jdk_43_method_2_code (2 : Nat) (Option.some Jvm.ClassFile.FieldType.char)).before args0 about1 = true := code_word (m := ⟨11, 1⟩) (meth := k11m1) (c := k11c1) (by decide +kernel) rfl rfl rfl (by decide +kernel)
set_option maxRecDepth 65536 in
theorem w_c28 : (Jvm.Cond.code ({ cls := "java/lang/String", name := "checkIndex", desc := "(II)V" } : Jvm.MethodName) jdk_42_method_155_code (2 : Nat) (Option.none : Option Jvm.ClassFile.FieldType)).before args0 about1 = true := code_word (m := ⟨7, 12⟩) (meth := k7m12) (c := k7c12) (by decide +kernel) rfl rfl rfl (by decide +kernel)
set_option maxRecDepth 65536 in
theorem w_c29 : (Jvm.Cond.code ({ cls := "jdk/internal/util/Preconditions", name := "checkIndex", desc := "(IILjava/util/function/BiFunction;)I" } : Jvm.MethodName) jdk_41_method_11_code (3 : Nat) (Option.some Jvm.ClassFile.FieldType.int)).before args0 about1 = true := code_word (m := ⟨13, 1⟩) (meth := k13m1) (c := k13c1) (by decide +kernel) rfl rfl rfl (by decide +kernel)
set_option maxRecDepth 65536 in
theorem w_c30 : (Jvm.Cond.code ({ cls := "com/example/uplink_augur/uplinkaugur/commondata/InvalidParamExceptionNamePinLaw", name := "at", desc := "(ICCCC)C" } : Jvm.MethodName) method_4_code (5 : Nat) (Option.some Jvm.ClassFile.FieldType.char)).before args0 about1 = true := code_word (m := ⟨1, 3⟩) (meth := k1m3) (c := k1c3) (by decide +kernel) rfl rfl rfl (by decide +kernel)
def codes1 : List Jvm.Cond := [Jvm.Cond.code x code maxLocals ret, Jvm.Cond.code ({ cls := "com/example/uplink_augur/uplinkaugur/commondata/InvalidParamExceptionNamePinLaw", name := "draw", desc := "(I)C" } : Jvm.MethodName) method_3_code (1 : Nat) (Option.some Jvm.ClassFile.FieldType.char), Jvm.Cond.code ({ cls := "java/lang/String", name := "<init>", desc := "([C)V" } : Jvm.MethodName) jdk_42_method_3_code (2 : Nat) (Option.none : Option Jvm.ClassFile.FieldType), Jvm.Cond.code ({ cls := "java/lang/String", name := "<init>", desc := "([CIILjava/lang/Void;)V" } : Jvm.MethodName) jdk_42_method_149_code (6 : Nat) (Option.none : Option Jvm.ClassFile.FieldType), Jvm.Cond.code ({ cls := "java/lang/Object", name := "<init>", desc := "()V" } : Jvm.MethodName) object_method_1_code (1 : Nat) (Option.none : Option Jvm.ClassFile.FieldType), Jvm.Cond.code ({ cls := "com/example/uplink_augur/uplinkaugur/commondata/InvalidParamException", name := "name", desc := "(Ljava/lang/String;)Ljava/lang/String;" } : Jvm.MethodName) prog_3_method_14_code (1 : Nat) (Option.some (Jvm.ClassFile.FieldType.object "java/lang/String")), Jvm.Cond.code ({ cls := "java/lang/String", name := "lastIndexOf", desc := "(I)I" } : Jvm.MethodName) jdk_42_method_82_code (2 : Nat) (Option.some Jvm.ClassFile.FieldType.int), Jvm.Cond.code ({ cls := "java/lang/String", name := "length", desc := "()I" } : Jvm.MethodName) jdk_42_method_54_code (1 : Nat) (Option.some Jvm.ClassFile.FieldType.int), Jvm.Cond.code ({ cls := "java/lang/String", name := "coder", desc := "()B" } : Jvm.MethodName) jdk_42_method_152_code (1 : Nat) (Option.some Jvm.ClassFile.FieldType.byte), Jvm.Cond.code ({ cls := "java/lang/String", name := "lastIndexOf", desc := "(II)I" } : Jvm.MethodName) jdk_42_method_83_code (3 : Nat) (Option.some Jvm.ClassFile.FieldType.int), Jvm.Cond.code ({ cls := "java/lang/String", name := "isLatin1", desc := "()Z" } : Jvm.MethodName) jdk_42_method_154_code (1 : Nat) (Option.some Jvm.ClassFile.FieldType.boolean), Jvm.Cond.code ({ cls := "java/lang/StringLatin1", name := "lastIndexOf", desc := "([BII)I" } : Jvm.MethodName) jdk_43_method_27_code (4 : Nat) (Option.some Jvm.ClassFile.FieldType.int), Jvm.Cond.code ({ cls := "java/lang/StringLatin1", name := "canEncode", desc := "(I)Z" } : Jvm.MethodName) jdk_43_method_4_code (1 : Nat) (Option.some Jvm.ClassFile.FieldType.boolean), Jvm.Cond.code ({ cls := "java/lang/Math", name := "min", desc := "(II)I" } : Jvm.MethodName) jdk_29_method_69_code (2 : Nat) (Option.some Jvm.ClassFile.FieldType.int), Jvm.Cond.code ({ cls := "java/lang/String", name := "substring", desc := "(I)Ljava/lang/String;" } : Jvm.MethodName) jdk_42_method_91_code (2 : Nat) (Option.some (Jvm.ClassFile.FieldType.object "java/lang/String")), Jvm.Cond.code ({ cls := "java/lang/String", name := "substring", desc := "(II)Ljava/lang/String;" } : Jvm.MethodName) jdk_42_method_92_code (5 : Nat) (Option.some (Jvm.ClassFile.FieldType.object "java/lang/String")), Jvm.Cond.code ({ cls := "java/lang/String", name := "checkBoundsBeginEnd", desc := "(III)V" } : Jvm.MethodName) jdk_42_method_158_code (3 : Nat) (Option.none : Option Jvm.ClassFile.FieldType), Jvm.Cond.code ({ cls := "jdk/internal/util/Preconditions", name := "checkFromToIndex", desc := "(IIILjava/util/function/BiFunction;)I" } : Jvm.MethodName) jdk_41_method_12_code (4 : Nat) (Option.some Jvm.ClassFile.FieldType.int), Jvm.Cond.code ({ cls := "java/lang/StringUTF16", name := "compress", desc := "([CII)[B" } : Jvm.MethodName) jdk_52_method_16_code (6 : Nat) (Option.some (Jvm.ClassFile.FieldType.array Jvm.ClassFile.FieldType.byte)), Jvm.Cond.code ({ cls := "java/lang/StringUTF16", name := "compress", desc := "([CI[BII)I" } : Jvm.MethodName) jdk_52_method_21_code (7 : Nat) (Option.some Jvm.ClassFile.FieldType.int), Jvm.Cond.code ({ cls := "java/lang/StringUTF16", name := "coderFromArrayLen", desc := "([BI)B" } : Jvm.MethodName) jdk_52_method_15_code (2 : Nat) (Option.some Jvm.ClassFile.FieldType.byte), Jvm.Cond.code ({ cls := "java/lang/StringLatin1", name := "newString", desc := "([BII)Ljava/lang/String;" } : Jvm.MethodName) jdk_43_method_47_code (3 : Nat) (Option.some (Jvm.ClassFile.FieldType.object "java/lang/String")), Jvm.Cond.code ({ cls := "java/util/Arrays", name := "copyOfRange", desc := "([BII)[B" } : Jvm.MethodName) jdk_65_method_132_code (3 : Nat) (Option.some (Jvm.ClassFile.FieldType.array Jvm.ClassFile.FieldType.byte)), Jvm.Cond.code ({ cls := "java/util/Arrays", name := "copyOfRangeByte", desc := "([BII)[B" } : Jvm.MethodName) jdk_65_method_133_code (5 : Nat) (Option.some (Jvm.ClassFile.FieldType.array Jvm.ClassFile.FieldType.byte)), Jvm.Cond.code ({ cls := "java/util/Arrays", name := "checkLength", desc := "(II)V" } : Jvm.MethodName) jdk_65_method_131_code (2 : Nat) (Option.none : Option Jvm.ClassFile.FieldType), Jvm.Cond.code ({ cls := "java/lang/String", name := "<init>", desc := "([BB)V" } : Jvm.MethodName) jdk_42_method_151_code (3 : Nat) (Option.none : Option Jvm.ClassFile.FieldType), Jvm.Cond.code ({ cls := "java/lang/String", name := "charAt", desc := "(I)C" } : Jvm.MethodName) jdk_42_method_56_code (2 : Nat) (Option.some Jvm.ClassFile.FieldType.char), Jvm.Cond.code ({ cls := "java/lang/StringLatin1", name := "charAt", desc := "([BI)C" } : Jvm.MethodName) jdk_43_method_2_code (2 : Nat) (Option.some Jvm.ClassFile.FieldType.char), Jvm.Cond.code ({ cls := "java/lang/String", name := "checkIndex", desc := "(II)V" } : Jvm.MethodName) jdk_42_method_155_code (2 : Nat) (Option.none : Option Jvm.ClassFile.FieldType), Jvm.Cond.code ({ cls := "jdk/internal/util/Preconditions", name := "checkIndex", desc := "(IILjava/util/function/BiFunction;)I" } : Jvm.MethodName) jdk_41_method_11_code (3 : Nat) (Option.some Jvm.ClassFile.FieldType.int), Jvm.Cond.code ({ cls := "com/example/uplink_augur/uplinkaugur/commondata/InvalidParamExceptionNamePinLaw", name := "at", desc := "(ICCCC)C" } : Jvm.MethodName) method_4_code (5 : Nat) (Option.some Jvm.ClassFile.FieldType.char)]
set_option maxRecDepth 65536 in
theorem codes_eq : words1.filter isCode = codes1 := rfl
theorem w_codes : ∀ c ∈ words1.filter isCode, c.before args0 about1 = true := by
  rw [codes_eq]
  intro c hc
  simp only [codes1, List.mem_cons, List.not_mem_nil, or_false] at hc
  rcases hc with rfl | rfl | rfl | rfl | rfl | rfl | rfl | rfl | rfl | rfl | rfl | rfl | rfl | rfl | rfl | rfl | rfl | rfl | rfl | rfl | rfl | rfl | rfl | rfl | rfl | rfl | rfl | rfl | rfl | rfl | rfl
  · exact w_c0
  · exact w_c1
  · exact w_c2
  · exact w_c3
  · exact w_c4
  · exact w_c5
  · exact w_c6
  · exact w_c7
  · exact w_c8
  · exact w_c9
  · exact w_c10
  · exact w_c11
  · exact w_c12
  · exact w_c13
  · exact w_c14
  · exact w_c15
  · exact w_c16
  · exact w_c17
  · exact w_c18
  · exact w_c19
  · exact w_c20
  · exact w_c21
  · exact w_c22
  · exact w_c23
  · exact w_c24
  · exact w_c25
  · exact w_c26
  · exact w_c27
  · exact w_c28
  · exact w_c29
  · exact w_c30
set_option maxRecDepth 65536 in
theorem w_t1 : (words1.take 24).all (fun c => isCode c || c.before args0 about1) = true := by decide +kernel
set_option maxRecDepth 65536 in
theorem w_t2 : ((words1.drop 24).take 24).all (fun c => isCode c || c.before args0 about1) = true := by decide +kernel
set_option maxRecDepth 65536 in
theorem w_t3 : (((words1.drop 24).drop 24).take 24).all (fun c => isCode c || c.before args0 about1) = true := by decide +kernel
set_option maxRecDepth 65536 in
theorem w_t4 : ((((words1.drop 24).drop 24).drop 24).take 24).all (fun c => isCode c || c.before args0 about1) = true := by decide +kernel
set_option maxRecDepth 65536 in
theorem w_t5 : (((((words1.drop 24).drop 24).drop 24).drop 24).take 24).all (fun c => isCode c || c.before args0 about1) = true := by decide +kernel
set_option maxRecDepth 65536 in
theorem w_t6 : (((((words1.drop 24).drop 24).drop 24).drop 24).drop 24).all (fun c => isCode c || c.before args0 about1) = true := by decide +kernel
theorem w_tables : (allAtoms (Jvm.Cond.code x code maxLocals ret :: tables_1)).before args0 about1 = true := by
  rw [allAtoms_all]
  show words1.all (fun c => c.before args0 about1) = true
  refine all_split ?_ w_codes
  rw [← List.take_append_drop 24 words1, List.all_append, w_t1, ← List.take_append_drop 24 (words1.drop 24), List.all_append, w_t2, ← List.take_append_drop 24 ((words1.drop 24).drop 24), List.all_append, w_t3, ← List.take_append_drop 24 (((words1.drop 24).drop 24).drop 24), List.all_append, w_t4, ← List.take_append_drop 24 ((((words1.drop 24).drop 24).drop 24).drop 24), List.all_append, w_t5, w_t6]
  rfl
set_option maxRecDepth 65536 in
theorem w_rest : rest_1_c.before args0 about1 = true := by decide +kernel
set_option maxRecDepth 65536 in
theorem w_case : (Jvm.Cond.and given_1 narrow_1).before args0 about1 = true := by decide +kernel
set_option maxRecDepth 65536 in
theorem w_consts : constsHeld consts_1 about1 := Jvm.Lit.constsHeldB_iff.mp (by decide +kernel)
theorem w_applies : (headSpec (Jvm.Cond.code x code maxLocals ret :: tables_1) room_1).applies x e0.platform about1 = true :=
  (Spec.applies_iff w_frames).mpr ⟨w_running, w_runnable, w_alone, w_named, w_hears, w_ripe, w_room, w_tables⟩
theorem atStart : AtStart classFile x code maxLocals ret World_1 tables_1 room_1 Calls_1 rest_1 Pre_1 launch0 p0 e0 about1 theMethod args0 below0 :=
  ⟨lists_1, trivial, launch0.admits_env _ _ _, launch0.least_env, fairChoices_fair.cas, fairChoices_fair.clock, w_frames, w_args, w_heap, w_applies, ⟨w_consts, trivial⟩, w_rest, w_case⟩
end start1
theorem witness_1 : WitnessClaimed_1 := ⟨start1.p0, start1.e0, start1.about1, start1.theMethod, start1.args0, start1.below0, start1.atStart⟩
end Jvm.Pilot.@@N@@
