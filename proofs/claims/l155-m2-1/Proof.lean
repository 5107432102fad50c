import JvmDerived
import JvmDerived.Pilot.@@N@@Statement
import JvmDerived.Pilot.@@N@@Code
set_option linter.unusedVariables false
set_option linter.unusedSimpArgs false
namespace Jvm.GoKit
open Sem ClassFile Op Lib Jvm.Stand Jvm.Free Jvm.LawKit Jvm.RoadKit
/- own layer: goal-directed steps -/
abbrev fr (m : MethodId) (pc : Nat) (L : List Slot) (st : List Value) : JFrame := mkF m pc ⟨L⟩ st
def Go (p : Program) (e : Env) (below : List Frame) (Q : Outcome → State → Prop) (t : State) : Prop :=
  ∃ s₂ o, Steps p.tables e below t s₂ ∧ s₂.status = .running ∧ Ended s₂ below o ∧ Q o s₂
def lk : List Slot → Nat → Option Slot
  | [], _ => none
  | a :: _, 0 => some a
  | _ :: t, n + 1 => lk t n
def put1 : List Slot → Nat → Slot → List Slot
  | [], _, _ => []
  | _ :: t, 0, v => v :: t
  | a :: t, n + 1, v => a :: put1 t n v
def one : Slot → Bool
  | .unset => true
  | .val (.int _) => true
  | .val (.float _) => true
  | .val (.ref _) => true
  | .val .null => true
  | _ => false
def two : Slot → Bool
  | .val (.long _) => true
  | .val (.double _) => true
  | _ => false
theorem lk_eq : ∀ (L : List Slot) (k : Nat), lk L k = L[k]?
  | [], _ => by simp [lk]
  | a :: _, 0 => by simp [lk]
  | _ :: t, n + 1 => by simp [lk, lk_eq t n]
theorem put1_eq : ∀ (L : List Slot) (k : Nat) (v : Slot), put1 L k v = L.set k v
  | [], _, _ => by simp [put1]
  | _ :: t, 0, v => by simp [put1]
  | a :: t, n + 1, v => by simp [put1, put1_eq t n v]
theorem lk_arr {L : List Slot} {k : Nat} {o : Slot} (h : lk L k = some o) : (Array.mk L)[k]? = some o := by rw [lk_eq] at h; simpa using h
theorem one_or {o : Slot} (h : one o = true) : o = .unset ∨ ∃ w, o = .val w ∧ w.category = 1 := by
  cases o with
  | unset => exact Or.inl rfl
  | second => simp [one] at h
  | val w => cases w <;> first | exact Or.inr ⟨_, rfl, rfl⟩ | (simp [one] at h; done)
theorem st1 {L : List Slot} {k : Nat} {o : Slot} {v : Value} (hl : lk L k = some o) (ho : one o = true) (hv : v.category = 1) : storeLocals ⟨L⟩ k v = some ⟨put1 L k (.val v)⟩ := by
  rw [XS.store1 (lk_arr hl) (one_or ho) hv, put1_eq]
  simp
theorem st2 {L : List Slot} {k : Nat} {o o' : Slot} {v : Value} (hl : lk L k = some o) (hl' : lk L (k + 1) = some o') (ho : (one o || two o) = true) (ho' : two o' = false) (hv : v.category = 2) :
    storeLocals ⟨L⟩ k v = some ⟨put1 (put1 L k (.val v)) (k + 1) .second⟩ := by
  rw [put1_eq, put1_eq]
  rw [lk_eq] at hl hl'
  obtain ⟨hi, e1⟩ := List.getElem?_eq_some_iff.mp hl
  obtain ⟨hi', e2⟩ := List.getElem?_eq_some_iff.mp hl'
  have a1 : (Array.mk L)[k]? = some o := by simpa using hl
  have key : ∀ L1 : List Slot, L1.length = L.length → (∃ w, L1[k + 1]? = some w ∧ two w = false) → (L1.set k (.val v)).set (k + 1) .second = (L.set k (.val v)).set (k + 1) .second → storeSelf ⟨L1⟩ k v = some ⟨(L.set k (.val v)).set (k + 1) .second⟩ := by
    intro L1 hlen hw heq
    obtain ⟨w, hw1, hw2⟩ := hw
    have b1 : ((Array.mk L1).setIfInBounds k (.val v))[k + 1]? = some w := by
      simp [List.getElem?_set, hw1]
    unfold storeSelf
    simp only [setAt, hv, if_true]
    rw [if_pos (by simpa [hlen] using hi)]
    simp only [Option.bind_eq_bind, Option.bind_some, b1]
    have fin : (if k + 1 < ((Array.mk L1).setIfInBounds k (.val v)).size then some (((Array.mk L1).setIfInBounds k (.val v)).setIfInBounds (k + 1) Slot.second) else none) = some ⟨(L.set k (.val v)).set (k + 1) .second⟩ := by
      rw [if_pos (by simpa [hlen] using hi')]
      simpa using heq
    cases w with
    | unset => exact fin
    | second => exact fin
    | val w => cases w <;> first | exact fin | (simp [two] at hw2; done)
  unfold storeLocals
  simp only [a1, Option.bind_eq_bind, Option.bind_some]
  have plain := key L rfl ⟨o', hl', ho'⟩ rfl
  cases o with
  | unset => exact plain
  | second => simp [one, two] at ho
  | val w =>
    cases w with
    | long z => 
      simp only [Value.category, if_true, setAt]
      rw [if_pos (by simpa using hi')]
      simp only [Option.bind_some]
      have := key (L.set (k + 1) .unset) (by simp) ⟨.unset, by simp [hi'], rfl⟩ (by
        apply List.ext_getElem?
        intro i
        simp only [List.getElem?_set, List.length_set]
        repeat' split
        all_goals first | rfl | omega | simp_all)
      simpa using this
    | double z =>
      simp only [Value.category, if_true, setAt]
      rw [if_pos (by simpa using hi')]
      simp only [Option.bind_some]
      have := key (L.set (k + 1) .unset) (by simp) ⟨.unset, by simp [hi'], rfl⟩ (by
        apply List.ext_getElem?
        intro i
        simp only [List.getElem?_set, List.length_set]
        repeat' split
        all_goals first | rfl | omega | simp_all)
      simpa using this
    | _ => first | exact plain | (simp [one, two] at ho; done)
theorem nl {a b : Nat} (h : Nat.ble (a + 1) b = true := by rfl) : a < b := Nat.le_of_ble_eq_true h
theorem Fr.low {k k' : Nat} {L : List Loc} (N : Fr k L) (q : k' ≤ k) : Fr k' L := fun y hy => Nat.le_trans q (N y hy)
theorem nb {a b : Nat} (h : Nat.ble a b = true := by rfl) : a ≤ b := Nat.le_of_ble_eq_true h
def CP : ClassFile.Cond → Int32 → Int32 → Prop
  | .eq, x, y => x = y
  | .ne, x, y => ¬ x = y
  | .lt, x, y => x < y
  | .ge, x, y => ¬ x < y
  | .gt, x, y => y < x
  | .le, x, y => ¬ y < x
def CN : ClassFile.Cond → Int32 → Int32 → Prop
  | .eq, x, y => ¬ x = y
  | .ne, x, y => x = y
  | .lt, x, y => ¬ x < y
  | .ge, x, y => x < y
  | .gt, x, y => ¬ y < x
  | .le, x, y => y < x
instance (cd : ClassFile.Cond) (x y : Int32) : Decidable (CP cd x y) := match cd with
  | .eq => inferInstanceAs (Decidable (x = y))
  | .ne => inferInstanceAs (Decidable (¬ x = y))
  | .lt => inferInstanceAs (Decidable (x < y))
  | .ge => inferInstanceAs (Decidable (¬ x < y))
  | .gt => inferInstanceAs (Decidable (y < x))
  | .le => inferInstanceAs (Decidable (¬ y < x))
instance (cd : ClassFile.Cond) (x y : Int32) : Decidable (CN cd x y) := match cd with
  | .eq => inferInstanceAs (Decidable (¬ x = y))
  | .ne => inferInstanceAs (Decidable (x = y))
  | .lt => inferInstanceAs (Decidable (¬ x < y))
  | .ge => inferInstanceAs (Decidable (x < y))
  | .gt => inferInstanceAs (Decidable (¬ y < x))
  | .le => inferInstanceAs (Decidable (y < x))
theorem CP.holds {cd : ClassFile.Cond} {x y : Int32} (h : CP cd x y) : if_icmp.holds cd x y = true := by
  cases cd
  · exact (teq h).1
  · exact (feq h).2
  · exact (tlt h).1
  · exact (flt h).2.1
  · exact (tlt h).2.2.1
  · exact (flt h).2.2.2
theorem CN.holds {cd : ClassFile.Cond} {x y : Int32} (h : CN cd x y) : if_icmp.holds cd x y = false := by
  cases cd
  · exact (feq h).1
  · exact (teq h).2
  · exact (flt h).1
  · exact (tlt h).2.1
  · exact (flt h).2.2.1
  · exact (tlt h).2.2.2
theorem cp_or (cd : ClassFile.Cond) (x y : Int32) : CP cd x y ∨ CN cd x y := by
  cases cd
  · exact Classical.em _
  · exact (Classical.em (x = y)).symm
  · exact Classical.em _
  · exact (Classical.em (x < y)).symm
  · exact Classical.em _
  · exact (Classical.em (y < x)).symm
/-- what a body's walk knows besides where it stands -/
def Ctx (p : Program) (Z : State) (s : State) (m : MethodId) (meth : Method) (c : Code) (own nm : String) (bytes : ByteArray) (maxL : Nat) (ret : Option FieldType) : Prop :=
  p.tables.exec = Jvm.exec ∧ c.code = bytes ∧ c.maxLocals = maxL ∧ s.vm.findClass own = some m.cls ∧ meth.name = nm ∧ Z.Warmed39 s.vm ∧ meth.sig.returnType = ret ∧ meth.locks = false
/-- the end that a contract asks -/
def End (s : State) (C S : Nat) (Q : Option Value → Heap → List Loc → Prop) (o : Outcome) (U' : State) : Prop := ∃ v L, o = .returned v ∧ Q v U'.heap L ∧ FrameEnd s o U' L C S
section
variable {p : Program} {l : Launch} {e : Env} {R : Room} {s : State} {m : MethodId} {args : Array Value} {below : List Frame} {meth : Method} {c : Code} {T : State} {locs : List Loc} {cells slots : Nat}
  {Z : State} {own nm : String} {bytes : ByteArray} {maxL : Nat} {ret : Option FieldType} {Q : Outcome → State → Prop} {pc pc' pcT : Nat} {L : List Slot} {st : List Value} {a0 : Array Value} {h : Heap}
theorem Ctx.hx (B : Ctx p Z s m meth c own nm bytes maxL ret) : p.tables.exec = Jvm.exec := B.1
theorem Ctx.by' (B : Ctx p Z s m meth c own nm bytes maxL ret) : c.code = bytes := B.2.1
theorem Ctx.ml (B : Ctx p Z s m meth c own nm bytes maxL ret) : c.maxLocals = maxL := B.2.2.1
theorem Ctx.cl (B : Ctx p Z s m meth c own nm bytes maxL ret) : s.vm.findClass own = some m.cls := B.2.2.2.1
theorem Ctx.na (B : Ctx p Z s m meth c own nm bytes maxL ret) : meth.name = nm := B.2.2.2.2.1
theorem Ctx.hZ (B : Ctx p Z s m meth c own nm bytes maxL ret) : Z.Warmed39 s.vm := B.2.2.2.2.2.1
theorem Ctx.re (B : Ctx p Z s m meth c own nm bytes maxL ret) : meth.sig.returnType = ret := B.2.2.2.2.2.2.1
theorem Ctx.lk (B : Ctx p Z s m meth c own nm bytes maxL ret) : meth.locks = false := B.2.2.2.2.2.2.2
theorem Go.of {t t' : State} (h : ∀ u, Steps p.tables e below t' u → Steps p.tables e below t u) (k : Go p e below Q t') : Go p e below Q t := by
  obtain ⟨s₂, o, h1, h2⟩ := k
  exact ⟨s₂, o, h _ h1, h2⟩
theorem Go.come {t t' : State} (h : Steps p.tables e below t t') (k : Go p e below Q t') : Go p e below Q t := Go.of (fun _ q => h.trans q) k

theorem Go.iloadN (B : Ctx p Z s m meth c own nm bytes maxL ret) (X : Stand p l e R s m args below meth c T locs cells slots) {k : Fin 4} {v : Int32} (hd : decode bytes pc = .ok (.iload_n k, 1)) (hp : pc + 1 = pc') (hl : lk L k.val = some (.val (.int v)))
    (k : Go p e below Q (T.setTop (fr m pc' L (.int v :: st)))) : Go p e below Q (T.setTop (fr m pc L (st))) := by
  subst hp
  exact Go.of (fun _ q => XS.iloadN X.here B.hx rfl (hb B.by' hd) (lk_arr hl) q) k
theorem Go.iload (B : Ctx p Z s m meth c own nm bytes maxL ret) (X : Stand p l e R s m args below meth c T locs cells slots) {k : Nat} {v : Int32} (hd : decode bytes pc = .ok (.iload k, 2)) (hp : pc + 2 = pc') (hl : lk L k = some (.val (.int v)))
    (k : Go p e below Q (T.setTop (fr m pc' L (.int v :: st)))) : Go p e below Q (T.setTop (fr m pc L (st))) := by
  subst hp
  exact Go.of (fun _ q => XS.iload X.here B.hx rfl (hb B.by' hd) (lk_arr hl) q) k
theorem Go.lloadN (B : Ctx p Z s m meth c own nm bytes maxL ret) (X : Stand p l e R s m args below meth c T locs cells slots) {k : Fin 4} {v : Int64} (hd : decode bytes pc = .ok (.lload_n k, 1)) (hp : pc + 1 = pc') (hl : lk L k.val = some (.val (.long v)))
    (k : Go p e below Q (T.setTop (fr m pc' L (.long v :: st)))) : Go p e below Q (T.setTop (fr m pc L (st))) := by
  subst hp
  exact Go.of (fun _ q => XS.lloadN X.here B.hx rfl (hb B.by' hd) (lk_arr hl) q) k
theorem Go.lload (B : Ctx p Z s m meth c own nm bytes maxL ret) (X : Stand p l e R s m args below meth c T locs cells slots) {k : Nat} {v : Int64} (hd : decode bytes pc = .ok (.lload k, 2)) (hp : pc + 2 = pc') (hl : lk L k = some (.val (.long v)))
    (k : Go p e below Q (T.setTop (fr m pc' L (.long v :: st)))) : Go p e below Q (T.setTop (fr m pc L (st))) := by
  subst hp
  exact Go.of (fun _ q => XS.lload X.here B.hx rfl (hb B.by' hd) (lk_arr hl) q) k
theorem Go.dloadN (B : Ctx p Z s m meth c own nm bytes maxL ret) (X : Stand p l e R s m args below meth c T locs cells slots) {k : Fin 4} {v : UInt64} (hd : decode bytes pc = .ok (.dload_n k, 1)) (hp : pc + 1 = pc') (hl : lk L k.val = some (.val (.double v)))
    (k : Go p e below Q (T.setTop (fr m pc' L (.double v :: st)))) : Go p e below Q (T.setTop (fr m pc L (st))) := by
  subst hp
  exact Go.of (fun _ q => XS.dloadN X.here B.hx rfl (hb B.by' hd) (lk_arr hl) q) k
theorem Go.dload (B : Ctx p Z s m meth c own nm bytes maxL ret) (X : Stand p l e R s m args below meth c T locs cells slots) {k : Nat} {v : UInt64} (hd : decode bytes pc = .ok (.dload k, 2)) (hp : pc + 2 = pc') (hl : lk L k = some (.val (.double v)))
    (k : Go p e below Q (T.setTop (fr m pc' L (.double v :: st)))) : Go p e below Q (T.setTop (fr m pc L (st))) := by
  subst hp
  exact Go.of (fun _ q => XS.dload X.here B.hx rfl (hb B.by' hd) (lk_arr hl) q) k
theorem Go.aloadN (B : Ctx p Z s m meth c own nm bytes maxL ret) (X : Stand p l e R s m args below meth c T locs cells slots) {k : Fin 4} {v : Value} (hd : decode bytes pc = .ok (.aload_n k, 1)) (hp : pc + 1 = pc') (hl : lk L k.val = some (.val v)) (hv : v.isRef = true)
    (k : Go p e below Q (T.setTop (fr m pc' L (v :: st)))) : Go p e below Q (T.setTop (fr m pc L (st))) := by
  subst hp
  exact Go.of (fun _ q => XS.aloadN X.here B.hx rfl (hb B.by' hd) (lk_arr hl) hv q) k
theorem Go.aload (B : Ctx p Z s m meth c own nm bytes maxL ret) (X : Stand p l e R s m args below meth c T locs cells slots) {k : Nat} {v : Value} (hd : decode bytes pc = .ok (.aload k, 2)) (hp : pc + 2 = pc') (hl : lk L k = some (.val v)) (hv : v.isRef = true)
    (k : Go p e below Q (T.setTop (fr m pc' L (v :: st)))) : Go p e below Q (T.setTop (fr m pc L (st))) := by
  subst hp
  exact Go.of (fun _ q => XS.aload X.here B.hx rfl (hb B.by' hd) (lk_arr hl) hv q) k
theorem Go.istoreN (B : Ctx p Z s m meth c own nm bytes maxL ret) (X : Stand p l e R s m args below meth c T locs cells slots) {k : Fin 4} {x : Int32} {o : Slot} (hd : decode bytes pc = .ok (.istore_n k, 1)) (hp : pc + 1 = pc') (hl : lk L k.val = some o) (ho : one o = true)
    (k : Go p e below Q (T.setTop (fr m pc' (put1 L k.val (.val (.int x))) (st)))) : Go p e below Q (T.setTop (fr m pc L (.int x :: st))) := by
  subst hp
  exact Go.of (fun _ q => XS.istoreN X.here B.hx rfl (hb B.by' hd) rfl (st1 hl ho rfl) q) k
theorem Go.istore (B : Ctx p Z s m meth c own nm bytes maxL ret) (X : Stand p l e R s m args below meth c T locs cells slots) {k : Nat} {x : Int32} {o : Slot} (hd : decode bytes pc = .ok (.istore k, 2)) (hp : pc + 2 = pc') (hl : lk L k = some o) (ho : one o = true)
    (k : Go p e below Q (T.setTop (fr m pc' (put1 L k (.val (.int x))) (st)))) : Go p e below Q (T.setTop (fr m pc L (.int x :: st))) := by
  subst hp
  exact Go.of (fun _ q => XS.istore X.here B.hx rfl (hb B.by' hd) rfl (st1 hl ho rfl) q) k
theorem Go.astoreN (B : Ctx p Z s m meth c own nm bytes maxL ret) (X : Stand p l e R s m args below meth c T locs cells slots) {k : Fin 4} {x : Value} {o : Slot} (hd : decode bytes pc = .ok (.astore_n k, 1)) (hp : pc + 1 = pc') (hl : lk L k.val = some o) (ho : one o = true) (hv : x.isRef = true)
    (k : Go p e below Q (T.setTop (fr m pc' (put1 L k.val (.val x)) (st)))) : Go p e below Q (T.setTop (fr m pc L (x :: st))) := by
  subst hp
  exact Go.of (fun _ q => XS.astoreN X.here B.hx rfl (hb B.by' hd) rfl hv (st1 hl ho (XT.cat1 hv)) q) k
theorem Go.astore (B : Ctx p Z s m meth c own nm bytes maxL ret) (X : Stand p l e R s m args below meth c T locs cells slots) {k : Nat} {x : Value} {o : Slot} (hd : decode bytes pc = .ok (.astore k, 2)) (hp : pc + 2 = pc') (hl : lk L k = some o) (ho : one o = true) (hv : x.isRef = true)
    (k : Go p e below Q (T.setTop (fr m pc' (put1 L k (.val x)) (st)))) : Go p e below Q (T.setTop (fr m pc L (x :: st))) := by
  subst hp
  exact Go.of (fun _ q => XS.astore X.here B.hx rfl (hb B.by' hd) rfl hv (st1 hl ho (XT.cat1 hv)) q) k
theorem Go.lstoreN (B : Ctx p Z s m meth c own nm bytes maxL ret) (X : Stand p l e R s m args below meth c T locs cells slots) {k : Fin 4} {x : Int64} {o o' : Slot} (hd : decode bytes pc = .ok (.lstore_n k, 1)) (hp : pc + 1 = pc') (hl : lk L k.val = some o) (hl' : lk L (k.val + 1) = some o') (ho : (one o || two o) = true) (ho' : two o' = false)
    (k : Go p e below Q (T.setTop (fr m pc' (put1 (put1 L k.val (.val (.long x))) (k.val + 1) .second) (st)))) : Go p e below Q (T.setTop (fr m pc L (.long x :: st))) := by
  subst hp
  exact Go.of (fun _ q => XS.lstoreN X.here B.hx rfl (hb B.by' hd) rfl (st2 hl hl' ho ho' rfl) q) k
theorem Go.lstore (B : Ctx p Z s m meth c own nm bytes maxL ret) (X : Stand p l e R s m args below meth c T locs cells slots) {k : Nat} {x : Int64} {o o' : Slot} (hd : decode bytes pc = .ok (.lstore k, 2)) (hp : pc + 2 = pc') (hl : lk L k = some o) (hl' : lk L (k + 1) = some o') (ho : (one o || two o) = true) (ho' : two o' = false)
    (k : Go p e below Q (T.setTop (fr m pc' (put1 (put1 L k (.val (.long x))) (k + 1) .second) (st)))) : Go p e below Q (T.setTop (fr m pc L (.long x :: st))) := by
  subst hp
  exact Go.of (fun _ q => XS.lstore X.here B.hx rfl (hb B.by' hd) rfl (st2 hl hl' ho ho' rfl) q) k
theorem Go.dstoreN (B : Ctx p Z s m meth c own nm bytes maxL ret) (X : Stand p l e R s m args below meth c T locs cells slots) {k : Fin 4} {x : UInt64} {o o' : Slot} (hd : decode bytes pc = .ok (.dstore_n k, 1)) (hp : pc + 1 = pc') (hl : lk L k.val = some o) (hl' : lk L (k.val + 1) = some o') (ho : (one o || two o) = true) (ho' : two o' = false)
    (k : Go p e below Q (T.setTop (fr m pc' (put1 (put1 L k.val (.val (.double x))) (k.val + 1) .second) (st)))) : Go p e below Q (T.setTop (fr m pc L (.double x :: st))) := by
  subst hp
  exact Go.of (fun _ q => XS.dstoreN X.here B.hx rfl (hb B.by' hd) rfl (st2 hl hl' ho ho' rfl) q) k
theorem Go.dstore (B : Ctx p Z s m meth c own nm bytes maxL ret) (X : Stand p l e R s m args below meth c T locs cells slots) {k : Nat} {x : UInt64} {o o' : Slot} (hd : decode bytes pc = .ok (.dstore k, 2)) (hp : pc + 2 = pc') (hl : lk L k = some o) (hl' : lk L (k + 1) = some o') (ho : (one o || two o) = true) (ho' : two o' = false)
    (k : Go p e below Q (T.setTop (fr m pc' (put1 (put1 L k (.val (.double x))) (k + 1) .second) (st)))) : Go p e below Q (T.setTop (fr m pc L (.double x :: st))) := by
  subst hp
  exact Go.of (fun _ q => XS.dstore X.here B.hx rfl (hb B.by' hd) rfl (st2 hl hl' ho ho' rfl) q) k
theorem Go.iconst (B : Ctx p Z s m meth c own nm bytes maxL ret) (X : Stand p l e R s m args below meth c T locs cells slots) {i : Int} (v : Int32) (hd : decode bytes pc = .ok (.iconst i, 1)) (hp : pc + 1 = pc') (hv : Int32.ofInt i = v)
    (k : Go p e below Q (T.setTop (fr m pc' L (.int v :: st)))) : Go p e below Q (T.setTop (fr m pc L (st))) := by
  subst hp
  exact Go.of (fun _ q => XS.iconst X.here B.hx rfl (hb B.by' hd) (hv ▸ q)) k
theorem Go.bipush (B : Ctx p Z s m meth c own nm bytes maxL ret) (X : Stand p l e R s m args below meth c T locs cells slots) {i : Int} (v : Int32) (hd : decode bytes pc = .ok (.bipush i, 2)) (hp : pc + 2 = pc') (hv : (Int8.ofInt i).toInt32 = v)
    (k : Go p e below Q (T.setTop (fr m pc' L (.int v :: st)))) : Go p e below Q (T.setTop (fr m pc L (st))) := by
  subst hp
  exact Go.of (fun _ q => XS.bipush X.here B.hx rfl (hb B.by' hd) (hv ▸ q)) k
theorem Go.sipush (B : Ctx p Z s m meth c own nm bytes maxL ret) (X : Stand p l e R s m args below meth c T locs cells slots) {i : Int} (v : Int32) (hd : decode bytes pc = .ok (.sipush i, 3)) (hp : pc + 3 = pc') (hv : (Int16.ofInt i).toInt32 = v)
    (k : Go p e below Q (T.setTop (fr m pc' L (.int v :: st)))) : Go p e below Q (T.setTop (fr m pc L (st))) := by
  subst hp
  exact Go.of (fun _ q => XS.sipush X.here B.hx rfl (hb B.by' hd) (hv ▸ q)) k
theorem Go.lconst (B : Ctx p Z s m meth c own nm bytes maxL ret) (X : Stand p l e R s m args below meth c T locs cells slots) {i : Fin 2} (v : Int64) (hd : decode bytes pc = .ok (.lconst i, 1)) (hp : pc + 1 = pc') (hv : Int64.ofNat i = v)
    (k : Go p e below Q (T.setTop (fr m pc' L (.long v :: st)))) : Go p e below Q (T.setTop (fr m pc L (st))) := by
  subst hp
  exact Go.of (fun _ q => XS.lconst X.here B.hx rfl (hb B.by' hd) (hv ▸ q)) k
theorem Go.aconstNull (B : Ctx p Z s m meth c own nm bytes maxL ret) (X : Stand p l e R s m args below meth c T locs cells slots)  (hd : decode bytes pc = .ok (.aconst_null, 1)) (hp : pc + 1 = pc') 
    (k : Go p e below Q (T.setTop (fr m pc' L (.null :: st)))) : Go p e below Q (T.setTop (fr m pc L (st))) := by
  subst hp
  exact Go.of (fun _ q => XS.aconstNull X.here B.hx rfl (hb B.by' hd) q) k
theorem Go.iadd (B : Ctx p Z s m meth c own nm bytes maxL ret) (X : Stand p l e R s m args below meth c T locs cells slots) {x y : Int32} (hd : decode bytes pc = .ok (.iadd, 1)) (hp : pc + 1 = pc') 
    (k : Go p e below Q (T.setTop (fr m pc' L (.int (x + y) :: st)))) : Go p e below Q (T.setTop (fr m pc L (.int y :: .int x :: st))) := by
  subst hp
  exact Go.of (fun _ q => XS.iadd X.here B.hx rfl (hb B.by' hd) rfl q) k
theorem Go.isub (B : Ctx p Z s m meth c own nm bytes maxL ret) (X : Stand p l e R s m args below meth c T locs cells slots) {x y : Int32} (hd : decode bytes pc = .ok (.isub, 1)) (hp : pc + 1 = pc') 
    (k : Go p e below Q (T.setTop (fr m pc' L (.int (x - y) :: st)))) : Go p e below Q (T.setTop (fr m pc L (.int y :: .int x :: st))) := by
  subst hp
  exact Go.of (fun _ q => XS.isub X.here B.hx rfl (hb B.by' hd) rfl q) k
theorem Go.imul (B : Ctx p Z s m meth c own nm bytes maxL ret) (X : Stand p l e R s m args below meth c T locs cells slots) {x y : Int32} (hd : decode bytes pc = .ok (.imul, 1)) (hp : pc + 1 = pc') 
    (k : Go p e below Q (T.setTop (fr m pc' L (.int (x * y) :: st)))) : Go p e below Q (T.setTop (fr m pc L (.int y :: .int x :: st))) := by
  subst hp
  exact Go.of (fun _ q => XS.imul X.here B.hx rfl (hb B.by' hd) rfl q) k
theorem Go.iand (B : Ctx p Z s m meth c own nm bytes maxL ret) (X : Stand p l e R s m args below meth c T locs cells slots) {x y : Int32} (hd : decode bytes pc = .ok (.iand, 1)) (hp : pc + 1 = pc') 
    (k : Go p e below Q (T.setTop (fr m pc' L (.int (x &&& y) :: st)))) : Go p e below Q (T.setTop (fr m pc L (.int y :: .int x :: st))) := by
  subst hp
  exact Go.of (fun _ q => XS.iand X.here B.hx rfl (hb B.by' hd) rfl q) k
theorem Go.ior (B : Ctx p Z s m meth c own nm bytes maxL ret) (X : Stand p l e R s m args below meth c T locs cells slots) {x y : Int32} (hd : decode bytes pc = .ok (.ior, 1)) (hp : pc + 1 = pc') 
    (k : Go p e below Q (T.setTop (fr m pc' L (.int (x ||| y) :: st)))) : Go p e below Q (T.setTop (fr m pc L (.int y :: .int x :: st))) := by
  subst hp
  exact Go.of (fun _ q => XS.ior X.here B.hx rfl (hb B.by' hd) rfl q) k
theorem Go.ixor (B : Ctx p Z s m meth c own nm bytes maxL ret) (X : Stand p l e R s m args below meth c T locs cells slots) {x y : Int32} (hd : decode bytes pc = .ok (.ixor, 1)) (hp : pc + 1 = pc') 
    (k : Go p e below Q (T.setTop (fr m pc' L (.int (x ^^^ y) :: st)))) : Go p e below Q (T.setTop (fr m pc L (.int y :: .int x :: st))) := by
  subst hp
  exact Go.of (fun _ q => XS.ixor X.here B.hx rfl (hb B.by' hd) rfl q) k
theorem Go.ishl (B : Ctx p Z s m meth c own nm bytes maxL ret) (X : Stand p l e R s m args below meth c T locs cells slots) {x y : Int32} (hd : decode bytes pc = .ok (.ishl, 1)) (hp : pc + 1 = pc') 
    (k : Go p e below Q (T.setTop (fr m pc' L (.int (x <<< (y &&& 31)) :: st)))) : Go p e below Q (T.setTop (fr m pc L (.int y :: .int x :: st))) := by
  subst hp
  exact Go.of (fun _ q => XS.ishl X.here B.hx rfl (hb B.by' hd) rfl q) k
theorem Go.ishr (B : Ctx p Z s m meth c own nm bytes maxL ret) (X : Stand p l e R s m args below meth c T locs cells slots) {x y : Int32} (hd : decode bytes pc = .ok (.ishr, 1)) (hp : pc + 1 = pc') 
    (k : Go p e below Q (T.setTop (fr m pc' L (.int (x >>> (y &&& 31)) :: st)))) : Go p e below Q (T.setTop (fr m pc L (.int y :: .int x :: st))) := by
  subst hp
  exact Go.of (fun _ q => XS.ishr X.here B.hx rfl (hb B.by' hd) rfl q) k
theorem Go.iushr (B : Ctx p Z s m meth c own nm bytes maxL ret) (X : Stand p l e R s m args below meth c T locs cells slots) {x y : Int32} (hd : decode bytes pc = .ok (.iushr, 1)) (hp : pc + 1 = pc') 
    (k : Go p e below Q (T.setTop (fr m pc' L (.int ((x.toUInt32 >>> (y &&& 31).toUInt32).toInt32) :: st)))) : Go p e below Q (T.setTop (fr m pc L (.int y :: .int x :: st))) := by
  subst hp
  exact Go.of (fun _ q => XS.iushr X.here B.hx rfl (hb B.by' hd) rfl q) k
theorem Go.idiv (B : Ctx p Z s m meth c own nm bytes maxL ret) (X : Stand p l e R s m args below meth c T locs cells slots) {x y : Int32} (hd : decode bytes pc = .ok (.idiv, 1)) (hp : pc + 1 = pc') (hy : y ≠ 0)
    (k : Go p e below Q (T.setTop (fr m pc' L (.int (x / y) :: st)))) : Go p e below Q (T.setTop (fr m pc L (.int y :: .int x :: st))) := by
  subst hp
  exact Go.of (fun _ q => XS.idiv X.here B.hx rfl (hb B.by' hd) rfl hy q) k
theorem Go.irem (B : Ctx p Z s m meth c own nm bytes maxL ret) (X : Stand p l e R s m args below meth c T locs cells slots) {x y : Int32} (hd : decode bytes pc = .ok (.irem, 1)) (hp : pc + 1 = pc') (hy : y ≠ 0)
    (k : Go p e below Q (T.setTop (fr m pc' L (.int (x % y) :: st)))) : Go p e below Q (T.setTop (fr m pc L (.int y :: .int x :: st))) := by
  subst hp
  exact Go.of (fun _ q => iremM X B.hx rfl (hb B.by' hd) rfl hy q) k
theorem Go.ineg (B : Ctx p Z s m meth c own nm bytes maxL ret) (X : Stand p l e R s m args below meth c T locs cells slots) {x : Int32} (hd : decode bytes pc = .ok (.ineg, 1)) (hp : pc + 1 = pc') 
    (k : Go p e below Q (T.setTop (fr m pc' L (.int (-x) :: st)))) : Go p e below Q (T.setTop (fr m pc L (.int x :: st))) := by
  subst hp
  exact Go.of (fun _ q => XS.ineg X.here B.hx rfl (hb B.by' hd) rfl q) k
theorem Go.ladd (B : Ctx p Z s m meth c own nm bytes maxL ret) (X : Stand p l e R s m args below meth c T locs cells slots) {x y : Int64} (hd : decode bytes pc = .ok (.ladd, 1)) (hp : pc + 1 = pc') 
    (k : Go p e below Q (T.setTop (fr m pc' L (.long (x + y) :: st)))) : Go p e below Q (T.setTop (fr m pc L (.long y :: .long x :: st))) := by
  subst hp
  exact Go.of (fun _ q => XS.ladd X.here B.hx rfl (hb B.by' hd) rfl q) k
theorem Go.lsub (B : Ctx p Z s m meth c own nm bytes maxL ret) (X : Stand p l e R s m args below meth c T locs cells slots) {x y : Int64} (hd : decode bytes pc = .ok (.lsub, 1)) (hp : pc + 1 = pc') 
    (k : Go p e below Q (T.setTop (fr m pc' L (.long (x - y) :: st)))) : Go p e below Q (T.setTop (fr m pc L (.long y :: .long x :: st))) := by
  subst hp
  exact Go.of (fun _ q => XS.lsub X.here B.hx rfl (hb B.by' hd) rfl q) k
theorem Go.lmul (B : Ctx p Z s m meth c own nm bytes maxL ret) (X : Stand p l e R s m args below meth c T locs cells slots) {x y : Int64} (hd : decode bytes pc = .ok (.lmul, 1)) (hp : pc + 1 = pc') 
    (k : Go p e below Q (T.setTop (fr m pc' L (.long (x * y) :: st)))) : Go p e below Q (T.setTop (fr m pc L (.long y :: .long x :: st))) := by
  subst hp
  exact Go.of (fun _ q => XS.lmul X.here B.hx rfl (hb B.by' hd) rfl q) k
theorem Go.land (B : Ctx p Z s m meth c own nm bytes maxL ret) (X : Stand p l e R s m args below meth c T locs cells slots) {x y : Int64} (hd : decode bytes pc = .ok (.land, 1)) (hp : pc + 1 = pc') 
    (k : Go p e below Q (T.setTop (fr m pc' L (.long (x &&& y) :: st)))) : Go p e below Q (T.setTop (fr m pc L (.long y :: .long x :: st))) := by
  subst hp
  exact Go.of (fun _ q => XS.land X.here B.hx rfl (hb B.by' hd) rfl q) k
theorem Go.lor (B : Ctx p Z s m meth c own nm bytes maxL ret) (X : Stand p l e R s m args below meth c T locs cells slots) {x y : Int64} (hd : decode bytes pc = .ok (.lor, 1)) (hp : pc + 1 = pc') 
    (k : Go p e below Q (T.setTop (fr m pc' L (.long (x ||| y) :: st)))) : Go p e below Q (T.setTop (fr m pc L (.long y :: .long x :: st))) := by
  subst hp
  exact Go.of (fun _ q => XS.lor X.here B.hx rfl (hb B.by' hd) rfl q) k
theorem Go.lxor (B : Ctx p Z s m meth c own nm bytes maxL ret) (X : Stand p l e R s m args below meth c T locs cells slots) {x y : Int64} (hd : decode bytes pc = .ok (.lxor, 1)) (hp : pc + 1 = pc') 
    (k : Go p e below Q (T.setTop (fr m pc' L (.long (x ^^^ y) :: st)))) : Go p e below Q (T.setTop (fr m pc L (.long y :: .long x :: st))) := by
  subst hp
  exact Go.of (fun _ q => XS.lxor X.here B.hx rfl (hb B.by' hd) rfl q) k
theorem Go.lshl (B : Ctx p Z s m meth c own nm bytes maxL ret) (X : Stand p l e R s m args below meth c T locs cells slots) {x : Int64} {y : Int32} (hd : decode bytes pc = .ok (.lshl, 1)) (hp : pc + 1 = pc') 
    (k : Go p e below Q (T.setTop (fr m pc' L (.long (x <<< (y &&& 0x3f).toInt64) :: st)))) : Go p e below Q (T.setTop (fr m pc L (.int y :: .long x :: st))) := by
  subst hp
  exact Go.of (fun _ q => XS.lshl X.here B.hx rfl (hb B.by' hd) rfl q) k
theorem Go.lshr (B : Ctx p Z s m meth c own nm bytes maxL ret) (X : Stand p l e R s m args below meth c T locs cells slots) {x : Int64} {y : Int32} (hd : decode bytes pc = .ok (.lshr, 1)) (hp : pc + 1 = pc') 
    (k : Go p e below Q (T.setTop (fr m pc' L (.long (x >>> (y &&& 0x3f).toInt64) :: st)))) : Go p e below Q (T.setTop (fr m pc L (.int y :: .long x :: st))) := by
  subst hp
  exact Go.of (fun _ q => XS.lshr X.here B.hx rfl (hb B.by' hd) rfl q) k
theorem Go.lushr (B : Ctx p Z s m meth c own nm bytes maxL ret) (X : Stand p l e R s m args below meth c T locs cells slots) {x : Int64} {y : Int32} (hd : decode bytes pc = .ok (.lushr, 1)) (hp : pc + 1 = pc') 
    (k : Go p e below Q (T.setTop (fr m pc' L (.long ((x.toUInt64 >>> (y &&& 0x3f).toInt64.toUInt64).toInt64) :: st)))) : Go p e below Q (T.setTop (fr m pc L (.int y :: .long x :: st))) := by
  subst hp
  exact Go.of (fun _ q => XS.lushr X.here B.hx rfl (hb B.by' hd) rfl q) k
theorem Go.ldiv (B : Ctx p Z s m meth c own nm bytes maxL ret) (X : Stand p l e R s m args below meth c T locs cells slots) {x y : Int64} (hd : decode bytes pc = .ok (.ldiv, 1)) (hp : pc + 1 = pc') (hy : y ≠ 0)
    (k : Go p e below Q (T.setTop (fr m pc' L (.long (x / y) :: st)))) : Go p e below Q (T.setTop (fr m pc L (.long y :: .long x :: st))) := by
  subst hp
  exact Go.of (fun _ q => XS.ldiv X.here B.hx rfl (hb B.by' hd) rfl hy q) k
theorem Go.lrem (B : Ctx p Z s m meth c own nm bytes maxL ret) (X : Stand p l e R s m args below meth c T locs cells slots) {x y : Int64} (hd : decode bytes pc = .ok (.lrem, 1)) (hp : pc + 1 = pc') (hy : y ≠ 0)
    (k : Go p e below Q (T.setTop (fr m pc' L (.long (x % y) :: st)))) : Go p e below Q (T.setTop (fr m pc L (.long y :: .long x :: st))) := by
  subst hp
  exact Go.of (fun _ q => XS.lrem X.here B.hx rfl (hb B.by' hd) rfl hy (by rw [lrem_mod]; exact q)) k
theorem Go.lneg (B : Ctx p Z s m meth c own nm bytes maxL ret) (X : Stand p l e R s m args below meth c T locs cells slots) {x : Int64} (hd : decode bytes pc = .ok (.lneg, 1)) (hp : pc + 1 = pc') 
    (k : Go p e below Q (T.setTop (fr m pc' L (.long (-x) :: st)))) : Go p e below Q (T.setTop (fr m pc L (.long x :: st))) := by
  subst hp
  exact Go.of (fun _ q => XS.lneg X.here B.hx rfl (hb B.by' hd) rfl q) k
theorem Go.i2l (B : Ctx p Z s m meth c own nm bytes maxL ret) (X : Stand p l e R s m args below meth c T locs cells slots) {x : Int32} (hd : decode bytes pc = .ok (.i2l, 1)) (hp : pc + 1 = pc') 
    (k : Go p e below Q (T.setTop (fr m pc' L (.long x.toInt64 :: st)))) : Go p e below Q (T.setTop (fr m pc L (.int x :: st))) := by
  subst hp
  exact Go.of (fun _ q => XS.i2l X.here B.hx rfl (hb B.by' hd) rfl q) k
theorem Go.l2i (B : Ctx p Z s m meth c own nm bytes maxL ret) (X : Stand p l e R s m args below meth c T locs cells slots) {x : Int64} (hd : decode bytes pc = .ok (.l2i, 1)) (hp : pc + 1 = pc') 
    (k : Go p e below Q (T.setTop (fr m pc' L (.int x.toInt32 :: st)))) : Go p e below Q (T.setTop (fr m pc L (.long x :: st))) := by
  subst hp
  exact Go.of (fun _ q => XS.l2i X.here B.hx rfl (hb B.by' hd) rfl q) k
theorem Go.i2b (B : Ctx p Z s m meth c own nm bytes maxL ret) (X : Stand p l e R s m args below meth c T locs cells slots) {x : Int32} (hd : decode bytes pc = .ok (.i2b, 1)) (hp : pc + 1 = pc') 
    (k : Go p e below Q (T.setTop (fr m pc' L (.int x.toInt8.toInt32 :: st)))) : Go p e below Q (T.setTop (fr m pc L (.int x :: st))) := by
  subst hp
  exact Go.of (fun _ q => XS.i2b X.here B.hx rfl (hb B.by' hd) rfl q) k
theorem Go.i2c (B : Ctx p Z s m meth c own nm bytes maxL ret) (X : Stand p l e R s m args below meth c T locs cells slots) {x : Int32} (hd : decode bytes pc = .ok (.i2c, 1)) (hp : pc + 1 = pc') 
    (k : Go p e below Q (T.setTop (fr m pc' L (.int x.toUInt32.toUInt16.toUInt32.toInt32 :: st)))) : Go p e below Q (T.setTop (fr m pc L (.int x :: st))) := by
  subst hp
  exact Go.of (fun _ q => XS.i2c X.here B.hx rfl (hb B.by' hd) rfl q) k
theorem Go.i2s (B : Ctx p Z s m meth c own nm bytes maxL ret) (X : Stand p l e R s m args below meth c T locs cells slots) {x : Int32} (hd : decode bytes pc = .ok (.i2s, 1)) (hp : pc + 1 = pc') 
    (k : Go p e below Q (T.setTop (fr m pc' L (.int x.toInt16.toInt32 :: st)))) : Go p e below Q (T.setTop (fr m pc L (.int x :: st))) := by
  subst hp
  exact Go.of (fun _ q => XS.i2s X.here B.hx rfl (hb B.by' hd) rfl q) k
theorem Go.lcmp (B : Ctx p Z s m meth c own nm bytes maxL ret) (X : Stand p l e R s m args below meth c T locs cells slots) {x y : Int64} (hd : decode bytes pc = .ok (.lcmp, 1)) (hp : pc + 1 = pc') 
    (k : Go p e below Q (T.setTop (fr m pc' L (.int (lcmpW x y) :: st)))) : Go p e below Q (T.setTop (fr m pc L (.long y :: .long x :: st))) := by
  subst hp
  exact Go.of (fun _ q => XS.lcmp X.here B.hx rfl (hb B.by' hd) rfl q) k
theorem Go.iinc (B : Ctx p Z s m meth c own nm bytes maxL ret) (X : Stand p l e R s m args below meth c T locs cells slots) {k : Nat} {i : Int} {x : Int32} (v : Int32) (hd : decode bytes pc = .ok (.iinc k i, 3)) (hp : pc + 3 = pc') (hl : lk L k = some (.val (.int x))) (hv : Int32.ofInt i = v)
    (k : Go p e below Q (T.setTop (fr m pc' (put1 L k (.val (.int (x + v)))) (st)))) : Go p e below Q (T.setTop (fr m pc L (st))) := by
  subst hp
  exact Go.of (fun _ q => XS.iinc X.here B.hx rfl (hb B.by' hd) (lk_arr hl) (hv ▸ st1 hl rfl rfl) q) k
theorem Go.dup (B : Ctx p Z s m meth c own nm bytes maxL ret) (X : Stand p l e R s m args below meth c T locs cells slots) {x : Value} (hd : decode bytes pc = .ok (.dup, 1)) (hp : pc + 1 = pc') (hv : x.category = 1)
    (k : Go p e below Q (T.setTop (fr m pc' L (x :: x :: st)))) : Go p e below Q (T.setTop (fr m pc L (x :: st))) := by
  subst hp
  exact Go.of (fun _ q => XS.dup X.here B.hx rfl (hb B.by' hd) rfl hv q) k
theorem Go.pop (B : Ctx p Z s m meth c own nm bytes maxL ret) (X : Stand p l e R s m args below meth c T locs cells slots) {x : Value} (hd : decode bytes pc = .ok (.pop, 1)) (hp : pc + 1 = pc') (hv : x.category = 1)
    (k : Go p e below Q (T.setTop (fr m pc' L (st)))) : Go p e below Q (T.setTop (fr m pc L (x :: st))) := by
  subst hp
  exact Go.of (fun _ q => XS.pop X.here B.hx rfl (hb B.by' hd) rfl hv q) k
theorem Go.dupX1 (B : Ctx p Z s m meth c own nm bytes maxL ret) (X : Stand p l e R s m args below meth c T locs cells slots) {x y : Value} (hd : decode bytes pc = .ok (.dup_x1, 1)) (hp : pc + 1 = pc') (hv : x.category = 1) (hw : y.category = 1)
    (k : Go p e below Q (T.setTop (fr m pc' L (x :: y :: x :: st)))) : Go p e below Q (T.setTop (fr m pc L (x :: y :: st))) := by
  subst hp
  exact Go.of (fun _ q => XS.dupX1 X.here B.hx rfl (hb B.by' hd) rfl hv hw q) k
theorem Go.dup2 (B : Ctx p Z s m meth c own nm bytes maxL ret) (X : Stand p l e R s m args below meth c T locs cells slots) {x y : Value} (hd : decode bytes pc = .ok (.dup2, 1)) (hp : pc + 1 = pc') (hv : x.category = 1) (hw : y.category = 1)
    (k : Go p e below Q (T.setTop (fr m pc' L (x :: y :: x :: y :: st)))) : Go p e below Q (T.setTop (fr m pc L (x :: y :: st))) := by
  subst hp
  exact Go.of (fun _ q => XT.dup2 X.here B.hx rfl (hb B.by' hd) rfl hv hw q) k
theorem Go.i2d (B : Ctx p Z s m meth c own nm bytes maxL ret) (X : Stand p l e R s m args below meth c T locs cells slots) {x : Int32} (hd : decode bytes pc = .ok (.i2d, 1)) (hp : pc + 1 = pc') 
    (k : Go p e below Q (T.setTop (fr m pc' L (.double (FP.i2d x) :: st)))) : Go p e below Q (T.setTop (fr m pc L (.int x :: st))) := by
  subst hp
  exact Go.of (fun _ q => XS.i2dS X.here B.hx rfl (hb B.by' hd) rfl rfl q) k
theorem Go.l2d (B : Ctx p Z s m meth c own nm bytes maxL ret) (X : Stand p l e R s m args below meth c T locs cells slots) {x : Int64} (hd : decode bytes pc = .ok (.l2d, 1)) (hp : pc + 1 = pc') 
    (k : Go p e below Q (T.setTop (fr m pc' L (.double (FP.l2d x) :: st)))) : Go p e below Q (T.setTop (fr m pc L (.long x :: st))) := by
  subst hp
  exact Go.of (fun _ q => XS.l2dS X.here B.hx rfl (hb B.by' hd) rfl rfl q) k
theorem Go.dconst0 (B : Ctx p Z s m meth c own nm bytes maxL ret) (X : Stand p l e R s m args below meth c T locs cells slots)  (hd : decode bytes pc = .ok (.dconst 0, 1)) (hp : pc + 1 = pc') 
    (k : Go p e below Q (T.setTop (fr m pc' L (.double FP.dconst0 :: st)))) : Go p e below Q (T.setTop (fr m pc L (st))) := by
  subst hp
  exact Go.of (fun _ q => XS.dconst0 X.here B.hx rfl (hb B.by' hd) rfl q) k
theorem Go.dconst1 (B : Ctx p Z s m meth c own nm bytes maxL ret) (X : Stand p l e R s m args below meth c T locs cells slots)  (hd : decode bytes pc = .ok (.dconst 1, 1)) (hp : pc + 1 = pc') 
    (k : Go p e below Q (T.setTop (fr m pc' L (.double FP.dconst1 :: st)))) : Go p e below Q (T.setTop (fr m pc L (st))) := by
  subst hp
  exact Go.of (fun _ q => XS.dconst1 X.here B.hx rfl (hb B.by' hd) rfl q) k
theorem Go.dneg (B : Ctx p Z s m meth c own nm bytes maxL ret) (X : Stand p l e R s m args below meth c T locs cells slots) {x : UInt64} (hd : decode bytes pc = .ok (.dneg, 1)) (hp : pc + 1 = pc') 
    (k : Go p e below Q (T.setTop (fr m pc' L (.double (FP.dneg x) :: st)))) : Go p e below Q (T.setTop (fr m pc L (.double x :: st))) := by
  subst hp
  exact Go.of (fun _ q => XS.dnegS X.here B.hx rfl (hb B.by' hd) rfl rfl q) k
theorem Go.dcmp (B : Ctx p Z s m meth c own nm bytes maxL ret) (X : Stand p l e R s m args below meth c T locs cells slots) {x y : UInt64} {o : CmpOp} (hd : decode bytes pc = .ok (.dcmp o, 1)) (hp : pc + 1 = pc') 
    (k : Go p e below Q (T.setTop (fr m pc' L (.int (cmpValue (FP.dcmp x y) o) :: st)))) : Go p e below Q (T.setTop (fr m pc L (.double y :: .double x :: st))) := by
  subst hp
  exact Go.of (fun _ q => XS.dcmpS X.here B.hx rfl (hb B.by' hd) rfl rfl q) k
theorem Go.dadd (B : Ctx p Z s m meth c own nm bytes maxL ret) (X : Stand p l e R s m args below meth c T locs cells slots) {x y : UInt64} (hd : decode bytes pc = .ok (.dadd, 1)) (hp : pc + 1 = pc') (hn : Jvm.Free.Fl.NoNaN64 (FP.dadd x y))
    (k : Go p e below Q (T.setTop (fr m pc' L (.double (FP.dadd x y) :: st)))) : Go p e below Q (T.setTop (fr m pc L (.double y :: .double x :: st))) := by
  subst hp
  exact Go.of (fun _ q => XS.daddS X.here B.hx rfl (hb B.by' hd) rfl hn rfl q) k
theorem Go.dsub (B : Ctx p Z s m meth c own nm bytes maxL ret) (X : Stand p l e R s m args below meth c T locs cells slots) {x y : UInt64} (hd : decode bytes pc = .ok (.dsub, 1)) (hp : pc + 1 = pc') (hn : Jvm.Free.Fl.NoNaN64 (FP.dsub x y))
    (k : Go p e below Q (T.setTop (fr m pc' L (.double (FP.dsub x y) :: st)))) : Go p e below Q (T.setTop (fr m pc L (.double y :: .double x :: st))) := by
  subst hp
  exact Go.of (fun _ q => XS.dsubS X.here B.hx rfl (hb B.by' hd) rfl hn rfl q) k
theorem Go.dmul (B : Ctx p Z s m meth c own nm bytes maxL ret) (X : Stand p l e R s m args below meth c T locs cells slots) {x y : UInt64} (hd : decode bytes pc = .ok (.dmul, 1)) (hp : pc + 1 = pc') (hn : Jvm.Free.Fl.NoNaN64 (FP.dmul x y))
    (k : Go p e below Q (T.setTop (fr m pc' L (.double (FP.dmul x y) :: st)))) : Go p e below Q (T.setTop (fr m pc L (.double y :: .double x :: st))) := by
  subst hp
  exact Go.of (fun _ q => XS.dmulS X.here B.hx rfl (hb B.by' hd) rfl hn rfl q) k
theorem Go.ddiv (B : Ctx p Z s m meth c own nm bytes maxL ret) (X : Stand p l e R s m args below meth c T locs cells slots) {x y : UInt64} (hd : decode bytes pc = .ok (.ddiv, 1)) (hp : pc + 1 = pc') (hn : Jvm.Free.Fl.NoNaN64 (FP.ddiv x y))
    (k : Go p e below Q (T.setTop (fr m pc' L (.double (FP.ddiv x y) :: st)))) : Go p e below Q (T.setTop (fr m pc L (.double y :: .double x :: st))) := by
  subst hp
  exact Go.of (fun _ q => XS.ddivS X.here B.hx rfl (hb B.by' hd) rfl hn rfl q) k
theorem Go.goto (B : Ctx p Z s m meth c own nm bytes maxL ret) (X : Stand p l e R s m args below meth c T locs cells slots) {o : Int} (hd : decode bytes pc = .ok (.goto o, 3)) (ho : 0 ≤ (pc : Int) + o) (hp : ((pc : Int) + o).toNat = pc')
    (k : Go p e below Q (T.setTop (fr m pc' L st))) : Go p e below Q (T.setTop (fr m pc L st)) :=
  Go.of (fun _ q => XS.goto X.here B.hx rfl rfl (hb B.by' hd) ho hp q) k
theorem Go.ifT (B : Ctx p Z s m meth c own nm bytes maxL ret) (X : Stand p l e R s m args below meth c T locs cells slots) {cd : ClassFile.Cond} {x : Int32} {o : Int} (hd : decode bytes pc = .ok (.ifCond cd o, 3)) (ho : 0 ≤ (pc : Int) + o) (hp : ((pc : Int) + o).toNat = pc') (hc : CP cd x 0)
    (k : Go p e below Q (T.setTop (fr m pc' L st))) : Go p e below Q (T.setTop (fr m pc L (.int x :: st))) :=
  Go.of (fun _ q => XS.ifYes X.here B.hx rfl rfl (hb B.by' hd) rfl ((if0 _ _).trans hc.holds) ho hp q) k
theorem Go.ifF (B : Ctx p Z s m meth c own nm bytes maxL ret) (X : Stand p l e R s m args below meth c T locs cells slots) {cd : ClassFile.Cond} {x : Int32} {o : Int} (hd : decode bytes pc = .ok (.ifCond cd o, 3)) (hp : pc + 3 = pc') (hc : CN cd x 0)
    (k : Go p e below Q (T.setTop (fr m pc' L st))) : Go p e below Q (T.setTop (fr m pc L (.int x :: st))) := by
  subst hp
  exact Go.of (fun _ q => XS.ifNo X.here B.hx rfl (hb B.by' hd) rfl ((if0 _ _).trans hc.holds) q) k
theorem Go.ifc (B : Ctx p Z s m meth c own nm bytes maxL ret) (X : Stand p l e R s m args below meth c T locs cells slots) {cd : ClassFile.Cond} {x : Int32} {o : Int} (hd : decode bytes pc = .ok (.ifCond cd o, 3)) (ho : 0 ≤ (pc : Int) + o) (hp : ((pc : Int) + o).toNat = pcT) (hp' : pc + 3 = pc')
    (kT : CP cd x 0 → Go p e below Q (T.setTop (fr m pcT L st))) (kF : CN cd x 0 → Go p e below Q (T.setTop (fr m pc' L st))) : Go p e below Q (T.setTop (fr m pc L (.int x :: st))) :=
  (cp_or cd x 0).elim (fun h => Go.ifT B X hd ho hp h (kT h)) (fun h => Go.ifF B X hd hp' h (kF h))
theorem Go.icT (B : Ctx p Z s m meth c own nm bytes maxL ret) (X : Stand p l e R s m args below meth c T locs cells slots) {cd : ClassFile.Cond} {x y : Int32} {o : Int} (hd : decode bytes pc = .ok (.if_icmp cd o, 3)) (ho : 0 ≤ (pc : Int) + o) (hp : ((pc : Int) + o).toNat = pc') (hc : CP cd x y)
    (k : Go p e below Q (T.setTop (fr m pc' L st))) : Go p e below Q (T.setTop (fr m pc L (.int y :: .int x :: st))) :=
  Go.of (fun _ q => XS.icmpYes X.here B.hx rfl rfl (hb B.by' hd) rfl hc.holds ho hp q) k
theorem Go.icF (B : Ctx p Z s m meth c own nm bytes maxL ret) (X : Stand p l e R s m args below meth c T locs cells slots) {cd : ClassFile.Cond} {x y : Int32} {o : Int} (hd : decode bytes pc = .ok (.if_icmp cd o, 3)) (hp : pc + 3 = pc') (hc : CN cd x y)
    (k : Go p e below Q (T.setTop (fr m pc' L st))) : Go p e below Q (T.setTop (fr m pc L (.int y :: .int x :: st))) := by
  subst hp
  exact Go.of (fun _ q => XS.icmpNo X.here B.hx rfl (hb B.by' hd) rfl hc.holds q) k
theorem Go.ic (B : Ctx p Z s m meth c own nm bytes maxL ret) (X : Stand p l e R s m args below meth c T locs cells slots) {cd : ClassFile.Cond} {x y : Int32} {o : Int} (hd : decode bytes pc = .ok (.if_icmp cd o, 3)) (ho : 0 ≤ (pc : Int) + o) (hp : ((pc : Int) + o).toNat = pcT) (hp' : pc + 3 = pc')
    (kT : CP cd x y → Go p e below Q (T.setTop (fr m pcT L st))) (kF : CN cd x y → Go p e below Q (T.setTop (fr m pc' L st))) : Go p e below Q (T.setTop (fr m pc L (.int y :: .int x :: st))) :=
  (cp_or cd x y).elim (fun h => Go.icT B X hd ho hp h (kT h)) (fun h => Go.icF B X hd hp' h (kF h))
theorem Go.nullT (B : Ctx p Z s m meth c own nm bytes maxL ret) (X : Stand p l e R s m args below meth c T locs cells slots) {o : Int} (hd : decode bytes pc = .ok (.ifnull o, 3)) (ho : 0 ≤ (pc : Int) + o) (hp : ((pc : Int) + o).toNat = pc')
    (k : Go p e below Q (T.setTop (fr m pc' L st))) : Go p e below Q (T.setTop (fr m pc L (.null :: st))) :=
  Go.of (fun _ q => XS.ifnullYes X.here B.hx rfl rfl (hb B.by' hd) rfl ho hp q) k
theorem Go.nullF (B : Ctx p Z s m meth c own nm bytes maxL ret) (X : Stand p l e R s m args below meth c T locs cells slots) {o : Int} {b : Addr} (hd : decode bytes pc = .ok (.ifnull o, 3)) (hp : pc + 3 = pc')
    (k : Go p e below Q (T.setTop (fr m pc' L st))) : Go p e below Q (T.setTop (fr m pc L (.ref b :: st))) := by
  subst hp
  exact Go.of (fun _ q => XS.ifnullNo X.here B.hx rfl (hb B.by' hd) rfl q) k
theorem Go.nnT (B : Ctx p Z s m meth c own nm bytes maxL ret) (X : Stand p l e R s m args below meth c T locs cells slots) {o : Int} {b : Addr} (hd : decode bytes pc = .ok (.ifnonnull o, 3)) (ho : 0 ≤ (pc : Int) + o) (hp : ((pc : Int) + o).toNat = pc')
    (k : Go p e below Q (T.setTop (fr m pc' L st))) : Go p e below Q (T.setTop (fr m pc L (.ref b :: st))) :=
  Go.of (fun _ q => XS.ifnonnullYes X.here B.hx rfl rfl (hb B.by' hd) rfl ho hp q) k
theorem Go.nnF (B : Ctx p Z s m meth c own nm bytes maxL ret) (X : Stand p l e R s m args below meth c T locs cells slots) {o : Int} (hd : decode bytes pc = .ok (.ifnonnull o, 3)) (hp : pc + 3 = pc')
    (k : Go p e below Q (T.setTop (fr m pc' L st))) : Go p e below Q (T.setTop (fr m pc L (.null :: st))) := by
  subst hp
  exact Go.of (fun _ q => XS.ifnonnullNo X.here B.hx rfl (hb B.by' hd) rfl q) k
theorem Go.acmp (B : Ctx p Z s m meth c own nm bytes maxL ret) (X : Stand p l e R s m args below meth c T locs cells slots) {cd : ACond} {x y : Value} {o : Int} {same : Bool} (hd : decode bytes pc = .ok (.if_acmp cd o, 3)) (h1 : x.isRef = true) (h2 : y.isRef = true) (hq : decide (x = y) = same) (ho : 0 ≤ (pc : Int) + o) (hp : pc' = if acV cd same = true then ((pc : Int) + o).toNat else pc + 3)
    (k : Go p e below Q (T.setTop (fr m pc' L st))) : Go p e below Q (T.setTop (fr m pc L (y :: x :: st))) :=
  Go.of (fun _ q => RoadKit.acmp X B.hx rfl h1 h2 rfl (hb B.by' hd) rfl hq ho hp q) k
/-! constants of the pool -/
theorem Go.ldcI (B : Ctx p Z s m meth c own nm bytes maxL ret) (X : Stand p l e R s m args below meth c T locs cells slots) {i : Nat} {v : Int32} (w : (Jvm.Cond.constant own i v).before a0 Z = true) (hd : decode bytes pc = .ok (.ldc i, 2)) (hp : pc + 2 = pc')
    (k : Go p e below Q (T.setTop (fr m pc' L (.int v :: st)))) : Go p e below Q (T.setTop (fr m pc L st)) := by
  subst hp
  exact Go.of (fun _ q => X.ldcI B.hx B.cl (mvT B.hZ w) (g := fr m pc L st) rfl (hb B.by' hd) q) k
theorem Go.ldc2D (B : Ctx p Z s m meth c own nm bytes maxL ret) (X : Stand p l e R s m args below meth c T locs cells slots) {i : Nat} {v : UInt64} (w : (Jvm.Cond.constantDouble own i v).before a0 Z = true) (hd : decode bytes pc = .ok (.ldc2_w i, 3)) (hp : pc + 3 = pc')
    (k : Go p e below Q (T.setTop (fr m pc' L (.double v :: st)))) : Go p e below Q (T.setTop (fr m pc L st)) := by
  subst hp
  exact Go.of (fun _ q => X.ldc2DoubleC B.hx B.cl (mvT B.hZ w) (g := fr m pc L st) rfl (hb B.by' hd) _ q) k
theorem Go.ldc2J (B : Ctx p Z s m meth c own nm bytes maxL ret) (X : Stand p l e R s m args below meth c T locs cells slots) {i : Nat} {v : Int64} (w : (Jvm.Cond.constantLong own i v).before a0 Z = true) (hd : decode bytes pc = .ok (.ldc2_w i, 3)) (hp : pc + 3 = pc')
    (k : Go p e below Q (T.setTop (fr m pc' L (.long v :: st)))) : Go p e below Q (T.setTop (fr m pc L st)) := by
  subst hp
  exact Go.of (fun _ q => X.ldc2Long B.hx B.cl (mvT B.hZ w) (g := fr m pc L st) rfl (hb B.by' hd) _ q) k
/-! the heap -/
theorem Go.newO (B : Ctx p Z s m meth c own nm bytes maxL ret) (X : Stand p l e R s m args below meth c T locs cells slots) (eT : T.heap = h) {C : String} {i n : Nat} (w : (Jvm.Cond.classLink own i C).before a0 Z = true) (wi : (Jvm.Cond.instantiable C n).before a0 Z = true) (wz : (Jvm.Cond.initialized C).before a0 Z = true)
    (hd : decode bytes pc = .ok (.new i, 3)) (hp : pc + 3 = pc') (hc : cells + 1 ≤ R.cells) (hl : slots + n ≤ R.slots)
    (k : ∀ T' h' a, a = h.size → Stand p l e R s m args below meth c T' locs (cells + 1) (slots + n) → T'.heap = h' → Ext h h' → Exa Z h' a C → (∀ {O nm d : String} {ty : FieldType}, Laid Z a0 C O nm d → parseFieldDescriptor d = some ty → Fld Z h' a O nm d (defaultValue ty)) → Go p e below Q (T'.setTop (fr m pc' L (.ref a :: st)))) : Go p e below Q (T.setTop (fr m pc L st)) := by
  subst hp
  obtain ⟨T', h', X', e', E, A, D, -, stp⟩ := RoadKit.newO X B.hx B.hZ B.cl w wi wz eT (g := fr m pc L st) rfl (hb B.by' hd) hc hl
  exact Go.of stp (k T' h' _ rfl X' e' E A D)
theorem Go.initO (B : Ctx p Z s m meth c own nm bytes maxL ret) (X : Stand p l e R s m args below meth c T locs cells slots) (eT : T.heap = h) {i : Nat} (w1 : (Jvm.Cond.methodLink own i Lib.objectInit).before a0 Z = true) (w2 : (Jvm.Cond.instanceMethod Lib.objectInit).before a0 Z = true) (w3 : (Jvm.Cond.code Lib.objectInit ⟨#[0xb1]⟩ 1 none).before a0 Z = true) {a : Addr}
    (hd : decode bytes pc = .ok (.invokespecial i, 3)) (hp : pc + 3 = pc') (hL : L.length = maxL) (hf : 1 ≤ R.frames) (hl : (st.map fun v => v.category).sum + 12 ≤ R.locals)
    (k : ∀ T', Stand p l e R s m args below meth c T' locs cells slots → T'.heap = h → Go p e below Q (T'.setTop (fr m pc' L st))) : Go p e below Q (T.setTop (fr m pc L (.ref a :: st))) := by
  subst hp
  obtain ⟨T', X', e', stp⟩ := RoadKit.initO X B.hx B.hZ B.cl w1 w2 w3 eT (g := fr m pc L (.ref a :: st)) rfl (by rw [B.ml]; exact hL) rfl (hb B.by' hd) hf (W := (st.map fun v => v.category).sum) (by show 2 * 0 + _ ≤ _; omega) hl
  exact Go.of stp (k T' X' e')
theorem Go.getF (B : Ctx p Z s m meth c own nm bytes maxL ret) (X : Stand p l e R s m args below meth c T locs cells slots) (eT : T.heap = h) {O n d : String} {i : Nat} {a : Addr} {v : Value} (w : (Jvm.Cond.fieldLink own i O n d).before a0 Z = true) (F : Fld Z h a O n d v) (hd : decode bytes pc = .ok (.getfield i, 3)) (hp : pc + 3 = pc')
    (k : ∀ T', Stand p l e R s m args below meth c T' locs cells slots → T'.heap = h → Go p e below Q (T'.setTop (fr m pc' L (v :: st)))) : Go p e below Q (T.setTop (fr m pc L (.ref a :: st))) := by
  subst hp
  obtain ⟨T', X', e', stp⟩ := RoadKit.getF X B.hx B.hZ B.cl (host := "") (Or.inl w) Via.refl eT F (g := fr m pc L (.ref a :: st)) rfl rfl (hb B.by' hd)
  exact Go.of stp (k T' X' e')
theorem Go.getS (B : Ctx p Z s m meth c own nm bytes maxL ret) (X : Stand p l e R s m args below meth c T locs cells slots) (eT : T.heap = h) {O n d : String} {i : Nat} {v : Value} (w : (Jvm.Cond.fieldLink own i O n d).before a0 Z = true) (F : Sta Z h O n d v) (hd : decode bytes pc = .ok (.getstatic i, 3)) (hp : pc + 3 = pc')
    (k : ∀ T', Stand p l e R s m args below meth c T' locs cells slots → T'.heap = h → Go p e below Q (T'.setTop (fr m pc' L (v :: st)))) : Go p e below Q (T.setTop (fr m pc L st)) := by
  subst hp
  obtain ⟨T', X', e', stp⟩ := RoadKit.getS (host := "") X B.hx B.hZ B.cl w Via.refl eT F (g := fr m pc L st) rfl (hb B.by' hd)
  exact Go.of stp (k T' X' e')
theorem Go.putF (B : Ctx p Z s m meth c own nm bytes maxL ret) (X : Stand p l e R s m args below meth c T locs cells slots) (eT : T.heap = h) {O n d C : String} {i kk : Nat} {ty : FieldType} {a : Addr} {v old : Value} (w : (Jvm.Cond.fieldLink own i O n d).before a0 Z = true) (F : Fld Z h a O n d old) (E : Exa Z h a C)
    (Ly : (Jvm.Cond.lays C O n d).before a0 Z = true ∨ ((Jvm.Cond.laysFinal C O n d).before a0 Z = true ∧ own = O ∧ meth.name = "<init>")) (wi : (Jvm.Cond.instantiable C kk).before a0 Z = true) (hty : parseFieldDescriptor d = some ty) (hn : narrow ty v = v) (hf : fits ty v = true) (hd : decode bytes pc = .ok (.putfield i, 3)) (hp : pc + 3 = pc')
    (k : ∀ T' h', Stand p l e R s m args below meth c T' (locs ++ [⟨a, RoadKit.slotOf Z O n d⟩]) cells slots → T'.heap = h' → Wr h h' a (RoadKit.slotOf Z O n d) v → Go p e below Q (T'.setTop (fr m pc' L st))) : Go p e below Q (T.setTop (fr m pc L (v :: .ref a :: st))) := by
  subst hp
  obtain ⟨T', h', X', e', W, stp⟩ := RoadKit.putF X B.hx B.hZ B.cl (host := "") (Or.inl w) Via.refl eT F E Ly wi hty hn hf (g := fr m pc L (v :: .ref a :: st)) rfl rfl (hb B.by' hd)
  exact Go.of stp (k T' h' X' e' W)

/-- an array, its components listed -/
def Av (Z : State) (h : Heap) (a : Addr) (ty : FieldType) (vs : List Value) : Prop := ∃ c : Cell, Arr Z h a c ty ∧ c.slots = ⟨vs⟩ ∧ vs.length < 2 ^ 31 ∧ ∀ v ∈ vs, fits ty v = true
theorem Av.lt {a : Addr} {ty : FieldType} {vs : List Value} (F : Av Z h a ty vs) : a < h.size := by obtain ⟨c, A, -⟩ := F; exact A.lt
theorem Av.ext {h' : Heap} {a : Addr} {ty : FieldType} {vs : List Value} (F : Av Z h a ty vs) (E : Ext h h') : Av Z h' a ty vs := by obtain ⟨c, A, r⟩ := F; exact ⟨c, A.ext E, r⟩
theorem Av.other {h' : Heap} {a b : Addr} {ty : FieldType} {vs : List Value} {sl : Nat} {v : Value} (F : Av Z h b ty vs) (W : Wr h h' a sl v) (q : b ≠ a) : Av Z h' b ty vs := by obtain ⟨c, A, r⟩ := F; exact ⟨c, A.other W q, r⟩
theorem Av.keep {h' : Heap} {a : Addr} {ty : FieldType} {vs : List Value} {ws : List Addr} (F : Av Z h a ty vs) (K : Keep h h' ws) (q : a ∉ ws) : Av Z h' a ty vs := by obtain ⟨c, A, r⟩ := F; exact ⟨c, ⟨K.2.1 a c A.1 q, A.2⟩, r⟩
theorem Av.set {h' : Heap} {a : Addr} {ty : FieldType} {vs : List Value} {i : Nat} {v : Value} (F : Av Z h a ty vs) (W : Wr h h' a i v) (hv : fits ty v = true) : Av Z h' a ty (vs.set i v) := by
  obtain ⟨c, A, r1, r2, r3⟩ := F
  refine ⟨c.setSlot i v, A.same W, ?_, by simpa using r2, fun x hx => ?_⟩
  · simp only [Cell.setSlot, r1]; simp
  · rcases List.mem_or_eq_of_mem_set hx with q | q
    · exact r3 x q
    · exact q ▸ hv
theorem Av.arv {a : Addr} {ty : FieldType} {vs : List Value} (F : Av Z h a ty vs) (d : Value) : ∃ k, Arv Z h a k ty (Int32.ofNat vs.length) vs d := by
  obtain ⟨c, A, r1, r2, r3⟩ := F
  have q : c.slots.size = vs.length := by rw [r1]; rfl
  have w : (Int32.ofNat vs.length).toNatClampNeg = vs.length := Int32.toNatClampNeg_ofNat_of_lt r2
  refine ⟨c.cls, c, A, rfl, by rw [q, w], ?_, fun k hk => ?_, fun i hi => ?_⟩
  · intro hlt
    rw [Int32.lt_iff_toInt_lt] at hlt
    rw [Int32.toInt_ofNat_of_lt r2] at hlt
    have : (0 : Int32).toInt = 0 := by decide
    omega
  · rw [q] at hk
    rw [r1]
    simp [List.getD, hk]
  · rw [q] at hi
    have : vs.getD i d = vs[i] := by simp [List.getD, hi]
    rw [this]
    exact r3 _ (List.getElem_mem hi)
theorem Av.of_arv {a : Addr} {k : ClassId} {ty : FieldType} {n : Int32} {vs : List Value} {d : Value} (F : Arv Z h a k ty n vs d) (hn : n.toNatClampNeg = vs.length) : Av Z h a ty vs := by
  obtain ⟨c, A, r1, r2, r3, H, G⟩ := F
  have hb : vs.length < 2 ^ 31 := by rw [← hn]; exact (back32 r3).2
  have q : c.slots.size = vs.length := by rw [r2, hn]
  refine ⟨c, A, ?_, hb, fun v hv => ?_⟩
  · apply Array.ext'
    apply List.ext_getElem?
    intro i
    by_cases hi : i < vs.length
    · have := H i (by omega)
      simp [List.getD, hi] at this
      simp [this, hi]
    · rw [List.getElem?_eq_none (by simp; omega), List.getElem?_eq_none (by simp; omega)]
  · obtain ⟨i, hi, rfl⟩ := List.mem_iff_getElem.mp hv
    have := G i (by omega)
    simpa [List.getD, hi] using this
theorem idx_ok {i n : Nat} {j : Int32} (hj : j = Int32.ofNat i) (hi : i < n) (hn : n < 2 ^ 31) : ¬ (j < 0 ∨ n ≤ j.toNatClampNeg) ∧ j.toNatClampNeg = i := by
  subst hj
  exact ⟨idx_in hi hn, Int32.toNatClampNeg_ofNat_of_lt (by omega)⟩
theorem Go.newP (B : Ctx p Z s m meth c own nm bytes maxL ret) (X : Stand p l e R s m args below meth c T locs cells slots) (eT : T.heap = h) {aty : ArrayType} (n : Nat) {j : Int32} (w : (Jvm.Cond.arrayClass (newarray.typeOf aty)).before a0 Z = true) (hd : decode bytes pc = .ok (.newarray aty, 2)) (hp : pc + 2 = pc') (hj : j = Int32.ofNat n) (hn : n ≤ 67108864) (hc : cells + 1 ≤ R.cells) (hl : slots + n ≤ R.slots)
    (k : ∀ T' h' a, a = h.size → Stand p l e R s m args below meth c T' locs (cells + 1) (slots + n) → T'.heap = h' → Ext h h' → Av Z h' a (newarray.typeOf aty) (List.replicate n (defaultValue (newarray.typeOf aty))) → Go p e below Q (T'.setTop (fr m pc' L (.ref a :: st)))) : Go p e below Q (T.setTop (fr m pc L (.int j :: st))) := by
  subst hp hj
  have w2 : (Int32.ofNat n).toNatClampNeg = n := Int32.toNatClampNeg_ofNat_of_lt (by omega)
  have hneg : ¬ Int32.ofNat n < 0 := by
    intro hlt
    rw [Int32.lt_iff_toInt_lt] at hlt
    rw [Int32.toInt_ofNat_of_lt (by omega)] at hlt
    have : (0 : Int32).toInt = 0 := by decide
    omega
  obtain ⟨T', h', cA, X', e', E, A, stp⟩ := RoadKit.newP X B.hx B.hZ w eT (g := fr m pc L (.int (Int32.ofNat n) :: st)) rfl (hb B.by' hd) rfl hneg (cap := n) (by omega) (by omega) hc hl
  refine Go.of stp (k T' h' _ rfl X' e' E ⟨_, A, by simp [newA, w2], by simp; omega, fun v hv => ?_⟩)
  rw [(List.mem_replicate.mp hv).2]
  cases aty <;> decide

theorem Go.caload (B : Ctx p Z s m meth c own nm bytes maxL ret) (X : Stand p l e R s m args below meth c T locs cells slots) (eT : T.heap = h) {a : Addr} {vs : List Value} {j : Int32} {v : Value} (A : Av Z h a .char vs) (i : Nat) (hd : decode bytes pc = .ok (.caload, 1)) (hp : pc + 1 = pc') (hj : j = Int32.ofNat i) (hv : vs[i]? = some v)
    (k : Go p e below Q (T.setTop (fr m pc' L (v :: st)))) : Go p e below Q (T.setTop (fr m pc L (.int j :: .ref a :: st))) := by
  subst hp
  obtain ⟨cl, Ar, r1, r2, r3⟩ := A
  obtain ⟨hi, -⟩ := List.getElem?_eq_some_iff.mp hv
  obtain ⟨q1, q2⟩ := idx_ok hj hi r2
  exact Go.of (fun _ q => X.caload B.hx (cell := cl) (j := j) (v := v) (by rw [eT]; exact Ar.1) (State.isArrayOf_alike B.hZ.alike Ar.2.1) Ar.2.2 (by rw [r1]; exact q1) (by rw [r1, q2]; simpa using hv) (g := fr m pc L (.int j :: .ref a :: st)) rfl rfl (hb B.by' hd) _ q) k
theorem Go.iaload (B : Ctx p Z s m meth c own nm bytes maxL ret) (X : Stand p l e R s m args below meth c T locs cells slots) (eT : T.heap = h) {a : Addr} {vs : List Value} {j : Int32} {v : Value} (A : Av Z h a .int vs) (i : Nat) (hd : decode bytes pc = .ok (.iaload, 1)) (hp : pc + 1 = pc') (hj : j = Int32.ofNat i) (hv : vs[i]? = some v)
    (k : Go p e below Q (T.setTop (fr m pc' L (v :: st)))) : Go p e below Q (T.setTop (fr m pc L (.int j :: .ref a :: st))) := by
  subst hp
  obtain ⟨cl, Ar, r1, r2, r3⟩ := A
  obtain ⟨hi, -⟩ := List.getElem?_eq_some_iff.mp hv
  obtain ⟨q1, q2⟩ := idx_ok hj hi r2
  exact Go.of (fun _ q => X.iaload B.hx (cell := cl) (j := j) (v := v) (by rw [eT]; exact Ar.1) (State.isArrayOf_alike B.hZ.alike Ar.2.1) Ar.2.2 (by rw [r1]; exact q1) (by rw [r1, q2]; simpa using hv) (g := fr m pc L (.int j :: .ref a :: st)) rfl rfl (hb B.by' hd) _ q) k
theorem Go.baload (B : Ctx p Z s m meth c own nm bytes maxL ret) (X : Stand p l e R s m args below meth c T locs cells slots) (eT : T.heap = h) {a : Addr} {vs : List Value} {j : Int32} {v : Value} (A : Av Z h a .byte vs) (i : Nat) (hd : decode bytes pc = .ok (.baload, 1)) (hp : pc + 1 = pc') (hj : j = Int32.ofNat i) (hv : vs[i]? = some v)
    (k : Go p e below Q (T.setTop (fr m pc' L (v :: st)))) : Go p e below Q (T.setTop (fr m pc L (.int j :: .ref a :: st))) := by
  subst hp
  obtain ⟨cl, Ar, r1, r2, r3⟩ := A
  obtain ⟨hi, -⟩ := List.getElem?_eq_some_iff.mp hv
  obtain ⟨q1, q2⟩ := idx_ok hj hi r2
  exact Go.of (fun _ q => X.baloadBytes B.hx (cell := cl) (j := j) (v := v) (by rw [eT]; exact Ar.1) (State.isArrayOf_alike B.hZ.alike Ar.2.1) Ar.2.2 (by rw [r1]; exact q1) (by rw [r1, q2]; simpa using hv) (g := fr m pc L (.int j :: .ref a :: st)) rfl rfl (hb B.by' hd) _ q) k
theorem Go.daload (B : Ctx p Z s m meth c own nm bytes maxL ret) (X : Stand p l e R s m args below meth c T locs cells slots) (eT : T.heap = h) {a : Addr} {vs : List Value} {j : Int32} {v : Value} (A : Av Z h a .double vs) (i : Nat) (hd : decode bytes pc = .ok (.daload, 1)) (hp : pc + 1 = pc') (hj : j = Int32.ofNat i) (hv : vs[i]? = some v)
    (k : Go p e below Q (T.setTop (fr m pc' L (v :: st)))) : Go p e below Q (T.setTop (fr m pc L (.int j :: .ref a :: st))) := by
  subst hp
  obtain ⟨cl, Ar, r1, r2, r3⟩ := A
  obtain ⟨hi, -⟩ := List.getElem?_eq_some_iff.mp hv
  obtain ⟨q1, q2⟩ := idx_ok hj hi r2
  exact Go.of (fun _ q => X.daload B.hx (cell := cl) (j := j) (v := v) (by rw [eT]; exact Ar.1) (State.isArrayOf_alike B.hZ.alike Ar.2.1) Ar.2.2 (by rw [r1]; exact q1) (by rw [r1, q2]; simpa using hv) (g := fr m pc L (.int j :: .ref a :: st)) rfl rfl (hb B.by' hd) _ q) k
theorem Go.laload (B : Ctx p Z s m meth c own nm bytes maxL ret) (X : Stand p l e R s m args below meth c T locs cells slots) (eT : T.heap = h) {a : Addr} {vs : List Value} {j : Int32} {v : Value} (A : Av Z h a .long vs) (i : Nat) (hd : decode bytes pc = .ok (.laload, 1)) (hp : pc + 1 = pc') (hj : j = Int32.ofNat i) (hv : vs[i]? = some v)
    (k : Go p e below Q (T.setTop (fr m pc' L (v :: st)))) : Go p e below Q (T.setTop (fr m pc L (.int j :: .ref a :: st))) := by
  subst hp
  obtain ⟨cl, Ar, r1, r2, r3⟩ := A
  obtain ⟨hi, -⟩ := List.getElem?_eq_some_iff.mp hv
  obtain ⟨q1, q2⟩ := idx_ok hj hi r2
  exact Go.of (fun _ q => X.laload B.hx (cell := cl) (j := j) (v := v) (by rw [eT]; exact Ar.1) (State.isArrayOf_alike B.hZ.alike Ar.2.1) Ar.2.2 (by rw [r1]; exact q1) (by rw [r1, q2]; simpa using hv) (g := fr m pc L (.int j :: .ref a :: st)) rfl rfl (hb B.by' hd) _ q) k
theorem Go.arraylength (B : Ctx p Z s m meth c own nm bytes maxL ret) (X : Stand p l e R s m args below meth c T locs cells slots) (eT : T.heap = h) {a : Addr} {ty : FieldType} {vs : List Value} (A : Av Z h a ty vs) (hd : decode bytes pc = .ok (.arraylength, 1)) (hp : pc + 1 = pc')
    (k : Go p e below Q (T.setTop (fr m pc' L (.int (Int32.ofNat vs.length) :: st)))) : Go p e below Q (T.setTop (fr m pc L (.ref a :: st))) := by
  subst hp
  obtain ⟨cl, Ar, r1, r2, r3⟩ := A
  have q1 : cl.slots.size = vs.length := by rw [r1]; rfl
  refine Go.of (fun _ q => X.arraylength B.hx (cell := cl) (by rw [eT]; exact Ar.1) (State.isArrayOf_alike B.hZ.alike Ar.2.1) (g := fr m pc L (.ref a :: st)) rfl rfl (hb B.by' hd) _ (by rw [q1]; exact q)) k
theorem Go.castore (B : Ctx p Z s m meth c own nm bytes maxL ret) (X : Stand p l e R s m args below meth c T locs cells slots) (eT : T.heap = h) {a : Addr} {vs : List Value} {j : Int32} {x : Int32} (A : Av Z h a .char vs) (i : Nat) (hd : decode bytes pc = .ok (.castore, 1)) (hp : pc + 1 = pc') (hj : j = Int32.ofNat i) (hi : i < vs.length)
    (k : ∀ T' h' L', Fr a L' → Stand p l e R s m args below meth c T' (locs ++ L') cells slots → T'.heap = h' → Wr h h' a i (.int (nar .char x)) → Av Z h' a .char (vs.set i (.int (nar .char x))) → Go p e below Q (T'.setTop (fr m pc' L st))) : Go p e below Q (T.setTop (fr m pc L (.int x :: .int j :: .ref a :: st))) := by
  subst hp
  have A0 := A
  obtain ⟨cl, Ar, r1, r2, r3⟩ := A
  obtain ⟨q1, q2⟩ := idx_ok hj hi r2
  obtain ⟨T', h', X', e', W, stp⟩ := RoadKit.stC X B.hx B.hZ eT Ar (j := j) (x := x) (by rw [r1]; exact q1) (g := fr m pc L (.int x :: .int j :: .ref a :: st)) rfl rfl (hb B.by' hd)
  rw [q2] at W
  exact Go.of stp (k T' h' _ (fun y hy => by cases List.mem_singleton.mp hy; exact Nat.le_refl _) X' e' W (A0.set W (fits_nar_char _)))
theorem Go.bastore (B : Ctx p Z s m meth c own nm bytes maxL ret) (X : Stand p l e R s m args below meth c T locs cells slots) (eT : T.heap = h) {a : Addr} {vs : List Value} {j : Int32} {x : Int32} (A : Av Z h a .byte vs) (i : Nat) (hd : decode bytes pc = .ok (.bastore, 1)) (hp : pc + 1 = pc') (hj : j = Int32.ofNat i) (hi : i < vs.length)
    (k : ∀ T' h' L', Fr a L' → Stand p l e R s m args below meth c T' (locs ++ L') cells slots → T'.heap = h' → Wr h h' a i (.int (nar .byte x)) → Av Z h' a .byte (vs.set i (.int (nar .byte x))) → Go p e below Q (T'.setTop (fr m pc' L st))) : Go p e below Q (T.setTop (fr m pc L (.int x :: .int j :: .ref a :: st))) := by
  subst hp
  have A0 := A
  obtain ⟨cl, Ar, r1, r2, r3⟩ := A
  obtain ⟨q1, q2⟩ := idx_ok hj hi r2
  obtain ⟨T', h', X', e', W, stp⟩ := RoadKit.stB X B.hx B.hZ eT Ar (j := j) (x := x) (by rw [r1]; exact q1) (g := fr m pc L (.int x :: .int j :: .ref a :: st)) rfl rfl (hb B.by' hd)
  rw [q2] at W
  exact Go.of stp (k T' h' _ (fun y hy => by cases List.mem_singleton.mp hy; exact Nat.le_refl _) X' e' W (A0.set W (fits_nar_byte _)))
theorem Go.iastore (B : Ctx p Z s m meth c own nm bytes maxL ret) (X : Stand p l e R s m args below meth c T locs cells slots) (eT : T.heap = h) {a : Addr} {vs : List Value} {j : Int32} {x : Int32} (A : Av Z h a .int vs) (i : Nat) (hd : decode bytes pc = .ok (.iastore, 1)) (hp : pc + 1 = pc') (hj : j = Int32.ofNat i) (hi : i < vs.length)
    (k : ∀ T' h' L', Fr a L' → Stand p l e R s m args below meth c T' (locs ++ L') cells slots → T'.heap = h' → Wr h h' a i (.int x) → Av Z h' a .int (vs.set i (.int x)) → Go p e below Q (T'.setTop (fr m pc' L st))) : Go p e below Q (T.setTop (fr m pc L (.int x :: .int j :: .ref a :: st))) := by
  subst hp
  have A0 := A
  obtain ⟨cl, Ar, r1, r2, r3⟩ := A
  obtain ⟨q1, q2⟩ := idx_ok hj hi r2
  obtain ⟨T', h', X', e', W, stp⟩ := RoadKit.stI X B.hx B.hZ eT Ar (j := j) (x := x) (by rw [r1]; exact q1) (g := fr m pc L (.int x :: .int j :: .ref a :: st)) rfl rfl (hb B.by' hd)
  rw [q2] at W
  exact Go.of stp (k T' h' _ (fun y hy => by cases List.mem_singleton.mp hy; exact Nat.le_refl _) X' e' W (A0.set W (rfl)))
theorem Go.dastore (B : Ctx p Z s m meth c own nm bytes maxL ret) (X : Stand p l e R s m args below meth c T locs cells slots) (eT : T.heap = h) {a : Addr} {vs : List Value} {j : Int32} {x : UInt64} (A : Av Z h a .double vs) (i : Nat) (hd : decode bytes pc = .ok (.dastore, 1)) (hp : pc + 1 = pc') (hj : j = Int32.ofNat i) (hi : i < vs.length)
    (k : ∀ T' h' L', Fr a L' → Stand p l e R s m args below meth c T' (locs ++ L') cells slots → T'.heap = h' → Wr h h' a i (.double x) → Av Z h' a .double (vs.set i (.double x)) → Go p e below Q (T'.setTop (fr m pc' L st))) : Go p e below Q (T.setTop (fr m pc L (.double x :: .int j :: .ref a :: st))) := by
  subst hp
  have A0 := A
  obtain ⟨cl, Ar, r1, r2, r3⟩ := A
  obtain ⟨q1, q2⟩ := idx_ok hj hi r2
  obtain ⟨T', h', X', e', W, stp⟩ := RoadKit.stD X B.hx B.hZ eT Ar (j := j) (x := x) (by rw [r1]; exact q1) (g := fr m pc L (.double x :: .int j :: .ref a :: st)) rfl rfl (hb B.by' hd)
  rw [q2] at W
  exact Go.of stp (k T' h' _ (fun y hy => by cases List.mem_singleton.mp hy; exact Nat.le_refl _) X' e' W (A0.set W (rfl)))
theorem Go.lastore (B : Ctx p Z s m meth c own nm bytes maxL ret) (X : Stand p l e R s m args below meth c T locs cells slots) (eT : T.heap = h) {a : Addr} {vs : List Value} {j : Int32} {x : Int64} (A : Av Z h a .long vs) (i : Nat) (hd : decode bytes pc = .ok (.lastore, 1)) (hp : pc + 1 = pc') (hj : j = Int32.ofNat i) (hi : i < vs.length)
    (k : ∀ T' h' L', Fr a L' → Stand p l e R s m args below meth c T' (locs ++ L') cells slots → T'.heap = h' → Wr h h' a i (.long x) → Av Z h' a .long (vs.set i (.long x)) → Go p e below Q (T'.setTop (fr m pc' L st))) : Go p e below Q (T.setTop (fr m pc L (.long x :: .int j :: .ref a :: st))) := by
  subst hp
  have A0 := A
  obtain ⟨cl, Ar, r1, r2, r3⟩ := A
  obtain ⟨q1, q2⟩ := idx_ok hj hi r2
  obtain ⟨T', h', X', e', W, stp⟩ := RoadKit.stJ X B.hx B.hZ eT Ar (j := j) (x := x) (by rw [r1]; exact q1) (g := fr m pc L (.long x :: .int j :: .ref a :: st)) rfl rfl (hb B.by' hd)
  rw [q2] at W
  exact Go.of stp (k T' h' _ (fun y hy => by cases List.mem_singleton.mp hy; exact Nat.le_refl _) X' e' W (A0.set W (rfl)))
/-! calls -/
abbrev BackQ (l : Launch) (R : Room) (p : Program) (e : Env) (below : List Frame) (s : State) (args : Array Value) (y : MethodName) (W : Nat) (as : List Value) (h : Heap) (kc ks : Nat) (Qc : Option Value → Heap → List Loc → Prop) : Prop :=
  Back l R p e below s args y 3 W (fun A a => a = as.toArray ∧ A.U.heap = h ∧ A.cells + kc ≤ R.cells ∧ A.slots + ks ≤ R.slots) (fun A _ v D => ∃ L, Qc v D.U.heap L ∧ D.locs = A.locs ++ L ∧ D.cells = A.cells + kc ∧ D.slots = A.slots + ks)
/-- a body's contract -/
def Ct (l : Launch) (Z : State) (y : MethodName) (bytes : ByteArray) (maxL : Nat) (ret : Option FieldType) (ws : List Jvm.Cond) (rm : Room) (C S : Nat) (as : List Value) (h0 : Heap) (Qc : Option Value → Heap → List Loc → Prop) : Prop :=
  MetFree l y (head1 (Jvm.Cond.code y bytes maxL ret :: ws) rm) (fun a U => a = as.toArray ∧ Z.Warmed39 U.vm ∧ U.heap = h0) (fun _ _ _ _ _ => True) (fun _ U o U' => ∃ v L, o = .returned v ∧ Qc v U'.heap L ∧ FrameEnd U o U' L C S)
theorem Ct.mk {y : MethodName} {ws : List Jvm.Cond} {rm : Room} {C S : Nat} {as : List Value} {Qc : Option Value → Heap → List Loc → Prop} {L0 : List Slot} (hpn : plainFor y = true) (hL : ∀ m, entryFrame m as.toArray maxL = fr m 0 L0 [])
    (body : ∀ (p : Program) (e : Env) (s : State) (m : MethodId) (below : List Frame) (meth : Method) (c : Code) (s₁ : State), Ctx p Z s m meth c y.cls y.name bytes maxL ret → Stand p l e rm s m as.toArray below meth c s₁ [] 0 0 → s₁.heap = h → Go p e below (End s C S Qc) (s₁.setTop (fr m 0 L0 []))) :
    Ct l Z y bytes maxL ret ws rm C S as h Qc := by
  refine MetFree.of_bodySF hpn hisR ?_
  intro p e s m args below meth c s₁ Bd hml0 hP hK
  obtain ⟨rfl, hZ, hh⟩ := hP
  have G := body p e s m below meth c s₁ ⟨Bd.exec, Bd.bytes, hml0, findClass_of_methodNamed Bd.named, (name_of_methodNamed Bd.named Bd.method).1, hZ, Bd.returns, Bd.notSynchronized⟩ (Stand.of_body Bd) (by rw [← hh, Bd.state]; rfl)
  rw [hL]
  exact G
theorem Ct.back {y : MethodName} {rm : Room} {as : List Value} {Qc : Option Value → Heap → List Loc → Prop} {W : Nat} {bytes' : ByteArray} {maxL' : Nat} {ret' : Option FieldType} (K : Ct l Z y bytes' maxL' ret' [] rm rm.cells rm.slots as h Qc) (hZ : Z.Warmed39 s.vm) (wc : (Jvm.Cond.code y bytes' maxL' ret').before a0 Z = true) (wz : (Jvm.Cond.initialized y.cls).before a0 Z = true) (hf : rm.frames + 1 ≤ R.frames) (hl : W + (maxL' + 11) + rm.locals ≤ R.locals) :
    BackQ l R p e below s args y W as h rm.cells rm.slots Qc := backOf K hZ wc wz hf hl
theorem Go.callS (B : Ctx p Z s m meth c own nm bytes maxL ret) (X : Stand p l e R s m args below meth c T locs cells slots) (eT : T.heap = h) {y : MethodName} {i W kc ks : Nat} {as rest : List Value} {Qc : Option Value → Heap → List Loc → Prop} {bytes' : ByteArray} {maxL' : Nat} {ret' : Option FieldType} {ps : List FieldType} {r : Option FieldType}
    (K : BackQ l R p e below s args y W as h kc ks Qc) (wl : (Jvm.Cond.methodLink own i y).before a0 Z = true) (ws : (Jvm.Cond.static y).before a0 Z = true) (wz : (Jvm.Cond.initialized y.cls).before a0 Z = true) (wc : (Jvm.Cond.code y bytes' maxL' ret').before a0 Z = true) (hy : y.cls ≠ "java/lang/invoke/MethodHandle" ∧ y.cls ≠ "java/lang/invoke/VarHandle")
    (hpd : parseMethodDescriptor y.desc = some ⟨ps, r⟩) (hd : decode bytes pc = .ok (.invokestatic i, 3)) (hp : pc + 3 = pc') (hL : L.length = maxL) (hst : st = as.reverse ++ rest) (hln : as.length = ps.length) (hW : (rest.map fun v => v.category).sum ≤ W) (hc : cells + kc ≤ R.cells) (hs : slots + ks ≤ R.slots)
    (k : ∀ v T' L', Stand p l e R s m args below meth c T' (locs ++ L') (cells + kc) (slots + ks) → Qc v T'.heap L' → Go p e below Q (T'.setTop (fr m pc' L (v.toList ++ rest)))) : Go p e below Q (T.setTop (fr m pc L st)) := by
  subst hp
  obtain ⟨v, _, ⟨T', L1, k1, n1⟩, -, X', ⟨L', hQ, l1, y1, z1⟩, stp⟩ := Jvm.LawKit.callS X B.hx (y := y) B.cl (mvT B.hZ wl) (mvT B.hZ ws) (mvT B.hZ wz) (mvT B.hZ wc) hy K (g := fr m pc L st) rfl (by rw [B.ml]; exact hL) (argsL := as) (rest := rest) (lenOf hpd hln) hst (by show 2 * 0 + _ ≤ _; omega) (hb B.by' hd) (fun _ _ => ⟨rfl, eT, hc, hs⟩)
  dsimp only [Pt.U, Pt.locs, Pt.cells, Pt.slots] at X' l1 y1 z1 stp hQ
  subst l1 y1 z1
  exact Go.of stp (k v T' L' X' hQ)
theorem Go.callI (B : Ctx p Z s m meth c own nm bytes maxL ret) (X : Stand p l e R s m args below meth c T locs cells slots) (eT : T.heap = h) {y : MethodName} {i W kc ks : Nat} {a : Addr} {as rest : List Value} {Qc : Option Value → Heap → List Loc → Prop} {bytes' : ByteArray} {maxL' : Nat} {ps : List FieldType} {r : Option FieldType}
    (hyn : y.name = "<init>") (K : BackQ l R p e below s args y W (.ref a :: as) h kc ks Qc) (wl : (Jvm.Cond.methodLink own i y).before a0 Z = true) (wi : (Jvm.Cond.instanceMethod y).before a0 Z = true) (wc : (Jvm.Cond.code y bytes' maxL' none).before a0 Z = true) (hy : y.cls ≠ "java/lang/invoke/MethodHandle" ∧ y.cls ≠ "java/lang/invoke/VarHandle")
    (hpd : parseMethodDescriptor y.desc = some ⟨ps, r⟩) (hd : decode bytes pc = .ok (.invokespecial i, 3)) (hp : pc + 3 = pc') (hL : L.length = maxL) (hst : st = as.reverse ++ .ref a :: rest) (hln : as.length = ps.length) (hW : (rest.map fun v => v.category).sum ≤ W) (hc : cells + kc ≤ R.cells) (hs : slots + ks ≤ R.slots)
    (k : ∀ v T' L', Stand p l e R s m args below meth c T' (locs ++ L') (cells + kc) (slots + ks) → Qc v T'.heap L' → Go p e below Q (T'.setTop (fr m pc' L (v.toList ++ rest)))) : Go p e below Q (T.setTop (fr m pc L st)) := by
  subst hp
  obtain ⟨v, _, ⟨T', L1, k1, n1⟩, -, X', ⟨L', hQ, l1, y1, z1⟩, stp⟩ := X.specialBack B.hx (y := y) hyn B.cl (mvT B.hZ wl) (mvT B.hZ wi) (mvT B.hZ wc) hy K (g := fr m pc L st) rfl (by rw [B.ml]; exact hL) (Steps.refl _) (a := a) (argsL := as) (rest := rest) (lenOf hpd hln) hst (by show 2 * 0 + _ ≤ _; omega) (hb B.by' hd) (fun _ _ => ⟨rfl, eT, hc, hs⟩)
  dsimp only [Pt.U, Pt.locs, Pt.cells, Pt.slots] at X' l1 y1 z1 stp hQ
  subst l1 y1 z1
  exact Go.come stp (k v T' L' X' hQ)
theorem Go.callV (B : Ctx p Z s m meth c own nm bytes maxL ret) (X : Stand p l e R s m args below meth c T locs cells slots) (eT : T.heap = h) {y z : MethodName} {C : String} {i W kc ks : Nat} {a : Addr} {as rest : List Value} {Qc : Option Value → Heap → List Loc → Prop} {ps : List FieldType} {r : Option FieldType}
    (K : BackQ l R p e below s args z W (.ref a :: as) h kc ks Qc) (E : Exa Z h a C) (wl : (Jvm.Cond.methodLink own i y).before a0 Z = true) (wd : (Jvm.Cond.declares y).before a0 Z = true) (wsel : (Jvm.Cond.selects C y z).before a0 Z = true) (wi : (Jvm.Cond.instanceMethod z).before a0 Z = true) (hy : y.cls ≠ "java/lang/invoke/MethodHandle" ∧ y.cls ≠ "java/lang/invoke/VarHandle") (hnf : NotFace s y)
    (hpd : parseMethodDescriptor y.desc = some ⟨ps, r⟩) (hd : decode bytes pc = .ok (.invokevirtual i, 3)) (hp : pc + 3 = pc') (hL : L.length = maxL) (hst : st = as.reverse ++ .ref a :: rest) (hln : as.length = ps.length) (hW : (rest.map fun v => v.category).sum ≤ W) (hc : cells + kc ≤ R.cells) (hs : slots + ks ≤ R.slots)
    (k : ∀ v T' L', Stand p l e R s m args below meth c T' (locs ++ L') (cells + kc) (slots + ks) → Qc v T'.heap L' → Go p e below Q (T'.setTop (fr m pc' L (v.toList ++ rest)))) : Go p e below Q (T.setTop (fr m pc L st)) := by
  subst hp
  obtain ⟨cq, kq, q1, -, q3⟩ := isOf B.hZ eT E
  obtain ⟨v, _, ⟨T', L1, k1, n1⟩, -, X', ⟨L', hQ, l1, y1, z1⟩, stp⟩ := X.virtualBack B.hx (y := y) (z := z) B.cl (mvT B.hZ wl) (mvT B.hZ wd) hnf (mvT B.hZ wsel) (mvT B.hZ wi) hy K q1 q3 (g := fr m pc L st) rfl (by rw [B.ml]; exact hL) (Steps.refl _) (argsL := as) (rest := rest) (lenOf hpd hln) hst (by show 2 * 0 + _ ≤ _; omega) (hb B.by' hd) (fun _ _ => ⟨rfl, eT, hc, hs⟩)
  dsimp only [Pt.U, Pt.locs, Pt.cells, Pt.slots] at X' l1 y1 z1 stp hQ
  subst l1 y1 z1
  exact Go.come stp (k v T' L' X' hQ)
/-! returns -/
theorem Go.fin (X : Stand p l e R s m args below meth c T locs cells slots) (B : Ctx p Z s m meth c own nm bytes maxL ret) {C S : Nat} {Qc : Option Value → Heap → List Loc → Prop} {v : Option Value} {f : JFrame} (hv : meth.sig.returnType = none → v = none) (hc : cells ≤ C) (hs : slots ≤ S) (q : Qc v T.heap locs)
    (stp : ∀ fs : List Frame, (∀ (f : JFrame) (acts : List Action), f.method = m → f.locked = none → f.entered = [] → (doReturn e (T.setTop f) acts v).1 = T.setFrames fs) → Steps p.tables e below (T.setTop f) (T.setFrames fs)) : Go p e below (End s C S Qc) (T.setTop f) := by
  obtain ⟨fs, hr, hrun, hended, hW, hsame⟩ := X.leave (v := v) hv B.lk
  exact ⟨_, _, stp fs hr, hrun, hended, _, _, rfl, q, ⟨_, rfl⟩, hW, hsame.mono hc hs⟩
theorem Go.iret (B : Ctx p Z s m meth c own nm bytes maxL (some .int)) (X : Stand p l e R s m args below meth c T locs cells slots) {C S : Nat} {Qc : Option Value → Heap → List Loc → Prop} {z : Int32} (hd : decode bytes pc = .ok (.ireturn, 1)) (hc : cells ≤ C) (hs : slots ≤ S) (q : Qc (some (.int z)) T.heap locs) : Go p e below (End s C S Qc) (T.setTop (fr m pc L (.int z :: st))) :=
  Go.fin X B (v := some (.int z)) (fun h => by rw [B.re] at h; cases h) hc hs q (fun fs hr => RoadKit.retOut X B.hx B.re rfl (Or.inl ⟨rfl, Or.inl rfl, z, rfl⟩) (hb B.by' hd) hr)
theorem Go.zret (B : Ctx p Z s m meth c own nm bytes maxL (some .boolean)) (X : Stand p l e R s m args below meth c T locs cells slots) {C S : Nat} {Qc : Option Value → Heap → List Loc → Prop} {z : Int32} (hd : decode bytes pc = .ok (.ireturn, 1)) (hz : narrow .boolean (.int z) = .int z) (hc : cells ≤ C) (hs : slots ≤ S) (q : Qc (some (.int z)) T.heap locs) : Go p e below (End s C S Qc) (T.setTop (fr m pc L (.int z :: st))) :=
  Go.fin X B (v := some (.int z)) (fun h => by rw [B.re] at h; cases h) hc hs q (fun fs hr => RoadKit.retOut X B.hx B.re hz (Or.inl ⟨rfl, Or.inr (Or.inl rfl), z, rfl⟩) (hb B.by' hd) hr)
theorem Go.cret (B : Ctx p Z s m meth c own nm bytes maxL (some .char)) (X : Stand p l e R s m args below meth c T locs cells slots) {C S : Nat} {Qc : Option Value → Heap → List Loc → Prop} {z : Int32} (hd : decode bytes pc = .ok (.ireturn, 1)) (hz : narrow .char (.int z) = .int z) (hc : cells ≤ C) (hs : slots ≤ S) (q : Qc (some (.int z)) T.heap locs) : Go p e below (End s C S Qc) (T.setTop (fr m pc L (.int z :: st))) :=
  Go.fin X B (v := some (.int z)) (fun h => by rw [B.re] at h; cases h) hc hs q (fun fs hr => RoadKit.retOut X B.hx B.re hz (Or.inl ⟨rfl, Or.inr (Or.inr (Or.inr (Or.inl rfl))), z, rfl⟩) (hb B.by' hd) hr)
theorem Go.bret (B : Ctx p Z s m meth c own nm bytes maxL (some .byte)) (X : Stand p l e R s m args below meth c T locs cells slots) {C S : Nat} {Qc : Option Value → Heap → List Loc → Prop} {z : Int32} (hd : decode bytes pc = .ok (.ireturn, 1)) (hz : narrow .byte (.int z) = .int z) (hc : cells ≤ C) (hs : slots ≤ S) (q : Qc (some (.int z)) T.heap locs) : Go p e below (End s C S Qc) (T.setTop (fr m pc L (.int z :: st))) :=
  Go.fin X B (v := some (.int z)) (fun h => by rw [B.re] at h; cases h) hc hs q (fun fs hr => RoadKit.retOut X B.hx B.re hz (Or.inl ⟨rfl, Or.inr (Or.inr (Or.inl rfl)), z, rfl⟩) (hb B.by' hd) hr)
theorem Go.lret (B : Ctx p Z s m meth c own nm bytes maxL (some .long)) (X : Stand p l e R s m args below meth c T locs cells slots) {C S : Nat} {Qc : Option Value → Heap → List Loc → Prop} {z : Int64} (hd : decode bytes pc = .ok (.lreturn, 1)) (hc : cells ≤ C) (hs : slots ≤ S) (q : Qc (some (.long z)) T.heap locs) : Go p e below (End s C S Qc) (T.setTop (fr m pc L (.long z :: st))) :=
  Go.fin X B (v := some (.long z)) (fun h => by rw [B.re] at h; cases h) hc hs q (fun fs hr => RoadKit.retOut X B.hx B.re rfl (Or.inr (Or.inl ⟨rfl, rfl, z, rfl⟩)) (hb B.by' hd) hr)
theorem Go.dret (B : Ctx p Z s m meth c own nm bytes maxL (some .double)) (X : Stand p l e R s m args below meth c T locs cells slots) {C S : Nat} {Qc : Option Value → Heap → List Loc → Prop} {z : UInt64} (hd : decode bytes pc = .ok (.dreturn, 1)) (hc : cells ≤ C) (hs : slots ≤ S) (q : Qc (some (.double z)) T.heap locs) : Go p e below (End s C S Qc) (T.setTop (fr m pc L (.double z :: st))) :=
  Go.fin X B (v := some (.double z)) (fun h => by rw [B.re] at h; cases h) hc hs q (fun fs hr => RoadKit.retOut X B.hx B.re rfl (Or.inr (Or.inr (Or.inl ⟨rfl, rfl, z, rfl⟩))) (hb B.by' hd) hr)
theorem Go.aret {t : FieldType} (B : Ctx p Z s m meth c own nm bytes maxL (some t)) (X : Stand p l e R s m args below meth c T locs cells slots) {C S : Nat} {Qc : Option Value → Heap → List Loc → Prop} {w : Value} (hd : decode bytes pc = .ok (.areturn, 1)) (ht : t.isReference = true) (hw : w.isRef = true) (hn : narrow t w = w) (hc : cells ≤ C) (hs : slots ≤ S) (q : Qc (some w) T.heap locs) : Go p e below (End s C S Qc) (T.setTop (fr m pc L (w :: st))) :=
  Go.fin X B (v := some w) (fun h => by rw [B.re] at h; cases h) hc hs q (fun fs hr => RoadKit.retOut X B.hx B.re hn (Or.inr (Or.inr (Or.inr (Or.inr ⟨rfl, ht, hw⟩)))) (hb B.by' hd) hr)
theorem Go.vret (B : Ctx p Z s m meth c own nm bytes maxL none) (X : Stand p l e R s m args below meth c T locs cells slots) {C S : Nat} {Qc : Option Value → Heap → List Loc → Prop} (hd : decode bytes pc = .ok (.return_, 1)) (hc : cells ≤ C) (hs : slots ≤ S) (q : Qc none T.heap locs) : Go p e below (End s C S Qc) (T.setTop (fr m pc L [])) :=
  Go.fin X B (v := none) (fun _ => rfl) hc hs q (fun fs hr => X.returnOut B.hx B.re (hb B.by' hd) hr)

end
end Jvm.GoKit
namespace Jvm.Pilot.@@N@@
open Jvm Jvm.ClassFile Sem Op Lib Jvm.Free Jvm.Stand Jvm.LawKit Jvm.RoadKit Bundle Jvm.GoKit Jvm.Pilot.@@N@@.Jvm.D
theorem dv_0 : decode method_2_code 0 = .ok (.iload_n 0, 1) := by decide +kernel
theorem dv_1 : decode method_2_code 1 = .ok (.iconst 3, 1) := by decide +kernel
theorem dv_2 : decode method_2_code 2 = .ok (.iand, 1) := by decide +kernel
theorem dv_3 : decode method_2_code 3 = .ok (.istore_n 1, 1) := by decide +kernel
theorem dv_4 : decode method_2_code 4 = .ok (.iload_n 1, 1) := by decide +kernel
theorem dv_5 : decode method_2_code 5 = .ok (.iconst 1, 1) := by decide +kernel
theorem dv_6 : decode method_2_code 6 = .ok (.if_icmp .ne 19, 3) := by decide +kernel
theorem dv_9 : decode method_2_code 9 = .ok (.iload_n 0, 1) := by decide +kernel
theorem dv_10 : decode method_2_code 10 = .ok (.iconst 4, 1) := by decide +kernel
theorem dv_11 : decode method_2_code 11 = .ok (.iand, 1) := by decide +kernel
theorem dv_12 : decode method_2_code 12 = .ok (.ifCond .ne 9, 3) := by decide +kernel
theorem dv_15 : decode method_2_code 15 = .ok (.ldc2_w 9, 3) := by decide +kernel
theorem dv_18 : decode method_2_code 18 = .ok (.goto 6, 3) := by decide +kernel
theorem dv_21 : decode method_2_code 21 = .ok (.ldc2_w 11, 3) := by decide +kernel
theorem dv_24 : decode method_2_code 24 = .ok (.dreturn, 1) := by decide +kernel
theorem dv_25 : decode method_2_code 25 = .ok (.iload_n 1, 1) := by decide +kernel
theorem dv_26 : decode method_2_code 26 = .ok (.iconst 2, 1) := by decide +kernel
theorem dv_27 : decode method_2_code 27 = .ok (.if_icmp .ne 17, 3) := by decide +kernel
theorem dv_30 : decode method_2_code 30 = .ok (.iload_n 0, 1) := by decide +kernel
theorem dv_31 : decode method_2_code 31 = .ok (.iconst 4, 1) := by decide +kernel
theorem dv_32 : decode method_2_code 32 = .ok (.iand, 1) := by decide +kernel
theorem dv_33 : decode method_2_code 33 = .ok (.ifCond .ne 7, 3) := by decide +kernel
theorem dv_36 : decode method_2_code 36 = .ok (.dconst 0, 1) := by decide +kernel
theorem dv_37 : decode method_2_code 37 = .ok (.goto 6, 3) := by decide +kernel
theorem dv_40 : decode method_2_code 40 = .ok (.ldc2_w 13, 3) := by decide +kernel
theorem dv_43 : decode method_2_code 43 = .ok (.dreturn, 1) := by decide +kernel
theorem dv_44 : decode method_2_code 44 = .ok (.iload_n 0, 1) := by decide +kernel
theorem dv_45 : decode method_2_code 45 = .ok (.iconst 2, 1) := by decide +kernel
theorem dv_46 : decode method_2_code 46 = .ok (.ishr, 1) := by decide +kernel
theorem dv_47 : decode method_2_code 47 = .ok (.i2d, 1) := by decide +kernel
theorem dv_48 : decode method_2_code 48 = .ok (.dreturn, 1) := by decide +kernel
theorem dr_0 : decode method_3_code 0 = .ok (.iload_n 0, 1) := by decide +kernel
theorem dr_1 : decode method_3_code 1 = .ok (.iconst 3, 1) := by decide +kernel
theorem dr_2 : decode method_3_code 2 = .ok (.iand, 1) := by decide +kernel
theorem dr_3 : decode method_3_code 3 = .ok (.istore_n 1, 1) := by decide +kernel
theorem dr_4 : decode method_3_code 4 = .ok (.iload_n 1, 1) := by decide +kernel
theorem dr_5 : decode method_3_code 5 = .ok (.iconst 1, 1) := by decide +kernel
theorem dr_6 : decode method_3_code 6 = .ok (.if_icmp .ne 19, 3) := by decide +kernel
theorem dr_9 : decode method_3_code 9 = .ok (.iload_n 0, 1) := by decide +kernel
theorem dr_10 : decode method_3_code 10 = .ok (.iconst 4, 1) := by decide +kernel
theorem dr_11 : decode method_3_code 11 = .ok (.iand, 1) := by decide +kernel
theorem dr_12 : decode method_3_code 12 = .ok (.ifCond .ne 9, 3) := by decide +kernel
theorem dr_15 : decode method_3_code 15 = .ok (.ldc2_w 17, 3) := by decide +kernel
theorem dr_18 : decode method_3_code 18 = .ok (.goto 6, 3) := by decide +kernel
theorem dr_21 : decode method_3_code 21 = .ok (.ldc2_w 19, 3) := by decide +kernel
theorem dr_24 : decode method_3_code 24 = .ok (.lreturn, 1) := by decide +kernel
theorem dr_25 : decode method_3_code 25 = .ok (.iload_n 1, 1) := by decide +kernel
theorem dr_26 : decode method_3_code 26 = .ok (.iconst 2, 1) := by decide +kernel
theorem dr_27 : decode method_3_code 27 = .ok (.if_icmp .ne 5, 3) := by decide +kernel
theorem dr_30 : decode method_3_code 30 = .ok (.lconst 0, 1) := by decide +kernel
theorem dr_31 : decode method_3_code 31 = .ok (.lreturn, 1) := by decide +kernel
theorem dr_32 : decode method_3_code 32 = .ok (.iload_n 0, 1) := by decide +kernel
theorem dr_33 : decode method_3_code 33 = .ok (.iconst 2, 1) := by decide +kernel
theorem dr_34 : decode method_3_code 34 = .ok (.ishr, 1) := by decide +kernel
theorem dr_35 : decode method_3_code 35 = .ok (.i2l, 1) := by decide +kernel
theorem dr_36 : decode method_3_code 36 = .ok (.lreturn, 1) := by decide +kernel
theorem dc_0 : decode prog_42_method_6_code 0 = .ok (.iconst 0, 1) := by decide +kernel
theorem dc_1 : decode prog_42_method_6_code 1 = .ok (.istore_n 2, 1) := by decide +kernel
theorem dc_2 : decode prog_42_method_6_code 2 = .ok (.iload_n 2, 1) := by decide +kernel
theorem dc_3 : decode prog_42_method_6_code 3 = .ok (.aload_n 0, 1) := by decide +kernel
theorem dc_4 : decode prog_42_method_6_code 4 = .ok (.arraylength, 1) := by decide +kernel
theorem dc_5 : decode prog_42_method_6_code 5 = .ok (.if_icmp .ge 33, 3) := by decide +kernel
theorem dc_8 : decode prog_42_method_6_code 8 = .ok (.aload_n 0, 1) := by decide +kernel
theorem dc_9 : decode prog_42_method_6_code 9 = .ok (.iload_n 2, 1) := by decide +kernel
theorem dc_10 : decode prog_42_method_6_code 10 = .ok (.daload, 1) := by decide +kernel
theorem dc_11 : decode prog_42_method_6_code 11 = .ok (.aload_n 1, 1) := by decide +kernel
theorem dc_12 : decode prog_42_method_6_code 12 = .ok (.iload_n 2, 1) := by decide +kernel
theorem dc_13 : decode prog_42_method_6_code 13 = .ok (.daload, 1) := by decide +kernel
theorem dc_14 : decode prog_42_method_6_code 14 = .ok (.dcmp .g, 1) := by decide +kernel
theorem dc_15 : decode prog_42_method_6_code 15 = .ok (.ifCond .ge 5, 3) := by decide +kernel
theorem dc_18 : decode prog_42_method_6_code 18 = .ok (.iconst (-1), 1) := by decide +kernel
theorem dc_19 : decode prog_42_method_6_code 19 = .ok (.ireturn, 1) := by decide +kernel
theorem dc_20 : decode prog_42_method_6_code 20 = .ok (.aload_n 0, 1) := by decide +kernel
theorem dc_21 : decode prog_42_method_6_code 21 = .ok (.iload_n 2, 1) := by decide +kernel
theorem dc_22 : decode prog_42_method_6_code 22 = .ok (.daload, 1) := by decide +kernel
theorem dc_23 : decode prog_42_method_6_code 23 = .ok (.aload_n 1, 1) := by decide +kernel
theorem dc_24 : decode prog_42_method_6_code 24 = .ok (.iload_n 2, 1) := by decide +kernel
theorem dc_25 : decode prog_42_method_6_code 25 = .ok (.daload, 1) := by decide +kernel
theorem dc_26 : decode prog_42_method_6_code 26 = .ok (.dcmp .l, 1) := by decide +kernel
theorem dc_27 : decode prog_42_method_6_code 27 = .ok (.ifCond .le 5, 3) := by decide +kernel
theorem dc_30 : decode prog_42_method_6_code 30 = .ok (.iconst 1, 1) := by decide +kernel
theorem dc_31 : decode prog_42_method_6_code 31 = .ok (.ireturn, 1) := by decide +kernel
theorem dc_32 : decode prog_42_method_6_code 32 = .ok (.iinc 2 1, 3) := by decide +kernel
theorem dc_35 : decode prog_42_method_6_code 35 = .ok (.goto (-33), 3) := by decide +kernel
theorem dc_38 : decode prog_42_method_6_code 38 = .ok (.iconst 0, 1) := by decide +kernel
theorem dc_39 : decode prog_42_method_6_code 39 = .ok (.ireturn, 1) := by decide +kernel
theorem tw {Z : State} {a0 : Array Value} (hw : ∀ d ∈ tables_1, d.before a0 Z = true) (i : Nat) {d : Jvm.Cond} (h : tables_1[i]? = some d) : d.before a0 Z = true := hw d (List.mem_of_getElem? h)
open Jvm.Free.Fl
theorem pnL : plainName "frontsort/sort/PointsComparePinLaw" = true := by first | (simp [plainName, overriddenIn]; done) | decide +kernel
theorem pnP : plainName "frontsort/sort/Points" = true := by first | (simp [plainName, overriddenIn]; done) | decide +kernel
theorem pdV : parseMethodDescriptor "(I)D" = some ⟨[.int], some .double⟩ := by decide +kernel
theorem pdR : parseMethodDescriptor "(I)J" = some ⟨[.int], some .long⟩ := by decide +kernel
theorem pdC : parseMethodDescriptor "([D[D)I" = some ⟨[.array .double, .array .double], some .int⟩ := by decide +kernel
theorem efV (m : MethodId) (x0 : Int32) : entryFrame m [(Value.int x0)].toArray 2 = fr m 0 [.val (.int x0), .unset] [] := by first | (simp [entryFrame, mkF, argsToLocals, Value.category]; done) | rfl
theorem efC (m : MethodId) (x0 x1 : Addr) : entryFrame m [(Value.ref x0), (.ref x1)].toArray 3 = fr m 0 [.val (.ref x0), .val (.ref x1), .unset] [] := by first | (simp [entryFrame, mkF, argsToLocals, Value.category]; done) | rfl
theorem efL (m : MethodId) (x0 x1 x2 : Int64) (x3 : Int32) : entryFrame m [(Value.long x0), (.long x1), (.long x2), (.int x3)].toArray maxLocals = fr m 0 [.val (.long x0), .second, .val (.long x1), .second, .val (.long x2), .second, .val (.int x3), .unset, .unset, .unset, .unset, .unset, .unset, .unset, .unset, .unset, .unset, .unset, .unset, .unset, .unset, .unset, .unset, .unset, .unset, .unset, .unset, .unset, .unset, .unset, .unset] [] := by first | (simp [entryFrame, mkF, argsToLocals, Value.category, maxLocals]; done) | rfl
def gR : Room := { frames := 0, cells := 0, slots := 0, locals := 0 }
theorem lt_ofNat {a b : Nat} (ha : a < 2 ^ 31) (hb : b < 2 ^ 31) : Int32.ofNat a < Int32.ofNat b ↔ a < b := by
  rw [Int32.lt_iff_toInt_lt, Int32.toInt_ofNat_of_lt ha, Int32.toInt_ofNat_of_lt hb]
  omega
def valS (c : Int32) : UInt64 := if c &&& 3 = 1 then (if c &&& 4 = 0 then 9218868437227405312 else 18442240474082181120) else if c &&& 3 = 2 then (if c &&& 4 = 0 then FP.dconst0 else 9223372036854775808) else FP.i2d (c >>> ((2 : Int32) &&& 31))
def rankS (c : Int32) : Int64 := if c &&& 3 = 1 then (if c &&& 4 = 0 then 9223372036854775807 else -9223372036854775808) else if c &&& 3 = 2 then 0 else (c >>> ((2 : Int32) &&& 31)).toInt64
set_option maxRecDepth 65536 in
set_option maxHeartbeats 4000000 in
theorem ctV (l : Launch) (Z : State) (a0 : Array Value) (hw : ∀ d ∈ tables_1, d.before a0 Z = true) (x0 : Int32) (h : Heap) (n0 : Nat) :
    Ct l Z ⟨"frontsort/sort/PointsComparePinLaw", "val", "(I)D"⟩ method_2_code 2 (some .double) [] gR gR.cells gR.slots [(.int x0)] h (fun v h' L => v = some (.double (valS x0)) ∧ Fr n0 L ∧ h' = h) := by
  refine Ct.mk (plainFor_of_name pnL) (fun m => efV m x0) ?_
  intro p e s m below meth c s₁ B X0 e0
  refine Go.iloadN B X0 dv_0 (pc' := 1) rfl rfl ?_
  refine Go.iconst B X0 3 dv_1 (pc' := 2) rfl rfl ?_
  refine Go.iand B X0 dv_2 (pc' := 3) rfl ?_
  refine Go.istoreN B X0 dv_3 (pc' := 4) rfl rfl rfl ?_
  dsimp only [put1]
  refine Go.iloadN B X0 dv_4 (pc' := 5) rfl rfl ?_
  refine Go.iconst B X0 1 dv_5 (pc' := 6) rfl rfl ?_
  refine Go.ic B X0 dv_6 (by decide) (pcT := 25) rfl (pc' := 9) rfl (fun hc => ?_) (fun hc => ?_)
  · dsimp only [GoKit.CP] at hc
    refine Go.iloadN B X0 dv_25 (pc' := 26) rfl rfl ?_
    refine Go.iconst B X0 2 dv_26 (pc' := 27) rfl rfl ?_
    refine Go.ic B X0 dv_27 (by decide) (pcT := 44) rfl (pc' := 30) rfl (fun hc2 => ?_) (fun hc2 => ?_)
    · dsimp only [GoKit.CP] at hc2
      refine Go.iloadN B X0 dv_44 (pc' := 45) rfl rfl ?_
      refine Go.iconst B X0 2 dv_45 (pc' := 46) rfl rfl ?_
      refine Go.ishr B X0 dv_46 (pc' := 47) rfl ?_
      refine Go.i2d B X0 dv_47 (pc' := 48) rfl ?_
      exact Go.dret B X0 dv_48 nb nb ⟨by unfold valS; rw [if_neg hc, if_neg hc2], Fr.nil _, e0⟩
    · dsimp only [GoKit.CN] at hc2
      refine Go.iloadN B X0 dv_30 (pc' := 31) rfl rfl ?_
      refine Go.iconst B X0 4 dv_31 (pc' := 32) rfl rfl ?_
      refine Go.iand B X0 dv_32 (pc' := 33) rfl ?_
      refine Go.ifc B X0 dv_33 (by decide) (pcT := 40) rfl (pc' := 36) rfl (fun hc3 => ?_) (fun hc3 => ?_)
      · dsimp only [GoKit.CP] at hc3
        refine Go.ldc2D B X0 (tw hw 16 rfl) dv_40 (pc' := 43) rfl ?_
        exact Go.dret B X0 dv_43 nb nb ⟨by unfold valS; rw [if_neg hc, if_pos hc2, if_neg hc3], Fr.nil _, e0⟩
      · dsimp only [GoKit.CN] at hc3
        refine Go.dconst0 B X0 dv_36 (pc' := 37) rfl ?_
        refine Go.goto B X0 dv_37 (by decide) (pc' := 43) rfl ?_
        exact Go.dret B X0 dv_43 nb nb ⟨by unfold valS; rw [if_neg hc, if_pos hc2, if_pos hc3], Fr.nil _, e0⟩
  · dsimp only [GoKit.CN] at hc
    refine Go.iloadN B X0 dv_9 (pc' := 10) rfl rfl ?_
    refine Go.iconst B X0 4 dv_10 (pc' := 11) rfl rfl ?_
    refine Go.iand B X0 dv_11 (pc' := 12) rfl ?_
    refine Go.ifc B X0 dv_12 (by decide) (pcT := 21) rfl (pc' := 15) rfl (fun hc3 => ?_) (fun hc3 => ?_)
    · dsimp only [GoKit.CP] at hc3
      refine Go.ldc2D B X0 (tw hw 15 rfl) dv_21 (pc' := 24) rfl ?_
      exact Go.dret B X0 dv_24 nb nb ⟨by unfold valS; rw [if_pos hc, if_neg hc3], Fr.nil _, e0⟩
    · dsimp only [GoKit.CN] at hc3
      refine Go.ldc2D B X0 (tw hw 5 rfl) dv_15 (pc' := 18) rfl ?_
      refine Go.goto B X0 dv_18 (by decide) (pc' := 24) rfl ?_
      exact Go.dret B X0 dv_24 nb nb ⟨by unfold valS; rw [if_pos hc, if_pos hc3], Fr.nil _, e0⟩
set_option maxRecDepth 65536 in
set_option maxHeartbeats 4000000 in
theorem ctR (l : Launch) (Z : State) (a0 : Array Value) (hw : ∀ d ∈ tables_1, d.before a0 Z = true) (x0 : Int32) (h : Heap) (n0 : Nat) :
    Ct l Z ⟨"frontsort/sort/PointsComparePinLaw", "rank", "(I)J"⟩ method_3_code 2 (some .long) [] gR gR.cells gR.slots [(.int x0)] h (fun v h' L => v = some (.long (rankS x0)) ∧ Fr n0 L ∧ h' = h) := by
  refine Ct.mk (plainFor_of_name pnL) (fun m => efV m x0) ?_
  intro p e s m below meth c s₁ B X0 e0
  refine Go.iloadN B X0 dr_0 (pc' := 1) rfl rfl ?_
  refine Go.iconst B X0 3 dr_1 (pc' := 2) rfl rfl ?_
  refine Go.iand B X0 dr_2 (pc' := 3) rfl ?_
  refine Go.istoreN B X0 dr_3 (pc' := 4) rfl rfl rfl ?_
  dsimp only [put1]
  refine Go.iloadN B X0 dr_4 (pc' := 5) rfl rfl ?_
  refine Go.iconst B X0 1 dr_5 (pc' := 6) rfl rfl ?_
  refine Go.ic B X0 dr_6 (by decide) (pcT := 25) rfl (pc' := 9) rfl (fun hc => ?_) (fun hc => ?_)
  · dsimp only [GoKit.CP] at hc
    refine Go.iloadN B X0 dr_25 (pc' := 26) rfl rfl ?_
    refine Go.iconst B X0 2 dr_26 (pc' := 27) rfl rfl ?_
    refine Go.ic B X0 dr_27 (by decide) (pcT := 32) rfl (pc' := 30) rfl (fun hc2 => ?_) (fun hc2 => ?_)
    · dsimp only [GoKit.CP] at hc2
      refine Go.iloadN B X0 dr_32 (pc' := 33) rfl rfl ?_
      refine Go.iconst B X0 2 dr_33 (pc' := 34) rfl rfl ?_
      refine Go.ishr B X0 dr_34 (pc' := 35) rfl ?_
      refine Go.i2l B X0 dr_35 (pc' := 36) rfl ?_
      exact Go.lret B X0 dr_36 nb nb ⟨by unfold rankS; rw [if_neg hc, if_neg hc2], Fr.nil _, e0⟩
    · dsimp only [GoKit.CN] at hc2
      refine Go.lconst B X0 0 dr_30 (pc' := 31) rfl rfl ?_
      exact Go.lret B X0 dr_31 nb nb ⟨by unfold rankS; rw [if_neg hc, if_pos hc2], Fr.nil _, e0⟩
  · dsimp only [GoKit.CN] at hc
    refine Go.iloadN B X0 dr_9 (pc' := 10) rfl rfl ?_
    refine Go.iconst B X0 4 dr_10 (pc' := 11) rfl rfl ?_
    refine Go.iand B X0 dr_11 (pc' := 12) rfl ?_
    refine Go.ifc B X0 dr_12 (by decide) (pcT := 21) rfl (pc' := 15) rfl (fun hc3 => ?_) (fun hc3 => ?_)
    · dsimp only [GoKit.CP] at hc3
      refine Go.ldc2J B X0 (tw hw 14 rfl) dr_21 (pc' := 24) rfl ?_
      exact Go.lret B X0 dr_24 nb nb ⟨by unfold rankS; rw [if_pos hc, if_neg hc3], Fr.nil _, e0⟩
    · dsimp only [GoKit.CN] at hc3
      refine Go.ldc2J B X0 (tw hw 9 rfl) dr_15 (pc' := 18) rfl ?_
      refine Go.goto B X0 dr_18 (by decide) (pc' := 24) rfl ?_
      exact Go.lret B X0 dr_24 nb nb ⟨by unfold rankS; rw [if_pos hc, if_pos hc3], Fr.nil _, e0⟩
theorem dcmp_nz (y : UInt64) : FP.dcmp 9223372036854775808 y = FP.dcmp (FP.l2d 0) y := by
  have e1 : FP.Core.decode FP.Core.b64 (9223372036854775808 : UInt64).toNat = .fin true 0 FP.Core.b64.qmin := by decide +kernel
  have e2 : FP.Core.decode FP.Core.b64 (FP.l2d 0).toNat = .fin false 0 FP.Core.b64.qmin := by decide +kernel
  show FP.Core.order (FP.Core.decode FP.Core.b64 _) _ = FP.Core.order (FP.Core.decode FP.Core.b64 _) _
  rw [e1, e2]
  cases FP.Core.decode FP.Core.b64 y.toNat <;> simp [FP.Core.order, FP.Core.inUnits, FP.Core.signed]
theorem dcmp_nz' (y : UInt64) : FP.dcmp y 9223372036854775808 = FP.dcmp y (FP.l2d 0) := by
  have e1 : FP.Core.decode FP.Core.b64 (9223372036854775808 : UInt64).toNat = .fin true 0 FP.Core.b64.qmin := by decide +kernel
  have e2 : FP.Core.decode FP.Core.b64 (FP.l2d 0).toNat = .fin false 0 FP.Core.b64.qmin := by decide +kernel
  show FP.Core.order _ (FP.Core.decode FP.Core.b64 _) = FP.Core.order _ (FP.Core.decode FP.Core.b64 _)
  rw [e1, e2]
  cases FP.Core.decode FP.Core.b64 y.toNat <;> simp [FP.Core.order, FP.Core.inUnits, FP.Core.signed]
def Sm (x : Int64) : Prop := -9007199254740992 < x.toInt ∧ x.toInt < 9007199254740992
theorem own_kind (c : Int32) : (valS c = 9218868437227405312 ∧ rankS c = 9223372036854775807) ∨ (valS c = 18442240474082181120 ∧ rankS c = -9223372036854775808) ∨ (∃ y : Int64, Sm y ∧ rankS c = y ∧ (∀ z, FP.dcmp (valS c) z = FP.dcmp (FP.l2d y) z) ∧ (∀ z, FP.dcmp z (valS c) = FP.dcmp z (FP.l2d y)) ∧ Fin64 (valS c)) := by
  unfold valS rankS
  split
  · split
    · exact Or.inl ⟨rfl, rfl⟩
    · exact Or.inr (Or.inl ⟨rfl, rfl⟩)
  · split
    · refine Or.inr (Or.inr ⟨0, by unfold Sm; decide, rfl, ?_⟩)
      split
      · have e : FP.dconst0 = FP.l2d 0 := by decide +kernel
        rw [e]
        exact ⟨fun _ => rfl, fun _ => rfl, l2d_fin 0⟩
      · exact ⟨dcmp_nz, dcmp_nz', by unfold Fin64; decide⟩
    · refine Or.inr (Or.inr ⟨_, ?_, rfl, ?_, ?_, ?_⟩)
      · have h := rng32 (c >>> ((2 : Int32) &&& 31))
        have e := c_i2l (c >>> ((2 : Int32) &&& 31))
        unfold Sm; omega
      · intro z; rw [i2d_w]
      · intro z; rw [i2d_w]
      · rw [i2d_w]; exact l2d_fin _
theorem own_vr (a b : Int32) (o : CmpOp) : cmpValue (FP.dcmp (valS a) (valS b)) o = lcmpW (rankS a) (rankS b) := by
  have M : (9223372036854775807 : Int64).toInt = 9223372036854775807 := by decide
  have N : (-9223372036854775808 : Int64).toInt = -9223372036854775808 := by decide
  have gt1 : ∀ x y : Int64, y.toInt < x.toInt → lcmpW x y = 1 := fun x y h => Int32.toInt_inj.mp ((c_lcmp x y).2.2 h)
  have lt1 : ∀ x y : Int64, x.toInt < y.toInt → lcmpW x y = -1 := fun x y h => Int32.toInt_inj.mp ((c_lcmp x y).1 h)
  rcases own_kind a with ⟨e1, e2⟩ | ⟨e1, e2⟩ | ⟨y, s, e2, e1, e1', f1⟩
  · rcases own_kind b with ⟨g1, g2⟩ | ⟨g1, g2⟩ | ⟨z, t, g2, g1, g1', f2⟩
    · rw [e1, e2, g1, g2]; cases o <;> decide +kernel
    · rw [e1, e2, g1, g2]; cases o <;> decide +kernel
    · rw [e1, e2, g2, dcmp_pinf' f2, gt1]; rw [M]; exact Int.lt_trans t.2 (by decide)
  · rcases own_kind b with ⟨g1, g2⟩ | ⟨g1, g2⟩ | ⟨z, t, g2, g1, g1', f2⟩
    · rw [e1, e2, g1, g2]; cases o <;> decide +kernel
    · rw [e1, e2, g1, g2]; cases o <;> decide +kernel
    · rw [e1, e2, g2, dcmp_ninf' f2, lt1]; rw [N]; exact Int.lt_trans (by decide) t.1
  · rcases own_kind b with ⟨g1, g2⟩ | ⟨g1, g2⟩ | ⟨z, t, g2, g1, g1', f2⟩
    · rw [g1, e2, g2, dcmp_pinf f1, lt1]; rw [M]; exact Int.lt_trans s.2 (by decide)
    · rw [g1, e2, g2, dcmp_ninf f1, gt1]; rw [N]; exact Int.lt_trans (by decide) s.1
    · rw [e1, g1', e2, g2]; exact dcmpV_w s t o
def cmpF : List Int32 → List Int32 → Int32
  | a :: as, b :: bs => if lcmpW (rankS a) (rankS b) < 0 then -1 else if 0 < lcmpW (rankS a) (rankS b) then 1 else cmpF as bs
  | _, _ => 0
set_option maxRecDepth 65536 in
set_option maxHeartbeats 4000000 in
theorem own_cloop {p : Program} {l : Launch} {e : Env} {R : Room} {s : State} {m : MethodId} {args : Array Value} {below : List Frame} {meth : Method} {c : Code} {s₁ Z : State} {own nm : String} {h : Heap} {a b : Addr} {as bs : List Int32} {n0 C S : Nat}
    (B : Ctx p Z s m meth c own nm prog_42_method_6_code 3 (some .int)) (X0 : Stand p l e R s m args below meth c s₁ [] 0 0) (e0 : s₁.heap = h) (A1 : Av Z h a .double (as.map (fun c => Value.double (valS c)))) (A2 : Av Z h b .double (bs.map (fun c => Value.double (valS c)))) (hl : as.length = bs.length ∧ as.length < 2 ^ 31) :
    ∀ (n k : Nat), n + k = as.length → Go p e below (End s C S (fun v h' L => v = some (.int (cmpF (as.drop k) (bs.drop k))) ∧ Fr n0 L ∧ h' = h)) (s₁.setTop (fr m 2 [.val (.ref a), .val (.ref b), .val (.int (Int32.ofNat k))] [])) := by
  intro n
  induction n with
  | zero =>
    intro k hn
    refine Go.iloadN B X0 dc_2 (pc' := 3) rfl rfl ?_
    refine Go.aloadN B X0 dc_3 (pc' := 4) rfl rfl rfl ?_
    refine Go.arraylength B X0 e0 A1 dc_4 (pc' := 5) rfl ?_
    rw [List.length_map]
    refine Go.ic B X0 dc_5 (by decide) (pcT := 38) rfl (pc' := 8) rfl (fun hc => ?_) (fun hc => ?_)
    · dsimp only [GoKit.CP] at hc
      have hk : ¬ k < as.length := fun q => hc ((lt_ofNat (by omega) (by omega)).mpr q)
      have d1 : as.drop k = [] := List.drop_eq_nil_of_le (by omega)
      refine Go.iconst B X0 0 dc_38 (pc' := 39) rfl rfl ?_
      exact Go.iret B X0 dc_39 nb nb ⟨by rw [d1]; rfl, Fr.nil _, e0⟩
    · dsimp only [GoKit.CN] at hc
      have hk : k < as.length := (lt_ofNat (by omega) (by omega)).mp hc
      have hk2 : k < bs.length := by omega
      have da : as.drop k = as[k] :: as.drop (k + 1) := List.drop_eq_getElem_cons hk
      have db : bs.drop k = bs[k] :: bs.drop (k + 1) := List.drop_eq_getElem_cons hk2
      refine Go.aloadN B X0 dc_8 (pc' := 9) rfl rfl rfl ?_
      refine Go.iloadN B X0 dc_9 (pc' := 10) rfl rfl ?_
      refine Go.daload B X0 e0 A1 k dc_10 (pc' := 11) rfl rfl (v := .double (valS as[k])) (by simp [hk]) ?_
      refine Go.aloadN B X0 dc_11 (pc' := 12) rfl rfl rfl ?_
      refine Go.iloadN B X0 dc_12 (pc' := 13) rfl rfl ?_
      refine Go.daload B X0 e0 A2 k dc_13 (pc' := 14) rfl rfl (v := .double (valS bs[k])) (by simp [hk2]) ?_
      refine Go.dcmp B X0 dc_14 (pc' := 15) rfl ?_
      rw [own_vr]
      refine Go.ifc B X0 dc_15 (by decide) (pcT := 20) rfl (pc' := 18) rfl (fun hc1 => ?_) (fun hc1 => ?_)
      · dsimp only [GoKit.CP] at hc1
        refine Go.aloadN B X0 dc_20 (pc' := 21) rfl rfl rfl ?_
        refine Go.iloadN B X0 dc_21 (pc' := 22) rfl rfl ?_
        refine Go.daload B X0 e0 A1 k dc_22 (pc' := 23) rfl rfl (v := .double (valS as[k])) (by simp [hk]) ?_
        refine Go.aloadN B X0 dc_23 (pc' := 24) rfl rfl rfl ?_
        refine Go.iloadN B X0 dc_24 (pc' := 25) rfl rfl ?_
        refine Go.daload B X0 e0 A2 k dc_25 (pc' := 26) rfl rfl (v := .double (valS bs[k])) (by simp [hk2]) ?_
        refine Go.dcmp B X0 dc_26 (pc' := 27) rfl ?_
        rw [own_vr]
        refine Go.ifc B X0 dc_27 (by decide) (pcT := 32) rfl (pc' := 30) rfl (fun hc2 => ?_) (fun hc2 => ?_)
        · dsimp only [GoKit.CP] at hc2
          refine Go.iinc B X0 1 dc_32 (pc' := 35) rfl rfl rfl ?_
          dsimp only [put1]
          refine Go.goto B X0 dc_35 (by decide) (pc' := 2) rfl ?_
          have hi : Int32.ofNat k + 1 = Int32.ofNat (k + 1) := (Int32.ofNat_add k 1).symm
          rw [hi]
          have e1 : cmpF (as.drop k) (bs.drop k) = cmpF (as.drop (k + 1)) (bs.drop (k + 1)) := by
            rw [da, db]; simp only [cmpF]; rw [if_neg hc1, if_neg hc2]
          rw [e1]
          omega
        · dsimp only [GoKit.CN] at hc2
          refine Go.iconst B X0 1 dc_30 (pc' := 31) rfl rfl ?_
          exact Go.iret B X0 dc_31 nb nb ⟨by rw [da, db]; simp only [cmpF]; rw [if_neg hc1, if_pos hc2], Fr.nil _, e0⟩
      · dsimp only [GoKit.CN] at hc1
        refine Go.iconst B X0 (-1) dc_18 (pc' := 19) rfl rfl ?_
        exact Go.iret B X0 dc_19 nb nb ⟨by rw [da, db]; simp only [cmpF]; rw [if_pos hc1], Fr.nil _, e0⟩
  | succ n ih =>
    intro k hn
    refine Go.iloadN B X0 dc_2 (pc' := 3) rfl rfl ?_
    refine Go.aloadN B X0 dc_3 (pc' := 4) rfl rfl rfl ?_
    refine Go.arraylength B X0 e0 A1 dc_4 (pc' := 5) rfl ?_
    rw [List.length_map]
    refine Go.ic B X0 dc_5 (by decide) (pcT := 38) rfl (pc' := 8) rfl (fun hc => ?_) (fun hc => ?_)
    · dsimp only [GoKit.CP] at hc
      have hk : ¬ k < as.length := fun q => hc ((lt_ofNat (by omega) (by omega)).mpr q)
      have d1 : as.drop k = [] := List.drop_eq_nil_of_le (by omega)
      refine Go.iconst B X0 0 dc_38 (pc' := 39) rfl rfl ?_
      exact Go.iret B X0 dc_39 nb nb ⟨by rw [d1]; rfl, Fr.nil _, e0⟩
    · dsimp only [GoKit.CN] at hc
      have hk : k < as.length := (lt_ofNat (by omega) (by omega)).mp hc
      have hk2 : k < bs.length := by omega
      have da : as.drop k = as[k] :: as.drop (k + 1) := List.drop_eq_getElem_cons hk
      have db : bs.drop k = bs[k] :: bs.drop (k + 1) := List.drop_eq_getElem_cons hk2
      refine Go.aloadN B X0 dc_8 (pc' := 9) rfl rfl rfl ?_
      refine Go.iloadN B X0 dc_9 (pc' := 10) rfl rfl ?_
      refine Go.daload B X0 e0 A1 k dc_10 (pc' := 11) rfl rfl (v := .double (valS as[k])) (by simp [hk]) ?_
      refine Go.aloadN B X0 dc_11 (pc' := 12) rfl rfl rfl ?_
      refine Go.iloadN B X0 dc_12 (pc' := 13) rfl rfl ?_
      refine Go.daload B X0 e0 A2 k dc_13 (pc' := 14) rfl rfl (v := .double (valS bs[k])) (by simp [hk2]) ?_
      refine Go.dcmp B X0 dc_14 (pc' := 15) rfl ?_
      rw [own_vr]
      refine Go.ifc B X0 dc_15 (by decide) (pcT := 20) rfl (pc' := 18) rfl (fun hc1 => ?_) (fun hc1 => ?_)
      · dsimp only [GoKit.CP] at hc1
        refine Go.aloadN B X0 dc_20 (pc' := 21) rfl rfl rfl ?_
        refine Go.iloadN B X0 dc_21 (pc' := 22) rfl rfl ?_
        refine Go.daload B X0 e0 A1 k dc_22 (pc' := 23) rfl rfl (v := .double (valS as[k])) (by simp [hk]) ?_
        refine Go.aloadN B X0 dc_23 (pc' := 24) rfl rfl rfl ?_
        refine Go.iloadN B X0 dc_24 (pc' := 25) rfl rfl ?_
        refine Go.daload B X0 e0 A2 k dc_25 (pc' := 26) rfl rfl (v := .double (valS bs[k])) (by simp [hk2]) ?_
        refine Go.dcmp B X0 dc_26 (pc' := 27) rfl ?_
        rw [own_vr]
        refine Go.ifc B X0 dc_27 (by decide) (pcT := 32) rfl (pc' := 30) rfl (fun hc2 => ?_) (fun hc2 => ?_)
        · dsimp only [GoKit.CP] at hc2
          refine Go.iinc B X0 1 dc_32 (pc' := 35) rfl rfl rfl ?_
          dsimp only [put1]
          refine Go.goto B X0 dc_35 (by decide) (pc' := 2) rfl ?_
          have hi : Int32.ofNat k + 1 = Int32.ofNat (k + 1) := (Int32.ofNat_add k 1).symm
          rw [hi]
          have e1 : cmpF (as.drop k) (bs.drop k) = cmpF (as.drop (k + 1)) (bs.drop (k + 1)) := by
            rw [da, db]; simp only [cmpF]; rw [if_neg hc1, if_neg hc2]
          rw [e1]
          exact ih (k + 1) (by omega)
        · dsimp only [GoKit.CN] at hc2
          refine Go.iconst B X0 1 dc_30 (pc' := 31) rfl rfl ?_
          exact Go.iret B X0 dc_31 nb nb ⟨by rw [da, db]; simp only [cmpF]; rw [if_neg hc1, if_pos hc2], Fr.nil _, e0⟩
      · dsimp only [GoKit.CN] at hc1
        refine Go.iconst B X0 (-1) dc_18 (pc' := 19) rfl rfl ?_
        exact Go.iret B X0 dc_19 nb nb ⟨by rw [da, db]; simp only [cmpF]; rw [if_pos hc1], Fr.nil _, e0⟩
set_option maxRecDepth 65536 in
set_option maxHeartbeats 4000000 in
theorem ctC (l : Launch) (Z : State) (a0 : Array Value) (hw : ∀ d ∈ tables_1, d.before a0 Z = true) (a b : Addr) (as bs : List Int32) (h : Heap) (n0 : Nat) (A1 : Av Z h a .double (as.map (fun c => Value.double (valS c)))) (A2 : Av Z h b .double (bs.map (fun c => Value.double (valS c)))) (hl : as.length = bs.length ∧ as.length < 2 ^ 31) :
    Ct l Z ⟨"frontsort/sort/Points", "compare", "([D[D)I"⟩ prog_42_method_6_code 3 (some .int) [] gR gR.cells gR.slots [(.ref a), (.ref b)] h (fun v h' L => v = some (.int (cmpF as bs)) ∧ Fr n0 L ∧ h' = h) := by
  refine Ct.mk (plainFor_of_name pnP) (fun m => efC m a b) ?_
  intro p e s m below meth c s₁ B X0 e0
  refine Go.iconst B X0 0 dc_0 (pc' := 1) rfl rfl ?_
  refine Go.istoreN B X0 dc_1 (pc' := 2) rfl rfl rfl ?_
  dsimp only [put1]
  exact own_cloop B X0 e0 A1 A2 hl as.length 0 (by simp)
theorem own_c_lt {c t : Int32} (h : c < 0) : (if c < 0 then (-1 : Int32) else if 0 < c then 1 else t) = -1 := if_pos h
theorem own_c_gt {c t : Int32} (h0 : ¬ c = 0) (h : ¬ c < 0) : (if c < 0 then (-1 : Int32) else if 0 < c then 1 else t) = 1 := by
  rw [if_neg h, if_pos]
  have e : (0 : Int32).toInt = 0 := by decide
  rw [Int32.lt_iff_toInt_lt] at h ⊢
  rw [← Int32.toInt_inj] at h0
  omega
theorem own_c_eq {c t : Int32} (h : c = 0) : (if c < 0 then (-1 : Int32) else if 0 < c then 1 else t) = t := by
  subst h; rfl
theorem own_n (p : Int32) : p &&& 3 = 0 ∨ p &&& 3 = 1 ∨ p &&& 3 = 2 ∨ p &&& 3 = 3 := by
  have h := c_and p 3 (by decide)
  have e0 : (0 : Int32).toInt = 0 := by decide
  have e1 : (1 : Int32).toInt = 1 := by decide
  have e2 : (2 : Int32).toInt = 2 := by decide
  have e3 : (3 : Int32).toInt = 3 := by decide
  rw [← Int32.toInt_inj, ← Int32.toInt_inj, ← Int32.toInt_inj, ← Int32.toInt_inj, e0, e1, e2, e3]
  omega
set_option maxRecDepth 65536 in
set_option maxHeartbeats 4000000 in
theorem seg_rank {l : Launch} {Z : State} {a00 : Array Value} (hw : ∀ d ∈ tables_1, d.before a00 Z = true) {p0 p1 p2 : Int64} {p3 N a0 b0 a1 b1 a2 b2 : Int32} {a b : Addr} {h : Heap} {n0 : Nat}
    {p : Program} {e : Env} {s : State} {m : MethodId} {args : Array Value} {below : List Frame} {meth : Method} {c : Code} {T : State} {nm : String} {locs : List Loc} {cells slots : Nat} (B : Ctx p Z s m meth c x.cls nm code maxLocals ret) (X : Stand p l e room_1 s m args below meth c T locs cells slots) (eT : T.heap = h) (N0 : Fr n0 locs) (hce : cells ≤ 16) (hsl : slots ≤ 128) {Q : Outcome → State → Prop}
    (k : ∀ T' locs', Fr n0 locs' → Stand p l e room_1 s m args below meth c T' locs' cells slots → T'.heap = h → Go p e below Q (T'.setTop (fr m 175 [.val (.long p0), .second, .val (.long p1), .second, .val (.long p2), .second, .val (.int p3), .val (.int N), .val (.int a0), .val (.int b0), .val (.int a1), .val (.int b1), .val (.int a2), .val (.int b2), .val (.ref a), .val (.ref b), .val (.long (rankS a0)), .second, .val (.long (rankS b0)), .second, .val (.long (rankS a1)), .second, .val (.long (rankS b1)), .second, .val (.long (rankS a2)), .second, .val (.long (rankS b2)), .second, .unset, .unset, .unset] []))) : Go p e below Q (T.setTop (fr m 133 [.val (.long p0), .second, .val (.long p1), .second, .val (.long p2), .second, .val (.int p3), .val (.int N), .val (.int a0), .val (.int b0), .val (.int a1), .val (.int b1), .val (.int a2), .val (.int b2), .val (.ref a), .val (.ref b), .unset, .unset, .unset, .unset, .unset, .unset, .unset, .unset, .unset, .unset, .unset, .unset, .unset, .unset, .unset] [])) := by
  refine Go.iload B X at_133 (pc' := 135) rfl rfl ?_
  refine Go.callS B X eT (Ct.back (W := 0) (ctR l Z a00 hw _ h n0) B.hZ (tw hw 8 rfl) (tw hw 3 rfl) nb nb) (tw hw 6 rfl) (tw hw 7 rfl) (tw hw 3 rfl) (tw hw 8 rfl) (by decide) pdR at_135 (pc' := 138) rfl rfl (rest := []) rfl rfl nb hce hsl ?_
  intro vr0 Tr0 Lr0 Xr0 Qr0
  obtain ⟨rfl, Nr0, er0⟩ := Qr0
  dsimp only [Option.toList, List.nil_append, List.cons_append]
  have Mr0 := Fr.app N0 Nr0
  refine Go.lstore B Xr0 at_138 (pc' := 140) rfl rfl rfl rfl rfl ?_
  dsimp only [put1]
  refine Go.iload B Xr0 at_140 (pc' := 142) rfl rfl ?_
  refine Go.callS B Xr0 er0 (Ct.back (W := 0) (ctR l Z a00 hw _ h n0) B.hZ (tw hw 8 rfl) (tw hw 3 rfl) nb nb) (tw hw 6 rfl) (tw hw 7 rfl) (tw hw 3 rfl) (tw hw 8 rfl) (by decide) pdR at_142 (pc' := 145) rfl rfl (rest := []) rfl rfl nb hce hsl ?_
  intro vr1 Tr1 Lr1 Xr1 Qr1
  obtain ⟨rfl, Nr1, er1⟩ := Qr1
  dsimp only [Option.toList, List.nil_append, List.cons_append]
  have Mr1 := Fr.app Mr0 Nr1
  refine Go.lstore B Xr1 at_145 (pc' := 147) rfl rfl rfl rfl rfl ?_
  dsimp only [put1]
  refine Go.iload B Xr1 at_147 (pc' := 149) rfl rfl ?_
  refine Go.callS B Xr1 er1 (Ct.back (W := 0) (ctR l Z a00 hw _ h n0) B.hZ (tw hw 8 rfl) (tw hw 3 rfl) nb nb) (tw hw 6 rfl) (tw hw 7 rfl) (tw hw 3 rfl) (tw hw 8 rfl) (by decide) pdR at_149 (pc' := 152) rfl rfl (rest := []) rfl rfl nb hce hsl ?_
  intro vr2 Tr2 Lr2 Xr2 Qr2
  obtain ⟨rfl, Nr2, er2⟩ := Qr2
  dsimp only [Option.toList, List.nil_append, List.cons_append]
  have Mr2 := Fr.app Mr1 Nr2
  refine Go.lstore B Xr2 at_152 (pc' := 154) rfl rfl rfl rfl rfl ?_
  dsimp only [put1]
  refine Go.iload B Xr2 at_154 (pc' := 156) rfl rfl ?_
  refine Go.callS B Xr2 er2 (Ct.back (W := 0) (ctR l Z a00 hw _ h n0) B.hZ (tw hw 8 rfl) (tw hw 3 rfl) nb nb) (tw hw 6 rfl) (tw hw 7 rfl) (tw hw 3 rfl) (tw hw 8 rfl) (by decide) pdR at_156 (pc' := 159) rfl rfl (rest := []) rfl rfl nb hce hsl ?_
  intro vr3 Tr3 Lr3 Xr3 Qr3
  obtain ⟨rfl, Nr3, er3⟩ := Qr3
  dsimp only [Option.toList, List.nil_append, List.cons_append]
  have Mr3 := Fr.app Mr2 Nr3
  refine Go.lstore B Xr3 at_159 (pc' := 161) rfl rfl rfl rfl rfl ?_
  dsimp only [put1]
  refine Go.iload B Xr3 at_161 (pc' := 163) rfl rfl ?_
  refine Go.callS B Xr3 er3 (Ct.back (W := 0) (ctR l Z a00 hw _ h n0) B.hZ (tw hw 8 rfl) (tw hw 3 rfl) nb nb) (tw hw 6 rfl) (tw hw 7 rfl) (tw hw 3 rfl) (tw hw 8 rfl) (by decide) pdR at_163 (pc' := 166) rfl rfl (rest := []) rfl rfl nb hce hsl ?_
  intro vr4 Tr4 Lr4 Xr4 Qr4
  obtain ⟨rfl, Nr4, er4⟩ := Qr4
  dsimp only [Option.toList, List.nil_append, List.cons_append]
  have Mr4 := Fr.app Mr3 Nr4
  refine Go.lstore B Xr4 at_166 (pc' := 168) rfl rfl rfl rfl rfl ?_
  dsimp only [put1]
  refine Go.iload B Xr4 at_168 (pc' := 170) rfl rfl ?_
  refine Go.callS B Xr4 er4 (Ct.back (W := 0) (ctR l Z a00 hw _ h n0) B.hZ (tw hw 8 rfl) (tw hw 3 rfl) nb nb) (tw hw 6 rfl) (tw hw 7 rfl) (tw hw 3 rfl) (tw hw 8 rfl) (by decide) pdR at_170 (pc' := 173) rfl rfl (rest := []) rfl rfl nb hce hsl ?_
  intro vr5 Tr5 Lr5 Xr5 Qr5
  obtain ⟨rfl, Nr5, er5⟩ := Qr5
  dsimp only [Option.toList, List.nil_append, List.cons_append]
  have Mr5 := Fr.app Mr4 Nr5
  refine Go.lstore B Xr5 at_173 (pc' := 175) rfl rfl rfl rfl rfl ?_
  dsimp only [put1]
  exact k _ _ Mr5 Xr5 er5
set_option maxRecDepth 65536 in
set_option maxHeartbeats 4000000 in
theorem own_end {l : Launch} {Z : State} {a00 : Array Value} (hw : ∀ d ∈ tables_1, d.before a00 Z = true) {p0 p1 p2 : Int64} {p3 N a0 b0 a1 b1 a2 b2 : Int32} {a b : Addr} {h : Heap} {n0 : Nat}
    {p : Program} {e : Env} {s : State} {m : MethodId} {args : Array Value} {below : List Frame} {meth : Method} {c : Code} {T : State} {nm : String} {locs : List Loc} {cells slots : Nat} (B : Ctx p Z s m meth c x.cls nm code maxLocals ret) (X : Stand p l e room_1 s m args below meth c T locs cells slots) (eT : T.heap = h) (N0 : Fr n0 locs) (hce : cells ≤ 16) (hsl : slots ≤ 128) {E : Int32} (as bs : List Int32) (A1 : Av Z h a .double (as.map (fun c => Value.double (valS c)))) (A2 : Av Z h b .double (bs.map (fun c => Value.double (valS c)))) (hlen : as.length = bs.length ∧ as.length < 2 ^ 31) (hr : cmpF as bs = E) (hE : E = -1 ∨ E = 0 ∨ E = 1) :
    Go p e below (End s 16 128 (fun v h' L => v = some (.int 1) ∧ Fr n0 L)) (T.setTop (fr m 270 [.val (.long p0), .second, .val (.long p1), .second, .val (.long p2), .second, .val (.int p3), .val (.int N), .val (.int a0), .val (.int b0), .val (.int a1), .val (.int b1), .val (.int a2), .val (.int b2), .val (.ref a), .val (.ref b), .val (.long (rankS a0)), .second, .val (.long (rankS b0)), .second, .val (.long (rankS a1)), .second, .val (.long (rankS b1)), .second, .val (.long (rankS a2)), .second, .val (.long (rankS b2)), .second, .val (.int E), .unset, .unset] [])) := by
  refine Go.aload B X at_270 (pc' := 272) rfl rfl rfl ?_
  refine Go.aload B X at_272 (pc' := 274) rfl rfl rfl ?_
  refine Go.callS B X eT (Ct.back (W := 0) (ctC l Z a00 hw a b as bs _ n0 A1 A2 hlen) B.hZ (tw hw 13 rfl) (tw hw 12 rfl) nb nb) (tw hw 10 rfl) (tw hw 11 rfl) (tw hw 12 rfl) (tw hw 13 rfl) (by decide) pdC at_274 (pc' := 277) rfl rfl (rest := []) rfl rfl nb hce hsl ?_
  intro v9 T9 L9 X9 Q9
  obtain ⟨rfl, N9, e9⟩ := Q9
  dsimp only [Option.toList, List.nil_append, List.cons_append]
  rw [hr]
  refine Go.istore B X9 at_277 (pc' := 279) rfl rfl rfl ?_
  dsimp only [put1]
  refine Go.iload B X9 at_279 (pc' := 281) rfl rfl ?_
  rcases hE with rfl | rfl | rfl
  · refine Go.ifF B X9 at_281 (pc' := 284) rfl (by decide) ?_
    refine Go.iconst B X9 (-1) at_284 (pc' := 285) rfl rfl ?_
    refine Go.goto B X9 at_285 (by decide) (pc' := 298) rfl ?_
    refine Go.istore B X9 at_298 (pc' := 300) rfl rfl rfl ?_
    dsimp only [put1]
    refine Go.iload B X9 at_300 (pc' := 302) rfl rfl ?_
    refine Go.iload B X9 at_302 (pc' := 304) rfl rfl ?_
    refine Go.icF B X9 at_304 (pc' := 307) rfl rfl ?_
    refine Go.iconst B X9 1 at_307 (pc' := 308) rfl rfl ?_
    refine Go.goto B X9 at_308 (by decide) (pc' := 312) rfl ?_
    exact Go.zret B X9 at_312 rfl hce hsl ⟨rfl, Fr.app N0 N9⟩
  · refine Go.ifT B X9 at_281 (by decide) (pc' := 288) rfl (by decide) ?_
    refine Go.iload B X9 at_288 (pc' := 290) rfl rfl ?_
    refine Go.ifT B X9 at_290 (by decide) (pc' := 297) rfl (by decide) ?_
    refine Go.iconst B X9 0 at_297 (pc' := 298) rfl rfl ?_
    refine Go.istore B X9 at_298 (pc' := 300) rfl rfl rfl ?_
    dsimp only [put1]
    refine Go.iload B X9 at_300 (pc' := 302) rfl rfl ?_
    refine Go.iload B X9 at_302 (pc' := 304) rfl rfl ?_
    refine Go.icF B X9 at_304 (pc' := 307) rfl rfl ?_
    refine Go.iconst B X9 1 at_307 (pc' := 308) rfl rfl ?_
    refine Go.goto B X9 at_308 (by decide) (pc' := 312) rfl ?_
    exact Go.zret B X9 at_312 rfl hce hsl ⟨rfl, Fr.app N0 N9⟩
  · refine Go.ifT B X9 at_281 (by decide) (pc' := 288) rfl (by decide) ?_
    refine Go.iload B X9 at_288 (pc' := 290) rfl rfl ?_
    refine Go.ifF B X9 at_290 (pc' := 293) rfl (by decide) ?_
    refine Go.iconst B X9 1 at_293 (pc' := 294) rfl rfl ?_
    refine Go.goto B X9 at_294 (by decide) (pc' := 298) rfl ?_
    refine Go.istore B X9 at_298 (pc' := 300) rfl rfl rfl ?_
    dsimp only [put1]
    refine Go.iload B X9 at_300 (pc' := 302) rfl rfl ?_
    refine Go.iload B X9 at_302 (pc' := 304) rfl rfl ?_
    refine Go.icF B X9 at_304 (pc' := 307) rfl rfl ?_
    refine Go.iconst B X9 1 at_307 (pc' := 308) rfl rfl ?_
    refine Go.goto B X9 at_308 (by decide) (pc' := 312) rfl ?_
    exact Go.zret B X9 at_312 rfl hce hsl ⟨rfl, Fr.app N0 N9⟩
set_option maxRecDepth 65536 in
set_option maxHeartbeats 4000000 in
theorem tail0 {l : Launch} {Z : State} {a00 : Array Value} (hw : ∀ d ∈ tables_1, d.before a00 Z = true) {p0 p1 p2 : Int64} {p3 N a0 b0 a1 b1 a2 b2 : Int32} {a b : Addr} {h : Heap} {n0 : Nat}
    {p : Program} {e : Env} {s : State} {m : MethodId} {args : Array Value} {below : List Frame} {meth : Method} {c : Code} {T : State} {nm : String} {locs : List Loc} {cells slots : Nat} (B : Ctx p Z s m meth c x.cls nm code maxLocals ret) (X : Stand p l e room_1 s m args below meth c T locs cells slots) (eT : T.heap = h) (N0 : Fr n0 locs) (hce : cells ≤ 16) (hsl : slots ≤ 128) (hN : N = 0) (A1 : Av Z h a .double (([] : List Int32).map (fun c => Value.double (valS c)))) (A2 : Av Z h b .double (([] : List Int32).map (fun c => Value.double (valS c)))) :
    Go p e below (End s 16 128 (fun v h' L => v = some (.int 1) ∧ Fr n0 L)) (T.setTop (fr m 175 [.val (.long p0), .second, .val (.long p1), .second, .val (.long p2), .second, .val (.int p3), .val (.int N), .val (.int a0), .val (.int b0), .val (.int a1), .val (.int b1), .val (.int a2), .val (.int b2), .val (.ref a), .val (.ref b), .val (.long (rankS a0)), .second, .val (.long (rankS b0)), .second, .val (.long (rankS a1)), .second, .val (.long (rankS b1)), .second, .val (.long (rankS a2)), .second, .val (.long (rankS b2)), .second, .unset, .unset, .unset] [])) := by
  subst hN
  refine Go.iconst B X 0 at_175 (pc' := 176) rfl rfl ?_
  refine Go.istore B X at_176 (pc' := 178) rfl rfl rfl ?_
  dsimp only [put1]
  refine Go.iload B X at_178 (pc' := 180) rfl rfl ?_
  refine Go.ifT B X at_180 (by decide) (pc' := 209) rfl (by decide) ?_
  refine Go.iload B X at_209 (pc' := 211) rfl rfl ?_
  refine Go.iconst B X 1 at_211 (pc' := 212) rfl rfl ?_
  refine Go.icT B X at_212 (by decide) (pc' := 241) rfl (by decide) ?_
  refine Go.iload B X at_241 (pc' := 243) rfl rfl ?_
  refine Go.iconst B X 2 at_243 (pc' := 244) rfl rfl ?_
  refine Go.icT B X at_244 (by decide) (pc' := 270) rfl (by decide) ?_
  have hr : cmpF [] [] = 0 := rfl
  exact own_end hw B X eT N0 hce hsl [] [] A1 A2 ⟨rfl, nl⟩ hr (by decide)
set_option maxRecDepth 65536 in
set_option maxHeartbeats 40000000 in
theorem law0 {l : Launch} {Z : State} {a00 : Array Value} (hw : ∀ d ∈ tables_1, d.before a00 Z = true) (p0 p1 p2 : Int64) (p3 : Int32) (h : Heap) (n0 : Nat) (Z0 : n0 ≤ h.size) (hn : p3 &&& 3 = 0)
    {p : Program} {e : Env} {s : State} {m : MethodId} {args : Array Value} {below : List Frame} {meth : Method} {c : Code} {s₁ : State} {nm : String} (B : Ctx p Z s m meth c x.cls nm code maxLocals ret) (X0 : Stand p l e room_1 s m args below meth c s₁ [] 0 0) (e0 : s₁.heap = h) :
    Go p e below (End s 16 128 (fun v h' L => v = some (.int 1) ∧ Fr n0 L)) (s₁.setTop (fr m 0 [.val (.long p0), .second, .val (.long p1), .second, .val (.long p2), .second, .val (.int p3), .unset, .unset, .unset, .unset, .unset, .unset, .unset, .unset, .unset, .unset, .unset, .unset, .unset, .unset, .unset, .unset, .unset, .unset, .unset, .unset, .unset, .unset, .unset, .unset] [])) := by
  refine Go.iload B X0 at_0 (pc' := 2) rfl rfl ?_
  refine Go.iconst B X0 3 at_2 (pc' := 3) rfl rfl ?_
  refine Go.iand B X0 at_3 (pc' := 4) rfl ?_
  refine Go.istore B X0 at_4 (pc' := 6) rfl rfl rfl ?_
  dsimp only [put1]
  rw [hn]
  refine Go.iload B X0 at_6 (pc' := 8) rfl rfl ?_
  refine Go.iconst B X0 3 at_8 (pc' := 9) rfl rfl ?_
  refine Go.icT B X0 at_9 (by decide) (pc' := 15) rfl (by decide) ?_
  refine Go.lloadN B X0 at_15 (pc' := 16) rfl rfl ?_
  refine Go.bipush B X0 32 at_16 (pc' := 18) rfl rfl ?_
  refine Go.lshr B X0 at_18 (pc' := 19) rfl ?_
  refine Go.l2i B X0 at_19 (pc' := 20) rfl ?_
  refine Go.istore B X0 at_20 (pc' := 22) rfl rfl rfl ?_
  dsimp only [put1]
  refine Go.lloadN B X0 at_22 (pc' := 23) rfl rfl ?_
  refine Go.l2i B X0 at_23 (pc' := 24) rfl ?_
  refine Go.istore B X0 at_24 (pc' := 26) rfl rfl rfl ?_
  dsimp only [put1]
  generalize (p0 >>> ((32 : Int32) &&& 0x3f).toInt64).toInt32 = a0
  generalize p0.toInt32 = b0
  refine Go.lloadN B X0 at_26 (pc' := 27) rfl rfl ?_
  refine Go.bipush B X0 32 at_27 (pc' := 29) rfl rfl ?_
  refine Go.lshr B X0 at_29 (pc' := 30) rfl ?_
  refine Go.l2i B X0 at_30 (pc' := 31) rfl ?_
  refine Go.istore B X0 at_31 (pc' := 33) rfl rfl rfl ?_
  dsimp only [put1]
  refine Go.lloadN B X0 at_33 (pc' := 34) rfl rfl ?_
  refine Go.l2i B X0 at_34 (pc' := 35) rfl ?_
  refine Go.istore B X0 at_35 (pc' := 37) rfl rfl rfl ?_
  dsimp only [put1]
  generalize (p1 >>> ((32 : Int32) &&& 0x3f).toInt64).toInt32 = a1
  generalize p1.toInt32 = b1
  refine Go.lload B X0 at_37 (pc' := 39) rfl rfl ?_
  refine Go.bipush B X0 32 at_39 (pc' := 41) rfl rfl ?_
  refine Go.lshr B X0 at_41 (pc' := 42) rfl ?_
  refine Go.l2i B X0 at_42 (pc' := 43) rfl ?_
  refine Go.istore B X0 at_43 (pc' := 45) rfl rfl rfl ?_
  dsimp only [put1]
  refine Go.lload B X0 at_45 (pc' := 47) rfl rfl ?_
  refine Go.l2i B X0 at_47 (pc' := 48) rfl ?_
  refine Go.istore B X0 at_48 (pc' := 50) rfl rfl rfl ?_
  dsimp only [put1]
  generalize (p2 >>> ((32 : Int32) &&& 0x3f).toInt64).toInt32 = a2
  generalize p2.toInt32 = b2
  refine Go.iload B X0 at_50 (pc' := 52) rfl rfl ?_
  refine Go.newP B X0 e0 0 (tw hw 0 rfl) at_52 (pc' := 54) rfl rfl nb nb nb ?_
  intro Tp hp a gp Xp ep Ep Ap'
  have Ap : Av Z hp a .double [] := Ap'
  refine Go.astore B Xp at_54 (pc' := 56) rfl rfl rfl rfl ?_
  dsimp only [put1]
  refine Go.iload B Xp at_56 (pc' := 58) rfl rfl ?_
  refine Go.newP B Xp ep 0 (tw hw 0 rfl) at_58 (pc' := 60) rfl rfl nb nb nb ?_
  intro Tq hq b gq Xq eq Eq Aq'
  have Aq : Av Z hq b .double [] := Aq'
  have Aa := Ap.ext Eq
  have hab : a ≠ b := Nat.ne_of_lt (Nat.lt_of_lt_of_eq Ap.lt gq.symm)
  have za : n0 ≤ a := by rw [gp]; exact Z0
  have zb : n0 ≤ b := by rw [gq]; exact Nat.le_trans Z0 Ep.1
  have N := Fr.nil n0
  refine Go.astore B Xq at_60 (pc' := 62) rfl rfl rfl rfl ?_
  dsimp only [put1]
  refine Go.iload B Xq at_62 (pc' := 64) rfl rfl ?_
  refine Go.ifT B Xq at_64 (by decide) (pc' := 85) rfl (by decide) ?_
  refine Go.iload B Xq at_85 (pc' := 87) rfl rfl ?_
  refine Go.iconst B Xq 1 at_87 (pc' := 88) rfl rfl ?_
  refine Go.icT B Xq at_88 (by decide) (pc' := 109) rfl (by decide) ?_
  refine Go.iload B Xq at_109 (pc' := 111) rfl rfl ?_
  refine Go.iconst B Xq 2 at_111 (pc' := 112) rfl rfl ?_
  refine Go.icT B Xq at_112 (by decide) (pc' := 133) rfl (by decide) ?_
  exact seg_rank hw B Xq eq N nb nb (fun T' locs' N' X' e' => tail0 hw B X' e' N' nb nb rfl Aa Aq)
set_option maxRecDepth 65536 in
set_option maxHeartbeats 4000000 in
theorem tail1 {l : Launch} {Z : State} {a00 : Array Value} (hw : ∀ d ∈ tables_1, d.before a00 Z = true) {p0 p1 p2 : Int64} {p3 N a0 b0 a1 b1 a2 b2 : Int32} {a b : Addr} {h : Heap} {n0 : Nat}
    {p : Program} {e : Env} {s : State} {m : MethodId} {args : Array Value} {below : List Frame} {meth : Method} {c : Code} {T : State} {nm : String} {locs : List Loc} {cells slots : Nat} (B : Ctx p Z s m meth c x.cls nm code maxLocals ret) (X : Stand p l e room_1 s m args below meth c T locs cells slots) (eT : T.heap = h) (N0 : Fr n0 locs) (hce : cells ≤ 16) (hsl : slots ≤ 128) (hN : N = 1) (A1 : Av Z h a .double (([a0] : List Int32).map (fun c => Value.double (valS c)))) (A2 : Av Z h b .double (([b0] : List Int32).map (fun c => Value.double (valS c)))) :
    Go p e below (End s 16 128 (fun v h' L => v = some (.int 1) ∧ Fr n0 L)) (T.setTop (fr m 175 [.val (.long p0), .second, .val (.long p1), .second, .val (.long p2), .second, .val (.int p3), .val (.int N), .val (.int a0), .val (.int b0), .val (.int a1), .val (.int b1), .val (.int a2), .val (.int b2), .val (.ref a), .val (.ref b), .val (.long (rankS a0)), .second, .val (.long (rankS b0)), .second, .val (.long (rankS a1)), .second, .val (.long (rankS b1)), .second, .val (.long (rankS a2)), .second, .val (.long (rankS b2)), .second, .unset, .unset, .unset] [])) := by
  subst hN
  refine Go.iconst B X 0 at_175 (pc' := 176) rfl rfl ?_
  refine Go.istore B X at_176 (pc' := 178) rfl rfl rfl ?_
  dsimp only [put1]
  refine Go.iload B X at_178 (pc' := 180) rfl rfl ?_
  refine Go.ifF B X at_180 (pc' := 183) rfl (by decide) ?_
  refine Go.lload B X at_183 (pc' := 185) rfl rfl ?_
  refine Go.lload B X at_185 (pc' := 187) rfl rfl ?_
  refine Go.lcmp B X at_187 (pc' := 188) rfl ?_
  refine Go.ifc B X at_188 (by decide) (pcT := 209) rfl (pc' := 191) rfl (fun z0 => ?_) (fun z0 => ?_)
  · dsimp only [GoKit.CP] at z0
    refine Go.iload B X at_209 (pc' := 211) rfl rfl ?_
    refine Go.iconst B X 1 at_211 (pc' := 212) rfl rfl ?_
    refine Go.icT B X at_212 (by decide) (pc' := 241) rfl (by decide) ?_
    refine Go.iload B X at_241 (pc' := 243) rfl rfl ?_
    refine Go.iconst B X 2 at_243 (pc' := 244) rfl rfl ?_
    refine Go.icT B X at_244 (by decide) (pc' := 270) rfl (by decide) ?_
    have hr : cmpF [a0] [b0] = 0 := by
      simp only [cmpF]
      rw [own_c_eq z0]
    exact own_end hw B X eT N0 hce hsl [a0] [b0] A1 A2 ⟨rfl, nl⟩ hr (by decide)
  · dsimp only [GoKit.CN] at z0
    refine Go.lload B X at_191 (pc' := 193) rfl rfl ?_
    refine Go.lload B X at_193 (pc' := 195) rfl rfl ?_
    refine Go.lcmp B X at_195 (pc' := 196) rfl ?_
    refine Go.ifc B X at_196 (by decide) (pcT := 203) rfl (pc' := 199) rfl (fun y0 => ?_) (fun y0 => ?_)
    · dsimp only [GoKit.CP] at y0
      have hr : cmpF [a0] [b0] = 1 := by
        simp only [cmpF]
        rw [own_c_gt z0 y0]
      refine Go.iconst B X 1 at_203 (pc' := 204) rfl rfl ?_
      refine Go.istore B X at_204 (pc' := 206) rfl rfl rfl ?_
      dsimp only [put1]
      refine Go.goto B X at_206 (by decide) (pc' := 270) rfl ?_
      exact own_end hw B X eT N0 hce hsl [a0] [b0] A1 A2 ⟨rfl, nl⟩ hr (by decide)
    · dsimp only [GoKit.CN] at y0
      have hr : cmpF [a0] [b0] = -1 := by
        simp only [cmpF]
        rw [own_c_lt y0]
      refine Go.iconst B X (-1) at_199 (pc' := 200) rfl rfl ?_
      refine Go.goto B X at_200 (by decide) (pc' := 204) rfl ?_
      refine Go.istore B X at_204 (pc' := 206) rfl rfl rfl ?_
      dsimp only [put1]
      refine Go.goto B X at_206 (by decide) (pc' := 270) rfl ?_
      exact own_end hw B X eT N0 hce hsl [a0] [b0] A1 A2 ⟨rfl, nl⟩ hr (by decide)
set_option maxRecDepth 65536 in
set_option maxHeartbeats 40000000 in
theorem law1 {l : Launch} {Z : State} {a00 : Array Value} (hw : ∀ d ∈ tables_1, d.before a00 Z = true) (p0 p1 p2 : Int64) (p3 : Int32) (h : Heap) (n0 : Nat) (Z0 : n0 ≤ h.size) (hn : p3 &&& 3 = 1)
    {p : Program} {e : Env} {s : State} {m : MethodId} {args : Array Value} {below : List Frame} {meth : Method} {c : Code} {s₁ : State} {nm : String} (B : Ctx p Z s m meth c x.cls nm code maxLocals ret) (X0 : Stand p l e room_1 s m args below meth c s₁ [] 0 0) (e0 : s₁.heap = h) :
    Go p e below (End s 16 128 (fun v h' L => v = some (.int 1) ∧ Fr n0 L)) (s₁.setTop (fr m 0 [.val (.long p0), .second, .val (.long p1), .second, .val (.long p2), .second, .val (.int p3), .unset, .unset, .unset, .unset, .unset, .unset, .unset, .unset, .unset, .unset, .unset, .unset, .unset, .unset, .unset, .unset, .unset, .unset, .unset, .unset, .unset, .unset, .unset, .unset] [])) := by
  refine Go.iload B X0 at_0 (pc' := 2) rfl rfl ?_
  refine Go.iconst B X0 3 at_2 (pc' := 3) rfl rfl ?_
  refine Go.iand B X0 at_3 (pc' := 4) rfl ?_
  refine Go.istore B X0 at_4 (pc' := 6) rfl rfl rfl ?_
  dsimp only [put1]
  rw [hn]
  refine Go.iload B X0 at_6 (pc' := 8) rfl rfl ?_
  refine Go.iconst B X0 3 at_8 (pc' := 9) rfl rfl ?_
  refine Go.icT B X0 at_9 (by decide) (pc' := 15) rfl (by decide) ?_
  refine Go.lloadN B X0 at_15 (pc' := 16) rfl rfl ?_
  refine Go.bipush B X0 32 at_16 (pc' := 18) rfl rfl ?_
  refine Go.lshr B X0 at_18 (pc' := 19) rfl ?_
  refine Go.l2i B X0 at_19 (pc' := 20) rfl ?_
  refine Go.istore B X0 at_20 (pc' := 22) rfl rfl rfl ?_
  dsimp only [put1]
  refine Go.lloadN B X0 at_22 (pc' := 23) rfl rfl ?_
  refine Go.l2i B X0 at_23 (pc' := 24) rfl ?_
  refine Go.istore B X0 at_24 (pc' := 26) rfl rfl rfl ?_
  dsimp only [put1]
  generalize (p0 >>> ((32 : Int32) &&& 0x3f).toInt64).toInt32 = a0
  generalize p0.toInt32 = b0
  refine Go.lloadN B X0 at_26 (pc' := 27) rfl rfl ?_
  refine Go.bipush B X0 32 at_27 (pc' := 29) rfl rfl ?_
  refine Go.lshr B X0 at_29 (pc' := 30) rfl ?_
  refine Go.l2i B X0 at_30 (pc' := 31) rfl ?_
  refine Go.istore B X0 at_31 (pc' := 33) rfl rfl rfl ?_
  dsimp only [put1]
  refine Go.lloadN B X0 at_33 (pc' := 34) rfl rfl ?_
  refine Go.l2i B X0 at_34 (pc' := 35) rfl ?_
  refine Go.istore B X0 at_35 (pc' := 37) rfl rfl rfl ?_
  dsimp only [put1]
  generalize (p1 >>> ((32 : Int32) &&& 0x3f).toInt64).toInt32 = a1
  generalize p1.toInt32 = b1
  refine Go.lload B X0 at_37 (pc' := 39) rfl rfl ?_
  refine Go.bipush B X0 32 at_39 (pc' := 41) rfl rfl ?_
  refine Go.lshr B X0 at_41 (pc' := 42) rfl ?_
  refine Go.l2i B X0 at_42 (pc' := 43) rfl ?_
  refine Go.istore B X0 at_43 (pc' := 45) rfl rfl rfl ?_
  dsimp only [put1]
  refine Go.lload B X0 at_45 (pc' := 47) rfl rfl ?_
  refine Go.l2i B X0 at_47 (pc' := 48) rfl ?_
  refine Go.istore B X0 at_48 (pc' := 50) rfl rfl rfl ?_
  dsimp only [put1]
  generalize (p2 >>> ((32 : Int32) &&& 0x3f).toInt64).toInt32 = a2
  generalize p2.toInt32 = b2
  refine Go.iload B X0 at_50 (pc' := 52) rfl rfl ?_
  refine Go.newP B X0 e0 1 (tw hw 0 rfl) at_52 (pc' := 54) rfl rfl nb nb nb ?_
  intro Tp hp a gp Xp ep Ep Ap'
  have Ap : Av Z hp a .double [(.double 0)] := Ap'
  refine Go.astore B Xp at_54 (pc' := 56) rfl rfl rfl rfl ?_
  dsimp only [put1]
  refine Go.iload B Xp at_56 (pc' := 58) rfl rfl ?_
  refine Go.newP B Xp ep 1 (tw hw 0 rfl) at_58 (pc' := 60) rfl rfl nb nb nb ?_
  intro Tq hq b gq Xq eq Eq Aq'
  have Aq : Av Z hq b .double [(.double 0)] := Aq'
  have Aa := Ap.ext Eq
  have hab : a ≠ b := Nat.ne_of_lt (Nat.lt_of_lt_of_eq Ap.lt gq.symm)
  have za : n0 ≤ a := by rw [gp]; exact Z0
  have zb : n0 ≤ b := by rw [gq]; exact Nat.le_trans Z0 Ep.1
  have N := Fr.nil n0
  refine Go.astore B Xq at_60 (pc' := 62) rfl rfl rfl rfl ?_
  dsimp only [put1]
  refine Go.iload B Xq at_62 (pc' := 64) rfl rfl ?_
  refine Go.ifF B Xq at_64 (pc' := 67) rfl (by decide) ?_
  refine Go.aload B Xq at_67 (pc' := 69) rfl rfl rfl ?_
  refine Go.iconst B Xq 0 at_69 (pc' := 70) rfl rfl ?_
  refine Go.iload B Xq at_70 (pc' := 72) rfl rfl ?_
  refine Go.callS B Xq eq (Ct.back (W := 2) (ctV l Z a00 hw _ hq n0) B.hZ (tw hw 4 rfl) (tw hw 3 rfl) nb nb) (tw hw 1 rfl) (tw hw 2 rfl) (tw hw 3 rfl) (tw hw 4 rfl) (by decide) pdV at_72 (pc' := 75) rfl rfl (rest := [_, _]) rfl rfl nb nb nb ?_
  intro vc00 Tc00 Lc00 Xc00 Qc00
  obtain ⟨rfl, Nc00, ec00⟩ := Qc00
  dsimp only [Option.toList, List.nil_append, List.cons_append]
  refine Go.dastore B Xc00 ec00 Aa 0 at_75 (pc' := 76) rfl rfl nl ?_
  intro Ts00 hs00 Ls00 Fs00 Xs00 es00 Ws00 As00'
  have As00 : Av Z hs00 a .double [(.double (valS a0))] := As00'
  have Bs00 := Aq.other Ws00 hab.symm
  have Ns00 := Fr.app (Fr.app N Nc00) (GoKit.Fr.low Fs00 za)
  refine Go.aload B Xs00 at_76 (pc' := 78) rfl rfl rfl ?_
  refine Go.iconst B Xs00 0 at_78 (pc' := 79) rfl rfl ?_
  refine Go.iload B Xs00 at_79 (pc' := 81) rfl rfl ?_
  refine Go.callS B Xs00 es00 (Ct.back (W := 2) (ctV l Z a00 hw _ hs00 n0) B.hZ (tw hw 4 rfl) (tw hw 3 rfl) nb nb) (tw hw 1 rfl) (tw hw 2 rfl) (tw hw 3 rfl) (tw hw 4 rfl) (by decide) pdV at_81 (pc' := 84) rfl rfl (rest := [_, _]) rfl rfl nb nb nb ?_
  intro vc01 Tc01 Lc01 Xc01 Qc01
  obtain ⟨rfl, Nc01, ec01⟩ := Qc01
  dsimp only [Option.toList, List.nil_append, List.cons_append]
  refine Go.dastore B Xc01 ec01 Bs00 0 at_84 (pc' := 85) rfl rfl nl ?_
  intro Ts01 hs01 Ls01 Fs01 Xs01 es01 Ws01 As01'
  have Bs01 : Av Z hs01 b .double [(.double (valS b0))] := As01'
  have As01 := As00.other Ws01 hab
  have Ns01 := Fr.app (Fr.app Ns00 Nc01) (GoKit.Fr.low Fs01 zb)
  refine Go.iload B Xs01 at_85 (pc' := 87) rfl rfl ?_
  refine Go.iconst B Xs01 1 at_87 (pc' := 88) rfl rfl ?_
  refine Go.icT B Xs01 at_88 (by decide) (pc' := 109) rfl (by decide) ?_
  refine Go.iload B Xs01 at_109 (pc' := 111) rfl rfl ?_
  refine Go.iconst B Xs01 2 at_111 (pc' := 112) rfl rfl ?_
  refine Go.icT B Xs01 at_112 (by decide) (pc' := 133) rfl (by decide) ?_
  exact seg_rank hw B Xs01 es01 Ns01 nb nb (fun T' locs' N' X' e' => tail1 hw B X' e' N' nb nb rfl As01 Bs01)
set_option maxRecDepth 65536 in
set_option maxHeartbeats 4000000 in
theorem tail2 {l : Launch} {Z : State} {a00 : Array Value} (hw : ∀ d ∈ tables_1, d.before a00 Z = true) {p0 p1 p2 : Int64} {p3 N a0 b0 a1 b1 a2 b2 : Int32} {a b : Addr} {h : Heap} {n0 : Nat}
    {p : Program} {e : Env} {s : State} {m : MethodId} {args : Array Value} {below : List Frame} {meth : Method} {c : Code} {T : State} {nm : String} {locs : List Loc} {cells slots : Nat} (B : Ctx p Z s m meth c x.cls nm code maxLocals ret) (X : Stand p l e room_1 s m args below meth c T locs cells slots) (eT : T.heap = h) (N0 : Fr n0 locs) (hce : cells ≤ 16) (hsl : slots ≤ 128) (hN : N = 2) (A1 : Av Z h a .double (([a0, a1] : List Int32).map (fun c => Value.double (valS c)))) (A2 : Av Z h b .double (([b0, b1] : List Int32).map (fun c => Value.double (valS c)))) :
    Go p e below (End s 16 128 (fun v h' L => v = some (.int 1) ∧ Fr n0 L)) (T.setTop (fr m 175 [.val (.long p0), .second, .val (.long p1), .second, .val (.long p2), .second, .val (.int p3), .val (.int N), .val (.int a0), .val (.int b0), .val (.int a1), .val (.int b1), .val (.int a2), .val (.int b2), .val (.ref a), .val (.ref b), .val (.long (rankS a0)), .second, .val (.long (rankS b0)), .second, .val (.long (rankS a1)), .second, .val (.long (rankS b1)), .second, .val (.long (rankS a2)), .second, .val (.long (rankS b2)), .second, .unset, .unset, .unset] [])) := by
  subst hN
  refine Go.iconst B X 0 at_175 (pc' := 176) rfl rfl ?_
  refine Go.istore B X at_176 (pc' := 178) rfl rfl rfl ?_
  dsimp only [put1]
  refine Go.iload B X at_178 (pc' := 180) rfl rfl ?_
  refine Go.ifF B X at_180 (pc' := 183) rfl (by decide) ?_
  refine Go.lload B X at_183 (pc' := 185) rfl rfl ?_
  refine Go.lload B X at_185 (pc' := 187) rfl rfl ?_
  refine Go.lcmp B X at_187 (pc' := 188) rfl ?_
  refine Go.ifc B X at_188 (by decide) (pcT := 209) rfl (pc' := 191) rfl (fun z0 => ?_) (fun z0 => ?_)
  · dsimp only [GoKit.CP] at z0
    refine Go.iload B X at_209 (pc' := 211) rfl rfl ?_
    refine Go.iconst B X 1 at_211 (pc' := 212) rfl rfl ?_
    refine Go.icF B X at_212 (pc' := 215) rfl (by decide) ?_
    refine Go.lload B X at_215 (pc' := 217) rfl rfl ?_
    refine Go.lload B X at_217 (pc' := 219) rfl rfl ?_
    refine Go.lcmp B X at_219 (pc' := 220) rfl ?_
    refine Go.ifc B X at_220 (by decide) (pcT := 241) rfl (pc' := 223) rfl (fun z1 => ?_) (fun z1 => ?_)
    · dsimp only [GoKit.CP] at z1
      refine Go.iload B X at_241 (pc' := 243) rfl rfl ?_
      refine Go.iconst B X 2 at_243 (pc' := 244) rfl rfl ?_
      refine Go.icT B X at_244 (by decide) (pc' := 270) rfl (by decide) ?_
      have hr : cmpF [a0, a1] [b0, b1] = 0 := by
        simp only [cmpF]
        rw [own_c_eq z0]
        rw [own_c_eq z1]
      exact own_end hw B X eT N0 hce hsl [a0, a1] [b0, b1] A1 A2 ⟨rfl, nl⟩ hr (by decide)
    · dsimp only [GoKit.CN] at z1
      refine Go.lload B X at_223 (pc' := 225) rfl rfl ?_
      refine Go.lload B X at_225 (pc' := 227) rfl rfl ?_
      refine Go.lcmp B X at_227 (pc' := 228) rfl ?_
      refine Go.ifc B X at_228 (by decide) (pcT := 235) rfl (pc' := 231) rfl (fun y1 => ?_) (fun y1 => ?_)
      · dsimp only [GoKit.CP] at y1
        have hr : cmpF [a0, a1] [b0, b1] = 1 := by
          simp only [cmpF]
          rw [own_c_eq z0]
          rw [own_c_gt z1 y1]
        refine Go.iconst B X 1 at_235 (pc' := 236) rfl rfl ?_
        refine Go.istore B X at_236 (pc' := 238) rfl rfl rfl ?_
        dsimp only [put1]
        refine Go.goto B X at_238 (by decide) (pc' := 270) rfl ?_
        exact own_end hw B X eT N0 hce hsl [a0, a1] [b0, b1] A1 A2 ⟨rfl, nl⟩ hr (by decide)
      · dsimp only [GoKit.CN] at y1
        have hr : cmpF [a0, a1] [b0, b1] = -1 := by
          simp only [cmpF]
          rw [own_c_eq z0]
          rw [own_c_lt y1]
        refine Go.iconst B X (-1) at_231 (pc' := 232) rfl rfl ?_
        refine Go.goto B X at_232 (by decide) (pc' := 236) rfl ?_
        refine Go.istore B X at_236 (pc' := 238) rfl rfl rfl ?_
        dsimp only [put1]
        refine Go.goto B X at_238 (by decide) (pc' := 270) rfl ?_
        exact own_end hw B X eT N0 hce hsl [a0, a1] [b0, b1] A1 A2 ⟨rfl, nl⟩ hr (by decide)
  · dsimp only [GoKit.CN] at z0
    refine Go.lload B X at_191 (pc' := 193) rfl rfl ?_
    refine Go.lload B X at_193 (pc' := 195) rfl rfl ?_
    refine Go.lcmp B X at_195 (pc' := 196) rfl ?_
    refine Go.ifc B X at_196 (by decide) (pcT := 203) rfl (pc' := 199) rfl (fun y0 => ?_) (fun y0 => ?_)
    · dsimp only [GoKit.CP] at y0
      have hr : cmpF [a0, a1] [b0, b1] = 1 := by
        simp only [cmpF]
        rw [own_c_gt z0 y0]
      refine Go.iconst B X 1 at_203 (pc' := 204) rfl rfl ?_
      refine Go.istore B X at_204 (pc' := 206) rfl rfl rfl ?_
      dsimp only [put1]
      refine Go.goto B X at_206 (by decide) (pc' := 270) rfl ?_
      exact own_end hw B X eT N0 hce hsl [a0, a1] [b0, b1] A1 A2 ⟨rfl, nl⟩ hr (by decide)
    · dsimp only [GoKit.CN] at y0
      have hr : cmpF [a0, a1] [b0, b1] = -1 := by
        simp only [cmpF]
        rw [own_c_lt y0]
      refine Go.iconst B X (-1) at_199 (pc' := 200) rfl rfl ?_
      refine Go.goto B X at_200 (by decide) (pc' := 204) rfl ?_
      refine Go.istore B X at_204 (pc' := 206) rfl rfl rfl ?_
      dsimp only [put1]
      refine Go.goto B X at_206 (by decide) (pc' := 270) rfl ?_
      exact own_end hw B X eT N0 hce hsl [a0, a1] [b0, b1] A1 A2 ⟨rfl, nl⟩ hr (by decide)
set_option maxRecDepth 65536 in
set_option maxHeartbeats 40000000 in
theorem law2 {l : Launch} {Z : State} {a00 : Array Value} (hw : ∀ d ∈ tables_1, d.before a00 Z = true) (p0 p1 p2 : Int64) (p3 : Int32) (h : Heap) (n0 : Nat) (Z0 : n0 ≤ h.size) (hn : p3 &&& 3 = 2)
    {p : Program} {e : Env} {s : State} {m : MethodId} {args : Array Value} {below : List Frame} {meth : Method} {c : Code} {s₁ : State} {nm : String} (B : Ctx p Z s m meth c x.cls nm code maxLocals ret) (X0 : Stand p l e room_1 s m args below meth c s₁ [] 0 0) (e0 : s₁.heap = h) :
    Go p e below (End s 16 128 (fun v h' L => v = some (.int 1) ∧ Fr n0 L)) (s₁.setTop (fr m 0 [.val (.long p0), .second, .val (.long p1), .second, .val (.long p2), .second, .val (.int p3), .unset, .unset, .unset, .unset, .unset, .unset, .unset, .unset, .unset, .unset, .unset, .unset, .unset, .unset, .unset, .unset, .unset, .unset, .unset, .unset, .unset, .unset, .unset, .unset] [])) := by
  refine Go.iload B X0 at_0 (pc' := 2) rfl rfl ?_
  refine Go.iconst B X0 3 at_2 (pc' := 3) rfl rfl ?_
  refine Go.iand B X0 at_3 (pc' := 4) rfl ?_
  refine Go.istore B X0 at_4 (pc' := 6) rfl rfl rfl ?_
  dsimp only [put1]
  rw [hn]
  refine Go.iload B X0 at_6 (pc' := 8) rfl rfl ?_
  refine Go.iconst B X0 3 at_8 (pc' := 9) rfl rfl ?_
  refine Go.icT B X0 at_9 (by decide) (pc' := 15) rfl (by decide) ?_
  refine Go.lloadN B X0 at_15 (pc' := 16) rfl rfl ?_
  refine Go.bipush B X0 32 at_16 (pc' := 18) rfl rfl ?_
  refine Go.lshr B X0 at_18 (pc' := 19) rfl ?_
  refine Go.l2i B X0 at_19 (pc' := 20) rfl ?_
  refine Go.istore B X0 at_20 (pc' := 22) rfl rfl rfl ?_
  dsimp only [put1]
  refine Go.lloadN B X0 at_22 (pc' := 23) rfl rfl ?_
  refine Go.l2i B X0 at_23 (pc' := 24) rfl ?_
  refine Go.istore B X0 at_24 (pc' := 26) rfl rfl rfl ?_
  dsimp only [put1]
  generalize (p0 >>> ((32 : Int32) &&& 0x3f).toInt64).toInt32 = a0
  generalize p0.toInt32 = b0
  refine Go.lloadN B X0 at_26 (pc' := 27) rfl rfl ?_
  refine Go.bipush B X0 32 at_27 (pc' := 29) rfl rfl ?_
  refine Go.lshr B X0 at_29 (pc' := 30) rfl ?_
  refine Go.l2i B X0 at_30 (pc' := 31) rfl ?_
  refine Go.istore B X0 at_31 (pc' := 33) rfl rfl rfl ?_
  dsimp only [put1]
  refine Go.lloadN B X0 at_33 (pc' := 34) rfl rfl ?_
  refine Go.l2i B X0 at_34 (pc' := 35) rfl ?_
  refine Go.istore B X0 at_35 (pc' := 37) rfl rfl rfl ?_
  dsimp only [put1]
  generalize (p1 >>> ((32 : Int32) &&& 0x3f).toInt64).toInt32 = a1
  generalize p1.toInt32 = b1
  refine Go.lload B X0 at_37 (pc' := 39) rfl rfl ?_
  refine Go.bipush B X0 32 at_39 (pc' := 41) rfl rfl ?_
  refine Go.lshr B X0 at_41 (pc' := 42) rfl ?_
  refine Go.l2i B X0 at_42 (pc' := 43) rfl ?_
  refine Go.istore B X0 at_43 (pc' := 45) rfl rfl rfl ?_
  dsimp only [put1]
  refine Go.lload B X0 at_45 (pc' := 47) rfl rfl ?_
  refine Go.l2i B X0 at_47 (pc' := 48) rfl ?_
  refine Go.istore B X0 at_48 (pc' := 50) rfl rfl rfl ?_
  dsimp only [put1]
  generalize (p2 >>> ((32 : Int32) &&& 0x3f).toInt64).toInt32 = a2
  generalize p2.toInt32 = b2
  refine Go.iload B X0 at_50 (pc' := 52) rfl rfl ?_
  refine Go.newP B X0 e0 2 (tw hw 0 rfl) at_52 (pc' := 54) rfl rfl nb nb nb ?_
  intro Tp hp a gp Xp ep Ep Ap'
  have Ap : Av Z hp a .double [(.double 0), (.double 0)] := Ap'
  refine Go.astore B Xp at_54 (pc' := 56) rfl rfl rfl rfl ?_
  dsimp only [put1]
  refine Go.iload B Xp at_56 (pc' := 58) rfl rfl ?_
  refine Go.newP B Xp ep 2 (tw hw 0 rfl) at_58 (pc' := 60) rfl rfl nb nb nb ?_
  intro Tq hq b gq Xq eq Eq Aq'
  have Aq : Av Z hq b .double [(.double 0), (.double 0)] := Aq'
  have Aa := Ap.ext Eq
  have hab : a ≠ b := Nat.ne_of_lt (Nat.lt_of_lt_of_eq Ap.lt gq.symm)
  have za : n0 ≤ a := by rw [gp]; exact Z0
  have zb : n0 ≤ b := by rw [gq]; exact Nat.le_trans Z0 Ep.1
  have N := Fr.nil n0
  refine Go.astore B Xq at_60 (pc' := 62) rfl rfl rfl rfl ?_
  dsimp only [put1]
  refine Go.iload B Xq at_62 (pc' := 64) rfl rfl ?_
  refine Go.ifF B Xq at_64 (pc' := 67) rfl (by decide) ?_
  refine Go.aload B Xq at_67 (pc' := 69) rfl rfl rfl ?_
  refine Go.iconst B Xq 0 at_69 (pc' := 70) rfl rfl ?_
  refine Go.iload B Xq at_70 (pc' := 72) rfl rfl ?_
  refine Go.callS B Xq eq (Ct.back (W := 2) (ctV l Z a00 hw _ hq n0) B.hZ (tw hw 4 rfl) (tw hw 3 rfl) nb nb) (tw hw 1 rfl) (tw hw 2 rfl) (tw hw 3 rfl) (tw hw 4 rfl) (by decide) pdV at_72 (pc' := 75) rfl rfl (rest := [_, _]) rfl rfl nb nb nb ?_
  intro vc00 Tc00 Lc00 Xc00 Qc00
  obtain ⟨rfl, Nc00, ec00⟩ := Qc00
  dsimp only [Option.toList, List.nil_append, List.cons_append]
  refine Go.dastore B Xc00 ec00 Aa 0 at_75 (pc' := 76) rfl rfl nl ?_
  intro Ts00 hs00 Ls00 Fs00 Xs00 es00 Ws00 As00'
  have As00 : Av Z hs00 a .double [(.double (valS a0)), (.double 0)] := As00'
  have Bs00 := Aq.other Ws00 hab.symm
  have Ns00 := Fr.app (Fr.app N Nc00) (GoKit.Fr.low Fs00 za)
  refine Go.aload B Xs00 at_76 (pc' := 78) rfl rfl rfl ?_
  refine Go.iconst B Xs00 0 at_78 (pc' := 79) rfl rfl ?_
  refine Go.iload B Xs00 at_79 (pc' := 81) rfl rfl ?_
  refine Go.callS B Xs00 es00 (Ct.back (W := 2) (ctV l Z a00 hw _ hs00 n0) B.hZ (tw hw 4 rfl) (tw hw 3 rfl) nb nb) (tw hw 1 rfl) (tw hw 2 rfl) (tw hw 3 rfl) (tw hw 4 rfl) (by decide) pdV at_81 (pc' := 84) rfl rfl (rest := [_, _]) rfl rfl nb nb nb ?_
  intro vc01 Tc01 Lc01 Xc01 Qc01
  obtain ⟨rfl, Nc01, ec01⟩ := Qc01
  dsimp only [Option.toList, List.nil_append, List.cons_append]
  refine Go.dastore B Xc01 ec01 Bs00 0 at_84 (pc' := 85) rfl rfl nl ?_
  intro Ts01 hs01 Ls01 Fs01 Xs01 es01 Ws01 As01'
  have Bs01 : Av Z hs01 b .double [(.double (valS b0)), (.double 0)] := As01'
  have As01 := As00.other Ws01 hab
  have Ns01 := Fr.app (Fr.app Ns00 Nc01) (GoKit.Fr.low Fs01 zb)
  refine Go.iload B Xs01 at_85 (pc' := 87) rfl rfl ?_
  refine Go.iconst B Xs01 1 at_87 (pc' := 88) rfl rfl ?_
  refine Go.icF B Xs01 at_88 (pc' := 91) rfl (by decide) ?_
  refine Go.aload B Xs01 at_91 (pc' := 93) rfl rfl rfl ?_
  refine Go.iconst B Xs01 1 at_93 (pc' := 94) rfl rfl ?_
  refine Go.iload B Xs01 at_94 (pc' := 96) rfl rfl ?_
  refine Go.callS B Xs01 es01 (Ct.back (W := 2) (ctV l Z a00 hw _ hs01 n0) B.hZ (tw hw 4 rfl) (tw hw 3 rfl) nb nb) (tw hw 1 rfl) (tw hw 2 rfl) (tw hw 3 rfl) (tw hw 4 rfl) (by decide) pdV at_96 (pc' := 99) rfl rfl (rest := [_, _]) rfl rfl nb nb nb ?_
  intro vc10 Tc10 Lc10 Xc10 Qc10
  obtain ⟨rfl, Nc10, ec10⟩ := Qc10
  dsimp only [Option.toList, List.nil_append, List.cons_append]
  refine Go.dastore B Xc10 ec10 As01 1 at_99 (pc' := 100) rfl rfl nl ?_
  intro Ts10 hs10 Ls10 Fs10 Xs10 es10 Ws10 As10'
  have As10 : Av Z hs10 a .double [(.double (valS a0)), (.double (valS a1))] := As10'
  have Bs10 := Bs01.other Ws10 hab.symm
  have Ns10 := Fr.app (Fr.app Ns01 Nc10) (GoKit.Fr.low Fs10 za)
  refine Go.aload B Xs10 at_100 (pc' := 102) rfl rfl rfl ?_
  refine Go.iconst B Xs10 1 at_102 (pc' := 103) rfl rfl ?_
  refine Go.iload B Xs10 at_103 (pc' := 105) rfl rfl ?_
  refine Go.callS B Xs10 es10 (Ct.back (W := 2) (ctV l Z a00 hw _ hs10 n0) B.hZ (tw hw 4 rfl) (tw hw 3 rfl) nb nb) (tw hw 1 rfl) (tw hw 2 rfl) (tw hw 3 rfl) (tw hw 4 rfl) (by decide) pdV at_105 (pc' := 108) rfl rfl (rest := [_, _]) rfl rfl nb nb nb ?_
  intro vc11 Tc11 Lc11 Xc11 Qc11
  obtain ⟨rfl, Nc11, ec11⟩ := Qc11
  dsimp only [Option.toList, List.nil_append, List.cons_append]
  refine Go.dastore B Xc11 ec11 Bs10 1 at_108 (pc' := 109) rfl rfl nl ?_
  intro Ts11 hs11 Ls11 Fs11 Xs11 es11 Ws11 As11'
  have Bs11 : Av Z hs11 b .double [(.double (valS b0)), (.double (valS b1))] := As11'
  have As11 := As10.other Ws11 hab
  have Ns11 := Fr.app (Fr.app Ns10 Nc11) (GoKit.Fr.low Fs11 zb)
  refine Go.iload B Xs11 at_109 (pc' := 111) rfl rfl ?_
  refine Go.iconst B Xs11 2 at_111 (pc' := 112) rfl rfl ?_
  refine Go.icT B Xs11 at_112 (by decide) (pc' := 133) rfl (by decide) ?_
  exact seg_rank hw B Xs11 es11 Ns11 nb nb (fun T' locs' N' X' e' => tail2 hw B X' e' N' nb nb rfl As11 Bs11)
set_option maxRecDepth 65536 in
set_option maxHeartbeats 4000000 in
theorem tail3 {l : Launch} {Z : State} {a00 : Array Value} (hw : ∀ d ∈ tables_1, d.before a00 Z = true) {p0 p1 p2 : Int64} {p3 N a0 b0 a1 b1 a2 b2 : Int32} {a b : Addr} {h : Heap} {n0 : Nat}
    {p : Program} {e : Env} {s : State} {m : MethodId} {args : Array Value} {below : List Frame} {meth : Method} {c : Code} {T : State} {nm : String} {locs : List Loc} {cells slots : Nat} (B : Ctx p Z s m meth c x.cls nm code maxLocals ret) (X : Stand p l e room_1 s m args below meth c T locs cells slots) (eT : T.heap = h) (N0 : Fr n0 locs) (hce : cells ≤ 16) (hsl : slots ≤ 128) (hN : N = 3) (A1 : Av Z h a .double (([a0, a1, a2] : List Int32).map (fun c => Value.double (valS c)))) (A2 : Av Z h b .double (([b0, b1, b2] : List Int32).map (fun c => Value.double (valS c)))) :
    Go p e below (End s 16 128 (fun v h' L => v = some (.int 1) ∧ Fr n0 L)) (T.setTop (fr m 175 [.val (.long p0), .second, .val (.long p1), .second, .val (.long p2), .second, .val (.int p3), .val (.int N), .val (.int a0), .val (.int b0), .val (.int a1), .val (.int b1), .val (.int a2), .val (.int b2), .val (.ref a), .val (.ref b), .val (.long (rankS a0)), .second, .val (.long (rankS b0)), .second, .val (.long (rankS a1)), .second, .val (.long (rankS b1)), .second, .val (.long (rankS a2)), .second, .val (.long (rankS b2)), .second, .unset, .unset, .unset] [])) := by
  subst hN
  refine Go.iconst B X 0 at_175 (pc' := 176) rfl rfl ?_
  refine Go.istore B X at_176 (pc' := 178) rfl rfl rfl ?_
  dsimp only [put1]
  refine Go.iload B X at_178 (pc' := 180) rfl rfl ?_
  refine Go.ifF B X at_180 (pc' := 183) rfl (by decide) ?_
  refine Go.lload B X at_183 (pc' := 185) rfl rfl ?_
  refine Go.lload B X at_185 (pc' := 187) rfl rfl ?_
  refine Go.lcmp B X at_187 (pc' := 188) rfl ?_
  refine Go.ifc B X at_188 (by decide) (pcT := 209) rfl (pc' := 191) rfl (fun z0 => ?_) (fun z0 => ?_)
  · dsimp only [GoKit.CP] at z0
    refine Go.iload B X at_209 (pc' := 211) rfl rfl ?_
    refine Go.iconst B X 1 at_211 (pc' := 212) rfl rfl ?_
    refine Go.icF B X at_212 (pc' := 215) rfl (by decide) ?_
    refine Go.lload B X at_215 (pc' := 217) rfl rfl ?_
    refine Go.lload B X at_217 (pc' := 219) rfl rfl ?_
    refine Go.lcmp B X at_219 (pc' := 220) rfl ?_
    refine Go.ifc B X at_220 (by decide) (pcT := 241) rfl (pc' := 223) rfl (fun z1 => ?_) (fun z1 => ?_)
    · dsimp only [GoKit.CP] at z1
      refine Go.iload B X at_241 (pc' := 243) rfl rfl ?_
      refine Go.iconst B X 2 at_243 (pc' := 244) rfl rfl ?_
      refine Go.icF B X at_244 (pc' := 247) rfl (by decide) ?_
      refine Go.lload B X at_247 (pc' := 249) rfl rfl ?_
      refine Go.lload B X at_249 (pc' := 251) rfl rfl ?_
      refine Go.lcmp B X at_251 (pc' := 252) rfl ?_
      refine Go.ifc B X at_252 (by decide) (pcT := 270) rfl (pc' := 255) rfl (fun z2 => ?_) (fun z2 => ?_)
      · dsimp only [GoKit.CP] at z2
        have hr : cmpF [a0, a1, a2] [b0, b1, b2] = 0 := by
          simp only [cmpF]
          rw [own_c_eq z0]
          rw [own_c_eq z1]
          rw [own_c_eq z2]
        exact own_end hw B X eT N0 hce hsl [a0, a1, a2] [b0, b1, b2] A1 A2 ⟨rfl, nl⟩ hr (by decide)
      · dsimp only [GoKit.CN] at z2
        refine Go.lload B X at_255 (pc' := 257) rfl rfl ?_
        refine Go.lload B X at_257 (pc' := 259) rfl rfl ?_
        refine Go.lcmp B X at_259 (pc' := 260) rfl ?_
        refine Go.ifc B X at_260 (by decide) (pcT := 267) rfl (pc' := 263) rfl (fun y2 => ?_) (fun y2 => ?_)
        · dsimp only [GoKit.CP] at y2
          have hr : cmpF [a0, a1, a2] [b0, b1, b2] = 1 := by
            simp only [cmpF]
            rw [own_c_eq z0]
            rw [own_c_eq z1]
            rw [own_c_gt z2 y2]
          refine Go.iconst B X 1 at_267 (pc' := 268) rfl rfl ?_
          refine Go.istore B X at_268 (pc' := 270) rfl rfl rfl ?_
          dsimp only [put1]
          exact own_end hw B X eT N0 hce hsl [a0, a1, a2] [b0, b1, b2] A1 A2 ⟨rfl, nl⟩ hr (by decide)
        · dsimp only [GoKit.CN] at y2
          have hr : cmpF [a0, a1, a2] [b0, b1, b2] = -1 := by
            simp only [cmpF]
            rw [own_c_eq z0]
            rw [own_c_eq z1]
            rw [own_c_lt y2]
          refine Go.iconst B X (-1) at_263 (pc' := 264) rfl rfl ?_
          refine Go.goto B X at_264 (by decide) (pc' := 268) rfl ?_
          refine Go.istore B X at_268 (pc' := 270) rfl rfl rfl ?_
          dsimp only [put1]
          exact own_end hw B X eT N0 hce hsl [a0, a1, a2] [b0, b1, b2] A1 A2 ⟨rfl, nl⟩ hr (by decide)
    · dsimp only [GoKit.CN] at z1
      refine Go.lload B X at_223 (pc' := 225) rfl rfl ?_
      refine Go.lload B X at_225 (pc' := 227) rfl rfl ?_
      refine Go.lcmp B X at_227 (pc' := 228) rfl ?_
      refine Go.ifc B X at_228 (by decide) (pcT := 235) rfl (pc' := 231) rfl (fun y1 => ?_) (fun y1 => ?_)
      · dsimp only [GoKit.CP] at y1
        have hr : cmpF [a0, a1, a2] [b0, b1, b2] = 1 := by
          simp only [cmpF]
          rw [own_c_eq z0]
          rw [own_c_gt z1 y1]
        refine Go.iconst B X 1 at_235 (pc' := 236) rfl rfl ?_
        refine Go.istore B X at_236 (pc' := 238) rfl rfl rfl ?_
        dsimp only [put1]
        refine Go.goto B X at_238 (by decide) (pc' := 270) rfl ?_
        exact own_end hw B X eT N0 hce hsl [a0, a1, a2] [b0, b1, b2] A1 A2 ⟨rfl, nl⟩ hr (by decide)
      · dsimp only [GoKit.CN] at y1
        have hr : cmpF [a0, a1, a2] [b0, b1, b2] = -1 := by
          simp only [cmpF]
          rw [own_c_eq z0]
          rw [own_c_lt y1]
        refine Go.iconst B X (-1) at_231 (pc' := 232) rfl rfl ?_
        refine Go.goto B X at_232 (by decide) (pc' := 236) rfl ?_
        refine Go.istore B X at_236 (pc' := 238) rfl rfl rfl ?_
        dsimp only [put1]
        refine Go.goto B X at_238 (by decide) (pc' := 270) rfl ?_
        exact own_end hw B X eT N0 hce hsl [a0, a1, a2] [b0, b1, b2] A1 A2 ⟨rfl, nl⟩ hr (by decide)
  · dsimp only [GoKit.CN] at z0
    refine Go.lload B X at_191 (pc' := 193) rfl rfl ?_
    refine Go.lload B X at_193 (pc' := 195) rfl rfl ?_
    refine Go.lcmp B X at_195 (pc' := 196) rfl ?_
    refine Go.ifc B X at_196 (by decide) (pcT := 203) rfl (pc' := 199) rfl (fun y0 => ?_) (fun y0 => ?_)
    · dsimp only [GoKit.CP] at y0
      have hr : cmpF [a0, a1, a2] [b0, b1, b2] = 1 := by
        simp only [cmpF]
        rw [own_c_gt z0 y0]
      refine Go.iconst B X 1 at_203 (pc' := 204) rfl rfl ?_
      refine Go.istore B X at_204 (pc' := 206) rfl rfl rfl ?_
      dsimp only [put1]
      refine Go.goto B X at_206 (by decide) (pc' := 270) rfl ?_
      exact own_end hw B X eT N0 hce hsl [a0, a1, a2] [b0, b1, b2] A1 A2 ⟨rfl, nl⟩ hr (by decide)
    · dsimp only [GoKit.CN] at y0
      have hr : cmpF [a0, a1, a2] [b0, b1, b2] = -1 := by
        simp only [cmpF]
        rw [own_c_lt y0]
      refine Go.iconst B X (-1) at_199 (pc' := 200) rfl rfl ?_
      refine Go.goto B X at_200 (by decide) (pc' := 204) rfl ?_
      refine Go.istore B X at_204 (pc' := 206) rfl rfl rfl ?_
      dsimp only [put1]
      refine Go.goto B X at_206 (by decide) (pc' := 270) rfl ?_
      exact own_end hw B X eT N0 hce hsl [a0, a1, a2] [b0, b1, b2] A1 A2 ⟨rfl, nl⟩ hr (by decide)
set_option maxRecDepth 65536 in
set_option maxHeartbeats 40000000 in
theorem law3 {l : Launch} {Z : State} {a00 : Array Value} (hw : ∀ d ∈ tables_1, d.before a00 Z = true) (p0 p1 p2 : Int64) (p3 : Int32) (h : Heap) (n0 : Nat) (Z0 : n0 ≤ h.size) (hn : p3 &&& 3 = 3)
    {p : Program} {e : Env} {s : State} {m : MethodId} {args : Array Value} {below : List Frame} {meth : Method} {c : Code} {s₁ : State} {nm : String} (B : Ctx p Z s m meth c x.cls nm code maxLocals ret) (X0 : Stand p l e room_1 s m args below meth c s₁ [] 0 0) (e0 : s₁.heap = h) :
    Go p e below (End s 16 128 (fun v h' L => v = some (.int 1) ∧ Fr n0 L)) (s₁.setTop (fr m 0 [.val (.long p0), .second, .val (.long p1), .second, .val (.long p2), .second, .val (.int p3), .unset, .unset, .unset, .unset, .unset, .unset, .unset, .unset, .unset, .unset, .unset, .unset, .unset, .unset, .unset, .unset, .unset, .unset, .unset, .unset, .unset, .unset, .unset, .unset] [])) := by
  refine Go.iload B X0 at_0 (pc' := 2) rfl rfl ?_
  refine Go.iconst B X0 3 at_2 (pc' := 3) rfl rfl ?_
  refine Go.iand B X0 at_3 (pc' := 4) rfl ?_
  refine Go.istore B X0 at_4 (pc' := 6) rfl rfl rfl ?_
  dsimp only [put1]
  rw [hn]
  refine Go.iload B X0 at_6 (pc' := 8) rfl rfl ?_
  refine Go.iconst B X0 3 at_8 (pc' := 9) rfl rfl ?_
  refine Go.icF B X0 at_9 (pc' := 12) rfl rfl ?_
  refine Go.iconst B X0 3 at_12 (pc' := 13) rfl rfl ?_
  refine Go.istore B X0 at_13 (pc' := 15) rfl rfl rfl ?_
  dsimp only [put1]
  refine Go.lloadN B X0 at_15 (pc' := 16) rfl rfl ?_
  refine Go.bipush B X0 32 at_16 (pc' := 18) rfl rfl ?_
  refine Go.lshr B X0 at_18 (pc' := 19) rfl ?_
  refine Go.l2i B X0 at_19 (pc' := 20) rfl ?_
  refine Go.istore B X0 at_20 (pc' := 22) rfl rfl rfl ?_
  dsimp only [put1]
  refine Go.lloadN B X0 at_22 (pc' := 23) rfl rfl ?_
  refine Go.l2i B X0 at_23 (pc' := 24) rfl ?_
  refine Go.istore B X0 at_24 (pc' := 26) rfl rfl rfl ?_
  dsimp only [put1]
  generalize (p0 >>> ((32 : Int32) &&& 0x3f).toInt64).toInt32 = a0
  generalize p0.toInt32 = b0
  refine Go.lloadN B X0 at_26 (pc' := 27) rfl rfl ?_
  refine Go.bipush B X0 32 at_27 (pc' := 29) rfl rfl ?_
  refine Go.lshr B X0 at_29 (pc' := 30) rfl ?_
  refine Go.l2i B X0 at_30 (pc' := 31) rfl ?_
  refine Go.istore B X0 at_31 (pc' := 33) rfl rfl rfl ?_
  dsimp only [put1]
  refine Go.lloadN B X0 at_33 (pc' := 34) rfl rfl ?_
  refine Go.l2i B X0 at_34 (pc' := 35) rfl ?_
  refine Go.istore B X0 at_35 (pc' := 37) rfl rfl rfl ?_
  dsimp only [put1]
  generalize (p1 >>> ((32 : Int32) &&& 0x3f).toInt64).toInt32 = a1
  generalize p1.toInt32 = b1
  refine Go.lload B X0 at_37 (pc' := 39) rfl rfl ?_
  refine Go.bipush B X0 32 at_39 (pc' := 41) rfl rfl ?_
  refine Go.lshr B X0 at_41 (pc' := 42) rfl ?_
  refine Go.l2i B X0 at_42 (pc' := 43) rfl ?_
  refine Go.istore B X0 at_43 (pc' := 45) rfl rfl rfl ?_
  dsimp only [put1]
  refine Go.lload B X0 at_45 (pc' := 47) rfl rfl ?_
  refine Go.l2i B X0 at_47 (pc' := 48) rfl ?_
  refine Go.istore B X0 at_48 (pc' := 50) rfl rfl rfl ?_
  dsimp only [put1]
  generalize (p2 >>> ((32 : Int32) &&& 0x3f).toInt64).toInt32 = a2
  generalize p2.toInt32 = b2
  refine Go.iload B X0 at_50 (pc' := 52) rfl rfl ?_
  refine Go.newP B X0 e0 3 (tw hw 0 rfl) at_52 (pc' := 54) rfl rfl nb nb nb ?_
  intro Tp hp a gp Xp ep Ep Ap'
  have Ap : Av Z hp a .double [(.double 0), (.double 0), (.double 0)] := Ap'
  refine Go.astore B Xp at_54 (pc' := 56) rfl rfl rfl rfl ?_
  dsimp only [put1]
  refine Go.iload B Xp at_56 (pc' := 58) rfl rfl ?_
  refine Go.newP B Xp ep 3 (tw hw 0 rfl) at_58 (pc' := 60) rfl rfl nb nb nb ?_
  intro Tq hq b gq Xq eq Eq Aq'
  have Aq : Av Z hq b .double [(.double 0), (.double 0), (.double 0)] := Aq'
  have Aa := Ap.ext Eq
  have hab : a ≠ b := Nat.ne_of_lt (Nat.lt_of_lt_of_eq Ap.lt gq.symm)
  have za : n0 ≤ a := by rw [gp]; exact Z0
  have zb : n0 ≤ b := by rw [gq]; exact Nat.le_trans Z0 Ep.1
  have N := Fr.nil n0
  refine Go.astore B Xq at_60 (pc' := 62) rfl rfl rfl rfl ?_
  dsimp only [put1]
  refine Go.iload B Xq at_62 (pc' := 64) rfl rfl ?_
  refine Go.ifF B Xq at_64 (pc' := 67) rfl (by decide) ?_
  refine Go.aload B Xq at_67 (pc' := 69) rfl rfl rfl ?_
  refine Go.iconst B Xq 0 at_69 (pc' := 70) rfl rfl ?_
  refine Go.iload B Xq at_70 (pc' := 72) rfl rfl ?_
  refine Go.callS B Xq eq (Ct.back (W := 2) (ctV l Z a00 hw _ hq n0) B.hZ (tw hw 4 rfl) (tw hw 3 rfl) nb nb) (tw hw 1 rfl) (tw hw 2 rfl) (tw hw 3 rfl) (tw hw 4 rfl) (by decide) pdV at_72 (pc' := 75) rfl rfl (rest := [_, _]) rfl rfl nb nb nb ?_
  intro vc00 Tc00 Lc00 Xc00 Qc00
  obtain ⟨rfl, Nc00, ec00⟩ := Qc00
  dsimp only [Option.toList, List.nil_append, List.cons_append]
  refine Go.dastore B Xc00 ec00 Aa 0 at_75 (pc' := 76) rfl rfl nl ?_
  intro Ts00 hs00 Ls00 Fs00 Xs00 es00 Ws00 As00'
  have As00 : Av Z hs00 a .double [(.double (valS a0)), (.double 0), (.double 0)] := As00'
  have Bs00 := Aq.other Ws00 hab.symm
  have Ns00 := Fr.app (Fr.app N Nc00) (GoKit.Fr.low Fs00 za)
  refine Go.aload B Xs00 at_76 (pc' := 78) rfl rfl rfl ?_
  refine Go.iconst B Xs00 0 at_78 (pc' := 79) rfl rfl ?_
  refine Go.iload B Xs00 at_79 (pc' := 81) rfl rfl ?_
  refine Go.callS B Xs00 es00 (Ct.back (W := 2) (ctV l Z a00 hw _ hs00 n0) B.hZ (tw hw 4 rfl) (tw hw 3 rfl) nb nb) (tw hw 1 rfl) (tw hw 2 rfl) (tw hw 3 rfl) (tw hw 4 rfl) (by decide) pdV at_81 (pc' := 84) rfl rfl (rest := [_, _]) rfl rfl nb nb nb ?_
  intro vc01 Tc01 Lc01 Xc01 Qc01
  obtain ⟨rfl, Nc01, ec01⟩ := Qc01
  dsimp only [Option.toList, List.nil_append, List.cons_append]
  refine Go.dastore B Xc01 ec01 Bs00 0 at_84 (pc' := 85) rfl rfl nl ?_
  intro Ts01 hs01 Ls01 Fs01 Xs01 es01 Ws01 As01'
  have Bs01 : Av Z hs01 b .double [(.double (valS b0)), (.double 0), (.double 0)] := As01'
  have As01 := As00.other Ws01 hab
  have Ns01 := Fr.app (Fr.app Ns00 Nc01) (GoKit.Fr.low Fs01 zb)
  refine Go.iload B Xs01 at_85 (pc' := 87) rfl rfl ?_
  refine Go.iconst B Xs01 1 at_87 (pc' := 88) rfl rfl ?_
  refine Go.icF B Xs01 at_88 (pc' := 91) rfl (by decide) ?_
  refine Go.aload B Xs01 at_91 (pc' := 93) rfl rfl rfl ?_
  refine Go.iconst B Xs01 1 at_93 (pc' := 94) rfl rfl ?_
  refine Go.iload B Xs01 at_94 (pc' := 96) rfl rfl ?_
  refine Go.callS B Xs01 es01 (Ct.back (W := 2) (ctV l Z a00 hw _ hs01 n0) B.hZ (tw hw 4 rfl) (tw hw 3 rfl) nb nb) (tw hw 1 rfl) (tw hw 2 rfl) (tw hw 3 rfl) (tw hw 4 rfl) (by decide) pdV at_96 (pc' := 99) rfl rfl (rest := [_, _]) rfl rfl nb nb nb ?_
  intro vc10 Tc10 Lc10 Xc10 Qc10
  obtain ⟨rfl, Nc10, ec10⟩ := Qc10
  dsimp only [Option.toList, List.nil_append, List.cons_append]
  refine Go.dastore B Xc10 ec10 As01 1 at_99 (pc' := 100) rfl rfl nl ?_
  intro Ts10 hs10 Ls10 Fs10 Xs10 es10 Ws10 As10'
  have As10 : Av Z hs10 a .double [(.double (valS a0)), (.double (valS a1)), (.double 0)] := As10'
  have Bs10 := Bs01.other Ws10 hab.symm
  have Ns10 := Fr.app (Fr.app Ns01 Nc10) (GoKit.Fr.low Fs10 za)
  refine Go.aload B Xs10 at_100 (pc' := 102) rfl rfl rfl ?_
  refine Go.iconst B Xs10 1 at_102 (pc' := 103) rfl rfl ?_
  refine Go.iload B Xs10 at_103 (pc' := 105) rfl rfl ?_
  refine Go.callS B Xs10 es10 (Ct.back (W := 2) (ctV l Z a00 hw _ hs10 n0) B.hZ (tw hw 4 rfl) (tw hw 3 rfl) nb nb) (tw hw 1 rfl) (tw hw 2 rfl) (tw hw 3 rfl) (tw hw 4 rfl) (by decide) pdV at_105 (pc' := 108) rfl rfl (rest := [_, _]) rfl rfl nb nb nb ?_
  intro vc11 Tc11 Lc11 Xc11 Qc11
  obtain ⟨rfl, Nc11, ec11⟩ := Qc11
  dsimp only [Option.toList, List.nil_append, List.cons_append]
  refine Go.dastore B Xc11 ec11 Bs10 1 at_108 (pc' := 109) rfl rfl nl ?_
  intro Ts11 hs11 Ls11 Fs11 Xs11 es11 Ws11 As11'
  have Bs11 : Av Z hs11 b .double [(.double (valS b0)), (.double (valS b1)), (.double 0)] := As11'
  have As11 := As10.other Ws11 hab
  have Ns11 := Fr.app (Fr.app Ns10 Nc11) (GoKit.Fr.low Fs11 zb)
  refine Go.iload B Xs11 at_109 (pc' := 111) rfl rfl ?_
  refine Go.iconst B Xs11 2 at_111 (pc' := 112) rfl rfl ?_
  refine Go.icF B Xs11 at_112 (pc' := 115) rfl (by decide) ?_
  refine Go.aload B Xs11 at_115 (pc' := 117) rfl rfl rfl ?_
  refine Go.iconst B Xs11 2 at_117 (pc' := 118) rfl rfl ?_
  refine Go.iload B Xs11 at_118 (pc' := 120) rfl rfl ?_
  refine Go.callS B Xs11 es11 (Ct.back (W := 2) (ctV l Z a00 hw _ hs11 n0) B.hZ (tw hw 4 rfl) (tw hw 3 rfl) nb nb) (tw hw 1 rfl) (tw hw 2 rfl) (tw hw 3 rfl) (tw hw 4 rfl) (by decide) pdV at_120 (pc' := 123) rfl rfl (rest := [_, _]) rfl rfl nb nb nb ?_
  intro vc20 Tc20 Lc20 Xc20 Qc20
  obtain ⟨rfl, Nc20, ec20⟩ := Qc20
  dsimp only [Option.toList, List.nil_append, List.cons_append]
  refine Go.dastore B Xc20 ec20 As11 2 at_123 (pc' := 124) rfl rfl nl ?_
  intro Ts20 hs20 Ls20 Fs20 Xs20 es20 Ws20 As20'
  have As20 : Av Z hs20 a .double [(.double (valS a0)), (.double (valS a1)), (.double (valS a2))] := As20'
  have Bs20 := Bs11.other Ws20 hab.symm
  have Ns20 := Fr.app (Fr.app Ns11 Nc20) (GoKit.Fr.low Fs20 za)
  refine Go.aload B Xs20 at_124 (pc' := 126) rfl rfl rfl ?_
  refine Go.iconst B Xs20 2 at_126 (pc' := 127) rfl rfl ?_
  refine Go.iload B Xs20 at_127 (pc' := 129) rfl rfl ?_
  refine Go.callS B Xs20 es20 (Ct.back (W := 2) (ctV l Z a00 hw _ hs20 n0) B.hZ (tw hw 4 rfl) (tw hw 3 rfl) nb nb) (tw hw 1 rfl) (tw hw 2 rfl) (tw hw 3 rfl) (tw hw 4 rfl) (by decide) pdV at_129 (pc' := 132) rfl rfl (rest := [_, _]) rfl rfl nb nb nb ?_
  intro vc21 Tc21 Lc21 Xc21 Qc21
  obtain ⟨rfl, Nc21, ec21⟩ := Qc21
  dsimp only [Option.toList, List.nil_append, List.cons_append]
  refine Go.dastore B Xc21 ec21 Bs20 2 at_132 (pc' := 133) rfl rfl nl ?_
  intro Ts21 hs21 Ls21 Fs21 Xs21 es21 Ws21 As21'
  have Bs21 : Av Z hs21 b .double [(.double (valS b0)), (.double (valS b1)), (.double (valS b2))] := As21'
  have As21 := As20.other Ws21 hab
  have Ns21 := Fr.app (Fr.app Ns20 Nc21) (GoKit.Fr.low Fs21 zb)
  exact seg_rank hw B Xs21 es21 Ns21 nb nb (fun T' locs' N' X' e' => tail3 hw B X' e' N' nb nb rfl As21 Bs21)
theorem ctL (l : Launch) (Z : State) (a00 : Array Value) (hw : ∀ d ∈ tables_1, d.before a00 Z = true) (p0 p1 p2 : Int64) (p3 : Int32) (h : Heap) (n0 : Nat) (Z0 : n0 ≤ h.size) :
    Ct l Z x code maxLocals ret tables_1 room_1 16 128 [(.long p0), (.long p1), (.long p2), (.int p3)] h (fun v h' L => v = some (.int 1) ∧ Fr n0 L) := by
  refine Ct.mk (plainFor_of_name pnL) (fun m => efL m p0 p1 p2 p3) ?_
  intro p e s m below meth c s₁ B X0 e0
  rcases own_n p3 with q | q | q | q
  · exact law0 hw p0 p1 p2 p3 h n0 Z0 q B X0 e0
  · exact law1 hw p0 p1 p2 p3 h n0 Z0 q B X0 e0
  · exact law2 hw p0 p1 p2 p3 h n0 Z0 q B X0 e0
  · exact law3 hw p0 p1 p2 p3 h n0 Z0 q B X0 e0
set_option maxRecDepth 65536 in
set_option maxHeartbeats 40000000 in
theorem comes_1 {Post : Tables → Env → Array Value → State → Outcome → State → Prop} (hpost : ∀ tb e args s v u, (limb_1_1.after args s (.returned v) u = true ∧ limb_1_2.after args s (.returned v) u = true ∧ True) → FrameEnd s (.returned v) u (Jvm.fieldLocs frame_1_writes args s ++ Jvm.arrayLocs frame_1_arrays args s ++ Jvm.staticLocs frame_1_statics s) 16 128 → Post tb e args s (.returned v) u) :
    ArmFor flags0 classFile x code maxLocals ret World_1 tables_1 room_1 Calls_1 rest_1 Pre_1 Post := by
  intro l hfl _ _ p e ha hc hk s m args below hf hA hF happ hP
  obtain ⟨hcalls, hrest, hpre⟩ := hP
  obtain ⟨-, -, -, hnamed, -, -, -, hat⟩ := (Spec.applies_iff hf).mp happ
  obtain ⟨hg, hn⟩ := and_e (Cond.before_iff.mp (show (Jvm.Cond.and given_1 narrow_1).before args s = true from hpre))
  obtain ⟨g0, k0⟩ := and_e hg
  obtain ⟨g1, k1⟩ := and_e k0
  obtain ⟨g2, k2⟩ := and_e k1
  obtain ⟨g3, k3⟩ := and_e k2
  obtain ⟨w0, w1, w2, w3, rfl⟩ : ∃ w0 w1 w2 w3 : Value, args = #[w0, w1, w2, w3] := by
    have hs : args.size = 4 := by simpa [Cond.value, given_1] using g0
    obtain ⟨L⟩ := args
    match L, hs with
    | [w0, w1, w2, w3], _ => exact ⟨w0, w1, w2, w3, rfl⟩
  have hw := fun d (hd : d ∈ tables_1) => atoms_spec (ws := Jvm.Cond.code x code maxLocals ret :: tables_1) hat d (List.mem_cons_of_mem _ hd)
  have hfit : Fit s := fun {y c} hc i hi => by
    obtain ⟨ha, rfl⟩ := Array.getElem?_eq_some_iff.mp hc
    have q := List.all_eq_true.mp ((Array.all_eq_true_iff_forall_mem.mp hF) _ (Array.getElem_mem ha)) i (List.mem_range.mpr hi)
    simpa [Array.getElem?_eq_getElem hi] using q
  obtain ⟨i0, t0⟩ := isL_v g1
  obtain rfl : w0 = (.long i0) := Option.some.inj t0
  obtain ⟨i1, t1⟩ := isL_v g2
  obtain rfl : w1 = (.long i1) := Option.some.inj t1
  obtain ⟨i2, t2⟩ := isL_v g3
  obtain rfl : w2 = (.long i2) := Option.some.inj t2
  obtain ⟨i3, t3⟩ := is_v k3
  obtain rfl : w3 = (.int i3) := Option.some.inj t3
  obtain ⟨n, o, h1, h2, h3, _, L, rfl, ⟨rfl, N⟩, hq⟩ := ctL l s _ hw i0 i1 i2 i3 s.heap s.heap.size (Nat.le_refl _) p e ha hc hk s m _ below hf ((Spec.applies_iff_loose hf).mp happ).1 ⟨rfl, State.Warmed39.refl s, rfl⟩ trivial
  refine ⟨n, _, h1, h2, h3, hpost _ _ _ _ _ _ ⟨Cond.after_iff.mpr rfl, Cond.after_iff.mpr (eq_i res_at (Term.int_eval (1)) rfl), trivial⟩ ⟨hq.1, hq.2.1, (hq.2.2.sift fun y hy => Or.inr (N y hy)).mono (by decide) (by decide)⟩⟩
theorem main_1_1 : Claimed_1_1 := comes_1 fun _ _ _ _ _ _ h hF => ⟨h.1, hF⟩
theorem main_1_2 : Claimed_1_2 := comes_1 fun _ _ _ _ _ _ h hF => ⟨h.2.1, hF⟩
end Jvm.Pilot.@@N@@
namespace Jvm.Pilot.@@N@@
open Jvm Jvm.ClassFile Sem Op Lib Jvm.Free Jvm.Stand Jvm.Pilot.@@N@@.Jvm.D
/-! MADE BY PROGRAM (witnessworld.py) out of the Statement's table words and the real class files: 11 classes; the members and pool entries that the words name. The judged class is class 1, her method 3. -/
namespace start1
open Jvm.ClassFile
def u (s : String) : CpInfo := .utf8 (stringToUtf16 s)
/-- a pool by its gaps: so many unusable entries, then the entry; so many at the end -/
def gap : Nat → List CpInfo → List CpInfo
  | 0, r => r
  | n + 1, r => .unusable :: gap n r
def poolList (es : List (Nat × CpInfo)) (last : Nat) : List CpInfo := es.foldr (fun e r => gap e.1 (e.2 :: r)) (gap last [])
def pool (es : List (Nat × CpInfo)) (last : Nat) : Array CpInfo := ⟨poolList es last⟩
def fileOf (pool : Array CpInfo) (this : Nat) (attrs : Array Attribute := #[]) (ms : Array MethodInfo := #[]) (fl : Nat := 33) (sup : Nat := 0) (ifs : Array Nat := #[]) (fds : Array FieldInfo := #[]) : ClassFile where
  minorVersion := 0
  majorVersion := 65
  constantPool := pool
  accessFlags := fl
  thisClass := this
  superClass := sup
  interfaces := ifs
  fields := fds
  methods := ms
  attributes := attrs
def plain (name : String) (sup : Option ClassId) : Class where
  name := name
  kind := .ordinary
  loader := none
  accessFlags := 33
  super := sup
  interfaces := #[]
  cf := none
  fields := #[]
  methods := #[]
  instanceTypes := #[]
  staticTypes := #[]
  resolved := #[]
  callSites := []
  init := .initialized
  statics := none
  mirror := none

def pool0 : Array CpInfo := pool [(5, u "<init>"), (0, u "()V"), (1, .class_ 10), (1, u "java/lang/Object")] 113

def k0m0 : Method := { name := "<init>", desc := "()V", sig := { parameters := [], returnType := none }, accessFlags := 1, code := none }
/-- java/lang/Object -/
def k0 : Class := { plain "java/lang/Object" none with
  accessFlags := 33
  interfaces := #[]
  cf := some (fileOf pool0 8 #[] #[{ accessFlags := 1, nameIndex := 5, descriptorIndex := 6, attributes := #[] }] 33 0 #[] #[])
  fields := #[]
  methods := #[k0m0]
  instanceTypes := #[]
  staticTypes := #[]
  resolved := Array.replicate 124 none
  statics := none }

def pool1 : Array CpInfo := pool [(2, .class_ 4), (1, u "java/lang/Object"), (0, u "<init>"), (0, u "()V"), (2, .double 9218868437227405312), (1, .double 18442240474082181120), (1, .double 9223372036854775808), (3, .long 9223372036854775807), (1, .long 9223372036854775808), (1, .methodref 22 23), (0, .class_ 24), (0, .nameAndType 25 26), (0, u "frontsort/sort/PointsComparePinLaw"), (0, u "val"), (0, u "(I)D"), (0, .methodref 22 28), (0, .nameAndType 29 30), (0, u "rank"), (0, u "(I)J"), (0, .methodref 32 33), (0, .class_ 34), (0, .nameAndType 35 36), (0, u "frontsort/sort/Points"), (0, u "compare"), (0, u "([D[D)I"), (3, u "law"), (0, u "(JJJI)Z")] 4

def k1m0 : Method := { name := "<init>", desc := "()V", sig := { parameters := [], returnType := none }, accessFlags := 2, code := none }
def k1c1 : Code := { maxStack := 2, maxLocals := 2, code := method_2_code, exceptionTable := #[], attributes := #[] }
def k1m1 : Method := { name := "val", desc := "(I)D", sig := { parameters := [.int], returnType := some .double }, accessFlags := 10, code := some k1c1 }
def k1c2 : Code := { maxStack := 2, maxLocals := 2, code := method_3_code, exceptionTable := #[], attributes := #[] }
def k1m2 : Method := { name := "rank", desc := "(I)J", sig := { parameters := [.int], returnType := some .long }, accessFlags := 10, code := some k1c2 }
def k1c3 : Code := { maxStack := 4, maxLocals := 31, code := code, exceptionTable := #[], attributes := #[] }
def k1m3 : Method := { name := "law", desc := "(JJJI)Z", sig := { parameters := [.long, .long, .long, .int], returnType := some .boolean }, accessFlags := 9, code := some k1c3 }
/-- frontsort/sort/PointsComparePinLaw -/
def k1 : Class := { plain "frontsort/sort/PointsComparePinLaw" (some 0) with
  accessFlags := 49
  interfaces := #[]
  cf := some (fileOf pool1 22 #[] #[{ accessFlags := 2, nameIndex := 5, descriptorIndex := 6, attributes := #[] }, { accessFlags := 10, nameIndex := 25, descriptorIndex := 26, attributes := #[] }, { accessFlags := 10, nameIndex := 29, descriptorIndex := 30, attributes := #[] }, { accessFlags := 9, nameIndex := 40, descriptorIndex := 41, attributes := #[] }] 49 2 #[] #[])
  fields := #[]
  methods := #[k1m0, k1m1, k1m2, k1m3]
  instanceTypes := #[]
  staticTypes := #[]
  resolved := Array.replicate 46 none
  statics := none }

def pool2 : Array CpInfo := pool [(2, .class_ 4), (1, u "java/lang/Object"), (0, u "<init>"), (0, u "()V"), (3, .class_ 12), (1, u "frontsort/sort/Points"), (50, u "compare"), (26, .class_ 92), (1, u "frontsort/sort/Points$Dominance"), (20, u "([D[D)I")] 76

def k2m0 : Method := { name := "<init>", desc := "()V", sig := { parameters := [], returnType := none }, accessFlags := 2, code := none }
def k2c1 : Code := { maxStack := 4, maxLocals := 3, code := prog_42_method_6_code, exceptionTable := #[], attributes := #[] }
def k2m1 : Method := { name := "compare", desc := "([D[D)I", sig := { parameters := [(.array .double), (.array .double)], returnType := some .int }, accessFlags := 8, code := some k2c1 }
/-- frontsort/sort/Points -/
def k2 : Class := { plain "frontsort/sort/Points" (some 0) with
  accessFlags := 49
  interfaces := #[]
  cf := some (fileOf pool2 10 #[.nestMembers #[90]] #[{ accessFlags := 2, nameIndex := 5, descriptorIndex := 6, attributes := #[] }, { accessFlags := 8, nameIndex := 63, descriptorIndex := 113, attributes := #[] }] 49 2 #[] #[])
  fields := #[]
  methods := #[k2m0, k2m1]
  instanceTypes := #[]
  staticTypes := #[]
  resolved := Array.replicate 190 none
  statics := none }

def pool3 : Array CpInfo := pool [(1, u "java/lang/Cloneable"), (0, .class_ 1), (0, u "java/lang/Object"), (0, .class_ 3)] 3

/-- java/lang/Cloneable -/
def k3 : Class := { plain "java/lang/Cloneable" (some 0) with
  accessFlags := 1537
  interfaces := #[]
  cf := some (fileOf pool3 2 #[] #[] 1537 4 #[] #[])
  fields := #[]
  methods := #[]
  instanceTypes := #[]
  staticTypes := #[]
  resolved := Array.replicate 8 none
  statics := none }

def pool4 : Array CpInfo := pool [(1, u "java/io/Serializable"), (0, .class_ 1), (0, u "java/lang/Object"), (0, .class_ 3)] 3

/-- java/io/Serializable -/
def k4 : Class := { plain "java/io/Serializable" (some 0) with
  accessFlags := 1537
  interfaces := #[]
  cf := some (fileOf pool4 2 #[] #[] 1537 4 #[] #[])
  fields := #[]
  methods := #[]
  instanceTypes := #[]
  staticTypes := #[]
  resolved := Array.replicate 8 none
  statics := none }

/-- the primitive byte -/
def k5 : Class := { plain "byte" none with kind := .primitive 'B', accessFlags := 0x411 }
/-- [B -/
def k6 : Class := { plain "[B" (some 0) with kind := .array 5 .byte, interfaces := #[3, 4], accessFlags := 1041 }

/-- the primitive double -/
def k7 : Class := { plain "double" none with kind := .primitive 'D', accessFlags := 0x411 }
/-- [D -/
def k8 : Class := { plain "[D" (some 0) with kind := .array 7 .double, interfaces := #[3, 4], accessFlags := 1041 }

/-- the primitive int -/
def k9 : Class := { plain "int" none with kind := .primitive 'I', accessFlags := 0x411 }
/-- [I -/
def k10 : Class := { plain "[I" (some 0) with kind := .array 9 .int, interfaces := #[3, 4], accessFlags := 1041 }

def heap : Heap := #[]
def classes : Array Class := #[k0, k1, k2, k3, k4, k5, k6, k7, k8, k9, k10]
def interned : List (Array UInt16 × Addr) := []
def slotsUsed : Nat := 0
def theMethod : MethodId := ⟨1, 3⟩
def args0 : Array Value := #[.long 5, .long 7, .long 9, .int 2]
def aboutOver (below : List Frame) : State where
  vm := { classes := classes, interned := interned.toArray }
  heap := heap
  slotsUsed := slotsUsed
  threads := #[{ frames := .invoking theMethod args0 :: below }]
def below0 : List Frame := [.native { method := ⟨0, 0⟩, args := #[] }]
def about1 : State := aboutOver below0
def p0 : Program := .bare "" "" ""
def e0 : Env := launch0.env 0 0 0
theorem w_frames : about1.frames = Frame.invoking theMethod args0 :: below0 := rfl
set_option maxRecDepth 65536 in
theorem w_args : argsFit about1.vm theMethod args0 = true := by decide +kernel
set_option maxRecDepth 65536 in
theorem w_heap : heapFits about1 = true := by decide +kernel
set_option maxRecDepth 65536 in
theorem w_runnable : about1.curStatus? = some .runnable := by decide +kernel
set_option maxRecDepth 65536 in
theorem w_alone : about1.alone = true := by decide +kernel
set_option maxRecDepth 65536 in
theorem w_named : about1.methodNamed? x = some theMethod := by decide +kernel
set_option maxRecDepth 65536 in
theorem w_hears : about1.hears theMethod below0 = true := by decide +kernel
set_option maxRecDepth 65536 in
theorem w_ripe : about1.ripe theMethod args0 below0 = true := by decide +kernel
theorem w_running : about1.status = .running := rfl
set_option maxRecDepth 65536 in
theorem w_room : about1.hasRoom e0.platform room_1 = true :=
  launch0.hasRoom_least _ room_1 (by decide +kernel) (by decide +kernel) (by decide +kernel) (by decide +kernel) (by decide +kernel) (by decide +kernel)
theorem allAtoms_all (ts : List Jvm.Cond) (a : Array Jvm.Value) (st : Jvm.State) : (allAtoms ts).before a st = ts.all (fun c => c.before a st) := by
  induction ts with
  | nil => rfl
  | cons c t ih =>
    show (Jvm.Cond.and c (allAtoms t)).before a st = _
    rw [Jvm.Cond.before_and, ih, List.all_cons]
def words1 : List Jvm.Cond := Jvm.Cond.code x code maxLocals ret :: tables_1
/-- a 'code' word, met by the world's own term for the bytes: nothing is compared byte by byte -/
theorem code_word {y : MethodName} {bytes : ByteArray} {mx : Nat} {rt : Option FieldType} {a : Array Value} {s : State} {m : MethodId} {meth : Method} {c : Code} (h1 : s.methodNamed? y = some m) (h2 : s.vm.method? m = some meth) (h3 : meth.code = some c) (h4 : c.code = bytes)
    (h5 : (c.maxLocals == mx && c.exceptionTable.isEmpty && decide (c.maxStack ≤ mostOperands) && decide (meth.sig.returnType = rt) && !meth.locks && decide (parseMethodDescriptor y.desc = some meth.sig)) = true) : (Jvm.Cond.code y bytes mx rt).before a s = true := by
  simp only [Bool.and_eq_true, beq_iff_eq, Bool.not_eq_true', decide_eq_true_eq] at h5
  obtain ⟨⟨⟨⟨⟨g1, g2⟩, g3⟩, g4⟩, g5⟩, g6⟩ := h5
  simp [Cond.before, Cond.holds, Cond.value, h1, h2, h3, h4, g1, g2, g3, g4, g5, g6]
def isCode : Jvm.Cond → Bool
  | .code _ _ _ _ => true
  | _ => false
theorem all_split {L : List Jvm.Cond} {P : Jvm.Cond → Bool} (h1 : L.all (fun c => isCode c || P c) = true) (h2 : ∀ c ∈ L.filter isCode, P c = true) : L.all P = true := by
  refine List.all_eq_true.mpr fun c hc => ?_
  have h := List.all_eq_true.mp h1 c hc
  rcases Bool.eq_false_or_eq_true (isCode c) with hi | hi
  · exact h2 c (List.mem_filter.mpr ⟨hc, hi⟩)
  · simpa [hi] using h
set_option maxRecDepth 65536 in
theorem w_c0 : (Jvm.Cond.code x code maxLocals ret).before args0 about1 = true := code_word (m := ⟨1, 3⟩) (meth := k1m3) (c := k1c3) (by decide +kernel) rfl rfl rfl (by decide +kernel)
set_option maxRecDepth 65536 in
theorem w_c1 : (Jvm.Cond.code ({ cls := "frontsort/sort/PointsComparePinLaw", name := "val", desc := "(I)D" } : Jvm.MethodName) method_2_code (2 : Nat) (Option.some Jvm.ClassFile.FieldType.double)).before args0 about1 = true := code_word (m := ⟨1, 1⟩) (meth := k1m1) (c := k1c1) (by decide +kernel) rfl rfl rfl (by decide +kernel)
set_option maxRecDepth 65536 in
theorem w_c2 : (Jvm.Cond.code ({ cls := "frontsort/sort/PointsComparePinLaw", name := "rank", desc := "(I)J" } : Jvm.MethodName) method_3_code (2 : Nat) (Option.some Jvm.ClassFile.FieldType.long)).before args0 about1 = true := code_word (m := ⟨1, 2⟩) (meth := k1m2) (c := k1c2) (by decide +kernel) rfl rfl rfl (by decide +kernel)
set_option maxRecDepth 65536 in
theorem w_c3 : (Jvm.Cond.code ({ cls := "frontsort/sort/Points", name := "compare", desc := "([D[D)I" } : Jvm.MethodName) prog_42_method_6_code (3 : Nat) (Option.some Jvm.ClassFile.FieldType.int)).before args0 about1 = true := code_word (m := ⟨2, 1⟩) (meth := k2m1) (c := k2c1) (by decide +kernel) rfl rfl rfl (by decide +kernel)
def codes1 : List Jvm.Cond := [Jvm.Cond.code x code maxLocals ret, Jvm.Cond.code ({ cls := "frontsort/sort/PointsComparePinLaw", name := "val", desc := "(I)D" } : Jvm.MethodName) method_2_code (2 : Nat) (Option.some Jvm.ClassFile.FieldType.double), Jvm.Cond.code ({ cls := "frontsort/sort/PointsComparePinLaw", name := "rank", desc := "(I)J" } : Jvm.MethodName) method_3_code (2 : Nat) (Option.some Jvm.ClassFile.FieldType.long), Jvm.Cond.code ({ cls := "frontsort/sort/Points", name := "compare", desc := "([D[D)I" } : Jvm.MethodName) prog_42_method_6_code (3 : Nat) (Option.some Jvm.ClassFile.FieldType.int)]
set_option maxRecDepth 65536 in
theorem codes_eq : words1.filter isCode = codes1 := rfl
theorem w_codes : ∀ c ∈ words1.filter isCode, c.before args0 about1 = true := by
  rw [codes_eq]
  intro c hc
  simp only [codes1, List.mem_cons, List.not_mem_nil, or_false] at hc
  rcases hc with rfl | rfl | rfl | rfl
  · exact w_c0
  · exact w_c1
  · exact w_c2
  · exact w_c3
set_option maxRecDepth 65536 in
theorem w_t1 : words1.all (fun c => isCode c || c.before args0 about1) = true := by decide +kernel
theorem w_tables : (allAtoms (Jvm.Cond.code x code maxLocals ret :: tables_1)).before args0 about1 = true := by
  rw [allAtoms_all]
  show words1.all (fun c => c.before args0 about1) = true
  refine all_split ?_ w_codes
  rw [w_t1]
set_option maxRecDepth 65536 in
theorem w_case : (Jvm.Cond.and given_1 narrow_1).before args0 about1 = true := by decide +kernel
theorem w_applies : (headSpec (Jvm.Cond.code x code maxLocals ret :: tables_1) room_1).applies x e0.platform about1 = true :=
  (Spec.applies_iff w_frames).mpr ⟨w_running, w_runnable, w_alone, w_named, w_hears, w_ripe, w_room, w_tables⟩
theorem atStart : AtStart classFile x code maxLocals ret World_1 tables_1 room_1 Calls_1 rest_1 Pre_1 launch0 p0 e0 about1 theMethod args0 below0 :=
  ⟨lists_1, trivial, launch0.admits_env _ _ _, launch0.least_env, fairChoices_fair.cas, fairChoices_fair.clock, w_frames, w_args, w_heap, w_applies, trivial, trivial, w_case⟩
end start1
theorem witness_1 : WitnessClaimed_1 := ⟨start1.p0, start1.e0, start1.about1, start1.theMethod, start1.args0, start1.below0, start1.atStart⟩
end Jvm.Pilot.@@N@@
