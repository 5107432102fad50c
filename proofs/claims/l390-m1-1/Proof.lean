import JvmDerived
import JvmDerived.Pilot.@@N@@Statement
import JvmDerived.Pilot.@@N@@Code
set_option linter.unusedVariables false
set_option linter.unusedSimpArgs false
namespace Jvm.GoKit
open Sem ClassFile Op Lib Jvm.Stand Jvm.Free Jvm.LawKit Jvm.RoadKit
/- own layer: goal-directed steps -/
abbrev fr (m : MethodId) (pc : Nat) (L : List Slot) (st : List Value) : JFrame := mkF m pc ⟨L⟩ st
def Go (p : Program) (e : Env) (below : List Frame) (Q : Outcome → State → Prop) (t : State) : Prop :=
  ∃ s₂ o, Steps p.tables e below t s₂ ∧ s₂.status = .running ∧ Ended s₂ below o ∧ Q o s₂
def lk : List Slot → Nat → Option Slot
  | [], _ => none
  | a :: _, 0 => some a
  | _ :: t, n + 1 => lk t n
def put1 : List Slot → Nat → Slot → List Slot
  | [], _, _ => []
  | _ :: t, 0, v => v :: t
  | a :: t, n + 1, v => a :: put1 t n v
def one : Slot → Bool
  | .unset => true
  | .val (.int _) => true
  | .val (.float _) => true
  | .val (.ref _) => true
  | .val .null => true
  | _ => false
def two : Slot → Bool
  | .val (.long _) => true
  | .val (.double _) => true
  | _ => false
theorem lk_eq : ∀ (L : List Slot) (k : Nat), lk L k = L[k]?
  | [], _ => by simp [lk]
  | a :: _, 0 => by simp [lk]
  | _ :: t, n + 1 => by simp [lk, lk_eq t n]
theorem put1_eq : ∀ (L : List Slot) (k : Nat) (v : Slot), put1 L k v = L.set k v
  | [], _, _ => by simp [put1]
  | _ :: t, 0, v => by simp [put1]
  | a :: t, n + 1, v => by simp [put1, put1_eq t n v]
theorem lk_arr {L : List Slot} {k : Nat} {o : Slot} (h : lk L k = some o) : (Array.mk L)[k]? = some o := by rw [lk_eq] at h; simpa using h
theorem one_or {o : Slot} (h : one o = true) : o = .unset ∨ ∃ w, o = .val w ∧ w.category = 1 := by
  cases o with
  | unset => exact Or.inl rfl
  | second => simp [one] at h
  | val w => cases w <;> first | exact Or.inr ⟨_, rfl, rfl⟩ | (simp [one] at h; done)
theorem st1 {L : List Slot} {k : Nat} {o : Slot} {v : Value} (hl : lk L k = some o) (ho : one o = true) (hv : v.category = 1) : storeLocals ⟨L⟩ k v = some ⟨put1 L k (.val v)⟩ := by
  rw [XS.store1 (lk_arr hl) (one_or ho) hv, put1_eq]
  simp
theorem st2 {L : List Slot} {k : Nat} {o o' : Slot} {v : Value} (hl : lk L k = some o) (hl' : lk L (k + 1) = some o') (ho : (one o || two o) = true) (ho' : two o' = false) (hv : v.category = 2) :
    storeLocals ⟨L⟩ k v = some ⟨put1 (put1 L k (.val v)) (k + 1) .second⟩ := by
  rw [put1_eq, put1_eq]
  rw [lk_eq] at hl hl'
  obtain ⟨hi, e1⟩ := List.getElem?_eq_some_iff.mp hl
  obtain ⟨hi', e2⟩ := List.getElem?_eq_some_iff.mp hl'
  have a1 : (Array.mk L)[k]? = some o := by simpa using hl
  have key : ∀ L1 : List Slot, L1.length = L.length → (∃ w, L1[k + 1]? = some w ∧ two w = false) → (L1.set k (.val v)).set (k + 1) .second = (L.set k (.val v)).set (k + 1) .second → storeSelf ⟨L1⟩ k v = some ⟨(L.set k (.val v)).set (k + 1) .second⟩ := by
    intro L1 hlen hw heq
    obtain ⟨w, hw1, hw2⟩ := hw
    have b1 : ((Array.mk L1).setIfInBounds k (.val v))[k + 1]? = some w := by
      simp [List.getElem?_set, hw1]
    unfold storeSelf
    simp only [setAt, hv, if_true]
    rw [if_pos (by simpa [hlen] using hi)]
    simp only [Option.bind_eq_bind, Option.bind_some, b1]
    have fin : (if k + 1 < ((Array.mk L1).setIfInBounds k (.val v)).size then some (((Array.mk L1).setIfInBounds k (.val v)).setIfInBounds (k + 1) Slot.second) else none) = some ⟨(L.set k (.val v)).set (k + 1) .second⟩ := by
      rw [if_pos (by simpa [hlen] using hi')]
      simpa using heq
    cases w with
    | unset => exact fin
    | second => exact fin
    | val w => cases w <;> first | exact fin | (simp [two] at hw2; done)
  unfold storeLocals
  simp only [a1, Option.bind_eq_bind, Option.bind_some]
  have plain := key L rfl ⟨o', hl', ho'⟩ rfl
  cases o with
  | unset => exact plain
  | second => simp [one, two] at ho
  | val w =>
    cases w with
    | long z => 
      simp only [Value.category, if_true, setAt]
      rw [if_pos (by simpa using hi')]
      simp only [Option.bind_some]
      have := key (L.set (k + 1) .unset) (by simp) ⟨.unset, by simp [hi'], rfl⟩ (by
        apply List.ext_getElem?
        intro i
        simp only [List.getElem?_set, List.length_set]
        repeat' split
        all_goals first | rfl | omega | simp_all)
      simpa using this
    | double z =>
      simp only [Value.category, if_true, setAt]
      rw [if_pos (by simpa using hi')]
      simp only [Option.bind_some]
      have := key (L.set (k + 1) .unset) (by simp) ⟨.unset, by simp [hi'], rfl⟩ (by
        apply List.ext_getElem?
        intro i
        simp only [List.getElem?_set, List.length_set]
        repeat' split
        all_goals first | rfl | omega | simp_all)
      simpa using this
    | _ => first | exact plain | (simp [one, two] at ho; done)
theorem nl {a b : Nat} (h : Nat.ble (a + 1) b = true := by rfl) : a < b := Nat.le_of_ble_eq_true h
theorem Fr.low {k k' : Nat} {L : List Loc} (N : Fr k L) (q : k' ≤ k) : Fr k' L := fun y hy => Nat.le_trans q (N y hy)
theorem nb {a b : Nat} (h : Nat.ble a b = true := by rfl) : a ≤ b := Nat.le_of_ble_eq_true h
def CP : ClassFile.Cond → Int32 → Int32 → Prop
  | .eq, x, y => x = y
  | .ne, x, y => ¬ x = y
  | .lt, x, y => x < y
  | .ge, x, y => ¬ x < y
  | .gt, x, y => y < x
  | .le, x, y => ¬ y < x
def CN : ClassFile.Cond → Int32 → Int32 → Prop
  | .eq, x, y => ¬ x = y
  | .ne, x, y => x = y
  | .lt, x, y => ¬ x < y
  | .ge, x, y => x < y
  | .gt, x, y => ¬ y < x
  | .le, x, y => y < x
instance (cd : ClassFile.Cond) (x y : Int32) : Decidable (CP cd x y) := match cd with
  | .eq => inferInstanceAs (Decidable (x = y))
  | .ne => inferInstanceAs (Decidable (¬ x = y))
  | .lt => inferInstanceAs (Decidable (x < y))
  | .ge => inferInstanceAs (Decidable (¬ x < y))
  | .gt => inferInstanceAs (Decidable (y < x))
  | .le => inferInstanceAs (Decidable (¬ y < x))
instance (cd : ClassFile.Cond) (x y : Int32) : Decidable (CN cd x y) := match cd with
  | .eq => inferInstanceAs (Decidable (¬ x = y))
  | .ne => inferInstanceAs (Decidable (x = y))
  | .lt => inferInstanceAs (Decidable (¬ x < y))
  | .ge => inferInstanceAs (Decidable (x < y))
  | .gt => inferInstanceAs (Decidable (¬ y < x))
  | .le => inferInstanceAs (Decidable (y < x))
theorem CP.holds {cd : ClassFile.Cond} {x y : Int32} (h : CP cd x y) : if_icmp.holds cd x y = true := by
  cases cd
  · exact (teq h).1
  · exact (feq h).2
  · exact (tlt h).1
  · exact (flt h).2.1
  · exact (tlt h).2.2.1
  · exact (flt h).2.2.2
theorem CN.holds {cd : ClassFile.Cond} {x y : Int32} (h : CN cd x y) : if_icmp.holds cd x y = false := by
  cases cd
  · exact (feq h).1
  · exact (teq h).2
  · exact (flt h).1
  · exact (tlt h).2.1
  · exact (flt h).2.2.1
  · exact (tlt h).2.2.2
theorem cp_or (cd : ClassFile.Cond) (x y : Int32) : CP cd x y ∨ CN cd x y := by
  cases cd
  · exact Classical.em _
  · exact (Classical.em (x = y)).symm
  · exact Classical.em _
  · exact (Classical.em (x < y)).symm
  · exact Classical.em _
  · exact (Classical.em (y < x)).symm
/-- what a body's walk knows besides where it stands -/
def Ctx (p : Program) (Z : State) (s : State) (m : MethodId) (meth : Method) (c : Code) (own nm : String) (bytes : ByteArray) (maxL : Nat) (ret : Option FieldType) : Prop :=
  p.tables.exec = Jvm.exec ∧ c.code = bytes ∧ c.maxLocals = maxL ∧ s.vm.findClass own = some m.cls ∧ meth.name = nm ∧ Z.Warmed39 s.vm ∧ meth.sig.returnType = ret ∧ meth.locks = false
/-- the end that a contract asks -/
def End (s : State) (C S : Nat) (Q : Option Value → Heap → List Loc → Prop) (o : Outcome) (U' : State) : Prop := ∃ v L, o = .returned v ∧ Q v U'.heap L ∧ FrameEnd s o U' L C S
section
variable {p : Program} {l : Launch} {e : Env} {R : Room} {s : State} {m : MethodId} {args : Array Value} {below : List Frame} {meth : Method} {c : Code} {T : State} {locs : List Loc} {cells slots : Nat}
  {Z : State} {own nm : String} {bytes : ByteArray} {maxL : Nat} {ret : Option FieldType} {Q : Outcome → State → Prop} {pc pc' pcT : Nat} {L : List Slot} {st : List Value} {a0 : Array Value} {h : Heap}
theorem Ctx.hx (B : Ctx p Z s m meth c own nm bytes maxL ret) : p.tables.exec = Jvm.exec := B.1
theorem Ctx.by' (B : Ctx p Z s m meth c own nm bytes maxL ret) : c.code = bytes := B.2.1
theorem Ctx.ml (B : Ctx p Z s m meth c own nm bytes maxL ret) : c.maxLocals = maxL := B.2.2.1
theorem Ctx.cl (B : Ctx p Z s m meth c own nm bytes maxL ret) : s.vm.findClass own = some m.cls := B.2.2.2.1
theorem Ctx.na (B : Ctx p Z s m meth c own nm bytes maxL ret) : meth.name = nm := B.2.2.2.2.1
theorem Ctx.hZ (B : Ctx p Z s m meth c own nm bytes maxL ret) : Z.Warmed39 s.vm := B.2.2.2.2.2.1
theorem Ctx.re (B : Ctx p Z s m meth c own nm bytes maxL ret) : meth.sig.returnType = ret := B.2.2.2.2.2.2.1
theorem Ctx.lk (B : Ctx p Z s m meth c own nm bytes maxL ret) : meth.locks = false := B.2.2.2.2.2.2.2
theorem Go.of {t t' : State} (h : ∀ u, Steps p.tables e below t' u → Steps p.tables e below t u) (k : Go p e below Q t') : Go p e below Q t := by
  obtain ⟨s₂, o, h1, h2⟩ := k
  exact ⟨s₂, o, h _ h1, h2⟩
theorem Go.come {t t' : State} (h : Steps p.tables e below t t') (k : Go p e below Q t') : Go p e below Q t := Go.of (fun _ q => h.trans q) k

theorem Go.iloadN (B : Ctx p Z s m meth c own nm bytes maxL ret) (X : Stand p l e R s m args below meth c T locs cells slots) {k : Fin 4} {v : Int32} (hd : decode bytes pc = .ok (.iload_n k, 1)) (hp : pc + 1 = pc') (hl : lk L k.val = some (.val (.int v)))
    (k : Go p e below Q (T.setTop (fr m pc' L (.int v :: st)))) : Go p e below Q (T.setTop (fr m pc L (st))) := by
  subst hp
  exact Go.of (fun _ q => XS.iloadN X.here B.hx rfl (hb B.by' hd) (lk_arr hl) q) k
theorem Go.iload (B : Ctx p Z s m meth c own nm bytes maxL ret) (X : Stand p l e R s m args below meth c T locs cells slots) {k : Nat} {v : Int32} (hd : decode bytes pc = .ok (.iload k, 2)) (hp : pc + 2 = pc') (hl : lk L k = some (.val (.int v)))
    (k : Go p e below Q (T.setTop (fr m pc' L (.int v :: st)))) : Go p e below Q (T.setTop (fr m pc L (st))) := by
  subst hp
  exact Go.of (fun _ q => XS.iload X.here B.hx rfl (hb B.by' hd) (lk_arr hl) q) k
theorem Go.lloadN (B : Ctx p Z s m meth c own nm bytes maxL ret) (X : Stand p l e R s m args below meth c T locs cells slots) {k : Fin 4} {v : Int64} (hd : decode bytes pc = .ok (.lload_n k, 1)) (hp : pc + 1 = pc') (hl : lk L k.val = some (.val (.long v)))
    (k : Go p e below Q (T.setTop (fr m pc' L (.long v :: st)))) : Go p e below Q (T.setTop (fr m pc L (st))) := by
  subst hp
  exact Go.of (fun _ q => XS.lloadN X.here B.hx rfl (hb B.by' hd) (lk_arr hl) q) k
theorem Go.lload (B : Ctx p Z s m meth c own nm bytes maxL ret) (X : Stand p l e R s m args below meth c T locs cells slots) {k : Nat} {v : Int64} (hd : decode bytes pc = .ok (.lload k, 2)) (hp : pc + 2 = pc') (hl : lk L k = some (.val (.long v)))
    (k : Go p e below Q (T.setTop (fr m pc' L (.long v :: st)))) : Go p e below Q (T.setTop (fr m pc L (st))) := by
  subst hp
  exact Go.of (fun _ q => XS.lload X.here B.hx rfl (hb B.by' hd) (lk_arr hl) q) k
theorem Go.dloadN (B : Ctx p Z s m meth c own nm bytes maxL ret) (X : Stand p l e R s m args below meth c T locs cells slots) {k : Fin 4} {v : UInt64} (hd : decode bytes pc = .ok (.dload_n k, 1)) (hp : pc + 1 = pc') (hl : lk L k.val = some (.val (.double v)))
    (k : Go p e below Q (T.setTop (fr m pc' L (.double v :: st)))) : Go p e below Q (T.setTop (fr m pc L (st))) := by
  subst hp
  exact Go.of (fun _ q => XS.dloadN X.here B.hx rfl (hb B.by' hd) (lk_arr hl) q) k
theorem Go.dload (B : Ctx p Z s m meth c own nm bytes maxL ret) (X : Stand p l e R s m args below meth c T locs cells slots) {k : Nat} {v : UInt64} (hd : decode bytes pc = .ok (.dload k, 2)) (hp : pc + 2 = pc') (hl : lk L k = some (.val (.double v)))
    (k : Go p e below Q (T.setTop (fr m pc' L (.double v :: st)))) : Go p e below Q (T.setTop (fr m pc L (st))) := by
  subst hp
  exact Go.of (fun _ q => XS.dload X.here B.hx rfl (hb B.by' hd) (lk_arr hl) q) k
theorem Go.aloadN (B : Ctx p Z s m meth c own nm bytes maxL ret) (X : Stand p l e R s m args below meth c T locs cells slots) {k : Fin 4} {v : Value} (hd : decode bytes pc = .ok (.aload_n k, 1)) (hp : pc + 1 = pc') (hl : lk L k.val = some (.val v)) (hv : v.isRef = true)
    (k : Go p e below Q (T.setTop (fr m pc' L (v :: st)))) : Go p e below Q (T.setTop (fr m pc L (st))) := by
  subst hp
  exact Go.of (fun _ q => XS.aloadN X.here B.hx rfl (hb B.by' hd) (lk_arr hl) hv q) k
theorem Go.aload (B : Ctx p Z s m meth c own nm bytes maxL ret) (X : Stand p l e R s m args below meth c T locs cells slots) {k : Nat} {v : Value} (hd : decode bytes pc = .ok (.aload k, 2)) (hp : pc + 2 = pc') (hl : lk L k = some (.val v)) (hv : v.isRef = true)
    (k : Go p e below Q (T.setTop (fr m pc' L (v :: st)))) : Go p e below Q (T.setTop (fr m pc L (st))) := by
  subst hp
  exact Go.of (fun _ q => XS.aload X.here B.hx rfl (hb B.by' hd) (lk_arr hl) hv q) k
theorem Go.istoreN (B : Ctx p Z s m meth c own nm bytes maxL ret) (X : Stand p l e R s m args below meth c T locs cells slots) {k : Fin 4} {x : Int32} {o : Slot} (hd : decode bytes pc = .ok (.istore_n k, 1)) (hp : pc + 1 = pc') (hl : lk L k.val = some o) (ho : one o = true)
    (k : Go p e below Q (T.setTop (fr m pc' (put1 L k.val (.val (.int x))) (st)))) : Go p e below Q (T.setTop (fr m pc L (.int x :: st))) := by
  subst hp
  exact Go.of (fun _ q => XS.istoreN X.here B.hx rfl (hb B.by' hd) rfl (st1 hl ho rfl) q) k
theorem Go.istore (B : Ctx p Z s m meth c own nm bytes maxL ret) (X : Stand p l e R s m args below meth c T locs cells slots) {k : Nat} {x : Int32} {o : Slot} (hd : decode bytes pc = .ok (.istore k, 2)) (hp : pc + 2 = pc') (hl : lk L k = some o) (ho : one o = true)
    (k : Go p e below Q (T.setTop (fr m pc' (put1 L k (.val (.int x))) (st)))) : Go p e below Q (T.setTop (fr m pc L (.int x :: st))) := by
  subst hp
  exact Go.of (fun _ q => XS.istore X.here B.hx rfl (hb B.by' hd) rfl (st1 hl ho rfl) q) k
theorem Go.astoreN (B : Ctx p Z s m meth c own nm bytes maxL ret) (X : Stand p l e R s m args below meth c T locs cells slots) {k : Fin 4} {x : Value} {o : Slot} (hd : decode bytes pc = .ok (.astore_n k, 1)) (hp : pc + 1 = pc') (hl : lk L k.val = some o) (ho : one o = true) (hv : x.isRef = true)
    (k : Go p e below Q (T.setTop (fr m pc' (put1 L k.val (.val x)) (st)))) : Go p e below Q (T.setTop (fr m pc L (x :: st))) := by
  subst hp
  exact Go.of (fun _ q => XS.astoreN X.here B.hx rfl (hb B.by' hd) rfl hv (st1 hl ho (XT.cat1 hv)) q) k
theorem Go.astore (B : Ctx p Z s m meth c own nm bytes maxL ret) (X : Stand p l e R s m args below meth c T locs cells slots) {k : Nat} {x : Value} {o : Slot} (hd : decode bytes pc = .ok (.astore k, 2)) (hp : pc + 2 = pc') (hl : lk L k = some o) (ho : one o = true) (hv : x.isRef = true)
    (k : Go p e below Q (T.setTop (fr m pc' (put1 L k (.val x)) (st)))) : Go p e below Q (T.setTop (fr m pc L (x :: st))) := by
  subst hp
  exact Go.of (fun _ q => XS.astore X.here B.hx rfl (hb B.by' hd) rfl hv (st1 hl ho (XT.cat1 hv)) q) k
theorem Go.lstoreN (B : Ctx p Z s m meth c own nm bytes maxL ret) (X : Stand p l e R s m args below meth c T locs cells slots) {k : Fin 4} {x : Int64} {o o' : Slot} (hd : decode bytes pc = .ok (.lstore_n k, 1)) (hp : pc + 1 = pc') (hl : lk L k.val = some o) (hl' : lk L (k.val + 1) = some o') (ho : (one o || two o) = true) (ho' : two o' = false)
    (k : Go p e below Q (T.setTop (fr m pc' (put1 (put1 L k.val (.val (.long x))) (k.val + 1) .second) (st)))) : Go p e below Q (T.setTop (fr m pc L (.long x :: st))) := by
  subst hp
  exact Go.of (fun _ q => XS.lstoreN X.here B.hx rfl (hb B.by' hd) rfl (st2 hl hl' ho ho' rfl) q) k
theorem Go.lstore (B : Ctx p Z s m meth c own nm bytes maxL ret) (X : Stand p l e R s m args below meth c T locs cells slots) {k : Nat} {x : Int64} {o o' : Slot} (hd : decode bytes pc = .ok (.lstore k, 2)) (hp : pc + 2 = pc') (hl : lk L k = some o) (hl' : lk L (k + 1) = some o') (ho : (one o || two o) = true) (ho' : two o' = false)
    (k : Go p e below Q (T.setTop (fr m pc' (put1 (put1 L k (.val (.long x))) (k + 1) .second) (st)))) : Go p e below Q (T.setTop (fr m pc L (.long x :: st))) := by
  subst hp
  exact Go.of (fun _ q => XS.lstore X.here B.hx rfl (hb B.by' hd) rfl (st2 hl hl' ho ho' rfl) q) k
theorem Go.dstoreN (B : Ctx p Z s m meth c own nm bytes maxL ret) (X : Stand p l e R s m args below meth c T locs cells slots) {k : Fin 4} {x : UInt64} {o o' : Slot} (hd : decode bytes pc = .ok (.dstore_n k, 1)) (hp : pc + 1 = pc') (hl : lk L k.val = some o) (hl' : lk L (k.val + 1) = some o') (ho : (one o || two o) = true) (ho' : two o' = false)
    (k : Go p e below Q (T.setTop (fr m pc' (put1 (put1 L k.val (.val (.double x))) (k.val + 1) .second) (st)))) : Go p e below Q (T.setTop (fr m pc L (.double x :: st))) := by
  subst hp
  exact Go.of (fun _ q => XS.dstoreN X.here B.hx rfl (hb B.by' hd) rfl (st2 hl hl' ho ho' rfl) q) k
theorem Go.dstore (B : Ctx p Z s m meth c own nm bytes maxL ret) (X : Stand p l e R s m args below meth c T locs cells slots) {k : Nat} {x : UInt64} {o o' : Slot} (hd : decode bytes pc = .ok (.dstore k, 2)) (hp : pc + 2 = pc') (hl : lk L k = some o) (hl' : lk L (k + 1) = some o') (ho : (one o || two o) = true) (ho' : two o' = false)
    (k : Go p e below Q (T.setTop (fr m pc' (put1 (put1 L k (.val (.double x))) (k + 1) .second) (st)))) : Go p e below Q (T.setTop (fr m pc L (.double x :: st))) := by
  subst hp
  exact Go.of (fun _ q => XS.dstore X.here B.hx rfl (hb B.by' hd) rfl (st2 hl hl' ho ho' rfl) q) k
theorem Go.iconst (B : Ctx p Z s m meth c own nm bytes maxL ret) (X : Stand p l e R s m args below meth c T locs cells slots) {i : Int} (v : Int32) (hd : decode bytes pc = .ok (.iconst i, 1)) (hp : pc + 1 = pc') (hv : Int32.ofInt i = v)
    (k : Go p e below Q (T.setTop (fr m pc' L (.int v :: st)))) : Go p e below Q (T.setTop (fr m pc L (st))) := by
  subst hp
  exact Go.of (fun _ q => XS.iconst X.here B.hx rfl (hb B.by' hd) (hv ▸ q)) k
theorem Go.bipush (B : Ctx p Z s m meth c own nm bytes maxL ret) (X : Stand p l e R s m args below meth c T locs cells slots) {i : Int} (v : Int32) (hd : decode bytes pc = .ok (.bipush i, 2)) (hp : pc + 2 = pc') (hv : (Int8.ofInt i).toInt32 = v)
    (k : Go p e below Q (T.setTop (fr m pc' L (.int v :: st)))) : Go p e below Q (T.setTop (fr m pc L (st))) := by
  subst hp
  exact Go.of (fun _ q => XS.bipush X.here B.hx rfl (hb B.by' hd) (hv ▸ q)) k
theorem Go.sipush (B : Ctx p Z s m meth c own nm bytes maxL ret) (X : Stand p l e R s m args below meth c T locs cells slots) {i : Int} (v : Int32) (hd : decode bytes pc = .ok (.sipush i, 3)) (hp : pc + 3 = pc') (hv : (Int16.ofInt i).toInt32 = v)
    (k : Go p e below Q (T.setTop (fr m pc' L (.int v :: st)))) : Go p e below Q (T.setTop (fr m pc L (st))) := by
  subst hp
  exact Go.of (fun _ q => XS.sipush X.here B.hx rfl (hb B.by' hd) (hv ▸ q)) k
theorem Go.lconst (B : Ctx p Z s m meth c own nm bytes maxL ret) (X : Stand p l e R s m args below meth c T locs cells slots) {i : Fin 2} (v : Int64) (hd : decode bytes pc = .ok (.lconst i, 1)) (hp : pc + 1 = pc') (hv : Int64.ofNat i = v)
    (k : Go p e below Q (T.setTop (fr m pc' L (.long v :: st)))) : Go p e below Q (T.setTop (fr m pc L (st))) := by
  subst hp
  exact Go.of (fun _ q => XS.lconst X.here B.hx rfl (hb B.by' hd) (hv ▸ q)) k
theorem Go.aconstNull (B : Ctx p Z s m meth c own nm bytes maxL ret) (X : Stand p l e R s m args below meth c T locs cells slots)  (hd : decode bytes pc = .ok (.aconst_null, 1)) (hp : pc + 1 = pc') 
    (k : Go p e below Q (T.setTop (fr m pc' L (.null :: st)))) : Go p e below Q (T.setTop (fr m pc L (st))) := by
  subst hp
  exact Go.of (fun _ q => XS.aconstNull X.here B.hx rfl (hb B.by' hd) q) k
theorem Go.iadd (B : Ctx p Z s m meth c own nm bytes maxL ret) (X : Stand p l e R s m args below meth c T locs cells slots) {x y : Int32} (hd : decode bytes pc = .ok (.iadd, 1)) (hp : pc + 1 = pc') 
    (k : Go p e below Q (T.setTop (fr m pc' L (.int (x + y) :: st)))) : Go p e below Q (T.setTop (fr m pc L (.int y :: .int x :: st))) := by
  subst hp
  exact Go.of (fun _ q => XS.iadd X.here B.hx rfl (hb B.by' hd) rfl q) k
theorem Go.isub (B : Ctx p Z s m meth c own nm bytes maxL ret) (X : Stand p l e R s m args below meth c T locs cells slots) {x y : Int32} (hd : decode bytes pc = .ok (.isub, 1)) (hp : pc + 1 = pc') 
    (k : Go p e below Q (T.setTop (fr m pc' L (.int (x - y) :: st)))) : Go p e below Q (T.setTop (fr m pc L (.int y :: .int x :: st))) := by
  subst hp
  exact Go.of (fun _ q => XS.isub X.here B.hx rfl (hb B.by' hd) rfl q) k
theorem Go.imul (B : Ctx p Z s m meth c own nm bytes maxL ret) (X : Stand p l e R s m args below meth c T locs cells slots) {x y : Int32} (hd : decode bytes pc = .ok (.imul, 1)) (hp : pc + 1 = pc') 
    (k : Go p e below Q (T.setTop (fr m pc' L (.int (x * y) :: st)))) : Go p e below Q (T.setTop (fr m pc L (.int y :: .int x :: st))) := by
  subst hp
  exact Go.of (fun _ q => XS.imul X.here B.hx rfl (hb B.by' hd) rfl q) k
theorem Go.iand (B : Ctx p Z s m meth c own nm bytes maxL ret) (X : Stand p l e R s m args below meth c T locs cells slots) {x y : Int32} (hd : decode bytes pc = .ok (.iand, 1)) (hp : pc + 1 = pc') 
    (k : Go p e below Q (T.setTop (fr m pc' L (.int (x &&& y) :: st)))) : Go p e below Q (T.setTop (fr m pc L (.int y :: .int x :: st))) := by
  subst hp
  exact Go.of (fun _ q => XS.iand X.here B.hx rfl (hb B.by' hd) rfl q) k
theorem Go.ior (B : Ctx p Z s m meth c own nm bytes maxL ret) (X : Stand p l e R s m args below meth c T locs cells slots) {x y : Int32} (hd : decode bytes pc = .ok (.ior, 1)) (hp : pc + 1 = pc') 
    (k : Go p e below Q (T.setTop (fr m pc' L (.int (x ||| y) :: st)))) : Go p e below Q (T.setTop (fr m pc L (.int y :: .int x :: st))) := by
  subst hp
  exact Go.of (fun _ q => XS.ior X.here B.hx rfl (hb B.by' hd) rfl q) k
theorem Go.ixor (B : Ctx p Z s m meth c own nm bytes maxL ret) (X : Stand p l e R s m args below meth c T locs cells slots) {x y : Int32} (hd : decode bytes pc = .ok (.ixor, 1)) (hp : pc + 1 = pc') 
    (k : Go p e below Q (T.setTop (fr m pc' L (.int (x ^^^ y) :: st)))) : Go p e below Q (T.setTop (fr m pc L (.int y :: .int x :: st))) := by
  subst hp
  exact Go.of (fun _ q => XS.ixor X.here B.hx rfl (hb B.by' hd) rfl q) k
theorem Go.ishl (B : Ctx p Z s m meth c own nm bytes maxL ret) (X : Stand p l e R s m args below meth c T locs cells slots) {x y : Int32} (hd : decode bytes pc = .ok (.ishl, 1)) (hp : pc + 1 = pc') 
    (k : Go p e below Q (T.setTop (fr m pc' L (.int (x <<< (y &&& 31)) :: st)))) : Go p e below Q (T.setTop (fr m pc L (.int y :: .int x :: st))) := by
  subst hp
  exact Go.of (fun _ q => XS.ishl X.here B.hx rfl (hb B.by' hd) rfl q) k
theorem Go.ishr (B : Ctx p Z s m meth c own nm bytes maxL ret) (X : Stand p l e R s m args below meth c T locs cells slots) {x y : Int32} (hd : decode bytes pc = .ok (.ishr, 1)) (hp : pc + 1 = pc') 
    (k : Go p e below Q (T.setTop (fr m pc' L (.int (x >>> (y &&& 31)) :: st)))) : Go p e below Q (T.setTop (fr m pc L (.int y :: .int x :: st))) := by
  subst hp
  exact Go.of (fun _ q => XS.ishr X.here B.hx rfl (hb B.by' hd) rfl q) k
theorem Go.iushr (B : Ctx p Z s m meth c own nm bytes maxL ret) (X : Stand p l e R s m args below meth c T locs cells slots) {x y : Int32} (hd : decode bytes pc = .ok (.iushr, 1)) (hp : pc + 1 = pc') 
    (k : Go p e below Q (T.setTop (fr m pc' L (.int ((x.toUInt32 >>> (y &&& 31).toUInt32).toInt32) :: st)))) : Go p e below Q (T.setTop (fr m pc L (.int y :: .int x :: st))) := by
  subst hp
  exact Go.of (fun _ q => XS.iushr X.here B.hx rfl (hb B.by' hd) rfl q) k
theorem Go.idiv (B : Ctx p Z s m meth c own nm bytes maxL ret) (X : Stand p l e R s m args below meth c T locs cells slots) {x y : Int32} (hd : decode bytes pc = .ok (.idiv, 1)) (hp : pc + 1 = pc') (hy : y ≠ 0)
    (k : Go p e below Q (T.setTop (fr m pc' L (.int (x / y) :: st)))) : Go p e below Q (T.setTop (fr m pc L (.int y :: .int x :: st))) := by
  subst hp
  exact Go.of (fun _ q => XS.idiv X.here B.hx rfl (hb B.by' hd) rfl hy q) k
theorem Go.irem (B : Ctx p Z s m meth c own nm bytes maxL ret) (X : Stand p l e R s m args below meth c T locs cells slots) {x y : Int32} (hd : decode bytes pc = .ok (.irem, 1)) (hp : pc + 1 = pc') (hy : y ≠ 0)
    (k : Go p e below Q (T.setTop (fr m pc' L (.int (x % y) :: st)))) : Go p e below Q (T.setTop (fr m pc L (.int y :: .int x :: st))) := by
  subst hp
  exact Go.of (fun _ q => iremM X B.hx rfl (hb B.by' hd) rfl hy q) k
theorem Go.ineg (B : Ctx p Z s m meth c own nm bytes maxL ret) (X : Stand p l e R s m args below meth c T locs cells slots) {x : Int32} (hd : decode bytes pc = .ok (.ineg, 1)) (hp : pc + 1 = pc') 
    (k : Go p e below Q (T.setTop (fr m pc' L (.int (-x) :: st)))) : Go p e below Q (T.setTop (fr m pc L (.int x :: st))) := by
  subst hp
  exact Go.of (fun _ q => XS.ineg X.here B.hx rfl (hb B.by' hd) rfl q) k
theorem Go.ladd (B : Ctx p Z s m meth c own nm bytes maxL ret) (X : Stand p l e R s m args below meth c T locs cells slots) {x y : Int64} (hd : decode bytes pc = .ok (.ladd, 1)) (hp : pc + 1 = pc') 
    (k : Go p e below Q (T.setTop (fr m pc' L (.long (x + y) :: st)))) : Go p e below Q (T.setTop (fr m pc L (.long y :: .long x :: st))) := by
  subst hp
  exact Go.of (fun _ q => XS.ladd X.here B.hx rfl (hb B.by' hd) rfl q) k
theorem Go.lsub (B : Ctx p Z s m meth c own nm bytes maxL ret) (X : Stand p l e R s m args below meth c T locs cells slots) {x y : Int64} (hd : decode bytes pc = .ok (.lsub, 1)) (hp : pc + 1 = pc') 
    (k : Go p e below Q (T.setTop (fr m pc' L (.long (x - y) :: st)))) : Go p e below Q (T.setTop (fr m pc L (.long y :: .long x :: st))) := by
  subst hp
  exact Go.of (fun _ q => XS.lsub X.here B.hx rfl (hb B.by' hd) rfl q) k
theorem Go.lmul (B : Ctx p Z s m meth c own nm bytes maxL ret) (X : Stand p l e R s m args below meth c T locs cells slots) {x y : Int64} (hd : decode bytes pc = .ok (.lmul, 1)) (hp : pc + 1 = pc') 
    (k : Go p e below Q (T.setTop (fr m pc' L (.long (x * y) :: st)))) : Go p e below Q (T.setTop (fr m pc L (.long y :: .long x :: st))) := by
  subst hp
  exact Go.of (fun _ q => XS.lmul X.here B.hx rfl (hb B.by' hd) rfl q) k
theorem Go.land (B : Ctx p Z s m meth c own nm bytes maxL ret) (X : Stand p l e R s m args below meth c T locs cells slots) {x y : Int64} (hd : decode bytes pc = .ok (.land, 1)) (hp : pc + 1 = pc') 
    (k : Go p e below Q (T.setTop (fr m pc' L (.long (x &&& y) :: st)))) : Go p e below Q (T.setTop (fr m pc L (.long y :: .long x :: st))) := by
  subst hp
  exact Go.of (fun _ q => XS.land X.here B.hx rfl (hb B.by' hd) rfl q) k
theorem Go.lor (B : Ctx p Z s m meth c own nm bytes maxL ret) (X : Stand p l e R s m args below meth c T locs cells slots) {x y : Int64} (hd : decode bytes pc = .ok (.lor, 1)) (hp : pc + 1 = pc') 
    (k : Go p e below Q (T.setTop (fr m pc' L (.long (x ||| y) :: st)))) : Go p e below Q (T.setTop (fr m pc L (.long y :: .long x :: st))) := by
  subst hp
  exact Go.of (fun _ q => XS.lor X.here B.hx rfl (hb B.by' hd) rfl q) k
theorem Go.lxor (B : Ctx p Z s m meth c own nm bytes maxL ret) (X : Stand p l e R s m args below meth c T locs cells slots) {x y : Int64} (hd : decode bytes pc = .ok (.lxor, 1)) (hp : pc + 1 = pc') 
    (k : Go p e below Q (T.setTop (fr m pc' L (.long (x ^^^ y) :: st)))) : Go p e below Q (T.setTop (fr m pc L (.long y :: .long x :: st))) := by
  subst hp
  exact Go.of (fun _ q => XS.lxor X.here B.hx rfl (hb B.by' hd) rfl q) k
theorem Go.lshl (B : Ctx p Z s m meth c own nm bytes maxL ret) (X : Stand p l e R s m args below meth c T locs cells slots) {x : Int64} {y : Int32} (hd : decode bytes pc = .ok (.lshl, 1)) (hp : pc + 1 = pc') 
    (k : Go p e below Q (T.setTop (fr m pc' L (.long (x <<< (y &&& 0x3f).toInt64) :: st)))) : Go p e below Q (T.setTop (fr m pc L (.int y :: .long x :: st))) := by
  subst hp
  exact Go.of (fun _ q => XS.lshl X.here B.hx rfl (hb B.by' hd) rfl q) k
theorem Go.lshr (B : Ctx p Z s m meth c own nm bytes maxL ret) (X : Stand p l e R s m args below meth c T locs cells slots) {x : Int64} {y : Int32} (hd : decode bytes pc = .ok (.lshr, 1)) (hp : pc + 1 = pc') 
    (k : Go p e below Q (T.setTop (fr m pc' L (.long (x >>> (y &&& 0x3f).toInt64) :: st)))) : Go p e below Q (T.setTop (fr m pc L (.int y :: .long x :: st))) := by
  subst hp
  exact Go.of (fun _ q => XS.lshr X.here B.hx rfl (hb B.by' hd) rfl q) k
theorem Go.lushr (B : Ctx p Z s m meth c own nm bytes maxL ret) (X : Stand p l e R s m args below meth c T locs cells slots) {x : Int64} {y : Int32} (hd : decode bytes pc = .ok (.lushr, 1)) (hp : pc + 1 = pc') 
    (k : Go p e below Q (T.setTop (fr m pc' L (.long ((x.toUInt64 >>> (y &&& 0x3f).toInt64.toUInt64).toInt64) :: st)))) : Go p e below Q (T.setTop (fr m pc L (.int y :: .long x :: st))) := by
  subst hp
  exact Go.of (fun _ q => XS.lushr X.here B.hx rfl (hb B.by' hd) rfl q) k
theorem Go.ldiv (B : Ctx p Z s m meth c own nm bytes maxL ret) (X : Stand p l e R s m args below meth c T locs cells slots) {x y : Int64} (hd : decode bytes pc = .ok (.ldiv, 1)) (hp : pc + 1 = pc') (hy : y ≠ 0)
    (k : Go p e below Q (T.setTop (fr m pc' L (.long (x / y) :: st)))) : Go p e below Q (T.setTop (fr m pc L (.long y :: .long x :: st))) := by
  subst hp
  exact Go.of (fun _ q => XS.ldiv X.here B.hx rfl (hb B.by' hd) rfl hy q) k
theorem Go.lrem (B : Ctx p Z s m meth c own nm bytes maxL ret) (X : Stand p l e R s m args below meth c T locs cells slots) {x y : Int64} (hd : decode bytes pc = .ok (.lrem, 1)) (hp : pc + 1 = pc') (hy : y ≠ 0)
    (k : Go p e below Q (T.setTop (fr m pc' L (.long (x % y) :: st)))) : Go p e below Q (T.setTop (fr m pc L (.long y :: .long x :: st))) := by
  subst hp
  exact Go.of (fun _ q => XS.lrem X.here B.hx rfl (hb B.by' hd) rfl hy (by rw [lrem_mod]; exact q)) k
theorem Go.lneg (B : Ctx p Z s m meth c own nm bytes maxL ret) (X : Stand p l e R s m args below meth c T locs cells slots) {x : Int64} (hd : decode bytes pc = .ok (.lneg, 1)) (hp : pc + 1 = pc') 
    (k : Go p e below Q (T.setTop (fr m pc' L (.long (-x) :: st)))) : Go p e below Q (T.setTop (fr m pc L (.long x :: st))) := by
  subst hp
  exact Go.of (fun _ q => XS.lneg X.here B.hx rfl (hb B.by' hd) rfl q) k
theorem Go.i2l (B : Ctx p Z s m meth c own nm bytes maxL ret) (X : Stand p l e R s m args below meth c T locs cells slots) {x : Int32} (hd : decode bytes pc = .ok (.i2l, 1)) (hp : pc + 1 = pc') 
    (k : Go p e below Q (T.setTop (fr m pc' L (.long x.toInt64 :: st)))) : Go p e below Q (T.setTop (fr m pc L (.int x :: st))) := by
  subst hp
  exact Go.of (fun _ q => XS.i2l X.here B.hx rfl (hb B.by' hd) rfl q) k
theorem Go.l2i (B : Ctx p Z s m meth c own nm bytes maxL ret) (X : Stand p l e R s m args below meth c T locs cells slots) {x : Int64} (hd : decode bytes pc = .ok (.l2i, 1)) (hp : pc + 1 = pc') 
    (k : Go p e below Q (T.setTop (fr m pc' L (.int x.toInt32 :: st)))) : Go p e below Q (T.setTop (fr m pc L (.long x :: st))) := by
  subst hp
  exact Go.of (fun _ q => XS.l2i X.here B.hx rfl (hb B.by' hd) rfl q) k
theorem Go.i2b (B : Ctx p Z s m meth c own nm bytes maxL ret) (X : Stand p l e R s m args below meth c T locs cells slots) {x : Int32} (hd : decode bytes pc = .ok (.i2b, 1)) (hp : pc + 1 = pc') 
    (k : Go p e below Q (T.setTop (fr m pc' L (.int x.toInt8.toInt32 :: st)))) : Go p e below Q (T.setTop (fr m pc L (.int x :: st))) := by
  subst hp
  exact Go.of (fun _ q => XS.i2b X.here B.hx rfl (hb B.by' hd) rfl q) k
theorem Go.i2c (B : Ctx p Z s m meth c own nm bytes maxL ret) (X : Stand p l e R s m args below meth c T locs cells slots) {x : Int32} (hd : decode bytes pc = .ok (.i2c, 1)) (hp : pc + 1 = pc') 
    (k : Go p e below Q (T.setTop (fr m pc' L (.int x.toUInt32.toUInt16.toUInt32.toInt32 :: st)))) : Go p e below Q (T.setTop (fr m pc L (.int x :: st))) := by
  subst hp
  exact Go.of (fun _ q => XS.i2c X.here B.hx rfl (hb B.by' hd) rfl q) k
theorem Go.i2s (B : Ctx p Z s m meth c own nm bytes maxL ret) (X : Stand p l e R s m args below meth c T locs cells slots) {x : Int32} (hd : decode bytes pc = .ok (.i2s, 1)) (hp : pc + 1 = pc') 
    (k : Go p e below Q (T.setTop (fr m pc' L (.int x.toInt16.toInt32 :: st)))) : Go p e below Q (T.setTop (fr m pc L (.int x :: st))) := by
  subst hp
  exact Go.of (fun _ q => XS.i2s X.here B.hx rfl (hb B.by' hd) rfl q) k
theorem Go.lcmp (B : Ctx p Z s m meth c own nm bytes maxL ret) (X : Stand p l e R s m args below meth c T locs cells slots) {x y : Int64} (hd : decode bytes pc = .ok (.lcmp, 1)) (hp : pc + 1 = pc') 
    (k : Go p e below Q (T.setTop (fr m pc' L (.int (lcmpW x y) :: st)))) : Go p e below Q (T.setTop (fr m pc L (.long y :: .long x :: st))) := by
  subst hp
  exact Go.of (fun _ q => XS.lcmp X.here B.hx rfl (hb B.by' hd) rfl q) k
theorem Go.iinc (B : Ctx p Z s m meth c own nm bytes maxL ret) (X : Stand p l e R s m args below meth c T locs cells slots) {k : Nat} {i : Int} {x : Int32} (v : Int32) (hd : decode bytes pc = .ok (.iinc k i, 3)) (hp : pc + 3 = pc') (hl : lk L k = some (.val (.int x))) (hv : Int32.ofInt i = v)
    (k : Go p e below Q (T.setTop (fr m pc' (put1 L k (.val (.int (x + v)))) (st)))) : Go p e below Q (T.setTop (fr m pc L (st))) := by
  subst hp
  exact Go.of (fun _ q => XS.iinc X.here B.hx rfl (hb B.by' hd) (lk_arr hl) (hv ▸ st1 hl rfl rfl) q) k
theorem Go.dup (B : Ctx p Z s m meth c own nm bytes maxL ret) (X : Stand p l e R s m args below meth c T locs cells slots) {x : Value} (hd : decode bytes pc = .ok (.dup, 1)) (hp : pc + 1 = pc') (hv : x.category = 1)
    (k : Go p e below Q (T.setTop (fr m pc' L (x :: x :: st)))) : Go p e below Q (T.setTop (fr m pc L (x :: st))) := by
  subst hp
  exact Go.of (fun _ q => XS.dup X.here B.hx rfl (hb B.by' hd) rfl hv q) k
theorem Go.pop (B : Ctx p Z s m meth c own nm bytes maxL ret) (X : Stand p l e R s m args below meth c T locs cells slots) {x : Value} (hd : decode bytes pc = .ok (.pop, 1)) (hp : pc + 1 = pc') (hv : x.category = 1)
    (k : Go p e below Q (T.setTop (fr m pc' L (st)))) : Go p e below Q (T.setTop (fr m pc L (x :: st))) := by
  subst hp
  exact Go.of (fun _ q => XS.pop X.here B.hx rfl (hb B.by' hd) rfl hv q) k
theorem Go.dupX1 (B : Ctx p Z s m meth c own nm bytes maxL ret) (X : Stand p l e R s m args below meth c T locs cells slots) {x y : Value} (hd : decode bytes pc = .ok (.dup_x1, 1)) (hp : pc + 1 = pc') (hv : x.category = 1) (hw : y.category = 1)
    (k : Go p e below Q (T.setTop (fr m pc' L (x :: y :: x :: st)))) : Go p e below Q (T.setTop (fr m pc L (x :: y :: st))) := by
  subst hp
  exact Go.of (fun _ q => XS.dupX1 X.here B.hx rfl (hb B.by' hd) rfl hv hw q) k
theorem Go.dup2 (B : Ctx p Z s m meth c own nm bytes maxL ret) (X : Stand p l e R s m args below meth c T locs cells slots) {x y : Value} (hd : decode bytes pc = .ok (.dup2, 1)) (hp : pc + 1 = pc') (hv : x.category = 1) (hw : y.category = 1)
    (k : Go p e below Q (T.setTop (fr m pc' L (x :: y :: x :: y :: st)))) : Go p e below Q (T.setTop (fr m pc L (x :: y :: st))) := by
  subst hp
  exact Go.of (fun _ q => XT.dup2 X.here B.hx rfl (hb B.by' hd) rfl hv hw q) k
theorem Go.i2d (B : Ctx p Z s m meth c own nm bytes maxL ret) (X : Stand p l e R s m args below meth c T locs cells slots) {x : Int32} (hd : decode bytes pc = .ok (.i2d, 1)) (hp : pc + 1 = pc') 
    (k : Go p e below Q (T.setTop (fr m pc' L (.double (FP.i2d x) :: st)))) : Go p e below Q (T.setTop (fr m pc L (.int x :: st))) := by
  subst hp
  exact Go.of (fun _ q => XS.i2dS X.here B.hx rfl (hb B.by' hd) rfl rfl q) k
theorem Go.l2d (B : Ctx p Z s m meth c own nm bytes maxL ret) (X : Stand p l e R s m args below meth c T locs cells slots) {x : Int64} (hd : decode bytes pc = .ok (.l2d, 1)) (hp : pc + 1 = pc') 
    (k : Go p e below Q (T.setTop (fr m pc' L (.double (FP.l2d x) :: st)))) : Go p e below Q (T.setTop (fr m pc L (.long x :: st))) := by
  subst hp
  exact Go.of (fun _ q => XS.l2dS X.here B.hx rfl (hb B.by' hd) rfl rfl q) k
theorem Go.dconst0 (B : Ctx p Z s m meth c own nm bytes maxL ret) (X : Stand p l e R s m args below meth c T locs cells slots)  (hd : decode bytes pc = .ok (.dconst 0, 1)) (hp : pc + 1 = pc') 
    (k : Go p e below Q (T.setTop (fr m pc' L (.double FP.dconst0 :: st)))) : Go p e below Q (T.setTop (fr m pc L (st))) := by
  subst hp
  exact Go.of (fun _ q => XS.dconst0 X.here B.hx rfl (hb B.by' hd) rfl q) k
theorem Go.dconst1 (B : Ctx p Z s m meth c own nm bytes maxL ret) (X : Stand p l e R s m args below meth c T locs cells slots)  (hd : decode bytes pc = .ok (.dconst 1, 1)) (hp : pc + 1 = pc') 
    (k : Go p e below Q (T.setTop (fr m pc' L (.double FP.dconst1 :: st)))) : Go p e below Q (T.setTop (fr m pc L (st))) := by
  subst hp
  exact Go.of (fun _ q => XS.dconst1 X.here B.hx rfl (hb B.by' hd) rfl q) k
theorem Go.dneg (B : Ctx p Z s m meth c own nm bytes maxL ret) (X : Stand p l e R s m args below meth c T locs cells slots) {x : UInt64} (hd : decode bytes pc = .ok (.dneg, 1)) (hp : pc + 1 = pc') 
    (k : Go p e below Q (T.setTop (fr m pc' L (.double (FP.dneg x) :: st)))) : Go p e below Q (T.setTop (fr m pc L (.double x :: st))) := by
  subst hp
  exact Go.of (fun _ q => XS.dnegS X.here B.hx rfl (hb B.by' hd) rfl rfl q) k
theorem Go.dcmp (B : Ctx p Z s m meth c own nm bytes maxL ret) (X : Stand p l e R s m args below meth c T locs cells slots) {x y : UInt64} {o : CmpOp} (hd : decode bytes pc = .ok (.dcmp o, 1)) (hp : pc + 1 = pc') 
    (k : Go p e below Q (T.setTop (fr m pc' L (.int (cmpValue (FP.dcmp x y) o) :: st)))) : Go p e below Q (T.setTop (fr m pc L (.double y :: .double x :: st))) := by
  subst hp
  exact Go.of (fun _ q => XS.dcmpS X.here B.hx rfl (hb B.by' hd) rfl rfl q) k
theorem Go.dadd (B : Ctx p Z s m meth c own nm bytes maxL ret) (X : Stand p l e R s m args below meth c T locs cells slots) {x y : UInt64} (hd : decode bytes pc = .ok (.dadd, 1)) (hp : pc + 1 = pc') (hn : Jvm.Free.Fl.NoNaN64 (FP.dadd x y))
    (k : Go p e below Q (T.setTop (fr m pc' L (.double (FP.dadd x y) :: st)))) : Go p e below Q (T.setTop (fr m pc L (.double y :: .double x :: st))) := by
  subst hp
  exact Go.of (fun _ q => XS.daddS X.here B.hx rfl (hb B.by' hd) rfl hn rfl q) k
theorem Go.dsub (B : Ctx p Z s m meth c own nm bytes maxL ret) (X : Stand p l e R s m args below meth c T locs cells slots) {x y : UInt64} (hd : decode bytes pc = .ok (.dsub, 1)) (hp : pc + 1 = pc') (hn : Jvm.Free.Fl.NoNaN64 (FP.dsub x y))
    (k : Go p e below Q (T.setTop (fr m pc' L (.double (FP.dsub x y) :: st)))) : Go p e below Q (T.setTop (fr m pc L (.double y :: .double x :: st))) := by
  subst hp
  exact Go.of (fun _ q => XS.dsubS X.here B.hx rfl (hb B.by' hd) rfl hn rfl q) k
theorem Go.dmul (B : Ctx p Z s m meth c own nm bytes maxL ret) (X : Stand p l e R s m args below meth c T locs cells slots) {x y : UInt64} (hd : decode bytes pc = .ok (.dmul, 1)) (hp : pc + 1 = pc') (hn : Jvm.Free.Fl.NoNaN64 (FP.dmul x y))
    (k : Go p e below Q (T.setTop (fr m pc' L (.double (FP.dmul x y) :: st)))) : Go p e below Q (T.setTop (fr m pc L (.double y :: .double x :: st))) := by
  subst hp
  exact Go.of (fun _ q => XS.dmulS X.here B.hx rfl (hb B.by' hd) rfl hn rfl q) k
theorem Go.ddiv (B : Ctx p Z s m meth c own nm bytes maxL ret) (X : Stand p l e R s m args below meth c T locs cells slots) {x y : UInt64} (hd : decode bytes pc = .ok (.ddiv, 1)) (hp : pc + 1 = pc') (hn : Jvm.Free.Fl.NoNaN64 (FP.ddiv x y))
    (k : Go p e below Q (T.setTop (fr m pc' L (.double (FP.ddiv x y) :: st)))) : Go p e below Q (T.setTop (fr m pc L (.double y :: .double x :: st))) := by
  subst hp
  exact Go.of (fun _ q => XS.ddivS X.here B.hx rfl (hb B.by' hd) rfl hn rfl q) k
theorem Go.goto (B : Ctx p Z s m meth c own nm bytes maxL ret) (X : Stand p l e R s m args below meth c T locs cells slots) {o : Int} (hd : decode bytes pc = .ok (.goto o, 3)) (ho : 0 ≤ (pc : Int) + o) (hp : ((pc : Int) + o).toNat = pc')
    (k : Go p e below Q (T.setTop (fr m pc' L st))) : Go p e below Q (T.setTop (fr m pc L st)) :=
  Go.of (fun _ q => XS.goto X.here B.hx rfl rfl (hb B.by' hd) ho hp q) k
theorem Go.ifT (B : Ctx p Z s m meth c own nm bytes maxL ret) (X : Stand p l e R s m args below meth c T locs cells slots) {cd : ClassFile.Cond} {x : Int32} {o : Int} (hd : decode bytes pc = .ok (.ifCond cd o, 3)) (ho : 0 ≤ (pc : Int) + o) (hp : ((pc : Int) + o).toNat = pc') (hc : CP cd x 0)
    (k : Go p e below Q (T.setTop (fr m pc' L st))) : Go p e below Q (T.setTop (fr m pc L (.int x :: st))) :=
  Go.of (fun _ q => XS.ifYes X.here B.hx rfl rfl (hb B.by' hd) rfl ((if0 _ _).trans hc.holds) ho hp q) k
theorem Go.ifF (B : Ctx p Z s m meth c own nm bytes maxL ret) (X : Stand p l e R s m args below meth c T locs cells slots) {cd : ClassFile.Cond} {x : Int32} {o : Int} (hd : decode bytes pc = .ok (.ifCond cd o, 3)) (hp : pc + 3 = pc') (hc : CN cd x 0)
    (k : Go p e below Q (T.setTop (fr m pc' L st))) : Go p e below Q (T.setTop (fr m pc L (.int x :: st))) := by
  subst hp
  exact Go.of (fun _ q => XS.ifNo X.here B.hx rfl (hb B.by' hd) rfl ((if0 _ _).trans hc.holds) q) k
theorem Go.ifc (B : Ctx p Z s m meth c own nm bytes maxL ret) (X : Stand p l e R s m args below meth c T locs cells slots) {cd : ClassFile.Cond} {x : Int32} {o : Int} (hd : decode bytes pc = .ok (.ifCond cd o, 3)) (ho : 0 ≤ (pc : Int) + o) (hp : ((pc : Int) + o).toNat = pcT) (hp' : pc + 3 = pc')
    (kT : CP cd x 0 → Go p e below Q (T.setTop (fr m pcT L st))) (kF : CN cd x 0 → Go p e below Q (T.setTop (fr m pc' L st))) : Go p e below Q (T.setTop (fr m pc L (.int x :: st))) :=
  (cp_or cd x 0).elim (fun h => Go.ifT B X hd ho hp h (kT h)) (fun h => Go.ifF B X hd hp' h (kF h))
theorem Go.icT (B : Ctx p Z s m meth c own nm bytes maxL ret) (X : Stand p l e R s m args below meth c T locs cells slots) {cd : ClassFile.Cond} {x y : Int32} {o : Int} (hd : decode bytes pc = .ok (.if_icmp cd o, 3)) (ho : 0 ≤ (pc : Int) + o) (hp : ((pc : Int) + o).toNat = pc') (hc : CP cd x y)
    (k : Go p e below Q (T.setTop (fr m pc' L st))) : Go p e below Q (T.setTop (fr m pc L (.int y :: .int x :: st))) :=
  Go.of (fun _ q => XS.icmpYes X.here B.hx rfl rfl (hb B.by' hd) rfl hc.holds ho hp q) k
theorem Go.icF (B : Ctx p Z s m meth c own nm bytes maxL ret) (X : Stand p l e R s m args below meth c T locs cells slots) {cd : ClassFile.Cond} {x y : Int32} {o : Int} (hd : decode bytes pc = .ok (.if_icmp cd o, 3)) (hp : pc + 3 = pc') (hc : CN cd x y)
    (k : Go p e below Q (T.setTop (fr m pc' L st))) : Go p e below Q (T.setTop (fr m pc L (.int y :: .int x :: st))) := by
  subst hp
  exact Go.of (fun _ q => XS.icmpNo X.here B.hx rfl (hb B.by' hd) rfl hc.holds q) k
theorem Go.ic (B : Ctx p Z s m meth c own nm bytes maxL ret) (X : Stand p l e R s m args below meth c T locs cells slots) {cd : ClassFile.Cond} {x y : Int32} {o : Int} (hd : decode bytes pc = .ok (.if_icmp cd o, 3)) (ho : 0 ≤ (pc : Int) + o) (hp : ((pc : Int) + o).toNat = pcT) (hp' : pc + 3 = pc')
    (kT : CP cd x y → Go p e below Q (T.setTop (fr m pcT L st))) (kF : CN cd x y → Go p e below Q (T.setTop (fr m pc' L st))) : Go p e below Q (T.setTop (fr m pc L (.int y :: .int x :: st))) :=
  (cp_or cd x y).elim (fun h => Go.icT B X hd ho hp h (kT h)) (fun h => Go.icF B X hd hp' h (kF h))
theorem Go.nullT (B : Ctx p Z s m meth c own nm bytes maxL ret) (X : Stand p l e R s m args below meth c T locs cells slots) {o : Int} (hd : decode bytes pc = .ok (.ifnull o, 3)) (ho : 0 ≤ (pc : Int) + o) (hp : ((pc : Int) + o).toNat = pc')
    (k : Go p e below Q (T.setTop (fr m pc' L st))) : Go p e below Q (T.setTop (fr m pc L (.null :: st))) :=
  Go.of (fun _ q => XS.ifnullYes X.here B.hx rfl rfl (hb B.by' hd) rfl ho hp q) k
theorem Go.nullF (B : Ctx p Z s m meth c own nm bytes maxL ret) (X : Stand p l e R s m args below meth c T locs cells slots) {o : Int} {b : Addr} (hd : decode bytes pc = .ok (.ifnull o, 3)) (hp : pc + 3 = pc')
    (k : Go p e below Q (T.setTop (fr m pc' L st))) : Go p e below Q (T.setTop (fr m pc L (.ref b :: st))) := by
  subst hp
  exact Go.of (fun _ q => XS.ifnullNo X.here B.hx rfl (hb B.by' hd) rfl q) k
theorem Go.nnT (B : Ctx p Z s m meth c own nm bytes maxL ret) (X : Stand p l e R s m args below meth c T locs cells slots) {o : Int} {b : Addr} (hd : decode bytes pc = .ok (.ifnonnull o, 3)) (ho : 0 ≤ (pc : Int) + o) (hp : ((pc : Int) + o).toNat = pc')
    (k : Go p e below Q (T.setTop (fr m pc' L st))) : Go p e below Q (T.setTop (fr m pc L (.ref b :: st))) :=
  Go.of (fun _ q => XS.ifnonnullYes X.here B.hx rfl rfl (hb B.by' hd) rfl ho hp q) k
theorem Go.nnF (B : Ctx p Z s m meth c own nm bytes maxL ret) (X : Stand p l e R s m args below meth c T locs cells slots) {o : Int} (hd : decode bytes pc = .ok (.ifnonnull o, 3)) (hp : pc + 3 = pc')
    (k : Go p e below Q (T.setTop (fr m pc' L st))) : Go p e below Q (T.setTop (fr m pc L (.null :: st))) := by
  subst hp
  exact Go.of (fun _ q => XS.ifnonnullNo X.here B.hx rfl (hb B.by' hd) rfl q) k
theorem Go.acmp (B : Ctx p Z s m meth c own nm bytes maxL ret) (X : Stand p l e R s m args below meth c T locs cells slots) {cd : ACond} {x y : Value} {o : Int} {same : Bool} (hd : decode bytes pc = .ok (.if_acmp cd o, 3)) (h1 : x.isRef = true) (h2 : y.isRef = true) (hq : decide (x = y) = same) (ho : 0 ≤ (pc : Int) + o) (hp : pc' = if acV cd same = true then ((pc : Int) + o).toNat else pc + 3)
    (k : Go p e below Q (T.setTop (fr m pc' L st))) : Go p e below Q (T.setTop (fr m pc L (y :: x :: st))) :=
  Go.of (fun _ q => RoadKit.acmp X B.hx rfl h1 h2 rfl (hb B.by' hd) rfl hq ho hp q) k
/-! constants of the pool -/
theorem Go.ldcI (B : Ctx p Z s m meth c own nm bytes maxL ret) (X : Stand p l e R s m args below meth c T locs cells slots) {i : Nat} {v : Int32} (w : (Jvm.Cond.constant own i v).before a0 Z = true) (hd : decode bytes pc = .ok (.ldc i, 2)) (hp : pc + 2 = pc')
    (k : Go p e below Q (T.setTop (fr m pc' L (.int v :: st)))) : Go p e below Q (T.setTop (fr m pc L st)) := by
  subst hp
  exact Go.of (fun _ q => X.ldcI B.hx B.cl (mvT B.hZ w) (g := fr m pc L st) rfl (hb B.by' hd) q) k
theorem Go.ldc2D (B : Ctx p Z s m meth c own nm bytes maxL ret) (X : Stand p l e R s m args below meth c T locs cells slots) {i : Nat} {v : UInt64} (w : (Jvm.Cond.constantDouble own i v).before a0 Z = true) (hd : decode bytes pc = .ok (.ldc2_w i, 3)) (hp : pc + 3 = pc')
    (k : Go p e below Q (T.setTop (fr m pc' L (.double v :: st)))) : Go p e below Q (T.setTop (fr m pc L st)) := by
  subst hp
  exact Go.of (fun _ q => X.ldc2DoubleC B.hx B.cl (mvT B.hZ w) (g := fr m pc L st) rfl (hb B.by' hd) _ q) k
theorem Go.ldc2J (B : Ctx p Z s m meth c own nm bytes maxL ret) (X : Stand p l e R s m args below meth c T locs cells slots) {i : Nat} {v : Int64} (w : (Jvm.Cond.constantLong own i v).before a0 Z = true) (hd : decode bytes pc = .ok (.ldc2_w i, 3)) (hp : pc + 3 = pc')
    (k : Go p e below Q (T.setTop (fr m pc' L (.long v :: st)))) : Go p e below Q (T.setTop (fr m pc L st)) := by
  subst hp
  exact Go.of (fun _ q => X.ldc2Long B.hx B.cl (mvT B.hZ w) (g := fr m pc L st) rfl (hb B.by' hd) _ q) k
/-! the heap -/
theorem Go.newO (B : Ctx p Z s m meth c own nm bytes maxL ret) (X : Stand p l e R s m args below meth c T locs cells slots) (eT : T.heap = h) {C : String} {i n : Nat} (w : (Jvm.Cond.classLink own i C).before a0 Z = true) (wi : (Jvm.Cond.instantiable C n).before a0 Z = true) (wz : (Jvm.Cond.initialized C).before a0 Z = true)
    (hd : decode bytes pc = .ok (.new i, 3)) (hp : pc + 3 = pc') (hc : cells + 1 ≤ R.cells) (hl : slots + n ≤ R.slots)
    (k : ∀ T' h' a, a = h.size → Stand p l e R s m args below meth c T' locs (cells + 1) (slots + n) → T'.heap = h' → Ext h h' → Exa Z h' a C → (∀ {O nm d : String} {ty : FieldType}, Laid Z a0 C O nm d → parseFieldDescriptor d = some ty → Fld Z h' a O nm d (defaultValue ty)) → Go p e below Q (T'.setTop (fr m pc' L (.ref a :: st)))) : Go p e below Q (T.setTop (fr m pc L st)) := by
  subst hp
  obtain ⟨T', h', X', e', E, A, D, -, stp⟩ := RoadKit.newO X B.hx B.hZ B.cl w wi wz eT (g := fr m pc L st) rfl (hb B.by' hd) hc hl
  exact Go.of stp (k T' h' _ rfl X' e' E A D)
theorem Go.initO (B : Ctx p Z s m meth c own nm bytes maxL ret) (X : Stand p l e R s m args below meth c T locs cells slots) (eT : T.heap = h) {i : Nat} (w1 : (Jvm.Cond.methodLink own i Lib.objectInit).before a0 Z = true) (w2 : (Jvm.Cond.instanceMethod Lib.objectInit).before a0 Z = true) (w3 : (Jvm.Cond.code Lib.objectInit ⟨#[0xb1]⟩ 1 none).before a0 Z = true) {a : Addr}
    (hd : decode bytes pc = .ok (.invokespecial i, 3)) (hp : pc + 3 = pc') (hL : L.length = maxL) (hf : 1 ≤ R.frames) (hl : (st.map fun v => v.category).sum + 12 ≤ R.locals)
    (k : ∀ T', Stand p l e R s m args below meth c T' locs cells slots → T'.heap = h → Go p e below Q (T'.setTop (fr m pc' L st))) : Go p e below Q (T.setTop (fr m pc L (.ref a :: st))) := by
  subst hp
  obtain ⟨T', X', e', stp⟩ := RoadKit.initO X B.hx B.hZ B.cl w1 w2 w3 eT (g := fr m pc L (.ref a :: st)) rfl (by rw [B.ml]; exact hL) rfl (hb B.by' hd) hf (W := (st.map fun v => v.category).sum) (by show 2 * 0 + _ ≤ _; omega) hl
  exact Go.of stp (k T' X' e')
theorem Go.getF (B : Ctx p Z s m meth c own nm bytes maxL ret) (X : Stand p l e R s m args below meth c T locs cells slots) (eT : T.heap = h) {O n d : String} {i : Nat} {a : Addr} {v : Value} (w : (Jvm.Cond.fieldLink own i O n d).before a0 Z = true) (F : Fld Z h a O n d v) (hd : decode bytes pc = .ok (.getfield i, 3)) (hp : pc + 3 = pc')
    (k : ∀ T', Stand p l e R s m args below meth c T' locs cells slots → T'.heap = h → Go p e below Q (T'.setTop (fr m pc' L (v :: st)))) : Go p e below Q (T.setTop (fr m pc L (.ref a :: st))) := by
  subst hp
  obtain ⟨T', X', e', stp⟩ := RoadKit.getF X B.hx B.hZ B.cl (host := "") (Or.inl w) Via.refl eT F (g := fr m pc L (.ref a :: st)) rfl rfl (hb B.by' hd)
  exact Go.of stp (k T' X' e')
theorem Go.getS (B : Ctx p Z s m meth c own nm bytes maxL ret) (X : Stand p l e R s m args below meth c T locs cells slots) (eT : T.heap = h) {O n d : String} {i : Nat} {v : Value} (w : (Jvm.Cond.fieldLink own i O n d).before a0 Z = true) (F : Sta Z h O n d v) (hd : decode bytes pc = .ok (.getstatic i, 3)) (hp : pc + 3 = pc')
    (k : ∀ T', Stand p l e R s m args below meth c T' locs cells slots → T'.heap = h → Go p e below Q (T'.setTop (fr m pc' L (v :: st)))) : Go p e below Q (T.setTop (fr m pc L st)) := by
  subst hp
  obtain ⟨T', X', e', stp⟩ := RoadKit.getS (host := "") X B.hx B.hZ B.cl w Via.refl eT F (g := fr m pc L st) rfl (hb B.by' hd)
  exact Go.of stp (k T' X' e')
theorem Go.putF (B : Ctx p Z s m meth c own nm bytes maxL ret) (X : Stand p l e R s m args below meth c T locs cells slots) (eT : T.heap = h) {O n d C : String} {i kk : Nat} {ty : FieldType} {a : Addr} {v old : Value} (w : (Jvm.Cond.fieldLink own i O n d).before a0 Z = true) (F : Fld Z h a O n d old) (E : Exa Z h a C)
    (Ly : (Jvm.Cond.lays C O n d).before a0 Z = true ∨ ((Jvm.Cond.laysFinal C O n d).before a0 Z = true ∧ own = O ∧ meth.name = "<init>")) (wi : (Jvm.Cond.instantiable C kk).before a0 Z = true) (hty : parseFieldDescriptor d = some ty) (hn : narrow ty v = v) (hf : fits ty v = true) (hd : decode bytes pc = .ok (.putfield i, 3)) (hp : pc + 3 = pc')
    (k : ∀ T' h', Stand p l e R s m args below meth c T' (locs ++ [⟨a, RoadKit.slotOf Z O n d⟩]) cells slots → T'.heap = h' → Wr h h' a (RoadKit.slotOf Z O n d) v → Go p e below Q (T'.setTop (fr m pc' L st))) : Go p e below Q (T.setTop (fr m pc L (v :: .ref a :: st))) := by
  subst hp
  obtain ⟨T', h', X', e', W, stp⟩ := RoadKit.putF X B.hx B.hZ B.cl (host := "") (Or.inl w) Via.refl eT F E Ly wi hty hn hf (g := fr m pc L (v :: .ref a :: st)) rfl rfl (hb B.by' hd)
  exact Go.of stp (k T' h' X' e' W)

/-- an array, its components listed -/
def Av (Z : State) (h : Heap) (a : Addr) (ty : FieldType) (vs : List Value) : Prop := ∃ c : Cell, Arr Z h a c ty ∧ c.slots = ⟨vs⟩ ∧ vs.length < 2 ^ 31 ∧ ∀ v ∈ vs, fits ty v = true
theorem Av.lt {a : Addr} {ty : FieldType} {vs : List Value} (F : Av Z h a ty vs) : a < h.size := by obtain ⟨c, A, -⟩ := F; exact A.lt
theorem Av.ext {h' : Heap} {a : Addr} {ty : FieldType} {vs : List Value} (F : Av Z h a ty vs) (E : Ext h h') : Av Z h' a ty vs := by obtain ⟨c, A, r⟩ := F; exact ⟨c, A.ext E, r⟩
theorem Av.other {h' : Heap} {a b : Addr} {ty : FieldType} {vs : List Value} {sl : Nat} {v : Value} (F : Av Z h b ty vs) (W : Wr h h' a sl v) (q : b ≠ a) : Av Z h' b ty vs := by obtain ⟨c, A, r⟩ := F; exact ⟨c, A.other W q, r⟩
theorem Av.keep {h' : Heap} {a : Addr} {ty : FieldType} {vs : List Value} {ws : List Addr} (F : Av Z h a ty vs) (K : Keep h h' ws) (q : a ∉ ws) : Av Z h' a ty vs := by obtain ⟨c, A, r⟩ := F; exact ⟨c, ⟨K.2.1 a c A.1 q, A.2⟩, r⟩
theorem Av.set {h' : Heap} {a : Addr} {ty : FieldType} {vs : List Value} {i : Nat} {v : Value} (F : Av Z h a ty vs) (W : Wr h h' a i v) (hv : fits ty v = true) : Av Z h' a ty (vs.set i v) := by
  obtain ⟨c, A, r1, r2, r3⟩ := F
  refine ⟨c.setSlot i v, A.same W, ?_, by simpa using r2, fun x hx => ?_⟩
  · simp only [Cell.setSlot, r1]; simp
  · rcases List.mem_or_eq_of_mem_set hx with q | q
    · exact r3 x q
    · exact q ▸ hv
theorem Av.arv {a : Addr} {ty : FieldType} {vs : List Value} (F : Av Z h a ty vs) (d : Value) : ∃ k, Arv Z h a k ty (Int32.ofNat vs.length) vs d := by
  obtain ⟨c, A, r1, r2, r3⟩ := F
  have q : c.slots.size = vs.length := by rw [r1]; rfl
  have w : (Int32.ofNat vs.length).toNatClampNeg = vs.length := Int32.toNatClampNeg_ofNat_of_lt r2
  refine ⟨c.cls, c, A, rfl, by rw [q, w], ?_, fun k hk => ?_, fun i hi => ?_⟩
  · intro hlt
    rw [Int32.lt_iff_toInt_lt] at hlt
    rw [Int32.toInt_ofNat_of_lt r2] at hlt
    have : (0 : Int32).toInt = 0 := by decide
    omega
  · rw [q] at hk
    rw [r1]
    simp [List.getD, hk]
  · rw [q] at hi
    have : vs.getD i d = vs[i] := by simp [List.getD, hi]
    rw [this]
    exact r3 _ (List.getElem_mem hi)
theorem Av.of_arv {a : Addr} {k : ClassId} {ty : FieldType} {n : Int32} {vs : List Value} {d : Value} (F : Arv Z h a k ty n vs d) (hn : n.toNatClampNeg = vs.length) : Av Z h a ty vs := by
  obtain ⟨c, A, r1, r2, r3, H, G⟩ := F
  have hb : vs.length < 2 ^ 31 := by rw [← hn]; exact (back32 r3).2
  have q : c.slots.size = vs.length := by rw [r2, hn]
  refine ⟨c, A, ?_, hb, fun v hv => ?_⟩
  · apply Array.ext'
    apply List.ext_getElem?
    intro i
    by_cases hi : i < vs.length
    · have := H i (by omega)
      simp [List.getD, hi] at this
      simp [this, hi]
    · rw [List.getElem?_eq_none (by simp; omega), List.getElem?_eq_none (by simp; omega)]
  · obtain ⟨i, hi, rfl⟩ := List.mem_iff_getElem.mp hv
    have := G i (by omega)
    simpa [List.getD, hi] using this
theorem idx_ok {i n : Nat} {j : Int32} (hj : j = Int32.ofNat i) (hi : i < n) (hn : n < 2 ^ 31) : ¬ (j < 0 ∨ n ≤ j.toNatClampNeg) ∧ j.toNatClampNeg = i := by
  subst hj
  exact ⟨idx_in hi hn, Int32.toNatClampNeg_ofNat_of_lt (by omega)⟩
theorem Go.newP (B : Ctx p Z s m meth c own nm bytes maxL ret) (X : Stand p l e R s m args below meth c T locs cells slots) (eT : T.heap = h) {aty : ArrayType} (n : Nat) {j : Int32} (w : (Jvm.Cond.arrayClass (newarray.typeOf aty)).before a0 Z = true) (hd : decode bytes pc = .ok (.newarray aty, 2)) (hp : pc + 2 = pc') (hj : j = Int32.ofNat n) (hn : n ≤ 67108864) (hc : cells + 1 ≤ R.cells) (hl : slots + n ≤ R.slots)
    (k : ∀ T' h' a, a = h.size → Stand p l e R s m args below meth c T' locs (cells + 1) (slots + n) → T'.heap = h' → Ext h h' → Av Z h' a (newarray.typeOf aty) (List.replicate n (defaultValue (newarray.typeOf aty))) → Go p e below Q (T'.setTop (fr m pc' L (.ref a :: st)))) : Go p e below Q (T.setTop (fr m pc L (.int j :: st))) := by
  subst hp hj
  have w2 : (Int32.ofNat n).toNatClampNeg = n := Int32.toNatClampNeg_ofNat_of_lt (by omega)
  have hneg : ¬ Int32.ofNat n < 0 := by
    intro hlt
    rw [Int32.lt_iff_toInt_lt] at hlt
    rw [Int32.toInt_ofNat_of_lt (by omega)] at hlt
    have : (0 : Int32).toInt = 0 := by decide
    omega
  obtain ⟨T', h', cA, X', e', E, A, stp⟩ := RoadKit.newP X B.hx B.hZ w eT (g := fr m pc L (.int (Int32.ofNat n) :: st)) rfl (hb B.by' hd) rfl hneg (cap := n) (by omega) (by omega) hc hl
  refine Go.of stp (k T' h' _ rfl X' e' E ⟨_, A, by simp [newA, w2], by simp; omega, fun v hv => ?_⟩)
  rw [(List.mem_replicate.mp hv).2]
  cases aty <;> decide

theorem Go.caload (B : Ctx p Z s m meth c own nm bytes maxL ret) (X : Stand p l e R s m args below meth c T locs cells slots) (eT : T.heap = h) {a : Addr} {vs : List Value} {j : Int32} {v : Value} (A : Av Z h a .char vs) (i : Nat) (hd : decode bytes pc = .ok (.caload, 1)) (hp : pc + 1 = pc') (hj : j = Int32.ofNat i) (hv : vs[i]? = some v)
    (k : Go p e below Q (T.setTop (fr m pc' L (v :: st)))) : Go p e below Q (T.setTop (fr m pc L (.int j :: .ref a :: st))) := by
  subst hp
  obtain ⟨cl, Ar, r1, r2, r3⟩ := A
  obtain ⟨hi, -⟩ := List.getElem?_eq_some_iff.mp hv
  obtain ⟨q1, q2⟩ := idx_ok hj hi r2
  exact Go.of (fun _ q => X.caload B.hx (cell := cl) (j := j) (v := v) (by rw [eT]; exact Ar.1) (State.isArrayOf_alike B.hZ.alike Ar.2.1) Ar.2.2 (by rw [r1]; exact q1) (by rw [r1, q2]; simpa using hv) (g := fr m pc L (.int j :: .ref a :: st)) rfl rfl (hb B.by' hd) _ q) k
theorem Go.iaload (B : Ctx p Z s m meth c own nm bytes maxL ret) (X : Stand p l e R s m args below meth c T locs cells slots) (eT : T.heap = h) {a : Addr} {vs : List Value} {j : Int32} {v : Value} (A : Av Z h a .int vs) (i : Nat) (hd : decode bytes pc = .ok (.iaload, 1)) (hp : pc + 1 = pc') (hj : j = Int32.ofNat i) (hv : vs[i]? = some v)
    (k : Go p e below Q (T.setTop (fr m pc' L (v :: st)))) : Go p e below Q (T.setTop (fr m pc L (.int j :: .ref a :: st))) := by
  subst hp
  obtain ⟨cl, Ar, r1, r2, r3⟩ := A
  obtain ⟨hi, -⟩ := List.getElem?_eq_some_iff.mp hv
  obtain ⟨q1, q2⟩ := idx_ok hj hi r2
  exact Go.of (fun _ q => X.iaload B.hx (cell := cl) (j := j) (v := v) (by rw [eT]; exact Ar.1) (State.isArrayOf_alike B.hZ.alike Ar.2.1) Ar.2.2 (by rw [r1]; exact q1) (by rw [r1, q2]; simpa using hv) (g := fr m pc L (.int j :: .ref a :: st)) rfl rfl (hb B.by' hd) _ q) k
theorem Go.baload (B : Ctx p Z s m meth c own nm bytes maxL ret) (X : Stand p l e R s m args below meth c T locs cells slots) (eT : T.heap = h) {a : Addr} {vs : List Value} {j : Int32} {v : Value} (A : Av Z h a .byte vs) (i : Nat) (hd : decode bytes pc = .ok (.baload, 1)) (hp : pc + 1 = pc') (hj : j = Int32.ofNat i) (hv : vs[i]? = some v)
    (k : Go p e below Q (T.setTop (fr m pc' L (v :: st)))) : Go p e below Q (T.setTop (fr m pc L (.int j :: .ref a :: st))) := by
  subst hp
  obtain ⟨cl, Ar, r1, r2, r3⟩ := A
  obtain ⟨hi, -⟩ := List.getElem?_eq_some_iff.mp hv
  obtain ⟨q1, q2⟩ := idx_ok hj hi r2
  exact Go.of (fun _ q => X.baloadBytes B.hx (cell := cl) (j := j) (v := v) (by rw [eT]; exact Ar.1) (State.isArrayOf_alike B.hZ.alike Ar.2.1) Ar.2.2 (by rw [r1]; exact q1) (by rw [r1, q2]; simpa using hv) (g := fr m pc L (.int j :: .ref a :: st)) rfl rfl (hb B.by' hd) _ q) k
theorem Go.daload (B : Ctx p Z s m meth c own nm bytes maxL ret) (X : Stand p l e R s m args below meth c T locs cells slots) (eT : T.heap = h) {a : Addr} {vs : List Value} {j : Int32} {v : Value} (A : Av Z h a .double vs) (i : Nat) (hd : decode bytes pc = .ok (.daload, 1)) (hp : pc + 1 = pc') (hj : j = Int32.ofNat i) (hv : vs[i]? = some v)
    (k : Go p e below Q (T.setTop (fr m pc' L (v :: st)))) : Go p e below Q (T.setTop (fr m pc L (.int j :: .ref a :: st))) := by
  subst hp
  obtain ⟨cl, Ar, r1, r2, r3⟩ := A
  obtain ⟨hi, -⟩ := List.getElem?_eq_some_iff.mp hv
  obtain ⟨q1, q2⟩ := idx_ok hj hi r2
  exact Go.of (fun _ q => X.daload B.hx (cell := cl) (j := j) (v := v) (by rw [eT]; exact Ar.1) (State.isArrayOf_alike B.hZ.alike Ar.2.1) Ar.2.2 (by rw [r1]; exact q1) (by rw [r1, q2]; simpa using hv) (g := fr m pc L (.int j :: .ref a :: st)) rfl rfl (hb B.by' hd) _ q) k
theorem Go.laload (B : Ctx p Z s m meth c own nm bytes maxL ret) (X : Stand p l e R s m args below meth c T locs cells slots) (eT : T.heap = h) {a : Addr} {vs : List Value} {j : Int32} {v : Value} (A : Av Z h a .long vs) (i : Nat) (hd : decode bytes pc = .ok (.laload, 1)) (hp : pc + 1 = pc') (hj : j = Int32.ofNat i) (hv : vs[i]? = some v)
    (k : Go p e below Q (T.setTop (fr m pc' L (v :: st)))) : Go p e below Q (T.setTop (fr m pc L (.int j :: .ref a :: st))) := by
  subst hp
  obtain ⟨cl, Ar, r1, r2, r3⟩ := A
  obtain ⟨hi, -⟩ := List.getElem?_eq_some_iff.mp hv
  obtain ⟨q1, q2⟩ := idx_ok hj hi r2
  exact Go.of (fun _ q => X.laload B.hx (cell := cl) (j := j) (v := v) (by rw [eT]; exact Ar.1) (State.isArrayOf_alike B.hZ.alike Ar.2.1) Ar.2.2 (by rw [r1]; exact q1) (by rw [r1, q2]; simpa using hv) (g := fr m pc L (.int j :: .ref a :: st)) rfl rfl (hb B.by' hd) _ q) k
theorem Go.arraylength (B : Ctx p Z s m meth c own nm bytes maxL ret) (X : Stand p l e R s m args below meth c T locs cells slots) (eT : T.heap = h) {a : Addr} {ty : FieldType} {vs : List Value} (A : Av Z h a ty vs) (hd : decode bytes pc = .ok (.arraylength, 1)) (hp : pc + 1 = pc')
    (k : Go p e below Q (T.setTop (fr m pc' L (.int (Int32.ofNat vs.length) :: st)))) : Go p e below Q (T.setTop (fr m pc L (.ref a :: st))) := by
  subst hp
  obtain ⟨cl, Ar, r1, r2, r3⟩ := A
  have q1 : cl.slots.size = vs.length := by rw [r1]; rfl
  refine Go.of (fun _ q => X.arraylength B.hx (cell := cl) (by rw [eT]; exact Ar.1) (State.isArrayOf_alike B.hZ.alike Ar.2.1) (g := fr m pc L (.ref a :: st)) rfl rfl (hb B.by' hd) _ (by rw [q1]; exact q)) k
theorem Go.castore (B : Ctx p Z s m meth c own nm bytes maxL ret) (X : Stand p l e R s m args below meth c T locs cells slots) (eT : T.heap = h) {a : Addr} {vs : List Value} {j : Int32} {x : Int32} (A : Av Z h a .char vs) (i : Nat) (hd : decode bytes pc = .ok (.castore, 1)) (hp : pc + 1 = pc') (hj : j = Int32.ofNat i) (hi : i < vs.length)
    (k : ∀ T' h' L', Fr a L' → Stand p l e R s m args below meth c T' (locs ++ L') cells slots → T'.heap = h' → Wr h h' a i (.int (nar .char x)) → Av Z h' a .char (vs.set i (.int (nar .char x))) → Go p e below Q (T'.setTop (fr m pc' L st))) : Go p e below Q (T.setTop (fr m pc L (.int x :: .int j :: .ref a :: st))) := by
  subst hp
  have A0 := A
  obtain ⟨cl, Ar, r1, r2, r3⟩ := A
  obtain ⟨q1, q2⟩ := idx_ok hj hi r2
  obtain ⟨T', h', X', e', W, stp⟩ := RoadKit.stC X B.hx B.hZ eT Ar (j := j) (x := x) (by rw [r1]; exact q1) (g := fr m pc L (.int x :: .int j :: .ref a :: st)) rfl rfl (hb B.by' hd)
  rw [q2] at W
  exact Go.of stp (k T' h' _ (fun y hy => by cases List.mem_singleton.mp hy; exact Nat.le_refl _) X' e' W (A0.set W (fits_nar_char _)))
theorem Go.bastore (B : Ctx p Z s m meth c own nm bytes maxL ret) (X : Stand p l e R s m args below meth c T locs cells slots) (eT : T.heap = h) {a : Addr} {vs : List Value} {j : Int32} {x : Int32} (A : Av Z h a .byte vs) (i : Nat) (hd : decode bytes pc = .ok (.bastore, 1)) (hp : pc + 1 = pc') (hj : j = Int32.ofNat i) (hi : i < vs.length)
    (k : ∀ T' h' L', Fr a L' → Stand p l e R s m args below meth c T' (locs ++ L') cells slots → T'.heap = h' → Wr h h' a i (.int (nar .byte x)) → Av Z h' a .byte (vs.set i (.int (nar .byte x))) → Go p e below Q (T'.setTop (fr m pc' L st))) : Go p e below Q (T.setTop (fr m pc L (.int x :: .int j :: .ref a :: st))) := by
  subst hp
  have A0 := A
  obtain ⟨cl, Ar, r1, r2, r3⟩ := A
  obtain ⟨q1, q2⟩ := idx_ok hj hi r2
  obtain ⟨T', h', X', e', W, stp⟩ := RoadKit.stB X B.hx B.hZ eT Ar (j := j) (x := x) (by rw [r1]; exact q1) (g := fr m pc L (.int x :: .int j :: .ref a :: st)) rfl rfl (hb B.by' hd)
  rw [q2] at W
  exact Go.of stp (k T' h' _ (fun y hy => by cases List.mem_singleton.mp hy; exact Nat.le_refl _) X' e' W (A0.set W (fits_nar_byte _)))
theorem Go.iastore (B : Ctx p Z s m meth c own nm bytes maxL ret) (X : Stand p l e R s m args below meth c T locs cells slots) (eT : T.heap = h) {a : Addr} {vs : List Value} {j : Int32} {x : Int32} (A : Av Z h a .int vs) (i : Nat) (hd : decode bytes pc = .ok (.iastore, 1)) (hp : pc + 1 = pc') (hj : j = Int32.ofNat i) (hi : i < vs.length)
    (k : ∀ T' h' L', Fr a L' → Stand p l e R s m args below meth c T' (locs ++ L') cells slots → T'.heap = h' → Wr h h' a i (.int x) → Av Z h' a .int (vs.set i (.int x)) → Go p e below Q (T'.setTop (fr m pc' L st))) : Go p e below Q (T.setTop (fr m pc L (.int x :: .int j :: .ref a :: st))) := by
  subst hp
  have A0 := A
  obtain ⟨cl, Ar, r1, r2, r3⟩ := A
  obtain ⟨q1, q2⟩ := idx_ok hj hi r2
  obtain ⟨T', h', X', e', W, stp⟩ := RoadKit.stI X B.hx B.hZ eT Ar (j := j) (x := x) (by rw [r1]; exact q1) (g := fr m pc L (.int x :: .int j :: .ref a :: st)) rfl rfl (hb B.by' hd)
  rw [q2] at W
  exact Go.of stp (k T' h' _ (fun y hy => by cases List.mem_singleton.mp hy; exact Nat.le_refl _) X' e' W (A0.set W (rfl)))
theorem Go.dastore (B : Ctx p Z s m meth c own nm bytes maxL ret) (X : Stand p l e R s m args below meth c T locs cells slots) (eT : T.heap = h) {a : Addr} {vs : List Value} {j : Int32} {x : UInt64} (A : Av Z h a .double vs) (i : Nat) (hd : decode bytes pc = .ok (.dastore, 1)) (hp : pc + 1 = pc') (hj : j = Int32.ofNat i) (hi : i < vs.length)
    (k : ∀ T' h' L', Fr a L' → Stand p l e R s m args below meth c T' (locs ++ L') cells slots → T'.heap = h' → Wr h h' a i (.double x) → Av Z h' a .double (vs.set i (.double x)) → Go p e below Q (T'.setTop (fr m pc' L st))) : Go p e below Q (T.setTop (fr m pc L (.double x :: .int j :: .ref a :: st))) := by
  subst hp
  have A0 := A
  obtain ⟨cl, Ar, r1, r2, r3⟩ := A
  obtain ⟨q1, q2⟩ := idx_ok hj hi r2
  obtain ⟨T', h', X', e', W, stp⟩ := RoadKit.stD X B.hx B.hZ eT Ar (j := j) (x := x) (by rw [r1]; exact q1) (g := fr m pc L (.double x :: .int j :: .ref a :: st)) rfl rfl (hb B.by' hd)
  rw [q2] at W
  exact Go.of stp (k T' h' _ (fun y hy => by cases List.mem_singleton.mp hy; exact Nat.le_refl _) X' e' W (A0.set W (rfl)))
theorem Go.lastore (B : Ctx p Z s m meth c own nm bytes maxL ret) (X : Stand p l e R s m args below meth c T locs cells slots) (eT : T.heap = h) {a : Addr} {vs : List Value} {j : Int32} {x : Int64} (A : Av Z h a .long vs) (i : Nat) (hd : decode bytes pc = .ok (.lastore, 1)) (hp : pc + 1 = pc') (hj : j = Int32.ofNat i) (hi : i < vs.length)
    (k : ∀ T' h' L', Fr a L' → Stand p l e R s m args below meth c T' (locs ++ L') cells slots → T'.heap = h' → Wr h h' a i (.long x) → Av Z h' a .long (vs.set i (.long x)) → Go p e below Q (T'.setTop (fr m pc' L st))) : Go p e below Q (T.setTop (fr m pc L (.long x :: .int j :: .ref a :: st))) := by
  subst hp
  have A0 := A
  obtain ⟨cl, Ar, r1, r2, r3⟩ := A
  obtain ⟨q1, q2⟩ := idx_ok hj hi r2
  obtain ⟨T', h', X', e', W, stp⟩ := RoadKit.stJ X B.hx B.hZ eT Ar (j := j) (x := x) (by rw [r1]; exact q1) (g := fr m pc L (.long x :: .int j :: .ref a :: st)) rfl rfl (hb B.by' hd)
  rw [q2] at W
  exact Go.of stp (k T' h' _ (fun y hy => by cases List.mem_singleton.mp hy; exact Nat.le_refl _) X' e' W (A0.set W (rfl)))
/-! calls -/
abbrev BackQ (l : Launch) (R : Room) (p : Program) (e : Env) (below : List Frame) (s : State) (args : Array Value) (y : MethodName) (W : Nat) (as : List Value) (h : Heap) (kc ks : Nat) (Qc : Option Value → Heap → List Loc → Prop) : Prop :=
  Back l R p e below s args y 3 W (fun A a => a = as.toArray ∧ A.U.heap = h ∧ A.cells + kc ≤ R.cells ∧ A.slots + ks ≤ R.slots) (fun A _ v D => ∃ L, Qc v D.U.heap L ∧ D.locs = A.locs ++ L ∧ D.cells = A.cells + kc ∧ D.slots = A.slots + ks)
/-- a body's contract -/
def Ct (l : Launch) (Z : State) (y : MethodName) (bytes : ByteArray) (maxL : Nat) (ret : Option FieldType) (ws : List Jvm.Cond) (rm : Room) (C S : Nat) (as : List Value) (h0 : Heap) (Qc : Option Value → Heap → List Loc → Prop) : Prop :=
  MetFree l y (head1 (Jvm.Cond.code y bytes maxL ret :: ws) rm) (fun a U => a = as.toArray ∧ Z.Warmed39 U.vm ∧ U.heap = h0) (fun _ _ _ _ _ => True) (fun _ U o U' => ∃ v L, o = .returned v ∧ Qc v U'.heap L ∧ FrameEnd U o U' L C S)
theorem Ct.mk {y : MethodName} {ws : List Jvm.Cond} {rm : Room} {C S : Nat} {as : List Value} {Qc : Option Value → Heap → List Loc → Prop} {L0 : List Slot} (hpn : plainFor y = true) (hL : ∀ m, entryFrame m as.toArray maxL = fr m 0 L0 [])
    (body : ∀ (p : Program) (e : Env) (s : State) (m : MethodId) (below : List Frame) (meth : Method) (c : Code) (s₁ : State), Ctx p Z s m meth c y.cls y.name bytes maxL ret → Stand p l e rm s m as.toArray below meth c s₁ [] 0 0 → s₁.heap = h → Go p e below (End s C S Qc) (s₁.setTop (fr m 0 L0 []))) :
    Ct l Z y bytes maxL ret ws rm C S as h Qc := by
  refine MetFree.of_bodySF hpn hisR ?_
  intro p e s m args below meth c s₁ Bd hml0 hP hK
  obtain ⟨rfl, hZ, hh⟩ := hP
  have G := body p e s m below meth c s₁ ⟨Bd.exec, Bd.bytes, hml0, findClass_of_methodNamed Bd.named, (name_of_methodNamed Bd.named Bd.method).1, hZ, Bd.returns, Bd.notSynchronized⟩ (Stand.of_body Bd) (by rw [← hh, Bd.state]; rfl)
  rw [hL]
  exact G
theorem Ct.back {y : MethodName} {rm : Room} {as : List Value} {Qc : Option Value → Heap → List Loc → Prop} {W : Nat} {bytes' : ByteArray} {maxL' : Nat} {ret' : Option FieldType} (K : Ct l Z y bytes' maxL' ret' [] rm rm.cells rm.slots as h Qc) (hZ : Z.Warmed39 s.vm) (wc : (Jvm.Cond.code y bytes' maxL' ret').before a0 Z = true) (wz : (Jvm.Cond.initialized y.cls).before a0 Z = true) (hf : rm.frames + 1 ≤ R.frames) (hl : W + (maxL' + 11) + rm.locals ≤ R.locals) :
    BackQ l R p e below s args y W as h rm.cells rm.slots Qc := backOf K hZ wc wz hf hl
theorem Go.callS (B : Ctx p Z s m meth c own nm bytes maxL ret) (X : Stand p l e R s m args below meth c T locs cells slots) (eT : T.heap = h) {y : MethodName} {i W kc ks : Nat} {as rest : List Value} {Qc : Option Value → Heap → List Loc → Prop} {bytes' : ByteArray} {maxL' : Nat} {ret' : Option FieldType} {ps : List FieldType} {r : Option FieldType}
    (K : BackQ l R p e below s args y W as h kc ks Qc) (wl : (Jvm.Cond.methodLink own i y).before a0 Z = true) (ws : (Jvm.Cond.static y).before a0 Z = true) (wz : (Jvm.Cond.initialized y.cls).before a0 Z = true) (wc : (Jvm.Cond.code y bytes' maxL' ret').before a0 Z = true) (hy : y.cls ≠ "java/lang/invoke/MethodHandle" ∧ y.cls ≠ "java/lang/invoke/VarHandle")
    (hpd : parseMethodDescriptor y.desc = some ⟨ps, r⟩) (hd : decode bytes pc = .ok (.invokestatic i, 3)) (hp : pc + 3 = pc') (hL : L.length = maxL) (hst : st = as.reverse ++ rest) (hln : as.length = ps.length) (hW : (rest.map fun v => v.category).sum ≤ W) (hc : cells + kc ≤ R.cells) (hs : slots + ks ≤ R.slots)
    (k : ∀ v T' L', Stand p l e R s m args below meth c T' (locs ++ L') (cells + kc) (slots + ks) → Qc v T'.heap L' → Go p e below Q (T'.setTop (fr m pc' L (v.toList ++ rest)))) : Go p e below Q (T.setTop (fr m pc L st)) := by
  subst hp
  obtain ⟨v, _, ⟨T', L1, k1, n1⟩, -, X', ⟨L', hQ, l1, y1, z1⟩, stp⟩ := Jvm.LawKit.callS X B.hx (y := y) B.cl (mvT B.hZ wl) (mvT B.hZ ws) (mvT B.hZ wz) (mvT B.hZ wc) hy K (g := fr m pc L st) rfl (by rw [B.ml]; exact hL) (argsL := as) (rest := rest) (lenOf hpd hln) hst (by show 2 * 0 + _ ≤ _; omega) (hb B.by' hd) (fun _ _ => ⟨rfl, eT, hc, hs⟩)
  dsimp only [Pt.U, Pt.locs, Pt.cells, Pt.slots] at X' l1 y1 z1 stp hQ
  subst l1 y1 z1
  exact Go.of stp (k v T' L' X' hQ)
theorem Go.callI (B : Ctx p Z s m meth c own nm bytes maxL ret) (X : Stand p l e R s m args below meth c T locs cells slots) (eT : T.heap = h) {y : MethodName} {i W kc ks : Nat} {a : Addr} {as rest : List Value} {Qc : Option Value → Heap → List Loc → Prop} {bytes' : ByteArray} {maxL' : Nat} {ps : List FieldType} {r : Option FieldType}
    (hyn : y.name = "<init>") (K : BackQ l R p e below s args y W (.ref a :: as) h kc ks Qc) (wl : (Jvm.Cond.methodLink own i y).before a0 Z = true) (wi : (Jvm.Cond.instanceMethod y).before a0 Z = true) (wc : (Jvm.Cond.code y bytes' maxL' none).before a0 Z = true) (hy : y.cls ≠ "java/lang/invoke/MethodHandle" ∧ y.cls ≠ "java/lang/invoke/VarHandle")
    (hpd : parseMethodDescriptor y.desc = some ⟨ps, r⟩) (hd : decode bytes pc = .ok (.invokespecial i, 3)) (hp : pc + 3 = pc') (hL : L.length = maxL) (hst : st = as.reverse ++ .ref a :: rest) (hln : as.length = ps.length) (hW : (rest.map fun v => v.category).sum ≤ W) (hc : cells + kc ≤ R.cells) (hs : slots + ks ≤ R.slots)
    (k : ∀ v T' L', Stand p l e R s m args below meth c T' (locs ++ L') (cells + kc) (slots + ks) → Qc v T'.heap L' → Go p e below Q (T'.setTop (fr m pc' L (v.toList ++ rest)))) : Go p e below Q (T.setTop (fr m pc L st)) := by
  subst hp
  obtain ⟨v, _, ⟨T', L1, k1, n1⟩, -, X', ⟨L', hQ, l1, y1, z1⟩, stp⟩ := X.specialBack B.hx (y := y) hyn B.cl (mvT B.hZ wl) (mvT B.hZ wi) (mvT B.hZ wc) hy K (g := fr m pc L st) rfl (by rw [B.ml]; exact hL) (Steps.refl _) (a := a) (argsL := as) (rest := rest) (lenOf hpd hln) hst (by show 2 * 0 + _ ≤ _; omega) (hb B.by' hd) (fun _ _ => ⟨rfl, eT, hc, hs⟩)
  dsimp only [Pt.U, Pt.locs, Pt.cells, Pt.slots] at X' l1 y1 z1 stp hQ
  subst l1 y1 z1
  exact Go.come stp (k v T' L' X' hQ)
theorem Go.callV (B : Ctx p Z s m meth c own nm bytes maxL ret) (X : Stand p l e R s m args below meth c T locs cells slots) (eT : T.heap = h) {y z : MethodName} {C : String} {i W kc ks : Nat} {a : Addr} {as rest : List Value} {Qc : Option Value → Heap → List Loc → Prop} {ps : List FieldType} {r : Option FieldType}
    (K : BackQ l R p e below s args z W (.ref a :: as) h kc ks Qc) (E : Exa Z h a C) (wl : (Jvm.Cond.methodLink own i y).before a0 Z = true) (wd : (Jvm.Cond.declares y).before a0 Z = true) (wsel : (Jvm.Cond.selects C y z).before a0 Z = true) (wi : (Jvm.Cond.instanceMethod z).before a0 Z = true) (hy : y.cls ≠ "java/lang/invoke/MethodHandle" ∧ y.cls ≠ "java/lang/invoke/VarHandle") (hnf : NotFace s y)
    (hpd : parseMethodDescriptor y.desc = some ⟨ps, r⟩) (hd : decode bytes pc = .ok (.invokevirtual i, 3)) (hp : pc + 3 = pc') (hL : L.length = maxL) (hst : st = as.reverse ++ .ref a :: rest) (hln : as.length = ps.length) (hW : (rest.map fun v => v.category).sum ≤ W) (hc : cells + kc ≤ R.cells) (hs : slots + ks ≤ R.slots)
    (k : ∀ v T' L', Stand p l e R s m args below meth c T' (locs ++ L') (cells + kc) (slots + ks) → Qc v T'.heap L' → Go p e below Q (T'.setTop (fr m pc' L (v.toList ++ rest)))) : Go p e below Q (T.setTop (fr m pc L st)) := by
  subst hp
  obtain ⟨cq, kq, q1, -, q3⟩ := isOf B.hZ eT E
  obtain ⟨v, _, ⟨T', L1, k1, n1⟩, -, X', ⟨L', hQ, l1, y1, z1⟩, stp⟩ := X.virtualBack B.hx (y := y) (z := z) B.cl (mvT B.hZ wl) (mvT B.hZ wd) hnf (mvT B.hZ wsel) (mvT B.hZ wi) hy K q1 q3 (g := fr m pc L st) rfl (by rw [B.ml]; exact hL) (Steps.refl _) (argsL := as) (rest := rest) (lenOf hpd hln) hst (by show 2 * 0 + _ ≤ _; omega) (hb B.by' hd) (fun _ _ => ⟨rfl, eT, hc, hs⟩)
  dsimp only [Pt.U, Pt.locs, Pt.cells, Pt.slots] at X' l1 y1 z1 stp hQ
  subst l1 y1 z1
  exact Go.come stp (k v T' L' X' hQ)
/-! returns -/
theorem Go.fin (X : Stand p l e R s m args below meth c T locs cells slots) (B : Ctx p Z s m meth c own nm bytes maxL ret) {C S : Nat} {Qc : Option Value → Heap → List Loc → Prop} {v : Option Value} {f : JFrame} (hv : meth.sig.returnType = none → v = none) (hc : cells ≤ C) (hs : slots ≤ S) (q : Qc v T.heap locs)
    (stp : ∀ fs : List Frame, (∀ (f : JFrame) (acts : List Action), f.method = m → f.locked = none → f.entered = [] → (doReturn e (T.setTop f) acts v).1 = T.setFrames fs) → Steps p.tables e below (T.setTop f) (T.setFrames fs)) : Go p e below (End s C S Qc) (T.setTop f) := by
  obtain ⟨fs, hr, hrun, hended, hW, hsame⟩ := X.leave (v := v) hv B.lk
  exact ⟨_, _, stp fs hr, hrun, hended, _, _, rfl, q, ⟨_, rfl⟩, hW, hsame.mono hc hs⟩
theorem Go.iret (B : Ctx p Z s m meth c own nm bytes maxL (some .int)) (X : Stand p l e R s m args below meth c T locs cells slots) {C S : Nat} {Qc : Option Value → Heap → List Loc → Prop} {z : Int32} (hd : decode bytes pc = .ok (.ireturn, 1)) (hc : cells ≤ C) (hs : slots ≤ S) (q : Qc (some (.int z)) T.heap locs) : Go p e below (End s C S Qc) (T.setTop (fr m pc L (.int z :: st))) :=
  Go.fin X B (v := some (.int z)) (fun h => by rw [B.re] at h; cases h) hc hs q (fun fs hr => RoadKit.retOut X B.hx B.re rfl (Or.inl ⟨rfl, Or.inl rfl, z, rfl⟩) (hb B.by' hd) hr)
theorem Go.zret (B : Ctx p Z s m meth c own nm bytes maxL (some .boolean)) (X : Stand p l e R s m args below meth c T locs cells slots) {C S : Nat} {Qc : Option Value → Heap → List Loc → Prop} {z : Int32} (hd : decode bytes pc = .ok (.ireturn, 1)) (hz : narrow .boolean (.int z) = .int z) (hc : cells ≤ C) (hs : slots ≤ S) (q : Qc (some (.int z)) T.heap locs) : Go p e below (End s C S Qc) (T.setTop (fr m pc L (.int z :: st))) :=
  Go.fin X B (v := some (.int z)) (fun h => by rw [B.re] at h; cases h) hc hs q (fun fs hr => RoadKit.retOut X B.hx B.re hz (Or.inl ⟨rfl, Or.inr (Or.inl rfl), z, rfl⟩) (hb B.by' hd) hr)
theorem Go.cret (B : Ctx p Z s m meth c own nm bytes maxL (some .char)) (X : Stand p l e R s m args below meth c T locs cells slots) {C S : Nat} {Qc : Option Value → Heap → List Loc → Prop} {z : Int32} (hd : decode bytes pc = .ok (.ireturn, 1)) (hz : narrow .char (.int z) = .int z) (hc : cells ≤ C) (hs : slots ≤ S) (q : Qc (some (.int z)) T.heap locs) : Go p e below (End s C S Qc) (T.setTop (fr m pc L (.int z :: st))) :=
  Go.fin X B (v := some (.int z)) (fun h => by rw [B.re] at h; cases h) hc hs q (fun fs hr => RoadKit.retOut X B.hx B.re hz (Or.inl ⟨rfl, Or.inr (Or.inr (Or.inr (Or.inl rfl))), z, rfl⟩) (hb B.by' hd) hr)
theorem Go.bret (B : Ctx p Z s m meth c own nm bytes maxL (some .byte)) (X : Stand p l e R s m args below meth c T locs cells slots) {C S : Nat} {Qc : Option Value → Heap → List Loc → Prop} {z : Int32} (hd : decode bytes pc = .ok (.ireturn, 1)) (hz : narrow .byte (.int z) = .int z) (hc : cells ≤ C) (hs : slots ≤ S) (q : Qc (some (.int z)) T.heap locs) : Go p e below (End s C S Qc) (T.setTop (fr m pc L (.int z :: st))) :=
  Go.fin X B (v := some (.int z)) (fun h => by rw [B.re] at h; cases h) hc hs q (fun fs hr => RoadKit.retOut X B.hx B.re hz (Or.inl ⟨rfl, Or.inr (Or.inr (Or.inl rfl)), z, rfl⟩) (hb B.by' hd) hr)
theorem Go.lret (B : Ctx p Z s m meth c own nm bytes maxL (some .long)) (X : Stand p l e R s m args below meth c T locs cells slots) {C S : Nat} {Qc : Option Value → Heap → List Loc → Prop} {z : Int64} (hd : decode bytes pc = .ok (.lreturn, 1)) (hc : cells ≤ C) (hs : slots ≤ S) (q : Qc (some (.long z)) T.heap locs) : Go p e below (End s C S Qc) (T.setTop (fr m pc L (.long z :: st))) :=
  Go.fin X B (v := some (.long z)) (fun h => by rw [B.re] at h; cases h) hc hs q (fun fs hr => RoadKit.retOut X B.hx B.re rfl (Or.inr (Or.inl ⟨rfl, rfl, z, rfl⟩)) (hb B.by' hd) hr)
theorem Go.dret (B : Ctx p Z s m meth c own nm bytes maxL (some .double)) (X : Stand p l e R s m args below meth c T locs cells slots) {C S : Nat} {Qc : Option Value → Heap → List Loc → Prop} {z : UInt64} (hd : decode bytes pc = .ok (.dreturn, 1)) (hc : cells ≤ C) (hs : slots ≤ S) (q : Qc (some (.double z)) T.heap locs) : Go p e below (End s C S Qc) (T.setTop (fr m pc L (.double z :: st))) :=
  Go.fin X B (v := some (.double z)) (fun h => by rw [B.re] at h; cases h) hc hs q (fun fs hr => RoadKit.retOut X B.hx B.re rfl (Or.inr (Or.inr (Or.inl ⟨rfl, rfl, z, rfl⟩))) (hb B.by' hd) hr)
theorem Go.aret {t : FieldType} (B : Ctx p Z s m meth c own nm bytes maxL (some t)) (X : Stand p l e R s m args below meth c T locs cells slots) {C S : Nat} {Qc : Option Value → Heap → List Loc → Prop} {w : Value} (hd : decode bytes pc = .ok (.areturn, 1)) (ht : t.isReference = true) (hw : w.isRef = true) (hn : narrow t w = w) (hc : cells ≤ C) (hs : slots ≤ S) (q : Qc (some w) T.heap locs) : Go p e below (End s C S Qc) (T.setTop (fr m pc L (w :: st))) :=
  Go.fin X B (v := some w) (fun h => by rw [B.re] at h; cases h) hc hs q (fun fs hr => RoadKit.retOut X B.hx B.re hn (Or.inr (Or.inr (Or.inr (Or.inr ⟨rfl, ht, hw⟩)))) (hb B.by' hd) hr)
theorem Go.vret (B : Ctx p Z s m meth c own nm bytes maxL none) (X : Stand p l e R s m args below meth c T locs cells slots) {C S : Nat} {Qc : Option Value → Heap → List Loc → Prop} (hd : decode bytes pc = .ok (.return_, 1)) (hc : cells ≤ C) (hs : slots ≤ S) (q : Qc none T.heap locs) : Go p e below (End s C S Qc) (T.setTop (fr m pc L [])) :=
  Go.fin X B (v := none) (fun _ => rfl) hc hs q (fun fs hr => X.returnOut B.hx B.re (hb B.by' hd) hr)

end
end Jvm.GoKit
namespace Jvm.Pilot.@@N@@
open Jvm Jvm.ClassFile Sem Op Lib Jvm.Free Jvm.Stand Jvm.LawKit Jvm.RoadKit Bundle Jvm.GoKit Jvm.Pilot.@@N@@.Jvm.D
theorem di_0 : decode prog_53_method_4_code 0 = .ok (.aload_n 0, 1) := by decide +kernel
theorem di_1 : decode prog_53_method_4_code 1 = .ok (.getstatic 7, 3) := by decide +kernel
theorem di_4 : decode prog_53_method_4_code 4 = .ok (.if_acmp .ne 9, 3) := by decide +kernel
theorem di_7 : decode prog_53_method_4_code 7 = .ok (.dload_n 3, 1) := by decide +kernel
theorem di_8 : decode prog_53_method_4_code 8 = .ok (.dload_n 1, 1) := by decide +kernel
theorem di_9 : decode prog_53_method_4_code 9 = .ok (.dsub, 1) := by decide +kernel
theorem di_10 : decode prog_53_method_4_code 10 = .ok (.goto 6, 3) := by decide +kernel
theorem di_13 : decode prog_53_method_4_code 13 = .ok (.dload_n 1, 1) := by decide +kernel
theorem di_14 : decode prog_53_method_4_code 14 = .ok (.dload_n 3, 1) := by decide +kernel
theorem di_15 : decode prog_53_method_4_code 15 = .ok (.dsub, 1) := by decide +kernel
theorem di_16 : decode prog_53_method_4_code 16 = .ok (.dreturn, 1) := by decide +kernel
theorem da_0 : decode jdk_29_method_61_code 0 = .ok (.lload_n 0, 1) := by decide +kernel
theorem da_1 : decode jdk_29_method_61_code 1 = .ok (.lconst 0, 1) := by decide +kernel
theorem da_2 : decode jdk_29_method_61_code 2 = .ok (.lcmp, 1) := by decide +kernel
theorem da_3 : decode jdk_29_method_61_code 3 = .ok (.ifCond .ge 8, 3) := by decide +kernel
theorem da_6 : decode jdk_29_method_61_code 6 = .ok (.lload_n 0, 1) := by decide +kernel
theorem da_7 : decode jdk_29_method_61_code 7 = .ok (.lneg, 1) := by decide +kernel
theorem da_8 : decode jdk_29_method_61_code 8 = .ok (.goto 4, 3) := by decide +kernel
theorem da_11 : decode jdk_29_method_61_code 11 = .ok (.lload_n 0, 1) := by decide +kernel
theorem da_12 : decode jdk_29_method_61_code 12 = .ok (.lreturn, 1) := by decide +kernel
theorem tw {Z : State} {a0 : Array Value} (hw : ∀ d ∈ tables_1, d.before a0 Z = true) (i : Nat) {d : Jvm.Cond} (h : tables_1[i]? = some d) : d.before a0 Z = true := hw d (List.mem_of_getElem? h)
open Jvm.Free.Fl
theorem pnL : plainName "com/example/parley/parley/model/ObjectiveImprovementPinLaw" = true := by first | (simp [plainName, overriddenIn]; done) | decide +kernel
theorem pnO : plainName "com/example/parley/parley/model/Objective" = true := by first | (simp [plainName, overriddenIn]; done) | decide +kernel
theorem pnM : plainFor ⟨"java/lang/Math", "abs", "(J)J"⟩ = true := by decide +kernel
theorem pdI : parseMethodDescriptor "(DD)D" = some ⟨[.double, .double], some .double⟩ := by decide +kernel
theorem pdA : parseMethodDescriptor "(J)J" = some ⟨[.long], some .long⟩ := by decide +kernel
theorem efI (m : MethodId) (x0 : Addr) (x1 x2 : UInt64) : entryFrame m [(Value.ref x0), (.double x1), (.double x2)].toArray 5 = fr m 0 [.val (.ref x0), .val (.double x1), .second, .val (.double x2), .second] [] := by first | (simp [entryFrame, mkF, argsToLocals, Value.category]; done) | rfl
theorem efA (m : MethodId) (x0 : Int64) : entryFrame m [(Value.long x0)].toArray 2 = fr m 0 [.val (.long x0), .second] [] := by first | (simp [entryFrame, mkF, argsToLocals, Value.category]; done) | rfl
theorem efL (m : MethodId) (x0 x1 x2 : Int32) : entryFrame m [(Value.int x0), (.int x1), (.int x2)].toArray maxLocals = fr m 0 [.val (.int x0), .val (.int x1), .val (.int x2), .unset, .unset, .unset, .unset, .unset, .unset, .unset, .unset, .unset, .unset] [] := by first | (simp [entryFrame, mkF, argsToLocals, Value.category, maxLocals]; done) | rfl
def gR : Room := { frames := 0, cells := 0, slots := 0, locals := 0 }
theorem b53i (x : Int32) : B53 x.toInt64 := by
  have h := rng32 x
  have e := c_i2l x
  unfold B53
  omega
theorem nn_sub (x y : Int32) : NoNaN64 (FP.dsub (FP.i2d x) (FP.i2d y)) := by
  rw [i2d_w, i2d_w]
  exact nn_w (dsub_w (b53i x) (b53i y))
theorem own_sub (x y : Int32) : FP.dsub (FP.i2d x) (FP.i2d y) = FP.l2d (x.toInt64 - y.toInt64) := by
  rw [i2d_w, i2d_w]
  exact dsub_w (b53i x) (b53i y)
set_option maxRecDepth 65536 in
set_option maxHeartbeats 4000000 in
theorem ctI1 (l : Launch) (Z : State) (a0 : Array Value) (hw : ∀ d ∈ tables_1, d.before a0 Z = true) (o b : Addr) (x y : Int32) (h : Heap) (n0 : Nat) (SM : Sta Z h "com/example/parley/parley/model/Objective" "MAX" "Lcom/example/parley/parley/model/Objective;" (.ref b)) (hne : o = b) :
    Ct l Z ⟨"com/example/parley/parley/model/Objective", "improvement", "(DD)D"⟩ prog_53_method_4_code 5 (some .double) [] gR gR.cells gR.slots [(.ref o), (.double (FP.i2d x)), (.double (FP.i2d y))] h (fun v h' L => v = some (.double (FP.dsub (FP.i2d y) (FP.i2d x))) ∧ Fr n0 L ∧ h' = h) := by
  subst hne
  refine Ct.mk (plainFor_of_name pnO) (fun m => efI m _ (FP.i2d x) (FP.i2d y)) ?_
  intro p e s m below meth c s₁ B X0 e0
  refine Go.aloadN B X0 di_0 (pc' := 1) rfl rfl rfl ?_
  refine Go.getS B X0 e0 (tw hw 8 rfl) SM di_1 (pc' := 4) rfl ?_
  intro T1 X1 e1
  refine Go.acmp B X1 (same := true) di_4 rfl rfl (by simp) (by decide) (pc' := 7) rfl ?_
  refine Go.dloadN B X1 di_7 (pc' := 8) rfl rfl ?_
  refine Go.dloadN B X1 di_8 (pc' := 9) rfl rfl ?_
  refine Go.dsub B X1 di_9 (pc' := 10) rfl (nn_sub _ _) ?_
  refine Go.goto B X1 di_10 (by decide) (pc' := 16) rfl ?_
  exact Go.dret B X1 di_16 nb nb ⟨rfl, Fr.nil _, e1⟩
set_option maxRecDepth 65536 in
set_option maxHeartbeats 4000000 in
theorem ctI0 (l : Launch) (Z : State) (a0 : Array Value) (hw : ∀ d ∈ tables_1, d.before a0 Z = true) (o b : Addr) (x y : Int32) (h : Heap) (n0 : Nat) (SM : Sta Z h "com/example/parley/parley/model/Objective" "MAX" "Lcom/example/parley/parley/model/Objective;" (.ref b)) (hne : ¬ o = b) :
    Ct l Z ⟨"com/example/parley/parley/model/Objective", "improvement", "(DD)D"⟩ prog_53_method_4_code 5 (some .double) [] gR gR.cells gR.slots [(.ref o), (.double (FP.i2d x)), (.double (FP.i2d y))] h (fun v h' L => v = some (.double (FP.dsub (FP.i2d x) (FP.i2d y))) ∧ Fr n0 L ∧ h' = h) := by
  refine Ct.mk (plainFor_of_name pnO) (fun m => efI m _ (FP.i2d x) (FP.i2d y)) ?_
  intro p e s m below meth c s₁ B X0 e0
  refine Go.aloadN B X0 di_0 (pc' := 1) rfl rfl rfl ?_
  refine Go.getS B X0 e0 (tw hw 8 rfl) SM di_1 (pc' := 4) rfl ?_
  intro T1 X1 e1
  refine Go.acmp B X1 (same := false) di_4 rfl rfl (by simpa using hne) (by decide) (pc' := 13) rfl ?_
  refine Go.dloadN B X1 di_13 (pc' := 14) rfl rfl ?_
  refine Go.dloadN B X1 di_14 (pc' := 15) rfl rfl ?_
  refine Go.dsub B X1 di_15 (pc' := 16) rfl (nn_sub _ _) ?_
  exact Go.dret B X1 di_16 nb nb ⟨rfl, Fr.nil _, e1⟩
set_option maxRecDepth 65536 in
set_option maxHeartbeats 4000000 in
theorem ctA (l : Launch) (Z : State) (a0 : Array Value) (hw : ∀ d ∈ tables_1, d.before a0 Z = true) (x : Int64) (h : Heap) (n0 : Nat) :
    Ct l Z ⟨"java/lang/Math", "abs", "(J)J"⟩ jdk_29_method_61_code 2 (some .long) [] gR gR.cells gR.slots [(.long x)] h (fun v h' L => v = some (.long (if x < 0 then -x else x)) ∧ Fr n0 L ∧ h' = h) := by
  refine Ct.mk pnM (fun m => efA m x) ?_
  intro p e s m below meth c s₁ B X0 e0
  refine Go.lloadN B X0 da_0 (pc' := 1) rfl rfl ?_
  refine Go.lconst B X0 0 da_1 (pc' := 2) rfl rfl ?_
  refine Go.lcmp B X0 da_2 (pc' := 3) rfl ?_
  refine Go.ifc B X0 da_3 (by decide) (pcT := 11) rfl (pc' := 6) rfl (fun hc => ?_) (fun hc => ?_)
  · dsimp only [GoKit.CP] at hc
    refine Go.lloadN B X0 da_11 (pc' := 12) rfl rfl ?_
    have hx : ¬ x < 0 := fun q => hc ((lw_lt _ _).mpr q)
    exact Go.lret B X0 da_12 nb nb ⟨by rw [if_neg hx], Fr.nil _, e0⟩
  · dsimp only [GoKit.CN] at hc
    refine Go.lloadN B X0 da_6 (pc' := 7) rfl rfl ?_
    refine Go.lneg B X0 da_7 (pc' := 8) rfl ?_
    refine Go.goto B X0 da_8 (by decide) (pc' := 12) rfl ?_
    have hx : x < 0 := (lw_lt _ _).mp hc
    exact Go.lret B X0 da_12 nb nb ⟨by rw [if_pos hx], Fr.nil _, e0⟩
theorem own_cmp {a b : Int64} (ha : B53 a) (hb : a = b) : cmpValue (FP.dcmp (FP.l2d a) (FP.l2d b)) .l = 0 := by
  subst hb
  rw [dcmpV_w ha ha]
  exact (lw_eq a a).mpr rfl
theorem own_diff (x y : Int32) : B53 (x.toInt64 - y.toInt64) ∧ (x.toInt64 - y.toInt64).toInt = x.toInt - y.toInt := by
  have h := rng32 x
  have h' := rng32 y
  have e := c_i2l x
  have e' := c_i2l y
  have s := c_lsub x.toInt64 y.toInt64
  have r := rng64 (x.toInt64 - y.toInt64)
  unfold B53
  constructor
  · omega
  · omega
theorem own_mag (x y : Int32) : (y < x → (if x.toInt64 - y.toInt64 < 0 then -(x.toInt64 - y.toInt64) else x.toInt64 - y.toInt64) = x.toInt64 - y.toInt64) ∧ (x < y → (if x.toInt64 - y.toInt64 < 0 then -(x.toInt64 - y.toInt64) else x.toInt64 - y.toInt64) = y.toInt64 - x.toInt64) ∧ (¬ y < x → ¬ x < y → x.toInt64 - y.toInt64 = 0 ∧ y.toInt64 - x.toInt64 = 0) := by
  have a := (own_diff x y).2
  have b := (own_diff y x).2
  have n := c_lneg (x.toInt64 - y.toInt64)
  have r := rng64 (-(x.toInt64 - y.toInt64))
  have z : (0 : Int64).toInt = 0 := by decide
  have rx := rng32 x
  have ry := rng32 y
  rw [Int32.lt_iff_toInt_lt, Int32.lt_iff_toInt_lt]
  refine ⟨fun h => ?_, fun h => ?_, fun h1 h2 => ?_⟩
  · rw [if_neg (by rw [Int64.lt_iff_toInt_lt]; omega)]
  · rw [if_pos (by rw [Int64.lt_iff_toInt_lt]; omega)]
    apply Int64.toInt_inj.mp
    omega
  · constructor <;> (apply Int64.toInt_inj.mp; omega)
theorem own_negneg (x y : Int32) : -(x.toInt64 - y.toInt64) = y.toInt64 - x.toInt64 := by
  have a := (own_diff x y).2
  have b := (own_diff y x).2
  have n := c_lneg (x.toInt64 - y.toInt64)
  have r := rng64 (-(x.toInt64 - y.toInt64))
  have rx := rng32 x
  have ry := rng32 y
  apply Int64.toInt_inj.mp
  omega
set_option maxRecDepth 65536 in
set_option maxHeartbeats 40000000 in
theorem ctL (l : Launch) (Z : State) (a0 : Array Value) (hw : ∀ d ∈ tables_1, d.before a0 Z = true) (p1 p2 p3 : Int32) (h : Heap) (n0 : Nat) (o1 bM : Addr) (SMIN : Sta Z h "com/example/parley/parley/model/Objective" "MIN" "Lcom/example/parley/parley/model/Objective;" (.ref o1)) (SMAX : Sta Z h "com/example/parley/parley/model/Objective" "MAX" "Lcom/example/parley/parley/model/Objective;" (.ref bM)) (EMIN : Exa Z h o1 "com/example/parley/parley/model/Objective") (EMAX : Exa Z h bM "com/example/parley/parley/model/Objective") (hne : ¬ o1 = bM) :
    Ct l Z x code maxLocals ret tables_1 room_1 0 0 [(.int p1), (.int p2), (.int p3)] h (fun v h' L => v = some (.int 1) ∧ Fr n0 L) := by
  refine Ct.mk (plainFor_of_name pnL) (fun m => efL m p1 p2 p3) ?_
  intro p e s m below meth c s₁ B X0 e0
  refine Go.iloadN B X0 at_0 (pc' := 1) rfl rfl ?_
  refine Go.iconst B X0 1 at_1 (pc' := 2) rfl rfl ?_
  refine Go.iand B X0 at_2 (pc' := 3) rfl ?_
  refine Go.ifc B X0 at_3 (by decide) (pcT := 10) rfl (pc' := 6) rfl (fun hc => ?_) (fun hc => ?_)
  · dsimp only [GoKit.CP] at hc
    refine Go.iconst B X0 0 at_10 (pc' := 11) rfl rfl ?_
    refine Go.istoreN B X0 at_11 (pc' := 12) rfl rfl rfl ?_
    dsimp only [put1]
    refine Go.iloadN B X0 at_12 (pc' := 13) rfl rfl ?_
    refine Go.ifT B X0 at_13 (by decide) (pc' := 22) rfl rfl ?_
    refine Go.getS B X0 e0 (tw hw 0 rfl) SMIN at_22 (pc' := 25) rfl ?_
    intro T1 X1 e1
    refine Go.astore B X1 at_25 (pc' := 27) rfl rfl rfl rfl ?_
    dsimp only [put1]
    refine Go.aload B X1 at_27 (pc' := 29) rfl rfl rfl ?_
    refine Go.iloadN B X1 at_29 (pc' := 30) rfl rfl ?_
    refine Go.i2d B X1 at_30 (pc' := 31) rfl ?_
    refine Go.iloadN B X1 at_31 (pc' := 32) rfl rfl ?_
    refine Go.i2d B X1 at_32 (pc' := 33) rfl ?_
    refine Go.callV B X1 e1 (y := ⟨"com/example/parley/parley/model/Objective", "improvement", "(DD)D"⟩) (z := ⟨"com/example/parley/parley/model/Objective", "improvement", "(DD)D"⟩) (Ct.back (W := 0) (ctI0 l Z a0 hw o1 bM p2 p3 h n0 SMAX hne) B.hZ (tw hw 7 rfl) (tw hw 1 rfl) nb nb) EMIN (tw hw 3 rfl) (tw hw 4 rfl) (tw hw 6 rfl) (tw hw 5 rfl) (by decide) (notFace_of_selects (args := #[]) (mvT B.hZ (tw hw 6 rfl))) pdI at_33 (pc' := 36) rfl rfl (rest := []) rfl rfl nb nb nb ?_
    intro v2 T2 L2 X2 Q2
    obtain ⟨rfl, N2, e2⟩ := Q2
    dsimp only [Option.toList, List.nil_append, List.cons_append]
    rw [own_sub]
    refine Go.dstore B X2 at_36 (pc' := 38) rfl rfl rfl rfl rfl ?_
    dsimp only [put1]
    refine Go.iloadN B X2 at_38 (pc' := 39) rfl rfl ?_
    refine Go.i2l B X2 at_39 (pc' := 40) rfl ?_
    refine Go.iloadN B X2 at_40 (pc' := 41) rfl rfl ?_
    refine Go.i2l B X2 at_41 (pc' := 42) rfl ?_
    refine Go.lsub B X2 at_42 (pc' := 43) rfl ?_
    refine Go.callS B X2 e2 (Ct.back (W := 0) (ctA l Z a0 hw _ h n0) B.hZ (tw hw 13 rfl) (tw hw 12 rfl) nb nb) (tw hw 10 rfl) (tw hw 11 rfl) (tw hw 12 rfl) (tw hw 13 rfl) (by decide) pdA at_43 (pc' := 46) rfl rfl (rest := []) rfl rfl nb nb nb ?_
    intro v3 T3 L3 X3 Q3
    obtain ⟨rfl, N3, e3⟩ := Q3
    dsimp only [Option.toList, List.nil_append, List.cons_append]
    obtain ⟨m1, m2, m3⟩ := own_mag p3 p2
    have N := Fr.app (Fr.app (Fr.nil n0) N2) N3
    generalize hmag : (if p3.toInt64 - p2.toInt64 < 0 then -(p3.toInt64 - p2.toInt64) else p3.toInt64 - p2.toInt64) = mag at *
    refine Go.lstore B X3 at_46 (pc' := 48) rfl rfl rfl rfl rfl ?_
    dsimp only [put1]
    refine Go.iloadN B X3 at_48 (pc' := 49) rfl rfl ?_
    refine Go.ifT B X3 at_49 (by decide) (pc' := 65) rfl rfl ?_
    refine Go.iloadN B X3 at_65 (pc' := 66) rfl rfl ?_
    refine Go.iloadN B X3 at_66 (pc' := 67) rfl rfl ?_
    by_cases hgt : p2 < p3
    · have hlt : ¬ p3 < p2 := fun q => Int32.lt_irrefl (Int32.lt_trans hgt q)
      refine Go.icT B X3 at_67 (by decide) (pc' := 74) rfl hlt ?_
      refine Go.iconst B X3 0 at_74 (pc' := 75) rfl rfl ?_
      refine Go.istore B X3 at_75 (pc' := 77) rfl rfl rfl ?_
      dsimp only [put1]
      refine Go.iloadN B X3 at_77 (pc' := 78) rfl rfl ?_
      refine Go.ifT B X3 at_78 (by decide) (pc' := 94) rfl rfl ?_
      refine Go.iloadN B X3 at_94 (pc' := 95) rfl rfl ?_
      refine Go.iloadN B X3 at_95 (pc' := 96) rfl rfl ?_
      refine Go.icF B X3 at_96 (pc' := 99) rfl hgt ?_
      refine Go.iconst B X3 1 at_99 (pc' := 100) rfl rfl ?_
      refine Go.goto B X3 at_100 (by decide) (pc' := 104) rfl ?_
      refine Go.istore B X3 at_104 (pc' := 106) rfl rfl rfl ?_
      dsimp only [put1]
      refine Go.iload B X3 at_106 (pc' := 108) rfl rfl ?_
      refine Go.ifT B X3 at_108 (by decide) (pc' := 118) rfl rfl ?_
      refine Go.iload B X3 at_118 (pc' := 120) rfl rfl ?_
      refine Go.ifF B X3 at_120 (pc' := 123) rfl (by decide) ?_
      refine Go.lload B X3 at_123 (pc' := 125) rfl rfl ?_
      refine Go.lneg B X3 at_125 (pc' := 126) rfl ?_
      refine Go.lstore B X3 at_126 (pc' := 128) rfl rfl rfl rfl rfl ?_
      dsimp only [put1]
      refine Go.goto B X3 at_128 (by decide) (pc' := 134) rfl ?_
      refine Go.dload B X3 at_134 (pc' := 136) rfl rfl ?_
      refine Go.lload B X3 at_136 (pc' := 138) rfl rfl ?_
      refine Go.l2d B X3 at_138 (pc' := 139) rfl ?_
      refine Go.dcmp B X3 at_139 (pc' := 140) rfl ?_
      refine Go.ifF B X3 at_140 (pc' := 143) rfl (own_cmp (own_diff p2 p3).1 (by rw [m1 hgt, own_negneg])) ?_
      refine Go.iconst B X3 1 at_143 (pc' := 144) rfl rfl ?_
      refine Go.goto B X3 at_144 (by decide) (pc' := 148) rfl ?_
      exact Go.zret B X3 at_148 rfl nb nb ⟨rfl, N⟩
    · by_cases hlt : p3 < p2
      · refine Go.icF B X3 at_67 (pc' := 70) rfl hlt ?_
        refine Go.iconst B X3 1 at_70 (pc' := 71) rfl rfl ?_
        refine Go.goto B X3 at_71 (by decide) (pc' := 75) rfl ?_
        refine Go.istore B X3 at_75 (pc' := 77) rfl rfl rfl ?_
        dsimp only [put1]
        refine Go.iloadN B X3 at_77 (pc' := 78) rfl rfl ?_
        refine Go.ifT B X3 at_78 (by decide) (pc' := 94) rfl rfl ?_
        refine Go.iloadN B X3 at_94 (pc' := 95) rfl rfl ?_
        refine Go.iloadN B X3 at_95 (pc' := 96) rfl rfl ?_
        refine Go.icT B X3 at_96 (by decide) (pc' := 103) rfl hgt ?_
        refine Go.iconst B X3 0 at_103 (pc' := 104) rfl rfl ?_
        refine Go.istore B X3 at_104 (pc' := 106) rfl rfl rfl ?_
        dsimp only [put1]
        refine Go.iload B X3 at_106 (pc' := 108) rfl rfl ?_
        refine Go.ifF B X3 at_108 (pc' := 111) rfl (by decide) ?_
        refine Go.lload B X3 at_111 (pc' := 113) rfl rfl ?_
        refine Go.lstore B X3 at_113 (pc' := 115) rfl rfl rfl rfl rfl ?_
        dsimp only [put1]
        refine Go.goto B X3 at_115 (by decide) (pc' := 134) rfl ?_
        refine Go.dload B X3 at_134 (pc' := 136) rfl rfl ?_
        refine Go.lload B X3 at_136 (pc' := 138) rfl rfl ?_
        refine Go.l2d B X3 at_138 (pc' := 139) rfl ?_
        refine Go.dcmp B X3 at_139 (pc' := 140) rfl ?_
        refine Go.ifF B X3 at_140 (pc' := 143) rfl (own_cmp (own_diff p2 p3).1 (by rw [m2 hlt])) ?_
        refine Go.iconst B X3 1 at_143 (pc' := 144) rfl rfl ?_
        refine Go.goto B X3 at_144 (by decide) (pc' := 148) rfl ?_
        exact Go.zret B X3 at_148 rfl nb nb ⟨rfl, N⟩
      · refine Go.icT B X3 at_67 (by decide) (pc' := 74) rfl hlt ?_
        refine Go.iconst B X3 0 at_74 (pc' := 75) rfl rfl ?_
        refine Go.istore B X3 at_75 (pc' := 77) rfl rfl rfl ?_
        dsimp only [put1]
        refine Go.iloadN B X3 at_77 (pc' := 78) rfl rfl ?_
        refine Go.ifT B X3 at_78 (by decide) (pc' := 94) rfl rfl ?_
        refine Go.iloadN B X3 at_94 (pc' := 95) rfl rfl ?_
        refine Go.iloadN B X3 at_95 (pc' := 96) rfl rfl ?_
        refine Go.icT B X3 at_96 (by decide) (pc' := 103) rfl hgt ?_
        refine Go.iconst B X3 0 at_103 (pc' := 104) rfl rfl ?_
        refine Go.istore B X3 at_104 (pc' := 106) rfl rfl rfl ?_
        dsimp only [put1]
        refine Go.iload B X3 at_106 (pc' := 108) rfl rfl ?_
        refine Go.ifT B X3 at_108 (by decide) (pc' := 118) rfl rfl ?_
        refine Go.iload B X3 at_118 (pc' := 120) rfl rfl ?_
        refine Go.ifT B X3 at_120 (by decide) (pc' := 131) rfl rfl ?_
        refine Go.lconst B X3 0 at_131 (pc' := 132) rfl rfl ?_
        refine Go.lstore B X3 at_132 (pc' := 134) rfl rfl rfl rfl rfl ?_
        dsimp only [put1]
        refine Go.dload B X3 at_134 (pc' := 136) rfl rfl ?_
        refine Go.lload B X3 at_136 (pc' := 138) rfl rfl ?_
        refine Go.l2d B X3 at_138 (pc' := 139) rfl ?_
        refine Go.dcmp B X3 at_139 (pc' := 140) rfl ?_
        refine Go.ifF B X3 at_140 (pc' := 143) rfl (own_cmp (own_diff p2 p3).1 (m3 hgt hlt).2) ?_
        refine Go.iconst B X3 1 at_143 (pc' := 144) rfl rfl ?_
        refine Go.goto B X3 at_144 (by decide) (pc' := 148) rfl ?_
        exact Go.zret B X3 at_148 rfl nb nb ⟨rfl, N⟩
  · dsimp only [GoKit.CN] at hc
    refine Go.iconst B X0 1 at_6 (pc' := 7) rfl rfl ?_
    refine Go.goto B X0 at_7 (by decide) (pc' := 11) rfl ?_
    refine Go.istoreN B X0 at_11 (pc' := 12) rfl rfl rfl ?_
    dsimp only [put1]
    refine Go.iloadN B X0 at_12 (pc' := 13) rfl rfl ?_
    refine Go.ifF B X0 at_13 (pc' := 16) rfl (by decide) ?_
    refine Go.getS B X0 e0 (tw hw 14 rfl) SMAX at_16 (pc' := 19) rfl ?_
    intro T1 X1 e1
    refine Go.goto B X1 at_19 (by decide) (pc' := 25) rfl ?_
    refine Go.astore B X1 at_25 (pc' := 27) rfl rfl rfl rfl ?_
    dsimp only [put1]
    refine Go.aload B X1 at_27 (pc' := 29) rfl rfl rfl ?_
    refine Go.iloadN B X1 at_29 (pc' := 30) rfl rfl ?_
    refine Go.i2d B X1 at_30 (pc' := 31) rfl ?_
    refine Go.iloadN B X1 at_31 (pc' := 32) rfl rfl ?_
    refine Go.i2d B X1 at_32 (pc' := 33) rfl ?_
    refine Go.callV B X1 e1 (y := ⟨"com/example/parley/parley/model/Objective", "improvement", "(DD)D"⟩) (z := ⟨"com/example/parley/parley/model/Objective", "improvement", "(DD)D"⟩) (Ct.back (W := 0) (ctI1 l Z a0 hw bM bM p2 p3 h n0 SMAX rfl) B.hZ (tw hw 7 rfl) (tw hw 1 rfl) nb nb) EMAX (tw hw 3 rfl) (tw hw 4 rfl) (tw hw 6 rfl) (tw hw 5 rfl) (by decide) (notFace_of_selects (args := #[]) (mvT B.hZ (tw hw 6 rfl))) pdI at_33 (pc' := 36) rfl rfl (rest := []) rfl rfl nb nb nb ?_
    intro v2 T2 L2 X2 Q2
    obtain ⟨rfl, N2, e2⟩ := Q2
    dsimp only [Option.toList, List.nil_append, List.cons_append]
    rw [own_sub]
    refine Go.dstore B X2 at_36 (pc' := 38) rfl rfl rfl rfl rfl ?_
    dsimp only [put1]
    refine Go.iloadN B X2 at_38 (pc' := 39) rfl rfl ?_
    refine Go.i2l B X2 at_39 (pc' := 40) rfl ?_
    refine Go.iloadN B X2 at_40 (pc' := 41) rfl rfl ?_
    refine Go.i2l B X2 at_41 (pc' := 42) rfl ?_
    refine Go.lsub B X2 at_42 (pc' := 43) rfl ?_
    refine Go.callS B X2 e2 (Ct.back (W := 0) (ctA l Z a0 hw _ h n0) B.hZ (tw hw 13 rfl) (tw hw 12 rfl) nb nb) (tw hw 10 rfl) (tw hw 11 rfl) (tw hw 12 rfl) (tw hw 13 rfl) (by decide) pdA at_43 (pc' := 46) rfl rfl (rest := []) rfl rfl nb nb nb ?_
    intro v3 T3 L3 X3 Q3
    obtain ⟨rfl, N3, e3⟩ := Q3
    dsimp only [Option.toList, List.nil_append, List.cons_append]
    obtain ⟨m1, m2, m3⟩ := own_mag p3 p2
    have N := Fr.app (Fr.app (Fr.nil n0) N2) N3
    generalize hmag : (if p3.toInt64 - p2.toInt64 < 0 then -(p3.toInt64 - p2.toInt64) else p3.toInt64 - p2.toInt64) = mag at *
    refine Go.lstore B X3 at_46 (pc' := 48) rfl rfl rfl rfl rfl ?_
    dsimp only [put1]
    refine Go.iloadN B X3 at_48 (pc' := 49) rfl rfl ?_
    refine Go.ifF B X3 at_49 (pc' := 52) rfl (by decide) ?_
    refine Go.iloadN B X3 at_52 (pc' := 53) rfl rfl ?_
    refine Go.iloadN B X3 at_53 (pc' := 54) rfl rfl ?_
    by_cases hgt : p2 < p3
    · have hlt : ¬ p3 < p2 := fun q => Int32.lt_irrefl (Int32.lt_trans hgt q)
      refine Go.icF B X3 at_54 (pc' := 57) rfl hgt ?_
      refine Go.iconst B X3 1 at_57 (pc' := 58) rfl rfl ?_
      refine Go.goto B X3 at_58 (by decide) (pc' := 75) rfl ?_
      refine Go.istore B X3 at_75 (pc' := 77) rfl rfl rfl ?_
      dsimp only [put1]
      refine Go.iloadN B X3 at_77 (pc' := 78) rfl rfl ?_
      refine Go.ifF B X3 at_78 (pc' := 81) rfl (by decide) ?_
      refine Go.iloadN B X3 at_81 (pc' := 82) rfl rfl ?_
      refine Go.iloadN B X3 at_82 (pc' := 83) rfl rfl ?_
      refine Go.icT B X3 at_83 (by decide) (pc' := 90) rfl hlt ?_
      refine Go.iconst B X3 0 at_90 (pc' := 91) rfl rfl ?_
      refine Go.goto B X3 at_91 (by decide) (pc' := 104) rfl ?_
      refine Go.istore B X3 at_104 (pc' := 106) rfl rfl rfl ?_
      dsimp only [put1]
      refine Go.iload B X3 at_106 (pc' := 108) rfl rfl ?_
      refine Go.ifF B X3 at_108 (pc' := 111) rfl (by decide) ?_
      refine Go.lload B X3 at_111 (pc' := 113) rfl rfl ?_
      refine Go.lstore B X3 at_113 (pc' := 115) rfl rfl rfl rfl rfl ?_
      dsimp only [put1]
      refine Go.goto B X3 at_115 (by decide) (pc' := 134) rfl ?_
      refine Go.dload B X3 at_134 (pc' := 136) rfl rfl ?_
      refine Go.lload B X3 at_136 (pc' := 138) rfl rfl ?_
      refine Go.l2d B X3 at_138 (pc' := 139) rfl ?_
      refine Go.dcmp B X3 at_139 (pc' := 140) rfl ?_
      refine Go.ifF B X3 at_140 (pc' := 143) rfl (own_cmp (own_diff p3 p2).1 (by rw [m1 hgt])) ?_
      refine Go.iconst B X3 1 at_143 (pc' := 144) rfl rfl ?_
      refine Go.goto B X3 at_144 (by decide) (pc' := 148) rfl ?_
      exact Go.zret B X3 at_148 rfl nb nb ⟨rfl, N⟩
    · by_cases hlt : p3 < p2
      · refine Go.icT B X3 at_54 (by decide) (pc' := 61) rfl hgt ?_
        refine Go.iconst B X3 0 at_61 (pc' := 62) rfl rfl ?_
        refine Go.goto B X3 at_62 (by decide) (pc' := 75) rfl ?_
        refine Go.istore B X3 at_75 (pc' := 77) rfl rfl rfl ?_
        dsimp only [put1]
        refine Go.iloadN B X3 at_77 (pc' := 78) rfl rfl ?_
        refine Go.ifF B X3 at_78 (pc' := 81) rfl (by decide) ?_
        refine Go.iloadN B X3 at_81 (pc' := 82) rfl rfl ?_
        refine Go.iloadN B X3 at_82 (pc' := 83) rfl rfl ?_
        refine Go.icF B X3 at_83 (pc' := 86) rfl hlt ?_
        refine Go.iconst B X3 1 at_86 (pc' := 87) rfl rfl ?_
        refine Go.goto B X3 at_87 (by decide) (pc' := 104) rfl ?_
        refine Go.istore B X3 at_104 (pc' := 106) rfl rfl rfl ?_
        dsimp only [put1]
        refine Go.iload B X3 at_106 (pc' := 108) rfl rfl ?_
        refine Go.ifT B X3 at_108 (by decide) (pc' := 118) rfl rfl ?_
        refine Go.iload B X3 at_118 (pc' := 120) rfl rfl ?_
        refine Go.ifF B X3 at_120 (pc' := 123) rfl (by decide) ?_
        refine Go.lload B X3 at_123 (pc' := 125) rfl rfl ?_
        refine Go.lneg B X3 at_125 (pc' := 126) rfl ?_
        refine Go.lstore B X3 at_126 (pc' := 128) rfl rfl rfl rfl rfl ?_
        dsimp only [put1]
        refine Go.goto B X3 at_128 (by decide) (pc' := 134) rfl ?_
        refine Go.dload B X3 at_134 (pc' := 136) rfl rfl ?_
        refine Go.lload B X3 at_136 (pc' := 138) rfl rfl ?_
        refine Go.l2d B X3 at_138 (pc' := 139) rfl ?_
        refine Go.dcmp B X3 at_139 (pc' := 140) rfl ?_
        refine Go.ifF B X3 at_140 (pc' := 143) rfl (own_cmp (own_diff p3 p2).1 (by rw [m2 hlt, own_negneg])) ?_
        refine Go.iconst B X3 1 at_143 (pc' := 144) rfl rfl ?_
        refine Go.goto B X3 at_144 (by decide) (pc' := 148) rfl ?_
        exact Go.zret B X3 at_148 rfl nb nb ⟨rfl, N⟩
      · refine Go.icT B X3 at_54 (by decide) (pc' := 61) rfl hgt ?_
        refine Go.iconst B X3 0 at_61 (pc' := 62) rfl rfl ?_
        refine Go.goto B X3 at_62 (by decide) (pc' := 75) rfl ?_
        refine Go.istore B X3 at_75 (pc' := 77) rfl rfl rfl ?_
        dsimp only [put1]
        refine Go.iloadN B X3 at_77 (pc' := 78) rfl rfl ?_
        refine Go.ifF B X3 at_78 (pc' := 81) rfl (by decide) ?_
        refine Go.iloadN B X3 at_81 (pc' := 82) rfl rfl ?_
        refine Go.iloadN B X3 at_82 (pc' := 83) rfl rfl ?_
        refine Go.icT B X3 at_83 (by decide) (pc' := 90) rfl hlt ?_
        refine Go.iconst B X3 0 at_90 (pc' := 91) rfl rfl ?_
        refine Go.goto B X3 at_91 (by decide) (pc' := 104) rfl ?_
        refine Go.istore B X3 at_104 (pc' := 106) rfl rfl rfl ?_
        dsimp only [put1]
        refine Go.iload B X3 at_106 (pc' := 108) rfl rfl ?_
        refine Go.ifT B X3 at_108 (by decide) (pc' := 118) rfl rfl ?_
        refine Go.iload B X3 at_118 (pc' := 120) rfl rfl ?_
        refine Go.ifT B X3 at_120 (by decide) (pc' := 131) rfl rfl ?_
        refine Go.lconst B X3 0 at_131 (pc' := 132) rfl rfl ?_
        refine Go.lstore B X3 at_132 (pc' := 134) rfl rfl rfl rfl rfl ?_
        dsimp only [put1]
        refine Go.dload B X3 at_134 (pc' := 136) rfl rfl ?_
        refine Go.lload B X3 at_136 (pc' := 138) rfl rfl ?_
        refine Go.l2d B X3 at_138 (pc' := 139) rfl ?_
        refine Go.dcmp B X3 at_139 (pc' := 140) rfl ?_
        refine Go.ifF B X3 at_140 (pc' := 143) rfl (own_cmp (own_diff p3 p2).1 (m3 hgt hlt).1) ?_
        refine Go.iconst B X3 1 at_143 (pc' := 144) rfl rfl ?_
        refine Go.goto B X3 at_144 (by decide) (pc' := 148) rfl ?_
        exact Go.zret B X3 at_148 rfl nb nb ⟨rfl, N⟩
set_option maxRecDepth 65536 in
set_option maxHeartbeats 40000000 in
theorem comes_1 {Post : Tables → Env → Array Value → State → Outcome → State → Prop} (hpost : ∀ tb e args s v u, (limb_1_1.after args s (.returned v) u = true ∧ limb_1_2.after args s (.returned v) u = true ∧ True) → FrameEnd s (.returned v) u (Jvm.fieldLocs frame_1_writes args s ++ Jvm.arrayLocs frame_1_arrays args s ++ Jvm.staticLocs frame_1_statics s) 0 0 → Post tb e args s (.returned v) u) :
    ArmFor flags0 classFile x code maxLocals ret World_1 tables_1 room_1 Calls_1 rest_1 Pre_1 Post := by
  intro l hfl _ _ p e ha hc hk s m args below hf hA hF happ hP
  obtain ⟨hcalls, hrest, hpre⟩ := hP
  obtain ⟨-, -, -, hnamed, -, -, -, hat⟩ := (Spec.applies_iff hf).mp happ
  obtain ⟨hg, hn⟩ := and_e (Cond.before_iff.mp (show (Jvm.Cond.and given_1 narrow_1).before args s = true from hpre))
  obtain ⟨g0, k0⟩ := and_e hg
  obtain ⟨g1, k1⟩ := and_e k0
  obtain ⟨g2, k2⟩ := and_e k1
  obtain ⟨w0, w1, w2, rfl⟩ : ∃ w0 w1 w2 : Value, args = #[w0, w1, w2] := by
    have hs : args.size = 3 := by simpa [Cond.value, given_1] using g0
    obtain ⟨L⟩ := args
    match L, hs with
    | [w0, w1, w2], _ => exact ⟨w0, w1, w2, rfl⟩
  have hw := fun d (hd : d ∈ tables_1) => atoms_spec (ws := Jvm.Cond.code x code maxLocals ret :: tables_1) hat d (List.mem_cons_of_mem _ hd)
  have hfit : Fit s := fun {y c} hc i hi => by
    obtain ⟨ha, rfl⟩ := Array.getElem?_eq_some_iff.mp hc
    have q := List.all_eq_true.mp ((Array.all_eq_true_iff_forall_mem.mp hF) _ (Array.getElem_mem ha)) i (List.mem_range.mpr hi)
    simpa [Array.getElem?_eq_getElem hi] using q
  obtain ⟨i0, t0⟩ := is_v g1
  obtain rfl : w0 = (.int i0) := Option.some.inj t0
  obtain ⟨i1, t1⟩ := is_v g2
  obtain rfl : w1 = (.int i1) := Option.some.inj t1
  obtain ⟨i2, t2⟩ := is_v k2
  obtain rfl : w2 = (.int i2) := Option.some.inj t2
  obtain ⟨x1, hn⟩ := and_e hn
  obtain ⟨x2, hn⟩ := and_e hn
  obtain ⟨x3, x4⟩ := and_e hn
  obtain ⟨o1, _, _, _, y1, -⟩ := Cond.exactly_spec (Cond.before_iff.mpr x1 : (Jvm.Cond.exactly _ _).before _ _ = true)
  obtain ⟨bM, _, _, _, y2, -⟩ := Cond.exactly_spec (Cond.before_iff.mpr x2 : (Jvm.Cond.exactly _ _).before _ _ = true)
  have EMIN := Exa.start y1 x1
  have EMAX := Exa.start y2 x2
  have SMIN : Sta s s.heap "com/example/parley/parley/model/Objective" "MIN" "Lcom/example/parley/parley/model/Objective;" (.ref o1) := Sta.start y1 (Or.inr ⟨tw hw 1 rfl, tw hw 2 rfl⟩)
  have SMAX : Sta s s.heap "com/example/parley/parley/model/Objective" "MAX" "Lcom/example/parley/parley/model/Objective;" (.ref bM) := Sta.start y2 (Or.inr ⟨tw hw 1 rfl, tw hw 9 rfl⟩)
  have hne : ¬ o1 = bM := by
    intro q
    have z1 := (fld_at y1).symm.trans (eqv_i (Term.int_eval 0) x3)
    have z2 := (fld_at y2).symm.trans (eqv_i (Term.int_eval 1) x4)
    rw [q] at z1
    have z3 := z1.symm.trans z2
    exact absurd z3 (by decide)
  obtain ⟨n, o, h1, h2, h3, _, L, rfl, ⟨rfl, N⟩, hq⟩ := ctL l s _ hw i0 i1 i2 s.heap s.heap.size o1 bM SMIN SMAX EMIN EMAX hne p e ha hc hk s m _ below hf ((Spec.applies_iff_loose hf).mp happ).1 ⟨rfl, State.Warmed39.refl s, rfl⟩ trivial
  refine ⟨n, _, h1, h2, h3, hpost _ _ _ _ _ _ ⟨Cond.after_iff.mpr rfl, Cond.after_iff.mpr (eq_i res_at (Term.int_eval (1)) rfl), trivial⟩ ⟨hq.1, hq.2.1, (hq.2.2.sift fun y hy => Or.inr (N y hy)).mono (by decide) (by decide)⟩⟩
theorem main_1_1 : Claimed_1_1 := comes_1 fun _ _ _ _ _ _ h hF => ⟨h.1, hF⟩
theorem main_1_2 : Claimed_1_2 := comes_1 fun _ _ _ _ _ _ h hF => ⟨h.2.1, hF⟩
end Jvm.Pilot.@@N@@
namespace Jvm.Pilot.@@N@@
open Jvm Jvm.ClassFile Sem Op Lib Jvm.Free Jvm.Stand Jvm.Pilot.@@N@@.Jvm.D
/-! MADE BY PROGRAM (witnessworld.py) out of the Statement's table words and the real class files: 13 classes; the members and pool entries that the words name. The judged class is class 1, her method 1. -/
namespace start1
open Jvm.ClassFile
def u (s : String) : CpInfo := .utf8 (stringToUtf16 s)
/-- a pool by its gaps: so many unusable entries, then the entry; so many at the end -/
def gap : Nat → List CpInfo → List CpInfo
  | 0, r => r
  | n + 1, r => .unusable :: gap n r
def poolList (es : List (Nat × CpInfo)) (last : Nat) : List CpInfo := es.foldr (fun e r => gap e.1 (e.2 :: r)) (gap last [])
def pool (es : List (Nat × CpInfo)) (last : Nat) : Array CpInfo := ⟨poolList es last⟩
def fileOf (pool : Array CpInfo) (this : Nat) (attrs : Array Attribute := #[]) (ms : Array MethodInfo := #[]) (fl : Nat := 33) (sup : Nat := 0) (ifs : Array Nat := #[]) (fds : Array FieldInfo := #[]) : ClassFile where
  minorVersion := 0
  majorVersion := 65
  constantPool := pool
  accessFlags := fl
  thisClass := this
  superClass := sup
  interfaces := ifs
  fields := fds
  methods := ms
  attributes := attrs
def plain (name : String) (sup : Option ClassId) : Class where
  name := name
  kind := .ordinary
  loader := none
  accessFlags := 33
  super := sup
  interfaces := #[]
  cf := none
  fields := #[]
  methods := #[]
  instanceTypes := #[]
  staticTypes := #[]
  resolved := #[]
  callSites := []
  init := .initialized
  statics := none
  mirror := none

def pool0 : Array CpInfo := pool [(5, u "<init>"), (0, u "()V"), (1, .class_ 10), (1, u "java/lang/Object")] 113

def k0m0 : Method := { name := "<init>", desc := "()V", sig := { parameters := [], returnType := none }, accessFlags := 1, code := none }
/-- java/lang/Object -/
def k0 : Class := { plain "java/lang/Object" none with
  accessFlags := 33
  interfaces := #[]
  cf := some (fileOf pool0 8 #[] #[{ accessFlags := 1, nameIndex := 5, descriptorIndex := 6, attributes := #[] }] 33 0 #[] #[])
  fields := #[]
  methods := #[k0m0]
  instanceTypes := #[]
  staticTypes := #[]
  resolved := Array.replicate 124 none
  statics := none }

def pool1 : Array CpInfo := pool [(2, .class_ 4), (1, u "java/lang/Object"), (0, u "<init>"), (0, u "()V"), (0, .fieldref 8 9), (0, .class_ 10), (0, .nameAndType 11 12), (0, u "com/example/parley/parley/model/Objective"), (0, u "MAX"), (0, u "Lcom/example/parley/parley/model/Objective;"), (0, .fieldref 8 14), (0, .nameAndType 15 12), (0, u "MIN"), (0, .methodref 8 17), (0, .nameAndType 18 19), (0, u "improvement"), (0, u "(DD)D"), (0, .methodref 21 22), (0, .class_ 23), (0, .nameAndType 24 25), (0, u "java/lang/Math"), (0, u "abs"), (0, u "(J)J"), (0, .class_ 27), (0, u "com/example/parley/parley/model/ObjectiveImprovementPinLaw"), (2, u "law"), (0, u "(III)Z")] 3

def k1m0 : Method := { name := "<init>", desc := "()V", sig := { parameters := [], returnType := none }, accessFlags := 1, code := none }
def k1c1 : Code := { maxStack := 5, maxLocals := 13, code := code, exceptionTable := #[], attributes := #[] }
def k1m1 : Method := { name := "law", desc := "(III)Z", sig := { parameters := [.int, .int, .int], returnType := some .boolean }, accessFlags := 9, code := some k1c1 }
/-- com/example/parley/parley/model/ObjectiveImprovementPinLaw -/
def k1 : Class := { plain "com/example/parley/parley/model/ObjectiveImprovementPinLaw" (some 0) with
  accessFlags := 49
  interfaces := #[]
  cf := some (fileOf pool1 26 #[] #[{ accessFlags := 1, nameIndex := 5, descriptorIndex := 6, attributes := #[] }, { accessFlags := 9, nameIndex := 30, descriptorIndex := 31, attributes := #[] }] 49 2 #[] #[])
  fields := #[]
  methods := #[k1m0, k1m1]
  instanceTypes := #[]
  staticTypes := #[]
  resolved := Array.replicate 35 none
  statics := none }

def pool2 : Array CpInfo := pool [(1, .class_ 2), (0, u "java/lang/constant/Constable"), (0, .class_ 4), (0, u "java/lang/Object")] 6

/-- java/lang/constant/Constable -/
def k2 : Class := { plain "java/lang/constant/Constable" (some 0) with
  accessFlags := 1537
  interfaces := #[]
  cf := some (fileOf pool2 1 #[] #[] 1537 3 #[] #[])
  fields := #[]
  methods := #[]
  instanceTypes := #[]
  staticTypes := #[]
  resolved := Array.replicate 11 none
  statics := none }

def pool3 : Array CpInfo := pool [(1, .class_ 2), (0, u "java/lang/Comparable"), (0, .class_ 4), (0, u "java/lang/Object")] 7

/-- java/lang/Comparable -/
def k3 : Class := { plain "java/lang/Comparable" (some 0) with
  accessFlags := 1537
  interfaces := #[]
  cf := some (fileOf pool3 1 #[] #[] 1537 3 #[] #[])
  fields := #[]
  methods := #[]
  instanceTypes := #[]
  staticTypes := #[]
  resolved := Array.replicate 12 none
  statics := none }

def pool4 : Array CpInfo := pool [(1, .class_ 2), (0, u "java/io/Serializable"), (0, .class_ 4), (0, u "java/lang/Object")] 2

/-- java/io/Serializable -/
def k4 : Class := { plain "java/io/Serializable" (some 0) with
  accessFlags := 1537
  interfaces := #[]
  cf := some (fileOf pool4 1 #[] #[] 1537 3 #[] #[])
  fields := #[]
  methods := #[]
  instanceTypes := #[]
  staticTypes := #[]
  resolved := Array.replicate 7 none
  statics := none }

def pool5 : Array CpInfo := pool [(2, .class_ 4), (1, u "java/lang/Enum"), (0, u "name"), (0, u "Ljava/lang/String;"), (2, u "ordinal"), (0, u "I"), (1, .class_ 14), (1, u "java/lang/Object"), (4, u "hash"), (86, .class_ 108), (1, u "java/lang/Enum$EnumDesc"), (2, .class_ 112), (0, u "java/lang/constant/Constable"), (0, .class_ 114), (0, u "java/lang/Comparable"), (0, .class_ 116), (0, u "java/io/Serializable")] 87

/-- java/lang/Enum -/
def k5 : Class := { plain "java/lang/Enum" (some 0) with
  accessFlags := 1057
  interfaces := #[2, 3, 4]
  cf := some (fileOf pool5 2 #[.nestMembers #[106]] #[] 1057 12 #[111, 113, 115] #[{ accessFlags := 18, nameIndex := 5, descriptorIndex := 6, attributes := #[] }, { accessFlags := 18, nameIndex := 9, descriptorIndex := 10, attributes := #[] }, { accessFlags := 2, nameIndex := 19, descriptorIndex := 10, attributes := #[] }])
  fields := #[{ name := "name", type := (.object "java/lang/String"), accessFlags := 18, slot := 0, constantValue := 0 }, { name := "ordinal", type := .int, accessFlags := 18, slot := 1, constantValue := 0 }, { name := "hash", type := .int, accessFlags := 2, slot := 2, constantValue := 0 }]
  methods := #[]
  instanceTypes := #[(.object "java/lang/String"), .int, .int]
  staticTypes := #[]
  resolved := Array.replicate 204 none
  statics := none }

def pool6 : Array CpInfo := pool [(1, .class_ 2), (0, u "com/example/parley/parley/model/Objective"), (2, u "MIN"), (0, u "Lcom/example/parley/parley/model/Objective;"), (0, .fieldref 1 8), (0, .nameAndType 9 6), (0, u "MAX"), (2, u "$VALUES"), (0, u "[Lcom/example/parley/parley/model/Objective;"), (6, .class_ 22), (1, u "java/lang/Enum"), (36, u "improvement"), (0, u "(DD)D")] 6

def k6c0 : Code := { maxStack := 4, maxLocals := 5, code := prog_53_method_4_code, exceptionTable := #[], attributes := #[] }
def k6m0 : Method := { name := "improvement", desc := "(DD)D", sig := { parameters := [.double, .double], returnType := some .double }, accessFlags := 1, code := some k6c0 }
/-- com/example/parley/parley/model/Objective -/
def k6 : Class := { plain "com/example/parley/parley/model/Objective" (some 5) with
  accessFlags := 16433
  interfaces := #[]
  cf := some (fileOf pool6 1 #[] #[{ accessFlags := 1, nameIndex := 59, descriptorIndex := 60, attributes := #[] }] 16433 20 #[] #[{ accessFlags := 16409, nameIndex := 5, descriptorIndex := 6, attributes := #[] }, { accessFlags := 16409, nameIndex := 9, descriptorIndex := 6, attributes := #[] }, { accessFlags := 4122, nameIndex := 12, descriptorIndex := 13, attributes := #[] }])
  fields := #[{ name := "MIN", type := (.object "com/example/parley/parley/model/Objective"), accessFlags := 16409, slot := 0, constantValue := 0 }, { name := "MAX", type := (.object "com/example/parley/parley/model/Objective"), accessFlags := 16409, slot := 1, constantValue := 0 }, { name := "$VALUES", type := (.array (.object "com/example/parley/parley/model/Objective")), accessFlags := 4122, slot := 2, constantValue := 0 }]
  methods := #[k6m0]
  instanceTypes := #[(.object "java/lang/String"), .int, .int]
  staticTypes := #[(.object "com/example/parley/parley/model/Objective"), (.object "com/example/parley/parley/model/Objective"), (.array (.object "com/example/parley/parley/model/Objective"))]
  resolved := Array.replicate 67 none
  statics := some 0 }

def pool7 : Array CpInfo := pool [(1, .class_ 2), (0, u "java/lang/Math"), (1, .class_ 6), (1, u "java/lang/Object"), (0, u "<init>"), (0, u "()V"), (89, .class_ 100), (1, u "java/lang/Math$RandomNumberGeneratorHolder"), (23, u "abs"), (0, u "(J)J"), (46, u "negativeZeroFloatBits"), (0, u "J"), (2, u "negativeZeroDoubleBits"), (68, u "$assertionsDisabled"), (0, u "Z"), (91, u "twoToTheDoubleScaleDown"), (0, u "D"), (4, u "twoToTheDoubleScaleUp"), (9, u "E"), (3, u "PI"), (2, u "TAU"), (2, u "DEGREES_TO_RADIANS"), (0, u "RADIANS_TO_DEGREES")] 94

def k7m0 : Method := { name := "<init>", desc := "()V", sig := { parameters := [], returnType := none }, accessFlags := 2, code := none }
def k7c1 : Code := { maxStack := 4, maxLocals := 2, code := jdk_29_method_61_code, exceptionTable := #[], attributes := #[] }
def k7m1 : Method := { name := "abs", desc := "(J)J", sig := { parameters := [.long], returnType := some .long }, accessFlags := 9, code := some k7c1 }
/-- java/lang/Math -/
def k7 : Class := { plain "java/lang/Math" (some 0) with
  accessFlags := 49
  interfaces := #[]
  cf := some (fileOf pool7 1 #[.nestMembers #[98]] #[{ accessFlags := 2, nameIndex := 7, descriptorIndex := 8, attributes := #[] }, { accessFlags := 9, nameIndex := 124, descriptorIndex := 125, attributes := #[] }] 49 4 #[] #[{ accessFlags := 25, nameIndex := 354, descriptorIndex := 339, attributes := #[] }, { accessFlags := 25, nameIndex := 358, descriptorIndex := 339, attributes := #[] }, { accessFlags := 25, nameIndex := 361, descriptorIndex := 339, attributes := #[] }, { accessFlags := 26, nameIndex := 364, descriptorIndex := 339, attributes := #[] }, { accessFlags := 26, nameIndex := 365, descriptorIndex := 339, attributes := #[] }, { accessFlags := 26, nameIndex := 172, descriptorIndex := 173, attributes := #[] }, { accessFlags := 26, nameIndex := 176, descriptorIndex := 173, attributes := #[] }, { accessFlags := 8, nameIndex := 344, descriptorIndex := 339, attributes := #[] }, { accessFlags := 8, nameIndex := 338, descriptorIndex := 339, attributes := #[] }, { accessFlags := 4120, nameIndex := 245, descriptorIndex := 246, attributes := #[] }])
  fields := #[{ name := "E", type := .double, accessFlags := 25, slot := 0, constantValue := 0 }, { name := "PI", type := .double, accessFlags := 25, slot := 1, constantValue := 0 }, { name := "TAU", type := .double, accessFlags := 25, slot := 2, constantValue := 0 }, { name := "DEGREES_TO_RADIANS", type := .double, accessFlags := 26, slot := 3, constantValue := 0 }, { name := "RADIANS_TO_DEGREES", type := .double, accessFlags := 26, slot := 4, constantValue := 0 }, { name := "negativeZeroFloatBits", type := .long, accessFlags := 26, slot := 5, constantValue := 0 }, { name := "negativeZeroDoubleBits", type := .long, accessFlags := 26, slot := 6, constantValue := 0 }, { name := "twoToTheDoubleScaleUp", type := .double, accessFlags := 8, slot := 7, constantValue := 0 }, { name := "twoToTheDoubleScaleDown", type := .double, accessFlags := 8, slot := 8, constantValue := 0 }, { name := "$assertionsDisabled", type := .boolean, accessFlags := 4120, slot := 9, constantValue := 0 }]
  methods := #[k7m0, k7m1]
  instanceTypes := #[]
  staticTypes := #[.double, .double, .double, .double, .double, .long, .long, .double, .double, .boolean]
  resolved := Array.replicate 460 none
  statics := none }

def pool8 : Array CpInfo := pool [(1, u "java/lang/Cloneable"), (0, .class_ 1), (0, u "java/lang/Object"), (0, .class_ 3)] 3

/-- java/lang/Cloneable -/
def k8 : Class := { plain "java/lang/Cloneable" (some 0) with
  accessFlags := 1537
  interfaces := #[]
  cf := some (fileOf pool8 2 #[] #[] 1537 4 #[] #[])
  fields := #[]
  methods := #[]
  instanceTypes := #[]
  staticTypes := #[]
  resolved := Array.replicate 8 none
  statics := none }

/-- the primitive byte -/
def k9 : Class := { plain "byte" none with kind := .primitive 'B', accessFlags := 0x411 }
/-- [B -/
def k10 : Class := { plain "[B" (some 0) with kind := .array 9 .byte, interfaces := #[8, 4], accessFlags := 1041 }

/-- the primitive int -/
def k11 : Class := { plain "int" none with kind := .primitive 'I', accessFlags := 0x411 }
/-- [I -/
def k12 : Class := { plain "[I" (some 0) with kind := .array 11 .int, interfaces := #[8, 4], accessFlags := 1041 }

def heap : Heap := #[{ cls := 6, slots := #[.ref 1, .ref 2, .null], vm := .statics 6 },
  { cls := 6, slots := #[.null, .int 0, .int 0], vm := .none },
  { cls := 6, slots := #[.null, .int 1, .int 0], vm := .none }]
def classes : Array Class := #[k0, k1, k2, k3, k4, k5, k6, k7, k8, k9, k10, k11, k12]
def interned : List (Array UInt16 × Addr) := []
def slotsUsed : Nat := 9
def theMethod : MethodId := ⟨1, 1⟩
def args0 : Array Value := #[.int 1, .int 5, .int 9]
def aboutOver (below : List Frame) : State where
  vm := { classes := classes, interned := interned.toArray }
  heap := heap
  slotsUsed := slotsUsed
  threads := #[{ frames := .invoking theMethod args0 :: below }]
def below0 : List Frame := [.native { method := ⟨0, 0⟩, args := #[] }]
def about1 : State := aboutOver below0
def p0 : Program := .bare "" "" ""
def e0 : Env := launch0.env 0 0 0
theorem w_frames : about1.frames = Frame.invoking theMethod args0 :: below0 := rfl
set_option maxRecDepth 65536 in
theorem w_args : argsFit about1.vm theMethod args0 = true := by decide +kernel
set_option maxRecDepth 65536 in
theorem w_heap : heapFits about1 = true := by decide +kernel
set_option maxRecDepth 65536 in
theorem w_runnable : about1.curStatus? = some .runnable := by decide +kernel
set_option maxRecDepth 65536 in
theorem w_alone : about1.alone = true := by decide +kernel
set_option maxRecDepth 65536 in
theorem w_named : about1.methodNamed? x = some theMethod := by decide +kernel
set_option maxRecDepth 65536 in
theorem w_hears : about1.hears theMethod below0 = true := by decide +kernel
set_option maxRecDepth 65536 in
theorem w_ripe : about1.ripe theMethod args0 below0 = true := by decide +kernel
theorem w_running : about1.status = .running := rfl
set_option maxRecDepth 65536 in
theorem w_room : about1.hasRoom e0.platform room_1 = true :=
  launch0.hasRoom_least _ room_1 (by decide +kernel) (by decide +kernel) (by decide +kernel) (by decide +kernel) (by decide +kernel) (by decide +kernel)
theorem allAtoms_all (ts : List Jvm.Cond) (a : Array Jvm.Value) (st : Jvm.State) : (allAtoms ts).before a st = ts.all (fun c => c.before a st) := by
  induction ts with
  | nil => rfl
  | cons c t ih =>
    show (Jvm.Cond.and c (allAtoms t)).before a st = _
    rw [Jvm.Cond.before_and, ih, List.all_cons]
def words1 : List Jvm.Cond := Jvm.Cond.code x code maxLocals ret :: tables_1
/-- a 'code' word, met by the world's own term for the bytes: nothing is compared byte by byte -/
theorem code_word {y : MethodName} {bytes : ByteArray} {mx : Nat} {rt : Option FieldType} {a : Array Value} {s : State} {m : MethodId} {meth : Method} {c : Code} (h1 : s.methodNamed? y = some m) (h2 : s.vm.method? m = some meth) (h3 : meth.code = some c) (h4 : c.code = bytes)
    (h5 : (c.maxLocals == mx && c.exceptionTable.isEmpty && decide (c.maxStack ≤ mostOperands) && decide (meth.sig.returnType = rt) && !meth.locks && decide (parseMethodDescriptor y.desc = some meth.sig)) = true) : (Jvm.Cond.code y bytes mx rt).before a s = true := by
  simp only [Bool.and_eq_true, beq_iff_eq, Bool.not_eq_true', decide_eq_true_eq] at h5
  obtain ⟨⟨⟨⟨⟨g1, g2⟩, g3⟩, g4⟩, g5⟩, g6⟩ := h5
  simp [Cond.before, Cond.holds, Cond.value, h1, h2, h3, h4, g1, g2, g3, g4, g5, g6]
def isCode : Jvm.Cond → Bool
  | .code _ _ _ _ => true
  | _ => false
theorem all_split {L : List Jvm.Cond} {P : Jvm.Cond → Bool} (h1 : L.all (fun c => isCode c || P c) = true) (h2 : ∀ c ∈ L.filter isCode, P c = true) : L.all P = true := by
  refine List.all_eq_true.mpr fun c hc => ?_
  have h := List.all_eq_true.mp h1 c hc
  rcases Bool.eq_false_or_eq_true (isCode c) with hi | hi
  · exact h2 c (List.mem_filter.mpr ⟨hc, hi⟩)
  · simpa [hi] using h
set_option maxRecDepth 65536 in
theorem w_c0 : (Jvm.Cond.code x code maxLocals ret).before args0 about1 = true := code_word (m := ⟨1, 1⟩) (meth := k1m1) (c := k1c1) (by decide +kernel) rfl rfl rfl (by decide +kernel)
set_option maxRecDepth 65536 in
theorem w_c1 : (Jvm.Cond.code ({ cls := "com/example/parley/parley/model/Objective", name := "improvement", desc := "(DD)D" } : Jvm.MethodName) prog_53_method_4_code (5 : Nat) (Option.some Jvm.ClassFile.FieldType.double)).before args0 about1 = true := code_word (m := ⟨6, 0⟩) (meth := k6m0) (c := k6c0) (by decide +kernel) rfl rfl rfl (by decide +kernel)
set_option maxRecDepth 65536 in
theorem w_c2 : (Jvm.Cond.code ({ cls := "java/lang/Math", name := "abs", desc := "(J)J" } : Jvm.MethodName) jdk_29_method_61_code (2 : Nat) (Option.some Jvm.ClassFile.FieldType.long)).before args0 about1 = true := code_word (m := ⟨7, 1⟩) (meth := k7m1) (c := k7c1) (by decide +kernel) rfl rfl rfl (by decide +kernel)
def codes1 : List Jvm.Cond := [Jvm.Cond.code x code maxLocals ret, Jvm.Cond.code ({ cls := "com/example/parley/parley/model/Objective", name := "improvement", desc := "(DD)D" } : Jvm.MethodName) prog_53_method_4_code (5 : Nat) (Option.some Jvm.ClassFile.FieldType.double), Jvm.Cond.code ({ cls := "java/lang/Math", name := "abs", desc := "(J)J" } : Jvm.MethodName) jdk_29_method_61_code (2 : Nat) (Option.some Jvm.ClassFile.FieldType.long)]
set_option maxRecDepth 65536 in
theorem codes_eq : words1.filter isCode = codes1 := rfl
theorem w_codes : ∀ c ∈ words1.filter isCode, c.before args0 about1 = true := by
  rw [codes_eq]
  intro c hc
  simp only [codes1, List.mem_cons, List.not_mem_nil, or_false] at hc
  rcases hc with rfl | rfl | rfl
  · exact w_c0
  · exact w_c1
  · exact w_c2
set_option maxRecDepth 65536 in
theorem w_t1 : words1.all (fun c => isCode c || c.before args0 about1) = true := by decide +kernel
theorem w_tables : (allAtoms (Jvm.Cond.code x code maxLocals ret :: tables_1)).before args0 about1 = true := by
  rw [allAtoms_all]
  show words1.all (fun c => c.before args0 about1) = true
  refine all_split ?_ w_codes
  rw [w_t1]
set_option maxRecDepth 65536 in
theorem w_case : (Jvm.Cond.and given_1 narrow_1).before args0 about1 = true := by decide +kernel
theorem w_applies : (headSpec (Jvm.Cond.code x code maxLocals ret :: tables_1) room_1).applies x e0.platform about1 = true :=
  (Spec.applies_iff w_frames).mpr ⟨w_running, w_runnable, w_alone, w_named, w_hears, w_ripe, w_room, w_tables⟩
theorem atStart : AtStart classFile x code maxLocals ret World_1 tables_1 room_1 Calls_1 rest_1 Pre_1 launch0 p0 e0 about1 theMethod args0 below0 :=
  ⟨lists_1, trivial, launch0.admits_env _ _ _, launch0.least_env, fairChoices_fair.cas, fairChoices_fair.clock, w_frames, w_args, w_heap, w_applies, trivial, trivial, w_case⟩
end start1
theorem witness_1 : WitnessClaimed_1 := ⟨start1.p0, start1.e0, start1.about1, start1.theMethod, start1.args0, start1.below0, start1.atStart⟩
end Jvm.Pilot.@@N@@
