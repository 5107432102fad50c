import JvmDerived
import JvmDerived.Pilot.@@N@@Statement
import JvmDerived.Pilot.@@N@@Code
set_option linter.unusedVariables false
set_option linter.unusedSimpArgs false
namespace Jvm.GoKit
open Sem ClassFile Op Lib Jvm.Stand Jvm.Free Jvm.LawKit Jvm.RoadKit
/- own layer: goal-directed steps -/
abbrev fr (m : MethodId) (pc : Nat) (L : List Slot) (st : List Value) : JFrame := mkF m pc ⟨L⟩ st
def Go (p : Program) (e : Env) (below : List Frame) (Q : Outcome → State → Prop) (t : State) : Prop :=
  ∃ s₂ o, Steps p.tables e below t s₂ ∧ s₂.status = .running ∧ Ended s₂ below o ∧ Q o s₂
def lk : List Slot → Nat → Option Slot
  | [], _ => none
  | a :: _, 0 => some a
  | _ :: t, n + 1 => lk t n
def put1 : List Slot → Nat → Slot → List Slot
  | [], _, _ => []
  | _ :: t, 0, v => v :: t
  | a :: t, n + 1, v => a :: put1 t n v
def one : Slot → Bool
  | .unset => true
  | .val (.int _) => true
  | .val (.float _) => true
  | .val (.ref _) => true
  | .val .null => true
  | _ => false
def two : Slot → Bool
  | .val (.long _) => true
  | .val (.double _) => true
  | _ => false
theorem lk_eq : ∀ (L : List Slot) (k : Nat), lk L k = L[k]?
  | [], _ => by simp [lk]
  | a :: _, 0 => by simp [lk]
  | _ :: t, n + 1 => by simp [lk, lk_eq t n]
theorem put1_eq : ∀ (L : List Slot) (k : Nat) (v : Slot), put1 L k v = L.set k v
  | [], _, _ => by simp [put1]
  | _ :: t, 0, v => by simp [put1]
  | a :: t, n + 1, v => by simp [put1, put1_eq t n v]
theorem lk_arr {L : List Slot} {k : Nat} {o : Slot} (h : lk L k = some o) : (Array.mk L)[k]? = some o := by rw [lk_eq] at h; simpa using h
theorem one_or {o : Slot} (h : one o = true) : o = .unset ∨ ∃ w, o = .val w ∧ w.category = 1 := by
  cases o with
  | unset => exact Or.inl rfl
  | second => simp [one] at h
  | val w => cases w <;> first | exact Or.inr ⟨_, rfl, rfl⟩ | (simp [one] at h; done)
theorem st1 {L : List Slot} {k : Nat} {o : Slot} {v : Value} (hl : lk L k = some o) (ho : one o = true) (hv : v.category = 1) : storeLocals ⟨L⟩ k v = some ⟨put1 L k (.val v)⟩ := by
  rw [XS.store1 (lk_arr hl) (one_or ho) hv, put1_eq]
  simp
theorem st2 {L : List Slot} {k : Nat} {o o' : Slot} {v : Value} (hl : lk L k = some o) (hl' : lk L (k + 1) = some o') (ho : (one o || two o) = true) (ho' : two o' = false) (hv : v.category = 2) :
    storeLocals ⟨L⟩ k v = some ⟨put1 (put1 L k (.val v)) (k + 1) .second⟩ := by
  rw [put1_eq, put1_eq]
  rw [lk_eq] at hl hl'
  obtain ⟨hi, e1⟩ := List.getElem?_eq_some_iff.mp hl
  obtain ⟨hi', e2⟩ := List.getElem?_eq_some_iff.mp hl'
  have a1 : (Array.mk L)[k]? = some o := by simpa using hl
  have key : ∀ L1 : List Slot, L1.length = L.length → (∃ w, L1[k + 1]? = some w ∧ two w = false) → (L1.set k (.val v)).set (k + 1) .second = (L.set k (.val v)).set (k + 1) .second → storeSelf ⟨L1⟩ k v = some ⟨(L.set k (.val v)).set (k + 1) .second⟩ := by
    intro L1 hlen hw heq
    obtain ⟨w, hw1, hw2⟩ := hw
    have b1 : ((Array.mk L1).setIfInBounds k (.val v))[k + 1]? = some w := by
      simp [List.getElem?_set, hw1]
    unfold storeSelf
    simp only [setAt, hv, if_true]
    rw [if_pos (by simpa [hlen] using hi)]
    simp only [Option.bind_eq_bind, Option.bind_some, b1]
    have fin : (if k + 1 < ((Array.mk L1).setIfInBounds k (.val v)).size then some (((Array.mk L1).setIfInBounds k (.val v)).setIfInBounds (k + 1) Slot.second) else none) = some ⟨(L.set k (.val v)).set (k + 1) .second⟩ := by
      rw [if_pos (by simpa [hlen] using hi')]
      simpa using heq
    cases w with
    | unset => exact fin
    | second => exact fin
    | val w => cases w <;> first | exact fin | (simp [two] at hw2; done)
  unfold storeLocals
  simp only [a1, Option.bind_eq_bind, Option.bind_some]
  have plain := key L rfl ⟨o', hl', ho'⟩ rfl
  cases o with
  | unset => exact plain
  | second => simp [one, two] at ho
  | val w =>
    cases w with
    | long z => 
      simp only [Value.category, if_true, setAt]
      rw [if_pos (by simpa using hi')]
      simp only [Option.bind_some]
      have := key (L.set (k + 1) .unset) (by simp) ⟨.unset, by simp [hi'], rfl⟩ (by
        apply List.ext_getElem?
        intro i
        simp only [List.getElem?_set, List.length_set]
        repeat' split
        all_goals first | rfl | omega | simp_all)
      simpa using this
    | double z =>
      simp only [Value.category, if_true, setAt]
      rw [if_pos (by simpa using hi')]
      simp only [Option.bind_some]
      have := key (L.set (k + 1) .unset) (by simp) ⟨.unset, by simp [hi'], rfl⟩ (by
        apply List.ext_getElem?
        intro i
        simp only [List.getElem?_set, List.length_set]
        repeat' split
        all_goals first | rfl | omega | simp_all)
      simpa using this
    | _ => first | exact plain | (simp [one, two] at ho; done)
theorem nl {a b : Nat} (h : Nat.ble (a + 1) b = true := by rfl) : a < b := Nat.le_of_ble_eq_true h
theorem Fr.low {k k' : Nat} {L : List Loc} (N : Fr k L) (q : k' ≤ k) : Fr k' L := fun y hy => Nat.le_trans q (N y hy)
theorem nb {a b : Nat} (h : Nat.ble a b = true := by rfl) : a ≤ b := Nat.le_of_ble_eq_true h
def CP : ClassFile.Cond → Int32 → Int32 → Prop
  | .eq, x, y => x = y
  | .ne, x, y => ¬ x = y
  | .lt, x, y => x < y
  | .ge, x, y => ¬ x < y
  | .gt, x, y => y < x
  | .le, x, y => ¬ y < x
def CN : ClassFile.Cond → Int32 → Int32 → Prop
  | .eq, x, y => ¬ x = y
  | .ne, x, y => x = y
  | .lt, x, y => ¬ x < y
  | .ge, x, y => x < y
  | .gt, x, y => ¬ y < x
  | .le, x, y => y < x
instance (cd : ClassFile.Cond) (x y : Int32) : Decidable (CP cd x y) := match cd with
  | .eq => inferInstanceAs (Decidable (x = y))
  | .ne => inferInstanceAs (Decidable (¬ x = y))
  | .lt => inferInstanceAs (Decidable (x < y))
  | .ge => inferInstanceAs (Decidable (¬ x < y))
  | .gt => inferInstanceAs (Decidable (y < x))
  | .le => inferInstanceAs (Decidable (¬ y < x))
instance (cd : ClassFile.Cond) (x y : Int32) : Decidable (CN cd x y) := match cd with
  | .eq => inferInstanceAs (Decidable (¬ x = y))
  | .ne => inferInstanceAs (Decidable (x = y))
  | .lt => inferInstanceAs (Decidable (¬ x < y))
  | .ge => inferInstanceAs (Decidable (x < y))
  | .gt => inferInstanceAs (Decidable (¬ y < x))
  | .le => inferInstanceAs (Decidable (y < x))
theorem CP.holds {cd : ClassFile.Cond} {x y : Int32} (h : CP cd x y) : if_icmp.holds cd x y = true := by
  cases cd
  · exact (teq h).1
  · exact (feq h).2
  · exact (tlt h).1
  · exact (flt h).2.1
  · exact (tlt h).2.2.1
  · exact (flt h).2.2.2
theorem CN.holds {cd : ClassFile.Cond} {x y : Int32} (h : CN cd x y) : if_icmp.holds cd x y = false := by
  cases cd
  · exact (feq h).1
  · exact (teq h).2
  · exact (flt h).1
  · exact (tlt h).2.1
  · exact (flt h).2.2.1
  · exact (tlt h).2.2.2
theorem cp_or (cd : ClassFile.Cond) (x y : Int32) : CP cd x y ∨ CN cd x y := by
  cases cd
  · exact Classical.em _
  · exact (Classical.em (x = y)).symm
  · exact Classical.em _
  · exact (Classical.em (x < y)).symm
  · exact Classical.em _
  · exact (Classical.em (y < x)).symm
/-- what a body's walk knows besides where it stands -/
def Ctx (p : Program) (Z : State) (s : State) (m : MethodId) (meth : Method) (c : Code) (own nm : String) (bytes : ByteArray) (maxL : Nat) (ret : Option FieldType) : Prop :=
  p.tables.exec = Jvm.exec ∧ c.code = bytes ∧ c.maxLocals = maxL ∧ s.vm.findClass own = some m.cls ∧ meth.name = nm ∧ Z.Warmed39 s.vm ∧ meth.sig.returnType = ret ∧ meth.locks = false
/-- the end that a contract asks -/
def End (s : State) (C S : Nat) (Q : Option Value → Heap → List Loc → Prop) (o : Outcome) (U' : State) : Prop := ∃ v L, o = .returned v ∧ Q v U'.heap L ∧ FrameEnd s o U' L C S
section
variable {p : Program} {l : Launch} {e : Env} {R : Room} {s : State} {m : MethodId} {args : Array Value} {below : List Frame} {meth : Method} {c : Code} {T : State} {locs : List Loc} {cells slots : Nat}
  {Z : State} {own nm : String} {bytes : ByteArray} {maxL : Nat} {ret : Option FieldType} {Q : Outcome → State → Prop} {pc pc' pcT : Nat} {L : List Slot} {st : List Value} {a0 : Array Value} {h : Heap}
theorem Ctx.hx (B : Ctx p Z s m meth c own nm bytes maxL ret) : p.tables.exec = Jvm.exec := B.1
theorem Ctx.by' (B : Ctx p Z s m meth c own nm bytes maxL ret) : c.code = bytes := B.2.1
theorem Ctx.ml (B : Ctx p Z s m meth c own nm bytes maxL ret) : c.maxLocals = maxL := B.2.2.1
theorem Ctx.cl (B : Ctx p Z s m meth c own nm bytes maxL ret) : s.vm.findClass own = some m.cls := B.2.2.2.1
theorem Ctx.na (B : Ctx p Z s m meth c own nm bytes maxL ret) : meth.name = nm := B.2.2.2.2.1
theorem Ctx.hZ (B : Ctx p Z s m meth c own nm bytes maxL ret) : Z.Warmed39 s.vm := B.2.2.2.2.2.1
theorem Ctx.re (B : Ctx p Z s m meth c own nm bytes maxL ret) : meth.sig.returnType = ret := B.2.2.2.2.2.2.1
theorem Ctx.lk (B : Ctx p Z s m meth c own nm bytes maxL ret) : meth.locks = false := B.2.2.2.2.2.2.2
theorem Go.of {t t' : State} (h : ∀ u, Steps p.tables e below t' u → Steps p.tables e below t u) (k : Go p e below Q t') : Go p e below Q t := by
  obtain ⟨s₂, o, h1, h2⟩ := k
  exact ⟨s₂, o, h _ h1, h2⟩
theorem Go.come {t t' : State} (h : Steps p.tables e below t t') (k : Go p e below Q t') : Go p e below Q t := Go.of (fun _ q => h.trans q) k

theorem Go.iloadN (B : Ctx p Z s m meth c own nm bytes maxL ret) (X : Stand p l e R s m args below meth c T locs cells slots) {k : Fin 4} {v : Int32} (hd : decode bytes pc = .ok (.iload_n k, 1)) (hp : pc + 1 = pc') (hl : lk L k.val = some (.val (.int v)))
    (k : Go p e below Q (T.setTop (fr m pc' L (.int v :: st)))) : Go p e below Q (T.setTop (fr m pc L (st))) := by
  subst hp
  exact Go.of (fun _ q => XS.iloadN X.here B.hx rfl (hb B.by' hd) (lk_arr hl) q) k
theorem Go.iload (B : Ctx p Z s m meth c own nm bytes maxL ret) (X : Stand p l e R s m args below meth c T locs cells slots) {k : Nat} {v : Int32} (hd : decode bytes pc = .ok (.iload k, 2)) (hp : pc + 2 = pc') (hl : lk L k = some (.val (.int v)))
    (k : Go p e below Q (T.setTop (fr m pc' L (.int v :: st)))) : Go p e below Q (T.setTop (fr m pc L (st))) := by
  subst hp
  exact Go.of (fun _ q => XS.iload X.here B.hx rfl (hb B.by' hd) (lk_arr hl) q) k
theorem Go.lloadN (B : Ctx p Z s m meth c own nm bytes maxL ret) (X : Stand p l e R s m args below meth c T locs cells slots) {k : Fin 4} {v : Int64} (hd : decode bytes pc = .ok (.lload_n k, 1)) (hp : pc + 1 = pc') (hl : lk L k.val = some (.val (.long v)))
    (k : Go p e below Q (T.setTop (fr m pc' L (.long v :: st)))) : Go p e below Q (T.setTop (fr m pc L (st))) := by
  subst hp
  exact Go.of (fun _ q => XS.lloadN X.here B.hx rfl (hb B.by' hd) (lk_arr hl) q) k
theorem Go.lload (B : Ctx p Z s m meth c own nm bytes maxL ret) (X : Stand p l e R s m args below meth c T locs cells slots) {k : Nat} {v : Int64} (hd : decode bytes pc = .ok (.lload k, 2)) (hp : pc + 2 = pc') (hl : lk L k = some (.val (.long v)))
    (k : Go p e below Q (T.setTop (fr m pc' L (.long v :: st)))) : Go p e below Q (T.setTop (fr m pc L (st))) := by
  subst hp
  exact Go.of (fun _ q => XS.lload X.here B.hx rfl (hb B.by' hd) (lk_arr hl) q) k
theorem Go.dloadN (B : Ctx p Z s m meth c own nm bytes maxL ret) (X : Stand p l e R s m args below meth c T locs cells slots) {k : Fin 4} {v : UInt64} (hd : decode bytes pc = .ok (.dload_n k, 1)) (hp : pc + 1 = pc') (hl : lk L k.val = some (.val (.double v)))
    (k : Go p e below Q (T.setTop (fr m pc' L (.double v :: st)))) : Go p e below Q (T.setTop (fr m pc L (st))) := by
  subst hp
  exact Go.of (fun _ q => XS.dloadN X.here B.hx rfl (hb B.by' hd) (lk_arr hl) q) k
theorem Go.dload (B : Ctx p Z s m meth c own nm bytes maxL ret) (X : Stand p l e R s m args below meth c T locs cells slots) {k : Nat} {v : UInt64} (hd : decode bytes pc = .ok (.dload k, 2)) (hp : pc + 2 = pc') (hl : lk L k = some (.val (.double v)))
    (k : Go p e below Q (T.setTop (fr m pc' L (.double v :: st)))) : Go p e below Q (T.setTop (fr m pc L (st))) := by
  subst hp
  exact Go.of (fun _ q => XS.dload X.here B.hx rfl (hb B.by' hd) (lk_arr hl) q) k
theorem Go.aloadN (B : Ctx p Z s m meth c own nm bytes maxL ret) (X : Stand p l e R s m args below meth c T locs cells slots) {k : Fin 4} {v : Value} (hd : decode bytes pc = .ok (.aload_n k, 1)) (hp : pc + 1 = pc') (hl : lk L k.val = some (.val v)) (hv : v.isRef = true)
    (k : Go p e below Q (T.setTop (fr m pc' L (v :: st)))) : Go p e below Q (T.setTop (fr m pc L (st))) := by
  subst hp
  exact Go.of (fun _ q => XS.aloadN X.here B.hx rfl (hb B.by' hd) (lk_arr hl) hv q) k
theorem Go.aload (B : Ctx p Z s m meth c own nm bytes maxL ret) (X : Stand p l e R s m args below meth c T locs cells slots) {k : Nat} {v : Value} (hd : decode bytes pc = .ok (.aload k, 2)) (hp : pc + 2 = pc') (hl : lk L k = some (.val v)) (hv : v.isRef = true)
    (k : Go p e below Q (T.setTop (fr m pc' L (v :: st)))) : Go p e below Q (T.setTop (fr m pc L (st))) := by
  subst hp
  exact Go.of (fun _ q => XS.aload X.here B.hx rfl (hb B.by' hd) (lk_arr hl) hv q) k
theorem Go.istoreN (B : Ctx p Z s m meth c own nm bytes maxL ret) (X : Stand p l e R s m args below meth c T locs cells slots) {k : Fin 4} {x : Int32} {o : Slot} (hd : decode bytes pc = .ok (.istore_n k, 1)) (hp : pc + 1 = pc') (hl : lk L k.val = some o) (ho : one o = true)
    (k : Go p e below Q (T.setTop (fr m pc' (put1 L k.val (.val (.int x))) (st)))) : Go p e below Q (T.setTop (fr m pc L (.int x :: st))) := by
  subst hp
  exact Go.of (fun _ q => XS.istoreN X.here B.hx rfl (hb B.by' hd) rfl (st1 hl ho rfl) q) k
theorem Go.istore (B : Ctx p Z s m meth c own nm bytes maxL ret) (X : Stand p l e R s m args below meth c T locs cells slots) {k : Nat} {x : Int32} {o : Slot} (hd : decode bytes pc = .ok (.istore k, 2)) (hp : pc + 2 = pc') (hl : lk L k = some o) (ho : one o = true)
    (k : Go p e below Q (T.setTop (fr m pc' (put1 L k (.val (.int x))) (st)))) : Go p e below Q (T.setTop (fr m pc L (.int x :: st))) := by
  subst hp
  exact Go.of (fun _ q => XS.istore X.here B.hx rfl (hb B.by' hd) rfl (st1 hl ho rfl) q) k
theorem Go.astoreN (B : Ctx p Z s m meth c own nm bytes maxL ret) (X : Stand p l e R s m args below meth c T locs cells slots) {k : Fin 4} {x : Value} {o : Slot} (hd : decode bytes pc = .ok (.astore_n k, 1)) (hp : pc + 1 = pc') (hl : lk L k.val = some o) (ho : one o = true) (hv : x.isRef = true)
    (k : Go p e below Q (T.setTop (fr m pc' (put1 L k.val (.val x)) (st)))) : Go p e below Q (T.setTop (fr m pc L (x :: st))) := by
  subst hp
  exact Go.of (fun _ q => XS.astoreN X.here B.hx rfl (hb B.by' hd) rfl hv (st1 hl ho (XT.cat1 hv)) q) k
theorem Go.astore (B : Ctx p Z s m meth c own nm bytes maxL ret) (X : Stand p l e R s m args below meth c T locs cells slots) {k : Nat} {x : Value} {o : Slot} (hd : decode bytes pc = .ok (.astore k, 2)) (hp : pc + 2 = pc') (hl : lk L k = some o) (ho : one o = true) (hv : x.isRef = true)
    (k : Go p e below Q (T.setTop (fr m pc' (put1 L k (.val x)) (st)))) : Go p e below Q (T.setTop (fr m pc L (x :: st))) := by
  subst hp
  exact Go.of (fun _ q => XS.astore X.here B.hx rfl (hb B.by' hd) rfl hv (st1 hl ho (XT.cat1 hv)) q) k
theorem Go.lstoreN (B : Ctx p Z s m meth c own nm bytes maxL ret) (X : Stand p l e R s m args below meth c T locs cells slots) {k : Fin 4} {x : Int64} {o o' : Slot} (hd : decode bytes pc = .ok (.lstore_n k, 1)) (hp : pc + 1 = pc') (hl : lk L k.val = some o) (hl' : lk L (k.val + 1) = some o') (ho : (one o || two o) = true) (ho' : two o' = false)
    (k : Go p e below Q (T.setTop (fr m pc' (put1 (put1 L k.val (.val (.long x))) (k.val + 1) .second) (st)))) : Go p e below Q (T.setTop (fr m pc L (.long x :: st))) := by
  subst hp
  exact Go.of (fun _ q => XS.lstoreN X.here B.hx rfl (hb B.by' hd) rfl (st2 hl hl' ho ho' rfl) q) k
theorem Go.lstore (B : Ctx p Z s m meth c own nm bytes maxL ret) (X : Stand p l e R s m args below meth c T locs cells slots) {k : Nat} {x : Int64} {o o' : Slot} (hd : decode bytes pc = .ok (.lstore k, 2)) (hp : pc + 2 = pc') (hl : lk L k = some o) (hl' : lk L (k + 1) = some o') (ho : (one o || two o) = true) (ho' : two o' = false)
    (k : Go p e below Q (T.setTop (fr m pc' (put1 (put1 L k (.val (.long x))) (k + 1) .second) (st)))) : Go p e below Q (T.setTop (fr m pc L (.long x :: st))) := by
  subst hp
  exact Go.of (fun _ q => XS.lstore X.here B.hx rfl (hb B.by' hd) rfl (st2 hl hl' ho ho' rfl) q) k
theorem Go.dstoreN (B : Ctx p Z s m meth c own nm bytes maxL ret) (X : Stand p l e R s m args below meth c T locs cells slots) {k : Fin 4} {x : UInt64} {o o' : Slot} (hd : decode bytes pc = .ok (.dstore_n k, 1)) (hp : pc + 1 = pc') (hl : lk L k.val = some o) (hl' : lk L (k.val + 1) = some o') (ho : (one o || two o) = true) (ho' : two o' = false)
    (k : Go p e below Q (T.setTop (fr m pc' (put1 (put1 L k.val (.val (.double x))) (k.val + 1) .second) (st)))) : Go p e below Q (T.setTop (fr m pc L (.double x :: st))) := by
  subst hp
  exact Go.of (fun _ q => XS.dstoreN X.here B.hx rfl (hb B.by' hd) rfl (st2 hl hl' ho ho' rfl) q) k
theorem Go.dstore (B : Ctx p Z s m meth c own nm bytes maxL ret) (X : Stand p l e R s m args below meth c T locs cells slots) {k : Nat} {x : UInt64} {o o' : Slot} (hd : decode bytes pc = .ok (.dstore k, 2)) (hp : pc + 2 = pc') (hl : lk L k = some o) (hl' : lk L (k + 1) = some o') (ho : (one o || two o) = true) (ho' : two o' = false)
    (k : Go p e below Q (T.setTop (fr m pc' (put1 (put1 L k (.val (.double x))) (k + 1) .second) (st)))) : Go p e below Q (T.setTop (fr m pc L (.double x :: st))) := by
  subst hp
  exact Go.of (fun _ q => XS.dstore X.here B.hx rfl (hb B.by' hd) rfl (st2 hl hl' ho ho' rfl) q) k
theorem Go.iconst (B : Ctx p Z s m meth c own nm bytes maxL ret) (X : Stand p l e R s m args below meth c T locs cells slots) {i : Int} (v : Int32) (hd : decode bytes pc = .ok (.iconst i, 1)) (hp : pc + 1 = pc') (hv : Int32.ofInt i = v)
    (k : Go p e below Q (T.setTop (fr m pc' L (.int v :: st)))) : Go p e below Q (T.setTop (fr m pc L (st))) := by
  subst hp
  exact Go.of (fun _ q => XS.iconst X.here B.hx rfl (hb B.by' hd) (hv ▸ q)) k
theorem Go.bipush (B : Ctx p Z s m meth c own nm bytes maxL ret) (X : Stand p l e R s m args below meth c T locs cells slots) {i : Int} (v : Int32) (hd : decode bytes pc = .ok (.bipush i, 2)) (hp : pc + 2 = pc') (hv : (Int8.ofInt i).toInt32 = v)
    (k : Go p e below Q (T.setTop (fr m pc' L (.int v :: st)))) : Go p e below Q (T.setTop (fr m pc L (st))) := by
  subst hp
  exact Go.of (fun _ q => XS.bipush X.here B.hx rfl (hb B.by' hd) (hv ▸ q)) k
theorem Go.sipush (B : Ctx p Z s m meth c own nm bytes maxL ret) (X : Stand p l e R s m args below meth c T locs cells slots) {i : Int} (v : Int32) (hd : decode bytes pc = .ok (.sipush i, 3)) (hp : pc + 3 = pc') (hv : (Int16.ofInt i).toInt32 = v)
    (k : Go p e below Q (T.setTop (fr m pc' L (.int v :: st)))) : Go p e below Q (T.setTop (fr m pc L (st))) := by
  subst hp
  exact Go.of (fun _ q => XS.sipush X.here B.hx rfl (hb B.by' hd) (hv ▸ q)) k
theorem Go.lconst (B : Ctx p Z s m meth c own nm bytes maxL ret) (X : Stand p l e R s m args below meth c T locs cells slots) {i : Fin 2} (v : Int64) (hd : decode bytes pc = .ok (.lconst i, 1)) (hp : pc + 1 = pc') (hv : Int64.ofNat i = v)
    (k : Go p e below Q (T.setTop (fr m pc' L (.long v :: st)))) : Go p e below Q (T.setTop (fr m pc L (st))) := by
  subst hp
  exact Go.of (fun _ q => XS.lconst X.here B.hx rfl (hb B.by' hd) (hv ▸ q)) k
theorem Go.aconstNull (B : Ctx p Z s m meth c own nm bytes maxL ret) (X : Stand p l e R s m args below meth c T locs cells slots)  (hd : decode bytes pc = .ok (.aconst_null, 1)) (hp : pc + 1 = pc') 
    (k : Go p e below Q (T.setTop (fr m pc' L (.null :: st)))) : Go p e below Q (T.setTop (fr m pc L (st))) := by
  subst hp
  exact Go.of (fun _ q => XS.aconstNull X.here B.hx rfl (hb B.by' hd) q) k
theorem Go.iadd (B : Ctx p Z s m meth c own nm bytes maxL ret) (X : Stand p l e R s m args below meth c T locs cells slots) {x y : Int32} (hd : decode bytes pc = .ok (.iadd, 1)) (hp : pc + 1 = pc') 
    (k : Go p e below Q (T.setTop (fr m pc' L (.int (x + y) :: st)))) : Go p e below Q (T.setTop (fr m pc L (.int y :: .int x :: st))) := by
  subst hp
  exact Go.of (fun _ q => XS.iadd X.here B.hx rfl (hb B.by' hd) rfl q) k
theorem Go.isub (B : Ctx p Z s m meth c own nm bytes maxL ret) (X : Stand p l e R s m args below meth c T locs cells slots) {x y : Int32} (hd : decode bytes pc = .ok (.isub, 1)) (hp : pc + 1 = pc') 
    (k : Go p e below Q (T.setTop (fr m pc' L (.int (x - y) :: st)))) : Go p e below Q (T.setTop (fr m pc L (.int y :: .int x :: st))) := by
  subst hp
  exact Go.of (fun _ q => XS.isub X.here B.hx rfl (hb B.by' hd) rfl q) k
theorem Go.imul (B : Ctx p Z s m meth c own nm bytes maxL ret) (X : Stand p l e R s m args below meth c T locs cells slots) {x y : Int32} (hd : decode bytes pc = .ok (.imul, 1)) (hp : pc + 1 = pc') 
    (k : Go p e below Q (T.setTop (fr m pc' L (.int (x * y) :: st)))) : Go p e below Q (T.setTop (fr m pc L (.int y :: .int x :: st))) := by
  subst hp
  exact Go.of (fun _ q => XS.imul X.here B.hx rfl (hb B.by' hd) rfl q) k
theorem Go.iand (B : Ctx p Z s m meth c own nm bytes maxL ret) (X : Stand p l e R s m args below meth c T locs cells slots) {x y : Int32} (hd : decode bytes pc = .ok (.iand, 1)) (hp : pc + 1 = pc') 
    (k : Go p e below Q (T.setTop (fr m pc' L (.int (x &&& y) :: st)))) : Go p e below Q (T.setTop (fr m pc L (.int y :: .int x :: st))) := by
  subst hp
  exact Go.of (fun _ q => XS.iand X.here B.hx rfl (hb B.by' hd) rfl q) k
theorem Go.ior (B : Ctx p Z s m meth c own nm bytes maxL ret) (X : Stand p l e R s m args below meth c T locs cells slots) {x y : Int32} (hd : decode bytes pc = .ok (.ior, 1)) (hp : pc + 1 = pc') 
    (k : Go p e below Q (T.setTop (fr m pc' L (.int (x ||| y) :: st)))) : Go p e below Q (T.setTop (fr m pc L (.int y :: .int x :: st))) := by
  subst hp
  exact Go.of (fun _ q => XS.ior X.here B.hx rfl (hb B.by' hd) rfl q) k
theorem Go.ixor (B : Ctx p Z s m meth c own nm bytes maxL ret) (X : Stand p l e R s m args below meth c T locs cells slots) {x y : Int32} (hd : decode bytes pc = .ok (.ixor, 1)) (hp : pc + 1 = pc') 
    (k : Go p e below Q (T.setTop (fr m pc' L (.int (x ^^^ y) :: st)))) : Go p e below Q (T.setTop (fr m pc L (.int y :: .int x :: st))) := by
  subst hp
  exact Go.of (fun _ q => XS.ixor X.here B.hx rfl (hb B.by' hd) rfl q) k
theorem Go.ishl (B : Ctx p Z s m meth c own nm bytes maxL ret) (X : Stand p l e R s m args below meth c T locs cells slots) {x y : Int32} (hd : decode bytes pc = .ok (.ishl, 1)) (hp : pc + 1 = pc') 
    (k : Go p e below Q (T.setTop (fr m pc' L (.int (x <<< (y &&& 31)) :: st)))) : Go p e below Q (T.setTop (fr m pc L (.int y :: .int x :: st))) := by
  subst hp
  exact Go.of (fun _ q => XS.ishl X.here B.hx rfl (hb B.by' hd) rfl q) k
theorem Go.ishr (B : Ctx p Z s m meth c own nm bytes maxL ret) (X : Stand p l e R s m args below meth c T locs cells slots) {x y : Int32} (hd : decode bytes pc = .ok (.ishr, 1)) (hp : pc + 1 = pc') 
    (k : Go p e below Q (T.setTop (fr m pc' L (.int (x >>> (y &&& 31)) :: st)))) : Go p e below Q (T.setTop (fr m pc L (.int y :: .int x :: st))) := by
  subst hp
  exact Go.of (fun _ q => XS.ishr X.here B.hx rfl (hb B.by' hd) rfl q) k
theorem Go.iushr (B : Ctx p Z s m meth c own nm bytes maxL ret) (X : Stand p l e R s m args below meth c T locs cells slots) {x y : Int32} (hd : decode bytes pc = .ok (.iushr, 1)) (hp : pc + 1 = pc') 
    (k : Go p e below Q (T.setTop (fr m pc' L (.int ((x.toUInt32 >>> (y &&& 31).toUInt32).toInt32) :: st)))) : Go p e below Q (T.setTop (fr m pc L (.int y :: .int x :: st))) := by
  subst hp
  exact Go.of (fun _ q => XS.iushr X.here B.hx rfl (hb B.by' hd) rfl q) k
theorem Go.idiv (B : Ctx p Z s m meth c own nm bytes maxL ret) (X : Stand p l e R s m args below meth c T locs cells slots) {x y : Int32} (hd : decode bytes pc = .ok (.idiv, 1)) (hp : pc + 1 = pc') (hy : y ≠ 0)
    (k : Go p e below Q (T.setTop (fr m pc' L (.int (x / y) :: st)))) : Go p e below Q (T.setTop (fr m pc L (.int y :: .int x :: st))) := by
  subst hp
  exact Go.of (fun _ q => XS.idiv X.here B.hx rfl (hb B.by' hd) rfl hy q) k
theorem Go.irem (B : Ctx p Z s m meth c own nm bytes maxL ret) (X : Stand p l e R s m args below meth c T locs cells slots) {x y : Int32} (hd : decode bytes pc = .ok (.irem, 1)) (hp : pc + 1 = pc') (hy : y ≠ 0)
    (k : Go p e below Q (T.setTop (fr m pc' L (.int (x % y) :: st)))) : Go p e below Q (T.setTop (fr m pc L (.int y :: .int x :: st))) := by
  subst hp
  exact Go.of (fun _ q => iremM X B.hx rfl (hb B.by' hd) rfl hy q) k
theorem Go.ineg (B : Ctx p Z s m meth c own nm bytes maxL ret) (X : Stand p l e R s m args below meth c T locs cells slots) {x : Int32} (hd : decode bytes pc = .ok (.ineg, 1)) (hp : pc + 1 = pc') 
    (k : Go p e below Q (T.setTop (fr m pc' L (.int (-x) :: st)))) : Go p e below Q (T.setTop (fr m pc L (.int x :: st))) := by
  subst hp
  exact Go.of (fun _ q => XS.ineg X.here B.hx rfl (hb B.by' hd) rfl q) k
theorem Go.ladd (B : Ctx p Z s m meth c own nm bytes maxL ret) (X : Stand p l e R s m args below meth c T locs cells slots) {x y : Int64} (hd : decode bytes pc = .ok (.ladd, 1)) (hp : pc + 1 = pc') 
    (k : Go p e below Q (T.setTop (fr m pc' L (.long (x + y) :: st)))) : Go p e below Q (T.setTop (fr m pc L (.long y :: .long x :: st))) := by
  subst hp
  exact Go.of (fun _ q => XS.ladd X.here B.hx rfl (hb B.by' hd) rfl q) k
theorem Go.lsub (B : Ctx p Z s m meth c own nm bytes maxL ret) (X : Stand p l e R s m args below meth c T locs cells slots) {x y : Int64} (hd : decode bytes pc = .ok (.lsub, 1)) (hp : pc + 1 = pc') 
    (k : Go p e below Q (T.setTop (fr m pc' L (.long (x - y) :: st)))) : Go p e below Q (T.setTop (fr m pc L (.long y :: .long x :: st))) := by
  subst hp
  exact Go.of (fun _ q => XS.lsub X.here B.hx rfl (hb B.by' hd) rfl q) k
theorem Go.lmul (B : Ctx p Z s m meth c own nm bytes maxL ret) (X : Stand p l e R s m args below meth c T locs cells slots) {x y : Int64} (hd : decode bytes pc = .ok (.lmul, 1)) (hp : pc + 1 = pc') 
    (k : Go p e below Q (T.setTop (fr m pc' L (.long (x * y) :: st)))) : Go p e below Q (T.setTop (fr m pc L (.long y :: .long x :: st))) := by
  subst hp
  exact Go.of (fun _ q => XS.lmul X.here B.hx rfl (hb B.by' hd) rfl q) k
theorem Go.land (B : Ctx p Z s m meth c own nm bytes maxL ret) (X : Stand p l e R s m args below meth c T locs cells slots) {x y : Int64} (hd : decode bytes pc = .ok (.land, 1)) (hp : pc + 1 = pc') 
    (k : Go p e below Q (T.setTop (fr m pc' L (.long (x &&& y) :: st)))) : Go p e below Q (T.setTop (fr m pc L (.long y :: .long x :: st))) := by
  subst hp
  exact Go.of (fun _ q => XS.land X.here B.hx rfl (hb B.by' hd) rfl q) k
theorem Go.lor (B : Ctx p Z s m meth c own nm bytes maxL ret) (X : Stand p l e R s m args below meth c T locs cells slots) {x y : Int64} (hd : decode bytes pc = .ok (.lor, 1)) (hp : pc + 1 = pc') 
    (k : Go p e below Q (T.setTop (fr m pc' L (.long (x ||| y) :: st)))) : Go p e below Q (T.setTop (fr m pc L (.long y :: .long x :: st))) := by
  subst hp
  exact Go.of (fun _ q => XS.lor X.here B.hx rfl (hb B.by' hd) rfl q) k
theorem Go.lxor (B : Ctx p Z s m meth c own nm bytes maxL ret) (X : Stand p l e R s m args below meth c T locs cells slots) {x y : Int64} (hd : decode bytes pc = .ok (.lxor, 1)) (hp : pc + 1 = pc') 
    (k : Go p e below Q (T.setTop (fr m pc' L (.long (x ^^^ y) :: st)))) : Go p e below Q (T.setTop (fr m pc L (.long y :: .long x :: st))) := by
  subst hp
  exact Go.of (fun _ q => XS.lxor X.here B.hx rfl (hb B.by' hd) rfl q) k
theorem Go.lshl (B : Ctx p Z s m meth c own nm bytes maxL ret) (X : Stand p l e R s m args below meth c T locs cells slots) {x : Int64} {y : Int32} (hd : decode bytes pc = .ok (.lshl, 1)) (hp : pc + 1 = pc') 
    (k : Go p e below Q (T.setTop (fr m pc' L (.long (x <<< (y &&& 0x3f).toInt64) :: st)))) : Go p e below Q (T.setTop (fr m pc L (.int y :: .long x :: st))) := by
  subst hp
  exact Go.of (fun _ q => XS.lshl X.here B.hx rfl (hb B.by' hd) rfl q) k
theorem Go.lshr (B : Ctx p Z s m meth c own nm bytes maxL ret) (X : Stand p l e R s m args below meth c T locs cells slots) {x : Int64} {y : Int32} (hd : decode bytes pc = .ok (.lshr, 1)) (hp : pc + 1 = pc') 
    (k : Go p e below Q (T.setTop (fr m pc' L (.long (x >>> (y &&& 0x3f).toInt64) :: st)))) : Go p e below Q (T.setTop (fr m pc L (.int y :: .long x :: st))) := by
  subst hp
  exact Go.of (fun _ q => XS.lshr X.here B.hx rfl (hb B.by' hd) rfl q) k
theorem Go.lushr (B : Ctx p Z s m meth c own nm bytes maxL ret) (X : Stand p l e R s m args below meth c T locs cells slots) {x : Int64} {y : Int32} (hd : decode bytes pc = .ok (.lushr, 1)) (hp : pc + 1 = pc') 
    (k : Go p e below Q (T.setTop (fr m pc' L (.long ((x.toUInt64 >>> (y &&& 0x3f).toInt64.toUInt64).toInt64) :: st)))) : Go p e below Q (T.setTop (fr m pc L (.int y :: .long x :: st))) := by
  subst hp
  exact Go.of (fun _ q => XS.lushr X.here B.hx rfl (hb B.by' hd) rfl q) k
theorem Go.ldiv (B : Ctx p Z s m meth c own nm bytes maxL ret) (X : Stand p l e R s m args below meth c T locs cells slots) {x y : Int64} (hd : decode bytes pc = .ok (.ldiv, 1)) (hp : pc + 1 = pc') (hy : y ≠ 0)
    (k : Go p e below Q (T.setTop (fr m pc' L (.long (x / y) :: st)))) : Go p e below Q (T.setTop (fr m pc L (.long y :: .long x :: st))) := by
  subst hp
  exact Go.of (fun _ q => XS.ldiv X.here B.hx rfl (hb B.by' hd) rfl hy q) k
theorem Go.lrem (B : Ctx p Z s m meth c own nm bytes maxL ret) (X : Stand p l e R s m args below meth c T locs cells slots) {x y : Int64} (hd : decode bytes pc = .ok (.lrem, 1)) (hp : pc + 1 = pc') (hy : y ≠ 0)
    (k : Go p e below Q (T.setTop (fr m pc' L (.long (x % y) :: st)))) : Go p e below Q (T.setTop (fr m pc L (.long y :: .long x :: st))) := by
  subst hp
  exact Go.of (fun _ q => XS.lrem X.here B.hx rfl (hb B.by' hd) rfl hy (by rw [lrem_mod]; exact q)) k
theorem Go.lneg (B : Ctx p Z s m meth c own nm bytes maxL ret) (X : Stand p l e R s m args below meth c T locs cells slots) {x : Int64} (hd : decode bytes pc = .ok (.lneg, 1)) (hp : pc + 1 = pc') 
    (k : Go p e below Q (T.setTop (fr m pc' L (.long (-x) :: st)))) : Go p e below Q (T.setTop (fr m pc L (.long x :: st))) := by
  subst hp
  exact Go.of (fun _ q => XS.lneg X.here B.hx rfl (hb B.by' hd) rfl q) k
theorem Go.i2l (B : Ctx p Z s m meth c own nm bytes maxL ret) (X : Stand p l e R s m args below meth c T locs cells slots) {x : Int32} (hd : decode bytes pc = .ok (.i2l, 1)) (hp : pc + 1 = pc') 
    (k : Go p e below Q (T.setTop (fr m pc' L (.long x.toInt64 :: st)))) : Go p e below Q (T.setTop (fr m pc L (.int x :: st))) := by
  subst hp
  exact Go.of (fun _ q => XS.i2l X.here B.hx rfl (hb B.by' hd) rfl q) k
theorem Go.l2i (B : Ctx p Z s m meth c own nm bytes maxL ret) (X : Stand p l e R s m args below meth c T locs cells slots) {x : Int64} (hd : decode bytes pc = .ok (.l2i, 1)) (hp : pc + 1 = pc') 
    (k : Go p e below Q (T.setTop (fr m pc' L (.int x.toInt32 :: st)))) : Go p e below Q (T.setTop (fr m pc L (.long x :: st))) := by
  subst hp
  exact Go.of (fun _ q => XS.l2i X.here B.hx rfl (hb B.by' hd) rfl q) k
theorem Go.i2b (B : Ctx p Z s m meth c own nm bytes maxL ret) (X : Stand p l e R s m args below meth c T locs cells slots) {x : Int32} (hd : decode bytes pc = .ok (.i2b, 1)) (hp : pc + 1 = pc') 
    (k : Go p e below Q (T.setTop (fr m pc' L (.int x.toInt8.toInt32 :: st)))) : Go p e below Q (T.setTop (fr m pc L (.int x :: st))) := by
  subst hp
  exact Go.of (fun _ q => XS.i2b X.here B.hx rfl (hb B.by' hd) rfl q) k
theorem Go.i2c (B : Ctx p Z s m meth c own nm bytes maxL ret) (X : Stand p l e R s m args below meth c T locs cells slots) {x : Int32} (hd : decode bytes pc = .ok (.i2c, 1)) (hp : pc + 1 = pc') 
    (k : Go p e below Q (T.setTop (fr m pc' L (.int x.toUInt32.toUInt16.toUInt32.toInt32 :: st)))) : Go p e below Q (T.setTop (fr m pc L (.int x :: st))) := by
  subst hp
  exact Go.of (fun _ q => XS.i2c X.here B.hx rfl (hb B.by' hd) rfl q) k
theorem Go.i2s (B : Ctx p Z s m meth c own nm bytes maxL ret) (X : Stand p l e R s m args below meth c T locs cells slots) {x : Int32} (hd : decode bytes pc = .ok (.i2s, 1)) (hp : pc + 1 = pc') 
    (k : Go p e below Q (T.setTop (fr m pc' L (.int x.toInt16.toInt32 :: st)))) : Go p e below Q (T.setTop (fr m pc L (.int x :: st))) := by
  subst hp
  exact Go.of (fun _ q => XS.i2s X.here B.hx rfl (hb B.by' hd) rfl q) k
theorem Go.lcmp (B : Ctx p Z s m meth c own nm bytes maxL ret) (X : Stand p l e R s m args below meth c T locs cells slots) {x y : Int64} (hd : decode bytes pc = .ok (.lcmp, 1)) (hp : pc + 1 = pc') 
    (k : Go p e below Q (T.setTop (fr m pc' L (.int (lcmpW x y) :: st)))) : Go p e below Q (T.setTop (fr m pc L (.long y :: .long x :: st))) := by
  subst hp
  exact Go.of (fun _ q => XS.lcmp X.here B.hx rfl (hb B.by' hd) rfl q) k
theorem Go.iinc (B : Ctx p Z s m meth c own nm bytes maxL ret) (X : Stand p l e R s m args below meth c T locs cells slots) {k : Nat} {i : Int} {x : Int32} (v : Int32) (hd : decode bytes pc = .ok (.iinc k i, 3)) (hp : pc + 3 = pc') (hl : lk L k = some (.val (.int x))) (hv : Int32.ofInt i = v)
    (k : Go p e below Q (T.setTop (fr m pc' (put1 L k (.val (.int (x + v)))) (st)))) : Go p e below Q (T.setTop (fr m pc L (st))) := by
  subst hp
  exact Go.of (fun _ q => XS.iinc X.here B.hx rfl (hb B.by' hd) (lk_arr hl) (hv ▸ st1 hl rfl rfl) q) k
theorem Go.dup (B : Ctx p Z s m meth c own nm bytes maxL ret) (X : Stand p l e R s m args below meth c T locs cells slots) {x : Value} (hd : decode bytes pc = .ok (.dup, 1)) (hp : pc + 1 = pc') (hv : x.category = 1)
    (k : Go p e below Q (T.setTop (fr m pc' L (x :: x :: st)))) : Go p e below Q (T.setTop (fr m pc L (x :: st))) := by
  subst hp
  exact Go.of (fun _ q => XS.dup X.here B.hx rfl (hb B.by' hd) rfl hv q) k
theorem Go.pop (B : Ctx p Z s m meth c own nm bytes maxL ret) (X : Stand p l e R s m args below meth c T locs cells slots) {x : Value} (hd : decode bytes pc = .ok (.pop, 1)) (hp : pc + 1 = pc') (hv : x.category = 1)
    (k : Go p e below Q (T.setTop (fr m pc' L (st)))) : Go p e below Q (T.setTop (fr m pc L (x :: st))) := by
  subst hp
  exact Go.of (fun _ q => XS.pop X.here B.hx rfl (hb B.by' hd) rfl hv q) k
theorem Go.dupX1 (B : Ctx p Z s m meth c own nm bytes maxL ret) (X : Stand p l e R s m args below meth c T locs cells slots) {x y : Value} (hd : decode bytes pc = .ok (.dup_x1, 1)) (hp : pc + 1 = pc') (hv : x.category = 1) (hw : y.category = 1)
    (k : Go p e below Q (T.setTop (fr m pc' L (x :: y :: x :: st)))) : Go p e below Q (T.setTop (fr m pc L (x :: y :: st))) := by
  subst hp
  exact Go.of (fun _ q => XS.dupX1 X.here B.hx rfl (hb B.by' hd) rfl hv hw q) k
theorem Go.dup2 (B : Ctx p Z s m meth c own nm bytes maxL ret) (X : Stand p l e R s m args below meth c T locs cells slots) {x y : Value} (hd : decode bytes pc = .ok (.dup2, 1)) (hp : pc + 1 = pc') (hv : x.category = 1) (hw : y.category = 1)
    (k : Go p e below Q (T.setTop (fr m pc' L (x :: y :: x :: y :: st)))) : Go p e below Q (T.setTop (fr m pc L (x :: y :: st))) := by
  subst hp
  exact Go.of (fun _ q => XT.dup2 X.here B.hx rfl (hb B.by' hd) rfl hv hw q) k
theorem Go.i2d (B : Ctx p Z s m meth c own nm bytes maxL ret) (X : Stand p l e R s m args below meth c T locs cells slots) {x : Int32} (hd : decode bytes pc = .ok (.i2d, 1)) (hp : pc + 1 = pc') 
    (k : Go p e below Q (T.setTop (fr m pc' L (.double (FP.i2d x) :: st)))) : Go p e below Q (T.setTop (fr m pc L (.int x :: st))) := by
  subst hp
  exact Go.of (fun _ q => XS.i2dS X.here B.hx rfl (hb B.by' hd) rfl rfl q) k
theorem Go.l2d (B : Ctx p Z s m meth c own nm bytes maxL ret) (X : Stand p l e R s m args below meth c T locs cells slots) {x : Int64} (hd : decode bytes pc = .ok (.l2d, 1)) (hp : pc + 1 = pc') 
    (k : Go p e below Q (T.setTop (fr m pc' L (.double (FP.l2d x) :: st)))) : Go p e below Q (T.setTop (fr m pc L (.long x :: st))) := by
  subst hp
  exact Go.of (fun _ q => XS.l2dS X.here B.hx rfl (hb B.by' hd) rfl rfl q) k
theorem Go.dconst0 (B : Ctx p Z s m meth c own nm bytes maxL ret) (X : Stand p l e R s m args below meth c T locs cells slots)  (hd : decode bytes pc = .ok (.dconst 0, 1)) (hp : pc + 1 = pc') 
    (k : Go p e below Q (T.setTop (fr m pc' L (.double FP.dconst0 :: st)))) : Go p e below Q (T.setTop (fr m pc L (st))) := by
  subst hp
  exact Go.of (fun _ q => XS.dconst0 X.here B.hx rfl (hb B.by' hd) rfl q) k
theorem Go.dconst1 (B : Ctx p Z s m meth c own nm bytes maxL ret) (X : Stand p l e R s m args below meth c T locs cells slots)  (hd : decode bytes pc = .ok (.dconst 1, 1)) (hp : pc + 1 = pc') 
    (k : Go p e below Q (T.setTop (fr m pc' L (.double FP.dconst1 :: st)))) : Go p e below Q (T.setTop (fr m pc L (st))) := by
  subst hp
  exact Go.of (fun _ q => XS.dconst1 X.here B.hx rfl (hb B.by' hd) rfl q) k
theorem Go.dneg (B : Ctx p Z s m meth c own nm bytes maxL ret) (X : Stand p l e R s m args below meth c T locs cells slots) {x : UInt64} (hd : decode bytes pc = .ok (.dneg, 1)) (hp : pc + 1 = pc') 
    (k : Go p e below Q (T.setTop (fr m pc' L (.double (FP.dneg x) :: st)))) : Go p e below Q (T.setTop (fr m pc L (.double x :: st))) := by
  subst hp
  exact Go.of (fun _ q => XS.dnegS X.here B.hx rfl (hb B.by' hd) rfl rfl q) k
theorem Go.dcmp (B : Ctx p Z s m meth c own nm bytes maxL ret) (X : Stand p l e R s m args below meth c T locs cells slots) {x y : UInt64} {o : CmpOp} (hd : decode bytes pc = .ok (.dcmp o, 1)) (hp : pc + 1 = pc') 
    (k : Go p e below Q (T.setTop (fr m pc' L (.int (cmpValue (FP.dcmp x y) o) :: st)))) : Go p e below Q (T.setTop (fr m pc L (.double y :: .double x :: st))) := by
  subst hp
  exact Go.of (fun _ q => XS.dcmpS X.here B.hx rfl (hb B.by' hd) rfl rfl q) k
theorem Go.dadd (B : Ctx p Z s m meth c own nm bytes maxL ret) (X : Stand p l e R s m args below meth c T locs cells slots) {x y : UInt64} (hd : decode bytes pc = .ok (.dadd, 1)) (hp : pc + 1 = pc') (hn : Jvm.Free.Fl.NoNaN64 (FP.dadd x y))
    (k : Go p e below Q (T.setTop (fr m pc' L (.double (FP.dadd x y) :: st)))) : Go p e below Q (T.setTop (fr m pc L (.double y :: .double x :: st))) := by
  subst hp
  exact Go.of (fun _ q => XS.daddS X.here B.hx rfl (hb B.by' hd) rfl hn rfl q) k
theorem Go.dsub (B : Ctx p Z s m meth c own nm bytes maxL ret) (X : Stand p l e R s m args below meth c T locs cells slots) {x y : UInt64} (hd : decode bytes pc = .ok (.dsub, 1)) (hp : pc + 1 = pc') (hn : Jvm.Free.Fl.NoNaN64 (FP.dsub x y))
    (k : Go p e below Q (T.setTop (fr m pc' L (.double (FP.dsub x y) :: st)))) : Go p e below Q (T.setTop (fr m pc L (.double y :: .double x :: st))) := by
  subst hp
  exact Go.of (fun _ q => XS.dsubS X.here B.hx rfl (hb B.by' hd) rfl hn rfl q) k
theorem Go.dmul (B : Ctx p Z s m meth c own nm bytes maxL ret) (X : Stand p l e R s m args below meth c T locs cells slots) {x y : UInt64} (hd : decode bytes pc = .ok (.dmul, 1)) (hp : pc + 1 = pc') (hn : Jvm.Free.Fl.NoNaN64 (FP.dmul x y))
    (k : Go p e below Q (T.setTop (fr m pc' L (.double (FP.dmul x y) :: st)))) : Go p e below Q (T.setTop (fr m pc L (.double y :: .double x :: st))) := by
  subst hp
  exact Go.of (fun _ q => XS.dmulS X.here B.hx rfl (hb B.by' hd) rfl hn rfl q) k
theorem Go.ddiv (B : Ctx p Z s m meth c own nm bytes maxL ret) (X : Stand p l e R s m args below meth c T locs cells slots) {x y : UInt64} (hd : decode bytes pc = .ok (.ddiv, 1)) (hp : pc + 1 = pc') (hn : Jvm.Free.Fl.NoNaN64 (FP.ddiv x y))
    (k : Go p e below Q (T.setTop (fr m pc' L (.double (FP.ddiv x y) :: st)))) : Go p e below Q (T.setTop (fr m pc L (.double y :: .double x :: st))) := by
  subst hp
  exact Go.of (fun _ q => XS.ddivS X.here B.hx rfl (hb B.by' hd) rfl hn rfl q) k
theorem Go.goto (B : Ctx p Z s m meth c own nm bytes maxL ret) (X : Stand p l e R s m args below meth c T locs cells slots) {o : Int} (hd : decode bytes pc = .ok (.goto o, 3)) (ho : 0 ≤ (pc : Int) + o) (hp : ((pc : Int) + o).toNat = pc')
    (k : Go p e below Q (T.setTop (fr m pc' L st))) : Go p e below Q (T.setTop (fr m pc L st)) :=
  Go.of (fun _ q => XS.goto X.here B.hx rfl rfl (hb B.by' hd) ho hp q) k
theorem Go.ifT (B : Ctx p Z s m meth c own nm bytes maxL ret) (X : Stand p l e R s m args below meth c T locs cells slots) {cd : ClassFile.Cond} {x : Int32} {o : Int} (hd : decode bytes pc = .ok (.ifCond cd o, 3)) (ho : 0 ≤ (pc : Int) + o) (hp : ((pc : Int) + o).toNat = pc') (hc : CP cd x 0)
    (k : Go p e below Q (T.setTop (fr m pc' L st))) : Go p e below Q (T.setTop (fr m pc L (.int x :: st))) :=
  Go.of (fun _ q => XS.ifYes X.here B.hx rfl rfl (hb B.by' hd) rfl ((if0 _ _).trans hc.holds) ho hp q) k
theorem Go.ifF (B : Ctx p Z s m meth c own nm bytes maxL ret) (X : Stand p l e R s m args below meth c T locs cells slots) {cd : ClassFile.Cond} {x : Int32} {o : Int} (hd : decode bytes pc = .ok (.ifCond cd o, 3)) (hp : pc + 3 = pc') (hc : CN cd x 0)
    (k : Go p e below Q (T.setTop (fr m pc' L st))) : Go p e below Q (T.setTop (fr m pc L (.int x :: st))) := by
  subst hp
  exact Go.of (fun _ q => XS.ifNo X.here B.hx rfl (hb B.by' hd) rfl ((if0 _ _).trans hc.holds) q) k
theorem Go.ifc (B : Ctx p Z s m meth c own nm bytes maxL ret) (X : Stand p l e R s m args below meth c T locs cells slots) {cd : ClassFile.Cond} {x : Int32} {o : Int} (hd : decode bytes pc = .ok (.ifCond cd o, 3)) (ho : 0 ≤ (pc : Int) + o) (hp : ((pc : Int) + o).toNat = pcT) (hp' : pc + 3 = pc')
    (kT : CP cd x 0 → Go p e below Q (T.setTop (fr m pcT L st))) (kF : CN cd x 0 → Go p e below Q (T.setTop (fr m pc' L st))) : Go p e below Q (T.setTop (fr m pc L (.int x :: st))) :=
  (cp_or cd x 0).elim (fun h => Go.ifT B X hd ho hp h (kT h)) (fun h => Go.ifF B X hd hp' h (kF h))
theorem Go.icT (B : Ctx p Z s m meth c own nm bytes maxL ret) (X : Stand p l e R s m args below meth c T locs cells slots) {cd : ClassFile.Cond} {x y : Int32} {o : Int} (hd : decode bytes pc = .ok (.if_icmp cd o, 3)) (ho : 0 ≤ (pc : Int) + o) (hp : ((pc : Int) + o).toNat = pc') (hc : CP cd x y)
    (k : Go p e below Q (T.setTop (fr m pc' L st))) : Go p e below Q (T.setTop (fr m pc L (.int y :: .int x :: st))) :=
  Go.of (fun _ q => XS.icmpYes X.here B.hx rfl rfl (hb B.by' hd) rfl hc.holds ho hp q) k
theorem Go.icF (B : Ctx p Z s m meth c own nm bytes maxL ret) (X : Stand p l e R s m args below meth c T locs cells slots) {cd : ClassFile.Cond} {x y : Int32} {o : Int} (hd : decode bytes pc = .ok (.if_icmp cd o, 3)) (hp : pc + 3 = pc') (hc : CN cd x y)
    (k : Go p e below Q (T.setTop (fr m pc' L st))) : Go p e below Q (T.setTop (fr m pc L (.int y :: .int x :: st))) := by
  subst hp
  exact Go.of (fun _ q => XS.icmpNo X.here B.hx rfl (hb B.by' hd) rfl hc.holds q) k
theorem Go.ic (B : Ctx p Z s m meth c own nm bytes maxL ret) (X : Stand p l e R s m args below meth c T locs cells slots) {cd : ClassFile.Cond} {x y : Int32} {o : Int} (hd : decode bytes pc = .ok (.if_icmp cd o, 3)) (ho : 0 ≤ (pc : Int) + o) (hp : ((pc : Int) + o).toNat = pcT) (hp' : pc + 3 = pc')
    (kT : CP cd x y → Go p e below Q (T.setTop (fr m pcT L st))) (kF : CN cd x y → Go p e below Q (T.setTop (fr m pc' L st))) : Go p e below Q (T.setTop (fr m pc L (.int y :: .int x :: st))) :=
  (cp_or cd x y).elim (fun h => Go.icT B X hd ho hp h (kT h)) (fun h => Go.icF B X hd hp' h (kF h))
theorem Go.nullT (B : Ctx p Z s m meth c own nm bytes maxL ret) (X : Stand p l e R s m args below meth c T locs cells slots) {o : Int} (hd : decode bytes pc = .ok (.ifnull o, 3)) (ho : 0 ≤ (pc : Int) + o) (hp : ((pc : Int) + o).toNat = pc')
    (k : Go p e below Q (T.setTop (fr m pc' L st))) : Go p e below Q (T.setTop (fr m pc L (.null :: st))) :=
  Go.of (fun _ q => XS.ifnullYes X.here B.hx rfl rfl (hb B.by' hd) rfl ho hp q) k
theorem Go.nullF (B : Ctx p Z s m meth c own nm bytes maxL ret) (X : Stand p l e R s m args below meth c T locs cells slots) {o : Int} {b : Addr} (hd : decode bytes pc = .ok (.ifnull o, 3)) (hp : pc + 3 = pc')
    (k : Go p e below Q (T.setTop (fr m pc' L st))) : Go p e below Q (T.setTop (fr m pc L (.ref b :: st))) := by
  subst hp
  exact Go.of (fun _ q => XS.ifnullNo X.here B.hx rfl (hb B.by' hd) rfl q) k
theorem Go.nnT (B : Ctx p Z s m meth c own nm bytes maxL ret) (X : Stand p l e R s m args below meth c T locs cells slots) {o : Int} {b : Addr} (hd : decode bytes pc = .ok (.ifnonnull o, 3)) (ho : 0 ≤ (pc : Int) + o) (hp : ((pc : Int) + o).toNat = pc')
    (k : Go p e below Q (T.setTop (fr m pc' L st))) : Go p e below Q (T.setTop (fr m pc L (.ref b :: st))) :=
  Go.of (fun _ q => XS.ifnonnullYes X.here B.hx rfl rfl (hb B.by' hd) rfl ho hp q) k
theorem Go.nnF (B : Ctx p Z s m meth c own nm bytes maxL ret) (X : Stand p l e R s m args below meth c T locs cells slots) {o : Int} (hd : decode bytes pc = .ok (.ifnonnull o, 3)) (hp : pc + 3 = pc')
    (k : Go p e below Q (T.setTop (fr m pc' L st))) : Go p e below Q (T.setTop (fr m pc L (.null :: st))) := by
  subst hp
  exact Go.of (fun _ q => XS.ifnonnullNo X.here B.hx rfl (hb B.by' hd) rfl q) k
theorem Go.acmp (B : Ctx p Z s m meth c own nm bytes maxL ret) (X : Stand p l e R s m args below meth c T locs cells slots) {cd : ACond} {x y : Value} {o : Int} {same : Bool} (hd : decode bytes pc = .ok (.if_acmp cd o, 3)) (h1 : x.isRef = true) (h2 : y.isRef = true) (hq : decide (x = y) = same) (ho : 0 ≤ (pc : Int) + o) (hp : pc' = if acV cd same = true then ((pc : Int) + o).toNat else pc + 3)
    (k : Go p e below Q (T.setTop (fr m pc' L st))) : Go p e below Q (T.setTop (fr m pc L (y :: x :: st))) :=
  Go.of (fun _ q => RoadKit.acmp X B.hx rfl h1 h2 rfl (hb B.by' hd) rfl hq ho hp q) k
/-! constants of the pool -/
theorem Go.ldcI (B : Ctx p Z s m meth c own nm bytes maxL ret) (X : Stand p l e R s m args below meth c T locs cells slots) {i : Nat} {v : Int32} (w : (Jvm.Cond.constant own i v).before a0 Z = true) (hd : decode bytes pc = .ok (.ldc i, 2)) (hp : pc + 2 = pc')
    (k : Go p e below Q (T.setTop (fr m pc' L (.int v :: st)))) : Go p e below Q (T.setTop (fr m pc L st)) := by
  subst hp
  exact Go.of (fun _ q => X.ldcI B.hx B.cl (mvT B.hZ w) (g := fr m pc L st) rfl (hb B.by' hd) q) k
theorem Go.ldc2D (B : Ctx p Z s m meth c own nm bytes maxL ret) (X : Stand p l e R s m args below meth c T locs cells slots) {i : Nat} {v : UInt64} (w : (Jvm.Cond.constantDouble own i v).before a0 Z = true) (hd : decode bytes pc = .ok (.ldc2_w i, 3)) (hp : pc + 3 = pc')
    (k : Go p e below Q (T.setTop (fr m pc' L (.double v :: st)))) : Go p e below Q (T.setTop (fr m pc L st)) := by
  subst hp
  exact Go.of (fun _ q => X.ldc2DoubleC B.hx B.cl (mvT B.hZ w) (g := fr m pc L st) rfl (hb B.by' hd) _ q) k
theorem Go.ldc2J (B : Ctx p Z s m meth c own nm bytes maxL ret) (X : Stand p l e R s m args below meth c T locs cells slots) {i : Nat} {v : Int64} (w : (Jvm.Cond.constantLong own i v).before a0 Z = true) (hd : decode bytes pc = .ok (.ldc2_w i, 3)) (hp : pc + 3 = pc')
    (k : Go p e below Q (T.setTop (fr m pc' L (.long v :: st)))) : Go p e below Q (T.setTop (fr m pc L st)) := by
  subst hp
  exact Go.of (fun _ q => X.ldc2Long B.hx B.cl (mvT B.hZ w) (g := fr m pc L st) rfl (hb B.by' hd) _ q) k
/-! the heap -/
theorem Go.newO (B : Ctx p Z s m meth c own nm bytes maxL ret) (X : Stand p l e R s m args below meth c T locs cells slots) (eT : T.heap = h) {C : String} {i n : Nat} (w : (Jvm.Cond.classLink own i C).before a0 Z = true) (wi : (Jvm.Cond.instantiable C n).before a0 Z = true) (wz : (Jvm.Cond.initialized C).before a0 Z = true)
    (hd : decode bytes pc = .ok (.new i, 3)) (hp : pc + 3 = pc') (hc : cells + 1 ≤ R.cells) (hl : slots + n ≤ R.slots)
    (k : ∀ T' h' a, a = h.size → Stand p l e R s m args below meth c T' locs (cells + 1) (slots + n) → T'.heap = h' → Ext h h' → Exa Z h' a C → (∀ {O nm d : String} {ty : FieldType}, Laid Z a0 C O nm d → parseFieldDescriptor d = some ty → Fld Z h' a O nm d (defaultValue ty)) → Go p e below Q (T'.setTop (fr m pc' L (.ref a :: st)))) : Go p e below Q (T.setTop (fr m pc L st)) := by
  subst hp
  obtain ⟨T', h', X', e', E, A, D, -, stp⟩ := RoadKit.newO X B.hx B.hZ B.cl w wi wz eT (g := fr m pc L st) rfl (hb B.by' hd) hc hl
  exact Go.of stp (k T' h' _ rfl X' e' E A D)
theorem Go.initO (B : Ctx p Z s m meth c own nm bytes maxL ret) (X : Stand p l e R s m args below meth c T locs cells slots) (eT : T.heap = h) {i : Nat} (w1 : (Jvm.Cond.methodLink own i Lib.objectInit).before a0 Z = true) (w2 : (Jvm.Cond.instanceMethod Lib.objectInit).before a0 Z = true) (w3 : (Jvm.Cond.code Lib.objectInit ⟨#[0xb1]⟩ 1 none).before a0 Z = true) {a : Addr}
    (hd : decode bytes pc = .ok (.invokespecial i, 3)) (hp : pc + 3 = pc') (hL : L.length = maxL) (hf : 1 ≤ R.frames) (hl : (st.map fun v => v.category).sum + 12 ≤ R.locals)
    (k : ∀ T', Stand p l e R s m args below meth c T' locs cells slots → T'.heap = h → Go p e below Q (T'.setTop (fr m pc' L st))) : Go p e below Q (T.setTop (fr m pc L (.ref a :: st))) := by
  subst hp
  obtain ⟨T', X', e', stp⟩ := RoadKit.initO X B.hx B.hZ B.cl w1 w2 w3 eT (g := fr m pc L (.ref a :: st)) rfl (by rw [B.ml]; exact hL) rfl (hb B.by' hd) hf (W := (st.map fun v => v.category).sum) (by show 2 * 0 + _ ≤ _; omega) hl
  exact Go.of stp (k T' X' e')
theorem Go.getF (B : Ctx p Z s m meth c own nm bytes maxL ret) (X : Stand p l e R s m args below meth c T locs cells slots) (eT : T.heap = h) {O n d : String} {i : Nat} {a : Addr} {v : Value} (w : (Jvm.Cond.fieldLink own i O n d).before a0 Z = true) (F : Fld Z h a O n d v) (hd : decode bytes pc = .ok (.getfield i, 3)) (hp : pc + 3 = pc')
    (k : ∀ T', Stand p l e R s m args below meth c T' locs cells slots → T'.heap = h → Go p e below Q (T'.setTop (fr m pc' L (v :: st)))) : Go p e below Q (T.setTop (fr m pc L (.ref a :: st))) := by
  subst hp
  obtain ⟨T', X', e', stp⟩ := RoadKit.getF X B.hx B.hZ B.cl (host := "") (Or.inl w) Via.refl eT F (g := fr m pc L (.ref a :: st)) rfl rfl (hb B.by' hd)
  exact Go.of stp (k T' X' e')
theorem Go.getS (B : Ctx p Z s m meth c own nm bytes maxL ret) (X : Stand p l e R s m args below meth c T locs cells slots) (eT : T.heap = h) {O n d : String} {i : Nat} {v : Value} (w : (Jvm.Cond.fieldLink own i O n d).before a0 Z = true) (F : Sta Z h O n d v) (hd : decode bytes pc = .ok (.getstatic i, 3)) (hp : pc + 3 = pc')
    (k : ∀ T', Stand p l e R s m args below meth c T' locs cells slots → T'.heap = h → Go p e below Q (T'.setTop (fr m pc' L (v :: st)))) : Go p e below Q (T.setTop (fr m pc L st)) := by
  subst hp
  obtain ⟨T', X', e', stp⟩ := RoadKit.getS (host := "") X B.hx B.hZ B.cl w Via.refl eT F (g := fr m pc L st) rfl (hb B.by' hd)
  exact Go.of stp (k T' X' e')
theorem Go.putF (B : Ctx p Z s m meth c own nm bytes maxL ret) (X : Stand p l e R s m args below meth c T locs cells slots) (eT : T.heap = h) {O n d C : String} {i kk : Nat} {ty : FieldType} {a : Addr} {v old : Value} (w : (Jvm.Cond.fieldLink own i O n d).before a0 Z = true) (F : Fld Z h a O n d old) (E : Exa Z h a C)
    (Ly : (Jvm.Cond.lays C O n d).before a0 Z = true ∨ ((Jvm.Cond.laysFinal C O n d).before a0 Z = true ∧ own = O ∧ meth.name = "<init>")) (wi : (Jvm.Cond.instantiable C kk).before a0 Z = true) (hty : parseFieldDescriptor d = some ty) (hn : narrow ty v = v) (hf : fits ty v = true) (hd : decode bytes pc = .ok (.putfield i, 3)) (hp : pc + 3 = pc')
    (k : ∀ T' h', Stand p l e R s m args below meth c T' (locs ++ [⟨a, RoadKit.slotOf Z O n d⟩]) cells slots → T'.heap = h' → Wr h h' a (RoadKit.slotOf Z O n d) v → Go p e below Q (T'.setTop (fr m pc' L st))) : Go p e below Q (T.setTop (fr m pc L (v :: .ref a :: st))) := by
  subst hp
  obtain ⟨T', h', X', e', W, stp⟩ := RoadKit.putF X B.hx B.hZ B.cl (host := "") (Or.inl w) Via.refl eT F E Ly wi hty hn hf (g := fr m pc L (v :: .ref a :: st)) rfl rfl (hb B.by' hd)
  exact Go.of stp (k T' h' X' e' W)

/-- an array, its components listed -/
def Av (Z : State) (h : Heap) (a : Addr) (ty : FieldType) (vs : List Value) : Prop := ∃ c : Cell, Arr Z h a c ty ∧ c.slots = ⟨vs⟩ ∧ vs.length < 2 ^ 31 ∧ ∀ v ∈ vs, fits ty v = true
theorem Av.lt {a : Addr} {ty : FieldType} {vs : List Value} (F : Av Z h a ty vs) : a < h.size := by obtain ⟨c, A, -⟩ := F; exact A.lt
theorem Av.ext {h' : Heap} {a : Addr} {ty : FieldType} {vs : List Value} (F : Av Z h a ty vs) (E : Ext h h') : Av Z h' a ty vs := by obtain ⟨c, A, r⟩ := F; exact ⟨c, A.ext E, r⟩
theorem Av.other {h' : Heap} {a b : Addr} {ty : FieldType} {vs : List Value} {sl : Nat} {v : Value} (F : Av Z h b ty vs) (W : Wr h h' a sl v) (q : b ≠ a) : Av Z h' b ty vs := by obtain ⟨c, A, r⟩ := F; exact ⟨c, A.other W q, r⟩
theorem Av.keep {h' : Heap} {a : Addr} {ty : FieldType} {vs : List Value} {ws : List Addr} (F : Av Z h a ty vs) (K : Keep h h' ws) (q : a ∉ ws) : Av Z h' a ty vs := by obtain ⟨c, A, r⟩ := F; exact ⟨c, ⟨K.2.1 a c A.1 q, A.2⟩, r⟩
theorem Av.set {h' : Heap} {a : Addr} {ty : FieldType} {vs : List Value} {i : Nat} {v : Value} (F : Av Z h a ty vs) (W : Wr h h' a i v) (hv : fits ty v = true) : Av Z h' a ty (vs.set i v) := by
  obtain ⟨c, A, r1, r2, r3⟩ := F
  refine ⟨c.setSlot i v, A.same W, ?_, by simpa using r2, fun x hx => ?_⟩
  · simp only [Cell.setSlot, r1]; simp
  · rcases List.mem_or_eq_of_mem_set hx with q | q
    · exact r3 x q
    · exact q ▸ hv
theorem Av.arv {a : Addr} {ty : FieldType} {vs : List Value} (F : Av Z h a ty vs) (d : Value) : ∃ k, Arv Z h a k ty (Int32.ofNat vs.length) vs d := by
  obtain ⟨c, A, r1, r2, r3⟩ := F
  have q : c.slots.size = vs.length := by rw [r1]; rfl
  have w : (Int32.ofNat vs.length).toNatClampNeg = vs.length := Int32.toNatClampNeg_ofNat_of_lt r2
  refine ⟨c.cls, c, A, rfl, by rw [q, w], ?_, fun k hk => ?_, fun i hi => ?_⟩
  · intro hlt
    rw [Int32.lt_iff_toInt_lt] at hlt
    rw [Int32.toInt_ofNat_of_lt r2] at hlt
    have : (0 : Int32).toInt = 0 := by decide
    omega
  · rw [q] at hk
    rw [r1]
    simp [List.getD, hk]
  · rw [q] at hi
    have : vs.getD i d = vs[i] := by simp [List.getD, hi]
    rw [this]
    exact r3 _ (List.getElem_mem hi)
theorem Av.of_arv {a : Addr} {k : ClassId} {ty : FieldType} {n : Int32} {vs : List Value} {d : Value} (F : Arv Z h a k ty n vs d) (hn : n.toNatClampNeg = vs.length) : Av Z h a ty vs := by
  obtain ⟨c, A, r1, r2, r3, H, G⟩ := F
  have hb : vs.length < 2 ^ 31 := by rw [← hn]; exact (back32 r3).2
  have q : c.slots.size = vs.length := by rw [r2, hn]
  refine ⟨c, A, ?_, hb, fun v hv => ?_⟩
  · apply Array.ext'
    apply List.ext_getElem?
    intro i
    by_cases hi : i < vs.length
    · have := H i (by omega)
      simp [List.getD, hi] at this
      simp [this, hi]
    · rw [List.getElem?_eq_none (by simp; omega), List.getElem?_eq_none (by simp; omega)]
  · obtain ⟨i, hi, rfl⟩ := List.mem_iff_getElem.mp hv
    have := G i (by omega)
    simpa [List.getD, hi] using this
theorem idx_ok {i n : Nat} {j : Int32} (hj : j = Int32.ofNat i) (hi : i < n) (hn : n < 2 ^ 31) : ¬ (j < 0 ∨ n ≤ j.toNatClampNeg) ∧ j.toNatClampNeg = i := by
  subst hj
  exact ⟨idx_in hi hn, Int32.toNatClampNeg_ofNat_of_lt (by omega)⟩
theorem Go.newP (B : Ctx p Z s m meth c own nm bytes maxL ret) (X : Stand p l e R s m args below meth c T locs cells slots) (eT : T.heap = h) {aty : ArrayType} (n : Nat) {j : Int32} (w : (Jvm.Cond.arrayClass (newarray.typeOf aty)).before a0 Z = true) (hd : decode bytes pc = .ok (.newarray aty, 2)) (hp : pc + 2 = pc') (hj : j = Int32.ofNat n) (hn : n ≤ 67108864) (hc : cells + 1 ≤ R.cells) (hl : slots + n ≤ R.slots)
    (k : ∀ T' h' a, a = h.size → Stand p l e R s m args below meth c T' locs (cells + 1) (slots + n) → T'.heap = h' → Ext h h' → Av Z h' a (newarray.typeOf aty) (List.replicate n (defaultValue (newarray.typeOf aty))) → Go p e below Q (T'.setTop (fr m pc' L (.ref a :: st)))) : Go p e below Q (T.setTop (fr m pc L (.int j :: st))) := by
  subst hp hj
  have w2 : (Int32.ofNat n).toNatClampNeg = n := Int32.toNatClampNeg_ofNat_of_lt (by omega)
  have hneg : ¬ Int32.ofNat n < 0 := by
    intro hlt
    rw [Int32.lt_iff_toInt_lt] at hlt
    rw [Int32.toInt_ofNat_of_lt (by omega)] at hlt
    have : (0 : Int32).toInt = 0 := by decide
    omega
  obtain ⟨T', h', cA, X', e', E, A, stp⟩ := RoadKit.newP X B.hx B.hZ w eT (g := fr m pc L (.int (Int32.ofNat n) :: st)) rfl (hb B.by' hd) rfl hneg (cap := n) (by omega) (by omega) hc hl
  refine Go.of stp (k T' h' _ rfl X' e' E ⟨_, A, by simp [newA, w2], by simp; omega, fun v hv => ?_⟩)
  rw [(List.mem_replicate.mp hv).2]
  cases aty <;> decide

theorem Go.caload (B : Ctx p Z s m meth c own nm bytes maxL ret) (X : Stand p l e R s m args below meth c T locs cells slots) (eT : T.heap = h) {a : Addr} {vs : List Value} {j : Int32} {v : Value} (A : Av Z h a .char vs) (i : Nat) (hd : decode bytes pc = .ok (.caload, 1)) (hp : pc + 1 = pc') (hj : j = Int32.ofNat i) (hv : vs[i]? = some v)
    (k : Go p e below Q (T.setTop (fr m pc' L (v :: st)))) : Go p e below Q (T.setTop (fr m pc L (.int j :: .ref a :: st))) := by
  subst hp
  obtain ⟨cl, Ar, r1, r2, r3⟩ := A
  obtain ⟨hi, -⟩ := List.getElem?_eq_some_iff.mp hv
  obtain ⟨q1, q2⟩ := idx_ok hj hi r2
  exact Go.of (fun _ q => X.caload B.hx (cell := cl) (j := j) (v := v) (by rw [eT]; exact Ar.1) (State.isArrayOf_alike B.hZ.alike Ar.2.1) Ar.2.2 (by rw [r1]; exact q1) (by rw [r1, q2]; simpa using hv) (g := fr m pc L (.int j :: .ref a :: st)) rfl rfl (hb B.by' hd) _ q) k
theorem Go.iaload (B : Ctx p Z s m meth c own nm bytes maxL ret) (X : Stand p l e R s m args below meth c T locs cells slots) (eT : T.heap = h) {a : Addr} {vs : List Value} {j : Int32} {v : Value} (A : Av Z h a .int vs) (i : Nat) (hd : decode bytes pc = .ok (.iaload, 1)) (hp : pc + 1 = pc') (hj : j = Int32.ofNat i) (hv : vs[i]? = some v)
    (k : Go p e below Q (T.setTop (fr m pc' L (v :: st)))) : Go p e below Q (T.setTop (fr m pc L (.int j :: .ref a :: st))) := by
  subst hp
  obtain ⟨cl, Ar, r1, r2, r3⟩ := A
  obtain ⟨hi, -⟩ := List.getElem?_eq_some_iff.mp hv
  obtain ⟨q1, q2⟩ := idx_ok hj hi r2
  exact Go.of (fun _ q => X.iaload B.hx (cell := cl) (j := j) (v := v) (by rw [eT]; exact Ar.1) (State.isArrayOf_alike B.hZ.alike Ar.2.1) Ar.2.2 (by rw [r1]; exact q1) (by rw [r1, q2]; simpa using hv) (g := fr m pc L (.int j :: .ref a :: st)) rfl rfl (hb B.by' hd) _ q) k
theorem Go.baload (B : Ctx p Z s m meth c own nm bytes maxL ret) (X : Stand p l e R s m args below meth c T locs cells slots) (eT : T.heap = h) {a : Addr} {vs : List Value} {j : Int32} {v : Value} (A : Av Z h a .byte vs) (i : Nat) (hd : decode bytes pc = .ok (.baload, 1)) (hp : pc + 1 = pc') (hj : j = Int32.ofNat i) (hv : vs[i]? = some v)
    (k : Go p e below Q (T.setTop (fr m pc' L (v :: st)))) : Go p e below Q (T.setTop (fr m pc L (.int j :: .ref a :: st))) := by
  subst hp
  obtain ⟨cl, Ar, r1, r2, r3⟩ := A
  obtain ⟨hi, -⟩ := List.getElem?_eq_some_iff.mp hv
  obtain ⟨q1, q2⟩ := idx_ok hj hi r2
  exact Go.of (fun _ q => X.baloadBytes B.hx (cell := cl) (j := j) (v := v) (by rw [eT]; exact Ar.1) (State.isArrayOf_alike B.hZ.alike Ar.2.1) Ar.2.2 (by rw [r1]; exact q1) (by rw [r1, q2]; simpa using hv) (g := fr m pc L (.int j :: .ref a :: st)) rfl rfl (hb B.by' hd) _ q) k
theorem Go.daload (B : Ctx p Z s m meth c own nm bytes maxL ret) (X : Stand p l e R s m args below meth c T locs cells slots) (eT : T.heap = h) {a : Addr} {vs : List Value} {j : Int32} {v : Value} (A : Av Z h a .double vs) (i : Nat) (hd : decode bytes pc = .ok (.daload, 1)) (hp : pc + 1 = pc') (hj : j = Int32.ofNat i) (hv : vs[i]? = some v)
    (k : Go p e below Q (T.setTop (fr m pc' L (v :: st)))) : Go p e below Q (T.setTop (fr m pc L (.int j :: .ref a :: st))) := by
  subst hp
  obtain ⟨cl, Ar, r1, r2, r3⟩ := A
  obtain ⟨hi, -⟩ := List.getElem?_eq_some_iff.mp hv
  obtain ⟨q1, q2⟩ := idx_ok hj hi r2
  exact Go.of (fun _ q => X.daload B.hx (cell := cl) (j := j) (v := v) (by rw [eT]; exact Ar.1) (State.isArrayOf_alike B.hZ.alike Ar.2.1) Ar.2.2 (by rw [r1]; exact q1) (by rw [r1, q2]; simpa using hv) (g := fr m pc L (.int j :: .ref a :: st)) rfl rfl (hb B.by' hd) _ q) k
theorem Go.laload (B : Ctx p Z s m meth c own nm bytes maxL ret) (X : Stand p l e R s m args below meth c T locs cells slots) (eT : T.heap = h) {a : Addr} {vs : List Value} {j : Int32} {v : Value} (A : Av Z h a .long vs) (i : Nat) (hd : decode bytes pc = .ok (.laload, 1)) (hp : pc + 1 = pc') (hj : j = Int32.ofNat i) (hv : vs[i]? = some v)
    (k : Go p e below Q (T.setTop (fr m pc' L (v :: st)))) : Go p e below Q (T.setTop (fr m pc L (.int j :: .ref a :: st))) := by
  subst hp
  obtain ⟨cl, Ar, r1, r2, r3⟩ := A
  obtain ⟨hi, -⟩ := List.getElem?_eq_some_iff.mp hv
  obtain ⟨q1, q2⟩ := idx_ok hj hi r2
  exact Go.of (fun _ q => X.laload B.hx (cell := cl) (j := j) (v := v) (by rw [eT]; exact Ar.1) (State.isArrayOf_alike B.hZ.alike Ar.2.1) Ar.2.2 (by rw [r1]; exact q1) (by rw [r1, q2]; simpa using hv) (g := fr m pc L (.int j :: .ref a :: st)) rfl rfl (hb B.by' hd) _ q) k
theorem Go.arraylength (B : Ctx p Z s m meth c own nm bytes maxL ret) (X : Stand p l e R s m args below meth c T locs cells slots) (eT : T.heap = h) {a : Addr} {ty : FieldType} {vs : List Value} (A : Av Z h a ty vs) (hd : decode bytes pc = .ok (.arraylength, 1)) (hp : pc + 1 = pc')
    (k : Go p e below Q (T.setTop (fr m pc' L (.int (Int32.ofNat vs.length) :: st)))) : Go p e below Q (T.setTop (fr m pc L (.ref a :: st))) := by
  subst hp
  obtain ⟨cl, Ar, r1, r2, r3⟩ := A
  have q1 : cl.slots.size = vs.length := by rw [r1]; rfl
  refine Go.of (fun _ q => X.arraylength B.hx (cell := cl) (by rw [eT]; exact Ar.1) (State.isArrayOf_alike B.hZ.alike Ar.2.1) (g := fr m pc L (.ref a :: st)) rfl rfl (hb B.by' hd) _ (by rw [q1]; exact q)) k
theorem Go.castore (B : Ctx p Z s m meth c own nm bytes maxL ret) (X : Stand p l e R s m args below meth c T locs cells slots) (eT : T.heap = h) {a : Addr} {vs : List Value} {j : Int32} {x : Int32} (A : Av Z h a .char vs) (i : Nat) (hd : decode bytes pc = .ok (.castore, 1)) (hp : pc + 1 = pc') (hj : j = Int32.ofNat i) (hi : i < vs.length)
    (k : ∀ T' h' L', Fr a L' → Stand p l e R s m args below meth c T' (locs ++ L') cells slots → T'.heap = h' → Wr h h' a i (.int (nar .char x)) → Av Z h' a .char (vs.set i (.int (nar .char x))) → Go p e below Q (T'.setTop (fr m pc' L st))) : Go p e below Q (T.setTop (fr m pc L (.int x :: .int j :: .ref a :: st))) := by
  subst hp
  have A0 := A
  obtain ⟨cl, Ar, r1, r2, r3⟩ := A
  obtain ⟨q1, q2⟩ := idx_ok hj hi r2
  obtain ⟨T', h', X', e', W, stp⟩ := RoadKit.stC X B.hx B.hZ eT Ar (j := j) (x := x) (by rw [r1]; exact q1) (g := fr m pc L (.int x :: .int j :: .ref a :: st)) rfl rfl (hb B.by' hd)
  rw [q2] at W
  exact Go.of stp (k T' h' _ (fun y hy => by cases List.mem_singleton.mp hy; exact Nat.le_refl _) X' e' W (A0.set W (fits_nar_char _)))
theorem Go.bastore (B : Ctx p Z s m meth c own nm bytes maxL ret) (X : Stand p l e R s m args below meth c T locs cells slots) (eT : T.heap = h) {a : Addr} {vs : List Value} {j : Int32} {x : Int32} (A : Av Z h a .byte vs) (i : Nat) (hd : decode bytes pc = .ok (.bastore, 1)) (hp : pc + 1 = pc') (hj : j = Int32.ofNat i) (hi : i < vs.length)
    (k : ∀ T' h' L', Fr a L' → Stand p l e R s m args below meth c T' (locs ++ L') cells slots → T'.heap = h' → Wr h h' a i (.int (nar .byte x)) → Av Z h' a .byte (vs.set i (.int (nar .byte x))) → Go p e below Q (T'.setTop (fr m pc' L st))) : Go p e below Q (T.setTop (fr m pc L (.int x :: .int j :: .ref a :: st))) := by
  subst hp
  have A0 := A
  obtain ⟨cl, Ar, r1, r2, r3⟩ := A
  obtain ⟨q1, q2⟩ := idx_ok hj hi r2
  obtain ⟨T', h', X', e', W, stp⟩ := RoadKit.stB X B.hx B.hZ eT Ar (j := j) (x := x) (by rw [r1]; exact q1) (g := fr m pc L (.int x :: .int j :: .ref a :: st)) rfl rfl (hb B.by' hd)
  rw [q2] at W
  exact Go.of stp (k T' h' _ (fun y hy => by cases List.mem_singleton.mp hy; exact Nat.le_refl _) X' e' W (A0.set W (fits_nar_byte _)))
theorem Go.iastore (B : Ctx p Z s m meth c own nm bytes maxL ret) (X : Stand p l e R s m args below meth c T locs cells slots) (eT : T.heap = h) {a : Addr} {vs : List Value} {j : Int32} {x : Int32} (A : Av Z h a .int vs) (i : Nat) (hd : decode bytes pc = .ok (.iastore, 1)) (hp : pc + 1 = pc') (hj : j = Int32.ofNat i) (hi : i < vs.length)
    (k : ∀ T' h' L', Fr a L' → Stand p l e R s m args below meth c T' (locs ++ L') cells slots → T'.heap = h' → Wr h h' a i (.int x) → Av Z h' a .int (vs.set i (.int x)) → Go p e below Q (T'.setTop (fr m pc' L st))) : Go p e below Q (T.setTop (fr m pc L (.int x :: .int j :: .ref a :: st))) := by
  subst hp
  have A0 := A
  obtain ⟨cl, Ar, r1, r2, r3⟩ := A
  obtain ⟨q1, q2⟩ := idx_ok hj hi r2
  obtain ⟨T', h', X', e', W, stp⟩ := RoadKit.stI X B.hx B.hZ eT Ar (j := j) (x := x) (by rw [r1]; exact q1) (g := fr m pc L (.int x :: .int j :: .ref a :: st)) rfl rfl (hb B.by' hd)
  rw [q2] at W
  exact Go.of stp (k T' h' _ (fun y hy => by cases List.mem_singleton.mp hy; exact Nat.le_refl _) X' e' W (A0.set W (rfl)))
theorem Go.dastore (B : Ctx p Z s m meth c own nm bytes maxL ret) (X : Stand p l e R s m args below meth c T locs cells slots) (eT : T.heap = h) {a : Addr} {vs : List Value} {j : Int32} {x : UInt64} (A : Av Z h a .double vs) (i : Nat) (hd : decode bytes pc = .ok (.dastore, 1)) (hp : pc + 1 = pc') (hj : j = Int32.ofNat i) (hi : i < vs.length)
    (k : ∀ T' h' L', Fr a L' → Stand p l e R s m args below meth c T' (locs ++ L') cells slots → T'.heap = h' → Wr h h' a i (.double x) → Av Z h' a .double (vs.set i (.double x)) → Go p e below Q (T'.setTop (fr m pc' L st))) : Go p e below Q (T.setTop (fr m pc L (.double x :: .int j :: .ref a :: st))) := by
  subst hp
  have A0 := A
  obtain ⟨cl, Ar, r1, r2, r3⟩ := A
  obtain ⟨q1, q2⟩ := idx_ok hj hi r2
  obtain ⟨T', h', X', e', W, stp⟩ := RoadKit.stD X B.hx B.hZ eT Ar (j := j) (x := x) (by rw [r1]; exact q1) (g := fr m pc L (.double x :: .int j :: .ref a :: st)) rfl rfl (hb B.by' hd)
  rw [q2] at W
  exact Go.of stp (k T' h' _ (fun y hy => by cases List.mem_singleton.mp hy; exact Nat.le_refl _) X' e' W (A0.set W (rfl)))
theorem Go.lastore (B : Ctx p Z s m meth c own nm bytes maxL ret) (X : Stand p l e R s m args below meth c T locs cells slots) (eT : T.heap = h) {a : Addr} {vs : List Value} {j : Int32} {x : Int64} (A : Av Z h a .long vs) (i : Nat) (hd : decode bytes pc = .ok (.lastore, 1)) (hp : pc + 1 = pc') (hj : j = Int32.ofNat i) (hi : i < vs.length)
    (k : ∀ T' h' L', Fr a L' → Stand p l e R s m args below meth c T' (locs ++ L') cells slots → T'.heap = h' → Wr h h' a i (.long x) → Av Z h' a .long (vs.set i (.long x)) → Go p e below Q (T'.setTop (fr m pc' L st))) : Go p e below Q (T.setTop (fr m pc L (.long x :: .int j :: .ref a :: st))) := by
  subst hp
  have A0 := A
  obtain ⟨cl, Ar, r1, r2, r3⟩ := A
  obtain ⟨q1, q2⟩ := idx_ok hj hi r2
  obtain ⟨T', h', X', e', W, stp⟩ := RoadKit.stJ X B.hx B.hZ eT Ar (j := j) (x := x) (by rw [r1]; exact q1) (g := fr m pc L (.long x :: .int j :: .ref a :: st)) rfl rfl (hb B.by' hd)
  rw [q2] at W
  exact Go.of stp (k T' h' _ (fun y hy => by cases List.mem_singleton.mp hy; exact Nat.le_refl _) X' e' W (A0.set W (rfl)))
/-! calls -/
abbrev BackQ (l : Launch) (R : Room) (p : Program) (e : Env) (below : List Frame) (s : State) (args : Array Value) (y : MethodName) (W : Nat) (as : List Value) (h : Heap) (kc ks : Nat) (Qc : Option Value → Heap → List Loc → Prop) : Prop :=
  Back l R p e below s args y 3 W (fun A a => a = as.toArray ∧ A.U.heap = h ∧ A.cells + kc ≤ R.cells ∧ A.slots + ks ≤ R.slots) (fun A _ v D => ∃ L, Qc v D.U.heap L ∧ D.locs = A.locs ++ L ∧ D.cells = A.cells + kc ∧ D.slots = A.slots + ks)
/-- a body's contract -/
def Ct (l : Launch) (Z : State) (y : MethodName) (bytes : ByteArray) (maxL : Nat) (ret : Option FieldType) (ws : List Jvm.Cond) (rm : Room) (C S : Nat) (as : List Value) (h0 : Heap) (Qc : Option Value → Heap → List Loc → Prop) : Prop :=
  MetFree l y (head1 (Jvm.Cond.code y bytes maxL ret :: ws) rm) (fun a U => a = as.toArray ∧ Z.Warmed39 U.vm ∧ U.heap = h0) (fun _ _ _ _ _ => True) (fun _ U o U' => ∃ v L, o = .returned v ∧ Qc v U'.heap L ∧ FrameEnd U o U' L C S)
theorem Ct.mk {y : MethodName} {ws : List Jvm.Cond} {rm : Room} {C S : Nat} {as : List Value} {Qc : Option Value → Heap → List Loc → Prop} {L0 : List Slot} (hpn : plainFor y = true) (hL : ∀ m, entryFrame m as.toArray maxL = fr m 0 L0 [])
    (body : ∀ (p : Program) (e : Env) (s : State) (m : MethodId) (below : List Frame) (meth : Method) (c : Code) (s₁ : State), Ctx p Z s m meth c y.cls y.name bytes maxL ret → Stand p l e rm s m as.toArray below meth c s₁ [] 0 0 → s₁.heap = h → Go p e below (End s C S Qc) (s₁.setTop (fr m 0 L0 []))) :
    Ct l Z y bytes maxL ret ws rm C S as h Qc := by
  refine MetFree.of_bodySF hpn hisR ?_
  intro p e s m args below meth c s₁ Bd hml0 hP hK
  obtain ⟨rfl, hZ, hh⟩ := hP
  have G := body p e s m below meth c s₁ ⟨Bd.exec, Bd.bytes, hml0, findClass_of_methodNamed Bd.named, (name_of_methodNamed Bd.named Bd.method).1, hZ, Bd.returns, Bd.notSynchronized⟩ (Stand.of_body Bd) (by rw [← hh, Bd.state]; rfl)
  rw [hL]
  exact G
theorem Ct.back {y : MethodName} {rm : Room} {as : List Value} {Qc : Option Value → Heap → List Loc → Prop} {W : Nat} {bytes' : ByteArray} {maxL' : Nat} {ret' : Option FieldType} (K : Ct l Z y bytes' maxL' ret' [] rm rm.cells rm.slots as h Qc) (hZ : Z.Warmed39 s.vm) (wc : (Jvm.Cond.code y bytes' maxL' ret').before a0 Z = true) (wz : (Jvm.Cond.initialized y.cls).before a0 Z = true) (hf : rm.frames + 1 ≤ R.frames) (hl : W + (maxL' + 11) + rm.locals ≤ R.locals) :
    BackQ l R p e below s args y W as h rm.cells rm.slots Qc := backOf K hZ wc wz hf hl
theorem Go.callS (B : Ctx p Z s m meth c own nm bytes maxL ret) (X : Stand p l e R s m args below meth c T locs cells slots) (eT : T.heap = h) {y : MethodName} {i W kc ks : Nat} {as rest : List Value} {Qc : Option Value → Heap → List Loc → Prop} {bytes' : ByteArray} {maxL' : Nat} {ret' : Option FieldType} {ps : List FieldType} {r : Option FieldType}
    (K : BackQ l R p e below s args y W as h kc ks Qc) (wl : (Jvm.Cond.methodLink own i y).before a0 Z = true) (ws : (Jvm.Cond.static y).before a0 Z = true) (wz : (Jvm.Cond.initialized y.cls).before a0 Z = true) (wc : (Jvm.Cond.code y bytes' maxL' ret').before a0 Z = true) (hy : y.cls ≠ "java/lang/invoke/MethodHandle" ∧ y.cls ≠ "java/lang/invoke/VarHandle")
    (hpd : parseMethodDescriptor y.desc = some ⟨ps, r⟩) (hd : decode bytes pc = .ok (.invokestatic i, 3)) (hp : pc + 3 = pc') (hL : L.length = maxL) (hst : st = as.reverse ++ rest) (hln : as.length = ps.length) (hW : (rest.map fun v => v.category).sum ≤ W) (hc : cells + kc ≤ R.cells) (hs : slots + ks ≤ R.slots)
    (k : ∀ v T' L', Stand p l e R s m args below meth c T' (locs ++ L') (cells + kc) (slots + ks) → Qc v T'.heap L' → Go p e below Q (T'.setTop (fr m pc' L (v.toList ++ rest)))) : Go p e below Q (T.setTop (fr m pc L st)) := by
  subst hp
  obtain ⟨v, _, ⟨T', L1, k1, n1⟩, -, X', ⟨L', hQ, l1, y1, z1⟩, stp⟩ := Jvm.LawKit.callS X B.hx (y := y) B.cl (mvT B.hZ wl) (mvT B.hZ ws) (mvT B.hZ wz) (mvT B.hZ wc) hy K (g := fr m pc L st) rfl (by rw [B.ml]; exact hL) (argsL := as) (rest := rest) (lenOf hpd hln) hst (by show 2 * 0 + _ ≤ _; omega) (hb B.by' hd) (fun _ _ => ⟨rfl, eT, hc, hs⟩)
  dsimp only [Pt.U, Pt.locs, Pt.cells, Pt.slots] at X' l1 y1 z1 stp hQ
  subst l1 y1 z1
  exact Go.of stp (k v T' L' X' hQ)
theorem Go.callI (B : Ctx p Z s m meth c own nm bytes maxL ret) (X : Stand p l e R s m args below meth c T locs cells slots) (eT : T.heap = h) {y : MethodName} {i W kc ks : Nat} {a : Addr} {as rest : List Value} {Qc : Option Value → Heap → List Loc → Prop} {bytes' : ByteArray} {maxL' : Nat} {ps : List FieldType} {r : Option FieldType}
    (hyn : y.name = "<init>") (K : BackQ l R p e below s args y W (.ref a :: as) h kc ks Qc) (wl : (Jvm.Cond.methodLink own i y).before a0 Z = true) (wi : (Jvm.Cond.instanceMethod y).before a0 Z = true) (wc : (Jvm.Cond.code y bytes' maxL' none).before a0 Z = true) (hy : y.cls ≠ "java/lang/invoke/MethodHandle" ∧ y.cls ≠ "java/lang/invoke/VarHandle")
    (hpd : parseMethodDescriptor y.desc = some ⟨ps, r⟩) (hd : decode bytes pc = .ok (.invokespecial i, 3)) (hp : pc + 3 = pc') (hL : L.length = maxL) (hst : st = as.reverse ++ .ref a :: rest) (hln : as.length = ps.length) (hW : (rest.map fun v => v.category).sum ≤ W) (hc : cells + kc ≤ R.cells) (hs : slots + ks ≤ R.slots)
    (k : ∀ v T' L', Stand p l e R s m args below meth c T' (locs ++ L') (cells + kc) (slots + ks) → Qc v T'.heap L' → Go p e below Q (T'.setTop (fr m pc' L (v.toList ++ rest)))) : Go p e below Q (T.setTop (fr m pc L st)) := by
  subst hp
  obtain ⟨v, _, ⟨T', L1, k1, n1⟩, -, X', ⟨L', hQ, l1, y1, z1⟩, stp⟩ := X.specialBack B.hx (y := y) hyn B.cl (mvT B.hZ wl) (mvT B.hZ wi) (mvT B.hZ wc) hy K (g := fr m pc L st) rfl (by rw [B.ml]; exact hL) (Steps.refl _) (a := a) (argsL := as) (rest := rest) (lenOf hpd hln) hst (by show 2 * 0 + _ ≤ _; omega) (hb B.by' hd) (fun _ _ => ⟨rfl, eT, hc, hs⟩)
  dsimp only [Pt.U, Pt.locs, Pt.cells, Pt.slots] at X' l1 y1 z1 stp hQ
  subst l1 y1 z1
  exact Go.come stp (k v T' L' X' hQ)
theorem Go.callV (B : Ctx p Z s m meth c own nm bytes maxL ret) (X : Stand p l e R s m args below meth c T locs cells slots) (eT : T.heap = h) {y z : MethodName} {C : String} {i W kc ks : Nat} {a : Addr} {as rest : List Value} {Qc : Option Value → Heap → List Loc → Prop} {ps : List FieldType} {r : Option FieldType}
    (K : BackQ l R p e below s args z W (.ref a :: as) h kc ks Qc) (E : Exa Z h a C) (wl : (Jvm.Cond.methodLink own i y).before a0 Z = true) (wd : (Jvm.Cond.declares y).before a0 Z = true) (wsel : (Jvm.Cond.selects C y z).before a0 Z = true) (wi : (Jvm.Cond.instanceMethod z).before a0 Z = true) (hy : y.cls ≠ "java/lang/invoke/MethodHandle" ∧ y.cls ≠ "java/lang/invoke/VarHandle") (hnf : NotFace s y)
    (hpd : parseMethodDescriptor y.desc = some ⟨ps, r⟩) (hd : decode bytes pc = .ok (.invokevirtual i, 3)) (hp : pc + 3 = pc') (hL : L.length = maxL) (hst : st = as.reverse ++ .ref a :: rest) (hln : as.length = ps.length) (hW : (rest.map fun v => v.category).sum ≤ W) (hc : cells + kc ≤ R.cells) (hs : slots + ks ≤ R.slots)
    (k : ∀ v T' L', Stand p l e R s m args below meth c T' (locs ++ L') (cells + kc) (slots + ks) → Qc v T'.heap L' → Go p e below Q (T'.setTop (fr m pc' L (v.toList ++ rest)))) : Go p e below Q (T.setTop (fr m pc L st)) := by
  subst hp
  obtain ⟨cq, kq, q1, -, q3⟩ := isOf B.hZ eT E
  obtain ⟨v, _, ⟨T', L1, k1, n1⟩, -, X', ⟨L', hQ, l1, y1, z1⟩, stp⟩ := X.virtualBack B.hx (y := y) (z := z) B.cl (mvT B.hZ wl) (mvT B.hZ wd) hnf (mvT B.hZ wsel) (mvT B.hZ wi) hy K q1 q3 (g := fr m pc L st) rfl (by rw [B.ml]; exact hL) (Steps.refl _) (argsL := as) (rest := rest) (lenOf hpd hln) hst (by show 2 * 0 + _ ≤ _; omega) (hb B.by' hd) (fun _ _ => ⟨rfl, eT, hc, hs⟩)
  dsimp only [Pt.U, Pt.locs, Pt.cells, Pt.slots] at X' l1 y1 z1 stp hQ
  subst l1 y1 z1
  exact Go.come stp (k v T' L' X' hQ)
/-! returns -/
theorem Go.fin (X : Stand p l e R s m args below meth c T locs cells slots) (B : Ctx p Z s m meth c own nm bytes maxL ret) {C S : Nat} {Qc : Option Value → Heap → List Loc → Prop} {v : Option Value} {f : JFrame} (hv : meth.sig.returnType = none → v = none) (hc : cells ≤ C) (hs : slots ≤ S) (q : Qc v T.heap locs)
    (stp : ∀ fs : List Frame, (∀ (f : JFrame) (acts : List Action), f.method = m → f.locked = none → f.entered = [] → (doReturn e (T.setTop f) acts v).1 = T.setFrames fs) → Steps p.tables e below (T.setTop f) (T.setFrames fs)) : Go p e below (End s C S Qc) (T.setTop f) := by
  obtain ⟨fs, hr, hrun, hended, hW, hsame⟩ := X.leave (v := v) hv B.lk
  exact ⟨_, _, stp fs hr, hrun, hended, _, _, rfl, q, ⟨_, rfl⟩, hW, hsame.mono hc hs⟩
theorem Go.iret (B : Ctx p Z s m meth c own nm bytes maxL (some .int)) (X : Stand p l e R s m args below meth c T locs cells slots) {C S : Nat} {Qc : Option Value → Heap → List Loc → Prop} {z : Int32} (hd : decode bytes pc = .ok (.ireturn, 1)) (hc : cells ≤ C) (hs : slots ≤ S) (q : Qc (some (.int z)) T.heap locs) : Go p e below (End s C S Qc) (T.setTop (fr m pc L (.int z :: st))) :=
  Go.fin X B (v := some (.int z)) (fun h => by rw [B.re] at h; cases h) hc hs q (fun fs hr => RoadKit.retOut X B.hx B.re rfl (Or.inl ⟨rfl, Or.inl rfl, z, rfl⟩) (hb B.by' hd) hr)
theorem Go.zret (B : Ctx p Z s m meth c own nm bytes maxL (some .boolean)) (X : Stand p l e R s m args below meth c T locs cells slots) {C S : Nat} {Qc : Option Value → Heap → List Loc → Prop} {z : Int32} (hd : decode bytes pc = .ok (.ireturn, 1)) (hz : narrow .boolean (.int z) = .int z) (hc : cells ≤ C) (hs : slots ≤ S) (q : Qc (some (.int z)) T.heap locs) : Go p e below (End s C S Qc) (T.setTop (fr m pc L (.int z :: st))) :=
  Go.fin X B (v := some (.int z)) (fun h => by rw [B.re] at h; cases h) hc hs q (fun fs hr => RoadKit.retOut X B.hx B.re hz (Or.inl ⟨rfl, Or.inr (Or.inl rfl), z, rfl⟩) (hb B.by' hd) hr)
theorem Go.cret (B : Ctx p Z s m meth c own nm bytes maxL (some .char)) (X : Stand p l e R s m args below meth c T locs cells slots) {C S : Nat} {Qc : Option Value → Heap → List Loc → Prop} {z : Int32} (hd : decode bytes pc = .ok (.ireturn, 1)) (hz : narrow .char (.int z) = .int z) (hc : cells ≤ C) (hs : slots ≤ S) (q : Qc (some (.int z)) T.heap locs) : Go p e below (End s C S Qc) (T.setTop (fr m pc L (.int z :: st))) :=
  Go.fin X B (v := some (.int z)) (fun h => by rw [B.re] at h; cases h) hc hs q (fun fs hr => RoadKit.retOut X B.hx B.re hz (Or.inl ⟨rfl, Or.inr (Or.inr (Or.inr (Or.inl rfl))), z, rfl⟩) (hb B.by' hd) hr)
theorem Go.bret (B : Ctx p Z s m meth c own nm bytes maxL (some .byte)) (X : Stand p l e R s m args below meth c T locs cells slots) {C S : Nat} {Qc : Option Value → Heap → List Loc → Prop} {z : Int32} (hd : decode bytes pc = .ok (.ireturn, 1)) (hz : narrow .byte (.int z) = .int z) (hc : cells ≤ C) (hs : slots ≤ S) (q : Qc (some (.int z)) T.heap locs) : Go p e below (End s C S Qc) (T.setTop (fr m pc L (.int z :: st))) :=
  Go.fin X B (v := some (.int z)) (fun h => by rw [B.re] at h; cases h) hc hs q (fun fs hr => RoadKit.retOut X B.hx B.re hz (Or.inl ⟨rfl, Or.inr (Or.inr (Or.inl rfl)), z, rfl⟩) (hb B.by' hd) hr)
theorem Go.lret (B : Ctx p Z s m meth c own nm bytes maxL (some .long)) (X : Stand p l e R s m args below meth c T locs cells slots) {C S : Nat} {Qc : Option Value → Heap → List Loc → Prop} {z : Int64} (hd : decode bytes pc = .ok (.lreturn, 1)) (hc : cells ≤ C) (hs : slots ≤ S) (q : Qc (some (.long z)) T.heap locs) : Go p e below (End s C S Qc) (T.setTop (fr m pc L (.long z :: st))) :=
  Go.fin X B (v := some (.long z)) (fun h => by rw [B.re] at h; cases h) hc hs q (fun fs hr => RoadKit.retOut X B.hx B.re rfl (Or.inr (Or.inl ⟨rfl, rfl, z, rfl⟩)) (hb B.by' hd) hr)
theorem Go.dret (B : Ctx p Z s m meth c own nm bytes maxL (some .double)) (X : Stand p l e R s m args below meth c T locs cells slots) {C S : Nat} {Qc : Option Value → Heap → List Loc → Prop} {z : UInt64} (hd : decode bytes pc = .ok (.dreturn, 1)) (hc : cells ≤ C) (hs : slots ≤ S) (q : Qc (some (.double z)) T.heap locs) : Go p e below (End s C S Qc) (T.setTop (fr m pc L (.double z :: st))) :=
  Go.fin X B (v := some (.double z)) (fun h => by rw [B.re] at h; cases h) hc hs q (fun fs hr => RoadKit.retOut X B.hx B.re rfl (Or.inr (Or.inr (Or.inl ⟨rfl, rfl, z, rfl⟩))) (hb B.by' hd) hr)
theorem Go.aret {t : FieldType} (B : Ctx p Z s m meth c own nm bytes maxL (some t)) (X : Stand p l e R s m args below meth c T locs cells slots) {C S : Nat} {Qc : Option Value → Heap → List Loc → Prop} {w : Value} (hd : decode bytes pc = .ok (.areturn, 1)) (ht : t.isReference = true) (hw : w.isRef = true) (hn : narrow t w = w) (hc : cells ≤ C) (hs : slots ≤ S) (q : Qc (some w) T.heap locs) : Go p e below (End s C S Qc) (T.setTop (fr m pc L (w :: st))) :=
  Go.fin X B (v := some w) (fun h => by rw [B.re] at h; cases h) hc hs q (fun fs hr => RoadKit.retOut X B.hx B.re hn (Or.inr (Or.inr (Or.inr (Or.inr ⟨rfl, ht, hw⟩)))) (hb B.by' hd) hr)
theorem Go.vret (B : Ctx p Z s m meth c own nm bytes maxL none) (X : Stand p l e R s m args below meth c T locs cells slots) {C S : Nat} {Qc : Option Value → Heap → List Loc → Prop} (hd : decode bytes pc = .ok (.return_, 1)) (hc : cells ≤ C) (hs : slots ≤ S) (q : Qc none T.heap locs) : Go p e below (End s C S Qc) (T.setTop (fr m pc L [])) :=
  Go.fin X B (v := none) (fun _ => rfl) hc hs q (fun fs hr => X.returnOut B.hx B.re (hb B.by' hd) hr)

end
end Jvm.GoKit
/- laws to paste: Road.backV (cut by pick.py; bodies as the Statement names them) -/
namespace Jvm.Pilot.@@N@@
namespace StrChars
open Jvm Sem ClassFile Op Lib Jvm.Stand Jvm.Free.XT Jvm.Free.ALB Jvm.Free.JM Jvm.Free
open Jvm.Lib.Cold (StaticIs)
/-- a char array whose places are chars -/
def Ch (a : Addr) (A : Cell) (U : State) : Prop := Arr .char a A U ∧ Typed .char A
theorem Ch.mv {a : Addr} {A : Cell} {U U' : State} (h : Ch a A U) (hal : U.vm.Alike U'.vm) (hh : U'.heap = U.heap) : Ch a A U' := ⟨h.1.mv hal hh, h.2⟩
theorem Ch.keep {a : Addr} {A : Cell} {U U' : State} (h : Ch a A U) (hal : U.vm.Alike U'.vm) (hk : U'.heap[a]? = some A) : Ch a A U' := ⟨h.1.keep hal hk, h.2⟩
/-- what place i of a char[]'s cell holds -/
def cv (A : Cell) (i : Nat) : Int32 := match A.slots[i]? with | some (.int x) => x | _ => 0
theorem Ch.get {a : Addr} {A : Cell} {U : State} (h : Ch a A U) {i : Nat} (hi : i < A.slots.size) : A.slots[i]? = some (.int (cv A i)) := by
  have e := Array.getElem?_eq_getElem hi
  have f := h.2 i _ e
  unfold cv; rw [e]
  generalize A.slots[i] = v at f
  cases v <;> simp [fits] at f ⊢
/-- the byte that i2b leaves of a char -/
def lo8 (x : Int32) : Int32 := x.toInt8.toInt32
theorem fits_lo8 (y : Int32) : fits .byte (.int (lo8 y)) = true := by
  have h1 := y.toInt8.le_toInt
  have h2 := y.toInt8.toInt_lt
  simp only [lo8, fits, Bool.and_eq_true, decide_eq_true_eq, Int32.le_iff_toInt_le, Int8.toInt_toInt32, show (-128 : Int32).toInt = -128 from by decide, show (127 : Int32).toInt = 127 from by decide]
  omega
/-- A' is A but that each place j of lo .. hi - 1 holds f j -/
def Laid (A A' : Cell) (lo hi : Nat) (f : Nat → Value) : Prop := A'.cls = A.cls ∧ A'.vm = A.vm ∧ A'.slots.size = A.slots.size ∧ ∀ i, A'.slots[i]? = if lo ≤ i ∧ i < hi then some (f i) else A.slots[i]?
theorem Laid.zero (A : Cell) (lo : Nat) (f : Nat → Value) : Laid A A lo (lo + 0) f := ⟨rfl, rfl, rfl, fun i => by rw [if_neg (by omega)]⟩
theorem Laid.step {A Ak : Cell} {lo k : Nat} {f : Nat → Value} {v : Value} (h : Laid A Ak lo k f) (hlo : lo ≤ k) (hk : k < Ak.slots.size) (hv : v = f k) : Laid A (Ak.setSlot k v) lo (k + 1) f := by
  refine ⟨h.1, h.2.1, by simpa [Cell.setSlot] using h.2.2.1, fun i => ?_⟩
  by_cases e : k = i
  · subst e; rw [Cell.slots_setSlot_self v hk, if_pos (by omega), hv]
  · rw [Cell.slots_setSlot_ne v e, h.2.2.2 i]
    by_cases q : lo ≤ i ∧ i < k
    · rw [if_pos q, if_pos (by omega)]
    · rw [if_neg q, if_neg (by omega)]
def U16 : String := "java/lang/StringUTF16"
namespace Cmp5
def yN : MethodName := ⟨"java/lang/StringUTF16", "compress", "([CI[BII)I"⟩
abbrev yB : ByteArray := jdk_52_method_21_code
theorem d0 : decode yB 0 = .ok (.iconst 0, 1) := by decide +kernel
theorem d1 : decode yB 1 = .ok (.istore 5, 2) := by decide +kernel
theorem d3 : decode yB 3 = .ok (.iload 5, 2) := by decide +kernel
theorem d5 : decode yB 5 = .ok (.iload 4, 2) := by decide +kernel
theorem d7 : decode yB 7 = .ok (.if_icmp (.ge) 37, 3) := by decide +kernel
theorem d10 : decode yB 10 = .ok (.aload_n 0, 1) := by decide +kernel
theorem d11 : decode yB 11 = .ok (.iload_n 1, 1) := by decide +kernel
theorem d12 : decode yB 12 = .ok (.caload, 1) := by decide +kernel
theorem d13 : decode yB 13 = .ok (.istore 6, 2) := by decide +kernel
theorem d15 : decode yB 15 = .ok (.iload 6, 2) := by decide +kernel
theorem d17 : decode yB 17 = .ok (.sipush 255, 3) := by decide +kernel
theorem d20 : decode yB 20 = .ok (.if_icmp (.le) 6, 3) := by decide +kernel
theorem d26 : decode yB 26 = .ok (.aload_n 2, 1) := by decide +kernel
theorem d27 : decode yB 27 = .ok (.iload_n 3, 1) := by decide +kernel
theorem d28 : decode yB 28 = .ok (.iload 6, 2) := by decide +kernel
theorem d30 : decode yB 30 = .ok (.i2b, 1) := by decide +kernel
theorem d31 : decode yB 31 = .ok (.bastore, 1) := by decide +kernel
theorem d32 : decode yB 32 = .ok (.iinc 1 1, 3) := by decide +kernel
theorem d35 : decode yB 35 = .ok (.iinc 3 1, 3) := by decide +kernel
theorem d38 : decode yB 38 = .ok (.iinc 5 1, 3) := by decide +kernel
theorem d41 : decode yB 41 = .ok (.goto (-38), 3) := by decide +kernel
theorem d44 : decode yB 44 = .ok (.iload 4, 2) := by decide +kernel
theorem d46 : decode yB 46 = .ok (.ireturn, 1) := by decide +kernel
def site : List Cond := []
def tab : Cond := tabOf yN yB 7 (some .int) site
def P (b : Addr) (A : Cell) (d : Addr) (B : Cell) (o q len : Nat) (args : Array Value) (s : State) : Prop := args = #[.ref b, .int (Int32.ofNat o), .ref d, .int (Int32.ofNat q), .int (Int32.ofNat len)] ∧ Ch b A s ∧ Arr .byte d B s ∧ b ≠ d ∧ o + len ≤ A.slots.size ∧ q + len ≤ B.slots.size ∧ ∀ i, i < len → ¬ 255 < cv A (o + i)
def E (b : Addr) (A : Cell) (d : Addr) (B : Cell) (o q len : Nat) (r : Option Value) (s u : State) : Prop := r = some (.int (Int32.ofNat len)) ∧ ∃ B', Put d B' s u ∧ Laid B B' q (q + len) (fun j => Value.int (lo8 (cv A (o + (j - q)))))
/-- no char of the range above 255: len; the places written hold each char's low byte -/
theorem law (l : Launch) (b : Addr) (A : Cell) (d : Addr) (B : Cell) (o q len : Nat) : Law l yN 5 5 0 0 yB 7 (some .int) site (P b A d B o q len) (E b A d B o q len) (copyLocs d q len) 0 0 := by
  refine Law.of_walk (plainFor_of_name (by decide +kernel)) (by decide +kernel) (by decide +kernel) (by decide) (fun _ _ h => by rw [h.1]; rfl) (fun _ U U' hal hh h => ⟨h.1, h.2.1.mv hal hh, h.2.2.1.mv hal hh, h.2.2.2⟩) (fun r U U' V V' h1 hal h2 h => ⟨h.1, h.2.elim fun B' q => ⟨B', q.1.mv h1 h2, q.2⟩⟩) ?_
  intro p e s m args below meth c s₁ X0 hexec hbytes hml hret hlk hnm hown hh0 W hP
  obtain ⟨rfl, hA, hB, hne, l1, l2, hp⟩ := hP
  have c1 : Steps p.tables e below (s₁.setTop (entryFrame m #[.ref b, .int (Int32.ofNat o), .ref d, .int (Int32.ofNat q), .int (Int32.ofNat len)] 7)) (s₁.setTop (mkF m 0 #[.val (.ref b), .val (.int (Int32.ofNat o)), .val (.ref d), .val (.int (Int32.ofNat q)), .val (.int (Int32.ofNat len)), .unset, .unset] [])) := entry rfl
  have hA0 := hA.1.mv X0.warmed.alike hh0
  have hB0 := hB.mv X0.warmed.alike hh0
  have a31 := hA.1.2.2.2
  have c2 : Steps p.tables e below (s₁.setTop (entryFrame m #[.ref b, .int (Int32.ofNat o), .ref d, .int (Int32.ofNat q), .int (Int32.ofNat len)] 7)) (s₁.setTop (mkF m 3 #[.val (.ref b), .val (.int (Int32.ofNat o)), .val (.ref d), .val (.int (Int32.ofNat q)), .val (.int (Int32.ofNat len)), .val (.int 0), .unset] [])) := c1.trans (by
    refine iconstV X0.here hexec rfl 0 (hb hbytes d0) (by decide) ?_
    refine XS.istore X0.here hexec rfl (hb hbytes d1) rfl rfl ?_
    exact Steps.refl _)
  have loop : ∀ (r i : Nat), i + r = len → ∀ (z : Slot), (z = .unset ∨ ∃ w, z = .val w ∧ w.category = 1) → ∀ (Tl : State) (Bk : Cell), Stand p l e { frames := 0, locals := 0, cells := 0, slots := 0 } s m #[.ref b, .int (Int32.ofNat o), .ref d, .int (Int32.ofNat q), .int (Int32.ofNat len)] below meth c Tl ([] ++ copyLocs d q i) 0 0 → Put d Bk s₁ Tl → Laid B Bk q (q + i) (fun j => Value.int (lo8 (cv A (o + (j - q))))) →
      Steps p.tables e below (s₁.setTop (entryFrame m #[.ref b, .int (Int32.ofNat o), .ref d, .int (Int32.ofNat q), .int (Int32.ofNat len)] 7)) (Tl.setTop (mkF m 3 #[.val (.ref b), .val (.int (Int32.ofNat (o + i))), .val (.ref d), .val (.int (Int32.ofNat (q + i))), .val (.int (Int32.ofNat len)), .val (.int (Int32.ofNat i)), z] [])) → ∃ (T' : State) (B' : Cell) (z' : Slot), Stand p l e { frames := 0, locals := 0, cells := 0, slots := 0 } s m #[.ref b, .int (Int32.ofNat o), .ref d, .int (Int32.ofNat q), .int (Int32.ofNat len)] below meth c T' ([] ++ copyLocs d q len) 0 0 ∧ Put d B' s₁ T' ∧ Laid B B' q (q + len) (fun j => Value.int (lo8 (cv A (o + (j - q))))) ∧
      Steps p.tables e below (s₁.setTop (entryFrame m #[.ref b, .int (Int32.ofNat o), .ref d, .int (Int32.ofNat q), .int (Int32.ofNat len)] 7)) (T'.setTop (mkF m 3 #[.val (.ref b), .val (.int (Int32.ofNat (o + len))), .val (.ref d), .val (.int (Int32.ofNat (q + len))), .val (.int (Int32.ofNat len)), .val (.int (Int32.ofNat len)), z'] [])) := by
    intro r
    induction r with
    | zero =>
      intro i hi z hz Tl Bk Xl pl fl cl
      have hil : i = len := by omega
      rw [hil] at Xl fl cl
      exact ⟨Tl, Bk, z, Xl, pl, fl, cl⟩
    | succ r ih =>
      intro i hi z hz Tl Bk Xl pl fl cl
      have all := X0.warmed.alike.symm.trans Xl.warmed.alike
      have hAl := hA0.keep all (pl.other hne hA0.1)
      have hBk := hB0.like all pl.1 fl.1 fl.2.1 fl.2.2.1
      have hlt : q + i < Bk.slots.size := by rw [fl.2.2.1]; omega
      have c3 : Steps p.tables e below (s₁.setTop (entryFrame m #[.ref b, .int (Int32.ofNat o), .ref d, .int (Int32.ofNat q), .int (Int32.ofNat len)] 7)) (Tl.setTop (mkF m 12 #[.val (.ref b), .val (.int (Int32.ofNat (o + i))), .val (.ref d), .val (.int (Int32.ofNat (q + i))), .val (.int (Int32.ofNat len)), .val (.int (Int32.ofNat i)), z] [.int (Int32.ofNat (o + i)), .ref b])) := cl.trans (by
        refine XS.iload Xl.here hexec rfl (hb hbytes d3) rfl ?_
        refine XS.iload Xl.here hexec rfl (hb hbytes d5) rfl ?_
        refine XS.icmpNo Xl.here hexec rfl (hb hbytes d7) rfl (ii_ge_f (lt32 (by omega) (by omega))) ?_
        refine XS.aloadN Xl.here hexec rfl (hb hbytes d10) rfl rfl ?_
        refine XS.iloadN Xl.here hexec rfl (hb hbytes d11) rfl ?_
        exact Steps.refl _)
      have c4 : Steps p.tables e below (s₁.setTop (entryFrame m #[.ref b, .int (Int32.ofNat o), .ref d, .int (Int32.ofNat q), .int (Int32.ofNat len)] 7)) (Tl.setTop (mkF m 13 #[.val (.ref b), .val (.int (Int32.ofNat (o + i))), .val (.ref d), .val (.int (Int32.ofNat (q + i))), .val (.int (Int32.ofNat len)), .val (.int (Int32.ofNat i)), z] [.int (cv A (o + i))])) := c3.trans (by
        refine Xl.aget hexec hAl rfl (hA.get (i := o + i) (by omega)) rfl rfl (hb hbytes d12) ?_
        exact Steps.refl _)
      have c5 : Steps p.tables e below (s₁.setTop (entryFrame m #[.ref b, .int (Int32.ofNat o), .ref d, .int (Int32.ofNat q), .int (Int32.ofNat len)] 7)) (Tl.setTop (mkF m 15 #[.val (.ref b), .val (.int (Int32.ofNat (o + i))), .val (.ref d), .val (.int (Int32.ofNat (q + i))), .val (.int (Int32.ofNat len)), .val (.int (Int32.ofNat i)), .val (.int (cv A (o + i)))] [])) := c4.trans (by
        refine XS.istoreS Xl.here hexec rfl (hb hbytes d13) rfl rfl hz ?_
        exact Steps.refl _)
      have c6 : Steps p.tables e below (s₁.setTop (entryFrame m #[.ref b, .int (Int32.ofNat o), .ref d, .int (Int32.ofNat q), .int (Int32.ofNat len)] 7)) (Tl.setTop (mkF m 31 #[.val (.ref b), .val (.int (Int32.ofNat (o + i))), .val (.ref d), .val (.int (Int32.ofNat (q + i))), .val (.int (Int32.ofNat len)), .val (.int (Int32.ofNat i)), .val (.int (cv A (o + i)))] [.int (lo8 (cv A (o + i))), .int (Int32.ofNat (q + i)), .ref d])) := c5.trans (by
        refine XS.iload Xl.here hexec rfl (hb hbytes d15) rfl ?_
        refine sipushV Xl.here hexec rfl 255 (hb hbytes d17) (by decide) ?_
        refine XS.icmpYes Xl.here hexec rfl (pc0 := 20) rfl (hb hbytes d20) rfl (ii_le_t (hp i (by omega))) (by decide) rfl ?_
        refine XS.aloadN Xl.here hexec rfl (hb hbytes d26) rfl rfl ?_
        refine XS.iloadN Xl.here hexec rfl (hb hbytes d27) rfl ?_
        refine XS.iload Xl.here hexec rfl (hb hbytes d28) rfl ?_
        refine i2b Xl.here hexec rfl (hb hbytes d30) rfl ?_
        exact Steps.refl _)
      obtain ⟨T7, X7, p7, st7⟩ := Xl.aput hexec hBk rfl hlt rfl (fits_lo8 (cv A (o + i))) (g := (mkF m 31 #[.val (.ref b), .val (.int (Int32.ofNat (o + i))), .val (.ref d), .val (.int (Int32.ofNat (q + i))), .val (.int (Int32.ofNat len)), .val (.int (Int32.ofNat i)), .val (.int (cv A (o + i)))] [.int (lo8 (cv A (o + i))), .int (Int32.ofNat (q + i)), .ref d])) rfl (rest := []) rfl (hb hbytes d31)
      have c8 : Steps p.tables e below (s₁.setTop (entryFrame m #[.ref b, .int (Int32.ofNat o), .ref d, .int (Int32.ofNat q), .int (Int32.ofNat len)] 7)) (T7.setTop (mkF m 32 #[.val (.ref b), .val (.int (Int32.ofNat (o + i))), .val (.ref d), .val (.int (Int32.ofNat (q + i))), .val (.int (Int32.ofNat len)), .val (.int (Int32.ofNat i)), .val (.int (cv A (o + i)))] [])) := c6.trans (st7 _ (Steps.refl _))
      have c9 : Steps p.tables e below (s₁.setTop (entryFrame m #[.ref b, .int (Int32.ofNat o), .ref d, .int (Int32.ofNat q), .int (Int32.ofNat len)] 7)) (T7.setTop (mkF m 3 #[.val (.ref b), .val (.int (Int32.ofNat (o + i) + 1)), .val (.ref d), .val (.int (Int32.ofNat (q + i) + 1)), .val (.int (Int32.ofNat len)), .val (.int (Int32.ofNat i + 1)), .val (.int (cv A (o + i)))] [])) := c8.trans (by
        refine iincV X7.here hexec rfl 1 (hb hbytes d32) (by decide) rfl rfl ?_
        refine iincV X7.here hexec rfl 1 (hb hbytes d35) (by decide) rfl rfl ?_
        refine iincV X7.here hexec rfl 1 (hb hbytes d38) (by decide) rfl rfl ?_
        refine XS.goto X7.here hexec rfl (pc0 := 41) rfl (hb hbytes d41) (by decide) rfl ?_
        exact Steps.refl _)
      have c10 : Steps p.tables e below (s₁.setTop (entryFrame m #[.ref b, .int (Int32.ofNat o), .ref d, .int (Int32.ofNat q), .int (Int32.ofNat len)] 7)) (T7.setTop (mkF m 3 #[.val (.ref b), .val (.int (Int32.ofNat (o + (i + 1)))), .val (.ref d), .val (.int (Int32.ofNat (q + (i + 1)))), .val (.int (Int32.ofNat len)), .val (.int (Int32.ofNat (i + 1))), .val (.int (cv A (o + i)))] [])) := by
        have := c9
        rw [succ32, succ32, succ32] at this
        exact this
      exact ih (i + 1) (by omega) _ (Or.inr ⟨_, rfl, rfl⟩) T7 _ (by rw [copyLocs_step, ← List.append_assoc]; exact X7) (pl.trans p7) (fl.step (by omega) hlt (by simp)) c10
  obtain ⟨T9, B9, z9, X9, p9, f9, g9⟩ := loop len 0 (by omega) .unset (Or.inl rfl) s₁ B (by simpa [copyLocs] using X0) ⟨hB0.1, fun _ _ => rfl, rfl⟩ (Laid.zero _ _ _) c2
  have c11 : Steps p.tables e below (s₁.setTop (entryFrame m #[.ref b, .int (Int32.ofNat o), .ref d, .int (Int32.ofNat q), .int (Int32.ofNat len)] 7)) (T9.setTop (mkF m 46 #[.val (.ref b), .val (.int (Int32.ofNat (o + len))), .val (.ref d), .val (.int (Int32.ofNat (q + len))), .val (.int (Int32.ofNat len)), .val (.int (Int32.ofNat len)), z9] [.int (Int32.ofNat len)])) := g9.trans (by
    refine XS.iload X9.here hexec rfl (hb hbytes d3) rfl ?_
    refine XS.iload X9.here hexec rfl (hb hbytes d5) rfl ?_
    refine XS.icmpYes X9.here hexec rfl (pc0 := 7) rfl (hb hbytes d7) rfl (ii_ge_t (nlt32 (by omega) (Nat.le_refl _))) (by decide) rfl ?_
    refine XS.iload X9.here hexec rfl (hb hbytes d44) rfl ?_
    exact Steps.refl _)
  exact ⟨T9, some (.int (Int32.ofNat len)), _, _, _, X9, by simp, rfl, rfl, (fun h => by cases h), ⟨rfl, B9, p9.from hh0, f9⟩, fun fs hl => c11.trans (X9.ireturnOut hexec hret rfl (Or.inl rfl) (hb hbytes d46) hl)⟩
end Cmp5
namespace Cmp3
def yN : MethodName := ⟨"java/lang/StringUTF16", "compress", "([CII)[B"⟩
abbrev yB : ByteArray := jdk_52_method_16_code
theorem d0 : decode yB 0 = .ok (.iload_n 2, 1) := by decide +kernel
theorem d1 : decode yB 1 = .ok (.newarray .byte, 2) := by decide +kernel
theorem d3 : decode yB 3 = .ok (.astore_n 3, 1) := by decide +kernel
theorem d4 : decode yB 4 = .ok (.aload_n 0, 1) := by decide +kernel
theorem d5 : decode yB 5 = .ok (.iload_n 1, 1) := by decide +kernel
theorem d6 : decode yB 6 = .ok (.aload_n 3, 1) := by decide +kernel
theorem d7 : decode yB 7 = .ok (.iconst 0, 1) := by decide +kernel
theorem d8 : decode yB 8 = .ok (.iload_n 2, 1) := by decide +kernel
theorem d9 : decode yB 9 = .ok (.invokestatic 115, 3) := by decide +kernel
theorem d12 : decode yB 12 = .ok (.istore 4, 2) := by decide +kernel
theorem d14 : decode yB 14 = .ok (.iload 4, 2) := by decide +kernel
theorem d16 : decode yB 16 = .ok (.iload_n 2, 1) := by decide +kernel
theorem d17 : decode yB 17 = .ok (.if_icmp (.eq) 40, 3) := by decide +kernel
theorem d57 : decode yB 57 = .ok (.aload_n 3, 1) := by decide +kernel
theorem d58 : decode yB 58 = .ok (.areturn, 1) := by decide +kernel
def site : List Cond := [.arrayClass .byte, Cmp5.tab] ++ staticW U16 115 Cmp5.yN
def tab : Cond := tabOf yN yB 6 (some (.array .byte)) site
def P (b : Addr) (A : Cell) (o len : Nat) (args : Array Value) (s : State) : Prop := args = #[.ref b, .int (Int32.ofNat o), .int (Int32.ofNat len)] ∧ Ch b A s ∧ o + len ≤ A.slots.size ∧ len ≤ 536870912 ∧ ∀ i, i < len → ¬ 255 < cv A (o + i)
def E (b : Addr) (A : Cell) (o len : Nat) (r : Option Value) (s u : State) : Prop := NewArr .byte "[B" len (fun j => .int (lo8 (cv A (o + j)))) r s u ∧ u.heap.size = s.heap.size + 1
/-- no char of the range above 255: a new byte[] of their low bytes -/
theorem law (l : Launch) (b : Addr) (A : Cell) (o len : Nat) : Law l yN 3 3 1 18 yB 6 (some (.array .byte)) site (P b A o len) (E b A o len) [] 1 len := by
  refine Law.of_walk (plainFor_of_name (by decide +kernel)) (by decide +kernel) (by decide +kernel) (by decide) (fun _ _ h => by rw [h.1]; rfl) (fun _ U U' hal hh h => ⟨h.1, h.2.1.mv hal hh, h.2.2⟩) (fun r U U' V V' h1 hal h2 h => ⟨NewArr.mv r U U' V V' h1 hal h2 h.1, by rw [h1, h2]; exact h.2⟩) ?_
  intro p e s m args below meth c s₁ X0 hexec hbytes hml hret hlk hnm hown hh0 W hP
  obtain ⟨rfl, hA, l1, l2, hp⟩ := hP
  have a31 := hA.1.2.2.2
  have c1 : Steps p.tables e below (s₁.setTop (entryFrame m #[.ref b, .int (Int32.ofNat o), .int (Int32.ofNat len)] 6)) (s₁.setTop (mkF m 0 #[.val (.ref b), .val (.int (Int32.ofNat o)), .val (.int (Int32.ofNat len)), .unset, .unset, .unset] [])) := entry rfl
  have c2 : Steps p.tables e below (s₁.setTop (entryFrame m #[.ref b, .int (Int32.ofNat o), .int (Int32.ofNat len)] 6)) (s₁.setTop (mkF m 1 #[.val (.ref b), .val (.int (Int32.ofNat o)), .val (.int (Int32.ofNat len)), .unset, .unset, .unset] [.int (Int32.ofNat len)])) := c1.trans (by
    refine XS.iloadN X0.here hexec rfl (hb hbytes d0) rfl ?_
    exact Steps.refl _)
  obtain ⟨T3, B3, X3, ba3, bs3, bv3, bh3, bf3, st3⟩ := X0.anew hexec (atype := .byte) (wk W (.arrayClass .byte)) rfl (by show len * 1 ≤ _; omega) (by omega) (g := (mkF m 1 #[.val (.ref b), .val (.int (Int32.ofNat o)), .val (.int (Int32.ofNat len)), .unset, .unset, .unset] [.int (Int32.ofNat len)])) rfl (hb hbytes d1) (rest := []) rfl (Nat.le_refl _) (by show 0 + len ≤ len; omega)
  rw [hh0] at ba3 st3
  have kp3 : XT.Kept s T3 := (XT.Kept.of_eq hh0).push bh3
  have hA3 := hA.keep X3.warmed.alike (kp3 _ _ hA.1.1)
  have hne : b ≠ s.heap.size := hA.1.ne
  have c4 : Steps p.tables e below (s₁.setTop (entryFrame m #[.ref b, .int (Int32.ofNat o), .int (Int32.ofNat len)] 6)) (T3.setTop (mkF m 3 #[.val (.ref b), .val (.int (Int32.ofNat o)), .val (.int (Int32.ofNat len)), .unset, .unset, .unset] [.ref s.heap.size])) := c2.trans (st3 _ (Steps.refl _))
  have c5 : Steps p.tables e below (s₁.setTop (entryFrame m #[.ref b, .int (Int32.ofNat o), .int (Int32.ofNat len)] 6)) (T3.setTop (mkF m 9 #[.val (.ref b), .val (.int (Int32.ofNat o)), .val (.int (Int32.ofNat len)), .val (.ref s.heap.size), .unset, .unset] [.int (Int32.ofNat len), .int 0, .ref s.heap.size, .int (Int32.ofNat o), .ref b])) := c4.trans (by
    refine XS.astoreN X3.here hexec rfl (hb hbytes d3) rfl rfl rfl ?_
    refine XS.aloadN X3.here hexec rfl (hb hbytes d4) rfl rfl ?_
    refine XS.iloadN X3.here hexec rfl (hb hbytes d5) rfl ?_
    refine XS.aloadN X3.here hexec rfl (hb hbytes d6) rfl rfl ?_
    refine iconstV X3.here hexec rfl 0 (hb hbytes d7) (by decide) ?_
    refine XS.iloadN X3.here hexec rfl (hb hbytes d8) rfl ?_
    exact Steps.refl _)
  obtain ⟨v6, T6, X6, E6, g6⟩ := X3.callS hexec (Cmp5.law l b A s.heap.size B3 o 0 len) hown (wks W (staticW U16 115 Cmp5.yN)) (wk W Cmp5.tab) (W := 0) (Nat.le_of_ble_eq_true rfl) (Nat.le_of_ble_eq_true rfl) (Nat.le_refl _) (by show 0 + len + 0 ≤ len; omega) (g := (mkF m 9 #[.val (.ref b), .val (.int (Int32.ofNat o)), .val (.int (Int32.ofNat len)), .val (.ref s.heap.size), .unset, .unset] [.int (Int32.ofNat len), .int (Int32.ofNat 0), .ref s.heap.size, .int (Int32.ofNat o), .ref b])) rfl (by rw [hml]; rfl) c5 (argsL := [.ref b, .int (Int32.ofNat o), .ref s.heap.size, .int (Int32.ofNat 0), .int (Int32.ofNat len)]) (rest := []) rfl rfl (by show 2 * 0 + 0 ≤ _; decide) (hb hbytes d9) (⟨rfl, hA3, ba3, hne, l1, by rw [bs3]; simp, hp⟩)
  obtain ⟨rfl, B6, p6, f6⟩ := E6
  have c7 : Steps p.tables e below (s₁.setTop (entryFrame m #[.ref b, .int (Int32.ofNat o), .int (Int32.ofNat len)] 6)) (T6.setTop (mkF m 12 #[.val (.ref b), .val (.int (Int32.ofNat o)), .val (.int (Int32.ofNat len)), .val (.ref s.heap.size), .unset, .unset] [.int (Int32.ofNat len)])) := g6
  have c8 : Steps p.tables e below (s₁.setTop (entryFrame m #[.ref b, .int (Int32.ofNat o), .int (Int32.ofNat len)] 6)) (T6.setTop (mkF m 58 #[.val (.ref b), .val (.int (Int32.ofNat o)), .val (.int (Int32.ofNat len)), .val (.ref s.heap.size), .val (.int (Int32.ofNat len)), .unset] [.ref s.heap.size])) := c7.trans (by
    refine XS.istore X6.here hexec rfl (hb hbytes d12) rfl rfl ?_
    refine XS.iload X6.here hexec rfl (hb hbytes d14) rfl ?_
    refine XS.iloadN X6.here hexec rfl (hb hbytes d16) rfl ?_
    refine XS.icmpYes X6.here hexec rfl (pc0 := 17) rfl (hb hbytes d17) rfl (ii_eq_t rfl) (by decide) rfl ?_
    refine XS.aloadN X6.here hexec rfl (hb hbytes d57) rfl rfl ?_
    exact Steps.refl _)
  have X8 := X6.wide (L' := []) (cells' := 1) (slots' := len) (fun x hx hlt => by
    simp only [List.nil_append, copyLocs, List.mem_map, List.mem_range] at hx
    obtain ⟨i, -, rfl⟩ := hx
    exact absurd hlt (Nat.lt_irrefl _)) (Nat.le_refl _) (by omega)
  exact ⟨T6, some (.ref s.heap.size), _, _, _, X8, rfl, rfl, rfl, (fun h => by cases h), ⟨⟨rfl, B6, ba3.like (X3.warmed.alike.symm.trans X6.warmed.alike) p6.1 f6.1 f6.2.1 f6.2.2.1, f6.2.1.trans bv3, by rw [X6.warmed.alike.findClass, f6.1]; exact bf3, by rw [f6.2.2.1, bs3]; simp, fun j hj => by rw [f6.2.2.2 j, if_pos (by omega)]; rfl, kp3.put p6 (Nat.le_refl _)⟩, by rw [p6.2.2, bh3, hh0]; simp⟩, fun fs hl => c8.trans (X8.areturnOut hexec rfl hret rfl (hb hbytes d58) hl)⟩
end Cmp3
namespace CodL
def yN : MethodName := ⟨"java/lang/StringUTF16", "coderFromArrayLen", "([BI)B"⟩
abbrev yB : ByteArray := jdk_52_method_15_code
theorem d0 : decode yB 0 = .ok (.iload_n 1, 1) := by decide +kernel
theorem d1 : decode yB 1 = .ok (.aload_n 0, 1) := by decide +kernel
theorem d2 : decode yB 2 = .ok (.arraylength, 1) := by decide +kernel
theorem d3 : decode yB 3 = .ok (.isub, 1) := by decide +kernel
theorem d4 : decode yB 4 = .ok (.bipush 31, 2) := by decide +kernel
theorem d6 : decode yB 6 = .ok (.iushr, 1) := by decide +kernel
theorem d7 : decode yB 7 = .ok (.i2b, 1) := by decide +kernel
theorem d8 : decode yB 8 = .ok (.ireturn, 1) := by decide +kernel
def site : List Cond := []
def tab : Cond := tabOf yN yB 2 (some .byte) site
def P (d : Addr) (B : Cell) (args : Array Value) (s : State) : Prop := args = #[.ref d, .int (Int32.ofNat B.slots.size)] ∧ Arr .byte d B s
def E (r : Option Value) (s u : State) : Prop := XT.PureE (some (.int 0)) r s u
/-- an array as long as the number of chars: LATIN1 -/
theorem law (l : Launch) (d : Addr) (B : Cell) : Law l yN 2 2 0 0 yB 2 (some .byte) site (P d B) E [] 0 0 := by
  refine Law.of_walk (plainFor_of_name (by decide +kernel)) (by decide +kernel) (by decide +kernel) (by decide) (fun _ _ h => by rw [h.1]; rfl) (fun _ U U' hal hh h => ⟨h.1, h.2.mv hal hh⟩) (fun r U U' V V' h1 hal h2 h => XT.PureE.mv r U U' V V' h1 hal h2 h) ?_
  intro p e s m args below meth c s₁ X0 hexec hbytes hml hret hlk hnm hown hh0 W hP
  obtain ⟨rfl, hB⟩ := hP
  have hB0 := hB.mv X0.warmed.alike hh0
  have c1 : Steps p.tables e below (s₁.setTop (entryFrame m #[.ref d, .int (Int32.ofNat B.slots.size)] 2)) (s₁.setTop (mkF m 0 #[.val (.ref d), .val (.int (Int32.ofNat B.slots.size))] [])) := entry rfl
  have c2 : Steps p.tables e below (s₁.setTop (entryFrame m #[.ref d, .int (Int32.ofNat B.slots.size)] 2)) (s₁.setTop (mkF m 2 #[.val (.ref d), .val (.int (Int32.ofNat B.slots.size))] [.ref d, .int (Int32.ofNat B.slots.size)])) := c1.trans (by
    refine XS.iloadN X0.here hexec rfl (hb hbytes d0) rfl ?_
    refine XS.aloadN X0.here hexec rfl (hb hbytes d1) rfl rfl ?_
    exact Steps.refl _)
  have c3 : Steps p.tables e below (s₁.setTop (entryFrame m #[.ref d, .int (Int32.ofNat B.slots.size)] 2)) (s₁.setTop (mkF m 8 #[.val (.ref d), .val (.int (Int32.ofNat B.slots.size))] [.int (lo8 (ushr (Int32.ofNat B.slots.size - Int32.ofNat B.slots.size) 31))])) := c2.trans (by
    refine X0.alen hexec hB0 rfl rfl (hb hbytes d2) ?_
    refine XS.isub X0.here hexec rfl (hb hbytes d3) rfl ?_
    refine bipushV X0.here hexec rfl 31 (hb hbytes d4) (by decide) ?_
    refine iushr X0.here hexec rfl (hb hbytes d6) rfl ?_
    refine i2b X0.here hexec rfl (hb hbytes d7) rfl ?_
    exact Steps.refl _)
  have e0 : lo8 (ushr (Int32.ofNat B.slots.size - Int32.ofNat B.slots.size) 31) = 0 := by rw [Int32.sub_self]; decide
  rw [e0] at c3
  exact ⟨s₁, some (.int 0), _, _, _, X0, rfl, rfl, rfl, (fun h => by cases h), ⟨rfl, hh0⟩, fun fs hl => c3.trans (X0.ireturnOut hexec hret rfl (Or.inr (Or.inr (Or.inl rfl))) (hb hbytes d8) hl)⟩
end CodL
/-- the String at a is Latin-1 over a new byte[] (the heap's one new cell): the low bytes of the len chars of A from o on; every cell but a is kept -/
def Got (a : Addr) (D : Cell) (fV fC : Field) (A : Cell) (o len : Nat) (r : Option Value) (s u : State) : Prop := r = none ∧ ∃ D' V : Cell, Blank "java/lang/String" a D' u ∧ Same D D' [fV.slot, fC.slot] ∧ D'.slots[fV.slot]? = some (.ref s.heap.size) ∧ D'.slots[fC.slot]? = some (.int 0) ∧ Arr .byte s.heap.size V u ∧ V.vm = .none ∧ u.vm.findClass "[B" = some V.cls ∧ V.slots.size = len ∧ (∀ j, j < len → V.slots[j]? = some (.int (lo8 (cv A (o + j))))) ∧ (∀ (y : Addr) (c : Cell), y ≠ a → s.heap[y]? = some c → u.heap[y]? = some c) ∧ u.heap.size = s.heap.size + 1
theorem Got.mv {a : Addr} {D A : Cell} {fV fC : Field} {o len : Nat} : ∀ r (U U' V V' : State), U'.heap = U.heap → V.vm.Alike V'.vm → V'.heap = V.heap → Got a D fV fC A o len r U V → Got a D fV fC A o len r U' V' :=
  fun r U U' V V' h1 hal h2 ⟨e0, D', X, a1, a2, a3, a4, a5, a6, a7, a8, a9, a10, a11⟩ => ⟨e0, D', X, a1.mv hal h2, a2, by rw [h1]; exact a3, a4, by rw [h1]; exact a5.mv hal h2, a6, by rw [hal.findClass]; exact a7, a8, a9, by rw [h1, h2]; exact a10, by rw [h1, h2]; exact a11⟩
namespace New4
def yN : MethodName := ⟨"java/lang/String", "<init>", "([CIILjava/lang/Void;)V"⟩
abbrev yB : ByteArray := jdk_42_method_149_code
theorem d0 : decode yB 0 = .ok (.aload_n 0, 1) := by decide +kernel
theorem d1 : decode yB 1 = .ok (.invokespecial 1, 3) := by decide +kernel
theorem d4 : decode yB 4 = .ok (.iload_n 3, 1) := by decide +kernel
theorem d5 : decode yB 5 = .ok (.ifCond (.ne) 22, 3) := by decide +kernel
theorem d27 : decode yB 27 = .ok (.getstatic 38, 3) := by decide +kernel
theorem d30 : decode yB 30 = .ok (.ifCond (.eq) 28, 3) := by decide +kernel
theorem d33 : decode yB 33 = .ok (.aload_n 1, 1) := by decide +kernel
theorem d34 : decode yB 34 = .ok (.iload_n 2, 1) := by decide +kernel
theorem d35 : decode yB 35 = .ok (.iload_n 3, 1) := by decide +kernel
theorem d36 : decode yB 36 = .ok (.invokestatic 177, 3) := by decide +kernel
theorem d39 : decode yB 39 = .ok (.astore 5, 2) := by decide +kernel
theorem d41 : decode yB 41 = .ok (.aload_n 0, 1) := by decide +kernel
theorem d42 : decode yB 42 = .ok (.aload 5, 2) := by decide +kernel
theorem d44 : decode yB 44 = .ok (.iload_n 3, 1) := by decide +kernel
theorem d45 : decode yB 45 = .ok (.invokestatic 47, 3) := by decide +kernel
theorem d48 : decode yB 48 = .ok (.putfield 15, 3) := by decide +kernel
theorem d51 : decode yB 51 = .ok (.aload_n 0, 1) := by decide +kernel
theorem d52 : decode yB 52 = .ok (.aload 5, 2) := by decide +kernel
theorem d54 : decode yB 54 = .ok (.putfield 9, 3) := by decide +kernel
theorem d57 : decode yB 57 = .ok (.return_, 1) := by decide +kernel
def site : List Cond := [.fieldLink "java/lang/String" 38 "java/lang/String" "COMPACT_STRINGS" "Z", Cmp3.tab, CodL.tab, .laysFinal "java/lang/String" "java/lang/String" "value" "[B", .fieldLink "java/lang/String" 9 "java/lang/String" "value" "[B", .laysFinal "java/lang/String" "java/lang/String" "coder" "B", .fieldLink "java/lang/String" 15 "java/lang/String" "coder" "B"] ++ objW "java/lang/String" 1 ++ staticW "java/lang/String" 177 Cmp3.yN ++ staticW "java/lang/String" 47 CodL.yN
def tab : Cond := tabOf yN yB 6 none site
def P (a : Addr) (D : Cell) (fV fC : Field) (b : Addr) (A : Cell) (z : Int32) (o len : Nat) (args : Array Value) (s : State) : Prop := args = #[.ref a, .ref b, .int (Int32.ofNat o), .int (Int32.ofNat len), .null] ∧ Blank "java/lang/String" a D s ∧ Found "java/lang/String" "value" "[B" fV s ∧ Found "java/lang/String" "coder" "B" fC s ∧ Ch b A s ∧ StaticIs s "java/lang/String" "COMPACT_STRINGS" "Z" (.int z) ∧ ¬ z = 0 ∧ 0 < len ∧ o + len ≤ A.slots.size ∧ len ≤ 536870912 ∧ ∀ i, i < len → ¬ 255 < cv A (o + i)
def E (a : Addr) (D : Cell) (fV fC : Field) (A : Cell) (o len : Nat) (r : Option Value) (s u : State) : Prop := Got a D fV fC A o len r s u
/-- len > 0, no char of the range above 255: a Latin-1 String of their low bytes -/
theorem law (l : Launch) (a : Addr) (D : Cell) (fV fC : Field) (b : Addr) (A : Cell) (z : Int32) (o len : Nat) : Law l yN 5 4 2 35 yB 6 none site (P a D fV fC b A z o len) (E a D fV fC A o len) [⟨a, fC.slot⟩, ⟨a, fV.slot⟩] 1 len := by
  refine Law.of_walk (plainFor_of_name (by decide +kernel)) (by decide +kernel) (by decide +kernel) (by decide) (fun _ _ h => by rw [h.1]; rfl) (fun _ U U' hal hh h => ⟨h.1, h.2.1.mv hal hh, h.2.2.1.al hal, h.2.2.2.1.al hal, h.2.2.2.2.1.mv hal hh, h.2.2.2.2.2.1.there hal hh, h.2.2.2.2.2.2⟩) (fun r U U' V V' h1 hal h2 h => Got.mv r U U' V V' h1 hal h2 h) ?_
  intro p e s m args below meth c s₁ X0 hexec hbytes hml hret hlk hnm hown hh0 W hP
  obtain ⟨rfl, hB, f1, f2, hA, s1, hz, l0, l1, l2, hp⟩ := hP
  have a31 := hA.1.2.2.2
  have c1 : Steps p.tables e below (s₁.setTop (entryFrame m #[.ref a, .ref b, .int (Int32.ofNat o), .int (Int32.ofNat len), .null] 6)) (s₁.setTop (mkF m 0 #[.val (.ref a), .val (.ref b), .val (.int (Int32.ofNat o)), .val (.int (Int32.ofNat len)), .val .null, .unset] [])) := entry rfl
  have c2 : Steps p.tables e below (s₁.setTop (entryFrame m #[.ref a, .ref b, .int (Int32.ofNat o), .int (Int32.ofNat len), .null] 6)) (s₁.setTop (mkF m 1 #[.val (.ref a), .val (.ref b), .val (.int (Int32.ofNat o)), .val (.int (Int32.ofNat len)), .val .null, .unset] [.ref a])) := c1.trans (by
    refine XS.aloadN X0.here hexec rfl (hb hbytes d0) rfl rfl ?_
    exact Steps.refl _)
  obtain ⟨T3, X3, q3, st3⟩ := X0.oinit hexec hown (wks W (objW "java/lang/String" 1)) (g := (mkF m 1 #[.val (.ref a), .val (.ref b), .val (.int (Int32.ofNat o)), .val (.int (Int32.ofNat len)), .val .null, .unset] [.ref a])) rfl (by rw [hml]; rfl) (rest := []) rfl (hb hbytes d1) (W := 0) (by show 2 * 0 + 0 ≤ _; decide) (Nat.le_of_ble_eq_true rfl) (Nat.le_of_ble_eq_true rfl)
  have hh3 := q3.trans hh0
  have c4 : Steps p.tables e below (s₁.setTop (entryFrame m #[.ref a, .ref b, .int (Int32.ofNat o), .int (Int32.ofNat len), .null] 6)) (T3.setTop (mkF m 27 #[.val (.ref a), .val (.ref b), .val (.int (Int32.ofNat o)), .val (.int (Int32.ofNat len)), .val .null, .unset] [])) := (c2.trans (st3 _ (Steps.refl _))).trans (by
    refine XS.iloadN X3.here hexec rfl (hb hbytes d4) rfl ?_
    refine XS.ifYes X3.here hexec rfl (pc0 := 5) rfl (hb hbytes d5) rfl (i0_ne_t (nz32 (by omega) l0)) (by decide) rfl ?_
    exact Steps.refl _)
  obtain ⟨T5, X5, q5, st5⟩ := X3.sget hexec hown (wk W (.fieldLink "java/lang/String" 38 "java/lang/String" "COMPACT_STRINGS" "Z")) s1 (fun _ _ h => by rw [hh3]; exact h) (g := (mkF m 27 #[.val (.ref a), .val (.ref b), .val (.int (Int32.ofNat o)), .val (.int (Int32.ofNat len)), .val .null, .unset] [])) rfl (hb hbytes d27)
  have hh5 := q5.trans hh3
  have c6 : Steps p.tables e below (s₁.setTop (entryFrame m #[.ref a, .ref b, .int (Int32.ofNat o), .int (Int32.ofNat len), .null] 6)) (T5.setTop (mkF m 30 #[.val (.ref a), .val (.ref b), .val (.int (Int32.ofNat o)), .val (.int (Int32.ofNat len)), .val .null, .unset] [.int z])) := c4.trans (st5 _ (Steps.refl _))
  have c7 : Steps p.tables e below (s₁.setTop (entryFrame m #[.ref a, .ref b, .int (Int32.ofNat o), .int (Int32.ofNat len), .null] 6)) (T5.setTop (mkF m 36 #[.val (.ref a), .val (.ref b), .val (.int (Int32.ofNat o)), .val (.int (Int32.ofNat len)), .val .null, .unset] [.int (Int32.ofNat len), .int (Int32.ofNat o), .ref b])) := c6.trans (by
    refine XS.ifNo X5.here hexec rfl (hb hbytes d30) rfl (i0_eq_f hz) ?_
    refine XS.aloadN X5.here hexec rfl (hb hbytes d33) rfl rfl ?_
    refine XS.iloadN X5.here hexec rfl (hb hbytes d34) rfl ?_
    refine XS.iloadN X5.here hexec rfl (hb hbytes d35) rfl ?_
    exact Steps.refl _)
  obtain ⟨v8, T8, X8, E8, g8⟩ := X5.callS hexec (Cmp3.law l b A o len) hown (wks W (staticW "java/lang/String" 177 Cmp3.yN)) (wk W Cmp3.tab) (W := 0) (Nat.le_of_ble_eq_true rfl) (Nat.le_of_ble_eq_true rfl) (Nat.le_refl _) (by show 0 + len ≤ len; omega) (g := (mkF m 36 #[.val (.ref a), .val (.ref b), .val (.int (Int32.ofNat o)), .val (.int (Int32.ofNat len)), .val .null, .unset] [.int (Int32.ofNat len), .int (Int32.ofNat o), .ref b])) rfl (by rw [hml]; rfl) c7 (argsL := [.ref b, .int (Int32.ofNat o), .int (Int32.ofNat len)]) (rest := []) rfl rfl (by show 2 * 0 + 0 ≤ _; decide) (hb hbytes d36) (⟨rfl, hA.mv X5.warmed.alike hh5, l1, l2, hp⟩)
  obtain ⟨e8, z8⟩ := E8
  obtain ⟨rfl, N, n1, n2, n3, n4, n5, n6⟩ := NewArr.mv _ T5 s _ _ hh5.symm (Vm.Alike.refl _) rfl e8
  rw [hh5] at z8
  have hB1 := hB.keep X8.warmed.alike (n6 _ _ hB.1)
  have hne : s.heap.size ≠ a := (Nat.ne_of_lt (Array.getElem?_eq_some_iff.mp hB.1).1).symm
  have c9 : Steps p.tables e below (s₁.setTop (entryFrame m #[.ref a, .ref b, .int (Int32.ofNat o), .int (Int32.ofNat len), .null] 6)) (T8.setTop (mkF m 39 #[.val (.ref a), .val (.ref b), .val (.int (Int32.ofNat o)), .val (.int (Int32.ofNat len)), .val .null, .unset] [.ref s.heap.size])) := g8
  have c10 : Steps p.tables e below (s₁.setTop (entryFrame m #[.ref a, .ref b, .int (Int32.ofNat o), .int (Int32.ofNat len), .null] 6)) (T8.setTop (mkF m 45 #[.val (.ref a), .val (.ref b), .val (.int (Int32.ofNat o)), .val (.int (Int32.ofNat len)), .val .null, .val (.ref s.heap.size)] [.int (Int32.ofNat N.slots.size), .ref s.heap.size, .ref a])) := by
    have hc : Steps p.tables e below (s₁.setTop (entryFrame m #[.ref a, .ref b, .int (Int32.ofNat o), .int (Int32.ofNat len), .null] 6)) (T8.setTop (mkF m 45 #[.val (.ref a), .val (.ref b), .val (.int (Int32.ofNat o)), .val (.int (Int32.ofNat len)), .val .null, .val (.ref s.heap.size)] [.int (Int32.ofNat len), .ref s.heap.size, .ref a])) := c9.trans (by
      refine XS.astore X8.here hexec rfl (hb hbytes d39) rfl rfl rfl ?_
      refine XS.aloadN X8.here hexec rfl (hb hbytes d41) rfl rfl ?_
      refine XS.aload X8.here hexec rfl (hb hbytes d42) rfl rfl ?_
      refine XS.iloadN X8.here hexec rfl (hb hbytes d44) rfl ?_
      exact Steps.refl _)
    rw [n4]; exact hc
  obtain ⟨v11, T11, X11, E11, g11⟩ := X8.callS hexec (CodL.law l s.heap.size N) hown (wks W (staticW "java/lang/String" 47 CodL.yN)) (wk W CodL.tab) (W := 1) (Nat.le_of_ble_eq_true rfl) (Nat.le_of_ble_eq_true rfl) (Nat.le_refl _) (by show 0 + len + 0 ≤ len; omega) (g := (mkF m 45 #[.val (.ref a), .val (.ref b), .val (.int (Int32.ofNat o)), .val (.int (Int32.ofNat len)), .val .null, .val (.ref s.heap.size)] [.int (Int32.ofNat N.slots.size), .ref s.heap.size, .ref a])) rfl (by rw [hml]; rfl) c10 (argsL := [.ref s.heap.size, .int (Int32.ofNat N.slots.size)]) (rest := [.ref a]) rfl rfl (by show 2 * 0 + (1 + 0) ≤ _; decide) (hb hbytes d45) (⟨rfl, n1⟩)
  obtain ⟨rfl, q11⟩ := E11
  have hB11 := hB1.mv (X8.warmed.alike.symm.trans X11.warmed.alike) q11
  have c12 : Steps p.tables e below (s₁.setTop (entryFrame m #[.ref a, .ref b, .int (Int32.ofNat o), .int (Int32.ofNat len), .null] 6)) (T11.setTop (mkF m 48 #[.val (.ref a), .val (.ref b), .val (.int (Int32.ofNat o)), .val (.int (Int32.ofNat len)), .val .null, .val (.ref s.heap.size)] [.int 0, .ref a])) := g11
  obtain ⟨T13, X13, p13, bl13, sl13, st13⟩ := X11.finit hexec hown (wk W (.fieldLink "java/lang/String" 15 "java/lang/String" "coder" "B")) (Or.inr ⟨_, (wk W (.laysFinal "java/lang/String" "java/lang/String" "coder" "B"))⟩) (Or.inl ⟨rfl, hnm⟩) f2 (Or.inl rfl) hB11 (t := .byte) (by decide +kernel) rfl (g := (mkF m 48 #[.val (.ref a), .val (.ref b), .val (.int (Int32.ofNat o)), .val (.int (Int32.ofNat len)), .val .null, .val (.ref s.heap.size)] [.int 0, .ref a])) rfl (rest := []) rfl (hb hbytes d48)
  have c14 : Steps p.tables e below (s₁.setTop (entryFrame m #[.ref a, .ref b, .int (Int32.ofNat o), .int (Int32.ofNat len), .null] 6)) (T13.setTop (mkF m 54 #[.val (.ref a), .val (.ref b), .val (.int (Int32.ofNat o)), .val (.int (Int32.ofNat len)), .val .null, .val (.ref s.heap.size)] [.ref s.heap.size, .ref a])) := (c12.trans (st13 _ (Steps.refl _))).trans (by
    refine XS.aloadN X13.here hexec rfl (hb hbytes d51) rfl rfl ?_
    refine XS.aload X13.here hexec rfl (hb hbytes d52) rfl rfl ?_
    exact Steps.refl _)
  obtain ⟨T15, X15, p15, bl15, sl15, st15⟩ := X13.finit hexec hown (wk W (.fieldLink "java/lang/String" 9 "java/lang/String" "value" "[B")) (Or.inr ⟨_, (wk W (.laysFinal "java/lang/String" "java/lang/String" "value" "[B"))⟩) (Or.inl ⟨rfl, hnm⟩) f1 (Or.inl rfl) bl13 (t := (.array .byte)) (by decide +kernel) rfl (g := (mkF m 54 #[.val (.ref a), .val (.ref b), .val (.int (Int32.ofNat o)), .val (.int (Int32.ofNat len)), .val .null, .val (.ref s.heap.size)] [.ref s.heap.size, .ref a])) rfl (rest := []) rfl (hb hbytes d54)
  have c16 : Steps p.tables e below (s₁.setTop (entryFrame m #[.ref a, .ref b, .int (Int32.ofNat o), .int (Int32.ofNat len), .null] 6)) (T15.setTop (mkF m 57 #[.val (.ref a), .val (.ref b), .val (.int (Int32.ofNat o)), .val (.int (Int32.ofNat len)), .val .null, .val (.ref s.heap.size)] [])) := c14.trans (st15 _ (Steps.refl _))
  have ap := apart (Or.inr ⟨_, (wk W (.laysFinal "java/lang/String" "java/lang/String" "value" "[B"))⟩) (Or.inr ⟨_, (wk W (.laysFinal "java/lang/String" "java/lang/String" "coder" "B"))⟩) f1 f2 (t₁ := .array .byte) (t₂ := .byte) (by decide +kernel) (by decide +kernel) (by decide)
  have al := X8.warmed.alike.symm.trans X15.warmed.alike
  have n7 : T11.heap[s.heap.size]? = some N := by rw [q11]; exact n1.1
  exact ⟨T15, none, _, _, _, X15, by simp, rfl, by omega, (fun _ => rfl), ⟨rfl, _, N, bl15, ((Same.refl D _).set _ (by simp)).set _ (by simp), sl15, (Cell.slots_setSlot_ne _ ap).trans sl13, n1.keep al (p15.other hne (p13.other hne n7)), n2, by rw [al.findClass]; exact n3, n4, n5, fun y c h1 h2 => p15.other h1 (p13.other h1 (by rw [q11]; exact n6 y c h2)), by rw [p15.2.2, p13.2.2, q11]; exact z8⟩, fun fs hl => c16.trans (X15.returnOut hexec hret (hb hbytes d57) hl)⟩
end New4
namespace New1
def yN : MethodName := ⟨"java/lang/String", "<init>", "([C)V"⟩
abbrev yB : ByteArray := jdk_42_method_3_code
theorem d0 : decode yB 0 = .ok (.aload_n 0, 1) := by decide +kernel
theorem d1 : decode yB 1 = .ok (.aload_n 1, 1) := by decide +kernel
theorem d2 : decode yB 2 = .ok (.iconst 0, 1) := by decide +kernel
theorem d3 : decode yB 3 = .ok (.aload_n 1, 1) := by decide +kernel
theorem d4 : decode yB 4 = .ok (.arraylength, 1) := by decide +kernel
theorem d5 : decode yB 5 = .ok (.aconst_null, 1) := by decide +kernel
theorem d6 : decode yB 6 = .ok (.invokespecial 27, 3) := by decide +kernel
theorem d9 : decode yB 9 = .ok (.return_, 1) := by decide +kernel
def site : List Cond := [New4.tab] ++ initW "java/lang/String" 27 New4.yN
def tab : Cond := tabOf yN yB 2 none site
def P (a : Addr) (D : Cell) (fV fC : Field) (b : Addr) (A : Cell) (z : Int32) (args : Array Value) (s : State) : Prop := args = #[.ref a, .ref b] ∧ Blank "java/lang/String" a D s ∧ Found "java/lang/String" "value" "[B" fV s ∧ Found "java/lang/String" "coder" "B" fC s ∧ Ch b A s ∧ StaticIs s "java/lang/String" "COMPACT_STRINGS" "Z" (.int z) ∧ ¬ z = 0 ∧ 0 < A.slots.size ∧ A.slots.size ≤ 536870912 ∧ ∀ i, i < A.slots.size → ¬ 255 < cv A i
def E (a : Addr) (D : Cell) (fV fC : Field) (A : Cell) (r : Option Value) (s u : State) : Prop := Got a D fV fC A 0 A.slots.size r s u
/-- new String(chars), not empty, no char above 255: a Latin-1 String of their low bytes -/
theorem law (l : Launch) (a : Addr) (D : Cell) (fV fC : Field) (b : Addr) (A : Cell) (z : Int32) : Law l yN 2 1 3 52 yB 2 none site (P a D fV fC b A z) (E a D fV fC A) [⟨a, fC.slot⟩, ⟨a, fV.slot⟩] 1 A.slots.size := by
  refine Law.of_walk (plainFor_of_name (by decide +kernel)) (by decide +kernel) (by decide +kernel) (by decide) (fun _ _ h => by rw [h.1]; rfl) (fun _ U U' hal hh h => ⟨h.1, h.2.1.mv hal hh, h.2.2.1.al hal, h.2.2.2.1.al hal, h.2.2.2.2.1.mv hal hh, h.2.2.2.2.2.1.there hal hh, h.2.2.2.2.2.2⟩) (fun r U U' V V' h1 hal h2 h => Got.mv r U U' V V' h1 hal h2 h) ?_
  intro p e s m args below meth c s₁ X0 hexec hbytes hml hret hlk hnm hown hh0 W hP
  obtain ⟨rfl, hB, f1, f2, hA, s1, hz, l0, l2, hp⟩ := hP
  have c1 : Steps p.tables e below (s₁.setTop (entryFrame m #[.ref a, .ref b] 2)) (s₁.setTop (mkF m 0 #[.val (.ref a), .val (.ref b)] [])) := entry rfl
  have c2 : Steps p.tables e below (s₁.setTop (entryFrame m #[.ref a, .ref b] 2)) (s₁.setTop (mkF m 6 #[.val (.ref a), .val (.ref b)] [.null, .int (Int32.ofNat A.slots.size), .int 0, .ref b, .ref a])) := c1.trans (by
    refine XS.aloadN X0.here hexec rfl (hb hbytes d0) rfl rfl ?_
    refine XS.aloadN X0.here hexec rfl (hb hbytes d1) rfl rfl ?_
    refine iconstV X0.here hexec rfl 0 (hb hbytes d2) (by decide) ?_
    refine XS.aloadN X0.here hexec rfl (hb hbytes d3) rfl rfl ?_
    refine X0.alen hexec (hA.1.mv X0.warmed.alike hh0) rfl rfl (hb hbytes d4) ?_
    refine XS.aconstNull X0.here hexec rfl (hb hbytes d5) ?_
    exact Steps.refl _)
  obtain ⟨v3, T3, X3, E3, g3⟩ := X0.callN hexec (New4.law l a D fV fC b A z 0 A.slots.size) rfl hown (wks W (initW "java/lang/String" 27 New4.yN)) (W New4.tab (by simp only [site, List.mem_cons, List.mem_append, true_or, or_true])) (W := 0) (Nat.le_of_ble_eq_true rfl) (Nat.le_of_ble_eq_true rfl) (Nat.le_refl _) (by show 0 + A.slots.size ≤ A.slots.size; omega) (g := (mkF m 6 #[.val (.ref a), .val (.ref b)] [.null, .int (Int32.ofNat A.slots.size), .int (Int32.ofNat 0), .ref b, .ref a])) rfl (by rw [hml]; rfl) c2 (argsL := [.ref b, .int (Int32.ofNat 0), .int (Int32.ofNat A.slots.size), .null]) (rest := []) rfl rfl (by show 2 * 0 + 0 ≤ _; decide) (hb hbytes d6) (⟨rfl, hB.mv X0.warmed.alike hh0, f1.al X0.warmed.alike, f2.al X0.warmed.alike, hA.mv X0.warmed.alike hh0, s1.there X0.warmed.alike hh0, hz, l0, by omega, l2, fun i hi => by rw [Nat.zero_add]; exact hp i hi⟩)
  have e0 := Got.mv _ s₁ s _ _ hh0.symm (Vm.Alike.refl _) rfl E3
  obtain rfl := e0.1
  have c4 : Steps p.tables e below (s₁.setTop (entryFrame m #[.ref a, .ref b] 2)) (T3.setTop (mkF m 9 #[.val (.ref a), .val (.ref b)] [])) := g3
  exact ⟨T3, none, _, _, _, X3, by simp, rfl, by omega, (fun _ => rfl), e0, fun fs hl => c4.trans (X3.returnOut hexec hret (hb hbytes d9) hl)⟩
theorem pays {l : Launch} {R : Room} {p : Program} {e : Env} {below : List Frame} {s : State} {sargs : Array Value} {len W : Nat} (a : Addr) (D : Cell) (fV fC : Field) (b : Addr) (A : Cell) (z : Int32) (htab : tab.before sargs s = true) (hfr : 4 ≤ R.frames) (hlo : W + 65 ≤ R.locals) :
    Back l R p e below s sargs yN len W (fun A₁ a₁ => A₁.cells + 1 ≤ R.cells ∧ A₁.slots + A.slots.size ≤ R.slots ∧ P a D fV fC b A z a₁ A₁.U) (fun A₁ _ v₁ B₁ => E a D fV fC A v₁ A₁.U B₁.U ∧ B₁.locs = A₁.locs ++ [⟨a, fC.slot⟩, ⟨a, fV.slot⟩] ∧ B₁.cells = A₁.cells + 1 ∧ B₁.slots = A₁.slots + A.slots.size) :=
  (law l a D fV fC b A z).pays htab hfr (by omega)
end New1
end StrChars
namespace StrChars.Road
open Jvm Sem ClassFile Op Lib Jvm.Stand Jvm.Free Jvm.Free.XT
open Jvm.Lib.Cold (StaticIs)
abbrev ST : String := "java/lang/String"
/-- every table word that New1's law asks, flat -/
abbrev words : List Jvm.Cond := [.code New1.yN New1.yB 2 none, .initialized ST, .methodLink ST 27 New4.yN, .instanceMethod New4.yN,
  .code New4.yN New4.yB 6 none, .fieldLink ST 38 ST "COMPACT_STRINGS" "Z", .laysFinal ST ST "value" "[B", .fieldLink ST 9 ST "value" "[B", .laysFinal ST ST "coder" "B", .fieldLink ST 15 ST "coder" "B",
  .methodLink ST 1 Lib.objectInit, .instanceMethod Lib.objectInit, .code Lib.objectInit ⟨#[0xb1]⟩ 1 none, .methodLink ST 177 Cmp3.yN, .static Cmp3.yN, .methodLink ST 47 CodL.yN, .static CodL.yN,
  .code Cmp3.yN Cmp3.yB 6 (some (.array .byte)), .initialized U16, .arrayClass .byte, .methodLink U16 115 Cmp5.yN, .static Cmp5.yN, .code Cmp5.yN Cmp5.yB 7 (some .int), .code CodL.yN CodL.yB 2 (some .byte)]
theorem tab_of {a : Array Value} {s : State} (h : ∀ w ∈ words, w.before a s = true) : New1.tab.before a s = true := by
  have h5 : Cmp5.tab.before a s = true := unparts (wk h (.code Cmp5.yN Cmp5.yB 7 (some .int))) (wks h (.initialized Cmp5.yN.cls :: Cmp5.site))
  have hc : CodL.tab.before a s = true := unparts (wk h (.code CodL.yN CodL.yB 2 (some .byte))) (wks h (.initialized CodL.yN.cls :: CodL.site))
  have q5 : ∀ w ∈ Cmp5.tab :: words, w.before a s = true := fun w hw => (List.mem_cons.mp hw).elim (fun e => e ▸ h5) (h w)
  have h3 : Cmp3.tab.before a s = true := unparts (wk q5 (.code Cmp3.yN Cmp3.yB 6 (some (.array .byte)))) (wks q5 (.initialized Cmp3.yN.cls :: Cmp3.site))
  have q3 : ∀ w ∈ Cmp3.tab :: CodL.tab :: words, w.before a s = true := fun w hw => (List.mem_cons.mp hw).elim (fun e => e ▸ h3) fun hw => (List.mem_cons.mp hw).elim (fun e => e ▸ hc) (h w)
  have h4 : New4.tab.before a s = true := unparts (wk q3 (.code New4.yN New4.yB 6 none)) (wks q3 (.initialized New4.yN.cls :: New4.site))
  have q4 : ∀ w ∈ New4.tab :: words, w.before a s = true := fun w hw => (List.mem_cons.mp hw).elim (fun e => e ▸ h4) (h w)
  exact unparts (wk q4 (.code New1.yN New1.yB 2 none)) (wks q4 (.initialized New1.yN.cls :: New1.site))
/-- the words ride from the start Z to the walk's own state -/
theorem moved {Z s : State} {a0 args : Array Value} (hZ : Z.Warmed39 s.vm) (hw : ∀ d ∈ words, d.before a0 Z = true) : ∀ d ∈ words, d.before args s = true := fun d hd => by
  have q := hw d hd
  have t : ∀ d ∈ words, d = .arrayClass .byte ∨ (d.onTables && d.keepsFace) = true := by decide +kernel
  rcases t d hd with rfl | t
  · exact RoadKit.mvA hZ q
  · exact RoadKit.mv hZ q t
/-- WHAT COMES BACK, over the tables of the start Z: h the heap at the call, h' behind it -/
def Q (Z : State) (x : Addr) (A : Cell) (h : Heap) (v : Option Value) (h' : Heap) (L : List Loc) : Prop := v = none ∧ (∀ y ∈ L, y.base = x) ∧ RoadKit.Keep h h' [x] ∧ h'.size = h.size + 1 ∧ RoadKit.Exa Z h' x ST ∧ RoadKit.Fld Z h' x ST "value" "[B" (.ref h.size) ∧ RoadKit.Fld Z h' x ST "coder" "B" (.int 0) ∧
  (∃ V : Cell, RoadKit.Arr Z h' h.size V .byte ∧ V.vm = .none ∧ Z.vm.findClass "[B" = some V.cls ∧ V.slots.size = A.slots.size ∧ ∀ j, j < A.slots.size → V.slots[j]? = some (.int (lo8 (cv A j)))) ∧
  ∀ (O n d : String) (w : Value), RoadKit.Fld Z h x O n d w → RoadKit.slotOf Z O n d ≠ RoadKit.slotOf Z ST "value" "[B" → RoadKit.slotOf Z O n d ≠ RoadKit.slotOf Z ST "coder" "B" → RoadKit.Fld Z h' x O n d w
/-- **new String(chars) AT A CALL, IN THE ROAD'S FORM**: for specialBack behind newO: x the fresh String, b the char[] with the cell A -/
theorem back {p : Program} {l : Launch} {e : Env} {R : Room} {s : State} {args : Array Value} {below : List Frame} {len W : Nat} {Z : State} {a0 : Array Value} {h : Heap} (hZ : Z.Warmed39 s.vm) (hw : ∀ d ∈ words, d.before a0 Z = true) {kI : Nat} (wi : (Jvm.Cond.instantiable ST kI).before a0 Z = true)
    {x b : Addr} {A : Cell} {z : Int32} {v0 c0 : Value} (E : RoadKit.Exa Z h x ST) (V : RoadKit.Fld Z h x ST "value" "[B" v0) (C : RoadKit.Fld Z h x ST "coder" "B" c0) (K : RoadKit.Arr Z h b A .char) (hty : Typed .char A) (S : RoadKit.Sta Z h ST "COMPACT_STRINGS" "Z" (.int z)) (hz : ¬ z = 0)
    (l0 : 0 < A.slots.size) (l2 : A.slots.size ≤ 536870912) (hp : ∀ i, i < A.slots.size → ¬ 255 < cv A i) (hfr : 4 ≤ R.frames) (hlo : W + 65 ≤ R.locals) :
    Back l R p e below s args New1.yN len W (fun P a => a = #[.ref x, .ref b] ∧ P.U.heap = h ∧ P.cells + 1 ≤ R.cells ∧ P.slots + A.slots.size ≤ R.slots)
      (fun P _ v B => ∃ L, Q Z x A h v B.U.heap L ∧ B.locs = P.locs ++ L ∧ B.cells = P.cells + 1 ∧ B.slots = P.slots + A.slots.size) := by
  intro m meth c P g ig mk a X hg hsize hdg hW hn hp'
  obtain ⟨rfl, rfl, r1, r2⟩ := hp'
  have al : Z.vm.Alike P.U.vm := hZ.alike.trans X.warmed.alike
  obtain ⟨D, cfV, kV, iV, fV, hD, gV, stV, knV, obV, asV, slV⟩ := id V
  obtain ⟨D', cfC, kC, iC, fC, hD', gC, stC, -, -, asC, slC⟩ := id C
  cases hD.symm.trans hD'
  obtain ⟨D2, kD, e1, e2, e3, e4, e5⟩ := id E
  cases hD.symm.trans e1
  obtain ⟨c2, k2, i1, i2, i3, -⟩ := Cond.instantiable_spec wi
  cases e2.symm.trans i1
  cases e3.symm.trans i2
  obtain ⟨kU, u1, u2⟩ := al.2.2 _ _ e3
  have hB : Blank ST x D P.U := ⟨hD, ⟨knV, fun q hq => by rw [hq] at obV; cases obV⟩, by rw [al.findClass]; exact e2, kU, u1, by rw [u2]; exact i3, by rw [u2]; exact e5 i3⟩
  have F1 : Found ST "value" "[B" fV P.U := ⟨SBG.found_only al ⟨cfV, kV, iV, gV⟩, stV⟩
  have F2 : Found ST "coder" "B" fC P.U := ⟨SBG.found_only al ⟨cfC, kC, iC, gC⟩, stC⟩
  have hA : Ch b A P.U := ⟨⟨K.1, State.isArrayOf_alike al K.2.1, K.2.2, by omega⟩, hty⟩
  have hS : StaticIs P.U ST "COMPACT_STRINGS" "Z" (.int z) := by
    obtain ⟨cfS, iS, kS, fS, st, cS, t1, t2, t3, t4, t5, t6, t7⟩ := S
    exact StaticIs.there (s := { Z with heap := P.U.heap }) ⟨cfS, iS, kS, fS, st, cS, t1, t2, t3, t4, t5, (fun q => by rw [q] at t6; cases t6), t7⟩ al rfl
  obtain ⟨v, B, X', ⟨⟨hv, E', V', q1, q2, q3, q4, q5, q6, q7, q8, q9, q10, q11⟩, hl, hc, hs⟩, st⟩ := New1.pays x D fV fC b A z (tab_of (moved hZ hw)) hfr hlo m meth c P g ig mk _ X hg hsize hdg hW hn ⟨r1, r2, rfl, hB, F1, F2, hA, hS, hz, l0, l2, hp⟩
  have al' : Z.vm.Alike B.U.vm := hZ.alike.trans X'.warmed.alike
  have hsz : E'.slots.size = D.slots.size := by
    obtain ⟨-, -, -, kB, w1, w2, w3⟩ := q1
    obtain ⟨kB', y1, y2⟩ := al'.2.2 _ _ e3
    rw [q2.2.1] at w1
    cases w1.symm.trans y1
    rw [w3, e5 i3, y2]
  refine ⟨v, B, X', ⟨_, ⟨hv, ?_, ⟨by omega, fun y cy hy hn' => q10 y cy (by simpa using hn') hy, fun y cy hy => ?_⟩, q11, ⟨E', _, q1.1, by rw [q2.2.1]; exact e2, by rw [q2.2.1]; exact e3, by rw [q2.1]; exact obV, fun _ => by rw [hsz]; exact e5 i3⟩,
    ⟨E', cfV, kV, iV, fV, q1.1, gV, stV, by rw [q2.1]; exact knV, by rw [q2.1]; exact obV, by rw [q2.2.1]; exact asV, q3⟩, ⟨E', cfC, kC, iC, fC, q1.1, gC, stC, by rw [q2.1]; exact knV, by rw [q2.1]; exact obV, by rw [q2.2.1]; exact asC, q4⟩,
    ⟨V', ⟨q5.1, State.isArrayOf_alike al'.symm q5.2.1, q5.2.2.1⟩, q6, by rw [← al'.findClass]; exact q7, q8, fun j hj => by have := q9 j hj; rwa [Nat.zero_add] at this⟩, fun O n d w F n1 n2 => ?_⟩, hl, hc, hs⟩, st⟩
  · intro y hy
    simp only [List.mem_cons, List.not_mem_nil, or_false] at hy
    rcases hy with rfl | rfl <;> rfl
  · by_cases q : y = x
    · subst q
      cases hD.symm.trans hy
      exact ⟨E', q1.1, q2.2.1, q2.1, hsz⟩
    · exact ⟨cy, q10 y cy q hy, rfl, rfl, rfl⟩
  · obtain ⟨D3, cf, k, i, f, g1, g2, g3, g4, g5, g6, g7⟩ := F
    cases hD.symm.trans g1
    simp only [RoadKit.slotOf, g2, gV, gC, Option.map_some, Option.getD_some] at n1 n2
    exact ⟨E', cf, k, i, f, q1.1, g2, g3, by rw [q2.1]; exact g4, by rw [q2.1]; exact g5, by rw [q2.2.1]; exact g6, by rw [q2.2.2 f.slot (by simp [n1, n2])]; exact g7⟩
end StrChars.Road
namespace StrChars.Road
open Jvm Sem ClassFile Op Lib Jvm.Stand Jvm.Free Jvm.Free.XT
/-- WHAT COMES BACK, the byte[] as a list of values -/
def QA (Z : State) (x : Addr) (zn : Int32) (cs : List Int32) (h : Heap) (v : Option Value) (h' : Heap) (L : List Loc) : Prop := v = none ∧ (∀ y ∈ L, y.base = x) ∧ RoadKit.Keep h h' [x] ∧ h'.size = h.size + 1 ∧ RoadKit.Exa Z h' x ST ∧ RoadKit.Fld Z h' x ST "value" "[B" (.ref h.size) ∧ RoadKit.Fld Z h' x ST "coder" "B" (.int 0) ∧
  (∃ kb, Z.vm.findClass "[B" = some kb ∧ RoadKit.Arv Z h' h.size kb .byte zn (cs.map fun c => .int (lo8 c)) (.int 0)) ∧
  ∀ (O n d : String) (w : Value), RoadKit.Fld Z h x O n d w → RoadKit.slotOf Z O n d ≠ RoadKit.slotOf Z ST "value" "[B" → RoadKit.slotOf Z O n d ≠ RoadKit.slotOf Z ST "coder" "B" → RoadKit.Fld Z h' x O n d w
/-- **new String(chars) AT A CALL, THE ARRAYS AS LISTS**: the char[] at b holds cs, not empty, no char above 255 -/
theorem backArv {p : Program} {l : Launch} {e : Env} {R : Room} {s : State} {args : Array Value} {below : List Frame} {len W : Nat} {Z : State} {a0 : Array Value} {h : Heap} (hZ : Z.Warmed39 s.vm) (hw : ∀ d ∈ words, d.before a0 Z = true) {kI : Nat} (wi : (Jvm.Cond.instantiable ST kI).before a0 Z = true)
    {x b : Addr} {k : ClassId} {zn z : Int32} {cs : List Int32} {dv v0 c0 : Value} (E : RoadKit.Exa Z h x ST) (V : RoadKit.Fld Z h x ST "value" "[B" v0) (C : RoadKit.Fld Z h x ST "coder" "B" c0) (K : RoadKit.Arv Z h b k .char zn (cs.map Value.int) dv) (S : RoadKit.Sta Z h ST "COMPACT_STRINGS" "Z" (.int z)) (hz : ¬ z = 0)
    (hlen : zn.toNatClampNeg = cs.length) (h0 : 0 < cs.length) (hbig : cs.length ≤ 536870912) (hall : ∀ c ∈ cs, ¬ 255 < c) (hfr : 4 ≤ R.frames) (hlo : W + 65 ≤ R.locals) :
    Back l R p e below s args New1.yN len W (fun P a => a = #[.ref x, .ref b] ∧ P.U.heap = h ∧ P.cells + 1 ≤ R.cells ∧ P.slots + cs.length ≤ R.slots)
      (fun P _ v B => ∃ L, QA Z x zn cs h v B.U.heap L ∧ B.locs = P.locs ++ L ∧ B.cells = P.cells + 1 ∧ B.slots = P.slots + cs.length) := by
  obtain ⟨A, K1, K2, K3, K4, K5, K6⟩ := K
  have e : A.slots.size = cs.length := K3.trans hlen
  have hat : ∀ (i : Nat) (hi : i < cs.length), A.slots[i]? = some (.int cs[i]) := fun i hi => by rw [K5 i (by omega)]; simp [List.getD_eq_getElem?_getD, hi]
  have hcv : ∀ (i : Nat) (hi : i < cs.length), cv A i = cs[i] := fun i hi => by unfold cv; rw [hat i hi]
  have hty : Typed .char A := fun i v hv => by
    have hi : i < A.slots.size := (Array.getElem?_eq_some_iff.mp hv).1
    have q := K5 i hi
    rw [hv] at q
    rw [Option.some.inj q]
    exact K6 i hi
  refine Back.mono (back hZ hw wi E V C K1 hty S hz (by omega) (by omega) (fun i hi => by rw [hcv i (by omega)]; exact hall _ (List.getElem_mem _)) hfr hlo) (fun P a hp => ⟨hp.1, hp.2.1, hp.2.2.1, by rw [e]; exact hp.2.2.2⟩) (fun P a v B hp hq => ?_)
  obtain ⟨L, ⟨q1, q2, q3, q4, q5, q6, q7, ⟨V', v1, v2, v3, v4, v5⟩, q9⟩, hl, hc, hs⟩ := hq
  refine ⟨L, ⟨q1, q2, q3, q4, q5, q6, q7, ⟨V'.cls, v3, V', v1, rfl, by rw [v4, e, hlen], K4, fun i hi => ?_, fun i hi => ?_⟩, q9⟩, hl, hc, by rw [hs, e]⟩
  · have hi' : i < cs.length := by omega
    rw [v5 i (by omega), hcv i hi']; simp [List.getD_eq_getElem?_getD, hi']
  · have hi' : i < cs.length := by omega
    simp only [List.getD_eq_getElem?_getD, List.getElem?_map, List.getElem?_eq_getElem hi', Option.map_some, Option.getD_some]
    exact fits_lo8 _
end StrChars.Road
namespace StrChars.Road
open Jvm Sem ClassFile Op Lib Jvm.Stand Jvm.Free Jvm.Free.XT
/-- WHAT COMES BACK, in the writer's own shape -/
def QV (Z : State) (x : Addr) (N : Int32) (bs : List Int32) (h : Heap) (n0 : Nat) (v : Option Value) (h' : Heap) (L : List Loc) : Prop := v = none ∧ RoadKit.Fr n0 L ∧ RoadKit.Keep h h' [x] ∧ RoadKit.Exa Z h' x ST ∧ RoadKit.Fld Z h' x ST "coder" "B" (.int 0) ∧
  ∃ (t : Addr) (kb : ClassId), n0 ≤ t ∧ h.size ≤ t ∧ ¬ t = x ∧ RoadKit.Fld Z h' x ST "value" "[B" (.ref t) ∧ RoadKit.Arv Z h' t kb .byte N (bs.map Value.int) (.int 0)
/-- **new String(chars) AT A CALL, FOR THE WRITER**: a char[] of n known ints, each 0 to 255 -/
theorem backV {p : Program} {l : Launch} {e : Env} {R : Room} {s : State} {args : Array Value} {below : List Frame} {len W : Nat} {Z : State} {a0 : Array Value} {h : Heap} (hZ : Z.Warmed39 s.vm) (hw : ∀ d ∈ words, d.before a0 Z = true) {kI : Nat} (wi : (Jvm.Cond.instantiable ST kI).before a0 Z = true)
    {x b : Addr} {kC : ClassId} {cs bs : List Int32} {d v0 c0 : Value} {z N : Int32} {n n0 : Nat} (hx0 : n0 ≤ x) (hh0 : n0 ≤ h.size) (E : RoadKit.Exa Z h x ST) (V : RoadKit.Fld Z h x ST "value" "[B" v0) (C : RoadKit.Fld Z h x ST "coder" "B" c0) (K : RoadKit.Arv Z h b kC .char N (cs.map Value.int) d) (S : RoadKit.Sta Z h ST "COMPACT_STRINGS" "Z" (.int z)) (hz : ¬ z = 0)
    (hn : cs.length = n) (hN : N = Int32.ofNat n) (l0 : 0 < n) (l2 : n ≤ 4000) (hp : ∀ c ∈ cs, ¬ c < 0 ∧ ¬ (255 : Int32) < c) (hb : bs = cs.map (fun c => c.toInt8.toInt32)) (hfr : 4 ≤ R.frames) (hlo : W + 65 ≤ R.locals) :
    Back l R p e below s args (⟨"java/lang/String", "<init>", "([C)V"⟩ : MethodName) len W (fun P a => a = #[.ref x, .ref b] ∧ P.U.heap = h ∧ P.cells + 1 ≤ R.cells ∧ P.slots + n ≤ R.slots)
      (fun P _ v B => ∃ L, QV Z x N bs h n0 v B.U.heap L ∧ B.locs = P.locs ++ L ∧ B.cells = P.cells + 1 ∧ B.slots = P.slots + n) := by
  subst hn hN hb
  refine Back.mono (backArv hZ hw wi E V C K S hz (n32 (by omega)) l0 (by omega) (fun c hc => (hp c hc).2) hfr hlo) (fun P a hp => hp) (fun P a v B hp hq => ?_)
  obtain ⟨L, ⟨q1, q2, q3, q4, q5, q6, q7, ⟨kb, v1, v2⟩, q9⟩, hl, hc, hs⟩ := hq
  exact ⟨L, ⟨q1, fun y hy => by rw [q2 y hy]; exact hx0, q3, q5, q7, h.size, kb, hh0, Nat.le_refl _, Nat.ne_of_gt E.lt, q6, by rw [List.map_map]; exact v2⟩, hl, hc, hs⟩
end StrChars.Road
end Jvm.Pilot.@@N@@
namespace Jvm.Pilot.@@N@@
open Jvm Jvm.ClassFile Sem Op Lib Jvm.Free Jvm.Stand Jvm.LawKit Jvm.RoadKit Bundle Jvm.GoKit Jvm.Pilot.@@N@@.Jvm.D
theorem dk_0 : decode prog_13_method_2_code 0 = .ok (.dload_n 0, 1) := by decide +kernel
theorem dk_1 : decode prog_13_method_2_code 1 = .ok (.dconst 0, 1) := by decide +kernel
theorem dk_2 : decode prog_13_method_2_code 2 = .ok (.dcmp .l, 1) := by decide +kernel
theorem dk_3 : decode prog_13_method_2_code 3 = .ok (.ifCond .lt 9, 3) := by decide +kernel
theorem dk_6 : decode prog_13_method_2_code 6 = .ok (.dload_n 0, 1) := by decide +kernel
theorem dk_7 : decode prog_13_method_2_code 7 = .ok (.dconst 1, 1) := by decide +kernel
theorem dk_8 : decode prog_13_method_2_code 8 = .ok (.dcmp .g, 1) := by decide +kernel
theorem dk_9 : decode prog_13_method_2_code 9 = .ok (.ifCond .le 18, 3) := by decide +kernel
theorem dk_12 : decode prog_13_method_2_code 12 = .ok (.new 7, 3) := by decide +kernel
theorem dk_15 : decode prog_13_method_2_code 15 = .ok (.dup, 1) := by decide +kernel
theorem dk_16 : decode prog_13_method_2_code 16 = .ok (.aload_n 2, 1) := by decide +kernel
theorem dk_17 : decode prog_13_method_2_code 17 = .ok (.dload_n 0, 1) := by decide +kernel
theorem dk_18 : decode prog_13_method_2_code 18 = .ok (.invokedynamic 9, 5) := by decide +kernel
theorem dk_23 : decode prog_13_method_2_code 23 = .ok (.invokespecial 13, 3) := by decide +kernel
theorem dk_26 : decode prog_13_method_2_code 26 = .ok (.athrow, 1) := by decide +kernel
theorem dk_27 : decode prog_13_method_2_code 27 = .ok (.dload_n 0, 1) := by decide +kernel
theorem dk_28 : decode prog_13_method_2_code 28 = .ok (.dreturn, 1) := by decide +kernel
theorem tw {Z : State} {a0 : Array Value} (hw : ∀ d ∈ tables_1, d.before a0 Z = true) (i : Nat) {d : Jvm.Cond} (h : tables_1[i]? = some d) : d.before a0 Z = true := hw d (List.mem_of_getElem? h)
open Jvm.Free.Fl
theorem pnL : plainName "com/example/parley/parley/algorithm/ProbabilitiesCheckedPinLaw" = true := by first | (simp [plainName, overriddenIn]; done) | decide +kernel
theorem pnP : plainName "com/example/parley/parley/algorithm/Probabilities" = true := by first | (simp [plainName, overriddenIn]; done) | decide +kernel
theorem pdC : parseMethodDescriptor "(DLjava/lang/String;)D" = some ⟨[.double, .object "java/lang/String"], some .double⟩ := by decide +kernel
theorem pdS : parseMethodDescriptor "([C)V" = some ⟨[.array .char], none⟩ := by decide +kernel
theorem efC (m : MethodId) (x0 : UInt64) (x1 : Addr) : entryFrame m [(Value.double x0), (.ref x1)].toArray 3 = fr m 0 [.val (.double x0), .second, .val (.ref x1)] [] := by first | (simp [entryFrame, mkF, argsToLocals, Value.category]; done) | rfl
theorem efL (m : MethodId) (x0 x1 x2 x3 : Int32) : entryFrame m [(Value.int x0), (.int x1), (.int x2), (.int x3)].toArray maxLocals = fr m 0 [.val (.int x0), .val (.int x1), .val (.int x2), .val (.int x3), .unset, .unset, .unset, .unset, .unset, .unset, .unset, .unset] [] := by first | (simp [entryFrame, mkF, argsToLocals, Value.category, maxLocals]; done) | rfl
def gR : Room := { frames := 0, cells := 0, slots := 0, locals := 0 }
/-- a double from 0 to 1 -/
def P01 (x : UInt64) : Prop := FP.Core.val64 x ≠ .nan ∧ 0 ≤ FP.Core.zval FP.Core.b64 (FP.Core.val64 x) ∧ FP.Core.zval FP.Core.b64 (FP.Core.val64 x) ≤ FP.Core.zval FP.Core.b64 (FP.Core.val64 FP.dconst1)
theorem P01.ge {x : UInt64} (h : P01 x) : ¬ cmpValue (FP.dcmp x FP.dconst0) .l < 0 := by
  have z : FP.Core.zval FP.Core.b64 (FP.Core.val64 FP.dconst0) = 0 := by decide +kernel
  have n : FP.Core.val64 FP.dconst0 ≠ .nan := by decide +kernel
  rw [show FP.dcmp x FP.dconst0 = _ from FP.Core.dcmp_zval h.1 n, z, FP.Core.compare_ite]
  split
  · have := h.2.1; omega
  · split <;> decide
theorem P01.le {x : UInt64} (h : P01 x) : ¬ 0 < cmpValue (FP.dcmp x FP.dconst1) .g := by
  have n : FP.Core.val64 FP.dconst1 ≠ .nan := by decide +kernel
  rw [show FP.dcmp x FP.dconst1 = _ from FP.Core.dcmp_zval h.1 n, FP.Core.compare_ite]
  split
  · decide
  · split
    · decide
    · have := h.2.2; omega
theorem P01.self {x : UInt64} (h : P01 x) : cmpValue (FP.dcmp x x) .l = 0 := dcmpV_self (val64_no.mpr h.1) .l
theorem own_div {k D : Int64} (hk : 0 ≤ k.toInt) (hD : 0 < D.toInt) (sk : FP.Core.Small53 k) (sD : FP.Core.Small53 D) :
    ∃ R, FP.Core.val64 (FP.ddiv (FP.l2d k) (FP.l2d D)) = R ∧ R ≠ .nan ∧ FP.Core.sgn R = false ∧ (k.toInt = 0 → R = .fin false 0 FP.Core.b64.qmin) ∧ ∀ (V : FP.Core.Datum) (j : Nat), FP.Core.fits FP.Core.b64 V → V ≠ .nan → FP.Core.zmag FP.Core.b64 V = j * 2 ^ 1074 → k.toInt ≤ j * D.toInt → FP.Core.zmag FP.Core.b64 R ≤ FP.Core.zmag FP.Core.b64 V := by
  have hQ : FP.Core.b64.qmin = -1074 := by decide
  have hQx : FP.Core.b64.qmax = 971 := by decide
  obtain ⟨c, q, hx⟩ := FP.Core.l2d_shape k
  obtain ⟨d, r, hy⟩ := FP.Core.l2d_shape D
  have nk : decide (k.toInt < 0) = false := by simp; omega
  have nD : decide (D.toInt < 0) = false := by simp; omega
  rw [nk] at hx
  rw [nD] at hy
  have wx := FP.Core.whole_zval FP.Core.good_b64 (FP.Core.val64_fits _) (FP.Core.l2d_whole sk)
  have wy := FP.Core.whole_zval FP.Core.good_b64 (FP.Core.val64_fits _) (FP.Core.l2d_whole sD)
  have fx := FP.Core.val64_fits (FP.l2d k)
  have fy := FP.Core.val64_fits (FP.l2d D)
  rw [show FP.Core.val64 (FP.l2d k) = _ from hx] at fx
  rw [show FP.Core.val64 (FP.l2d D) = _ from hy] at fy
  rw [hx] at wx
  rw [hy] at wy
  have wx' : ((c * 2 ^ (q - FP.Core.b64.qmin).toNat : Nat) : Int) = k.toInt * ((2 ^ 1074 : Nat) : Int) := by rw [hQ] at wx ⊢; exact wx
  have wy' : ((d * 2 ^ (r - FP.Core.b64.qmin).toNat : Nat) : Int) = D.toInt * ((2 ^ 1074 : Nat) : Int) := by rw [hQ] at wy ⊢; exact wy
  have hd0 : 0 < d := by
    rcases Nat.eq_zero_or_pos d with z | z
    · rw [z, Nat.zero_mul] at wy'
      have : 0 < D.toInt * ((2 ^ 1074 : Nat) : Int) := Int.mul_pos hD (by exact_mod_cast Nat.two_pow_pos 1074)
      omega
    · exact z
  have hR : FP.Core.val64 (FP.ddiv (FP.l2d k) (FP.l2d D)) = FP.Core.roundRatio FP.Core.b64 false c d (q - r) := by
    rw [show FP.Core.val64 (FP.ddiv (FP.l2d k) (FP.l2d D)) = _ from FP.Core.val64_ddiv _ _, show FP.Core.val64 (FP.l2d k) = _ from hx, show FP.Core.val64 (FP.l2d D) = _ from hy]
    simp only [FP.Core.quotient]
    rw [if_neg (by omega)]
    rfl
  refine ⟨_, hR, FP.Core.roundRatio_ne_nan _ _ _ _ _, FP.Core.sgn_roundRatio _ _ _ _ _, fun hk0 => ?_, fun V j hV hn hz hkD => ?_⟩
  · rw [hk0, Int.zero_mul] at wx'
    have c0 : c = 0 := by
      rcases Nat.eq_zero_or_pos c with z | z
      · exact z
      · have : 0 < c * 2 ^ (q - FP.Core.b64.qmin).toNat := Nat.mul_pos z (Nat.two_pow_pos _)
        omega
    rw [c0]
    unfold FP.Core.roundRatio
    rw [if_pos rfl]
  have q1 : FP.Core.b64.qmin ≤ q := fx.2.1
  have r1 : FP.Core.b64.qmin ≤ r := fy.2.1
  have r2 : r ≤ FP.Core.b64.qmax := fy.2.2.1
  refine FP.Core.zmag_roundRatio_le FP.Core.good_b64 (e0 := -2148) hd0 hV hn (by omega) (by omega) ?_
  rw [hz]
  unfold FP.Core.inUnits
  have key : c * 2 ^ (q - r - -2148).toNat * 2 ^ (r - FP.Core.b64.qmin).toNat ≤ j * 2 ^ 1074 * 2 ^ (FP.Core.b64.qmin - -2148).toNat * d * 2 ^ (r - FP.Core.b64.qmin).toNat := by
    have e1 : c * 2 ^ (q - r - -2148).toNat * 2 ^ (r - FP.Core.b64.qmin).toNat = (c * 2 ^ (q - FP.Core.b64.qmin).toNat) * 2 ^ 2148 := by
      rw [Nat.mul_assoc, Nat.mul_assoc, ← Nat.pow_add, ← Nat.pow_add]
      congr 2
      omega
    have e2 : j * 2 ^ 1074 * 2 ^ (FP.Core.b64.qmin - -2148).toNat * d * 2 ^ (r - FP.Core.b64.qmin).toNat = j * (d * 2 ^ (r - FP.Core.b64.qmin).toNat) * 2 ^ 2148 := by
      rw [show (FP.Core.b64.qmin - -2148).toNat = 1074 by rw [hQ]; rfl, (Nat.pow_add 2 1074 1074 : (2 : Nat) ^ 2148 = _)]
      generalize (2 : Nat) ^ 1074 = P
      generalize (2 : Nat) ^ (r - FP.Core.b64.qmin).toNat = S
      ac_rfl
    rw [e1, e2]
    apply Nat.mul_le_mul_right
    have hh : k.toInt * ((2 ^ 1074 : Nat) : Int) ≤ (j : Int) * (D.toInt * ((2 ^ 1074 : Nat) : Int)) := by
      rw [← Int.mul_assoc]
      exact Int.mul_le_mul_of_nonneg_right hkD (Int.natCast_nonneg _)
    rw [← wx', ← wy'] at hh
    exact_mod_cast hh
  exact Nat.le_of_mul_le_mul_right key (Nat.two_pow_pos _)
theorem own_p {k D : Int64} (hk : 0 ≤ k.toInt) (hD : 0 < D.toInt) (sk : FP.Core.Small53 k) (sD : FP.Core.Small53 D) (h : k.toInt ≤ D.toInt) : P01 (FP.ddiv (FP.l2d k) (FP.l2d D)) := by
  obtain ⟨R, h1, h2, h3, -, h4⟩ := own_div hk hD sk sD
  have z1 : FP.Core.zval FP.Core.b64 (FP.Core.val64 FP.dconst1) = ((2 ^ 1074 : Nat) : Int) := by decide +kernel
  have m1 : FP.Core.zmag FP.Core.b64 (FP.Core.val64 FP.dconst1) = 1 * 2 ^ 1074 := by decide +kernel
  have q := h4 (FP.Core.val64 FP.dconst1) 1 (FP.Core.val64_fits _) (by decide +kernel) m1 (by omega)
  rw [m1, Nat.one_mul] at q
  have zR : FP.Core.zval FP.Core.b64 R = (FP.Core.zmag FP.Core.b64 R : Int) := by unfold FP.Core.zval; rw [h3]; rfl
  refine ⟨by rw [h1]; exact h2, ?_, ?_⟩
  · rw [h1, zR]; omega
  · rw [h1, zR, z1]; exact_mod_cast q
theorem own_p0 {D : Int64} (hD : 0 < D.toInt) (sD : FP.Core.Small53 D) : P01 (FP.dneg (FP.ddiv (FP.l2d 0) (FP.l2d D))) := by
  obtain ⟨R, h1, h2, h3, h5, -⟩ := own_div (k := 0) (by decide) hD (by unfold FP.Core.Small53; decide) sD
  have e0 : FP.Core.val64 FP.dconst0 = .fin false 0 FP.Core.b64.qmin := by decide +kernel
  have e : FP.ddiv (FP.l2d 0) (FP.l2d D) = FP.dconst0 := FP.Core.val64_inj (by rw [h1]; exact h2) (by rw [h1, e0]; exact h5 (by decide))
  rw [e]
  have n : FP.Core.val64 (FP.dneg FP.dconst0) ≠ .nan := by decide +kernel
  have z : FP.Core.zval FP.Core.b64 (FP.Core.val64 (FP.dneg FP.dconst0)) = 0 := by decide +kernel
  have z1 : 0 ≤ FP.Core.zval FP.Core.b64 (FP.Core.val64 FP.dconst1) := by decide +kernel
  exact ⟨n, by rw [z]; decide, by rw [z]; exact z1⟩
theorem own_nn {x : UInt64} (h : P01 x) : NoNaN64 x := val64_no.mpr h.1
set_option maxRecDepth 65536 in
set_option maxHeartbeats 4000000 in
theorem ctC (l : Launch) (Z : State) (a0 : Array Value) (hw : ∀ d ∈ tables_1, d.before a0 Z = true) (x : UInt64) (a : Addr) (h : Heap) (n0 : Nat) (hp : P01 x) :
    Ct l Z ⟨"com/example/parley/parley/algorithm/Probabilities", "checked", "(DLjava/lang/String;)D"⟩ prog_13_method_2_code 3 (some .double) [] gR gR.cells gR.slots [(.double x), (.ref a)] h (fun v h' L => v = some (.double x) ∧ Fr n0 L ∧ h' = h) := by
  refine Ct.mk (plainFor_of_name pnP) (fun m => efC m x a) ?_
  intro p e s m below meth c s₁ B X0 e0
  refine Go.dloadN B X0 dk_0 (pc' := 1) rfl rfl ?_
  refine Go.dconst0 B X0 dk_1 (pc' := 2) rfl ?_
  refine Go.dcmp B X0 dk_2 (pc' := 3) rfl ?_
  refine Go.ifF B X0 dk_3 (pc' := 6) rfl hp.ge ?_
  refine Go.dloadN B X0 dk_6 (pc' := 7) rfl rfl ?_
  refine Go.dconst1 B X0 dk_7 (pc' := 8) rfl ?_
  refine Go.dcmp B X0 dk_8 (pc' := 9) rfl ?_
  refine Go.ifT B X0 dk_9 (by decide) (pc' := 27) rfl hp.le ?_
  refine Go.dloadN B X0 dk_27 (pc' := 28) rfl rfl ?_
  exact Go.dret B X0 dk_28 nb nb ⟨rfl, Fr.nil _, e0⟩
theorem and255 (p : Int32) : ¬ nar .char ((p &&& (255 : Int32)).toUInt32.toUInt16.toUInt32.toInt32) < 0 ∧ ¬ (255 : Int32) < nar .char ((p &&& (255 : Int32)).toUInt32.toUInt16.toUInt32.toInt32) := by
  have e : nar .char ((p &&& (255 : Int32)).toUInt32.toUInt16.toUInt32.toInt32) = (p &&& (255 : Int32)).toUInt32.toUInt16.toUInt32.toInt32 := by simp only [nar, UInt32.toUInt32_toInt32, UInt16.toUInt16_toUInt32]
  rw [e]
  have a := c_i2c (p &&& 255)
  have b := c_and p 255 (by decide)
  have e2 : (255 : Int32).toInt = 255 := by decide
  have e3 : (0 : Int32).toInt = 0 := by decide
  rw [Int32.lt_iff_toInt_lt, Int32.lt_iff_toInt_lt]
  omega
theorem own_dk (a b d k : Int32) (hd : (b &&& 65535) + 1 = d) (hk : (a &&& 2147483647) % (d + 1) = k) : d + 1 ≠ 0 ∧ 0 < d.toInt ∧ 0 ≤ k.toInt ∧ k.toInt ≤ d.toInt := by
  have h1 := c_and b 65535 (by decide)
  have h2 := c_iadd (b &&& 65535) 1
  rw [hd] at h2
  have h3 := c_iadd d 1
  have e1 : (1 : Int32).toInt = 1 := by decide
  have e2 : (65535 : Int32).toInt = 65535 := by decide
  have r1 := rng32 d
  have r2 := rng32 (d + 1)
  have hd1 : d.toInt = (b &&& 65535).toInt + 1 := by omega
  have hd2 : (d + 1).toInt = d.toInt + 1 := by omega
  have h5 := c_and a 2147483647 (by decide)
  have h6 := (c_iremV (a &&& 2147483647) (d + 1)).1 h5.1 (by omega)
  rw [hk] at h6
  refine ⟨fun z => ?_, by omega, h6.1, by omega⟩
  have : (d + 1).toInt = 0 := by rw [z]; decide
  omega
set_option maxRecDepth 65536 in
set_option maxHeartbeats 40000000 in
theorem ctL (l : Launch) (Z : State) (a0 : Array Value) (hw : ∀ d ∈ tables_1, d.before a0 Z = true) (p1 p2 p3 p4 : Int32) (G1 : Int32) (h : Heap) (n0 : Nat) (Z0 : n0 ≤ h.size) (S0 : Sta Z h "java/lang/String" "COMPACT_STRINGS" "Z" (.int G1)) (P5 : ¬ G1 = 0) :
    Ct l Z x code maxLocals ret tables_1 room_1 16 128 [(.int p1), (.int p2), (.int p3), (.int p4)] h (fun v h' L => v = some (.int 1) ∧ Fr n0 L) := by
  have hws : ∀ d ∈ StrChars.Road.words, d.before a0 Z = true := fun d hd => hw d ((by decide +kernel : ∀ d ∈ StrChars.Road.words, d ∈ tables_1) d hd)
  refine Ct.mk (plainFor_of_name pnL) (fun m => efL m p1 p2 p3 p4) ?_
  intro p e s m below meth c s₁ B X0 e0
  refine Go.iloadN B X0 at_0 (pc' := 1) rfl rfl ?_
  refine Go.ldcI B X0 (tw hw 0 rfl) at_1 (pc' := 3) rfl ?_
  refine Go.iand B X0 at_3 (pc' := 4) rfl ?_
  refine Go.iconst B X0 1 at_4 (pc' := 5) rfl rfl ?_
  refine Go.iadd B X0 at_5 (pc' := 6) rfl ?_
  refine Go.istore B X0 at_6 (pc' := 8) rfl rfl rfl ?_
  dsimp only [put1]
  generalize hd : (p2 &&& 65535) + 1 = d
  refine Go.iloadN B X0 at_8 (pc' := 9) rfl rfl ?_
  refine Go.ldcI B X0 (tw hw 1 rfl) at_9 (pc' := 11) rfl ?_
  refine Go.iand B X0 at_11 (pc' := 12) rfl ?_
  refine Go.iload B X0 at_12 (pc' := 14) rfl rfl ?_
  refine Go.iconst B X0 1 at_14 (pc' := 15) rfl rfl ?_
  refine Go.iadd B X0 at_15 (pc' := 16) rfl ?_
  obtain ⟨o1, o2, o3, o4⟩ := own_dk p1 p2 d _ hd rfl
  refine Go.irem B X0 at_16 (pc' := 17) rfl o1 ?_
  generalize hk : (p1 &&& 2147483647) % (d + 1) = k at *
  have sm : ∀ x : Int32, FP.Core.Small53 x.toInt64 := fun x => by
    have h := rng32 x
    have e := c_i2l x
    unfold FP.Core.Small53
    omega
  have q0 : P01 (FP.ddiv (FP.i2d k) (FP.i2d d)) := by
    rw [i2d_w, i2d_w]
    exact own_p (by rw [c_i2l]; exact o3) (by rw [c_i2l]; exact o2) (sm k) (sm d) (by rw [c_i2l, c_i2l]; exact o4)
  refine Go.istore B X0 at_17 (pc' := 19) rfl rfl rfl ?_
  dsimp only [put1]
  refine Go.iload B X0 at_19 (pc' := 21) rfl rfl ?_
  refine Go.i2d B X0 at_21 (pc' := 22) rfl ?_
  refine Go.iload B X0 at_22 (pc' := 24) rfl rfl ?_
  refine Go.i2d B X0 at_24 (pc' := 25) rfl ?_
  refine Go.ddiv B X0 at_25 (pc' := 26) rfl (own_nn q0) ?_
  refine Go.dstore B X0 at_26 (pc' := 28) rfl rfl rfl rfl rfl ?_
  dsimp only [put1]
  have tail : ∀ y : UInt64, P01 y → Go p e below (End s 16 128 (fun v h' L => v = some (.int 1) ∧ Fr n0 L)) (s₁.setTop (fr m 44 [.val (.int p1), .val (.int p2), .val (.int p3), .val (.int p4), .val (.int d), .val (.int k), .val (.double y), .second, .unset, .unset, .unset, .unset] [])) := by
    intro y hP
    refine Go.iconst B X0 2 at_44 (pc' := 45) rfl rfl ?_
    refine Go.newP B X0 e0 2 (tw hw 2 rfl) at_45 (pc' := 47) rfl rfl nb nb nb ?_
    intro T1 h1 b gb X1 e1 E1 A1'
    have A1 : Av Z h1 b .char [.int 0, .int 0] := A1'
    refine Go.astore B X1 at_47 (pc' := 49) rfl rfl rfl rfl ?_
    dsimp only [put1]
    refine Go.aload B X1 at_49 (pc' := 51) rfl rfl rfl ?_
    refine Go.iconst B X1 0 at_51 (pc' := 52) rfl rfl ?_
    refine Go.iloadN B X1 at_52 (pc' := 53) rfl rfl ?_
    refine Go.sipush B X1 255 at_53 (pc' := 56) rfl rfl ?_
    refine Go.iand B X1 at_56 (pc' := 57) rfl ?_
    refine Go.i2c B X1 at_57 (pc' := 58) rfl ?_
    refine Go.castore B X1 e1 A1 0 at_58 (pc' := 59) rfl rfl nl ?_
    intro T2 h2 L2 F2 X2 e2 W2 A2'
    have A2 := A2'
    dsimp only [List.set] at A2
    refine Go.aload B X2 at_59 (pc' := 61) rfl rfl rfl ?_
    refine Go.iconst B X2 1 at_61 (pc' := 62) rfl rfl ?_
    refine Go.iloadN B X2 at_62 (pc' := 63) rfl rfl ?_
    refine Go.bipush B X2 8 at_63 (pc' := 65) rfl rfl ?_
    refine Go.iushr B X2 at_65 (pc' := 66) rfl ?_
    refine Go.sipush B X2 255 at_66 (pc' := 69) rfl rfl ?_
    refine Go.iand B X2 at_69 (pc' := 70) rfl ?_
    refine Go.i2c B X2 at_70 (pc' := 71) rfl ?_
    refine Go.castore B X2 e2 A2 1 at_71 (pc' := 72) rfl rfl nl ?_
    intro T3 h3 L3 F3 X3 e3 W3 A3'
    have A3 := A3'
    dsimp only [List.set] at A3
    refine Go.newO B X3 e3 (tw hw 3 rfl) (tw hw 4 rfl) (tw hw 5 rfl) at_72 (pc' := 75) rfl nb nb ?_
    intro T4 h4 a ga X4 e4 E4 Ex4 D4
    refine Go.dup B X4 at_75 (pc' := 76) rfl rfl ?_
    refine Go.aload B X4 at_76 (pc' := 78) rfl rfl rfl ?_
    have V4 : Fld Z h4 a "java/lang/String" "value" "[B" .null := D4 (Or.inr (tw hw 31 rfl)) (ty := .array .byte) (by decide)
    have C4 : Fld Z h4 a "java/lang/String" "coder" "B" (.int 0) := D4 (Or.inr (tw hw 29 rfl)) (ty := .byte) (by decide)
    obtain ⟨kC, K4⟩ := (A3.ext E4).arv (.int 0)
    have S4 := (((S0.ext E1).wr W2).wr W3).ext E4
    have z1 : n0 ≤ b := by rw [gb]; exact Z0
    have z3 : n0 ≤ h3.size := Nat.le_trans Z0 (Nat.le_trans E1.1 (Nat.le_trans (Keep.of_wr W2).1 (Keep.of_wr W3).1))
    have hp : ∀ c ∈ ([nar .char ((p3 &&& (255 : Int32)).toUInt32.toUInt16.toUInt32.toInt32), nar .char (((p3.toUInt32 >>> ((8 : Int32) &&& 31).toUInt32).toInt32 &&& (255 : Int32)).toUInt32.toUInt16.toUInt32.toInt32)] : List Int32), ¬ c < 0 ∧ ¬ (255 : Int32) < c := by
      intro c hc
      simp only [List.mem_cons, List.not_mem_nil, or_false] at hc
      rcases hc with rfl | rfl
      · exact and255 _
      · exact and255 _
    refine Go.callI B X4 e4 (y := ⟨"java/lang/String", "<init>", "([C)V"⟩) rfl (StrChars.Road.backV (W := 1) B.hZ hws (kI := 4) (tw hw 4 rfl) (cs := [_, _]) (n := 2) (by rw [ga]; exact z3) (Nat.le_trans z3 E4.1) Ex4 V4 C4 K4 S4 P5 rfl rfl (by decide) (by decide) hp rfl nb nb) (tw hw 6 rfl) (tw hw 7 rfl) (tw hw 8 rfl) (by decide) pdS at_78 (pc' := 81) rfl rfl (as := [.ref b]) (rest := [.ref a]) rfl rfl nb nb nb ?_
    intro v5 T5 L5 X5 Q5
    obtain ⟨rfl, N5, K5, -⟩ := Q5
    dsimp only [Option.toList, List.nil_append]
    refine Go.astore B X5 at_81 (pc' := 83) rfl rfl rfl rfl ?_
    dsimp only [put1]
    refine Go.dload B X5 at_83 (pc' := 85) rfl rfl ?_
    refine Go.aload B X5 at_85 (pc' := 87) rfl rfl rfl ?_
    refine Go.callS B X5 rfl (Ct.back (W := 0) (ctC l Z a0 hw y a T5.heap n0 hP) B.hZ (tw hw 35 rfl) (tw hw 34 rfl) nb nb) (tw hw 32 rfl) (tw hw 33 rfl) (tw hw 34 rfl) (tw hw 35 rfl) (by decide) pdC at_87 (pc' := 90) rfl rfl (rest := []) rfl rfl nb nb nb ?_
    intro v6 T6 L6 X6 Q6
    obtain ⟨rfl, N6, -⟩ := Q6
    dsimp only [Option.toList, List.nil_append, List.cons_append]
    refine Go.dstore B X6 at_90 (pc' := 92) rfl rfl rfl rfl rfl ?_
    dsimp only [put1]
    refine Go.dload B X6 at_92 (pc' := 94) rfl rfl ?_
    refine Go.dload B X6 at_94 (pc' := 96) rfl rfl ?_
    refine Go.dcmp B X6 at_96 (pc' := 97) rfl ?_
    refine Go.ifF B X6 at_97 (pc' := 100) rfl hP.self ?_
    refine Go.dload B X6 at_100 (pc' := 102) rfl rfl ?_
    refine Go.dconst0 B X6 at_102 (pc' := 103) rfl ?_
    refine Go.dcmp B X6 at_103 (pc' := 104) rfl ?_
    refine Go.ifF B X6 at_104 (pc' := 107) rfl hP.ge ?_
    refine Go.dload B X6 at_107 (pc' := 109) rfl rfl ?_
    refine Go.dconst1 B X6 at_109 (pc' := 110) rfl ?_
    refine Go.dcmp B X6 at_110 (pc' := 111) rfl ?_
    refine Go.ifF B X6 at_111 (pc' := 114) rfl hP.le ?_
    refine Go.iconst B X6 1 at_114 (pc' := 115) rfl rfl ?_
    refine Go.goto B X6 at_115 (by decide) (pc' := 119) rfl ?_
    exact Go.zret B X6 at_119 rfl nb nb ⟨rfl, Fr.app (Fr.app (Fr.app (Fr.app (Fr.nil _) (GoKit.Fr.low F2 z1)) (GoKit.Fr.low F3 z1)) N5) N6⟩
  refine Go.iload B X0 at_28 (pc' := 30) rfl rfl ?_
  refine Go.ifc B X0 at_30 (by decide) (pcT := 44) rfl (pc' := 33) rfl (fun hc => ?_) (fun hc => ?_)
  · dsimp only [GoKit.CP] at hc
    exact tail _ q0
  · dsimp only [GoKit.CN] at hc
    have hk0 : k = 0 := hc
    subst hk0
    refine Go.iloadN B X0 at_33 (pc' := 34) rfl rfl ?_
    refine Go.iconst B X0 1 at_34 (pc' := 35) rfl rfl ?_
    refine Go.iand B X0 at_35 (pc' := 36) rfl ?_
    refine Go.ifc B X0 at_36 (by decide) (pcT := 44) rfl (pc' := 39) rfl (fun hc2 => ?_) (fun hc2 => ?_)
    · dsimp only [GoKit.CP] at hc2
      exact tail _ q0
    · dsimp only [GoKit.CN] at hc2
      refine Go.dload B X0 at_39 (pc' := 41) rfl rfl ?_
      refine Go.dneg B X0 at_41 (pc' := 42) rfl ?_
      refine Go.dstore B X0 at_42 (pc' := 44) rfl rfl rfl rfl rfl ?_
      dsimp only [put1]
      refine tail _ ?_
      have q2 := own_p0 (D := d.toInt64) (by rw [c_i2l]; exact o2) (sm d)
      rw [i2d_w, i2d_w]
      exact q2
set_option maxRecDepth 65536 in
set_option maxHeartbeats 40000000 in
theorem comes_1 {Post : Tables → Env → Array Value → State → Outcome → State → Prop} (hpost : ∀ tb e args s v u, (limb_1_1.after args s (.returned v) u = true ∧ limb_1_2.after args s (.returned v) u = true ∧ True) → FrameEnd s (.returned v) u (Jvm.fieldLocs frame_1_writes args s ++ Jvm.arrayLocs frame_1_arrays args s ++ Jvm.staticLocs frame_1_statics s) 16 128 → Post tb e args s (.returned v) u) :
    ArmFor flags0 classFile x code maxLocals ret World_1 tables_1 room_1 Calls_1 rest_1 Pre_1 Post := by
  intro l hfl _ _ p e ha hc hk s m args below hf hA hF happ hP
  obtain ⟨hcalls, hrest, hpre⟩ := hP
  obtain ⟨-, -, -, hnamed, -, -, -, hat⟩ := (Spec.applies_iff hf).mp happ
  obtain ⟨hg, hn⟩ := and_e (Cond.before_iff.mp (show (Jvm.Cond.and given_1 narrow_1).before args s = true from hpre))
  obtain ⟨g0, k0⟩ := and_e hg
  obtain ⟨g1, k1⟩ := and_e k0
  obtain ⟨g2, k2⟩ := and_e k1
  obtain ⟨g3, k3⟩ := and_e k2
  obtain ⟨w0, w1, w2, w3, rfl⟩ : ∃ w0 w1 w2 w3 : Value, args = #[w0, w1, w2, w3] := by
    have hs : args.size = 4 := by simpa [Cond.value, given_1] using g0
    obtain ⟨L⟩ := args
    match L, hs with
    | [w0, w1, w2, w3], _ => exact ⟨w0, w1, w2, w3, rfl⟩
  have hw := fun d (hd : d ∈ tables_1) => atoms_spec (ws := Jvm.Cond.code x code maxLocals ret :: tables_1) hat d (List.mem_cons_of_mem _ hd)
  have hfit : Fit s := fun {y c} hc i hi => by
    obtain ⟨ha, rfl⟩ := Array.getElem?_eq_some_iff.mp hc
    have q := List.all_eq_true.mp ((Array.all_eq_true_iff_forall_mem.mp hF) _ (Array.getElem_mem ha)) i (List.mem_range.mpr hi)
    simpa [Array.getElem?_eq_getElem hi] using q
  obtain ⟨i0, t0⟩ := is_v g1
  obtain rfl : w0 = (.int i0) := Option.some.inj t0
  obtain ⟨i1, t1⟩ := is_v g2
  obtain rfl : w1 = (.int i1) := Option.some.inj t1
  obtain ⟨i2, t2⟩ := is_v g3
  obtain rfl : w2 = (.int i2) := Option.some.inj t2
  obtain ⟨i3, t3⟩ := is_v k3
  obtain rfl : w3 = (.int i3) := Option.some.inj t3
  obtain ⟨hsets, hown0⟩ := atoms_of _ (rest_1_c_eq ▸ (show rest_1_c.before _ s = true from hrest))
  have n_cs := not_v (Cond.before_iff.mp (hsets _ (List.mem_of_getElem? (i := 2) rfl)))
  obtain ⟨i_cs, t_cs⟩ := is_v (Cond.before_iff.mp (hsets _ (List.mem_of_getElem? (i := 1) rfl)))
  have S_cs : Sta s s.heap "java/lang/String" "COMPACT_STRINGS" "Z" (.int i_cs) := Sta.start t_cs (Or.inl (hsets _ (List.mem_of_getElem? (i := 0) rfl)))
  obtain ⟨v_sf, t_sf, r_sf⟩ := isR_v (Cond.before_iff.mp (hsets _ (List.mem_of_getElem? (i := 8) rfl)))
  have S_sf : Sta s s.heap "jdk/internal/util/Preconditions" "SIOOBE_FORMATTER" "Ljava/util/function/BiFunction;" v_sf := Sta.start t_sf (Or.inl (hsets _ (List.mem_of_getElem? (i := 7) rfl)))
  have c_cs : ¬ (i_cs = (0 : Int32)) := gotF (Cond.eq_ints t_cs (Term.int_eval (0))) n_cs
  obtain ⟨n, o, h1, h2, h3, _, L, rfl, ⟨rfl, N⟩, hq⟩ := ctL l s _ hw i0 i1 i2 i3 i_cs s.heap s.heap.size (Nat.le_refl _) S_cs c_cs p e ha hc hk s m _ below hf ((Spec.applies_iff_loose hf).mp happ).1 ⟨rfl, State.Warmed39.refl s, rfl⟩ trivial
  refine ⟨n, _, h1, h2, h3, hpost _ _ _ _ _ _ ⟨Cond.after_iff.mpr rfl, Cond.after_iff.mpr (eq_i res_at (Term.int_eval (1)) rfl), trivial⟩ ⟨hq.1, hq.2.1, (hq.2.2.sift fun y hy => Or.inr (N y hy)).mono (by decide) (by decide)⟩⟩
theorem main_1_1 : Claimed_1_1 := comes_1 fun _ _ _ _ _ _ h hF => ⟨h.1, hF⟩
theorem main_1_2 : Claimed_1_2 := comes_1 fun _ _ _ _ _ _ h hF => ⟨h.2.1, hF⟩
end Jvm.Pilot.@@N@@
namespace Jvm.Pilot.@@N@@
open Jvm Jvm.ClassFile Sem Op Lib Jvm.Free Jvm.Stand Jvm.Pilot.@@N@@.Jvm.D
/-! MADE BY PROGRAM (witnessworld.py) out of the Statement's table words and the real class files: 20 classes; the members and pool entries that the words name. The judged class is class 1, her method 1. -/
namespace start1
open Jvm.ClassFile
def u (s : String) : CpInfo := .utf8 (stringToUtf16 s)
/-- a pool by its gaps: so many unusable entries, then the entry; so many at the end -/
def gap : Nat → List CpInfo → List CpInfo
  | 0, r => r
  | n + 1, r => .unusable :: gap n r
def poolList (es : List (Nat × CpInfo)) (last : Nat) : List CpInfo := es.foldr (fun e r => gap e.1 (e.2 :: r)) (gap last [])
def pool (es : List (Nat × CpInfo)) (last : Nat) : Array CpInfo := ⟨poolList es last⟩
def fileOf (pool : Array CpInfo) (this : Nat) (attrs : Array Attribute := #[]) (ms : Array MethodInfo := #[]) (fl : Nat := 33) (sup : Nat := 0) (ifs : Array Nat := #[]) (fds : Array FieldInfo := #[]) : ClassFile where
  minorVersion := 0
  majorVersion := 65
  constantPool := pool
  accessFlags := fl
  thisClass := this
  superClass := sup
  interfaces := ifs
  fields := fds
  methods := ms
  attributes := attrs
def plain (name : String) (sup : Option ClassId) : Class where
  name := name
  kind := .ordinary
  loader := none
  accessFlags := 33
  super := sup
  interfaces := #[]
  cf := none
  fields := #[]
  methods := #[]
  instanceTypes := #[]
  staticTypes := #[]
  resolved := #[]
  callSites := []
  init := .initialized
  statics := none
  mirror := none

def pool0 : Array CpInfo := pool [(5, u "<init>"), (0, u "()V"), (1, .class_ 10), (1, u "java/lang/Object")] 113

def k0c0 : Code := { maxStack := 0, maxLocals := 1, code := object_method_1_code, exceptionTable := #[], attributes := #[] }
def k0m0 : Method := { name := "<init>", desc := "()V", sig := { parameters := [], returnType := none }, accessFlags := 1, code := some k0c0 }
/-- java/lang/Object -/
def k0 : Class := { plain "java/lang/Object" none with
  accessFlags := 33
  interfaces := #[]
  cf := some (fileOf pool0 8 #[] #[{ accessFlags := 1, nameIndex := 5, descriptorIndex := 6, attributes := #[] }] 33 0 #[] #[])
  fields := #[]
  methods := #[k0m0]
  instanceTypes := #[]
  staticTypes := #[]
  resolved := Array.replicate 124 none
  statics := none }

def pool1 : Array CpInfo := pool [(2, .class_ 4), (1, u "java/lang/Object"), (0, u "<init>"), (0, u "()V"), (0, .integer 65535), (0, .integer 2147483647), (0, .class_ 10), (0, u "java/lang/String"), (0, .methodref 9 12), (0, .nameAndType 5 13), (0, u "([C)V"), (0, .methodref 15 16), (0, .class_ 17), (0, .nameAndType 18 19), (0, u "com/example/parley/parley/algorithm/Probabilities"), (0, u "checked"), (0, u "(DLjava/lang/String;)D"), (0, .class_ 21), (0, u "com/example/parley/parley/algorithm/ProbabilitiesCheckedPinLaw"), (2, u "law"), (0, u "(IIII)Z")] 5

def k1m0 : Method := { name := "<init>", desc := "()V", sig := { parameters := [], returnType := none }, accessFlags := 2, code := none }
def k1c1 : Code := { maxStack := 4, maxLocals := 12, code := code, exceptionTable := #[], attributes := #[] }
def k1m1 : Method := { name := "law", desc := "(IIII)Z", sig := { parameters := [.int, .int, .int, .int], returnType := some .boolean }, accessFlags := 9, code := some k1c1 }
/-- com/example/parley/parley/algorithm/ProbabilitiesCheckedPinLaw -/
def k1 : Class := { plain "com/example/parley/parley/algorithm/ProbabilitiesCheckedPinLaw" (some 0) with
  accessFlags := 49
  interfaces := #[]
  cf := some (fileOf pool1 20 #[] #[{ accessFlags := 2, nameIndex := 5, descriptorIndex := 6, attributes := #[] }, { accessFlags := 9, nameIndex := 24, descriptorIndex := 25, attributes := #[] }] 49 2 #[] #[])
  fields := #[]
  methods := #[k1m0, k1m1]
  instanceTypes := #[]
  staticTypes := #[]
  resolved := Array.replicate 31 none
  statics := none }

def pool2 : Array CpInfo := pool [(1, .class_ 2), (0, u "java/io/Serializable"), (0, .class_ 4), (0, u "java/lang/Object")] 2

/-- java/io/Serializable -/
def k2 : Class := { plain "java/io/Serializable" (some 0) with
  accessFlags := 1537
  interfaces := #[]
  cf := some (fileOf pool2 1 #[] #[] 1537 3 #[] #[])
  fields := #[]
  methods := #[]
  instanceTypes := #[]
  staticTypes := #[]
  resolved := Array.replicate 7 none
  statics := none }

def pool3 : Array CpInfo := pool [(1, .class_ 2), (0, u "java/lang/Comparable"), (0, .class_ 4), (0, u "java/lang/Object")] 7

/-- java/lang/Comparable -/
def k3 : Class := { plain "java/lang/Comparable" (some 0) with
  accessFlags := 1537
  interfaces := #[]
  cf := some (fileOf pool3 1 #[] #[] 1537 3 #[] #[])
  fields := #[]
  methods := #[]
  instanceTypes := #[]
  staticTypes := #[]
  resolved := Array.replicate 12 none
  statics := none }

def pool4 : Array CpInfo := pool [(2, .class_ 4), (1, u "java/lang/CharSequence"), (42, .class_ 48), (0, u "java/lang/CharSequence$1CodePointIterator"), (10, .class_ 60), (0, u "java/lang/CharSequence$1CharIterator"), (5, .class_ 67), (0, u "java/lang/Object")] 63

/-- java/lang/CharSequence -/
def k4 : Class := { plain "java/lang/CharSequence" (some 0) with
  accessFlags := 1537
  interfaces := #[]
  cf := some (fileOf pool4 2 #[.nestMembers #[47, 59]] #[] 1537 66 #[] #[])
  fields := #[]
  methods := #[]
  instanceTypes := #[]
  staticTypes := #[]
  resolved := Array.replicate 131 none
  statics := none }

def pool5 : Array CpInfo := pool [(1, .class_ 2), (0, u "java/lang/constant/Constable"), (0, .class_ 4), (0, u "java/lang/Object")] 6

/-- java/lang/constant/Constable -/
def k5 : Class := { plain "java/lang/constant/Constable" (some 0) with
  accessFlags := 1537
  interfaces := #[]
  cf := some (fileOf pool5 1 #[] #[] 1537 3 #[] #[])
  fields := #[]
  methods := #[]
  instanceTypes := #[]
  staticTypes := #[]
  resolved := Array.replicate 11 none
  statics := none }

def pool6 : Array CpInfo := pool [(1, .class_ 2), (0, u "java/lang/constant/ConstantDesc"), (0, .class_ 4), (0, u "java/lang/Object")] 32

/-- java/lang/constant/ConstantDesc -/
def k6 : Class := { plain "java/lang/constant/ConstantDesc" (some 0) with
  accessFlags := 1537
  interfaces := #[]
  cf := some (fileOf pool6 1 #[] #[] 1537 3 #[] #[])
  fields := #[]
  methods := #[]
  instanceTypes := #[]
  staticTypes := #[]
  resolved := Array.replicate 37 none
  statics := none }

def pool7 : Array CpInfo := pool [(1, .methodref 2 3), (0, .class_ 4), (0, .nameAndType 5 6), (0, u "java/lang/Object"), (0, u "<init>"), (0, u "()V"), (2, .fieldref 10 11), (0, .class_ 12), (0, .nameAndType 13 14), (0, u "java/lang/String"), (0, u "value"), (0, u "[B"), (0, .fieldref 10 16), (0, .nameAndType 17 18), (0, u "coder"), (0, u "B"), (2, u "hash"), (0, u "I"), (2, u "hashIsZero"), (0, u "Z"), (0, .methodref 10 28), (0, .nameAndType 5 29), (0, u "([CIILjava/lang/Void;)V"), (8, .fieldref 10 39), (0, .nameAndType 40 26), (0, u "COMPACT_STRINGS"), (1, .class_ 44), (1, u "java/lang/StringUTF16"), (0, u "compress"), (1, .methodref 42 48), (0, .nameAndType 49 50), (0, u "coderFromArrayLen"), (0, u "([BI)B"), (126, .methodref 42 178), (0, .nameAndType 45 179), (0, u "([CII)[B"), (395, .class_ 576), (0, u "java/lang/CharSequence"), (22, u "CASE_INSENSITIVE_ORDER"), (0, u "Ljava/util/Comparator;"), (409, u "([C)V"), (90, u "serialPersistentFields"), (0, u "[Ljava/io/ObjectStreamField;"), (0, .class_ 1104), (0, u "java/lang/String$CaseInsensitiveComparator"), (1, .class_ 1107), (0, u "java/io/Serializable"), (0, .class_ 1109), (0, u "java/lang/Comparable"), (0, .class_ 1111), (0, u "java/lang/constant/Constable"), (0, .class_ 1113), (0, u "java/lang/constant/ConstantDesc"), (2, u "serialVersionUID"), (0, u "J"), (3, u "REPL"), (0, u "C"), (2, u "LATIN1"), (1, u "UTF16")] 323

def k7m0 : Method := { name := "<init>", desc := "()V", sig := { parameters := [], returnType := none }, accessFlags := 1, code := none }
def k7c1 : Code := { maxStack := 5, maxLocals := 2, code := jdk_42_method_3_code, exceptionTable := #[], attributes := #[] }
def k7m1 : Method := { name := "<init>", desc := "([C)V", sig := { parameters := [(.array .char)], returnType := none }, accessFlags := 1, code := some k7c1 }
def k7c2 : Code := { maxStack := 4, maxLocals := 6, code := jdk_42_method_149_code, exceptionTable := #[], attributes := #[] }
def k7m2 : Method := { name := "<init>", desc := "([CIILjava/lang/Void;)V", sig := { parameters := [(.array .char), .int, .int, (.object "java/lang/Void")], returnType := none }, accessFlags := 2, code := some k7c2 }
/-- java/lang/String -/
def k7 : Class := { plain "java/lang/String" (some 0) with
  accessFlags := 49
  interfaces := #[2, 3, 4, 5, 6]
  cf := some (fileOf pool7 10 #[.nestMembers #[1103]] #[{ accessFlags := 1, nameIndex := 5, descriptorIndex := 6, attributes := #[] }, { accessFlags := 1, nameIndex := 5, descriptorIndex := 1010, attributes := #[] }, { accessFlags := 2, nameIndex := 5, descriptorIndex := 29, attributes := #[] }] 49 2 #[1106, 1108, 575, 1110, 1112] #[{ accessFlags := 18, nameIndex := 13, descriptorIndex := 14, attributes := #[] }, { accessFlags := 18, nameIndex := 17, descriptorIndex := 18, attributes := #[] }, { accessFlags := 2, nameIndex := 21, descriptorIndex := 22, attributes := #[] }, { accessFlags := 2, nameIndex := 25, descriptorIndex := 26, attributes := #[] }, { accessFlags := 26, nameIndex := 1116, descriptorIndex := 1117, attributes := #[] }, { accessFlags := 24, nameIndex := 40, descriptorIndex := 26, attributes := #[] }, { accessFlags := 26, nameIndex := 1101, descriptorIndex := 1102, attributes := #[] }, { accessFlags := 26, nameIndex := 1121, descriptorIndex := 1122, attributes := #[] }, { accessFlags := 25, nameIndex := 599, descriptorIndex := 600, attributes := #[] }, { accessFlags := 24, nameIndex := 1125, descriptorIndex := 18, attributes := #[] }, { accessFlags := 24, nameIndex := 1127, descriptorIndex := 18, attributes := #[] }])
  fields := #[{ name := "value", type := (.array .byte), accessFlags := 18, slot := 0, constantValue := 0 }, { name := "coder", type := .byte, accessFlags := 18, slot := 1, constantValue := 0 }, { name := "hash", type := .int, accessFlags := 2, slot := 2, constantValue := 0 }, { name := "hashIsZero", type := .boolean, accessFlags := 2, slot := 3, constantValue := 0 }, { name := "serialVersionUID", type := .long, accessFlags := 26, slot := 0, constantValue := 0 }, { name := "COMPACT_STRINGS", type := .boolean, accessFlags := 24, slot := 1, constantValue := 0 }, { name := "serialPersistentFields", type := (.array (.object "java/io/ObjectStreamField")), accessFlags := 26, slot := 2, constantValue := 0 }, { name := "REPL", type := .char, accessFlags := 26, slot := 3, constantValue := 0 }, { name := "CASE_INSENSITIVE_ORDER", type := (.object "java/util/Comparator"), accessFlags := 25, slot := 4, constantValue := 0 }, { name := "LATIN1", type := .byte, accessFlags := 24, slot := 5, constantValue := 0 }, { name := "UTF16", type := .byte, accessFlags := 24, slot := 6, constantValue := 0 }]
  methods := #[k7m0, k7m1, k7m2]
  instanceTypes := #[(.array .byte), .byte, .int, .boolean]
  staticTypes := #[.long, .boolean, (.array (.object "java/io/ObjectStreamField")), .char, (.object "java/util/Comparator"), .byte, .byte]
  resolved := Array.replicate 1451 none
  statics := some 0 }

def pool8 : Array CpInfo := pool [(6, .class_ 8), (1, u "java/lang/Object"), (0, u "<init>"), (0, u "()V"), (1, .class_ 14), (1, u "java/lang/StringUTF16"), (31, u "$assertionsDisabled"), (0, u "Z"), (13, u "HI_BYTE_SHIFT"), (0, u "I"), (2, u "LO_BYTE_SHIFT"), (49, .methodref 12 116), (0, .nameAndType 117 118), (0, u "compress"), (0, u "([CI[BII)I"), (3, u "([CII)[B"), (138, u "coderFromArrayLen"), (0, u "([BI)B"), (106, .class_ 371), (1, u "java/lang/StringUTF16$LinesSpliterator"), (58, u "MAX_LENGTH"), (196, .class_ 628), (0, u "java/lang/StringUTF16$CodePointsSpliterator"), (0, .class_ 630), (0, u "java/lang/StringUTF16$CharsSpliterator")] 4

def k8m0 : Method := { name := "<init>", desc := "()V", sig := { parameters := [], returnType := none }, accessFlags := 0, code := none }
def k8c1 : Code := { maxStack := 2, maxLocals := 2, code := jdk_52_method_15_code, exceptionTable := #[], attributes := #[] }
def k8m1 : Method := { name := "coderFromArrayLen", desc := "([BI)B", sig := { parameters := [(.array .byte), .int], returnType := some .byte }, accessFlags := 8, code := some k8c1 }
def k8c2 : Code := { maxStack := 5, maxLocals := 6, code := jdk_52_method_16_code, exceptionTable := #[], attributes := #[] }
def k8m2 : Method := { name := "compress", desc := "([CII)[B", sig := { parameters := [(.array .char), .int, .int], returnType := some (.array .byte) }, accessFlags := 9, code := some k8c2 }
def k8c3 : Code := { maxStack := 3, maxLocals := 7, code := jdk_52_method_21_code, exceptionTable := #[], attributes := #[] }
def k8m3 : Method := { name := "compress", desc := "([CI[BII)I", sig := { parameters := [(.array .char), .int, (.array .byte), .int, .int], returnType := some .int }, accessFlags := 9, code := some k8c3 }
/-- java/lang/StringUTF16 -/
def k8 : Class := { plain "java/lang/StringUTF16" (some 0) with
  accessFlags := 48
  interfaces := #[]
  cf := some (fileOf pool8 12 #[.nestMembers #[627, 629, 369]] #[{ accessFlags := 0, nameIndex := 9, descriptorIndex := 10, attributes := #[] }, { accessFlags := 8, nameIndex := 261, descriptorIndex := 262, attributes := #[] }, { accessFlags := 9, nameIndex := 117, descriptorIndex := 122, attributes := #[] }, { accessFlags := 9, nameIndex := 117, descriptorIndex := 118, attributes := #[] }] 48 6 #[] #[{ accessFlags := 26, nameIndex := 61, descriptorIndex := 62, attributes := #[] }, { accessFlags := 26, nameIndex := 65, descriptorIndex := 62, attributes := #[] }, { accessFlags := 24, nameIndex := 430, descriptorIndex := 62, attributes := #[] }, { accessFlags := 4120, nameIndex := 46, descriptorIndex := 47, attributes := #[] }])
  fields := #[{ name := "HI_BYTE_SHIFT", type := .int, accessFlags := 26, slot := 0, constantValue := 0 }, { name := "LO_BYTE_SHIFT", type := .int, accessFlags := 26, slot := 1, constantValue := 0 }, { name := "MAX_LENGTH", type := .int, accessFlags := 24, slot := 2, constantValue := 0 }, { name := "$assertionsDisabled", type := .boolean, accessFlags := 4120, slot := 3, constantValue := 0 }]
  methods := #[k8m0, k8m1, k8m2, k8m3]
  instanceTypes := #[]
  staticTypes := #[.int, .int, .int, .boolean]
  resolved := Array.replicate 635 none
  statics := none }

def pool9 : Array CpInfo := pool [(2, .class_ 4), (1, u "java/lang/Object"), (0, u "<init>"), (0, u "()V"), (9, .class_ 17), (0, u "com/example/parley/parley/algorithm/Probabilities"), (0, u "OFFER"), (0, u "Ljava/lang/String;"), (5, u "checked"), (0, u "(DLjava/lang/String;)D")] 18

def k9m0 : Method := { name := "<init>", desc := "()V", sig := { parameters := [], returnType := none }, accessFlags := 2, code := none }
def k9c1 : Code := { maxStack := 5, maxLocals := 3, code := prog_13_method_2_code, exceptionTable := #[], attributes := #[] }
def k9m1 : Method := { name := "checked", desc := "(DLjava/lang/String;)D", sig := { parameters := [.double, (.object "java/lang/String")], returnType := some .double }, accessFlags := 8, code := some k9c1 }
/-- com/example/parley/parley/algorithm/Probabilities -/
def k9 : Class := { plain "com/example/parley/parley/algorithm/Probabilities" (some 0) with
  accessFlags := 48
  interfaces := #[]
  cf := some (fileOf pool9 16 #[] #[{ accessFlags := 2, nameIndex := 5, descriptorIndex := 6, attributes := #[] }, { accessFlags := 8, nameIndex := 25, descriptorIndex := 26, attributes := #[] }] 48 2 #[] #[{ accessFlags := 24, nameIndex := 18, descriptorIndex := 19, attributes := #[] }])
  fields := #[{ name := "OFFER", type := (.object "java/lang/String"), accessFlags := 24, slot := 0, constantValue := 0 }]
  methods := #[k9m0, k9m1]
  instanceTypes := #[]
  staticTypes := #[(.object "java/lang/String")]
  resolved := Array.replicate 45 none
  statics := none }

def pool10 : Array CpInfo := pool [(4, .class_ 6), (1, u "java/lang/Object"), (0, u "<init>"), (0, u "()V"), (5, .class_ 16), (1, u "java/lang/StringLatin1"), (104, u "$assertionsDisabled"), (0, u "Z"), (98, .class_ 223), (1, u "java/lang/StringLatin1$LinesSpliterator"), (166, .class_ 391), (0, u "java/lang/StringLatin1$CharsSpliterator")] 3

def k10m0 : Method := { name := "<init>", desc := "()V", sig := { parameters := [], returnType := none }, accessFlags := 0, code := none }
/-- java/lang/StringLatin1 -/
def k10 : Class := { plain "java/lang/StringLatin1" (some 0) with
  accessFlags := 48
  interfaces := #[]
  cf := some (fileOf pool10 14 #[.nestMembers #[390, 221]] #[{ accessFlags := 0, nameIndex := 7, descriptorIndex := 8, attributes := #[] }] 48 4 #[] #[{ accessFlags := 4120, nameIndex := 121, descriptorIndex := 122, attributes := #[] }])
  fields := #[{ name := "$assertionsDisabled", type := .boolean, accessFlags := 4120, slot := 0, constantValue := 0 }]
  methods := #[k10m0]
  instanceTypes := #[]
  staticTypes := #[.boolean]
  resolved := Array.replicate 395 none
  statics := none }

def pool11 : Array CpInfo := pool [(2, .class_ 4), (1, u "java/lang/Object"), (0, u "<init>"), (0, u "()V"), (17, .class_ 26), (1, u "jdk/internal/util/Preconditions"), (28, .class_ 56), (0, u "jdk/internal/util/Preconditions$4"), (57, .class_ 115), (0, u "jdk/internal/util/Preconditions$1"), (7, u "SIOOBE_FORMATTER"), (0, u "Ljava/util/function/BiFunction;"), (0, .class_ 126), (0, u "jdk/internal/util/Preconditions$2"), (3, u "AIOOBE_FORMATTER"), (0, .class_ 132), (0, u "jdk/internal/util/Preconditions$3"), (3, u "IOOBE_FORMATTER")] 57

def k11m0 : Method := { name := "<init>", desc := "()V", sig := { parameters := [], returnType := none }, accessFlags := 1, code := none }
/-- jdk/internal/util/Preconditions -/
def k11 : Class := { plain "jdk/internal/util/Preconditions" (some 0) with
  accessFlags := 33
  interfaces := #[]
  cf := some (fileOf pool11 24 #[.nestMembers #[55, 131, 125, 114]] #[{ accessFlags := 1, nameIndex := 5, descriptorIndex := 6, attributes := #[] }] 33 2 #[] #[{ accessFlags := 25, nameIndex := 123, descriptorIndex := 124, attributes := #[] }, { accessFlags := 25, nameIndex := 130, descriptorIndex := 124, attributes := #[] }, { accessFlags := 25, nameIndex := 136, descriptorIndex := 124, attributes := #[] }])
  fields := #[{ name := "SIOOBE_FORMATTER", type := (.object "java/util/function/BiFunction"), accessFlags := 25, slot := 0, constantValue := 0 }, { name := "AIOOBE_FORMATTER", type := (.object "java/util/function/BiFunction"), accessFlags := 25, slot := 1, constantValue := 0 }, { name := "IOOBE_FORMATTER", type := (.object "java/util/function/BiFunction"), accessFlags := 25, slot := 2, constantValue := 0 }]
  methods := #[k11m0]
  instanceTypes := #[]
  staticTypes := #[(.object "java/util/function/BiFunction"), (.object "java/util/function/BiFunction"), (.object "java/util/function/BiFunction")]
  resolved := Array.replicate 194 none
  statics := some 1 }

def pool12 : Array CpInfo := pool [(9, u "<init>"), (6, .class_ 18), (1, u "java/lang/Object"), (0, u "()V"), (1, .class_ 23), (1, u "jdk/internal/util/ArraysSupport"), (0, u "LOG2_ARRAY_LONG_INDEX_SCALE"), (0, u "I"), (2, u "U"), (0, u "Ljdk/internal/misc/Unsafe;"), (8, u "BIG_ENDIAN"), (0, u "Z"), (8, u "LOG2_BYTE_BIT_SIZE"), (4, u "LOG2_ARRAY_INT_INDEX_SCALE"), (54, u "JLA"), (0, u "Ljdk/internal/access/JavaLangAccess;"), (11, u "LOG2_ARRAY_BOOLEAN_INDEX_SCALE"), (9, u "LOG2_ARRAY_BYTE_INDEX_SCALE"), (5, u "LOG2_ARRAY_CHAR_INDEX_SCALE"), (5, u "LOG2_ARRAY_SHORT_INDEX_SCALE"), (18, u "LOG2_ARRAY_FLOAT_INDEX_SCALE"), (24, u "LOG2_ARRAY_DOUBLE_INDEX_SCALE"), (89, u "T_BOOLEAN"), (2, u "T_CHAR"), (1, u "T_FLOAT"), (1, u "T_DOUBLE"), (1, u "T_BYTE"), (1, u "T_SHORT"), (1, u "T_INT"), (1, u "T_LONG"), (1, u "SOFT_MAX_ARRAY_LENGTH")] 83

def k12m0 : Method := { name := "<init>", desc := "()V", sig := { parameters := [], returnType := none }, accessFlags := 2, code := none }
/-- jdk/internal/util/ArraysSupport -/
def k12 : Class := { plain "jdk/internal/util/ArraysSupport" (some 0) with
  accessFlags := 33
  interfaces := #[]
  cf := some (fileOf pool12 21 #[] #[{ accessFlags := 2, nameIndex := 9, descriptorIndex := 19, attributes := #[] }] 33 16 #[] #[{ accessFlags := 24, nameIndex := 28, descriptorIndex := 29, attributes := #[] }, { accessFlags := 26, nameIndex := 38, descriptorIndex := 39, attributes := #[] }, { accessFlags := 25, nameIndex := 121, descriptorIndex := 25, attributes := #[] }, { accessFlags := 25, nameIndex := 131, descriptorIndex := 25, attributes := #[] }, { accessFlags := 25, nameIndex := 137, descriptorIndex := 25, attributes := #[] }, { accessFlags := 25, nameIndex := 143, descriptorIndex := 25, attributes := #[] }, { accessFlags := 25, nameIndex := 53, descriptorIndex := 25, attributes := #[] }, { accessFlags := 25, nameIndex := 24, descriptorIndex := 25, attributes := #[] }, { accessFlags := 25, nameIndex := 162, descriptorIndex := 25, attributes := #[] }, { accessFlags := 25, nameIndex := 187, descriptorIndex := 25, attributes := #[] }, { accessFlags := 26, nameIndex := 48, descriptorIndex := 25, attributes := #[] }, { accessFlags := 25, nameIndex := 277, descriptorIndex := 25, attributes := #[] }, { accessFlags := 25, nameIndex := 280, descriptorIndex := 25, attributes := #[] }, { accessFlags := 25, nameIndex := 282, descriptorIndex := 25, attributes := #[] }, { accessFlags := 25, nameIndex := 284, descriptorIndex := 25, attributes := #[] }, { accessFlags := 25, nameIndex := 286, descriptorIndex := 25, attributes := #[] }, { accessFlags := 25, nameIndex := 288, descriptorIndex := 25, attributes := #[] }, { accessFlags := 25, nameIndex := 290, descriptorIndex := 25, attributes := #[] }, { accessFlags := 25, nameIndex := 292, descriptorIndex := 25, attributes := #[] }, { accessFlags := 26, nameIndex := 108, descriptorIndex := 109, attributes := #[] }, { accessFlags := 25, nameIndex := 294, descriptorIndex := 25, attributes := #[] }])
  fields := #[{ name := "U", type := (.object "jdk/internal/misc/Unsafe"), accessFlags := 24, slot := 0, constantValue := 0 }, { name := "BIG_ENDIAN", type := .boolean, accessFlags := 26, slot := 1, constantValue := 0 }, { name := "LOG2_ARRAY_BOOLEAN_INDEX_SCALE", type := .int, accessFlags := 25, slot := 2, constantValue := 0 }, { name := "LOG2_ARRAY_BYTE_INDEX_SCALE", type := .int, accessFlags := 25, slot := 3, constantValue := 0 }, { name := "LOG2_ARRAY_CHAR_INDEX_SCALE", type := .int, accessFlags := 25, slot := 4, constantValue := 0 }, { name := "LOG2_ARRAY_SHORT_INDEX_SCALE", type := .int, accessFlags := 25, slot := 5, constantValue := 0 }, { name := "LOG2_ARRAY_INT_INDEX_SCALE", type := .int, accessFlags := 25, slot := 6, constantValue := 0 }, { name := "LOG2_ARRAY_LONG_INDEX_SCALE", type := .int, accessFlags := 25, slot := 7, constantValue := 0 }, { name := "LOG2_ARRAY_FLOAT_INDEX_SCALE", type := .int, accessFlags := 25, slot := 8, constantValue := 0 }, { name := "LOG2_ARRAY_DOUBLE_INDEX_SCALE", type := .int, accessFlags := 25, slot := 9, constantValue := 0 }, { name := "LOG2_BYTE_BIT_SIZE", type := .int, accessFlags := 26, slot := 10, constantValue := 0 }, { name := "T_BOOLEAN", type := .int, accessFlags := 25, slot := 11, constantValue := 0 }, { name := "T_CHAR", type := .int, accessFlags := 25, slot := 12, constantValue := 0 }, { name := "T_FLOAT", type := .int, accessFlags := 25, slot := 13, constantValue := 0 }, { name := "T_DOUBLE", type := .int, accessFlags := 25, slot := 14, constantValue := 0 }, { name := "T_BYTE", type := .int, accessFlags := 25, slot := 15, constantValue := 0 }, { name := "T_SHORT", type := .int, accessFlags := 25, slot := 16, constantValue := 0 }, { name := "T_INT", type := .int, accessFlags := 25, slot := 17, constantValue := 0 }, { name := "T_LONG", type := .int, accessFlags := 25, slot := 18, constantValue := 0 }, { name := "JLA", type := (.object "jdk/internal/access/JavaLangAccess"), accessFlags := 26, slot := 19, constantValue := 0 }, { name := "SOFT_MAX_ARRAY_LENGTH", type := .int, accessFlags := 25, slot := 20, constantValue := 0 }]
  methods := #[k12m0]
  instanceTypes := #[]
  staticTypes := #[(.object "jdk/internal/misc/Unsafe"), .boolean, .int, .int, .int, .int, .int, .int, .int, .int, .int, .int, .int, .int, .int, .int, .int, .int, .int, (.object "jdk/internal/access/JavaLangAccess"), .int]
  resolved := Array.replicate 378 none
  statics := none }

def pool13 : Array CpInfo := pool [(1, u "java/lang/Cloneable"), (0, .class_ 1), (0, u "java/lang/Object"), (0, .class_ 3)] 3

/-- java/lang/Cloneable -/
def k13 : Class := { plain "java/lang/Cloneable" (some 0) with
  accessFlags := 1537
  interfaces := #[]
  cf := some (fileOf pool13 2 #[] #[] 1537 4 #[] #[])
  fields := #[]
  methods := #[]
  instanceTypes := #[]
  staticTypes := #[]
  resolved := Array.replicate 8 none
  statics := none }

/-- the primitive byte -/
def k14 : Class := { plain "byte" none with kind := .primitive 'B', accessFlags := 0x411 }
/-- [B -/
def k15 : Class := { plain "[B" (some 0) with kind := .array 14 .byte, interfaces := #[13, 2], accessFlags := 1041 }

/-- the primitive char -/
def k16 : Class := { plain "char" none with kind := .primitive 'C', accessFlags := 0x411 }
/-- [C -/
def k17 : Class := { plain "[C" (some 0) with kind := .array 16 .char, interfaces := #[13, 2], accessFlags := 1041 }

/-- the primitive int -/
def k18 : Class := { plain "int" none with kind := .primitive 'I', accessFlags := 0x411 }
/-- [I -/
def k19 : Class := { plain "[I" (some 0) with kind := .array 18 .int, interfaces := #[13, 2], accessFlags := 1041 }

def heap : Heap := #[{ cls := 7, slots := #[.long 0, .int 1, .null, .int 0, .null, .int 0, .int 0], vm := .statics 7 },
  { cls := 11, slots := #[.null, .null, .null], vm := .statics 11 }]
def classes : Array Class := #[k0, k1, k2, k3, k4, k5, k6, k7, k8, k9, k10, k11, k12, k13, k14, k15, k16, k17, k18, k19]
def interned : List (Array UInt16 × Addr) := []
def slotsUsed : Nat := 10
def theMethod : MethodId := ⟨1, 1⟩
def args0 : Array Value := #[.int 5, .int 7, .int 2, .int 65]
def aboutOver (below : List Frame) : State where
  vm := { classes := classes, interned := interned.toArray }
  heap := heap
  slotsUsed := slotsUsed
  threads := #[{ frames := .invoking theMethod args0 :: below }]
def below0 : List Frame := [.native { method := ⟨0, 0⟩, args := #[] }]
def about1 : State := aboutOver below0
def p0 : Program := .bare "" "" ""
def e0 : Env := launch0.env 0 0 0
theorem w_frames : about1.frames = Frame.invoking theMethod args0 :: below0 := rfl
set_option maxRecDepth 65536 in
theorem w_args : argsFit about1.vm theMethod args0 = true := by decide +kernel
set_option maxRecDepth 65536 in
theorem w_heap : heapFits about1 = true := by decide +kernel
set_option maxRecDepth 65536 in
theorem w_runnable : about1.curStatus? = some .runnable := by decide +kernel
set_option maxRecDepth 65536 in
theorem w_alone : about1.alone = true := by decide +kernel
set_option maxRecDepth 65536 in
theorem w_named : about1.methodNamed? x = some theMethod := by decide +kernel
set_option maxRecDepth 65536 in
theorem w_hears : about1.hears theMethod below0 = true := by decide +kernel
set_option maxRecDepth 65536 in
theorem w_ripe : about1.ripe theMethod args0 below0 = true := by decide +kernel
theorem w_running : about1.status = .running := rfl
set_option maxRecDepth 65536 in
theorem w_room : about1.hasRoom e0.platform room_1 = true :=
  launch0.hasRoom_least _ room_1 (by decide +kernel) (by decide +kernel) (by decide +kernel) (by decide +kernel) (by decide +kernel) (by decide +kernel)
theorem allAtoms_all (ts : List Jvm.Cond) (a : Array Jvm.Value) (st : Jvm.State) : (allAtoms ts).before a st = ts.all (fun c => c.before a st) := by
  induction ts with
  | nil => rfl
  | cons c t ih =>
    show (Jvm.Cond.and c (allAtoms t)).before a st = _
    rw [Jvm.Cond.before_and, ih, List.all_cons]
def words1 : List Jvm.Cond := Jvm.Cond.code x code maxLocals ret :: tables_1
/-- a 'code' word, met by the world's own term for the bytes: nothing is compared byte by byte -/
theorem code_word {y : MethodName} {bytes : ByteArray} {mx : Nat} {rt : Option FieldType} {a : Array Value} {s : State} {m : MethodId} {meth : Method} {c : Code} (h1 : s.methodNamed? y = some m) (h2 : s.vm.method? m = some meth) (h3 : meth.code = some c) (h4 : c.code = bytes)
    (h5 : (c.maxLocals == mx && c.exceptionTable.isEmpty && decide (c.maxStack ≤ mostOperands) && decide (meth.sig.returnType = rt) && !meth.locks && decide (parseMethodDescriptor y.desc = some meth.sig)) = true) : (Jvm.Cond.code y bytes mx rt).before a s = true := by
  simp only [Bool.and_eq_true, beq_iff_eq, Bool.not_eq_true', decide_eq_true_eq] at h5
  obtain ⟨⟨⟨⟨⟨g1, g2⟩, g3⟩, g4⟩, g5⟩, g6⟩ := h5
  simp [Cond.before, Cond.holds, Cond.value, h1, h2, h3, h4, g1, g2, g3, g4, g5, g6]
def isCode : Jvm.Cond → Bool
  | .code _ _ _ _ => true
  | _ => false
theorem all_split {L : List Jvm.Cond} {P : Jvm.Cond → Bool} (h1 : L.all (fun c => isCode c || P c) = true) (h2 : ∀ c ∈ L.filter isCode, P c = true) : L.all P = true := by
  refine List.all_eq_true.mpr fun c hc => ?_
  have h := List.all_eq_true.mp h1 c hc
  rcases Bool.eq_false_or_eq_true (isCode c) with hi | hi
  · exact h2 c (List.mem_filter.mpr ⟨hc, hi⟩)
  · simpa [hi] using h
set_option maxRecDepth 65536 in
theorem w_c0 : (Jvm.Cond.code x code maxLocals ret).before args0 about1 = true := code_word (m := ⟨1, 1⟩) (meth := k1m1) (c := k1c1) (by decide +kernel) rfl rfl rfl (by decide +kernel)
set_option maxRecDepth 65536 in
theorem w_c1 : (Jvm.Cond.code ({ cls := "java/lang/String", name := "<init>", desc := "([C)V" } : Jvm.MethodName) jdk_42_method_3_code (2 : Nat) (Option.none : Option Jvm.ClassFile.FieldType)).before args0 about1 = true := code_word (m := ⟨7, 1⟩) (meth := k7m1) (c := k7c1) (by decide +kernel) rfl rfl rfl (by decide +kernel)
set_option maxRecDepth 65536 in
theorem w_c2 : (Jvm.Cond.code ({ cls := "java/lang/String", name := "<init>", desc := "([CIILjava/lang/Void;)V" } : Jvm.MethodName) jdk_42_method_149_code (6 : Nat) (Option.none : Option Jvm.ClassFile.FieldType)).before args0 about1 = true := code_word (m := ⟨7, 2⟩) (meth := k7m2) (c := k7c2) (by decide +kernel) rfl rfl rfl (by decide +kernel)
set_option maxRecDepth 65536 in
theorem w_c3 : (Jvm.Cond.code ({ cls := "java/lang/Object", name := "<init>", desc := "()V" } : Jvm.MethodName) object_method_1_code (1 : Nat) (Option.none : Option Jvm.ClassFile.FieldType)).before args0 about1 = true := code_word (m := ⟨0, 0⟩) (meth := k0m0) (c := k0c0) (by decide +kernel) rfl rfl rfl (by decide +kernel)
set_option maxRecDepth 65536 in
theorem w_c4 : (Jvm.Cond.code ({ cls := "java/lang/StringUTF16", name := "compress", desc := "([CII)[B" } : Jvm.MethodName) jdk_52_method_16_code (6 : Nat) (Option.some (Jvm.ClassFile.FieldType.array Jvm.ClassFile.FieldType.byte))).before args0 about1 = true := code_word (m := ⟨8, 2⟩) (meth := k8m2) (c := k8c2) (by decide +kernel) rfl rfl rfl (by decide +kernel)
set_option maxRecDepth 65536 in
theorem w_c5 : (Jvm.Cond.code ({ cls := "java/lang/StringUTF16", name := "compress", desc := "([CI[BII)I" } : Jvm.MethodName) jdk_52_method_21_code (7 : Nat) (Option.some Jvm.ClassFile.FieldType.int)).before args0 about1 = true := code_word (m := ⟨8, 3⟩) (meth := k8m3) (c := k8c3) (by decide +kernel) rfl rfl rfl (by decide +kernel)
set_option maxRecDepth 65536 in
theorem w_c6 : (Jvm.Cond.code ({ cls := "java/lang/StringUTF16", name := "coderFromArrayLen", desc := "([BI)B" } : Jvm.MethodName) jdk_52_method_15_code (2 : Nat) (Option.some Jvm.ClassFile.FieldType.byte)).before args0 about1 = true := code_word (m := ⟨8, 1⟩) (meth := k8m1) (c := k8c1) (by decide +kernel) rfl rfl rfl (by decide +kernel)
set_option maxRecDepth 65536 in
theorem w_c7 : (Jvm.Cond.code ({ cls := "com/example/parley/parley/algorithm/Probabilities", name := "checked", desc := "(DLjava/lang/String;)D" } : Jvm.MethodName) prog_13_method_2_code (3 : Nat) (Option.some Jvm.ClassFile.FieldType.double)).before args0 about1 = true := code_word (m := ⟨9, 1⟩) (meth := k9m1) (c := k9c1) (by decide +kernel) rfl rfl rfl (by decide +kernel)
def codes1 : List Jvm.Cond := [Jvm.Cond.code x code maxLocals ret, Jvm.Cond.code ({ cls := "java/lang/String", name := "<init>", desc := "([C)V" } : Jvm.MethodName) jdk_42_method_3_code (2 : Nat) (Option.none : Option Jvm.ClassFile.FieldType), Jvm.Cond.code ({ cls := "java/lang/String", name := "<init>", desc := "([CIILjava/lang/Void;)V" } : Jvm.MethodName) jdk_42_method_149_code (6 : Nat) (Option.none : Option Jvm.ClassFile.FieldType), Jvm.Cond.code ({ cls := "java/lang/Object", name := "<init>", desc := "()V" } : Jvm.MethodName) object_method_1_code (1 : Nat) (Option.none : Option Jvm.ClassFile.FieldType), Jvm.Cond.code ({ cls := "java/lang/StringUTF16", name := "compress", desc := "([CII)[B" } : Jvm.MethodName) jdk_52_method_16_code (6 : Nat) (Option.some (Jvm.ClassFile.FieldType.array Jvm.ClassFile.FieldType.byte)), Jvm.Cond.code ({ cls := "java/lang/StringUTF16", name := "compress", desc := "([CI[BII)I" } : Jvm.MethodName) jdk_52_method_21_code (7 : Nat) (Option.some Jvm.ClassFile.FieldType.int), Jvm.Cond.code ({ cls := "java/lang/StringUTF16", name := "coderFromArrayLen", desc := "([BI)B" } : Jvm.MethodName) jdk_52_method_15_code (2 : Nat) (Option.some Jvm.ClassFile.FieldType.byte), Jvm.Cond.code ({ cls := "com/example/parley/parley/algorithm/Probabilities", name := "checked", desc := "(DLjava/lang/String;)D" } : Jvm.MethodName) prog_13_method_2_code (3 : Nat) (Option.some Jvm.ClassFile.FieldType.double)]
set_option maxRecDepth 65536 in
theorem codes_eq : words1.filter isCode = codes1 := rfl
theorem w_codes : ∀ c ∈ words1.filter isCode, c.before args0 about1 = true := by
  rw [codes_eq]
  intro c hc
  simp only [codes1, List.mem_cons, List.not_mem_nil, or_false] at hc
  rcases hc with rfl | rfl | rfl | rfl | rfl | rfl | rfl | rfl
  · exact w_c0
  · exact w_c1
  · exact w_c2
  · exact w_c3
  · exact w_c4
  · exact w_c5
  · exact w_c6
  · exact w_c7
set_option maxRecDepth 65536 in
theorem w_t1 : (words1.take 24).all (fun c => isCode c || c.before args0 about1) = true := by decide +kernel
set_option maxRecDepth 65536 in
theorem w_t2 : (words1.drop 24).all (fun c => isCode c || c.before args0 about1) = true := by decide +kernel
theorem w_tables : (allAtoms (Jvm.Cond.code x code maxLocals ret :: tables_1)).before args0 about1 = true := by
  rw [allAtoms_all]
  show words1.all (fun c => c.before args0 about1) = true
  refine all_split ?_ w_codes
  rw [← List.take_append_drop 24 words1, List.all_append, w_t1, w_t2]
  rfl
set_option maxRecDepth 65536 in
theorem w_rest : rest_1_c.before args0 about1 = true := by decide +kernel
set_option maxRecDepth 65536 in
theorem w_case : (Jvm.Cond.and given_1 narrow_1).before args0 about1 = true := by decide +kernel
theorem w_applies : (headSpec (Jvm.Cond.code x code maxLocals ret :: tables_1) room_1).applies x e0.platform about1 = true :=
  (Spec.applies_iff w_frames).mpr ⟨w_running, w_runnable, w_alone, w_named, w_hears, w_ripe, w_room, w_tables⟩
theorem atStart : AtStart classFile x code maxLocals ret World_1 tables_1 room_1 Calls_1 rest_1 Pre_1 launch0 p0 e0 about1 theMethod args0 below0 :=
  ⟨lists_1, trivial, launch0.admits_env _ _ _, launch0.least_env, fairChoices_fair.cas, fairChoices_fair.clock, w_frames, w_args, w_heap, w_applies, trivial, w_rest, w_case⟩
end start1
theorem witness_1 : WitnessClaimed_1 := ⟨start1.p0, start1.e0, start1.about1, start1.theMethod, start1.args0, start1.below0, start1.atStart⟩
end Jvm.Pilot.@@N@@
