/-
  The hook that 'connState(nil)' returns, 'ZZocHook': one step of the plain law.
-/
import Derived.Test.Qxb6612697aHook
namespace Go.Proofs.Qxb6612697a
open Go.RowKit Go.Conc

/-- The openCount at rest: the count n; 'none' closed or not; the Once done just then; its lock free. -/
def OcS (w : World) (b cb : Nat) (n : Int) (fell : Bool) : Prop := Oc w b cb n (if fell then 1 else 0) 0 fell

theorem sub_one (n : Int) : wrap64 (n - 1) = wrap64 (n + -1) := by rw [Int.sub_eq_add_neg]

/-- 'release'. -/
theorem rel_any (B b cb : Nat) (n : Int) (fell : Bool) (w : World) (ho : OcS w b cb n fell) (hb : B ≤ b) (hcb : B ≤ cb) :
    Calls Try.prog 15 #[.pointer (some ⟨b, 0, none⟩)] w fun e w' => e = .returned (.tuple #[]) ∧ OcS w' b cb (wrap64 (n - 1)) (fell || (wrap64 (n - 1) == 0)) ∧ Below B w w' := by
  rw [sub_one]
  unfold OcS at *
  by_cases hz : wrap64 (n + -1) = 0
  · rw [hz]
    cases fell
    · exact rel_first B b cb n w ho hb hcb hz
    · exact rel_again B b cb n true w ho hb hz
  · have hz' : (wrap64 (n + -1) == 0) = false := by simp [hz]
    rw [hz', Bool.or_false]
    exact rel_stay B b cb n _ _ fell w ho hb rfl hz'

theorem nil_func (w : World) : (binOp .neq 48 .nilFunc .nilFunc).run Try.prog w = .ok (.bool false) w := by kernel_rfl

set_option maxRecDepth 100000 in
set_option maxHeartbeats 800000 in
/-- The hook at state 0 (new): one more. -/
theorem clo_new (B b cb p q : Nat) (n : Int) (fell : Bool) (w : World) (ho : OcS w b cb n fell) (hp : Cap w p b) (hq : w.cell? ⟨q, 0, none⟩ = some .nilFunc) (hb : B ≤ b) :
    Calls Try.prog 13 #[.nilIface, .int .i64 0, .pointer (some ⟨q, 0, none⟩), .pointer (some ⟨p, 0, none⟩)] w fun e w' => e = .returned (.tuple #[]) ∧ OcS w' b cb (wrap64 (n + 1)) fell ∧ Below B w w' := by
  have hc := hp.c
  have hn := nil_func
  go_enter Try.func13, Try.ntmps13
  go_wp2_with (go_at_call 14; refine (add64 b n 1 _ (by exact ho.c0) (by exact ho.f 0)).mono ?_; rintro e w1 ⟨rfl, rfl⟩)
  go_end0
  exact ⟨rfl, Oc.set0 ho _, (Below.refl _ _).setCell hb _⟩

set_option maxRecDepth 100000 in
set_option maxHeartbeats 800000 in
/-- The hook at state 4 (closed). -/
theorem clo_closed (B b cb p q : Nat) (n : Int) (fell : Bool) (w : World) (ho : OcS w b cb n fell) (hp : Cap w p b) (hq : w.cell? ⟨q, 0, none⟩ = some .nilFunc) (hb : B ≤ b) (hcb : B ≤ cb) :
    Calls Try.prog 13 #[.nilIface, .int .i64 4, .pointer (some ⟨q, 0, none⟩), .pointer (some ⟨p, 0, none⟩)] w fun e w' => e = .returned (.tuple #[]) ∧ OcS w' b cb (wrap64 (n - 1)) (fell || (wrap64 (n - 1) == 0)) ∧ Below B w w' := by
  have hc := hp.c
  have hn := nil_func
  go_enter Try.func13, Try.ntmps13
  go_wp2_with (go_at_call 15; refine (rel_any B b cb n fell _ ho hb hcb).mono ?_; rintro e w1 ⟨rfl, ho1, hB1⟩)
  go_end0
  exact ⟨rfl, ho1, hB1⟩

set_option maxRecDepth 100000 in
set_option maxHeartbeats 800000 in
/-- The hook at state 3 (hijacked). -/
theorem clo_hijacked (B b cb p q : Nat) (n : Int) (fell : Bool) (w : World) (ho : OcS w b cb n fell) (hp : Cap w p b) (hq : w.cell? ⟨q, 0, none⟩ = some .nilFunc) (hb : B ≤ b) (hcb : B ≤ cb) :
    Calls Try.prog 13 #[.nilIface, .int .i64 3, .pointer (some ⟨q, 0, none⟩), .pointer (some ⟨p, 0, none⟩)] w fun e w' => e = .returned (.tuple #[]) ∧ OcS w' b cb (wrap64 (n - 1)) (fell || (wrap64 (n - 1) == 0)) ∧ Below B w w' := by
  have hc := hp.c
  have hn := nil_func
  go_enter Try.func13, Try.ntmps13
  go_wp2_with (go_at_call 15; refine (rel_any B b cb n fell _ ho hb hcb).mono ?_; rintro e w1 ⟨rfl, ho1, hB1⟩)
  go_end0
  exact ⟨rfl, ho1, hB1⟩

set_option maxRecDepth 100000 in
set_option maxHeartbeats 800000 in
/-- The hook at any other state: nothing. -/
theorem clo_other (p q : Nat) (st : Int) (w : World) (hq : w.cell? ⟨q, 0, none⟩ = some .nilFunc) (h0 : (st == 0) = false) (h4 : (st == 4) = false) (h3 : (st == 3) = false) :
    Calls Try.prog 13 #[.nilIface, .int .i64 st, .pointer (some ⟨q, 0, none⟩), .pointer (some ⟨p, 0, none⟩)] w fun e w' => e = .returned (.tuple #[]) ∧ w' = w := by
  have hn := nil_func
  go_enter Try.func13, Try.ntmps13
  go_wp2
  go_end0
  exact ⟨rfl, rfl⟩

/-! ### One step of the plain law -/
/-- The count behind a step. -/
def stepN (st n : Int) : Int := if st = 0 then wrap64 (n + 1) else if st = 4 ∨ st = 3 then wrap64 (n - 1) else n
/-- Has a closed or hijacked step brought the count to zero? -/
def stepF (st n : Int) (fell : Bool) : Bool := fell || (!(st == 0) && (st == 4 || st == 3) && (wrap64 (n - 1) == 0))

theorem clo_any (B b cb p q : Nat) (n st : Int) (fell : Bool) (w : World) (ho : OcS w b cb n fell) (hp : Cap w p b) (hq : w.cell? ⟨q, 0, none⟩ = some .nilFunc) (hb : B ≤ b) (hcb : B ≤ cb) :
    Calls Try.prog 13 #[.nilIface, .int .i64 st, .pointer (some ⟨q, 0, none⟩), .pointer (some ⟨p, 0, none⟩)] w fun e w' => e = .returned (.tuple #[]) ∧ OcS w' b cb (stepN st n) (stepF st n fell) ∧ Below B w w' := by
  by_cases h0 : st = 0
  · subst h0
    have e1 : stepN 0 n = wrap64 (n + 1) := by simp [stepN]
    have e2 : stepF 0 n fell = fell := by simp [stepF]
    rw [e1, e2]
    exact clo_new B b cb p q n fell w ho hp hq hb
  by_cases h4 : st = 4
  · subst h4
    have e1 : stepN 4 n = wrap64 (n - 1) := by simp [stepN]
    have e2 : stepF 4 n fell = (fell || (wrap64 (n - 1) == 0)) := by simp [stepF]
    rw [e1, e2]
    exact clo_closed B b cb p q n fell w ho hp hq hb hcb
  by_cases h3 : st = 3
  · subst h3
    have e1 : stepN 3 n = wrap64 (n - 1) := by simp [stepN]
    have e2 : stepF 3 n fell = (fell || (wrap64 (n - 1) == 0)) := by simp [stepF]
    rw [e1, e2]
    exact clo_hijacked B b cb p q n fell w ho hp hq hb hcb
  have e1 : stepN st n = n := by simp [stepN, h0, h4, h3]
  have e2 : stepF st n fell = fell := by simp [stepF, h4, h3]
  rw [e1, e2]
  refine (clo_other p q st w hq (by simp [h0]) (by simp [h4]) (by simp [h3])).mono ?_
  rintro e w' ⟨rfl, rfl⟩
  exact ⟨rfl, ho, Below.refl _ _⟩

set_option maxRecDepth 100000 in
set_option maxHeartbeats 800000 in
/-- 'connState(nil)': two new variables, and the closure over them. -/
theorem conn_any (b : Nat) (w : World) :
    Calls Try.prog 10 #[.pointer (some ⟨b, 0, none⟩), .nilFunc] w fun e w' => e = .returned (.func (.func 13) #[] #[.pointer (some ⟨w.heap.size + 1, 0, none⟩), .pointer (some ⟨w.heap.size, 0, none⟩)]) ∧
      w' = (w.alloc (.cells #[.pointer (some ⟨b, 0, none⟩)] 24)).alloc (.cells #[.nilFunc] 48) := by
  have hmf := mkf
  go_enter Try.func10, Try.ntmps10
  go_wp2
  go_ret
  exact ⟨rfl, rfl⟩

set_option maxRecDepth 100000 in
set_option maxHeartbeats 800000 in
/-- 'ZZocHook'. -/
theorem hook_any (B b cb : Nat) (n st : Int) (fell : Bool) (w : World) (ho : OcS w b cb n fell) (hb : B ≤ b) (hcb : B ≤ cb) :
    Calls Try.prog 6 #[.pointer (some ⟨b, 0, none⟩), .int .i64 st] w fun e w' => e = .returned (.tuple #[]) ∧ OcS w' b cb (stepN st n) (stepF st n fell) ∧ Below B w w' := by
  have hl := Oc.lt ho
  have ho1 : OcS ((w.alloc (.cells #[.pointer (some ⟨b, 0, none⟩)] 24)).alloc (.cells #[.nilFunc] 48)) b cb n fell := Oc.alloc (Oc.alloc ho _) _
  have hp1 : Cap ((w.alloc (.cells #[.pointer (some ⟨b, 0, none⟩)] 24)).alloc (.cells #[.nilFunc] 48)) w.heap.size b := (cap_new w b).alloc _
  have hq1 : ((w.alloc (.cells #[.pointer (some ⟨b, 0, none⟩)] 24)).alloc (.cells #[.nilFunc] 48)).cell? ⟨w.heap.size + 1, 0, none⟩ = some .nilFunc := by simp [go_sem]
  have hB1 : Below B w ((w.alloc (.cells #[.pointer (some ⟨b, 0, none⟩)] 24)).alloc (.cells #[.nilFunc] 48)) :=
    ((Below.refl _ _).alloc (by omega) _).alloc (by rw [World.size_alloc]; omega) _
  go_enter Try.func6, Try.ntmps6
  go_wp2_with (first
    | (go_at_call 10; refine (conn_any b _).mono ?_; rintro e w1 ⟨rfl, rfl⟩)
    | (go_at_call 13; refine (clo_any B b cb _ _ n st fell _ ho1 hp1 hq1 hb hcb).mono ?_; rintro e w2 ⟨rfl, ho2, hB2⟩))
  go_end0
  exact ⟨rfl, ho2, hB1.trans hB2⟩
end Go.Proofs.Qxb6612697a
