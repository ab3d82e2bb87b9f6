/-
  THE CONTRACTS OF '(*core).wait' AND 'ZZCoreWait', AND THE PLAIN ARITHMETIC OF THE WAIT (wrapping, 64 bits).
-/
import Derived.Test.Qxb6612674aRows
import Derived.WalkKit
import Derived.WalkSpells
import Derived.Deep.QuietTactic
import Derived.BigQuiet
import Derived.RowKit3
namespace Go.Proofs.Qxb6612674a
open Go.RowKit

/-- What '(*core).wait' and 'ZZCoreWait' give: heartbeat + time.Duration(steps) * step, each operation wrapped to 64 bits. -/
def wt (h s n : Int) : Int := wrap64 (h + wrap64 (wrap64 n * s))

theorem grown_drewN {W w' : World} (h : Grown W w') (m : Nat) : Grown W (w'.drewN m) := by
  induction m generalizing w' with
  | zero => exact h
  | succ m ih => exact ih h.drew

/-! ### The plain law -/
theorem wrap64_shift (x k : Int) : wrap64 (x + 18446744073709551616 * k) = wrap64 x := by
  unfold wrap64; omega
theorem wrap64_is (x : Int) : ∃ k, wrap64 x = x + 18446744073709551616 * k := by
  unfold wrap64
  exact ⟨-((x + 9223372036854775808) / 18446744073709551616), by omega⟩
theorem wrap64_congr {x y : Int} (k : Int) (h : x = y + 18446744073709551616 * k) : wrap64 x = wrap64 y := by
  rw [h, wrap64_shift]
/-- The wait is 'h + n * s' wrapped once. -/
theorem wt_eq (h s n : Int) : wt h s n = wrap64 (h + n * s) := by
  unfold wt
  obtain ⟨k, hk⟩ := wrap64_is n
  obtain ⟨l, hl⟩ := wrap64_is (wrap64 n * s)
  refine wrap64_congr (k * s + l) ?_
  rw [hl, hk, Int.add_mul, Int.mul_assoc]
  generalize n * s = u
  generalize k * s = v
  omega
theorem wt_mod (h s n : Int) : wt h s (n % 18446744073709551616) = wrap64 (h + n * s) := by
  rw [wt_eq]
  refine wrap64_congr (-(n / 18446744073709551616) * s) ?_
  have e : n % 18446744073709551616 = n + 18446744073709551616 * -(n / 18446744073709551616) := by omega
  rw [e, Int.add_mul, Int.mul_assoc]
  omega
theorem wrap64_fit {x : Int} (h1 : -9223372036854775808 ≤ x) (h2 : x ≤ 9223372036854775807) : wrap64 x = x := by
  unfold wrap64; omega

theorem wt_zero (h s : Int) (h1 : -9223372036854775808 ≤ h) (h2 : h ≤ 9223372036854775807) : wt h s 0 = h := by
  rw [wt_eq, Int.zero_mul, Int.add_zero, wrap64_fit h1 h2]
theorem wt_one (h s : Int) (h1 : -9223372036854775808 ≤ s) (h2 : s ≤ 9223372036854775807) : wrap64 (wt h s 1 - h) = s := by
  rw [wt_eq, Int.one_mul]
  obtain ⟨k, hk⟩ := wrap64_is (h + s)
  rw [hk, wrap64_congr (y := s) k (by omega), wrap64_fit h1 h2]
theorem wt_add (h s a b : Int) : wt h s (IntKind.u64.wrap (a + b)) = wrap64 (wrap64 (wt h s a + wt h s b) - h) := by
  rw [IntKind.wrap_u64, wt_mod, wt_eq h s a, wt_eq h s b, Int.add_mul]
  obtain ⟨k, hk⟩ := wrap64_is (h + a * s)
  obtain ⟨l, hl⟩ := wrap64_is (h + b * s)
  obtain ⟨j, hj⟩ := wrap64_is (wrap64 (h + a * s) + wrap64 (h + b * s))
  refine wrap64_congr (-(j + k + l)) ?_
  rw [hj, hk, hl]
  omega
theorem wt_shift (h s d n : Int) : wt (h + d) s n = wrap64 (wt h s n + d) := by
  rw [wt_eq, wt_eq]
  obtain ⟨k, hk⟩ := wrap64_is (h + n * s)
  refine wrap64_congr (-k) ?_
  rw [hk]; omega
theorem wt_step (h s n : Int) : wt (h + s) s n = wt h s (IntKind.u64.wrap (n + 1)) := by
  rw [IntKind.wrap_u64, wt_mod, wt_eq, Int.add_mul, Int.one_mul]
  refine wrap64_congr 0 ?_
  omega
theorem i64_range {x : Int} (h : (Lit.int .i64 x).wf = true) : -9223372036854775808 ≤ x ∧ x ≤ 9223372036854775807 := by
  simp only [Lit.wf, IntKind.min, IntKind.max, IntKind.signed, IntKind.bits, Bool.and_eq_true, decide_eq_true_eq, if_true] at h
  omega

/-! ### The walks -/
set_option maxHeartbeats 400000 in
/-- '(*core).wait': it only reads. -/
theorem wait_any (b : Nat) (h s n : Int) (w : World) (hh : w.cell? ⟨b, 2, none⟩ = some (.int .i64 h)) (hs : w.cell? ⟨b, 3, none⟩ = some (.int .i64 s)) :
    Calls Try.prog 14 #[.pointer (some ⟨b, 0, none⟩), .int .u64 n] w fun e w' => e = .returned (.int .i64 (wt h s n)) ∧ ∃ m, w' = w.drewN m := by
  unfold wt
  go_enter Try.func14, Try.ntmps14
  go_wp2
  go_quiet (fail)
  go_wp2
  go_ret
  exact ⟨rfl, _, rfl⟩

set_option maxHeartbeats 400000 in
/-- 'ZZCoreWait': one new block, the core. -/
theorem coreWait_any (h s n : Int) (w : World) :
    Calls Try.prog 7 #[.int .i64 h, .int .i64 s, .int .u64 n] w fun e w' => e = .returned (.int .i64 (wt h s n)) ∧ ∃ c m, w' = (w.alloc (.cells c 46)).drewN m := by
  go_enter Try.func7, Try.ntmps7
  go_wp2_with (go_at_call 14; refine (wait_any _ h s n _ (by simp [go_sem]) (by simp [go_sem])).mono ?_; rintro e w' ⟨rfl, m, rfl⟩)
  go_ret
  exact ⟨rfl, _, _, rfl⟩
end Go.Proofs.Qxb6612674a
