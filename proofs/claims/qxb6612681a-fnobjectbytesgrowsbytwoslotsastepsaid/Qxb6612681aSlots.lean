/-
  THE CONTRACTS OF 'allocated' (function 7), 'SlotBytes' (6) AND 'ObjectBytes' (5), small and large. They only compute: the world stands.
-/
import Derived.Test.Qxb6612681aRows
import Derived.WalkKit
import Derived.WalkSpells
import Derived.RowKit3
namespace Go.Proofs.Qxb6612681a
open Go.RowKit

theorem ret_int {k : IntKind} {a b : Int} (h : a = b) : Ending.returned (.int k a) = .returned (.int k b) := by rw [h]

theorem ret_true {p : Prop} [Decidable p] (h : p) : Ending.returned (.bool (decide p)) = .returned (.bool true) := by simp [h]

set_option maxHeartbeats 400000 in
theorem alloc_small (n : Int) (w : World) (h0 : 0 ≤ n) (h1 : n ≤ 32768) :
    Calls Try.prog 7 #[.int .i64 n] w fun e w' => e = .returned (.int .i64 (n + n / 8)) ∧ w' = w := by
  go_enter Try.func7, Try.ntmps7
  go_wp2
  go_ret
  exact ⟨ret_int rfl, rfl⟩

set_option maxHeartbeats 400000 in
theorem alloc_large (n : Int) (w : World) (h0 : 32768 < n) (h1 : n < 1152921504606846976) :
    Calls Try.prog 7 #[.int .i64 n] w fun e w' => e = .returned (.int .i64 (n + 8192)) ∧ w' = w := by
  go_enter Try.func7, Try.ntmps7
  go_wp2
  go_ret
  exact ⟨ret_int rfl, rfl⟩

set_option maxHeartbeats 400000 in
theorem slot_small (n : Int) (w : World) (h0 : 0 ≤ n) (h1 : n ≤ 2048) :
    Calls Try.prog 6 #[.int .i64 n] w fun e w' => e = .returned (.int .i64 (18 * n)) ∧ w' = w := by
  go_enter Try.func6, Try.ntmps6
  go_wp2_with (go_at_call 7; refine (alloc_small _ _ (by omega) (by omega)).mono ?_; rintro e w' ⟨rfl, rfl⟩)
  go_ret
  exact ⟨ret_int (by omega), rfl⟩

set_option maxHeartbeats 400000 in
theorem slot_large (n : Int) (w : World) (h0 : 2048 < n) (h1 : n < 72057594037927936) :
    Calls Try.prog 6 #[.int .i64 n] w fun e w' => e = .returned (.int .i64 (16 * n + 8192)) ∧ w' = w := by
  go_enter Try.func6, Try.ntmps6
  go_wp2_with (go_at_call 7; refine (alloc_large _ _ (by omega) (by omega)).mono ?_; rintro e w' ⟨rfl, rfl⟩)
  go_ret
  exact ⟨ret_int (by omega), rfl⟩

set_option maxHeartbeats 400000 in
theorem object_small (n : Int) (w : World) (h0 : 0 ≤ n) (h1 : n ≤ 2048) :
    Calls Try.prog 5 #[.int .i64 n] w fun e w' => e = .returned (.int .i64 (48 + 36 * n)) ∧ w' = w := by
  go_enter Try.func5, Try.ntmps5
  go_wp2_with (go_at_call 6; refine (slot_small _ _ (by omega) (by omega)).mono ?_; rintro e w' ⟨rfl, rfl⟩)
  go_ret
  exact ⟨ret_int (by omega), rfl⟩

set_option maxHeartbeats 400000 in
theorem object_large (n : Int) (w : World) (h0 : 2048 < n) (h1 : n < 72057594037927936) :
    Calls Try.prog 5 #[.int .i64 n] w fun e w' => e = .returned (.int .i64 (32 * n + 16432)) ∧ w' = w := by
  go_enter Try.func5, Try.ntmps5
  go_wp2_with (go_at_call 6; refine (slot_large _ _ (by omega) (by omega)).mono ?_; rintro e w' ⟨rfl, rfl⟩)
  go_ret
  exact ⟨ret_int (by omega), rfl⟩
end Go.Proofs.Qxb6612681a
