/-
  sync.Once.doSlow and Do over the closure that 'release' hands to Do (which closes the channel), ONE GOROUTINE; 'release'.
-/
import Derived.Test.Qxb6612697aOnce
namespace Go.Proofs.Qxb6612697a
open Go.RowKit Go.Conc

set_option maxRecDepth 100000 in
set_option maxHeartbeats 800000 in
/-- '(*sync.Once).doSlow', not yet done and the lock free: the lock is taken; 'done' is looked at again; the channel is closed; then the two deferred calls, the last laid first: 'done' is stored, the lock is let go. -/
theorem slow_any (B p b cb : Nat) (n : Int) (w : World) (ho : Oc w b cb n 0 0 false) (hp : Cap w p b) (hb : B ≤ b) (hcb : B ≤ cb) :
    Calls Try.prog 21 #[.pointer (some ⟨b, 2, none⟩), .func (.func 19) #[] #[.pointer (some ⟨p, 0, none⟩)]] w fun e w' => e = .returned (.tuple #[]) ∧ Oc w' b cb n 1 0 true ∧ Below B w w' := by
  have hnot := not_bool
  have ho1 := ho.set3 1
  have hp1 := hp.set (hp.ne ho) 3 (.int .i32 1)
  have hB1 : Below B w (w.setCell ⟨b, 3, none⟩ (.int .i32 1)) := (Below.refl _ _).setCell hb _
  go_enter_defers Try.func21, Try.ntmps21
  go_wp2_with (first
    | (go_at_call 23; refine (lock_free ⟨b, 3, none⟩ _ (by exact ho.c3) (by exact ho.f 3)).mono ?_; rintro e w' ⟨rfl, rfl⟩)
    | (go_at_call 20; refine (bool_load ⟨b, 2, none⟩ 0 _ (by exact ho1.c2)).mono ?_; rintro e w' ⟨rfl, rfl⟩)
    | (go_at_call 19; refine (close_any B p b cb n 0 1 _ ho1 hp1 hcb).mono ?_; rintro e w2 ⟨rfl, ho2, hB2⟩))
  -- THE DOOR: two deferred calls, the last laid first
  refine leaves_cons (f := 25) (args := #[.pointer (some ⟨b, 2, none⟩), .bool true]) (by simp) (by simp [go_sem]) ?_
  refine (store_deferred ⟨b, 2, none⟩ (.int .u32 0) .returning w2 ho2.c2 (ho2.f 2)).mono ?_
  rintro e u' w3 ⟨rfl, rfl, hw3⟩
  have ho3 : Oc w3 b cb n 1 1 true := by rw [hw3]; exact ho2.drew.set2 1
  have hB3 : Below B w2 w3 := by rw [hw3]; exact (Below.refl _ _).drew.setCell hb _
  clear hw3
  refine leaves_cons (f := 24) (args := #[.pointer (some ⟨b, 3, none⟩)]) (by simp [settle]) (by simp [go_sem]) ?_
  refine (unlock_deferred ⟨b, 3, none⟩ _ w3 ho3.c3 (ho3.f 3)).mono ?_
  rintro e u' w4 ⟨rfl, rfl, hw4⟩
  have ho4 : Oc w4 b cb n 1 0 true := by rw [hw4]; exact ho3.set3 0
  have hB4 : Below B w3 w4 := by rw [hw4]; exact (Below.refl _ _).setCell hb _
  clear hw4
  have hB := ((hB1.trans hB2).trans hB3).trans hB4
  simp [Leaves, settle, results, Try.results21, ho4, hB]

set_option maxRecDepth 100000 in
set_option maxHeartbeats 800000 in
/-- '(*sync.Once).Do', not yet done, the lock free. -/
theorem do_first (B p b cb : Nat) (n : Int) (w : World) (ho : Oc w b cb n 0 0 false) (hp : Cap w p b) (hb : B ≤ b) (hcb : B ≤ cb) :
    Calls Try.prog 18 #[.pointer (some ⟨b, 2, none⟩), .func (.func 19) #[] #[.pointer (some ⟨p, 0, none⟩)]] w fun e w' => e = .returned (.tuple #[]) ∧ Oc w' b cb n 1 0 true ∧ Below B w w' := by
  have hnot := not_bool
  go_enter Try.func18, Try.ntmps18
  go_wp2_with (first
    | (go_at_call 20; refine (bool_load ⟨b, 2, none⟩ 0 _ (by exact ho.c2)).mono ?_; rintro e w' ⟨rfl, rfl⟩)
    | (go_at_call 21; refine (slow_any B p b cb n _ ho hp hb hcb).mono ?_; rintro e w2 ⟨rfl, ho2, hB2⟩))
  go_end0
  exact ⟨rfl, ho2, hB2⟩

set_option maxRecDepth 100000 in
set_option maxHeartbeats 800000 in
/-- '(*sync.Once).Do', done already: the function is not called. -/
theorem do_done (b cb : Nat) (n : Int) (cl : Bool) (fv : Value) (w : World) (ho : Oc w b cb n 1 0 cl) :
    Calls Try.prog 18 #[.pointer (some ⟨b, 2, none⟩), fv] w fun e w' => e = .returned (.tuple #[]) ∧ w' = w := by
  have hnot := not_bool
  go_enter Try.func18, Try.ntmps18
  go_wp2_with (first
    | (go_at_call 20; refine (bool_load ⟨b, 2, none⟩ 1 _ (by exact ho.c2)).mono ?_; rintro e w' ⟨rfl, rfl⟩))
  go_end0
  exact ⟨rfl, rfl⟩
end Go.Proofs.Qxb6612697a
