/-
  sync.Once, ONE GOROUTINE: its parts, 'doSlow', 'Do'; 'release' and the hook over them.
-/
import Derived.Test.Qxb6612697aOpen
import Derived.RegionCalls
namespace Go.Proofs.Qxb6612697a
open Go.RowKit Go.Conc

theorem disable (w : World) : (callFunc 30 #[]).run Try.prog w = .ok (.value (.tuple #[])) w := run_call_mark0 Try.func30 (by kernel_rfl) (by kernel_rfl) (by kernel_rfl) .disable (by kernel_rfl) w
theorem enable (w : World) : (callFunc 32 #[]).run Try.prog w = .ok (.value (.tuple #[])) w := run_call_mark0 Try.func32 (by kernel_rfl) (by kernel_rfl) (by kernel_rfl) .enable (by kernel_rfl) w
theorem acquire (a : Addr) (w : World) : (callFunc 33 #[.pointer (some a)]).run Try.prog w = .ok (.value (.tuple #[])) w := run_call_marked Try.func33 (by kernel_rfl) (by kernel_rfl) (by kernel_rfl) .acquire (by kernel_rfl) a w
theorem releaseMerge (a : Addr) (w : World) : (callFunc 35 #[.pointer (some a)]).run Try.prog w = .ok (.value (.tuple #[])) w := run_call_marked Try.func35 (by kernel_rfl) (by kernel_rfl) (by kernel_rfl) .releaseMerge (by kernel_rfl) a w

/-- '(*sync/atomic.Bool).Store(true)', ENTERED AS A DEFERRED CALL: the cell holds 1. -/
theorem store_deferred (a : Addr) (x : Value) (u : FrameMode) (w : World) (hc : w.cell? a = some x) (hz : w.frozen? a = false) :
    CallsD Try.prog 25 #[.pointer (some a), .bool true] u w fun e u' w' => u' = u ∧ (e = .returned (.tuple #[]) ∧ w' = w.drew.setCell a (.int .u32 1)) := by
  have hc' : w.drew.cell? a = some x := by go_simp
  have hz' : w.drew.frozen? a = false := by go_simp
  have hst := run_call_store (P := Try.prog) Try.func28 (by kernel_rfl) (by kernel_rfl) (by kernel_rfl) (by kernel_rfl) (k := .u32) (y := 1) hc' hz'
  go_enter_d Try.func25, Try.ntmps25
  go_wp2
  go_region_calls
  all_goals (go_end0; exact ⟨rfl, rfl⟩)

set_option maxRecDepth 100000 in
set_option maxHeartbeats 800000 in
/-- '(*sync.Mutex).Unlock', ENTERED AS A DEFERRED CALL, the lock held and nobody waiting (state 1): state 0. -/
theorem unlock_deferred (a : Addr) (u : FrameMode) (w : World) (hc : w.cell? a = some (.int .i32 1)) (hz : w.frozen? a = false) :
    CallsD Try.prog 24 #[.pointer (some a)] u w fun e u' w' => u' = u ∧ (e = .returned (.tuple #[]) ∧ w' = w.setCell a (.int .i32 0)) := by
  have hd := disable
  have he := enable
  have hr := releaseMerge
  have hadd := run_call_add (P := Try.prog) Try.func36 (by kernel_rfl) (by kernel_rfl) (by kernel_rfl) .i32 (by kernel_rfl) (y := -1) (s := 0) hc hz (by simp [go_sem]; rfl)
  have hcv := run_convert_to_unsafe (P := Try.prog) (src := 70) (dst := 74) Try.underlying70 Try.underlying74 (by kernel_rfl) hc
  go_enter_d Try.func24, Try.ntmps24
  go_wp2
  go_end0
  go_wp2
  go_end0
  exact ⟨rfl, rfl⟩

set_option maxRecDepth 100000 in
set_option maxHeartbeats 800000 in
/-- '(*sync.Mutex).Lock', the lock free (state 0): state 1. -/
theorem lock_free (a : Addr) (w : World) (hc : w.cell? a = some (.int .i32 0)) (hz : w.frozen? a = false) :
    Calls Try.prog 23 #[.pointer (some a)] w fun e w' => e = .returned (.tuple #[]) ∧ w' = w.setCell a (.int .i32 1) := by
  have hd := disable
  have he := enable
  have ha := acquire
  have hcas := run_call_cas_hit (P := Try.prog) Try.func31 (by kernel_rfl) (by kernel_rfl) (by kernel_rfl) .i32 (by kernel_rfl) (y := 1) hc hz
  have hc' : (w.setCell a (.int .i32 1)).cell? a = some (.int .i32 1) := World.cell?_setCell_same w a _ hc
  have hcv := run_convert_to_unsafe (P := Try.prog) (src := 70) (dst := 74) Try.underlying70 Try.underlying74 (by kernel_rfl) hc'
  go_enter Try.func23, Try.ntmps23
  go_wp2
  first | go_end0 | (simp only [Exit.inBlock, Exit.then]; refine bodyPost_ret (results_none rfl _ _ _) rfl ?_) | refine bodyPost_ret (results_none rfl _ _ _) rfl ?_
  go_wp2
  go_end0
  exact ⟨rfl, rfl⟩

theorem not_bool (x : Bool) (w : World) : (Op.unary .not (.bool x)).run Try.prog w = .ok (.bool (!x)) w := rfl

set_option maxHeartbeats 400000 in
/-- '(*sync/atomic.Bool).Load'. -/
theorem bool_load (a : Addr) (d : Int) (w : World) (hc : w.cell? a = some (.int .u32 d)) :
    Calls Try.prog 20 #[.pointer (some a)] w fun e w' => e = .returned (.bool (d != 0)) ∧ w' = w := by
  have hl := run_call_load (P := Try.prog) Try.func22 (by kernel_rfl) (by kernel_rfl) (by kernel_rfl) .u32 (by kernel_rfl) hc
  go_enter Try.func20, Try.ntmps20
  go_wp2
  go_ret
  exact ⟨rfl, rfl⟩

set_option maxHeartbeats 400000 in
/-- 'release$1': the channel is closed. -/
theorem close_any (B p b cb : Nat) (n d st : Int) (w : World) (ho : Oc w b cb n d st false) (hp : Cap w p b) (hcb : B ≤ cb) :
    Calls Try.prog 19 #[.pointer (some ⟨p, 0, none⟩)] w fun e w' => e = .returned (.tuple #[]) ∧ Oc w' b cb n d st true ∧ Below B w w' := by
  have hc := hp.c
  have h1 := ho.c1
  have hcl := fun ats ty => run_close_open (P := Try.prog) (w := w) ats ty ho.chan
  go_enter Try.func19, Try.ntmps19
  go_wp2
  go_end0
  exact ⟨rfl, ho.close, below_close hcb _⟩
end Go.Proofs.Qxb6612697a
