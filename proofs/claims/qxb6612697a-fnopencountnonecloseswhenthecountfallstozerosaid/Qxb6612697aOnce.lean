/-
  sync.Once, ONE GOROUTINE: its parts, 'doSlow', 'Do'; 'release' and the hook over them.
-/
import Derived.Test.Qxb6612697aOpen
import Derived.RegionCalls
import Derived.Conc.MuLone
namespace Go.Proofs.Qxb6612697a
open Go.RowKit Go.Conc

/-- The numbers under which this dump holds sync.Mutex's functions and types. -/
abbrev muLink : Go.Conc.Locks.MuLink := { lock := 23, unlock := 24, ilock := 26, iunlock := 27, lockSlow := 34, unlockSlow := 37, disable := 30, enable := 32, acquire := 33, relMerge := 35, cas32 := 31, add32 := 36, tMutex := 42, tIMutex := 40, tPMutex := 67, tPIMutex := 70, tPI32 := 72, tUP := 74, tNoCopy := 35, tU32 := 36 }
theorem muLib : Go.Conc.Locks.MuLib Try.prog muLink :=
  ⟨Try.func23, Try.func24, Try.func26, Try.func27, Try.func30, Try.func32, Try.func33, Try.func35, Try.func31, Try.func36, Try.underlying40, Try.runUnderlying40, Try.sizeOf40, Try.isAgg40, Try.zeroValue40, Try.underlying42, Try.runUnderlying42, Try.sizeOf42, Try.isAgg42, Try.zeroValue42, Try.underlying67, Try.runUnderlying67, Try.sizeOf67, Try.isAgg67, Try.zeroValue67, Try.underlying70, Try.runUnderlying70, Try.sizeOf70, Try.isAgg70, Try.zeroValue70, Try.underlying72, Try.runUnderlying72, Try.sizeOf72, Try.isAgg72, Try.zeroValue72, Try.underlying74, Try.runUnderlying74, Try.sizeOf74, Try.isAgg74, Try.zeroValue74, Try.underlying35, Try.runUnderlying35, Try.sizeOf35, Try.isAgg35, Try.zeroValue35, Try.underlying21, Try.runUnderlying21, Try.sizeOf21, Try.isAgg21, Try.zeroValue21, (by kernel_rfl)⟩

/-- '(*sync/atomic.Bool).Store(true)', ENTERED AS A DEFERRED CALL: the cell holds 1. -/
theorem store_deferred (a : Addr) (x : Value) (u : FrameMode) (w : World) (hc : w.cell? a = some x) (hz : w.frozen? a = false) :
    CallsD Try.prog 25 #[.pointer (some a), .bool true] u w fun e u' w' => u' = u ∧ (e = .returned (.tuple #[]) ∧ w' = w.drew.setCell a (.int .u32 1)) := by
  have hc' : w.drew.cell? a = some x := by go_simp
  have hz' : w.drew.frozen? a = false := by go_simp
  have hst := run_call_store (P := Try.prog) Try.func28 (by kernel_rfl) (by kernel_rfl) (by kernel_rfl) (by kernel_rfl) (k := .u32) (y := 1) hc' hz'
  go_enter_d Try.func25, Try.ntmps25
  go_wp2
  go_region_calls
  all_goals (go_end0; exact ⟨rfl, rfl⟩)

/-- '(*sync.Mutex).Unlock', ENTERED AS A DEFERRED CALL, the lock held and nobody waiting (state 1): state 0. -/
theorem unlock_deferred (a : Addr) (u : FrameMode) (w : World) (hc : w.cell? a = some (.int .i32 1)) (hz : w.frozen? a = false) :
    CallsD Try.prog 24 #[.pointer (some a)] u w fun e u' w' => u' = u ∧ (e = .returned (.tuple #[]) ∧ w' = w.setCell a (.int .i32 0)) :=
  Go.MuLone.unlock_deferred muLib a u w hc hz

/-- '(*sync.Mutex).Lock', the lock free (state 0): state 1. -/
theorem lock_free (a : Addr) (w : World) (hc : w.cell? a = some (.int .i32 0)) (hz : w.frozen? a = false) :
    Calls Try.prog 23 #[.pointer (some a)] w fun e w' => e = .returned (.tuple #[]) ∧ w' = w.setCell a (.int .i32 1) :=
  Go.MuLone.lock_free muLib a w hc hz

theorem not_bool (x : Bool) (w : World) : (Op.unary .not (.bool x)).run Try.prog w = .ok (.bool (!x)) w := rfl

set_option maxHeartbeats 400000 in
/-- '(*sync/atomic.Bool).Load'. -/
theorem bool_load (a : Addr) (d : Int) (w : World) (hc : w.cell? a = some (.int .u32 d)) :
    Calls Try.prog 20 #[.pointer (some a)] w fun e w' => e = .returned (.bool (d != 0)) ∧ w' = w := by
  have hl := run_call_load (P := Try.prog) Try.func22 (by kernel_rfl) (by kernel_rfl) (by kernel_rfl) .u32 (by kernel_rfl) hc
  go_enter Try.func20, Try.ntmps20
  go_wp2
  go_ret
  exact ⟨rfl, rfl⟩

set_option maxHeartbeats 400000 in
/-- the closure that 'release' hands to Do: the channel is closed. -/
theorem close_any (B p b cb : Nat) (n d st : Int) (w : World) (ho : Oc w b cb n d st false) (hp : Cap w p b) (hcb : B ≤ cb) :
    Calls Try.prog 19 #[.pointer (some ⟨p, 0, none⟩)] w fun e w' => e = .returned (.tuple #[]) ∧ Oc w' b cb n d st true ∧ Below B w w' := by
  have hc := hp.c
  have h1 := ho.c1
  have hcl := fun ats ty => run_close_open (P := Try.prog) (w := w) ats ty ho.chan
  go_enter Try.func19, Try.ntmps19
  go_wp2
  go_end0
  exact ⟨rfl, ho.close, below_close hcb _⟩
end Go.Proofs.Qxb6612697a
