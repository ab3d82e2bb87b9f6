/-
  THE OPEN COUNT IN MEMORY ('Oc'), AND THE CONTRACTS OF WHAT TOUCHES IT: sync/atomic's Store, Add, Load; Once's parts (Bool.Load, the lock, the two deferred calls); ONE GOROUTINE.
-/
import Derived.Test.Qxb6612697aRows
import Derived.WalkKit
import Derived.WalkSpells
import Derived.Below
import Derived.Defers
import Derived.Conc.LoneSelect
namespace Go.Proofs.Qxb6612697a
open Go.RowKit Go.Conc

/-- Block b is an openCount: its count n, its channel (block cb), its Once's word d, that Once's lock's word st. Block cb is the channel: no buffer, nobody there; closed or not. -/
structure Oc (w : World) (b cb : Nat) (n d st : Int) (cl : Bool) : Prop where
  cells : w.heap[b]? = some (.cells #[.int .i64 n, .chan (some cb), .int .u32 d, .int .i32 st, .int .u32 0] 46)
  chan : w.heap[cb]? = some (.chan 0 #[] cl 0 0 false)

/-- Block p is the variable that a closure has captured: the pointer to the openCount. -/
def Cap (w : World) (p b : Nat) : Prop := w.heap[p]? = some (.cells #[.pointer (some ⟨b, 0, none⟩)] 24)

section
variable {w : World} {b cb p : Nat} {n d st : Int} {cl : Bool}
theorem Oc.c0 (h : Oc w b cb n d st cl) : w.cell? ⟨b, 0, none⟩ = some (.int .i64 n) := by simp [World.cell?, h.cells]
theorem Oc.c1 (h : Oc w b cb n d st cl) : w.cell? ⟨b, 1, none⟩ = some (.chan (some cb)) := by simp [World.cell?, h.cells]
theorem Oc.c2 (h : Oc w b cb n d st cl) : w.cell? ⟨b, 2, none⟩ = some (.int .u32 d) := by simp [World.cell?, h.cells]
theorem Oc.c3 (h : Oc w b cb n d st cl) : w.cell? ⟨b, 3, none⟩ = some (.int .i32 st) := by simp [World.cell?, h.cells]
theorem Oc.f (h : Oc w b cb n d st cl) (o : Nat) : w.frozen? ⟨b, o, none⟩ = false := by simp [World.frozen?, h.cells]
theorem Oc.lt (h : Oc w b cb n d st cl) : b < w.heap.size := (Array.getElem?_eq_some_iff.1 h.cells).1
theorem Oc.ltc (h : Oc w b cb n d st cl) : cb < w.heap.size := (Array.getElem?_eq_some_iff.1 h.chan).1
theorem Oc.ne (h : Oc w b cb n d st cl) : cb ≠ b := by
  rintro rfl
  have := h.cells.symm.trans h.chan
  cases this
theorem Cap.c (h : Cap w p b) : w.cell? ⟨p, 0, none⟩ = some (.pointer (some ⟨b, 0, none⟩)) := by
  unfold Cap at h; simp [World.cell?, h]
theorem Cap.lt (h : Cap w p b) : p < w.heap.size := (Array.getElem?_eq_some_iff.1 h).1
theorem Cap.ne (h : Cap w p b) (ho : Oc w b cb n d st cl) : p ≠ b := by
  rintro rfl
  have := h.symm.trans ho.cells
  simp at this
theorem Cap.nec (h : Cap w p b) (ho : Oc w b cb n d st cl) : p ≠ cb := by
  rintro rfl
  have := h.symm.trans ho.chan
  cases this
theorem heap_setCell_same {c : Array Value} {t : TypeId} (h : w.heap[b]? = some (.cells c t)) (i : Nat) (v : Value) : (w.setCell ⟨b, i, none⟩ v).heap[b]? = some (.cells (c.setIfInBounds i v) t) := by
  simp [World.setCell, Array.getElem?_modify, h]
theorem heap_setCell_other (h : p ≠ b) (i : Nat) (v : Value) : (w.setCell ⟨b, i, none⟩ v).heap[p]? = w.heap[p]? := Below.heap_setCell _ _ _ _ h
theorem Oc.set0 (h : Oc w b cb n d st cl) (m : Int) : Oc (w.setCell ⟨b, 0, none⟩ (.int .i64 m)) b cb m d st cl :=
  ⟨(heap_setCell_same h.cells _ _).trans (by simp), (heap_setCell_other h.ne _ _).trans h.chan⟩
theorem Oc.set2 (h : Oc w b cb n d st cl) (m : Int) : Oc (w.setCell ⟨b, 2, none⟩ (.int .u32 m)) b cb n m st cl :=
  ⟨(heap_setCell_same h.cells _ _).trans (by simp), (heap_setCell_other h.ne _ _).trans h.chan⟩
theorem Oc.set3 (h : Oc w b cb n d st cl) (m : Int) : Oc (w.setCell ⟨b, 3, none⟩ (.int .i32 m)) b cb n d m cl :=
  ⟨(heap_setCell_same h.cells _ _).trans (by simp), (heap_setCell_other h.ne _ _).trans h.chan⟩
theorem Cap.set (h : Cap w p b) (hne : p ≠ b) (i : Nat) (v : Value) : Cap (w.setCell ⟨b, i, none⟩ v) p b :=
  (heap_setCell_other hne _ _).trans h
theorem Oc.alloc (h : Oc w b cb n d st cl) (o : Obj) : Oc (w.alloc o) b cb n d st cl :=
  ⟨(Below.heap_alloc _ _ _ h.lt).trans h.cells, (Below.heap_alloc _ _ _ h.ltc).trans h.chan⟩
theorem Oc.drew (h : Oc w b cb n d st cl) : Oc w.drew b cb n d st cl := ⟨h.cells, h.chan⟩
theorem Cap.alloc (h : Cap w p b) (o : Obj) : Cap (w.alloc o) p b := (Below.heap_alloc _ _ _ h.lt).trans h
/-- The channel is closed. -/
theorem Oc.close (h : Oc w b cb n d st cl) : Oc { w with heap := w.heap.setIfInBounds cb (.chan 0 #[] true 0 0 false) } b cb n d st true :=
  ⟨by simp only; rw [Array.getElem?_setIfInBounds_ne h.ne]; exact h.cells, by simp [h.ltc]⟩
theorem below_close {B : Nat} (hc : B ≤ cb) (o : Obj) : Below B w { w with heap := w.heap.setIfInBounds cb o } :=
  ⟨rfl, rfl, rfl, by simp, fun k hk => by simp only; rw [Array.getElem?_setIfInBounds_ne (by omega)]⟩
end

/-! ### sync/atomic's Int64, on the count -/
set_option maxHeartbeats 400000 in
theorem store64 (b : Nat) (x : Value) (y : Int) (w : World) (hc : w.cell? ⟨b, 0, none⟩ = some x) (hz : w.frozen? ⟨b, 0, none⟩ = false) :
    Calls Try.prog 9 #[.pointer (some ⟨b, 0, none⟩), .int .i64 y] w fun e w' => e = .returned (.tuple #[]) ∧ w' = w.setCell ⟨b, 0, none⟩ (.int .i64 y) := by
  have hst := run_call_store (P := Try.prog) Try.func12 (by kernel_rfl) (by kernel_rfl) (by kernel_rfl) (by kernel_rfl) (k := .i64) (y := y) hc hz
  go_enter Try.func9, Try.ntmps9
  go_wp2
  go_end0
  exact ⟨rfl, rfl⟩

set_option maxHeartbeats 400000 in
theorem add64 (b : Nat) (x y : Int) (w : World) (hc : w.cell? ⟨b, 0, none⟩ = some (.int .i64 x)) (hz : w.frozen? ⟨b, 0, none⟩ = false) :
    Calls Try.prog 14 #[.pointer (some ⟨b, 0, none⟩), .int .i64 y] w fun e w' => e = .returned (.int .i64 (wrap64 (x + y))) ∧ w' = w.setCell ⟨b, 0, none⟩ (.int .i64 (wrap64 (x + y))) := by
  have hadd := run_call_add (P := Try.prog) Try.func17 (by kernel_rfl) (by kernel_rfl) (by kernel_rfl) .i64 (by kernel_rfl) (y := y) (s := wrap64 (x + y)) hc hz (by simp only [go_sem]; exact congrArg (fun v => Result.ok (Value.int .i64 v) w) (IntWalk.i64_left _))
  go_enter Try.func14, Try.ntmps14
  go_wp2
  go_ret
  exact ⟨rfl, rfl⟩

set_option maxHeartbeats 400000 in
theorem load64 (b : Nat) (x : Int) (w : World) (hc : w.cell? ⟨b, 0, none⟩ = some (.int .i64 x)) :
    Calls Try.prog 11 #[.pointer (some ⟨b, 0, none⟩)] w fun e w' => e = .returned (.int .i64 x) ∧ w' = w := by
  have hl := run_call_load (P := Try.prog) Try.func16 (by kernel_rfl) (by kernel_rfl) (by kernel_rfl) .i64 (by kernel_rfl) hc
  go_enter Try.func11, Try.ntmps11
  go_wp2
  go_ret
  exact ⟨rfl, rfl⟩

/-! ### ZZnewOpenCount, ZZocN -/
theorem bytes30 : ∃ i, Try.prog.info? 30 = some i ∧ i.bytes = 0 := by
  have h : (Try.prog.info? 30).map (·.bytes) = some 0 := by kernel_rfl
  obtain ⟨i, hi, hb⟩ := Option.map_eq_some_iff.1 h
  exact ⟨i, hi, hb⟩
theorem mk0 (w : World) : (Instr.makeChan 29 (.int .i64 0)).run Try.prog w = .ok (.chan (some w.heap.size)) (w.alloc (.chan 0 #[] false 0 0 false)) := by
  obtain ⟨i, hi, hb⟩ := bytes30
  simpa using run_makeChan (P := Try.prog) (w := w) Try.underlying29 hi .i64 0 (by omega) (by rw [hb]; omega)

theorem oc_new (w : World) (n : Int) : Oc ((w.alloc (.chan 0 #[] false 0 0 false)).alloc (.cells #[.int .i64 n, .chan (some w.heap.size), .int .u32 0, .int .i32 0, .int .u32 0] 46)) (w.heap.size + 1) w.heap.size n 0 0 false := by
  constructor
  · have h := heap_alloc_new (w.alloc (.chan 0 #[] false 0 0 false)) (.cells #[.int .i64 n, .chan (some w.heap.size), .int .u32 0, .int .i32 0, .int .u32 0] 46)
    rwa [World.size_alloc] at h
  · exact (Below.heap_alloc _ _ _ (by rw [World.size_alloc]; omega)).trans (heap_alloc_new _ _)

set_option maxHeartbeats 400000 in
theorem new_any (n : Int) (w : World) :
    Calls Try.prog 5 #[.int .i64 n] w fun e w' => e = .returned (.pointer (some ⟨w.heap.size + 1, 0, none⟩)) ∧ Oc w' (w.heap.size + 1) w.heap.size n 0 0 false ∧ Below w.heap.size w w' := by
  have hmk := mk0
  go_enter Try.func5, Try.ntmps5
  go_wp2_with (go_at_call 9; refine (store64 _ _ n _ (by exact (oc_new w 0).c0) (by exact (oc_new w 0).f 0)).mono ?_; rintro e w' ⟨rfl, rfl⟩)
  go_ret
  exact ⟨rfl, oc_new w n, ((Below.refl _ _).alloc (Nat.le_refl _) _).alloc (by simp) _⟩

set_option maxHeartbeats 400000 in
theorem ocN_any (b : Nat) (n : Int) (w : World) (hc : w.cell? ⟨b, 0, none⟩ = some (.int .i64 n)) :
    Calls Try.prog 8 #[.pointer (some ⟨b, 0, none⟩)] w fun e w' => e = .returned (.int .i64 n) ∧ w' = w := by
  go_enter Try.func8, Try.ntmps8
  go_wp2_with (go_at_call 11; refine (load64 _ n _ (by exact hc)).mono ?_; rintro e w' ⟨rfl, rfl⟩)
  go_ret
  exact ⟨rfl, rfl⟩
end Go.Proofs.Qxb6612697a
