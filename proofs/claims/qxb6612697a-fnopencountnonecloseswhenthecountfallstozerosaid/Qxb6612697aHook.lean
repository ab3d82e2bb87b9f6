/-
  'release', the hook that 'connState(nil)' returns, 'ZZocHook'.
-/
import Derived.Test.Qxb6612697aSlow
namespace Go.Proofs.Qxb6612697a
open Go.RowKit Go.Conc

theorem mkf (fn : Fn) (first cap : Array Value) (w : World) : (Instr.makeFunc fn first cap).run Try.prog w = .ok (.func fn first cap) w := rfl

theorem add64_to (b : Nat) (x y s : Int) (w : World) (hs : Hid (wrap64 (x + y) = s)) (hc : w.cell? ⟨b, 0, none⟩ = some (.int .i64 x)) (hz : w.frozen? ⟨b, 0, none⟩ = false) :
    Calls Try.prog 14 #[.pointer (some ⟨b, 0, none⟩), .int .i64 y] w fun e w' => e = .returned (.int .i64 s) ∧ w' = w.setCell ⟨b, 0, none⟩ (.int .i64 s) := by
  have h := hs.out
  subst h
  exact add64 b x y w hc hz

/-- The variable that holds the parameter which a closure captures, laid as the heap's last block. -/
theorem cap_new (w : World) (b : Nat) : Cap (w.alloc (.cells #[.pointer (some ⟨b, 0, none⟩)] 24)) w.heap.size b := heap_alloc_new _ _

set_option maxRecDepth 100000 in
set_option maxHeartbeats 800000 in
/-- 'release' where the count does not come to zero. -/
theorem rel_stay (B b cb : Nat) (n d s : Int) (cl : Bool) (w : World) (ho : Oc w b cb n d 0 cl) (hb : B ≤ b) (hs : Hid (wrap64 (n + -1) = s)) (hz : (s == 0) = false) :
    Calls Try.prog 15 #[.pointer (some ⟨b, 0, none⟩)] w fun e w' => e = .returned (.tuple #[]) ∧ Oc w' b cb s d 0 cl ∧ Below B w w' := by
  have hmf := mkf
  have hl := ho.lt
  have ho1 := ho.alloc (.cells #[.pointer (some ⟨b, 0, none⟩)] 24)
  go_enter Try.func15, Try.ntmps15
  go_wp2_with (go_at_call 14; refine (add64_to b n (-1) s _ hs (by exact ho1.c0) (by exact ho1.f 0)).mono ?_; rintro e w1 ⟨rfl, rfl⟩)
  go_end0
  exact ⟨rfl, (ho.set0 _).alloc _, ((Below.refl _ _).setCell hb _).alloc (by rw [World.size_setCell]; omega) _⟩

set_option maxRecDepth 100000 in
set_option maxHeartbeats 800000 in
/-- 'release' where the count comes to zero, for the first time. -/
theorem rel_first (B b cb : Nat) (n : Int) (w : World) (ho : Oc w b cb n 0 0 false) (hb : B ≤ b) (hcb : B ≤ cb) (hs : Hid (wrap64 (n + -1) = 0)) :
    Calls Try.prog 15 #[.pointer (some ⟨b, 0, none⟩)] w fun e w' => e = .returned (.tuple #[]) ∧ Oc w' b cb 0 1 0 true ∧ Below B w w' := by
  have hmf := mkf
  have hl := ho.lt
  have ho1 := ho.alloc (.cells #[.pointer (some ⟨b, 0, none⟩)] 24)
  have ho2 := (ho.set0 0).alloc (.cells #[.pointer (some ⟨b, 0, none⟩)] 24)
  have hB2 : Below B w ((w.setCell ⟨b, 0, none⟩ (.int .i64 0)).alloc (.cells #[.pointer (some ⟨b, 0, none⟩)] 24)) :=
    ((Below.refl _ _).setCell hb _).alloc (by rw [World.size_setCell]; omega) _
  have hp2 : Cap ((w.setCell ⟨b, 0, none⟩ (.int .i64 0)).alloc (.cells #[.pointer (some ⟨b, 0, none⟩)] 24)) w.heap.size b := by
    have h := cap_new (w.setCell ⟨b, 0, none⟩ (.int .i64 0)) b
    rwa [World.size_setCell] at h
  have hc2 := hp2.c
  go_enter Try.func15, Try.ntmps15
  go_wp2_with (first
    | (go_at_call 14; refine (add64_to b n (-1) 0 _ hs (by exact ho1.c0) (by exact ho1.f 0)).mono ?_; rintro e w1 ⟨rfl, rfl⟩)
    | (go_at_call 18; refine (do_first B _ b cb 0 _ ho2 hp2 hb hcb).mono ?_; rintro e w3 ⟨rfl, ho3, hB3⟩))
  go_end0
  exact ⟨rfl, ho3, hB2.trans hB3⟩

set_option maxRecDepth 100000 in
set_option maxHeartbeats 800000 in
/-- 'release' where the count comes to zero again. -/
theorem rel_again (B b cb : Nat) (n : Int) (cl : Bool) (w : World) (ho : Oc w b cb n 1 0 cl) (hb : B ≤ b) (hs : Hid (wrap64 (n + -1) = 0)) :
    Calls Try.prog 15 #[.pointer (some ⟨b, 0, none⟩)] w fun e w' => e = .returned (.tuple #[]) ∧ Oc w' b cb 0 1 0 cl ∧ Below B w w' := by
  have hmf := mkf
  have hl := ho.lt
  have ho1 := ho.alloc (.cells #[.pointer (some ⟨b, 0, none⟩)] 24)
  have ho2 := (ho.set0 0).alloc (.cells #[.pointer (some ⟨b, 0, none⟩)] 24)
  have hB2 : Below B w ((w.setCell ⟨b, 0, none⟩ (.int .i64 0)).alloc (.cells #[.pointer (some ⟨b, 0, none⟩)] 24)) :=
    ((Below.refl _ _).setCell hb _).alloc (by rw [World.size_setCell]; omega) _
  have hp2 : Cap ((w.setCell ⟨b, 0, none⟩ (.int .i64 0)).alloc (.cells #[.pointer (some ⟨b, 0, none⟩)] 24)) w.heap.size b := by
    have h := cap_new (w.setCell ⟨b, 0, none⟩ (.int .i64 0)) b
    rwa [World.size_setCell] at h
  have hc2 := hp2.c
  go_enter Try.func15, Try.ntmps15
  go_wp2_with (first
    | (go_at_call 14; refine (add64_to b n (-1) 0 _ hs (by exact ho1.c0) (by exact ho1.f 0)).mono ?_; rintro e w1 ⟨rfl, rfl⟩)
    | (go_at_call 18; refine (do_done b cb 0 cl _ _ ho2).mono ?_; rintro e w3 ⟨rfl, rfl⟩))
  go_end0
  exact ⟨rfl, ho2, hB2⟩
end Go.Proofs.Qxb6612697a
