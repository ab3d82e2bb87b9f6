/-
  THE LAW's WALK: the loop over the script.
-/
import Derived.Test.Qxb6612697aNone
namespace Go.Proofs.Qxb6612697a
open Go.RowKit Go.Conc

theorem hid {p : Prop} (h : p) : Hid p := h
theorem lt_of_cell {w : World} {a : Addr} {v : Value} (h : w.cell? a = some v) : a.block < w.heap.size := by
  unfold World.cell? at h
  split at h
  · rename_i hb
    exact (Array.getElem?_eq_some_iff.1 hb).1
  · cases h

set_option maxHeartbeats 400000 in
/-- The bound on the length: too long. -/
theorem bytes_no (n : Int) (a : Option Addr) (len cap : Nat) (w : World) (h : 1048576 < (len : Int)) :
    Calls Try.prog 4 #[.int .i64 n, .slice a len cap] w fun e w' => e = .returned (.bool false) ∧ w' = w := by
  go_enter Try.func4, Try.ntmps4
  go_wp2
  go_ret
  exact ⟨rfl, rfl⟩

set_option maxHeartbeats 400000 in
/-- The bound on the length: not too long. -/
theorem bytes_yes (n : Int) (a : Option Addr) (len cap : Nat) (w : World) (h : (len : Int) ≤ 1048576) :
    Calls Try.prog 4 #[.int .i64 n, .slice a len cap] w fun e w' => e = .returned (.bool true) ∧ w' = w := by
  have h' : ¬ 1048576 < (len : Int) := by omega
  go_enter Try.func4, Try.ntmps4
  go_wp2
  go_ret
  exact ⟨rfl, rfl⟩

/-! ### The hook at each kind of step -/
theorem hook0 (B b cb : Nat) (n : Int) (fell : Bool) (w : World) (ho : OcS w b cb n fell) (hb : B ≤ b) (hcb : B ≤ cb) :
    Calls Try.prog 6 #[.pointer (some ⟨b, 0, none⟩), .int .i64 0] w fun e w' => e = .returned (.tuple #[]) ∧ OcS w' b cb (wrap64 (n + 1)) fell ∧ Below B w w' := by
  have e1 : stepN 0 n = wrap64 (n + 1) := by simp [stepN]
  have e2 : stepF 0 n fell = fell := by simp [stepF]
  have h := hook_any B b cb n 0 fell w ho hb hcb
  rwa [e1, e2] at h
theorem hook_down (B b cb : Nat) (n st : Int) (fell : Bool) (w : World) (hst : Hid (st = 4 ∨ st = 3)) (ho : OcS w b cb n fell) (hb : B ≤ b) (hcb : B ≤ cb) :
    Calls Try.prog 6 #[.pointer (some ⟨b, 0, none⟩), .int .i64 st] w fun e w' => e = .returned (.tuple #[]) ∧ OcS w' b cb (wrap64 (n - 1)) (fell || (wrap64 (n - 1) == 0)) ∧ Below B w w' := by
  have h0 : ¬ st = 0 := by rcases hst.out with h | h <;> omega
  have e1 : stepN st n = wrap64 (n - 1) := by simp [stepN, h0, hst.out]
  have e2 : stepF st n fell = (fell || (wrap64 (n - 1) == 0)) := by rcases hst.out with h | h <;> simp [stepF, h]
  have h := hook_any B b cb n st fell w ho hb hcb
  rwa [e1, e2] at h
theorem hook_zero (B b cb : Nat) (n st : Int) (fell : Bool) (w : World) (hst : Hid (st = 4 ∨ st = 3)) (hz : Hid (wrap64 (n - 1) = 0)) (ho : OcS w b cb n fell) (hb : B ≤ b) (hcb : B ≤ cb) :
    Calls Try.prog 6 #[.pointer (some ⟨b, 0, none⟩), .int .i64 st] w fun e w' => e = .returned (.tuple #[]) ∧ OcS w' b cb 0 true ∧ Below B w w' := by
  have h := hook_down B b cb n st fell w hst ho hb hcb
  rw [hz.out] at h
  simpa using h
theorem hook_more (B b cb : Nat) (n st : Int) (fell : Bool) (w : World) (hst : Hid (st = 4 ∨ st = 3)) (hz : Hid (¬ wrap64 (n - 1) = 0)) (ho : OcS w b cb n fell) (hb : B ≤ b) (hcb : B ≤ cb) :
    Calls Try.prog 6 #[.pointer (some ⟨b, 0, none⟩), .int .i64 st] w fun e w' => e = .returned (.tuple #[]) ∧ OcS w' b cb (wrap64 (n - 1)) fell ∧ Below B w w' := by
  have h := hook_down B b cb n st fell w hst ho hb hcb
  have e2 : (fell || (wrap64 (n - 1) == 0)) = fell := by simp [hz.out]
  rwa [e2] at h
theorem hook_idle (B b cb : Nat) (n st : Int) (fell : Bool) (w : World) (h0 : Hid (¬ st = 0)) (h4 : Hid (¬ st = 4)) (h3 : Hid (¬ st = 3)) (ho : OcS w b cb n fell) (hb : B ≤ b) (hcb : B ≤ cb) :
    Calls Try.prog 6 #[.pointer (some ⟨b, 0, none⟩), .int .i64 st] w fun e w' => e = .returned (.tuple #[]) ∧ OcS w' b cb n fell ∧ Below B w w' := by
  have e1 : stepN st n = n := by simp [stepN, h0.out, h4.out, h3.out]
  have e2 : stepF st n fell = fell := by simp [stepF, h4.out, h3.out]
  have h := hook_any B b cb n st fell w ho hb hcb
  rwa [e1, e2] at h

set_option maxRecDepth 100000 in
set_option maxHeartbeats 800000 in
theorem law_some (a0 : Int) (x : Addr) (len cap : Nat) (zs : List Int) (w : World) (hlc : len ≤ cap) (hcz : zs.length = cap) (hlen : (len : Int) ≤ 65536) (h0 : ¬ a0 < 0)
    (hcell : ∀ i, i < zs.length → w.cell? (x.add i) = some (.int .i64 (zs.getD i 0))) :
    Calls Try.prog 3 #[.int .i64 a0, .slice (some x) len cap] w fun e w' => e = .returned (.bool true) ∧ Below w.heap.size w w' := by
  have hnot := not_bool
  have hlen' : ¬ 65536 < (len : Int) := by omega
  have HC := hid hcell
  have HZ := hid hcz
  clear hcell hcz
  go_enter Try.func3, Try.ntmps3
  go_wp2_with (first
    | (go_at_call 4; refine (bytes_yes _ _ _ _ _ (by omega)).mono ?_; rintro e w ⟨rfl, rfl⟩)
    | (go_at_call 5; refine (new_any _ _).mono ?_; rintro e w2 ⟨rfl, hn2, hB2⟩))
  go_loopw [6, 7, 8] (fun vn vf vi wr => ∃ (k : Nat) (n : Int) (fell : Bool), k ≤ len ∧ vi = .int .i64 k ∧ vn = .int .i64 n ∧ vf = .bool fell ∧ OcS wr (w.heap.size + 1) w.heap.size n fell ∧ Below w.heap.size w wr) (fun _ _ i _ => len - (intOf i).toNat)
  case atStart => exact ⟨0, a0, false, Nat.zero_le _, rfl, rfl, rfl, hn2, hB2⟩
  case round =>
    obtain ⟨k, n, fell, hk, rfl, rfl, rfl, ho, hB⟩ := hrel
    by_cases hlt : k < len
    · have hc0 := HC.out k (by rw [HZ.out]; omega)
      have hcell : wr.cell? (x.add k) = some (.int .i64 (zs.getD k 0)) := (hB.cell (lt_of_cell hc0)).trans hc0
      clear hc0
      generalize zs.getD k 0 = st at hcell
      by_cases s0 : st = 0
      · subst s0
        go_wp2_with (first
          | (go_at_call 6; refine (hook0 _ _ _ n fell _ ho (Nat.le_succ _) (Nat.le_refl _)).mono ?_; rintro e w3 ⟨rfl, ho3, hB3⟩)
          | (go_at_call 7; refine (none_any _ _ _ _ _ (by exact ho3)).mono ?_; rintro e w3 ⟨rfl, rfl⟩))
        exact ⟨⟨k + 1, _, fell, by omega, by go_num, rfl, rfl, ho3, hB.trans hB3⟩, by simp [intOf]; omega⟩
      by_cases s4 : st = 4
      · subst s4
        by_cases hz : wrap64 (n - 1) = 0
        · have HZ0 := hid hz
          go_wp2_with (first
            | (go_at_call 6; refine (hook_zero _ _ _ n 4 fell _ (.inl rfl) HZ0 ho (Nat.le_succ _) (Nat.le_refl _)).mono ?_; rintro e w3 ⟨rfl, ho3, hB3⟩)
            | (go_at_call 7; refine (none_any _ _ _ _ _ (by exact ho3)).mono ?_; rintro e w3 ⟨rfl, rfl⟩))
          exact ⟨⟨k + 1, _, true, by omega, by go_num, rfl, rfl, ho3, hB.trans hB3⟩, by simp [intOf]; omega⟩
        · have HZ0 := hid hz
          go_wp2_with (first
            | (go_at_call 6; refine (hook_more _ _ _ n 4 fell _ (.inl rfl) HZ0 ho (Nat.le_succ _) (Nat.le_refl _)).mono ?_; rintro e w3 ⟨rfl, ho3, hB3⟩)
            | (go_at_call 7; refine (none_any _ _ _ _ _ (by exact ho3)).mono ?_; rintro e w3 ⟨rfl, rfl⟩))
          exact ⟨⟨k + 1, _, fell, by omega, by go_num, rfl, rfl, ho3, hB.trans hB3⟩, by simp [intOf]; omega⟩
      by_cases s3 : st = 3
      · subst s3
        by_cases hz : wrap64 (n - 1) = 0
        · have HZ0 := hid hz
          go_wp2_with (first
            | (go_at_call 6; refine (hook_zero _ _ _ n 3 fell _ (.inr rfl) HZ0 ho (Nat.le_succ _) (Nat.le_refl _)).mono ?_; rintro e w3 ⟨rfl, ho3, hB3⟩)
            | (go_at_call 7; refine (none_any _ _ _ _ _ (by exact ho3)).mono ?_; rintro e w3 ⟨rfl, rfl⟩))
          exact ⟨⟨k + 1, _, true, by omega, by go_num, rfl, rfl, ho3, hB.trans hB3⟩, by simp [intOf]; omega⟩
        · have HZ0 := hid hz
          go_wp2_with (first
            | (go_at_call 6; refine (hook_more _ _ _ n 3 fell _ (.inr rfl) HZ0 ho (Nat.le_succ _) (Nat.le_refl _)).mono ?_; rintro e w3 ⟨rfl, ho3, hB3⟩)
            | (go_at_call 7; refine (none_any _ _ _ _ _ (by exact ho3)).mono ?_; rintro e w3 ⟨rfl, rfl⟩))
          exact ⟨⟨k + 1, _, fell, by omega, by go_num, rfl, rfl, ho3, hB.trans hB3⟩, by simp [intOf]; omega⟩
      have H0 := hid s0
      have H4 := hid s4
      have H3 := hid s3
      have b0 : (st == 0) = false := by simp [s0]
      have b4 : (st == 4) = false := by simp [s4]
      have b3 : (st == 3) = false := by simp [s3]
      clear s0 s4 s3
      go_wp2_with (first
        | (go_at_call 6; refine (hook_idle _ _ _ n st fell _ H0 H4 H3 ho (Nat.le_succ _) (Nat.le_refl _)).mono ?_; rintro e w3 ⟨rfl, ho3, hB3⟩)
        | (go_at_call 7; refine (none_any _ _ _ _ _ (by exact ho3)).mono ?_; rintro e w3 ⟨rfl, rfl⟩))
      exact ⟨⟨k + 1, _, fell, by omega, by go_num, rfl, rfl, ho3, hB.trans hB3⟩, by simp [intOf]; omega⟩
    · go_wp2_with (go_at_call 8; refine (ocN_any _ n _ (by exact Oc.c0 ho)).mono ?_; rintro e w3 ⟨rfl, rfl⟩)
      go_ret
      exact ⟨by simp, hB⟩

set_option maxRecDepth 100000 in
set_option maxHeartbeats 800000 in
/-- A nil slice: no round. -/
theorem law_nil (a0 : Int) (w : World) (h0 : ¬ a0 < 0) :
    Calls Try.prog 3 #[.int .i64 a0, .slice none 0 0] w fun e w' => e = .returned (.bool true) ∧ Below w.heap.size w w' := by
  have hnot := not_bool
  go_enter Try.func3, Try.ntmps3
  go_wp2_with (first
    | (go_at_call 4; refine (bytes_yes _ _ _ _ _ (by decide)).mono ?_; rintro e w ⟨rfl, rfl⟩)
    | (go_at_call 5; refine (new_any _ _).mono ?_; rintro e w2 ⟨rfl, hn2, hB2⟩))
  go_loopw [6, 7, 8] (fun vn vf vi wr => vi = .int .i64 0 ∧ vn = .int .i64 a0 ∧ vf = .bool false ∧ wr = w2) (fun _ _ _ _ => 0)
  case atStart => exact ⟨rfl, rfl, rfl, rfl⟩
  case round =>
    obtain ⟨rfl, rfl, rfl, rfl⟩ := hrel
    go_wp2_with (go_at_call 8; refine (ocN_any _ a0 _ (by exact Oc.c0 hn2)).mono ?_; rintro e w3 ⟨rfl, rfl⟩)
    go_ret
    exact ⟨by simp, hB2⟩

set_option maxRecDepth 100000 in
set_option maxHeartbeats 800000 in
/-- A script longer than 2^20. -/
theorem law_great (a0 : Int) (a : Option Addr) (len cap : Nat) (w : World) (h : 1048576 < (len : Int)) :
    Calls Try.prog 3 #[.int .i64 a0, .slice a len cap] w fun e w' => e = .returned (.bool true) ∧ w' = w := by
  have hnot := not_bool
  go_enter Try.func3, Try.ntmps3
  go_wp2_with (go_at_call 4; refine (bytes_no _ _ _ _ _ h).mono ?_; rintro e w ⟨rfl, rfl⟩)
  go_ret
  exact ⟨rfl, rfl⟩

set_option maxRecDepth 100000 in
set_option maxHeartbeats 800000 in
/-- A script longer than 2^16. -/
theorem law_long (a0 : Int) (a : Option Addr) (len cap : Nat) (w : World) (h : 65536 < (len : Int)) (h' : (len : Int) ≤ 1048576) :
    Calls Try.prog 3 #[.int .i64 a0, .slice a len cap] w fun e w' => e = .returned (.bool true) ∧ w' = w := by
  have hnot := not_bool
  go_enter Try.func3, Try.ntmps3
  go_wp2_with (go_at_call 4; refine (bytes_yes _ _ _ _ _ h').mono ?_; rintro e w ⟨rfl, rfl⟩)
  go_ret
  exact ⟨rfl, rfl⟩

set_option maxRecDepth 100000 in
set_option maxHeartbeats 800000 in
/-- A negative count. -/
theorem law_neg (a0 : Int) (a : Option Addr) (len cap : Nat) (w : World) (h' : (len : Int) ≤ 65536) (h0 : a0 < 0) :
    Calls Try.prog 3 #[.int .i64 a0, .slice a len cap] w fun e w' => e = .returned (.bool true) ∧ w' = w := by
  have hnot := not_bool
  have hl : ¬ 65536 < (len : Int) := by omega
  go_enter Try.func3, Try.ntmps3
  go_wp2_with (go_at_call 4; refine (bytes_yes _ _ _ _ _ (by omega)).mono ?_; rintro e w ⟨rfl, rfl⟩)
  go_ret
  exact ⟨rfl, rfl⟩
end Go.Proofs.Qxb6612697a
