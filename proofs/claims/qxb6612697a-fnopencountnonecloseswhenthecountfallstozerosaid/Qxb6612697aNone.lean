/-
  'ZZocNoneClosed': a select of one receive, with a default, IN ONE GOROUTINE: the channel is open and empty: the default; closed: the case.
-/
import Derived.Test.Qxb6612697aHook2
namespace Go.Proofs.Qxb6612697a
open Go.RowKit Go.Conc

set_option maxRecDepth 100000 in
set_option maxHeartbeats 800000 in
theorem none_open (b cb : Nat) (n d st : Int) (w : World) (ho : Oc w b cb n d st false) :
    Calls Try.prog 7 #[.pointer (some ⟨b, 0, none⟩)] w fun e w' => e = .returned (.bool false) ∧ w' = w := by
  refine calls_of_loneTo fun cs => ?_
  have e : Frame.enter Try.prog 7 #[.pointer (some ⟨b, 0, none⟩)] .normal = (base 7).at ⟨#[.pointer (some ⟨b, 0, none⟩), undef, undef, undef, undef, undef, undef, undef, undef, undef], []⟩ [.code (Try.f7.body.getD .skip)] := by
    simp [Frame.enter, Frame.at, Try.func7, base, Try.f7]
  rw [e]
  have h1 := ho.c1
  refine LoneTo.goes (n := 13) ?_
  simp only [Try.f7, Option.getD_some]
  s_c stepG_seq
  s_reg
  s_op
  s_c stepG_region_end
  s_c stepG_seq
  s_reg
  s_op
  s_op
  s_op
  s_op
  s_c stepG_region_end
  s_c stepG_seq
  s_reg
  s_stop
  refine LoneTo.step (step_lone_select_default (c := cb) (z := .agg #[]) (cap := 0) (s := 0) (r := 0) (tm := false) (stepG_comm (cases := #[rcase cb (.agg #[])]) (blocking := false) (shape := .select) (w' := w) rfl rfl (by decide) (by simp [go_sem, execOp, rcase, Act.eval])) ho.chan) ?_
  rw [Frame.finish_at]
  walk_nrm
  refine LoneTo.goes (n := 10) ?_
  s_op
  s_op
  s_c stepG_region_end
  s_c stepG_block
  s_cond false
  s_c stepG_seq
  s_reg
  s_op
  s_c stepG_region_end
  s_c stepG_ret'
  s_stop
  exact LoneTo.done ⟨.returned (.bool false), _, rfl, ⟨rfl, rfl⟩, rfl, rfl, rfl, rfl, _, Try.func7, by simp [results, Try.f7, Frame.at]⟩

set_option maxRecDepth 100000 in
set_option maxHeartbeats 800000 in
theorem none_shut (b cb : Nat) (n d st : Int) (w : World) (ho : Oc w b cb n d st true) :
    Calls Try.prog 7 #[.pointer (some ⟨b, 0, none⟩)] w fun e w' => e = .returned (.bool true) ∧ w' = w := by
  refine calls_of_loneTo fun cs => ?_
  have e : Frame.enter Try.prog 7 #[.pointer (some ⟨b, 0, none⟩)] .normal = (base 7).at ⟨#[.pointer (some ⟨b, 0, none⟩), undef, undef, undef, undef, undef, undef, undef, undef, undef], []⟩ [.code (Try.f7.body.getD .skip)] := by
    simp [Frame.enter, Frame.at, Try.func7, base, Try.f7]
  rw [e]
  have h1 := ho.c1
  refine LoneTo.goes (n := 13) ?_
  simp only [Try.f7, Option.getD_some]
  s_c stepG_seq
  s_reg
  s_op
  s_c stepG_region_end
  s_c stepG_seq
  s_reg
  s_op
  s_op
  s_op
  s_op
  s_c stepG_region_end
  s_c stepG_seq
  s_reg
  s_stop
  refine LoneTo.step (step_lone_select_recv_shut (c := cb) (z := .agg #[]) (cap := 0) (s := 0) (r := 0) (tm := false) (stepG_comm (cases := #[rcase cb (.agg #[])]) (blocking := false) (shape := .select) (w' := w) rfl rfl (by decide) (by simp [go_sem, execOp, rcase, Act.eval])) ho.chan) ?_
  rw [Frame.finish_at]
  walk_nrm
  refine LoneTo.goes (n := 10) ?_
  s_op
  s_op
  s_c stepG_region_end
  s_c stepG_block
  s_cond true
  s_c stepG_seq
  s_reg
  s_op
  s_c stepG_region_end
  s_c stepG_ret'
  s_stop
  exact LoneTo.done ⟨.returned (.bool true), _, rfl, ⟨rfl, rfl⟩, rfl, rfl, rfl, rfl, _, Try.func7, by simp [results, Try.f7, Frame.at]⟩

theorem none_any (b cb : Nat) (n : Int) (fell : Bool) (w : World) (ho : OcS w b cb n fell) :
    Calls Try.prog 7 #[.pointer (some ⟨b, 0, none⟩)] w fun e w' => e = .returned (.bool fell) ∧ w' = w := by
  unfold OcS at ho
  cases fell
  · exact none_open b cb n _ 0 w ho
  · exact none_shut b cb n _ 0 w ho
end Go.Proofs.Qxb6612697a
