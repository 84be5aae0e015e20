/- a text of the claims over the seat; its order and aim: NOTES.md -/
import Derived.Test.YtpllbhobcnglnaaGreatDoorZTM
import Derived.Test.YtpllbhobcnglnaaGreatDoorZTN
namespace Go.Proofs.YtpllbhobcnglnaaGreatDoor
open Go Go.ChangeShapes Go.WideShapes Go.ChangeAt Go.RowKit Go.Shelf Go.Lib Go.Proofs.Zap

theorem times_named : Tryz.pinned.checked.prog.funcNamed Rows.fnZTimesRow.func = some 6 := by kernel_rfl
theorem times_inst : Tryz.f6.isInstance Tryz.pinned.checked.prog Rows.fnZTimesRow.origin Rows.fnZTimesRow.targs := of_decide_eq_true (by kernel_rfl)
theorem times_wrap : Tryz.f6.isWrapper Tryz.pinned.checked.prog Rows.fnZTimesRow.wrapper Rows.fnZTimesRow.mainSum := by
  unfold Func.isWrapper; first | (rw [if_pos (by decide +kernel)]; kernel_rfl) | (rw [if_neg (by decide +kernel)]; exact ⟨rfl, rfl⟩)
theorem times_said : Rows.FnZTimesSaid :=
  OpenClaim.holds_of_wide 6 Tryz.f6 rfl rfl rfl rfl rfl rfl rfl ⟨rfl, rfl, rfl, rfl, rfl⟩ rfl rfl rfl rfl rfl times_named Tryz.func6 times_closed times_inst times_wrap
    (fun os started H enc _ => liftedZ os started H enc)
end Go.Proofs.YtpllbhobcnglnaaGreatDoor
