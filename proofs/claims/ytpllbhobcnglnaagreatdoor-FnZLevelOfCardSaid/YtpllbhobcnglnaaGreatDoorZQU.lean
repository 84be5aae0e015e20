/- a text of the claims over the seat; its order and aim: NOTES.md -/
import Derived.Test.YtpllbhobcnglnaaGreatDoorZQT
import Derived.Test.YtpllbhobcnglnaaGreatDoorZQS
namespace Go.Proofs.YtpllbhobcnglnaaGreatDoor
open Go Go.ChangeShapes Go.WideShapes Go.ChangeAt Go.RowKit Go.Shelf Go.Lib Go.Proofs.Zap

theorem level_named : Tryz.pinned.checked.prog.funcNamed Rows.fnZLevelOfRow.func = some 7 := by kernel_rfl
theorem level_inst : Tryz.f7.isInstance Tryz.pinned.checked.prog Rows.fnZLevelOfRow.origin Rows.fnZLevelOfRow.targs := of_decide_eq_true (by kernel_rfl)
theorem level_wrap : Tryz.f7.isWrapper Tryz.pinned.checked.prog Rows.fnZLevelOfRow.wrapper Rows.fnZLevelOfRow.mainSum := by
  unfold Func.isWrapper; first | (rw [if_pos (by decide +kernel)]; kernel_rfl) | (rw [if_neg (by decide +kernel)]; exact ⟨rfl, rfl⟩)
theorem level_said : Rows.FnZLevelOfSaid :=
  OpenClaim.holds_of_wide 7 Tryz.f7 rfl rfl rfl rfl rfl rfl rfl ⟨rfl, rfl, rfl, rfl, rfl⟩ rfl rfl rfl rfl rfl level_named Tryz.func7 level_closed level_inst level_wrap
    (fun os started H enc _ => liftedV os started H enc)
end Go.Proofs.YtpllbhobcnglnaaGreatDoor
