/- a text of the claims over the seat; its order and aim: NOTES.md -/
import Derived.Test.YtpllbhobcnglnaaGreatDoorZST
import Derived.Test.YtpllbhobcnglnaaGreatDoorZSQ
namespace Go.Proofs.YtpllbhobcnglnaaGreatDoor
open Go Go.ChangeShapes Go.WideShapes Go.ChangeAt Go.RowKit Go.Shelf Go.Lib Go.Proofs.Zap

theorem cores_named : Tryz.pinned.checked.prog.funcNamed Rows.fnZCoresRow.func = some 9 := by kernel_rfl
theorem cores_inst : Tryz.f9.isInstance Tryz.pinned.checked.prog Rows.fnZCoresRow.origin Rows.fnZCoresRow.targs := of_decide_eq_true (by kernel_rfl)
theorem cores_wrap : Tryz.f9.isWrapper Tryz.pinned.checked.prog Rows.fnZCoresRow.wrapper Rows.fnZCoresRow.mainSum := by
  unfold Func.isWrapper; first | (rw [if_pos (by decide +kernel)]; kernel_rfl) | (rw [if_neg (by decide +kernel)]; exact ⟨rfl, rfl⟩)
theorem cores_said : Rows.FnZCoresSaid :=
  OpenClaim.holds_of_wide 9 Tryz.f9 rfl rfl rfl rfl rfl rfl rfl ⟨rfl, rfl, rfl, rfl, rfl⟩ rfl rfl rfl rfl rfl cores_named Tryz.func9 cores_closed cores_inst cores_wrap
    (fun os started H enc _ => liftedC os started H enc)
end Go.Proofs.YtpllbhobcnglnaaGreatDoor
