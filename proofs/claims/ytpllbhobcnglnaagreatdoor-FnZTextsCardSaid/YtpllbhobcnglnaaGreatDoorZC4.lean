/- a text of the claims over the seat; its order and aim: NOTES.md -/
import Derived.Test.YtpllbhobcnglnaaGreatDoorZC3
namespace Go.Proofs.YtpllbhobcnglnaaGreatDoor
open Go Go.ChangeShapes Go.WideShapes Go.ChangeAt Go.RowKit Go.Shelf Go.Lib Go.Proofs.Zap

theorem texts_named : Tryz.pinned.checked.prog.funcNamed Rows.fnZTextsRow.func = some 4 := by kernel_rfl
theorem texts_inst : Tryz.f4.isInstance Tryz.pinned.checked.prog Rows.fnZTextsRow.origin Rows.fnZTextsRow.targs := of_decide_eq_true (by kernel_rfl)
theorem texts_wrap : Tryz.f4.isWrapper Tryz.pinned.checked.prog Rows.fnZTextsRow.wrapper Rows.fnZTextsRow.mainSum := by
  unfold Func.isWrapper; first | (rw [if_pos (by decide +kernel)]; kernel_rfl) | (rw [if_neg (by decide +kernel)]; exact ⟨rfl, rfl⟩)
theorem texts_said : Rows.FnZTextsSaid :=
  OpenClaim.holds_of_wide 4 Tryz.f4 rfl rfl rfl rfl rfl rfl rfl ⟨rfl, rfl, rfl, rfl, rfl⟩ rfl rfl rfl rfl rfl texts_named Tryz.func4 texts_closed texts_inst texts_wrap
    (fun os started H enc _ => lifted os started H enc)
end Go.Proofs.YtpllbhobcnglnaaGreatDoor
