/- a text of the claims over the seat; its order and aim: NOTES.md -/
import Derived.Test.YtpllbhobcnglnaaGreatDoorZC2
namespace Go.Proofs.YtpllbhobcnglnaaGreatDoor
open Go Go.ChangeShapes Go.WideShapes Go.ChangeAt Go.RowKit Go.Shelf Go.Lib Go.Proofs.Zap

theorem andI {a b : Bool} (h : a = true) (k : b = true) : (a && b) = true := by rw [h, k]; rfl

set_option maxHeartbeats 8000000 in
theorem texts_closed : joinedFacts Tryz.pinned.checked.prog 4 Tryz.f4 Rows.fnZTextsSpec Rows.fnZTextsRow = true := by
  unfold joinedFacts
  repeat' with_reducible refine andI ?_ ?_
  all_goals (as_aux_lemma => kernel_rfl)
end Go.Proofs.YtpllbhobcnglnaaGreatDoor
