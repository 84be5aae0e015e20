/- a text of the claims over the seat; its order and aim: NOTES.md -/
import Derived.Test.YtpllbhobcnglnaaGreatDoorTie
import Derived.Test.YtpllbhobcnglnaaGreatDoorCards
import Derived.ProofKit
import Derived.Lay
import Derived.LaidOnce
import Derived.OpenVars
import Derived.SevenTiedAt
namespace Go.Proofs.YtpllbhobcnglnaaGreatDoor
open Go Go.ChangeShapes Go.WideShapes Go.ChangeAt Go.RowKit

theorem andW {a b : Bool} (h : a = true) (k : b = true) : (a && b) = true := by rw [h, k]; rfl

set_option maxHeartbeats 8000000 in
theorem cores_closed : joinedFacts Tryz.pinned.checked.prog 9 Tryz.f9 Rows.fnZCoresSpec Rows.fnZCoresRow = true := by
  unfold joinedFacts
  repeat' with_reducible refine andW ?_ ?_
  all_goals (as_aux_lemma => kernel_rfl)
end Go.Proofs.YtpllbhobcnglnaaGreatDoor
