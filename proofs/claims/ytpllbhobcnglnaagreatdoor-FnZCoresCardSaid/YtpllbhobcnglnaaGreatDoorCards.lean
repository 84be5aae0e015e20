/-
  DERIVED. GIVEN WITH THE SEED: THE CARDS: each row of YtpllbhobcnglnaaGreatDoorRows.lean that lists a variable, with what it lists TIED to the program's text (the seventh form; the later family's looks); each row that meets fmt, with fmt's text TOLD by the authors' own Lean function (tested against real Go, not proved from fmt's source: count such statements apart). THE CARD IS WHAT COUNTS. Prove the row's statement (the work); the ties are given (YtpllbhobcnglnaaGreatDoorTie.lean); close each card by the builder's one call (the guide's Derived/Test/ToyasCard.lean, 'card_holds'). Laid BY PROGRAM, IN A SANDBOX (cutbox-door.mjs). By AI agents, Wed Nov 11 2026. No macro, syntax, notation, axiom, sorry.
-/
import Derived.Test.YtpllbhobcnglnaaGreatDoorRows
import GoSem.ClaimSeven
namespace Go.Proofs.YtpllbhobcnglnaaGreatDoor
namespace Rows

/-- THE TIED CARD OF 'laws.FnZDurations'. -/
def fnZDurationsCard : Claim7 := { stood := { row := fnZDurationsRow, standIns := [], harness := (true, "cb4bdb1da3b3cf9eae59bef25aee2c92e4fcea086305c3da1c56fa1ae66cda44"), looks := true }, kinds := [], alts := [], laidByText := true, laidKinds := [.data, .data, .data, .data, .data, .data, .data, .pinned], laidTests := true, laidLooks := .later }
def FnZDurationsCardSaid : Prop := Claim7.holds Tryz.pinned (.plain (OpenSpec.ofChange fnZDurationsSpec)) fnZDurationsCard

/-- THE TIED CARD OF 'laws.FnZTexts'. -/
def fnZTextsCard : Claim7 := { stood := { row := fnZTextsRow, standIns := [], harness := (true, "cb4bdb1da3b3cf9eae59bef25aee2c92e4fcea086305c3da1c56fa1ae66cda44"), looks := true }, kinds := [], alts := [], laidByText := true, laidKinds := [.data, .data, .data, .data, .data, .data, .data, .pinned], laidTests := true, laidLooks := .later }
def FnZTextsCardSaid : Prop := Claim7.holds Tryz.pinned (.plain (OpenSpec.ofChange fnZTextsSpec)) fnZTextsCard

/-- THE TIED CARD OF 'laws.FnZEpoch'. -/
def fnZEpochCard : Claim7 := { stood := { row := fnZEpochRow, standIns := [], harness := (true, "cb4bdb1da3b3cf9eae59bef25aee2c92e4fcea086305c3da1c56fa1ae66cda44"), looks := true }, kinds := [], alts := [], laidByText := true, laidKinds := [.data, .data, .data, .data, .data, .data, .data, .pinned], laidTests := true, laidLooks := .later }
def FnZEpochCardSaid : Prop := Claim7.holds Tryz.pinned (.plain (OpenSpec.ofChange fnZEpochSpec)) fnZEpochCard

/-- THE TIED CARD OF 'laws.FnZTimes'. -/
def fnZTimesCard : Claim7 := { stood := { row := fnZTimesRow, standIns := [], harness := (true, "cb4bdb1da3b3cf9eae59bef25aee2c92e4fcea086305c3da1c56fa1ae66cda44"), looks := true }, kinds := [], alts := [], laidByText := true, laidKinds := [.data, .data, .data, .data, .data, .data, .data, .pinned], laidTests := true, laidLooks := .later }
def FnZTimesCardSaid : Prop := Claim7.holds Tryz.pinned (.plain (OpenSpec.ofChange fnZTimesSpec)) fnZTimesCard

/-- THE TIED CARD OF 'laws.FnZLevelOf'. -/
def fnZLevelOfCard : Claim7 := { stood := { row := fnZLevelOfRow, standIns := [], harness := (true, "cb4bdb1da3b3cf9eae59bef25aee2c92e4fcea086305c3da1c56fa1ae66cda44"), looks := true }, kinds := [], alts := [], laidByText := true, laidKinds := [.data, .data, .data, .data, .data, .data], laidTests := true, laidLooks := .later }
def FnZLevelOfCardSaid : Prop := Claim7.holds Tryz.pinned (.plain (OpenSpec.ofChange fnZLevelOfSpec)) fnZLevelOfCard

/-- THE TIED CARD OF 'laws.FnZFloats'. -/
def fnZFloatsCard : Claim7 := { stood := { row := fnZFloatsRow, standIns := [], harness := (true, "cb4bdb1da3b3cf9eae59bef25aee2c92e4fcea086305c3da1c56fa1ae66cda44"), looks := true }, kinds := [], alts := [], laidByText := true, laidKinds := [.data, .pinned], laidTests := true, laidLooks := .later }
def FnZFloatsCardSaid : Prop := Claim7.holds Tryz.pinned (.plain (OpenSpec.ofChange fnZFloatsSpec)) fnZFloatsCard

/-- THE TIED CARD OF 'laws.FnZCores'. -/
def fnZCoresCard : Claim7 := { stood := { row := fnZCoresRow, standIns := [], harness := (true, "cb4bdb1da3b3cf9eae59bef25aee2c92e4fcea086305c3da1c56fa1ae66cda44"), looks := true }, kinds := [], alts := [], laidByText := true, laidKinds := [.data, .data, .data, .data, .data, .data], laidTests := true, laidLooks := .later }
def FnZCoresCardSaid : Prop := Claim7.holds Tryz.pinned (.plain (OpenSpec.ofChange fnZCoresSpec)) fnZCoresCard

/-- THE TIED CARD OF 'laws.FnZWith'. -/
def fnZWithCard : Claim7 := { stood := { row := fnZWithRow, standIns := [], harness := (true, "cb4bdb1da3b3cf9eae59bef25aee2c92e4fcea086305c3da1c56fa1ae66cda44"), looks := true }, kinds := [], alts := [], laidByText := true, laidKinds := [.data, .data, .data, .data, .data, .data], laidTests := true, laidLooks := .later }
def FnZWithCardSaid : Prop := Claim7.holds Tryz.pinned (.plain (OpenSpec.ofChange fnZWithSpec)) fnZWithCard

/-- THE TIED CARD OF 'laws.FnZClones'. -/
def fnZClonesCard : Claim7 := { stood := { row := fnZClonesRow, standIns := [], harness := (true, "cb4bdb1da3b3cf9eae59bef25aee2c92e4fcea086305c3da1c56fa1ae66cda44"), looks := true }, kinds := [], alts := [], laidByText := true, laidKinds := [.data, .data, .data, .data, .data, .data], laidTests := true, laidLooks := .later }
def FnZClonesCardSaid : Prop := Claim7.holds Tryz.pinned (.plain (OpenSpec.ofChange fnZClonesSpec)) fnZClonesCard

/-- THE SECOND FORM's CARD OF 'laws.FnZDurations'. -/
def fnZDurationsUptoCard : Claim7 := { stood := { row := fnZDurationsUptoRow, standIns := [], harness := (true, "cb4bdb1da3b3cf9eae59bef25aee2c92e4fcea086305c3da1c56fa1ae66cda44"), looks := true }, kinds := [], alts := [], laidByText := true, laidKinds := [.data, .data, .data, .data, .data, .data, .data, .pinned], laidTests := true, laidLooks := .later }
def FnZDurationsUptoCardSaid : Prop := Claim7.holds Tryz.pinned (.plain (OpenSpec.upto fnZDurationsSpec)) fnZDurationsUptoCard

/-- THE SECOND FORM's CARD OF 'laws.FnZTexts'. -/
def fnZTextsUptoCard : Claim7 := { stood := { row := fnZTextsUptoRow, standIns := [], harness := (true, "cb4bdb1da3b3cf9eae59bef25aee2c92e4fcea086305c3da1c56fa1ae66cda44"), looks := true }, kinds := [], alts := [], laidByText := true, laidKinds := [.data, .data, .data, .data, .data, .data, .data, .pinned], laidTests := true, laidLooks := .later }
def FnZTextsUptoCardSaid : Prop := Claim7.holds Tryz.pinned (.plain (OpenSpec.upto fnZTextsSpec)) fnZTextsUptoCard

/-- THE SECOND FORM's CARD OF 'laws.FnZEpoch'. -/
def fnZEpochUptoCard : Claim7 := { stood := { row := fnZEpochUptoRow, standIns := [], harness := (true, "cb4bdb1da3b3cf9eae59bef25aee2c92e4fcea086305c3da1c56fa1ae66cda44"), looks := true }, kinds := [], alts := [], laidByText := true, laidKinds := [.data, .data, .data, .data, .data, .data, .data, .pinned], laidTests := true, laidLooks := .later }
def FnZEpochUptoCardSaid : Prop := Claim7.holds Tryz.pinned (.plain (OpenSpec.upto fnZEpochSpec)) fnZEpochUptoCard

/-- THE SECOND FORM's CARD OF 'laws.FnZTimes'. -/
def fnZTimesUptoCard : Claim7 := { stood := { row := fnZTimesUptoRow, standIns := [], harness := (true, "cb4bdb1da3b3cf9eae59bef25aee2c92e4fcea086305c3da1c56fa1ae66cda44"), looks := true }, kinds := [], alts := [], laidByText := true, laidKinds := [.data, .data, .data, .data, .data, .data, .data, .pinned], laidTests := true, laidLooks := .later }
def FnZTimesUptoCardSaid : Prop := Claim7.holds Tryz.pinned (.plain (OpenSpec.upto fnZTimesSpec)) fnZTimesUptoCard

/-- THE SECOND FORM's CARD OF 'laws.FnZLevelOf'. -/
def fnZLevelOfUptoCard : Claim7 := { stood := { row := fnZLevelOfUptoRow, standIns := [], harness := (true, "cb4bdb1da3b3cf9eae59bef25aee2c92e4fcea086305c3da1c56fa1ae66cda44"), looks := true }, kinds := [], alts := [], laidByText := true, laidKinds := [.data, .data, .data, .data, .data, .data], laidTests := true, laidLooks := .later }
def FnZLevelOfUptoCardSaid : Prop := Claim7.holds Tryz.pinned (.plain (OpenSpec.upto fnZLevelOfSpec)) fnZLevelOfUptoCard

/-- THE SECOND FORM's CARD OF 'laws.FnZFloats'. -/
def fnZFloatsUptoCard : Claim7 := { stood := { row := fnZFloatsUptoRow, standIns := [], harness := (true, "cb4bdb1da3b3cf9eae59bef25aee2c92e4fcea086305c3da1c56fa1ae66cda44"), looks := true }, kinds := [], alts := [], laidByText := true, laidKinds := [.data, .pinned], laidTests := true, laidLooks := .later }
def FnZFloatsUptoCardSaid : Prop := Claim7.holds Tryz.pinned (.plain (OpenSpec.upto fnZFloatsSpec)) fnZFloatsUptoCard

/-- THE SECOND FORM's CARD OF 'laws.FnZCores'. -/
def fnZCoresUptoCard : Claim7 := { stood := { row := fnZCoresUptoRow, standIns := [], harness := (true, "cb4bdb1da3b3cf9eae59bef25aee2c92e4fcea086305c3da1c56fa1ae66cda44"), looks := true }, kinds := [], alts := [], laidByText := true, laidKinds := [.data, .data, .data, .data, .data, .data], laidTests := true, laidLooks := .later }
def FnZCoresUptoCardSaid : Prop := Claim7.holds Tryz.pinned (.plain (OpenSpec.upto fnZCoresSpec)) fnZCoresUptoCard

/-- THE SECOND FORM's CARD OF 'laws.FnZWith'. -/
def fnZWithUptoCard : Claim7 := { stood := { row := fnZWithUptoRow, standIns := [], harness := (true, "cb4bdb1da3b3cf9eae59bef25aee2c92e4fcea086305c3da1c56fa1ae66cda44"), looks := true }, kinds := [], alts := [], laidByText := true, laidKinds := [.data, .data, .data, .data, .data, .data], laidTests := true, laidLooks := .later }
def FnZWithUptoCardSaid : Prop := Claim7.holds Tryz.pinned (.plain (OpenSpec.upto fnZWithSpec)) fnZWithUptoCard

/-- THE SECOND FORM's CARD OF 'laws.FnZClones'. -/
def fnZClonesUptoCard : Claim7 := { stood := { row := fnZClonesUptoRow, standIns := [], harness := (true, "cb4bdb1da3b3cf9eae59bef25aee2c92e4fcea086305c3da1c56fa1ae66cda44"), looks := true }, kinds := [], alts := [], laidByText := true, laidKinds := [.data, .data, .data, .data, .data, .data], laidTests := true, laidLooks := .later }
def FnZClonesUptoCardSaid : Prop := Claim7.holds Tryz.pinned (.plain (OpenSpec.upto fnZClonesSpec)) fnZClonesUptoCard
end Rows
end Go.Proofs.YtpllbhobcnglnaaGreatDoor
