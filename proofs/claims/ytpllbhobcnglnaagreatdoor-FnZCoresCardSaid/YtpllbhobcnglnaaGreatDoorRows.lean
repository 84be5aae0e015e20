/-
  NARROWER THAN 'FOR EVERY INPUT', by the rows' own cells (each row's printed sentence says how): FnZDurations: laid · FnZTexts: laid · FnZEpoch: laid · FnZTimes: laid · FnZLevelOf: loops, laid · FnZFloats: laid · FnZCores: loops, laid · FnZWith: loops, laid · FnZClones: loops, laid.
  DERIVED. THE GIVEN ROWS OF THIS SEAT. 9 by the template 'for every input the law returns true; each argument reads behind the call as it read before'; 0 by the template 'total and deterministic' (their statements: YtpllbhobcnglnaaGreatDoorTotals.lean).
  GIVEN WITH THE SEED: the statements are not yours to turn. If you find one false, say at which input.
  Laid BY PROGRAM, IN A SANDBOX (cutbox-rows.mjs): the forced cells as the released guide's own fill.sh prints them over the translation cc0757b5d6d6bdbb… (all of the seat's roots in one cut). By AI agents, Wed Nov 11 2026. No macro, syntax, notation, axiom, sorry.
-/
import Derived.Test.YtpllbhobcnglnaaGreatDoorChecked
import GoSem.PinnedTables
import GoSem.Claim
import GoSem.ClaimJoined
import GoSem.ClaimMapViews
import Derived.JoinedTies
import Derived.KernelRfl
namespace Go.Proofs.YtpllbhobcnglnaaGreatDoor
/- THE CELL 'sum', in the pinned program and in every row, IS THE sha256 OF THE DUMP (.gsa) THAT YtpllbhobcnglnaaGreatDoorProg.lean LOADS. Nothing in Lean hashes anything: it is a label: what it is worth is what the hold of that sum in a sandbox is worth. -/
noncomputable def Tryz.pinned : Pinned := { name := "ytpllbhobcnglnaagreatdoor", sum := "cc0757b5d6d6bdbbea280e46ea6a113ee15ab1c0e5c070427bdb52d0256d6152", checked := Tryz.checked }
namespace Rows
def none {H : Type} : Left H := { results := [], args := [] }

/- WHAT THE LISTED PACKAGE-LEVEL VARIABLES READ AS WHEN THE CALL BEGINS. Each datum BY PROGRAM (the guide's laid-datum.mjs) off the statement by which the dump's own 'gosem.cut.vars' lays the variable. In a bare row this is a premise. The card (YtpllbhobcnglnaaGreatDoorCards.lean) ties it to the program's text. -/
def laid_math_bits_deBruijn32tab {H : Type} : DataW H := .agg [.lit (.int .u8 0), .lit (.int .u8 1), .lit (.int .u8 28), .lit (.int .u8 2), .lit (.int .u8 29), .lit (.int .u8 14), .lit (.int .u8 24), .lit (.int .u8 3), .lit (.int .u8 30), .lit (.int .u8 22), .lit (.int .u8 20), .lit (.int .u8 15), .lit (.int .u8 25), .lit (.int .u8 17), .lit (.int .u8 4), .lit (.int .u8 8), .lit (.int .u8 31), .lit (.int .u8 27), .lit (.int .u8 13), .lit (.int .u8 23), .lit (.int .u8 21), .lit (.int .u8 19), .lit (.int .u8 16), .lit (.int .u8 7), .lit (.int .u8 26), .lit (.int .u8 12), .lit (.int .u8 18), .lit (.int .u8 6), .lit (.int .u8 11), .lit (.int .u8 5), .lit (.int .u8 10), .lit (.int .u8 9)]
def laid_math_bits_deBruijn64tab {H : Type} : DataW H := .agg [.lit (.int .u8 0), .lit (.int .u8 1), .lit (.int .u8 56), .lit (.int .u8 2), .lit (.int .u8 57), .lit (.int .u8 49), .lit (.int .u8 28), .lit (.int .u8 3), .lit (.int .u8 61), .lit (.int .u8 58), .lit (.int .u8 42), .lit (.int .u8 50), .lit (.int .u8 38), .lit (.int .u8 29), .lit (.int .u8 17), .lit (.int .u8 4), .lit (.int .u8 62), .lit (.int .u8 47), .lit (.int .u8 59), .lit (.int .u8 36), .lit (.int .u8 45), .lit (.int .u8 43), .lit (.int .u8 51), .lit (.int .u8 22), .lit (.int .u8 53), .lit (.int .u8 39), .lit (.int .u8 33), .lit (.int .u8 30), .lit (.int .u8 24), .lit (.int .u8 18), .lit (.int .u8 12), .lit (.int .u8 5), .lit (.int .u8 63), .lit (.int .u8 55), .lit (.int .u8 48), .lit (.int .u8 27), .lit (.int .u8 60), .lit (.int .u8 41), .lit (.int .u8 37), .lit (.int .u8 16), .lit (.int .u8 46), .lit (.int .u8 35), .lit (.int .u8 44), .lit (.int .u8 21), .lit (.int .u8 52), .lit (.int .u8 32), .lit (.int .u8 23), .lit (.int .u8 11), .lit (.int .u8 54), .lit (.int .u8 26), .lit (.int .u8 40), .lit (.int .u8 15), .lit (.int .u8 34), .lit (.int .u8 20), .lit (.int .u8 31), .lit (.int .u8 10), .lit (.int .u8 25), .lit (.int .u8 14), .lit (.int .u8 19), .lit (.int .u8 9), .lit (.int .u8 13), .lit (.int .u8 8), .lit (.int .u8 7), .lit (.int .u8 6)]
def laid_given_example_pub_chandler_pub_ztime_std0x {H : Type} : DataW H := .agg [.lit (.int .i64 260), .lit (.int .i64 265), .lit (.int .i64 1038), .lit (.int .i64 1040), .lit (.int .i64 1042), .lit (.int .i64 276)]
def laid_given_example_pub_chandler_pub_ztime_longDayNames {H : Type} : DataW H := .slice [.lit (.string [83, 117, 110, 100, 97, 121]), .lit (.string [77, 111, 110, 100, 97, 121]), .lit (.string [84, 117, 101, 115, 100, 97, 121]), .lit (.string [87, 101, 100, 110, 101, 115, 100, 97, 121]), .lit (.string [84, 104, 117, 114, 115, 100, 97, 121]), .lit (.string [70, 114, 105, 100, 97, 121]), .lit (.string [83, 97, 116, 117, 114, 100, 97, 121])] []
def laid_given_example_pub_chandler_pub_ztime_longMonthNames {H : Type} : DataW H := .slice [.lit (.string [74, 97, 110, 117, 97, 114, 121]), .lit (.string [70, 101, 98, 114, 117, 97, 114, 121]), .lit (.string [77, 97, 114, 99, 104]), .lit (.string [65, 112, 114, 105, 108]), .lit (.string [77, 97, 121]), .lit (.string [74, 117, 110, 101]), .lit (.string [74, 117, 108, 121]), .lit (.string [65, 117, 103, 117, 115, 116]), .lit (.string [83, 101, 112, 116, 101, 109, 98, 101, 114]), .lit (.string [79, 99, 116, 111, 98, 101, 114]), .lit (.string [78, 111, 118, 101, 109, 98, 101, 114]), .lit (.string [68, 101, 99, 101, 109, 98, 101, 114])] []
def laid_internal_strconv_uint64pow10 {H : Type} : DataW H := .agg [.lit (.int .u64 1), .lit (.int .u64 10), .lit (.int .u64 100), .lit (.int .u64 1000), .lit (.int .u64 10000), .lit (.int .u64 100000), .lit (.int .u64 1000000), .lit (.int .u64 10000000), .lit (.int .u64 100000000), .lit (.int .u64 1000000000), .lit (.int .u64 10000000000), .lit (.int .u64 100000000000), .lit (.int .u64 1000000000000), .lit (.int .u64 10000000000000), .lit (.int .u64 100000000000000), .lit (.int .u64 1000000000000000), .lit (.int .u64 10000000000000000), .lit (.int .u64 100000000000000000), .lit (.int .u64 1000000000000000000), .lit (.int .u64 10000000000000000000)]
def laid_unicode_utf8_acceptRanges {H : Type} : DataW H := .agg [.agg [.lit (.int .u8 128), .lit (.int .u8 191)], .agg [.lit (.int .u8 160), .lit (.int .u8 191)], .agg [.lit (.int .u8 128), .lit (.int .u8 159)], .agg [.lit (.int .u8 144), .lit (.int .u8 191)], .agg [.lit (.int .u8 128), .lit (.int .u8 143)], .agg [.lit (.int .u8 0), .lit (.int .u8 0)], .agg [.lit (.int .u8 0), .lit (.int .u8 0)], .agg [.lit (.int .u8 0), .lit (.int .u8 0)], .agg [.lit (.int .u8 0), .lit (.int .u8 0)], .agg [.lit (.int .u8 0), .lit (.int .u8 0)], .agg [.lit (.int .u8 0), .lit (.int .u8 0)], .agg [.lit (.int .u8 0), .lit (.int .u8 0)], .agg [.lit (.int .u8 0), .lit (.int .u8 0)], .agg [.lit (.int .u8 0), .lit (.int .u8 0)], .agg [.lit (.int .u8 0), .lit (.int .u8 0)], .agg [.lit (.int .u8 0), .lit (.int .u8 0)]]
/-- One of Go's own tables, pinned by name: the form's constant. -/
def laid_unicode_utf8_first : DataW Unit := Go.Pinned.utf8First

/-- 'laws.FnZDurations': WHATEVER THE INPUT: true; the input reads as it did. -/
def fnZDurationsSpec : ChangeSpec := { name := "fnZDurations", vars := ["given.example/pub-chandler/pub/ztime.std0x", "given.example/pub-chandler/pub/ztime.longMonthNames", "given.example/pub-chandler/pub/ztime.longDayNames"], fn := fun _ => fun
  | [d, g1, g2, g3] => { results := [.lit (.bool true)], args := [d], vars := [g1, g2, g3] }
  | _ => none }
def fnZDurationsRow : OpenClaim := { program := "ytpllbhobcnglnaagreatdoor", sum := "cc0757b5d6d6bdbbea280e46ea6a113ee15ab1c0e5c070427bdb52d0256d6152", func := "given.example/pub-chandler/laws.FnZDurations", spec := "fnZDurations", inPlace := ["math.Float64bits", "math.Float64frombits"], unfollowed := true, recurses := true, named := ["internal/strconv.uint64pow10", "math/bits.deBruijn32tab", "math/bits.deBruijn64tab", "given.example/pub-chandler/pub/ztime.std0x", "given.example/pub-chandler/pub/ztime.longMonthNames", "given.example/pub-chandler/pub/ztime.longDayNames", "unicode/utf8.first", "unicode/utf8.acceptRanges"], apart := false, laid := [("math/bits.deBruijn32tab", laid_math_bits_deBruijn32tab), ("math/bits.deBruijn64tab", laid_math_bits_deBruijn64tab), ("given.example/pub-chandler/pub/ztime.std0x", laid_given_example_pub_chandler_pub_ztime_std0x), ("given.example/pub-chandler/pub/ztime.longDayNames", laid_given_example_pub_chandler_pub_ztime_longDayNames), ("given.example/pub-chandler/pub/ztime.longMonthNames", laid_given_example_pub_chandler_pub_ztime_longMonthNames), ("internal/strconv.uint64pow10", laid_internal_strconv_uint64pow10), ("unicode/utf8.acceptRanges", laid_unicode_utf8_acceptRanges), ("unicode/utf8.first", laid_unicode_utf8_first)] }
def FnZDurationsSaid : Prop := fnZDurationsRow.holds Tryz.pinned (OpenSpec.ofChange fnZDurationsSpec)

/-- ITS FALSE NEIGHBOUR: 'it returns false'. Refute it at one input. -/
def fnZDurationsWrong : ChangeSpec := { name := "fnZDurations", vars := ["given.example/pub-chandler/pub/ztime.std0x", "given.example/pub-chandler/pub/ztime.longMonthNames", "given.example/pub-chandler/pub/ztime.longDayNames"], fn := fun _ => fun
  | [d, g1, g2, g3] => { results := [.lit (.bool false)], args := [d], vars := [g1, g2, g3] }
  | _ => none }
def FnZDurationsWrongFalsely : Prop := fnZDurationsRow.holds Tryz.pinned (OpenSpec.ofChange fnZDurationsWrong)

/-- 'laws.FnZTexts': WHATEVER THE INPUT: true; the input reads as it did. -/
def fnZTextsSpec : ChangeSpec := { name := "fnZTexts", vars := ["given.example/pub-chandler/pub/ztime.std0x", "given.example/pub-chandler/pub/ztime.longMonthNames", "given.example/pub-chandler/pub/ztime.longDayNames"], fn := fun _ => fun
  | [d, g1, g2, g3] => { results := [.lit (.bool true)], args := [d], vars := [g1, g2, g3] }
  | _ => none }
def fnZTextsRow : OpenClaim := { program := "ytpllbhobcnglnaagreatdoor", sum := "cc0757b5d6d6bdbbea280e46ea6a113ee15ab1c0e5c070427bdb52d0256d6152", func := "given.example/pub-chandler/laws.FnZTexts", spec := "fnZTexts", unfollowed := true, recurses := true, named := ["internal/strconv.uint64pow10", "math/bits.deBruijn32tab", "math/bits.deBruijn64tab", "given.example/pub-chandler/pub/ztime.std0x", "given.example/pub-chandler/pub/ztime.longMonthNames", "given.example/pub-chandler/pub/ztime.longDayNames", "unicode/utf8.first", "unicode/utf8.acceptRanges"], apart := false, laid := [("math/bits.deBruijn32tab", laid_math_bits_deBruijn32tab), ("math/bits.deBruijn64tab", laid_math_bits_deBruijn64tab), ("given.example/pub-chandler/pub/ztime.std0x", laid_given_example_pub_chandler_pub_ztime_std0x), ("given.example/pub-chandler/pub/ztime.longDayNames", laid_given_example_pub_chandler_pub_ztime_longDayNames), ("given.example/pub-chandler/pub/ztime.longMonthNames", laid_given_example_pub_chandler_pub_ztime_longMonthNames), ("internal/strconv.uint64pow10", laid_internal_strconv_uint64pow10), ("unicode/utf8.acceptRanges", laid_unicode_utf8_acceptRanges), ("unicode/utf8.first", laid_unicode_utf8_first)] }
def FnZTextsSaid : Prop := fnZTextsRow.holds Tryz.pinned (OpenSpec.ofChange fnZTextsSpec)

/-- ITS FALSE NEIGHBOUR: 'it returns false'. Refute it at one input. -/
def fnZTextsWrong : ChangeSpec := { name := "fnZTexts", vars := ["given.example/pub-chandler/pub/ztime.std0x", "given.example/pub-chandler/pub/ztime.longMonthNames", "given.example/pub-chandler/pub/ztime.longDayNames"], fn := fun _ => fun
  | [d, g1, g2, g3] => { results := [.lit (.bool false)], args := [d], vars := [g1, g2, g3] }
  | _ => none }
def FnZTextsWrongFalsely : Prop := fnZTextsRow.holds Tryz.pinned (OpenSpec.ofChange fnZTextsWrong)

/-- 'laws.FnZEpoch': WHATEVER THE INPUT: true; the input reads as it did. -/
def fnZEpochSpec : ChangeSpec := { name := "fnZEpoch", vars := ["given.example/pub-chandler/pub/ztime.std0x", "given.example/pub-chandler/pub/ztime.longMonthNames", "given.example/pub-chandler/pub/ztime.longDayNames"], fn := fun _ => fun
  | [d, g1, g2, g3] => { results := [.lit (.bool true)], args := [d], vars := [g1, g2, g3] }
  | _ => none }
def fnZEpochRow : OpenClaim := { program := "ytpllbhobcnglnaagreatdoor", sum := "cc0757b5d6d6bdbbea280e46ea6a113ee15ab1c0e5c070427bdb52d0256d6152", func := "given.example/pub-chandler/laws.FnZEpoch", spec := "fnZEpoch", inPlace := ["math.Float64bits", "math.Float64frombits"], unfollowed := true, recurses := true, named := ["internal/strconv.uint64pow10", "math/bits.deBruijn32tab", "math/bits.deBruijn64tab", "given.example/pub-chandler/pub/ztime.std0x", "given.example/pub-chandler/pub/ztime.longMonthNames", "given.example/pub-chandler/pub/ztime.longDayNames", "unicode/utf8.first", "unicode/utf8.acceptRanges"], apart := false, laid := [("math/bits.deBruijn32tab", laid_math_bits_deBruijn32tab), ("math/bits.deBruijn64tab", laid_math_bits_deBruijn64tab), ("given.example/pub-chandler/pub/ztime.std0x", laid_given_example_pub_chandler_pub_ztime_std0x), ("given.example/pub-chandler/pub/ztime.longDayNames", laid_given_example_pub_chandler_pub_ztime_longDayNames), ("given.example/pub-chandler/pub/ztime.longMonthNames", laid_given_example_pub_chandler_pub_ztime_longMonthNames), ("internal/strconv.uint64pow10", laid_internal_strconv_uint64pow10), ("unicode/utf8.acceptRanges", laid_unicode_utf8_acceptRanges), ("unicode/utf8.first", laid_unicode_utf8_first)] }
def FnZEpochSaid : Prop := fnZEpochRow.holds Tryz.pinned (OpenSpec.ofChange fnZEpochSpec)

/-- ITS FALSE NEIGHBOUR: 'it returns false'. Refute it at one input. -/
def fnZEpochWrong : ChangeSpec := { name := "fnZEpoch", vars := ["given.example/pub-chandler/pub/ztime.std0x", "given.example/pub-chandler/pub/ztime.longMonthNames", "given.example/pub-chandler/pub/ztime.longDayNames"], fn := fun _ => fun
  | [d, g1, g2, g3] => { results := [.lit (.bool false)], args := [d], vars := [g1, g2, g3] }
  | _ => none }
def FnZEpochWrongFalsely : Prop := fnZEpochRow.holds Tryz.pinned (OpenSpec.ofChange fnZEpochWrong)

/-- 'laws.FnZTimes': WHATEVER THE INPUT: true; the input reads as it did. -/
def fnZTimesSpec : ChangeSpec := { name := "fnZTimes", vars := ["given.example/pub-chandler/pub/ztime.std0x", "given.example/pub-chandler/pub/ztime.longMonthNames", "given.example/pub-chandler/pub/ztime.longDayNames"], fn := fun _ => fun
  | [d, g1, g2, g3] => { results := [.lit (.bool true)], args := [d], vars := [g1, g2, g3] }
  | _ => none }
def fnZTimesRow : OpenClaim := { program := "ytpllbhobcnglnaagreatdoor", sum := "cc0757b5d6d6bdbbea280e46ea6a113ee15ab1c0e5c070427bdb52d0256d6152", func := "given.example/pub-chandler/laws.FnZTimes", spec := "fnZTimes", unfollowed := true, recurses := true, named := ["internal/strconv.uint64pow10", "math/bits.deBruijn32tab", "math/bits.deBruijn64tab", "given.example/pub-chandler/pub/ztime.std0x", "given.example/pub-chandler/pub/ztime.longMonthNames", "given.example/pub-chandler/pub/ztime.longDayNames", "unicode/utf8.first", "unicode/utf8.acceptRanges"], apart := false, laid := [("math/bits.deBruijn32tab", laid_math_bits_deBruijn32tab), ("math/bits.deBruijn64tab", laid_math_bits_deBruijn64tab), ("given.example/pub-chandler/pub/ztime.std0x", laid_given_example_pub_chandler_pub_ztime_std0x), ("given.example/pub-chandler/pub/ztime.longDayNames", laid_given_example_pub_chandler_pub_ztime_longDayNames), ("given.example/pub-chandler/pub/ztime.longMonthNames", laid_given_example_pub_chandler_pub_ztime_longMonthNames), ("internal/strconv.uint64pow10", laid_internal_strconv_uint64pow10), ("unicode/utf8.acceptRanges", laid_unicode_utf8_acceptRanges), ("unicode/utf8.first", laid_unicode_utf8_first)] }
def FnZTimesSaid : Prop := fnZTimesRow.holds Tryz.pinned (OpenSpec.ofChange fnZTimesSpec)

/-- ITS FALSE NEIGHBOUR: 'it returns false'. Refute it at one input. -/
def fnZTimesWrong : ChangeSpec := { name := "fnZTimes", vars := ["given.example/pub-chandler/pub/ztime.std0x", "given.example/pub-chandler/pub/ztime.longMonthNames", "given.example/pub-chandler/pub/ztime.longDayNames"], fn := fun _ => fun
  | [d, g1, g2, g3] => { results := [.lit (.bool false)], args := [d], vars := [g1, g2, g3] }
  | _ => none }
def FnZTimesWrongFalsely : Prop := fnZTimesRow.holds Tryz.pinned (OpenSpec.ofChange fnZTimesWrong)

/-- 'laws.FnZLevelOf': WHATEVER THE INPUT: true; the input reads as it did. -/
def fnZLevelOfSpec : ChangeSpec := { name := "fnZLevelOf", vars := ["given.example/pub-chandler/pub/ztime.std0x", "given.example/pub-chandler/pub/ztime.longMonthNames", "given.example/pub-chandler/pub/ztime.longDayNames"], fn := fun _ => fun
  | [d, g1, g2, g3] => { results := [.lit (.bool true)], args := [d], vars := [g1, g2, g3] }
  | _ => none }
def fnZLevelOfRow : OpenClaim := { program := "ytpllbhobcnglnaagreatdoor", sum := "cc0757b5d6d6bdbbea280e46ea6a113ee15ab1c0e5c070427bdb52d0256d6152", func := "given.example/pub-chandler/laws.FnZLevelOf", spec := "fnZLevelOf", unfollowed := true, recurses := true, named := ["internal/strconv.uint64pow10", "math/bits.deBruijn32tab", "math/bits.deBruijn64tab", "given.example/pub-chandler/pub/ztime.std0x", "given.example/pub-chandler/pub/ztime.longMonthNames", "given.example/pub-chandler/pub/ztime.longDayNames"], loops := true, apart := false, laid := [("math/bits.deBruijn32tab", laid_math_bits_deBruijn32tab), ("math/bits.deBruijn64tab", laid_math_bits_deBruijn64tab), ("given.example/pub-chandler/pub/ztime.std0x", laid_given_example_pub_chandler_pub_ztime_std0x), ("given.example/pub-chandler/pub/ztime.longDayNames", laid_given_example_pub_chandler_pub_ztime_longDayNames), ("given.example/pub-chandler/pub/ztime.longMonthNames", laid_given_example_pub_chandler_pub_ztime_longMonthNames), ("internal/strconv.uint64pow10", laid_internal_strconv_uint64pow10)] }
def FnZLevelOfSaid : Prop := fnZLevelOfRow.holds Tryz.pinned (OpenSpec.ofChange fnZLevelOfSpec)

/-- ITS FALSE NEIGHBOUR: 'it returns false'. Refute it at one input. -/
def fnZLevelOfWrong : ChangeSpec := { name := "fnZLevelOf", vars := ["given.example/pub-chandler/pub/ztime.std0x", "given.example/pub-chandler/pub/ztime.longMonthNames", "given.example/pub-chandler/pub/ztime.longDayNames"], fn := fun _ => fun
  | [d, g1, g2, g3] => { results := [.lit (.bool false)], args := [d], vars := [g1, g2, g3] }
  | _ => none }
def FnZLevelOfWrongFalsely : Prop := fnZLevelOfRow.holds Tryz.pinned (OpenSpec.ofChange fnZLevelOfWrong)

/-- 'laws.FnZFloats': WHATEVER THE INPUT: true; the input reads as it did. -/
def fnZFloatsSpec : ChangeSpec := { name := "fnZFloats", fn := fun _ => fun
  | [d1, d2] => { results := [.lit (.bool true)], args := [d1, d2] }
  | _ => none }
def fnZFloatsRow : OpenClaim := { program := "ytpllbhobcnglnaagreatdoor", sum := "cc0757b5d6d6bdbbea280e46ea6a113ee15ab1c0e5c070427bdb52d0256d6152", func := "given.example/pub-chandler/laws.FnZFloats", spec := "fnZFloats", inPlace := ["math.Float64frombits", "math.Float32frombits", "math.Float64bits"], unfollowed := true, recurses := true, named := ["unicode/utf8.first", "unicode/utf8.acceptRanges"], apart := false, laid := [("unicode/utf8.acceptRanges", laid_unicode_utf8_acceptRanges), ("unicode/utf8.first", laid_unicode_utf8_first)] }
def FnZFloatsSaid : Prop := fnZFloatsRow.holds Tryz.pinned (OpenSpec.ofChange fnZFloatsSpec)

/-- ITS FALSE NEIGHBOUR: 'it returns false'. Refute it at one input. -/
def fnZFloatsWrong : ChangeSpec := { name := "fnZFloats", fn := fun _ => fun
  | [d1, d2] => { results := [.lit (.bool false)], args := [d1, d2] }
  | _ => none }
def FnZFloatsWrongFalsely : Prop := fnZFloatsRow.holds Tryz.pinned (OpenSpec.ofChange fnZFloatsWrong)

/-- 'laws.FnZCores': WHATEVER THE INPUT: true; the input reads as it did. -/
def fnZCoresSpec : ChangeSpec := { name := "fnZCores", vars := ["given.example/pub-chandler/pub/ztime.std0x", "given.example/pub-chandler/pub/ztime.longMonthNames", "given.example/pub-chandler/pub/ztime.longDayNames"], fn := fun _ => fun
  | [d1, d2, d3, g1, g2, g3] => { results := [.lit (.bool true)], args := [d1, d2, d3], vars := [g1, g2, g3] }
  | _ => none }
def fnZCoresRow : OpenClaim := { program := "ytpllbhobcnglnaagreatdoor", sum := "cc0757b5d6d6bdbbea280e46ea6a113ee15ab1c0e5c070427bdb52d0256d6152", func := "given.example/pub-chandler/laws.FnZCores", spec := "fnZCores", unfollowed := true, recurses := true, named := ["internal/strconv.uint64pow10", "math/bits.deBruijn32tab", "math/bits.deBruijn64tab", "given.example/pub-chandler/pub/ztime.std0x", "given.example/pub-chandler/pub/ztime.longMonthNames", "given.example/pub-chandler/pub/ztime.longDayNames"], loops := true, apart := false, laid := [("math/bits.deBruijn32tab", laid_math_bits_deBruijn32tab), ("math/bits.deBruijn64tab", laid_math_bits_deBruijn64tab), ("given.example/pub-chandler/pub/ztime.std0x", laid_given_example_pub_chandler_pub_ztime_std0x), ("given.example/pub-chandler/pub/ztime.longDayNames", laid_given_example_pub_chandler_pub_ztime_longDayNames), ("given.example/pub-chandler/pub/ztime.longMonthNames", laid_given_example_pub_chandler_pub_ztime_longMonthNames), ("internal/strconv.uint64pow10", laid_internal_strconv_uint64pow10)] }
def FnZCoresSaid : Prop := fnZCoresRow.holds Tryz.pinned (OpenSpec.ofChange fnZCoresSpec)

/-- ITS FALSE NEIGHBOUR: 'it returns false'. Refute it at one input. -/
def fnZCoresWrong : ChangeSpec := { name := "fnZCores", vars := ["given.example/pub-chandler/pub/ztime.std0x", "given.example/pub-chandler/pub/ztime.longMonthNames", "given.example/pub-chandler/pub/ztime.longDayNames"], fn := fun _ => fun
  | [d1, d2, d3, g1, g2, g3] => { results := [.lit (.bool false)], args := [d1, d2, d3], vars := [g1, g2, g3] }
  | _ => none }
def FnZCoresWrongFalsely : Prop := fnZCoresRow.holds Tryz.pinned (OpenSpec.ofChange fnZCoresWrong)

/-- 'laws.FnZWith': WHATEVER THE INPUT: true; the input reads as it did. -/
def fnZWithSpec : ChangeSpec := { name := "fnZWith", vars := ["given.example/pub-chandler/pub/ztime.std0x", "given.example/pub-chandler/pub/ztime.longMonthNames", "given.example/pub-chandler/pub/ztime.longDayNames"], fn := fun _ => fun
  | [d1, d2, d3, d4, d5, g1, g2, g3] => { results := [.lit (.bool true)], args := [d1, d2, d3, d4, d5], vars := [g1, g2, g3] }
  | _ => none }
def fnZWithRow : OpenClaim := { program := "ytpllbhobcnglnaagreatdoor", sum := "cc0757b5d6d6bdbbea280e46ea6a113ee15ab1c0e5c070427bdb52d0256d6152", func := "given.example/pub-chandler/laws.FnZWith", spec := "fnZWith", inPlace := ["math.Float32frombits", "math.Float64frombits"], unfollowed := true, recurses := true, named := ["internal/strconv.uint64pow10", "math/bits.deBruijn32tab", "math/bits.deBruijn64tab", "given.example/pub-chandler/pub/ztime.std0x", "given.example/pub-chandler/pub/ztime.longMonthNames", "given.example/pub-chandler/pub/ztime.longDayNames"], loops := true, apart := false, laid := [("math/bits.deBruijn32tab", laid_math_bits_deBruijn32tab), ("math/bits.deBruijn64tab", laid_math_bits_deBruijn64tab), ("given.example/pub-chandler/pub/ztime.std0x", laid_given_example_pub_chandler_pub_ztime_std0x), ("given.example/pub-chandler/pub/ztime.longDayNames", laid_given_example_pub_chandler_pub_ztime_longDayNames), ("given.example/pub-chandler/pub/ztime.longMonthNames", laid_given_example_pub_chandler_pub_ztime_longMonthNames), ("internal/strconv.uint64pow10", laid_internal_strconv_uint64pow10)] }
def FnZWithSaid : Prop := fnZWithRow.holds Tryz.pinned (OpenSpec.ofChange fnZWithSpec)

/-- ITS FALSE NEIGHBOUR: 'it returns false'. Refute it at one input. -/
def fnZWithWrong : ChangeSpec := { name := "fnZWith", vars := ["given.example/pub-chandler/pub/ztime.std0x", "given.example/pub-chandler/pub/ztime.longMonthNames", "given.example/pub-chandler/pub/ztime.longDayNames"], fn := fun _ => fun
  | [d1, d2, d3, d4, d5, g1, g2, g3] => { results := [.lit (.bool false)], args := [d1, d2, d3, d4, d5], vars := [g1, g2, g3] }
  | _ => none }
def FnZWithWrongFalsely : Prop := fnZWithRow.holds Tryz.pinned (OpenSpec.ofChange fnZWithWrong)

/-- 'laws.FnZClones': WHATEVER THE INPUT: true; the input reads as it did. -/
def fnZClonesSpec : ChangeSpec := { name := "fnZClones", vars := ["given.example/pub-chandler/pub/ztime.std0x", "given.example/pub-chandler/pub/ztime.longMonthNames", "given.example/pub-chandler/pub/ztime.longDayNames"], fn := fun _ => fun
  | [d1, d2, d3, d4, d5, d6, g1, g2, g3] => { results := [.lit (.bool true)], args := [d1, d2, d3, d4, d5, d6], vars := [g1, g2, g3] }
  | _ => none }
def fnZClonesRow : OpenClaim := { program := "ytpllbhobcnglnaagreatdoor", sum := "cc0757b5d6d6bdbbea280e46ea6a113ee15ab1c0e5c070427bdb52d0256d6152", func := "given.example/pub-chandler/laws.FnZClones", spec := "fnZClones", inPlace := ["math.Float32frombits", "math.Float64frombits"], unfollowed := true, recurses := true, named := ["internal/strconv.uint64pow10", "math/bits.deBruijn32tab", "math/bits.deBruijn64tab", "given.example/pub-chandler/pub/ztime.std0x", "given.example/pub-chandler/pub/ztime.longMonthNames", "given.example/pub-chandler/pub/ztime.longDayNames"], loops := true, apart := false, laid := [("math/bits.deBruijn32tab", laid_math_bits_deBruijn32tab), ("math/bits.deBruijn64tab", laid_math_bits_deBruijn64tab), ("given.example/pub-chandler/pub/ztime.std0x", laid_given_example_pub_chandler_pub_ztime_std0x), ("given.example/pub-chandler/pub/ztime.longDayNames", laid_given_example_pub_chandler_pub_ztime_longDayNames), ("given.example/pub-chandler/pub/ztime.longMonthNames", laid_given_example_pub_chandler_pub_ztime_longMonthNames), ("internal/strconv.uint64pow10", laid_internal_strconv_uint64pow10)] }
def FnZClonesSaid : Prop := fnZClonesRow.holds Tryz.pinned (OpenSpec.ofChange fnZClonesSpec)

/-- ITS FALSE NEIGHBOUR: 'it returns false'. Refute it at one input. -/
def fnZClonesWrong : ChangeSpec := { name := "fnZClones", vars := ["given.example/pub-chandler/pub/ztime.std0x", "given.example/pub-chandler/pub/ztime.longMonthNames", "given.example/pub-chandler/pub/ztime.longDayNames"], fn := fun _ => fun
  | [d1, d2, d3, d4, d5, d6, g1, g2, g3] => { results := [.lit (.bool false)], args := [d1, d2, d3, d4, d5, d6], vars := [g1, g2, g3] }
  | _ => none }
def FnZClonesWrongFalsely : Prop := fnZClonesRow.holds Tryz.pinned (OpenSpec.ofChange fnZClonesWrong)

/- THE SECOND FORM. 'bulk': how many values and letters a reading holds, each counted each time it is reached (what is shared counts as often as it is met; a slice's spare places count too). A statement '..UptoSaid' is the law's where the arguments, and the package variables that the reading takes, are together of bulk at most 1048576: NARROWER than '..Said'. Prove '..Said' where nothing that the law and all that it calls make is longer than what came in: it says more and counts as full. Else prove '..UptoSaid'. A law counts once. -/
mutual
def uptoBulk {H : Type} : DataW H → Nat
  | .lit (.string bytes) => bytes.length + 1
  | .lit _ => 1
  | .nil => 1
  | .ptr d => uptoBulk d + 1
  | .slice elems spare => uptoBulkAll elems + uptoBulkAll spare + 1
  | .agg parts => uptoBulkAll parts + 1
  | .iface _ d => uptoBulk d + 1
  | .map entries => uptoBulkEntries entries + 1
  | .held _ => 1
def uptoBulkAll {H : Type} : List (DataW H) → Nat
  | [] => 0
  | d :: r => uptoBulk d + uptoBulkAll r
def uptoBulkEntries {H : Type} : List (Lit × DataW H) → Nat
  | [] => 0
  | x :: r => uptoBulkEntry x + uptoBulkEntries r
def uptoBulkEntry {H : Type} : Lit × DataW H → Nat
  | (.string bytes, d) => bytes.length + uptoBulk d + 1
  | (_, d) => uptoBulk d + 1
 end
def uptoSmall : (H : Type) → List (DataW H) → Bool := fun _ ds => decide (uptoBulkAll ds ≤ 1048576)
def OpenSpec.upto (s : _root_.Go.ChangeSpec) : _root_.Go.OpenSpec := { _root_.Go.OpenSpec.ofChange s with cond := some uptoSmall }

/-- 'laws.FnZDurations', WHERE WHAT IT READS IS OF BULK AT MOST 1048576: true; the input reads as it did. -/
def fnZDurationsUptoRow : OpenClaim := { program := "ytpllbhobcnglnaagreatdoor", sum := "cc0757b5d6d6bdbbea280e46ea6a113ee15ab1c0e5c070427bdb52d0256d6152", func := "given.example/pub-chandler/laws.FnZDurations", spec := "fnZDurations", inPlace := ["math.Float64bits", "math.Float64frombits"], unfollowed := true, recurses := true, named := ["internal/strconv.uint64pow10", "math/bits.deBruijn32tab", "math/bits.deBruijn64tab", "given.example/pub-chandler/pub/ztime.std0x", "given.example/pub-chandler/pub/ztime.longMonthNames", "given.example/pub-chandler/pub/ztime.longDayNames", "unicode/utf8.first", "unicode/utf8.acceptRanges"], apart := false, laid := [("math/bits.deBruijn32tab", laid_math_bits_deBruijn32tab), ("math/bits.deBruijn64tab", laid_math_bits_deBruijn64tab), ("given.example/pub-chandler/pub/ztime.std0x", laid_given_example_pub_chandler_pub_ztime_std0x), ("given.example/pub-chandler/pub/ztime.longDayNames", laid_given_example_pub_chandler_pub_ztime_longDayNames), ("given.example/pub-chandler/pub/ztime.longMonthNames", laid_given_example_pub_chandler_pub_ztime_longMonthNames), ("internal/strconv.uint64pow10", laid_internal_strconv_uint64pow10), ("unicode/utf8.acceptRanges", laid_unicode_utf8_acceptRanges), ("unicode/utf8.first", laid_unicode_utf8_first)], narrowed := true }
def FnZDurationsUptoSaid : Prop := fnZDurationsUptoRow.holds Tryz.pinned (OpenSpec.upto fnZDurationsSpec)

/-- 'laws.FnZTexts', WHERE WHAT IT READS IS OF BULK AT MOST 1048576: true; the input reads as it did. -/
def fnZTextsUptoRow : OpenClaim := { program := "ytpllbhobcnglnaagreatdoor", sum := "cc0757b5d6d6bdbbea280e46ea6a113ee15ab1c0e5c070427bdb52d0256d6152", func := "given.example/pub-chandler/laws.FnZTexts", spec := "fnZTexts", unfollowed := true, recurses := true, named := ["internal/strconv.uint64pow10", "math/bits.deBruijn32tab", "math/bits.deBruijn64tab", "given.example/pub-chandler/pub/ztime.std0x", "given.example/pub-chandler/pub/ztime.longMonthNames", "given.example/pub-chandler/pub/ztime.longDayNames", "unicode/utf8.first", "unicode/utf8.acceptRanges"], apart := false, laid := [("math/bits.deBruijn32tab", laid_math_bits_deBruijn32tab), ("math/bits.deBruijn64tab", laid_math_bits_deBruijn64tab), ("given.example/pub-chandler/pub/ztime.std0x", laid_given_example_pub_chandler_pub_ztime_std0x), ("given.example/pub-chandler/pub/ztime.longDayNames", laid_given_example_pub_chandler_pub_ztime_longDayNames), ("given.example/pub-chandler/pub/ztime.longMonthNames", laid_given_example_pub_chandler_pub_ztime_longMonthNames), ("internal/strconv.uint64pow10", laid_internal_strconv_uint64pow10), ("unicode/utf8.acceptRanges", laid_unicode_utf8_acceptRanges), ("unicode/utf8.first", laid_unicode_utf8_first)], narrowed := true }
def FnZTextsUptoSaid : Prop := fnZTextsUptoRow.holds Tryz.pinned (OpenSpec.upto fnZTextsSpec)

/-- 'laws.FnZEpoch', WHERE WHAT IT READS IS OF BULK AT MOST 1048576: true; the input reads as it did. -/
def fnZEpochUptoRow : OpenClaim := { program := "ytpllbhobcnglnaagreatdoor", sum := "cc0757b5d6d6bdbbea280e46ea6a113ee15ab1c0e5c070427bdb52d0256d6152", func := "given.example/pub-chandler/laws.FnZEpoch", spec := "fnZEpoch", inPlace := ["math.Float64bits", "math.Float64frombits"], unfollowed := true, recurses := true, named := ["internal/strconv.uint64pow10", "math/bits.deBruijn32tab", "math/bits.deBruijn64tab", "given.example/pub-chandler/pub/ztime.std0x", "given.example/pub-chandler/pub/ztime.longMonthNames", "given.example/pub-chandler/pub/ztime.longDayNames", "unicode/utf8.first", "unicode/utf8.acceptRanges"], apart := false, laid := [("math/bits.deBruijn32tab", laid_math_bits_deBruijn32tab), ("math/bits.deBruijn64tab", laid_math_bits_deBruijn64tab), ("given.example/pub-chandler/pub/ztime.std0x", laid_given_example_pub_chandler_pub_ztime_std0x), ("given.example/pub-chandler/pub/ztime.longDayNames", laid_given_example_pub_chandler_pub_ztime_longDayNames), ("given.example/pub-chandler/pub/ztime.longMonthNames", laid_given_example_pub_chandler_pub_ztime_longMonthNames), ("internal/strconv.uint64pow10", laid_internal_strconv_uint64pow10), ("unicode/utf8.acceptRanges", laid_unicode_utf8_acceptRanges), ("unicode/utf8.first", laid_unicode_utf8_first)], narrowed := true }
def FnZEpochUptoSaid : Prop := fnZEpochUptoRow.holds Tryz.pinned (OpenSpec.upto fnZEpochSpec)

/-- 'laws.FnZTimes', WHERE WHAT IT READS IS OF BULK AT MOST 1048576: true; the input reads as it did. -/
def fnZTimesUptoRow : OpenClaim := { program := "ytpllbhobcnglnaagreatdoor", sum := "cc0757b5d6d6bdbbea280e46ea6a113ee15ab1c0e5c070427bdb52d0256d6152", func := "given.example/pub-chandler/laws.FnZTimes", spec := "fnZTimes", unfollowed := true, recurses := true, named := ["internal/strconv.uint64pow10", "math/bits.deBruijn32tab", "math/bits.deBruijn64tab", "given.example/pub-chandler/pub/ztime.std0x", "given.example/pub-chandler/pub/ztime.longMonthNames", "given.example/pub-chandler/pub/ztime.longDayNames", "unicode/utf8.first", "unicode/utf8.acceptRanges"], apart := false, laid := [("math/bits.deBruijn32tab", laid_math_bits_deBruijn32tab), ("math/bits.deBruijn64tab", laid_math_bits_deBruijn64tab), ("given.example/pub-chandler/pub/ztime.std0x", laid_given_example_pub_chandler_pub_ztime_std0x), ("given.example/pub-chandler/pub/ztime.longDayNames", laid_given_example_pub_chandler_pub_ztime_longDayNames), ("given.example/pub-chandler/pub/ztime.longMonthNames", laid_given_example_pub_chandler_pub_ztime_longMonthNames), ("internal/strconv.uint64pow10", laid_internal_strconv_uint64pow10), ("unicode/utf8.acceptRanges", laid_unicode_utf8_acceptRanges), ("unicode/utf8.first", laid_unicode_utf8_first)], narrowed := true }
def FnZTimesUptoSaid : Prop := fnZTimesUptoRow.holds Tryz.pinned (OpenSpec.upto fnZTimesSpec)

/-- 'laws.FnZLevelOf', WHERE WHAT IT READS IS OF BULK AT MOST 1048576: true; the input reads as it did. -/
def fnZLevelOfUptoRow : OpenClaim := { program := "ytpllbhobcnglnaagreatdoor", sum := "cc0757b5d6d6bdbbea280e46ea6a113ee15ab1c0e5c070427bdb52d0256d6152", func := "given.example/pub-chandler/laws.FnZLevelOf", spec := "fnZLevelOf", unfollowed := true, recurses := true, named := ["internal/strconv.uint64pow10", "math/bits.deBruijn32tab", "math/bits.deBruijn64tab", "given.example/pub-chandler/pub/ztime.std0x", "given.example/pub-chandler/pub/ztime.longMonthNames", "given.example/pub-chandler/pub/ztime.longDayNames"], loops := true, apart := false, laid := [("math/bits.deBruijn32tab", laid_math_bits_deBruijn32tab), ("math/bits.deBruijn64tab", laid_math_bits_deBruijn64tab), ("given.example/pub-chandler/pub/ztime.std0x", laid_given_example_pub_chandler_pub_ztime_std0x), ("given.example/pub-chandler/pub/ztime.longDayNames", laid_given_example_pub_chandler_pub_ztime_longDayNames), ("given.example/pub-chandler/pub/ztime.longMonthNames", laid_given_example_pub_chandler_pub_ztime_longMonthNames), ("internal/strconv.uint64pow10", laid_internal_strconv_uint64pow10)], narrowed := true }
def FnZLevelOfUptoSaid : Prop := fnZLevelOfUptoRow.holds Tryz.pinned (OpenSpec.upto fnZLevelOfSpec)

/-- 'laws.FnZFloats', WHERE WHAT IT READS IS OF BULK AT MOST 1048576: true; the input reads as it did. -/
def fnZFloatsUptoRow : OpenClaim := { program := "ytpllbhobcnglnaagreatdoor", sum := "cc0757b5d6d6bdbbea280e46ea6a113ee15ab1c0e5c070427bdb52d0256d6152", func := "given.example/pub-chandler/laws.FnZFloats", spec := "fnZFloats", inPlace := ["math.Float64frombits", "math.Float32frombits", "math.Float64bits"], unfollowed := true, recurses := true, named := ["unicode/utf8.first", "unicode/utf8.acceptRanges"], apart := false, laid := [("unicode/utf8.acceptRanges", laid_unicode_utf8_acceptRanges), ("unicode/utf8.first", laid_unicode_utf8_first)], narrowed := true }
def FnZFloatsUptoSaid : Prop := fnZFloatsUptoRow.holds Tryz.pinned (OpenSpec.upto fnZFloatsSpec)

/-- 'laws.FnZCores', WHERE WHAT IT READS IS OF BULK AT MOST 1048576: true; the input reads as it did. -/
def fnZCoresUptoRow : OpenClaim := { program := "ytpllbhobcnglnaagreatdoor", sum := "cc0757b5d6d6bdbbea280e46ea6a113ee15ab1c0e5c070427bdb52d0256d6152", func := "given.example/pub-chandler/laws.FnZCores", spec := "fnZCores", unfollowed := true, recurses := true, named := ["internal/strconv.uint64pow10", "math/bits.deBruijn32tab", "math/bits.deBruijn64tab", "given.example/pub-chandler/pub/ztime.std0x", "given.example/pub-chandler/pub/ztime.longMonthNames", "given.example/pub-chandler/pub/ztime.longDayNames"], loops := true, apart := false, laid := [("math/bits.deBruijn32tab", laid_math_bits_deBruijn32tab), ("math/bits.deBruijn64tab", laid_math_bits_deBruijn64tab), ("given.example/pub-chandler/pub/ztime.std0x", laid_given_example_pub_chandler_pub_ztime_std0x), ("given.example/pub-chandler/pub/ztime.longDayNames", laid_given_example_pub_chandler_pub_ztime_longDayNames), ("given.example/pub-chandler/pub/ztime.longMonthNames", laid_given_example_pub_chandler_pub_ztime_longMonthNames), ("internal/strconv.uint64pow10", laid_internal_strconv_uint64pow10)], narrowed := true }
def FnZCoresUptoSaid : Prop := fnZCoresUptoRow.holds Tryz.pinned (OpenSpec.upto fnZCoresSpec)

/-- 'laws.FnZWith', WHERE WHAT IT READS IS OF BULK AT MOST 1048576: true; the input reads as it did. -/
def fnZWithUptoRow : OpenClaim := { program := "ytpllbhobcnglnaagreatdoor", sum := "cc0757b5d6d6bdbbea280e46ea6a113ee15ab1c0e5c070427bdb52d0256d6152", func := "given.example/pub-chandler/laws.FnZWith", spec := "fnZWith", inPlace := ["math.Float32frombits", "math.Float64frombits"], unfollowed := true, recurses := true, named := ["internal/strconv.uint64pow10", "math/bits.deBruijn32tab", "math/bits.deBruijn64tab", "given.example/pub-chandler/pub/ztime.std0x", "given.example/pub-chandler/pub/ztime.longMonthNames", "given.example/pub-chandler/pub/ztime.longDayNames"], loops := true, apart := false, laid := [("math/bits.deBruijn32tab", laid_math_bits_deBruijn32tab), ("math/bits.deBruijn64tab", laid_math_bits_deBruijn64tab), ("given.example/pub-chandler/pub/ztime.std0x", laid_given_example_pub_chandler_pub_ztime_std0x), ("given.example/pub-chandler/pub/ztime.longDayNames", laid_given_example_pub_chandler_pub_ztime_longDayNames), ("given.example/pub-chandler/pub/ztime.longMonthNames", laid_given_example_pub_chandler_pub_ztime_longMonthNames), ("internal/strconv.uint64pow10", laid_internal_strconv_uint64pow10)], narrowed := true }
def FnZWithUptoSaid : Prop := fnZWithUptoRow.holds Tryz.pinned (OpenSpec.upto fnZWithSpec)

/-- 'laws.FnZClones', WHERE WHAT IT READS IS OF BULK AT MOST 1048576: true; the input reads as it did. -/
def fnZClonesUptoRow : OpenClaim := { program := "ytpllbhobcnglnaagreatdoor", sum := "cc0757b5d6d6bdbbea280e46ea6a113ee15ab1c0e5c070427bdb52d0256d6152", func := "given.example/pub-chandler/laws.FnZClones", spec := "fnZClones", inPlace := ["math.Float32frombits", "math.Float64frombits"], unfollowed := true, recurses := true, named := ["internal/strconv.uint64pow10", "math/bits.deBruijn32tab", "math/bits.deBruijn64tab", "given.example/pub-chandler/pub/ztime.std0x", "given.example/pub-chandler/pub/ztime.longMonthNames", "given.example/pub-chandler/pub/ztime.longDayNames"], loops := true, apart := false, laid := [("math/bits.deBruijn32tab", laid_math_bits_deBruijn32tab), ("math/bits.deBruijn64tab", laid_math_bits_deBruijn64tab), ("given.example/pub-chandler/pub/ztime.std0x", laid_given_example_pub_chandler_pub_ztime_std0x), ("given.example/pub-chandler/pub/ztime.longDayNames", laid_given_example_pub_chandler_pub_ztime_longDayNames), ("given.example/pub-chandler/pub/ztime.longMonthNames", laid_given_example_pub_chandler_pub_ztime_longMonthNames), ("internal/strconv.uint64pow10", laid_internal_strconv_uint64pow10)], narrowed := true }
def FnZClonesUptoSaid : Prop := fnZClonesUptoRow.holds Tryz.pinned (OpenSpec.upto fnZClonesSpec)

end Rows
end Go.Proofs.YtpllbhobcnglnaaGreatDoor
