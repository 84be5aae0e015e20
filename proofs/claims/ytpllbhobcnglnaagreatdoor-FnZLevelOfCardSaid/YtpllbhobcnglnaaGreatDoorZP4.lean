/- a text of the claims over the seat; its order and aim: NOTES.md -/
import Derived.Test.YtpllbhobcnglnaaGreatDoorZP2
import Derived.Test.YtpllbhobcnglnaaGreatDoorZP3
namespace Go.Proofs.Zap
open Go Go.Proofs Go.RowKit

theorem enc96_0 (w : World) : Calls Tryz.prog 96 #[.int .i64 0] w fun e w' => e = .returned .nilFunc ∧ w' = w := by
  go_enter Tryz.func96, Tryz.ntmps96
  go_wp2
  go_ret
  exact ⟨rfl, rfl⟩
theorem enc97_0 (s : ByteArray) (w : World) : Calls Tryz.prog 97 #[.int .i64 0, .string s] w fun e w' => e = .returned .nilFunc ∧ w' = w := by
  go_enter Tryz.func97, Tryz.ntmps97
  go_wp2
  go_ret
  exact ⟨rfl, rfl⟩
theorem enc98_2 (w : World) : Calls Tryz.prog 98 #[.int .i64 2] w fun e w' => e = .returned (.func (.func 160) #[] #[]) ∧ w' = w := by
  go_enter Tryz.func98, Tryz.ntmps98
  go_wp2
  go_ret
  exact ⟨rfl, rfl⟩
theorem enc99_0 (w : World) : Calls Tryz.prog 99 #[.int .i64 0] w fun e w' => e = .returned .nilFunc ∧ w' = w := by
  go_enter Tryz.func99, Tryz.ntmps99
  go_wp2
  go_ret
  exact ⟨rfl, rfl⟩

theorem itoa1500 : Lib.itoa 1500 = [49, 53, 48, 48] := by
  simp [Lib.itoa, Lib.decDigits]

set_option maxHeartbeats 2000000 in
set_option maxRecDepth 100000 in
theorem durText_any (w : World) (hT : PTab w) (h13 : 13 ≤ w.heap.size) :
    Calls Tryz.prog 13 #[.int .i64 1500, .int .i64 2] w fun e w' => e = .returned (.string ⟨#[49, 53, 48, 48]⟩) ∧ Below w.heap.size w w' := by
  go_enter Tryz.func13, Tryz.ntmps13
  go_wp2_with fail
  refine (configD_any ⟨#[]⟩ ⟨#[]⟩ ⟨#[]⟩ ⟨#[]⟩ ⟨#[]⟩ ⟨#[]⟩ ⟨#[]⟩ false ⟨#[]⟩ 0 0 2 0 0 ⟨#[]⟩ ⟨#[]⟩ 160 enc96_0 (enc97_0 _) enc98_2 enc99_0 rfl _).mono ?_
  rintro e w1 ⟨rfl, hb1⟩
  have hD1 : w1.cell? ⟨w.heap.size, 0, none⟩ = some (.int .i64 1500) := by
    rw [hb1.cell (p := ⟨w.heap.size, 0, none⟩) (by simp)]
    exact cell_of_one (heap_alloc_new w _)
  have hs1 : w.heap.size < w1.heap.size := by have := hb1.size; simp at this; omega
  have hbel : Below w.heap.size w w1 := ((Below.refl _ w).alloc (Nat.le_refl _) _).trans (hb1.mono (by simp))
  have hT1 : PTab w1 := hT.below hbel h13
  have HB := Lib.hid hbel
  clear hb1 hbel
  go_wp2_with fail
  have hv := valueDur_any w.heap.size 1500 (by omega) (by omega) w1 hT1 (by omega) (by rw [itoa1500]; decide) hD1 hs1
  rw [itoa1500] at hv
  refine hv.mono ?_
  rintro e w2 ⟨rfl, hb2⟩
  have HB2 := Lib.hid (HB.out.trans (hb2.mono (by omega)))
  clear hb2 hv
  go_wp2_with fail
  go_ret
  exact ⟨rfl, HB2.out⟩

set_option maxHeartbeats 2000000 in
set_option maxRecDepth 100000 in
theorem awake_any (w : World) (hT : PTab w) (h13 : 13 ≤ w.heap.size) :
    Calls Tryz.prog 17 #[] w fun e w' => e = .returned (.bool true) ∧ Below w.heap.size w w' := by
  go_enter Tryz.func17, Tryz.ntmps17
  go_wp2_with fail
  refine (leveltext_any w).mono ?_
  rintro e w1 ⟨rfl, hb1⟩
  have hs := hb1.size
  have HB := Lib.hid hb1
  clear hb1
  go_wp2_with fail
  refine (durText_any w1 (hT.below HB.out h13) (by omega)).mono ?_
  rintro e w2 ⟨rfl, hb2⟩
  have HB2 := Lib.hid (HB.out.trans (hb2.mono (by omega)))
  clear hb2
  go_wp2_with fail
  go_ret
  exact ⟨rfl, HB2.out⟩
end Go.Proofs.Zap
