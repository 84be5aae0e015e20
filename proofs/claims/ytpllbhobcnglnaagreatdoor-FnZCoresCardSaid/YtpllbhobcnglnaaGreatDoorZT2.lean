/- a text of the claims over the seat; its order and aim: NOTES.md -/
import Derived.Test.YtpllbhobcnglnaaGreatDoorZT1
import Derived.OneCell
namespace Go.Proofs.Zap
open Go Go.Proofs Go.RowKit

theorem floor_eq (a b : Int) (hb : 0 < b) : a / b = if a.tmod b ≠ 0 ∧ a < 0 then a.tdiv b - 1 else a.tdiv b := by
  have h3 := Int.emod_nonneg a (show b ≠ 0 by omega)
  have h4 := Int.emod_lt_of_pos a hb
  by_cases h : 0 ≤ a
  · rw [if_neg (by omega), Int.tdiv_eq_ediv_of_nonneg h]
  · have hm := Int.tmod_eq_emod (a := a) (b := b)
    have hd := Int.tdiv_eq_ediv (a := a) (b := b)
    rw [hd, hm]
    have hs : b.sign = 1 := Int.sign_eq_one_of_pos hb
    have hdv : b ∣ a ↔ a % b = 0 := ⟨fun h => Int.emod_eq_zero_of_dvd h, fun h => Int.dvd_of_emod_eq_zero h⟩
    by_cases hz : a % b = 0
    · have : b ∣ a := hdv.2 hz
      simp [this, hz]
    · have : ¬ b ∣ a := fun hh => hz (hdv.1 hh)
      have h5 : ¬ (0 ≤ a ∨ b ∣ a) := by omega
      rw [if_neg h5, if_neg h5, hs, if_pos (by constructor <;> omega)]
      omega

set_option maxHeartbeats 400000 in
theorem floor_any (a b : Int) (h0 : -9223372036854775807 ≤ a) (h1 : a ≤ 9223372036854775807) (hb : 1 ≤ b) (hb1 : b ≤ 9223372036854775807) (w : World) :
    Calls Tryz.prog 112 #[.int .i64 a, .int .i64 b] w fun e w' => e = .returned (.int .i64 (a / b)) ∧ w' = w := by
  have hf := floor_eq a b (by omega)
  rw [hf]
  clear hf
  by_cases hc : a.tmod b = 0
  · rw [if_neg (by omega)]
    go_enter Tryz.func112, Tryz.ntmps112
    go_wp2
    go_ret
    exact ⟨rfl, rfl⟩
  · by_cases hn : a < 0
    · rw [if_pos ⟨hc, hn⟩]
      have hlo : -9223372036854775807 ≤ a.tdiv b ∧ a.tdiv b ≤ 0 := by
        have h5 := floor_eq a b (by omega)
        rw [if_pos ⟨hc, hn⟩] at h5
        have h6 : a ≤ a / b := by
          apply (Int.le_ediv_iff_mul_le (by omega)).2
          have := Int.mul_le_mul_of_nonpos_left (a := a) (b := b) (c := 1) (by omega) (by omega)
          omega
        have h7 : a / b < 0 := Int.ediv_neg_of_neg_of_pos hn (by omega)
        omega
      have hb' : decide (b < 0) = false := by simp; omega
      have hcc : (a.tmod b != 0) = true := by simpa using hc
      go_enter Tryz.func112, Tryz.ntmps112
      go_wp2
      go_ret
      exact ⟨rfl, rfl⟩
    · rw [if_neg (by omega)]
      rw [Int.tdiv_eq_ediv_of_nonneg (by omega)]
      have hb' : decide (b < 0) = false := by simp; omega
      go_enter Tryz.func112, Tryz.ntmps112
      go_wp2
      all_goals
        go_ret
        exact ⟨rfl, rfl⟩

set_option maxHeartbeats 400000 in
theorem zdays_any (y : Int) (h0 : -1000000 ≤ y) (h1 : y ≤ 1000000) (w : World) :
    Calls Tryz.prog 113 #[.int .i64 y] w fun e w' => e = .returned (.int .i64 (Cal.zd y)) ∧ w' = w := by
  go_enter Tryz.func113, Tryz.ntmps113
  go_wp2_with (go_at_call 112; refine (floor_any _ _ (by omega) (by omega) (by omega) (by omega) _).mono ?_; rintro e w' ⟨rfl, rfl⟩)
  go_ret
  exact ⟨rfl, rfl⟩

theorem zd_bd (y : Int) (h0 : -1000000 ≤ y) (h1 : y ≤ 1000001) : -400000000 ≤ Cal.zd y ∧ Cal.zd y ≤ 400000000 := by unfold Cal.zd; omega

set_option maxHeartbeats 400000 in
theorem leap_any (y : Int) (h0 : -1000 ≤ y) (h1 : y ≤ 10000) (w : World) :
    Calls Tryz.prog 176 #[.int .i64 y] w fun e w' => e = .returned (.bool (Cal.zd (y + 1) - Cal.zd y == 366)) ∧ w' = w := by
  have b1 := zd_bd y (by omega) (by omega)
  have b2 := zd_bd (y + 1) (by omega) (by omega)
  go_enter Tryz.func176, Tryz.ntmps176
  go_wp2_with (go_at_call 113; refine (zdays_any _ (by omega) (by omega) _).mono ?_; rintro e w' ⟨rfl, rfl⟩)
  go_ret
  exact ⟨rfl, rfl⟩

set_option maxHeartbeats 800000 in
theorem zmonth_any (y m : Int) (h0 : -1000 ≤ y) (h1 : y ≤ 10000) (hm : 1 ≤ m) (hm2 : m ≤ 12) (w : World) :
    Calls Tryz.prog 114 #[.int .i64 y, .int .i64 m] w fun e w' => e = .returned (.int .i64 (Cal.mlen y m)) ∧ w' = w := by
  have hcs : m = 1 ∨ m = 2 ∨ m = 3 ∨ m = 4 ∨ m = 5 ∨ m = 6 ∨ m = 7 ∨ m = 8 ∨ m = 9 ∨ m = 10 ∨ m = 11 ∨ m = 12 := by omega
  rcases hcs with rfl | rfl | rfl | rfl | rfl | rfl | rfl | rfl | rfl | rfl | rfl | rfl
  case inr.inl =>
    by_cases hl : Cal.zd (y + 1) - Cal.zd y = 366
    · have e : Cal.mlen y 2 = 29 := by rw [Cal.mlen2]; omega
      have HE := Lib.hid e
      have hb : (Cal.zd (y + 1) - Cal.zd y == 366) = true := by simpa using hl
      have hc := leap_any y h0 h1 w
      rw [hb] at hc
      rw [HE.out]
      clear hl e hb
      go_enter Tryz.func114, Tryz.ntmps114
      go_wp2_with (go_at_call 176; refine hc.mono ?_; rintro e w' ⟨rfl, rfl⟩)
      go_ret
      exact ⟨rfl, rfl⟩
    · have e : Cal.mlen y 2 = 28 := by unfold Cal.mlen; rw [if_neg (by omega), if_pos rfl, if_neg hl]
      have HE := Lib.hid e
      have hb : (Cal.zd (y + 1) - Cal.zd y == 366) = false := by simpa using hl
      have hc := leap_any y h0 h1 w
      rw [hb] at hc
      rw [HE.out]
      clear hl e hb
      go_enter Tryz.func114, Tryz.ntmps114
      go_wp2_with (go_at_call 176; refine hc.mono ?_; rintro e w' ⟨rfl, rfl⟩)
      go_ret
      exact ⟨rfl, rfl⟩
  all_goals
    simp only [Cal.mlen, Int.reduceEq, or_true, or_self, or_false, if_true, if_false]
    go_enter Tryz.func114, Tryz.ntmps114
    go_wp2
    go_ret
    exact ⟨rfl, rfl⟩
end Go.Proofs.Zap
