/- a text of the claims over the seat; its order and aim: NOTES.md -/
import Derived.WalkKit
import Derived.WalkLawsBesides
import Derived.WalkSpells
import Derived.Deep.QuietTactic
import Derived.BigQuiet
import Derived.Deep.RegionWith
import Derived.Lib.Hide
import Derived.Laws.BitsLemmas
import Derived.Test.YtpllbhobcnglnaaGreatDoorProg
import Derived.Test.YtpllbhobcnglnaaGreatDoorZT0
namespace Go.Proofs.Zap
open Go Go.Proofs Go.RowKit

theorem wraps_u32' (n : Int) (h₀ : 0 ≤ n) (h₁ : n < 2 ^ 32) : IntKind.u32.wrap n = n := by rw [IntKind.wrap_u32]; omega

theorem ret_eq {a b : Value} (h : a = b) : Ending.returned a = .returned b := by rw [h]
theorem int_eq {k : IntKind} {a b : Int} (h : a = b) : Value.int k a = .int k b := by rw [h]

theorem mul32_any (x y : Int) (hx0 : 0 ≤ x) (hx : x ≤ 4294967295) (hy0 : 0 ≤ y) (hy : y ≤ 4294967295) (w : World) :
    Calls Tryz.prog 243 #[.int .u32 x, .int .u32 y] w fun e w' => e = .returned (.tuple #[.int .u32 (x * y / 4294967296), .int .u32 (x * y % 4294967296)]) ∧ w' = w := by
  have h1 : 0 ≤ x * y := Int.mul_nonneg hx0 hy0
  have h2 : x * y ≤ 4294967295 * 4294967295 := Int.mul_le_mul hx hy hy0 (by omega)
  have H : Hid (IntKind.u64.wrap (x * y) = x * y) := IntWalk.u64_in _ ⟨h1, by omega⟩
  go_enter Tryz.func243, Tryz.ntmps243
  go_wp2
  go_ret2
  refine ⟨ret_eq ?_, rfl⟩
  simp only [Array.getD_eq_getD_getElem?]
  simp

theorem janFeb_any (a : Int) (w : World) :
    Calls Tryz.prog 233 #[.int .i64 a] w fun e w' => e = .returned (.int .i64 (if 306 ≤ a then 1 else 0)) ∧ w' = w := by
  by_cases h : 306 ≤ a
  · rw [if_pos h]
    go_enter Tryz.func233, Tryz.ntmps233
    go_wp2
    go_ret
    exact ⟨rfl, rfl⟩
  · rw [if_neg h]
    go_enter Tryz.func233, Tryz.ntmps233
    go_wp2
    go_ret
    exact ⟨rfl, rfl⟩

theorem ydsplit_any (a : Int) (h0 : 0 ≤ a) (h1 : a ≤ 365) (w : World) :
    Calls Tryz.prog 232 #[.int .i64 a] w fun e w' => e = .returned (.tuple #[.int .i64 ((5 * a + 461) / 153), .int .i64 (1 + (5 * a + 461) % 153 / 5)]) ∧ w' = w := by
  have hb := Cal.month_bits a h0 h1
  have hm : bits .and .u32 (2141 * a + 197913) 65535 = (2141 * a + 197913) % 65536 := by
    have h := bits_mask .u32 32 (by decide) wraps_u32' 16 (by decide) (2141 * a + 197913) (by omega) (by omega)
    have e : ((2 : Int) ^ 16 - 1) = 65535 := by decide
    have e2 : ((2 : Int) ^ 16) = 65536 := by decide
    rwa [e, e2] at h
  have HM := Lib.hid hm
  have HB := Lib.hid hb
  clear hb hm
  go_enter Tryz.func232, Tryz.ntmps232
  go_wp2
  go_ret2
  refine ⟨ret_eq ?_, rfl⟩
  have h1 := HM.out
  have h2 := HB.out
  simp
  rw [h1, Int.tdiv_eq_ediv_of_nonneg (by omega)]
  omega

set_option maxHeartbeats 400000 in
theorem split_any (n : Int) (h0 : 306 ≤ n) (h1 : n ≤ 3000000) (w : World) :
    Calls Tryz.prog 231 #[.int .u64 (106751990353932 + n)] w fun e w' => e = .returned (.tuple #[.int .u64 (2922770224 + Cal.cen n), .int .i64 (Cal.cyr n), .int .i64 (Cal.ayd n)]) ∧ w' = w := by
  have hk := Cal.cday_bd n (by omega)
  have e1 : (4 * (106751990353932 + n) + 3) / 146097 = 2922770224 + Cal.cen n := by unfold Cal.cen; omega
  have e2 : (4 * (106751990353932 + n) + 3) % 146097 = (4 * n + 3) % 146097 := by omega
  have e3 : bits .or .u32 ((4 * (106751990353932 + n) + 3) % 146097) 3 = 4 * Cal.cday n + 3 := by
    rw [e2]
    have hx0 : 0 ≤ (4 * n + 3) % 146097 := Int.emod_nonneg _ (by omega)
    have hx1 : (4 * n + 3) % 146097 < 146097 := Int.emod_lt_of_pos _ (by omega)
    have hcd : Cal.cday n = (4 * n + 3) % 146097 / 4 := rfl
    rw [hcd]
    obtain ⟨x, hx⟩ := Int.eq_ofNat_of_zero_le hx0
    rw [hx] at hx1 ⊢
    rw [show (3 : Int) = ((3 : Nat) : Int) from rfl, (bits_nat .u32 32 (by decide) wraps_u32' x 3 (by omega) (by omega)).2, Cal.or3]
    omega
  have e4 : 2939745 * (4 * Cal.cday n + 3) / 4294967296 = Cal.cyr n := Cal.split_hi _ hk.1 hk.2
  have e5 : 2939745 * (4 * Cal.cday n + 3) % 4294967296 / 2939745 / 4 = Cal.ayd n := by rw [Cal.split_lo _ hk.1 hk.2]; rfl
  have hm := mul32_any 2939745 (bits .or .u32 ((4 * (106751990353932 + n) + 3) % 146097) 3) (by omega) (by omega) (by rw [e3]; omega) (by rw [e3]; omega) w
  have hp : 0 ≤ 2939745 * (4 * Cal.cday n + 3) % 4294967296 := Int.emod_nonneg _ (by omega)
  have hy := Cal.cyr_bd n (by omega)
  have HM := Lib.hid hm
  have H1 := Lib.hid e1
  have H3 := Lib.hid e3
  have H4 := Lib.hid e4
  have H5 := Lib.hid e5
  clear e1 e2 e3 e4 e5 hm
  go_enter Tryz.func231, Tryz.ntmps231
  go_wp2_with fail
  refine HM.out.mono ?_
  rw [H3.out, H4.out]
  rintro e w' ⟨rfl, rfl⟩
  go_wp2_with fail
  go_ret3
  refine ⟨ret_eq ?_, rfl⟩
  have g1 := H1.out
  have g5 := H5.out
  have q : Cal.cyr n % 4294967296 = Cal.cyr n := by omega
  simp
  exact ⟨g1, g5⟩

theorem year_any (c y j : Int) (h0 : 0 ≤ c) (h1 : c ≤ 1000) (hy0 : 0 ≤ y) (hy1 : y ≤ 1000) (hj0 : 0 ≤ j) (hj1 : j ≤ 1000) (w : World) :
    Calls Tryz.prog 234 #[.int .u64 (2922770224 + c), .int .i64 y, .int .i64 j] w fun e w' => e = .returned (.int .i64 (100 * c + y + j)) ∧ w' = w := by
  go_enter Tryz.func234, Tryz.ntmps234
  go_wp2
  go_ret
  refine ⟨ret_eq ?_, rfl⟩
  simp
  omega

theorem month_any (m j : Int) (h0 : 0 ≤ m) (h1 : m ≤ 20) (hj0 : 0 ≤ j) (hj1 : j ≤ 1) (w : World) :
    Calls Tryz.prog 235 #[.int .i64 m, .int .i64 j] w fun e w' => e = .returned (.int .i64 (m - 12 * j)) ∧ w' = w := by
  go_enter Tryz.func235, Tryz.ntmps235
  go_wp2
  go_ret
  refine ⟨ret_eq ?_, rfl⟩
  simp
  omega

theorem jf_eq (n : Int) : (if 306 ≤ Cal.ayd n then (1 : Int) else 0) = Cal.jf n := rfl

set_option maxHeartbeats 400000 in
theorem date_any (n : Int) (h0 : 306 ≤ n) (h1 : n ≤ 3000000) (w : World) :
    Calls Tryz.prog 219 #[.int .u64 (106751990353932 + n)] w fun e w' => e = .returned (.tuple #[.int .i64 (Cal.yearN n), .int .i64 (Cal.monN n), .int .i64 (Cal.dayN n)]) ∧ w' = w := by
  have hc := Cal.cen_bd n (by omega) h1
  have hy := Cal.cyr_bd n (by omega)
  have ha := Cal.ayd_bd n (by omega)
  have hj : 0 ≤ Cal.jf n ∧ Cal.jf n ≤ 1 := by unfold Cal.jf; split <;> omega
  go_enter Tryz.func219, Tryz.ntmps219
  go_wp2_with fail
  refine (split_any n h0 h1 _).mono ?_
  rintro e w' ⟨rfl, rfl⟩
  go_wp2_with fail
  refine (ydsplit_any _ ha.1 ha.2 _).mono ?_
  rintro e w' ⟨rfl, rfl⟩
  go_wp2_with fail
  refine (janFeb_any _ _).mono ?_
  rw [jf_eq]
  rintro e w' ⟨rfl, rfl⟩
  go_wp2_with fail
  refine (year_any _ _ _ hc.1 (by omega) hy.1 (by omega) hj.1 (by omega) _).mono ?_
  rintro e w' ⟨rfl, rfl⟩
  go_wp2_with fail
  refine (month_any _ _ (by omega) (by omega) hj.1 hj.2 _).mono ?_
  rintro e w' ⟨rfl, rfl⟩
  go_wp2_with fail
  go_ret3
  exact ⟨rfl, rfl⟩

theorem days_any (a : Int) (h0 : 0 ≤ a) (h1 : a ≤ 18446744073709551615) (w : World) :
    Calls Tryz.prog 218 #[.int .u64 a] w fun e w' => e = .returned (.int .u64 (a / 86400)) ∧ w' = w := by
  go_enter Tryz.func218, Tryz.ntmps218
  go_wp2
  go_ret
  exact ⟨rfl, rfl⟩

theorem clock_any (a : Int) (h0 : 0 ≤ a) (h1 : a ≤ 18446744073709551615) (w : World) :
    Calls Tryz.prog 221 #[.int .u64 a] w fun e w' => e = .returned (.tuple #[.int .i64 (a % 86400 / 3600), .int .i64 (a % 86400 / 60 % 60), .int .i64 (a % 60)]) ∧ w' = w := by
  have hm0 : 0 ≤ a % 86400 := Int.emod_nonneg _ (by omega)
  have hm1 : a % 86400 < 86400 := Int.emod_lt_of_pos _ (by omega)
  go_enter Tryz.func221, Tryz.ntmps221
  go_wp2
  go_ret3
  refine ⟨ret_eq ?_, rfl⟩
  simp
  omega
end Go.Proofs.Zap
