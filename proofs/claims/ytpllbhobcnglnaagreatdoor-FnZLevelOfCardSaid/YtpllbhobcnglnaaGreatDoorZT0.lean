/- a text of the claims over the seat; its order and aim: NOTES.md -/
/- the calendar in plain numbers: the library's way and the definition's way give one date -/
namespace Go.Proofs.Zap.Cal

/-- days from the beginning of the year 1 to that of year y -/
def zd (y : Int) : Int := 365 * (y - 1) + (y - 1) / 4 - (y - 1) / 100 + (y - 1) / 400
def mlen (y m : Int) : Int := if m = 4 ∨ m = 6 ∨ m = 9 ∨ m = 11 then 30 else if m = 2 then (if zd (y + 1) - zd y = 366 then 29 else 28) else 31
/-- days of year y ahead of month m -/
def cum (y m : Int) : Int :=
  if m ≤ 1 then 0 else if m = 2 then 31 else 31 + mlen y 2 + (153 * (m - 3) + 2) / 5

/-- n days behind the first of March of the year 0 -/
def cen (n : Int) : Int := (4 * n + 3) / 146097
def cday (n : Int) : Int := (4 * n + 3) % 146097 / 4
def cyr (n : Int) : Int := (4 * cday n + 3) / 1461
def ayd (n : Int) : Int := (4 * cday n + 3) % 1461 / 4
def jf (n : Int) : Int := if 306 ≤ ayd n then 1 else 0
def yearN (n : Int) : Int := 100 * cen n + cyr n + jf n
def monN (n : Int) : Int := (5 * ayd n + 461) / 153 - 12 * jf n
def dayN (n : Int) : Int := 1 + (5 * ayd n + 461) % 153 / 5

theorem cday_bd (n : Int) (_ : 0 ≤ n) : 0 ≤ cday n ∧ cday n ≤ 36524 := by unfold cday; omega
theorem cyr_bd (n : Int) (h : 0 ≤ n) : 0 ≤ cyr n ∧ cyr n ≤ 99 := by have := cday_bd n h; unfold cyr; omega
theorem ayd_bd (n : Int) (_ : 0 ≤ n) : 0 ≤ ayd n ∧ ayd n ≤ 365 := by unfold ayd; omega
theorem cen_bd (n : Int) (h : 0 ≤ n) (h2 : n ≤ 3000000) : 0 ≤ cen n ∧ cen n ≤ 100 := by unfold cen; omega
theorem n_of (n : Int) : n = 36524 * cen n + cen n / 4 + cday n := by unfold cen cday; omega
theorem cday_of (n : Int) : cday n = 365 * cyr n + cyr n / 4 + ayd n := by unfold cyr ayd; omega

theorem mlen2 (y : Int) : mlen y 2 = zd (y + 1) - zd y - 337 := by
  unfold mlen
  rw [if_neg (by omega), if_pos rfl]
  unfold zd
  split <;> omega
theorem mlen_bd (y m : Int) : 28 ≤ mlen y m ∧ mlen y m ≤ 31 := by
  unfold mlen; repeat' split
  all_goals omega

theorem cum_succ (y m : Int) (h1 : 1 ≤ m) (h2 : m ≤ 11) : cum y (m + 1) = cum y m + mlen y m := by
  by_cases e : m = 2
  · subst e
    simp [cum]
  · have : m = 1 ∨ m = 3 ∨ m = 4 ∨ m = 5 ∨ m = 6 ∨ m = 7 ∨ m = 8 ∨ m = 9 ∨ m = 10 ∨ m = 11 := by omega
    rcases this with rfl | rfl | rfl | rfl | rfl | rfl | rfl | rfl | rfl | rfl <;> simp [cum, mlen] <;> omega

theorem cum_mono (y a b : Int) (_ : 1 ≤ a) (h : a ≤ b) : cum y a ≤ cum y b := by
  have hb := mlen_bd y 2
  unfold cum
  repeat' split
  all_goals omega
theorem cum_step (y a b : Int) (h1 : 1 ≤ a) (h : a < b) (hb : b ≤ 12) : cum y a + mlen y a ≤ cum y b := by
  rw [← cum_succ y a h1 (by omega)]
  exact cum_mono y _ _ (by omega) (by omega)
theorem cum_bd (y m : Int) (h : m ≤ 12) : 0 ≤ cum y m ∧ cum y m ≤ 335 := by
  have hb := mlen_bd y 2
  have : mlen y 2 ≤ 29 := by
    unfold mlen; rw [if_neg (by omega), if_pos rfl]; split <;> omega
  unfold cum
  repeat' split
  all_goals omega

theorem year_len (y : Int) : cum y 12 + 31 = zd (y + 1) - zd y := by
  have := mlen2 y
  simp only [cum]
  omega

theorem zd_mono (a b : Int) (h : a ≤ b) : zd a ≤ zd b := by unfold zd; omega

/-- the year, and the day in it -/
theorem year_day (n : Int) (h : 306 ≤ n) (h2 : n ≤ 3000000) :
    (jf n = 1 ∧ 306 ≤ ayd n ∧ n - 306 = zd (yearN n) + (ayd n - 306)) ∨ (jf n = 0 ∧ ayd n < 306 ∧ n - 306 = zd (yearN n) + 31 + mlen (yearN n) 2 + ayd n) := by
  have hc := cen_bd n (by omega) h2
  have hy := cyr_bd n (by omega)
  have ha := ayd_bd n (by omega)
  have e1 := n_of n
  have e2 := cday_of n
  by_cases hj : 306 ≤ ayd n
  · left
    have hjf : jf n = 1 := by unfold jf; rw [if_pos hj]
    refine ⟨hjf, hj, ?_⟩
    unfold yearN zd
    rw [hjf]
    generalize cen n = c at *
    generalize cyr n = y at *
    generalize ayd n = a at *
    generalize cday n = k at *
    have q1 : (100 * c + y + 1 - 1) / 100 = c := by omega
    have q2 : (100 * c + y + 1 - 1) / 400 = c / 4 := by omega
    have q3 : (100 * c + y + 1 - 1) / 4 = 25 * c + y / 4 := by omega
    rw [q1, q2, q3]
    omega
  · right
    have hjf : jf n = 0 := by unfold jf; rw [if_neg hj]
    refine ⟨hjf, by omega, ?_⟩
    rw [mlen2]
    unfold yearN zd
    rw [hjf]
    generalize cen n = c at *
    generalize cyr n = y at *
    generalize ayd n = a at *
    generalize cday n = k at *
    have q1 : (100 * c + y + 0 + 1 - 1) / 100 = c := by omega
    have q2 : (100 * c + y + 0 + 1 - 1) / 400 = c / 4 := by omega
    have q3 : (100 * c + y + 0 + 1 - 1) / 4 = 25 * c + y / 4 := by omega
    rw [q1, q2, q3]
    omega

theorem md_tab (a : Int) (h0 : 0 ≤ a) (h1 : a ≤ 365) :
    let m := (5 * a + 461) / 153; let d := (5 * a + 461) % 153 / 5
    3 ≤ m ∧ m ≤ 14 ∧ 0 ≤ d ∧ (m ≤ 12 → a = (153 * (m - 3) + 2) / 5 + d) ∧ (m = 13 → a = 306 + d) ∧ (m = 14 → a = 337 + d) ∧ (306 ≤ a ↔ 13 ≤ m) ∧
      d < (if m = 4 ∨ m = 6 ∨ m = 9 ∨ m = 11 then 30 else if m = 14 then 29 else 31) := by
  have key : ∀ a : Fin 366, 
    let m := (5 * (a.val : Int) + 461) / 153; let d := (5 * (a.val : Int) + 461) % 153 / 5
    3 ≤ m ∧ m ≤ 14 ∧ 0 ≤ d ∧ (m ≤ 12 → (a.val : Int) = (153 * (m - 3) + 2) / 5 + d) ∧ (m = 13 → (a.val : Int) = 306 + d) ∧ (m = 14 → (a.val : Int) = 337 + d) ∧ (306 ≤ (a.val : Int) ↔ 13 ≤ m) ∧
      d < (if m = 4 ∨ m = 6 ∨ m = 9 ∨ m = 11 then 30 else if m = 14 then 29 else 31) := by decide +kernel
  have := key ⟨a.toNat, by omega⟩
  simpa [Int.toNat_of_nonneg h0] using this

theorem cday_end (n : Int) (hk : cday n = 36524) : cen n % 4 = 3 := by
  have e : 4 * n + 3 = 146097 * ((4 * n + 3) / 146097) + (4 * n + 3) % 146097 := (Int.mul_ediv_add_emod _ _).symm
  have hl : (4 * n + 3) % 146097 < 146097 := Int.emod_lt_of_pos _ (by omega)
  unfold cday at hk
  unfold cen
  generalize (4 * n + 3) / 146097 = q at *
  generalize (4 * n + 3) % 146097 = r at *
  omega

theorem cyr_end (n : Int) (ha : ayd n = 365) : cyr n % 4 = 3 := by
  have e : 4 * cday n + 3 = 1461 * ((4 * cday n + 3) / 1461) + (4 * cday n + 3) % 1461 := (Int.mul_ediv_add_emod _ _).symm
  have hl : (4 * cday n + 3) % 1461 < 1461 := Int.emod_lt_of_pos _ (by omega)
  unfold ayd at ha
  unfold cyr
  generalize (4 * cday n + 3) / 1461 = q at *
  generalize (4 * cday n + 3) % 1461 = r at *
  generalize cday n = k at *
  omega

theorem leap_of (n : Int) (h : 306 ≤ n) (h2 : n ≤ 3000000) (ha : ayd n = 365) :
    zd (100 * cen n + cyr n + 1 + 1) - zd (100 * cen n + cyr n + 1) = 366 := by
  have hy := cyr_bd n (by omega)
  have e2 := cday_of n
  have hr := cday_end n
  have hq := cyr_end n ha
  unfold zd
  generalize cen n = c at *
  generalize cyr n = y at *
  rw [ha] at e2
  generalize cday n = k at *
  clear ha h h2
  by_cases h99 : y = 99
  · subst h99
    have h3 := hr (by omega)
    clear hr e2 hq
    obtain ⟨j, rfl⟩ : ∃ j, c = 4 * j + 3 := ⟨c / 4, by omega⟩
    have q1 : (100 * (4 * j + 3) + 99 + 1 + 1 - 1) / 4 = 100 * j + 100 := by omega
    have q2 : (100 * (4 * j + 3) + 99 + 1 + 1 - 1) / 100 = 4 * j + 4 := by omega
    have q3 : (100 * (4 * j + 3) + 99 + 1 + 1 - 1) / 400 = j + 1 := by omega
    have q4 : (100 * (4 * j + 3) + 99 + 1 - 1) / 4 = 100 * j + 99 := by omega
    have q5 : (100 * (4 * j + 3) + 99 + 1 - 1) / 100 = 4 * j + 3 := by omega
    have q6 : (100 * (4 * j + 3) + 99 + 1 - 1) / 400 = j := by omega
    rw [q1, q2, q3, q4, q5, q6]
    omega
  · obtain ⟨j, rfl⟩ : ∃ j, y = 4 * j + 3 := ⟨y / 4, by omega⟩
    clear hr e2 hq
    have q1 : (100 * c + (4 * j + 3) + 1 + 1 - 1) / 100 = c := by omega
    have q2 : (100 * c + (4 * j + 3) + 1 - 1) / 100 = c := by omega
    have q3 : (100 * c + (4 * j + 3) + 1 + 1 - 1) / 400 = c / 4 := by omega
    have q4 : (100 * c + (4 * j + 3) + 1 - 1) / 400 = c / 4 := by omega
    have q5 : (100 * c + (4 * j + 3) + 1 + 1 - 1) / 4 = 25 * c + j + 1 := by omega
    have q6 : (100 * c + (4 * j + 3) + 1 - 1) / 4 = 25 * c + j := by omega
    rw [q1, q2, q3, q4, q5, q6]
    omega

/-- the library's date is the definition's -/
theorem date_ok (n : Int) (h : 306 ≤ n) (h2 : n ≤ 3000000) :
    1 ≤ monN n ∧ monN n ≤ 12 ∧ 1 ≤ dayN n ∧ dayN n ≤ mlen (yearN n) (monN n) ∧ n - 306 = zd (yearN n) + cum (yearN n) (monN n) + (dayN n - 1) := by
  have ha := ayd_bd n (by omega)
  have ht := md_tab (ayd n) ha.1 ha.2
  simp only at ht
  obtain ⟨t1, t2, t3, t4, t5, t6, t7, t8⟩ := ht
  rcases year_day n h h2 with ⟨hj, hge, he⟩ | ⟨hj, hlt, he⟩
  · have hm13 := t7.1 hge
    unfold monN dayN
    rw [hj]
    generalize (5 * ayd n + 461) / 153 = m at *
    generalize (5 * ayd n + 461) % 153 / 5 = d at *
    have hY : yearN n = 100 * cen n + cyr n + 1 := by unfold yearN; rw [hj]
    have hml : True := trivial
    generalize yearN n = y at *
    have : m = 13 ∨ m = 14 := by omega
    rcases this with rfl | rfl
    · have := t5 rfl
      simp at t8
      simp [cum, mlen]
      omega
    · have e6 := t6 rfl
      simp at t8
      refine ⟨by omega, by omega, by omega, ?_, by simp [cum]; omega⟩
      show 1 + d ≤ mlen y 2
      by_cases hd : d ≤ 27
      · have := (mlen_bd y 2).1; omega
      · have hd28 : d = 28 := by omega
        subst hd28
        rw [mlen2 y, hY]
        clear hml
        have hl := leap_of n h h2 (by omega)
        omega
  · have hm12 : ¬ 13 ≤ (5 * ayd n + 461) / 153 := fun hh => by have := t7.2 hh; omega
    unfold monN dayN
    rw [hj]
    generalize (5 * ayd n + 461) / 153 = m at *
    generalize (5 * ayd n + 461) % 153 / 5 = d at *
    generalize yearN n = y at *
    have e4 := t4 (by omega)
    refine ⟨by omega, by omega, by omega, ?_, ?_⟩
    · unfold mlen
      rw [if_neg (show ¬ m = 14 by omega)] at t8
      simp only [Int.mul_zero, Int.sub_zero]
      rw [if_neg (show ¬ m = 2 by omega)]
      split at t8
      · rw [if_pos (by omega)]; omega
      · rw [if_neg (by omega)]; omega
    · unfold cum
      rw [if_neg (by omega), if_neg (by omega)]
      omega
theorem year_bd (y d : Int) (h0 : 600000 ≤ d) (h1 : d ≤ 830000) (hz : zd y ≤ d) (hz2 : d < zd (y + 1)) : 1600 ≤ y ∧ y ≤ 2300 := by
  constructor
  · apply Int.not_lt.1
    intro h
    have := zd_mono (y + 1) 1600 (by omega)
    have e : zd 1600 = 584022 := by decide
    omega
  · apply Int.not_lt.1
    intro h
    have := zd_mono 2301 y (by omega)
    have e : zd 2301 = 840057 := by decide
    omega
theorem split_hi (k : Int) (h0 : 0 ≤ k) (h1 : k ≤ 36524) : 2939745 * (4 * k + 3) / 4294967296 = (4 * k + 3) / 1461 := by
  have e : 4 * k + 3 = 1461 * ((4 * k + 3) / 1461) + (4 * k + 3) % 1461 := (Int.mul_ediv_add_emod _ _).symm
  have hl : (4 * k + 3) % 1461 < 1461 := Int.emod_lt_of_pos _ (by omega)
  have hl0 : 0 ≤ (4 * k + 3) % 1461 := Int.emod_nonneg _ (by omega)
  generalize (4 * k + 3) / 1461 = q at *
  generalize (4 * k + 3) % 1461 = r at *
  omega
theorem split_lo (k : Int) (h0 : 0 ≤ k) (h1 : k ≤ 36524) : 2939745 * (4 * k + 3) % 4294967296 / 2939745 = (4 * k + 3) % 1461 := by
  have e : 4 * k + 3 = 1461 * ((4 * k + 3) / 1461) + (4 * k + 3) % 1461 := (Int.mul_ediv_add_emod _ _).symm
  have hl : (4 * k + 3) % 1461 < 1461 := Int.emod_lt_of_pos _ (by omega)
  have hl0 : 0 ≤ (4 * k + 3) % 1461 := Int.emod_nonneg _ (by omega)
  generalize (4 * k + 3) / 1461 = q at *
  generalize (4 * k + 3) % 1461 = r at *
  have e2 : 2939745 * (4 * k + 3) % 4294967296 = 149 * q + 2939745 * r := by omega
  rw [e2]
  omega
theorem month_bits (a : Int) (h0 : 0 ≤ a) (h1 : a ≤ 365) : (2141 * a + 197913) / 65536 = (5 * a + 461) / 153 ∧ (2141 * a + 197913) % 65536 / 2141 = (5 * a + 461) % 153 / 5 := by
  have key : ∀ a : Fin 366, (2141 * (a.val : Int) + 197913) / 65536 = (5 * (a.val : Int) + 461) / 153 ∧ (2141 * (a.val : Int) + 197913) % 65536 / 2141 = (5 * (a.val : Int) + 461) % 153 / 5 := by decide +kernel
  have := key ⟨a.toNat, by omega⟩
  simpa [Int.toNat_of_nonneg h0] using this
theorem or3 (x : Nat) : x ||| 3 = x / 4 * 4 + 3 := by
  apply Nat.eq_of_testBit_eq
  intro i
  have : x / 4 * 4 + 3 = 2 ^ 2 * (x / 4) + 3 := by omega
  rw [this, Nat.testBit_or, Nat.testBit_two_pow_mul_add _ (by omega)]
  by_cases hi : i < 2
  · rw [if_pos hi]
    have : i = 0 ∨ i = 1 := by omega
    rcases this with rfl | rfl <;> simp [Nat.testBit]
  · rw [if_neg hi]
    have h3 : Nat.testBit 3 i = false := Nat.testBit_lt_two_pow (Nat.lt_of_lt_of_le (by omega : 3 < 2 ^ 2) (Nat.pow_le_pow_right (by omega) (by omega)))
    rw [h3, Bool.or_false, show x / 4 = x >>> 2 by rw [Nat.shiftRight_eq_div_pow], Nat.testBit_shiftRight]
    congr 1; omega
end Go.Proofs.Zap.Cal
