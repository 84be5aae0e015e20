/- a text of the claims over the seat; its order and aim: NOTES.md -/
import Derived.Test.YtpllbhobcnglnaaGreatDoorZT2
import Derived.Test.YtpllbhobcnglnaaGreatDoorZK
namespace Go.Proofs.Zap
open Go Go.Proofs Go.RowKit

theorem zd_guess (d : Int) (h0 : 1 ≤ d) (h1 : d ≤ 3000000) : Cal.zd (1 + d / 366) ≤ d := by unfold Cal.zd; omega

def mom (y m d h mi s n : Int) : Array Value := #[.int .i64 y, .int .i64 m, .int .i64 d, .int .i64 h, .int .i64 mi, .int .i64 s, .int .i64 n]

def yOf (w : World) (B i : Nat) : Int := match w.cell? ⟨B, i, none⟩ with | some (.int _ n) => n | _ => 0
theorem Blk.yOf {w : World} {B t i : Nat} {cs : Array Value} {k : IntKind} {n : Int} (h : Blk w B t cs) (hi : cs[i]? = some (.int k n)) : Zap.yOf w B i = n := by
  unfold Zap.yOf; rw [h.cell, hi]

theorem Blk.new2 (w : World) (o : Obj) (t : TypeId) (cs : Array Value) : Blk ((w.alloc o).alloc (.cells cs t)) (w.heap.size + 1) t cs := by
  have := Blk.new (w.alloc o) t cs
  simpa using this

set_option maxHeartbeats 4000000 in
theorem zat_any (N ahead : Int) (h0 : -9223372036854775808 ≤ N) (h1 : N ≤ 9223372036854775807) (ha0 : -86400 < ahead) (ha1 : ahead < 86400) (w : World) :
    Calls Tryz.prog 65 #[.int .i64 N, .int .i64 ahead] w fun e w' =>
      e = .returned (.agg (mom (Cal.yearN ((N / 1000000000 + ahead) / 86400 + 719468)) (Cal.monN ((N / 1000000000 + ahead) / 86400 + 719468)) (Cal.dayN ((N / 1000000000 + ahead) / 86400 + 719468))
        ((N / 1000000000 + ahead) % 86400 / 3600) ((N / 1000000000 + ahead) % 86400 / 60 % 60) ((N / 1000000000 + ahead) % 60) (N % 1000000000))) ∧ Below w.heap.size w w' := by
  have hf := floor_eq N 1000000000 (by omega)
  have hr0 : 0 ≤ N % 1000000000 := Int.emod_nonneg _ (by omega)
  have hr1 : N % 1000000000 < 1000000000 := Int.emod_lt_of_pos _ (by omega)
  have hS0 : -9223372037 ≤ N / 1000000000 := by omega
  have hS1 : N / 1000000000 ≤ 9223372036 := by omega
  have hcase : (N.tmod 1000000000 < 0 ∧ N.tdiv 1000000000 - 1 = N / 1000000000 ∧ N.tmod 1000000000 + 1000000000 = N % 1000000000 ∧ -9223372036 ≤ N.tdiv 1000000000 ∧ N.tdiv 1000000000 ≤ 0) ∨
      (0 ≤ N.tmod 1000000000 ∧ N.tdiv 1000000000 = N / 1000000000 ∧ N.tmod 1000000000 = N % 1000000000) := by
    have e1 := Int.mul_tdiv_add_tmod N 1000000000
    have e2 := Int.mul_ediv_add_emod N 1000000000
    by_cases hN : N.tmod 1000000000 < 0
    · left
      have hneg : N < 0 := Int.not_le.1 fun h => by rw [Int.tmod_eq_emod_of_nonneg h] at hN; omega
      rw [if_pos ⟨by omega, hneg⟩] at hf
      omega
    · right
      by_cases h2 : N.tmod 1000000000 ≠ 0 ∧ N < 0
      · exfalso
        rw [if_pos h2] at hf
        omega
      · rw [if_neg h2] at hf
        omega
  clear hf
  generalize N / 1000000000 = S at *
  generalize N % 1000000000 = R at *
  have hD0 : -106753 ≤ (S + ahead) / 86400 := by omega
  have hD1 : (S + ahead) / 86400 ≤ 106753 := by omega
  have e1 : S + ahead - 86400 * ((S + ahead) / 86400) = (S + ahead) % 86400 := by omega
  have e2 : (S + ahead) % 86400 % 60 = (S + ahead) % 60 := by omega
  have hd := Cal.date_ok ((S + ahead) / 86400 + 719468) (by omega) (by omega)
  generalize Cal.yearN ((S + ahead) / 86400 + 719468) = Y at hd ⊢
  generalize Cal.monN ((S + ahead) / 86400 + 719468) = M at hd ⊢
  generalize Cal.dayN ((S + ahead) / 86400 + 719468) = dd at hd ⊢
  obtain ⟨D, hD⟩ : ∃ D, (S + ahead) / 86400 = D := ⟨_, rfl⟩
  obtain ⟨hh, hhe⟩ : ∃ x, (S + ahead) % 86400 / 3600 = x := ⟨_, rfl⟩
  obtain ⟨mi, hmi⟩ : ∃ x, (S + ahead) % 86400 / 60 % 60 = x := ⟨_, rfl⟩
  obtain ⟨ss, hss⟩ : ∃ x, (S + ahead) % 60 = x := ⟨_, rfl⟩
  rw [hhe, hmi, hss]
  rw [hss] at e2
  rw [hD] at e1 hD0 hD1 hd
  have e3 : (S + ahead - 86400 * D) / 3600 = hh := by rw [e1]; exact hhe
  have e4 : (S + ahead - 86400 * D) / 60 % 60 = mi := by rw [e1]; exact hmi
  have e5 : (S + ahead - 86400 * D) % 60 = ss := by rw [e1]; exact e2
  have HD := Lib.hid hD
  have E1 := Lib.hid e1
  have E3 := Lib.hid e3
  have E4 := Lib.hid e4
  have E5 := Lib.hid e5
  have b0 : 0 ≤ S + ahead - 86400 * D := by rw [e1]; exact Int.emod_nonneg _ (by omega)
  have b1 : S + ahead - 86400 * D < 86400 := by rw [e1]; exact Int.emod_lt_of_pos _ (by omega)
  clear e1 e2 e3 e4 e5 hD hhe hmi hss
  rcases hcase with ⟨hN, hq, hr, hl1, hl2⟩ | ⟨hN, hq, hr⟩
  all_goals
    go_enter Tryz.func65, Tryz.ntmps65
    go_wp2_with fail
    clear hq hr hN
    refine (floor_any _ _ (by omega) (by omega) (by omega) (by omega) _).mono ?_
    rw [HD.out]
    rintro e w' ⟨rfl, rfl⟩
    go_wp2_with fail
    rw [E3.out, E4.out, E5.out]
    have hM : Blk ((w.alloc (.cells (mom 0 0 0 0 0 0 0) 115)).alloc (.cells (mom 0 0 0 hh mi ss R) 115)) (w.heap.size + 1) 115 (mom 0 0 0 hh mi ss R) := Blk.new2 w _ _ _
    have hZ : Blk ((w.alloc (.cells (mom 0 0 0 0 0 0 0) 115)).alloc (.cells (mom 0 0 0 hh mi ss R) 115)) w.heap.size 115 (mom 0 0 0 0 0 0 0) := (Blk.new w _ _).alloc _
    have hb : Below w.heap.size w ((w.alloc (.cells (mom 0 0 0 0 0 0 0) 115)).alloc (.cells (mom 0 0 0 hh mi ss R) 115)) := ((Below.refl _ _).alloc (Nat.le_refl _) _).alloc (by simp) _
    simp only [mom] at hM hZ hb
    generalize World.alloc (w.alloc _) _ = w1 at hM hZ hb ⊢
    obtain ⟨m1, m12, d1, d2, hn⟩ := hd
    have hcm := Cal.cum_bd Y M m12
    have hml := Cal.mlen_bd Y M
    have hY := Cal.year_bd Y (D + 719162) (by omega) (by omega) (by omega) (by
      have h12 := Cal.year_len Y
      have e12 : Cal.mlen Y 12 = 31 := rfl
      by_cases hM12 : M = 12
      · subst hM12; omega
      · have := Cal.cum_step Y M 12 m1 (by omega) (by omega); omega)
    have hz70 : Cal.zd 1970 = 719162 := by decide
    refine (zdays_any _ (by omega) (by omega) _).mono ?_
    rw [hz70]
    rintro e w' ⟨rfl, rfl⟩
    go_wp2_with fail
    refine (floor_any _ _ (by omega) (by omega) (by omega) (by omega) _).mono ?_
    rintro e w' ⟨rfl, rfl⟩
    have hg := zd_guess (D + 719162) (by omega) (by omega)
    have cY := hM.cell 0
    have fY := hM.frozen 0
    simp at cY
    go_wp2_with fail
    have hM1 : Blk (w'.setCell ⟨w.heap.size + 1, 0, none⟩ (.int .i64 (1 + (D + 719162) / 366))) (w.heap.size + 1) 115 (mom (1 + (D + 719162) / 366) 0 0 hh mi ss R) := by
      have := hM.set_ 0 (.int .i64 (1 + (D + 719162) / 366))
      simpa [mom] using this
    have hZ1 : Blk (w'.setCell ⟨w.heap.size + 1, 0, none⟩ (.int .i64 (1 + (D + 719162) / 366))) w.heap.size 115 (mom 0 0 0 0 0 0 0) := hZ.far (by simp) _
    have hb1 : Below w.heap.size w (w'.setCell ⟨w.heap.size + 1, 0, none⟩ (.int .i64 (1 + (D + 719162) / 366))) := hb.setCell (by simp) _
    have hy0 : 1 + (D + 719162) / 366 ≤ Y := Int.not_lt.1 fun h => by
      have h1 := Cal.zd_mono (Y + 1) (1 + (D + 719162) / 366) (by omega)
      have h12 := Cal.year_len Y
      have e12 : Cal.mlen Y 12 = 31 := rfl
      by_cases hM12 : M = 12
      · subst hM12; omega
      · have := Cal.cum_step Y M 12 m1 (by omega) (by omega); omega
    have hy1 : 1600 ≤ 1 + (D + 719162) / 366 := by omega
    have hlt : D + 719162 < Cal.zd (Y + 1) := by
      have h12 := Cal.year_len Y
      have e12 : Cal.mlen Y 12 = 31 := rfl
      by_cases hM12 : M = 12
      · subst hM12; omega
      · have := Cal.cum_step Y M 12 m1 (by omega) (by omega); omega
    have hle : Cal.zd Y ≤ D + 719162 := by omega
    have HM := Lib.hid hM1
    have HZ := Lib.hid hZ1
    have HB := Lib.hid hb1
    have HN := Lib.hid hn
    clear hM1 hZ1 hb1 hM hZ hb hn hz70 hg cY fY
    generalize w'.setCell ⟨w.heap.size + 1, 0, none⟩ (.int .i64 (1 + (D + 719162) / 366)) = w2 at HM HZ HB ⊢
    go_loopw [] (fun wr => ∃ y : Int, 1600 ≤ y ∧ y ≤ Y ∧ Blk wr (w.heap.size + 1) 115 (mom y 0 0 hh mi ss R) ∧ Blk wr w.heap.size 115 (mom 0 0 0 0 0 0 0) ∧ Below w.heap.size w wr)
      (fun wr => (Y - yOf wr (w.heap.size + 1) 0).toNat)
    case atStart => exact ⟨_, hy1, hy0, HM.out, HZ.out, HB.out⟩
    case round =>
      obtain ⟨y, hy2, hy3, hMr, hZr, hBr⟩ := hrel
      have hmy := hMr.yOf (i := 0) (k := .i64) (n := y) rfl
      have cY := hMr.cell 0
      have fY := hMr.frozen 0
      simp [mom] at cY
      have hyb := zd_bd (y + 1) (by omega) (by omega)
      have HMr := Lib.hid hMr
      have HZr := Lib.hid hZr
      have HBr := Lib.hid hBr
      have HMY := Lib.hid hmy
      clear hMr hZr hBr hmy
      by_cases hc : y < Y
      · have hyz : Cal.zd (y + 1) ≤ D + 719162 := by have := Cal.zd_mono (y + 1) Y (by omega); omega
        go_wp2_with (go_at_call 113; refine (zdays_any _ (by omega) (by omega) _).mono ?_; rintro e w' ⟨rfl, rfl⟩)
        go_roundw
        case rel =>
          refine ⟨y + 1, by omega, by omega, ?_, HZr.out.far (by simp) _, HBr.out.setCell (by simp) _⟩
          have := HMr.out.set_ 0 (.int .i64 (y + 1))
          simpa [mom] using this
        case measure =>
          have hh2 := HMr.out.set_ 0 (.int .i64 (y + 1))
          rw [hh2.yOf (i := 0) (k := .i64) (n := y + 1) (by simp [mom]), HMY.out]
          omega
      · obtain rfl : y = Y := by omega
        have hzz := zd_bd y (by omega) (by omega)
        have c1 := HMr.out.cell 1
        have f1 := HMr.out.frozen 1
        simp [mom] at c1
        go_wp2_with (go_at_call 113; refine (zdays_any _ (by omega) (by omega) _).mono ?_; rintro e w' ⟨rfl, rfl⟩)
        have hA : Blk (w'.setCell ⟨w.heap.size + 1, 1, none⟩ (.int .i64 1)) (w.heap.size + 1) 115 (mom y 1 0 hh mi ss R) := by
          have := HMr.out.set_ 1 (.int .i64 1)
          simpa [mom] using this
        have hA2 : Blk (w'.setCell ⟨w.heap.size + 1, 1, none⟩ (.int .i64 1)) w.heap.size 115 (mom 0 0 0 0 0 0 0) := HZr.out.far (by simp) _
        have hA3 : Below w.heap.size w (w'.setCell ⟨w.heap.size + 1, 1, none⟩ (.int .i64 1)) := HBr.out.setCell (by simp) _
        clear HM HZ HB HMr HZr HBr HMY c1 f1 fY cY
        generalize w'.setCell ⟨w.heap.size + 1, 1, none⟩ (.int .i64 1) = w3 at hA hA2 hA3 ⊢
        have HA := Lib.hid hA
        have HA2 := Lib.hid hA2
        have HA3 := Lib.hid hA3
        clear hA hA2 hA3
        have hn2 := HN.out
        have hb2 : D + 719162 - Cal.zd y = Cal.cum y M + (dd - 1) := by omega
        clear hn2
        have HB2 := Lib.hid hb2
        clear hb2
        go_loopw [8] (fun d wr => ∃ m : Int, 1 ≤ m ∧ m ≤ M ∧ d = .int .i64 (D + 719162 - Cal.zd y - Cal.cum y m) ∧ Blk wr (w.heap.size + 1) 115 (mom y m 0 hh mi ss R) ∧ Blk wr w.heap.size 115 (mom 0 0 0 0 0 0 0) ∧ Below w.heap.size w wr)
          (fun _ wr => (M - yOf wr (w.heap.size + 1) 1).toNat)
        case atStart => exact ⟨1, by omega, by omega, by simp [Cal.cum], HA.out, HA2.out, HA3.out⟩
        case round =>
          obtain ⟨m, hm1, hm2, rfl, hMr, hZr, hBr⟩ := hrel
          have hmy := hMr.yOf (i := 1) (k := .i64) (n := m) rfl
          have c0 := hMr.cell 0
          have f0 := hMr.frozen 0
          have c1 := hMr.cell 1
          have f1 := hMr.frozen 1
          have c2 := hMr.cell 2
          have f2 := hMr.frozen 2
          simp [mom] at c0 c1 c2
          have hcb := Cal.cum_bd y m (by omega)
          have hmb := Cal.mlen_bd y m
          have HMr := Lib.hid hMr
          have HZr := Lib.hid hZr
          have HBr := Lib.hid hBr
          have HMY := Lib.hid hmy
          clear hMr hZr hBr hmy
          by_cases hc : m < M
          · have hst := Cal.cum_step y m M hm1 hc m12
            have hsu := Cal.cum_succ y m hm1 (by omega)
            have hge : Cal.mlen y m ≤ D + 719162 - Cal.zd y - Cal.cum y m := by have := HB2.out; omega
            have HSU := Lib.hid hsu
            clear hsu
            go_wp2_with (go_at_call 114; refine (zmonth_any _ _ (by omega) (by omega) (by omega) (by omega) _).mono ?_; rintro e w' ⟨rfl, rfl⟩)
            go_roundw
            case rel =>
              refine ⟨m + 1, by omega, by omega, ?_, ?_, HZr.out.far (by simp) _, HBr.out.setCell (by simp) _⟩
              · rw [HSU.out]; apply int_eq; omega
              · have := HMr.out.set_ 1 (.int .i64 (m + 1))
                simpa [mom] using this
            case measure =>
              have hh2 := HMr.out.set_ 1 (.int .i64 (m + 1))
              rw [hh2.yOf (i := 1) (k := .i64) (n := m + 1) (by simp [mom]), HMY.out]
              omega
          · obtain rfl : m = M := by omega
            have hlt2 : D + 719162 - Cal.zd y - Cal.cum y m < Cal.mlen y m := by have := HB2.out; omega
            have hL : Blk (wr.setCell ⟨w.heap.size + 1, 2, none⟩ (.int .i64 (D + 719162 - Cal.zd y - Cal.cum y m + 1))) (w.heap.size + 1) 115 (mom y m (D + 719162 - Cal.zd y - Cal.cum y m + 1) hh mi ss R) := by
              have := HMr.out.set_ 2 (.int .i64 (D + 719162 - Cal.zd y - Cal.cum y m + 1))
              simpa [mom] using this
            have hZ2 : Blk (wr.setCell ⟨w.heap.size + 1, 2, none⟩ (.int .i64 (D + 719162 - Cal.zd y - Cal.cum y m + 1))) w.heap.size 115 (mom 0 0 0 0 0 0 0) := HZr.out.far (by simp) _
            have hB2 : Below w.heap.size w (wr.setCell ⟨w.heap.size + 1, 2, none⟩ (.int .i64 (D + 719162 - Cal.zd y - Cal.cum y m + 1))) := HBr.out.setCell (by simp) _
            have HL := Lib.hid hL
            have HZ2 := Lib.hid hZ2
            have HBB := Lib.hid hB2
            have he : D + 719162 - Cal.zd y - Cal.cum y m + 1 = dd := by have := HB2.out; omega
            have HE := Lib.hid he
            clear hL hZ2 hB2 he
            go_wp2_with (first | (go_at_call 114; refine (zmonth_any _ _ (by omega) (by omega) (by omega) (by omega) _).mono ?_; rintro e w' ⟨rfl, rfl⟩) | (refine wpList_load_row (by rfl) 115 (.tmp 10) rfl (w.heap.size + 1) rfl 115 _ (0, 0) _ HL.out Tryz.underlying115 rfl (by kernel_rfl) ?_) | (refine wpList_store_row (by rfl) 115 (.tmp 4) (.tmp 83) rfl w.heap.size _ rfl rfl 115 _ HZ2.out (by kernel_rfl) rfl (by simp [Value.oneCell', mom]) ?_))
            refine bodyPost_ret (results_cell_row rfl _ _ w.heap.size 115 (mom y m (D + 719162 - Cal.zd y - Cal.cum y m + 1) hh mi ss R) (0, 0) _ rfl (setRow_heap _ _ _ _ 115 (0, 0) HZ2.out) Tryz.underlying115 rfl (by kernel_rfl)) rfl ⟨?_, ?_⟩
            · rw [HE.out]
            · exact below_setRow HBB.out (by omega) _
end Go.Proofs.Zap
