/- a text of the claims over the seat; its order and aim: NOTES.md -/
import Derived.Test.YtpllbhobcnglnaaGreatDoorZTp
namespace Go.Proofs.Zap
open Go Go.Proofs Go.RowKit

def dn (N a : Int) : Int := (N / 1000000000 + a) / 86400 + 719468
def yN (N a : Int) : Nat := (Cal.yearN (dn N a)).toNat
def moN (N a : Int) : Nat := (Cal.monN (dn N a)).toNat
def daN (N a : Int) : Nat := (Cal.dayN (dn N a)).toNat
def hN (N a : Int) : Nat := ((N / 1000000000 + a) % 86400 / 3600).toNat
def miN (N a : Int) : Nat := ((N / 1000000000 + a) % 86400 / 60 % 60).toNat
def sN (N a : Int) : Nat := ((N / 1000000000 + a) % 60).toNat
def nN (N : Int) : Nat := (N % 1000000000).toNat

theorem year_bd' (n : Int) (h0 : 612000 ≤ n) (h1 : n ≤ 827000) : 1600 ≤ Cal.yearN n ∧ Cal.yearN n ≤ 2300 := by
  obtain ⟨m1, m12, d1, d2, hn⟩ := Cal.date_ok n (by omega) (by omega)
  have hcm := Cal.cum_bd (Cal.yearN n) (Cal.monN n) m12
  have hml := Cal.mlen_bd (Cal.yearN n) (Cal.monN n)
  exact Cal.year_bd (Cal.yearN n) (n - 306) (by omega) (by omega) (by omega) (by
    have h12 := Cal.year_len (Cal.yearN n)
    have e12 : Cal.mlen (Cal.yearN n) 12 = 31 := rfl
    by_cases hM12 : Cal.monN n = 12
    · rw [hM12] at hn d2; omega
    · have := Cal.cum_step (Cal.yearN n) (Cal.monN n) 12 m1 (by omega) (by omega); omega)

theorem dn_bd (N a : Int) (h0 : -9223372036854775808 ≤ N) (h1 : N ≤ 9223372036854775807) (ha0 : -86400 < a) (ha1 : a < 86400) : 612000 ≤ dn N a ∧ dn N a ≤ 827000 := by
  unfold dn; omega

theorem mom_nat (N a : Int) (h0 : -9223372036854775808 ≤ N) (h1 : N ≤ 9223372036854775807) (ha0 : -86400 < a) (ha1 : a < 86400) :
    (Cal.yearN (dn N a) = yN N a ∧ Cal.monN (dn N a) = moN N a ∧ Cal.dayN (dn N a) = daN N a ∧ (N / 1000000000 + a) % 86400 / 3600 = hN N a ∧ (N / 1000000000 + a) % 86400 / 60 % 60 = miN N a ∧ (N / 1000000000 + a) % 60 = sN N a ∧ N % 1000000000 = nN N) ∧
    1600 ≤ yN N a ∧ yN N a ≤ 2300 ∧ 1 ≤ moN N a ∧ moN N a ≤ 12 ∧ 1 ≤ daN N a ∧ daN N a ≤ 31 ∧ hN N a ≤ 23 ∧ miN N a ≤ 59 ∧ sN N a ≤ 59 ∧ nN N ≤ 999999999 := by
  have hd := dn_bd N a h0 h1 ha0 ha1
  have hy := year_bd' (dn N a) hd.1 hd.2
  obtain ⟨m1, m12, d1, d2, _⟩ := Cal.date_ok (dn N a) (by omega) (by omega)
  have hml := Cal.mlen_bd (Cal.yearN (dn N a)) (Cal.monN (dn N a))
  unfold yN moN daN hN miN sN nN
  generalize Cal.yearN (dn N a) = Y at *
  generalize Cal.monN (dn N a) = M at *
  generalize Cal.dayN (dn N a) = D at *
  omega

set_option maxHeartbeats 400000 in
theorem zatN (N a : Int) (h0 : -9223372036854775808 ≤ N) (h1 : N ≤ 9223372036854775807) (ha0 : -86400 < a) (ha1 : a < 86400) (w : World) :
    Calls Tryz.prog 65 #[.int .i64 N, .int .i64 a] w fun e w' =>
      e = .returned (.agg (mom (yN N a) (moN N a) (daN N a) (hN N a) (miN N a) (sN N a) (nN N))) ∧ Below w.heap.size w w' := by
  obtain ⟨⟨e1, e2, e3, e4, e5, e6, e7⟩, _⟩ := mom_nat N a h0 h1 ha0 ha1
  have h := zat_any N a h0 h1 ha0 ha1 w
  have ed : (N / 1000000000 + a) / 86400 + 719468 = dn N a := rfl
  rw [ed, e1, e2, e3, e4, e5, e6, e7] at h
  exact h

def clkB (N a : Int) : List UInt8 := clockB (yN N a) (moN N a) (daN N a) (hN N a) (miN N a) (sN N a)
theorem clkB_len (N a : Int) : (clkB N a).length = 19 := by simp [clkB, clockB, digs_len]
def rfcB (N a : Int) (frac sep : List UInt8) : List UInt8 := clkB N a ++ (frac ++ zoneB a sep)
def fracB (n : Nat) : List UInt8 := if n = 0 then [] else 46 :: trim0 (digs 9 n)
def milB (n : Nat) : List UInt8 := 46 :: digs 3 (n / 1000000)

theorem digs_nz : ∀ (k n : Nat), (∀ b ∈ digs k n, b = 48) → n % 10 ^ k = 0
  | 0, n => fun _ => Nat.mod_one n
  | k + 1, n => fun h => by
    have h1 := digs_nz k (n / 10) fun b hb => h b (by rw [digs]; exact List.mem_append_left _ hb)
    have h2 := h (UInt8.ofNat (48 + n % 10)) (by rw [digs]; exact List.mem_append_right _ (List.mem_singleton.2 rfl))
    have h3 := congrArg UInt8.toNat h2
    rw [UInt8.toNat_ofNat'] at h3
    have h4 : n % 10 = 0 := by
      change (48 + n % 10) % 256 = 48 at h3
      omega
    rw [Nat.pow_succ, Nat.mul_comm, Nat.mod_mul, h4, h1]
theorem digs_trim (k n : Nat) (h0 : 0 < n) (h : n < 10 ^ k) : trim0 (digs k n) ≠ [] := by
  have : ∃ b ∈ digs k n, b ≠ 48 := by
    apply Classical.byContradiction
    intro hc
    have := digs_nz k n fun b hb => Classical.byContradiction fun hne => hc ⟨b, hb, hne⟩
    rw [Nat.mod_eq_of_lt h] at this
    omega
  obtain ⟨b, hb, hne⟩ := this
  exact trim0_some hb hne

theorem str_last (m : List UInt8) (c : UInt8) (h : m.length < (str (m ++ [c])).size) : (str (m ++ [c]))[m.length]'h = c := by
  change (m ++ [c]).toArray[m.length]'_ = c
  simp
theorem str_init (m : List UInt8) (c : UInt8) : (str (m ++ [c])).extract 0 m.length = str m := by
  apply ByteArray.ext
  apply Array.ext'
  rw [Lib.extract_data]
  simp
theorem clock_len' (N a : Int) : (str (clkB N a)).size = 19 := by rw [str_size, clkB_len]

set_option maxHeartbeats 4000000 in
set_option maxRecDepth 100000 in
theorem rfcF_any (N a : Int) (h0 : -9223372036854775808 ≤ N) (h1 : N ≤ 9223372036854775807) (ha0 : -86400 < a) (ha1 : a < 86400) (w : World) (hT : Tabs w) (h13 : 13 ≤ w.heap.size) :
    Calls Tryz.prog 24 #[.int .i64 N, .int .i64 a, .bool false] w fun e w' => e = .returned (.string (str (rfcB N a [] [58]))) ∧ Below w.heap.size w w' := by
  have hm := (mom_nat N a h0 h1 ha0 ha1).2
  have hcl := Nat.le_of_eq (clkB_len N a)
  have hzl : (zoneB a [58]).length ≤ 10 := by unfold zoneB; split <;> simp [digs_len]
  go_enter Tryz.func24, Tryz.ntmps24
  go_wp2_with fail
  have hz := zatN N a h0 h1 ha0 ha1 w
  unfold mom at hz
  refine hz.mono ?_
  rintro e w1 ⟨rfl, hb1⟩
  clear hz
  have hs1 := hb1.size
  have HB1 := Lib.hid hb1
  clear hb1
  have hM := Blk.new w1 115 (mom (yN N a) (moN N a) (daN N a) (hN N a) (miN N a) (sN N a) (nN N))
  have hsz : w1.heap.size < (w1.alloc (.cells (mom (yN N a) (moN N a) (daN N a) (hN N a) (miN N a) (sN N a) (nN N)) 115)).heap.size := by simp
  have hbw : Below w.heap.size w (w1.alloc (.cells (mom (yN N a) (moN N a) (daN N a) (hN N a) (miN N a) (sN N a) (nN N)) 115)) := HB1.out.alloc hs1 _
  have HM := Lib.hid hM
  have HBW := Lib.hid hbw
  have HSZ := Lib.hid hsz
  clear hM hbw hsz
  go_wp2_with (first | (refine wpList_load_row (by rfl) 115 (.tmp 7) rfl w1.heap.size rfl 115 _ (0, 0) _ HM.out Tryz.underlying115 rfl (by kernel_rfl) ?_))
  refine (zclock_any (yN N a) (moN N a) (daN N a) (hN N a) (miN N a) (sN N a) (nN N) (by omega) (by omega) (by omega) (by omega) (by omega) (by omega) _ (hT.below HBW.out h13) (by simp; omega)).mono ?_
  rintro e w2 ⟨rfl, hb2⟩
  have HM2 := Lib.hid (HM.out.below hb2 HSZ.out)
  have hs2 : w.heap.size ≤ w2.heap.size := by have := hb2.size; simp at this; omega
  have HB2 := Lib.hid (HBW.out.trans (hb2.mono (by simp; omega)))
  have ec : clockB (yN N a) (moN N a) (daN N a) (hN N a) (miN N a) (sN N a) = clkB N a := rfl
  rw [ec]
  clear ec hb2 HM HBW HSZ hs1 HB1
  clear HM2
  go_wp2_with fail
  refine (zone_any a [58] (by simp) ha0 ha1 _ (hT.below HB2.out h13) (by omega)).mono ?_
  rintro e w3 ⟨rfl, hb3⟩
  have HB3 := Lib.hid (HB2.out.trans (hb3.mono hs2))
  clear hb3
  go_wp2_with fail
  go_ret
  exact ⟨ret_eq (by simp only [rfcB, List.nil_append, ← str_append]; rfl), HB3.out⟩

set_option maxHeartbeats 4000000 in
set_option maxRecDepth 100000 in
theorem rfcT_any (N a : Int) (h0 : -9223372036854775808 ≤ N) (h1 : N ≤ 9223372036854775807) (ha0 : -86400 < a) (ha1 : a < 86400) (w : World) (hT : Tabs w) (h13 : 13 ≤ w.heap.size) :
    Calls Tryz.prog 24 #[.int .i64 N, .int .i64 a, .bool true] w fun e w' => e = .returned (.string (str (rfcB N a (fracB (nN N)) [58]))) ∧ Below w.heap.size w w' := by
  have hm := (mom_nat N a h0 h1 ha0 ha1).2
  have hcl := Nat.le_of_eq (clkB_len N a)
  have hzl : (zoneB a [58]).length ≤ 10 := by unfold zoneB; split <;> simp [digs_len]
  by_cases hn : nN N = 0
  · have ef : fracB (nN N) = [] := by unfold fracB; rw [if_pos hn]
    rw [ef]
    clear ef
    have HN := Lib.hid hn
    clear hn
    go_enter Tryz.func24, Tryz.ntmps24
    go_wp2_with fail
    have hz := zatN N a h0 h1 ha0 ha1 w
    unfold mom at hz
    refine hz.mono ?_
    rintro e w1 ⟨rfl, hb1⟩
    clear hz
    have hs1 := hb1.size
    have HB1 := Lib.hid hb1
    clear hb1
    have hM := Blk.new w1 115 (mom (yN N a) (moN N a) (daN N a) (hN N a) (miN N a) (sN N a) (nN N))
    have hsz : w1.heap.size < (w1.alloc (.cells (mom (yN N a) (moN N a) (daN N a) (hN N a) (miN N a) (sN N a) (nN N)) 115)).heap.size := by simp
    have hbw : Below w.heap.size w (w1.alloc (.cells (mom (yN N a) (moN N a) (daN N a) (hN N a) (miN N a) (sN N a) (nN N)) 115)) := HB1.out.alloc hs1 _
    have HM := Lib.hid hM
    have HBW := Lib.hid hbw
    have HSZ := Lib.hid hsz
    clear hM hbw hsz
    go_wp2_with (first | (refine wpList_load_row (by rfl) 115 (.tmp 7) rfl w1.heap.size rfl 115 _ (0, 0) _ HM.out Tryz.underlying115 rfl (by kernel_rfl) ?_))
    refine (zclock_any (yN N a) (moN N a) (daN N a) (hN N a) (miN N a) (sN N a) (nN N) (by omega) (by omega) (by omega) (by omega) (by omega) (by omega) _ (hT.below HBW.out h13) (by simp; omega)).mono ?_
    rintro e w2 ⟨rfl, hb2⟩
    have HM2 := Lib.hid (HM.out.below hb2 HSZ.out)
    have hs2 : w.heap.size ≤ w2.heap.size := by have := hb2.size; simp at this; omega
    have HB2 := Lib.hid (HBW.out.trans (hb2.mono (by simp; omega)))
    have ec : clockB (yN N a) (moN N a) (daN N a) (hN N a) (miN N a) (sN N a) = clkB N a := rfl
    rw [ec]
    clear ec hb2 HM HBW HSZ hs1 HB1
    have c6 := HM2.out.cell 6
    rw [HN.out] at c6
    simp [mom] at c6
    clear HM2
    go_wp2_with fail
    refine (zone_any a [58] (by simp) ha0 ha1 _ (hT.below HB2.out h13) (by omega)).mono ?_
    rintro e w3 ⟨rfl, hb3⟩
    have HB3 := Lib.hid (HB2.out.trans (hb3.mono hs2))
    clear hb3
    go_wp2_with fail
    go_ret
    exact ⟨ret_eq (by simp only [rfcB, List.nil_append, ← str_append]; rfl), HB3.out⟩
  · have ef : fracB (nN N) = 46 :: trim0 (digs 9 (nN N)) := by unfold fracB; rw [if_neg hn]
    have htn := digs_trim 9 (nN N) (by omega) (by omega)
    have htl := trim0_le (digs 9 (nN N))
    rw [digs_len] at htl
    rw [ef]
    clear ef
    have hnz : ((nN N : Int) != 0) = true := by simp; omega
    have hdl := Nat.le_of_eq (digs_len 9 (nN N))
    have HTN := Lib.hid htn
    clear hn htn
    go_enter Tryz.func24, Tryz.ntmps24
    go_wp2_with fail
    have hz := zatN N a h0 h1 ha0 ha1 w
    unfold mom at hz
    refine hz.mono ?_
    rintro e w1 ⟨rfl, hb1⟩
    clear hz
    have hs1 := hb1.size
    have HB1 := Lib.hid hb1
    clear hb1
    have hM := Blk.new w1 115 (mom (yN N a) (moN N a) (daN N a) (hN N a) (miN N a) (sN N a) (nN N))
    have hsz : w1.heap.size < (w1.alloc (.cells (mom (yN N a) (moN N a) (daN N a) (hN N a) (miN N a) (sN N a) (nN N)) 115)).heap.size := by simp
    have hbw : Below w.heap.size w (w1.alloc (.cells (mom (yN N a) (moN N a) (daN N a) (hN N a) (miN N a) (sN N a) (nN N)) 115)) := HB1.out.alloc hs1 _
    have HM := Lib.hid hM
    have HBW := Lib.hid hbw
    have HSZ := Lib.hid hsz
    clear hM hbw hsz
    go_wp2_with (first | (refine wpList_load_row (by rfl) 115 (.tmp 7) rfl w1.heap.size rfl 115 _ (0, 0) _ HM.out Tryz.underlying115 rfl (by kernel_rfl) ?_))
    refine (zclock_any (yN N a) (moN N a) (daN N a) (hN N a) (miN N a) (sN N a) (nN N) (by omega) (by omega) (by omega) (by omega) (by omega) (by omega) _ (hT.below HBW.out h13) (by simp; omega)).mono ?_
    rintro e w2 ⟨rfl, hb2⟩
    have HM2 := Lib.hid (HM.out.below hb2 HSZ.out)
    have hs2 : w.heap.size ≤ w2.heap.size := by have := hb2.size; simp at this; omega
    have HB2 := Lib.hid (HBW.out.trans (hb2.mono (by simp; omega)))
    have ec : clockB (yN N a) (moN N a) (daN N a) (hN N a) (miN N a) (sN N a) = clkB N a := rfl
    rw [ec]
    clear ec hb2 HM HBW HSZ hs1 HB1
    have c6 := HM2.out.cell 6
    simp [mom] at c6
    clear HM2
    go_wp2_with fail
    refine (paddedI _ _ (nN N) 8 rfl (by omega) (by omega) (by omega) (by omega) _ (hT.below HB2.out h13) (by omega)).mono ?_
    rintro e w3 ⟨rfl, hb3⟩
    have hs3 : w.heap.size ≤ w3.heap.size := by have := hb3.size; omega
    have HB3 := Lib.hid (HB2.out.trans (hb3.mono hs2))
    clear hb3 c6 HB2
    go_wp2_with fail
    go_loop [9] (fun f => ∃ l : List UInt8, f = .string (str l) ∧ Hid (trim0 l = trim0 (digs 9 (nN N))) ∧ l.length ≤ 9) (fun f => strSize f)
    case atStart => exact ⟨_, rfl, Lib.hid rfl, hdl⟩
    case round =>
      obtain ⟨l, rfl, ht, hl⟩ := hrel
      obtain ⟨m, c, rfl⟩ := snoc_of (by rw [ht.out]; exact HTN.out)
      have hsz : (str (m ++ [c])).size = m.length + 1 := by rw [str_size, List.length_append]; rfl
      have hml : m.length ≤ 8 := by rw [List.length_append] at hl; simp at hl; omega
      go_wp2_with fail
      · have hc : c = 48 := by
          have h9 : ((str (m ++ [c]))[m.length]'(by rw [hsz]; omega)).toNat = 48 := by
            rename_i h8
            have := beq_iff_eq.1 h8
            omega
          rw [str_last] at h9
          exact UInt8.toNat_inj.1 h9
        rw [str_init]
        refine ⟨⟨m, rfl, ?_, by omega⟩, ?_⟩
        · exact Lib.hid (by rw [← ht.out, hc, trim0_zero])
        · show (str m).size < (str (m ++ [c])).size
          rw [str_size, hsz]; omega
      · have hc : c ≠ 48 := by
          have h8 : ((((str (m ++ [c]))[m.length]'(by rw [hsz]; omega)).toNat : Int) == 48) = false := by assumption
          intro e
          subst e
          rw [str_last] at h8
          exact absurd h8 (by decide)
        have hfin : m ++ [c] = trim0 (digs 9 (nN N)) := by rw [← ht.out, trim0_stop m c hc]
        have HF := Lib.hid hfin
        clear hfin
        refine (zone_any a [58] (by simp) ha0 ha1 _ (hT.below HB3.out h13) (by omega)).mono ?_
        rintro e w4 ⟨rfl, hb4⟩
        have HB4 := Lib.hid (HB3.out.trans (hb4.mono hs3))
        clear hb4
        go_wp2_with fail
        go_ret
        refine ⟨ret_eq ?_, HB4.out⟩
        rw [← HF.out]
        show Value.string (str (clkB N a) ++ str [46] ++ str (m ++ [c]) ++ str (zoneB a [58])) = _
        simp [rfcB, str_append, List.append_assoc]

set_option maxHeartbeats 4000000 in
set_option maxRecDepth 100000 in
theorem iso_any (N a : Int) (h0 : -9223372036854775808 ≤ N) (h1 : N ≤ 9223372036854775807) (ha0 : -86400 < a) (ha1 : a < 86400) (w : World) (hT : Tabs w) (h13 : 13 ≤ w.heap.size) :
    Calls Tryz.prog 25 #[.int .i64 N, .int .i64 a] w fun e w' => e = .returned (.string (str (rfcB N a (milB (nN N)) []))) ∧ Below w.heap.size w w' := by
  have hm := (mom_nat N a h0 h1 ha0 ha1).2
  have hcl := Nat.le_of_eq (clkB_len N a)
  have hzl : (zoneB a []).length ≤ 10 := by unfold zoneB; split <;> simp [digs_len]
  go_enter Tryz.func25, Tryz.ntmps25
  go_wp2_with fail
  have hz := zatN N a h0 h1 ha0 ha1 w
  unfold mom at hz
  refine hz.mono ?_
  rintro e w1 ⟨rfl, hb1⟩
  clear hz
  have hs1 := hb1.size
  have HB1 := Lib.hid hb1
  clear hb1
  have hM := Blk.new w1 115 (mom (yN N a) (moN N a) (daN N a) (hN N a) (miN N a) (sN N a) (nN N))
  have hk : Clk w w1.heap.size (yN N a) (moN N a) (daN N a) (hN N a) (miN N a) (sN N a) (w1.alloc (.cells (mom (yN N a) (moN N a) (daN N a) (hN N a) (miN N a) (sN N a) (nN N)) 115)).drew ∧
      (w1.alloc (.cells (mom (yN N a) (moN N a) (daN N a) (hN N a) (miN N a) (sN N a) (nN N)) 115)).drew.cell? ⟨w1.heap.size, 6, none⟩ = some (.int .i64 (nN N)) := by
    have hbw : Below w.heap.size w (w1.alloc (.cells (mom (yN N a) (moN N a) (daN N a) (hN N a) (miN N a) (sN N a) (nN N)) 115)) := HB1.out.alloc hs1 _
    have c0 := hM.cell 0
    have c1 := hM.cell 1
    have c2 := hM.cell 2
    have c3 := hM.cell 3
    have c4 := hM.cell 4
    have c5 := hM.cell 5
    have c6 := hM.cell 6
    exact ⟨⟨Lib.hid ((hT.below hbw h13).below (Below.refl _ _).drew (Nat.le_refl _)), Lib.hid hbw.drew, by simp; omega, by simp, by simp; omega, c0, c1, c2, c3, c4, c5⟩, c6⟩
  have k0 := cat_run (clkB N a) [46] ⟨#[46]⟩ rfl (by simp [clkB_len])
  obtain ⟨C0, hC0⟩ : ∃ C : ByteArray, C = str (clkB N a ++ [46]) := ⟨_, rfl⟩
  rw [← hC0] at k0
  have k1 := cat_run (clkB N a ++ [46]) (digs 3 (nN N / 1000000)) (str (digs 3 (nN N / 1000000))) rfl (by simp [clkB_len, digs_len])
  obtain ⟨C1, hC1⟩ : ∃ C : ByteArray, C = str (clkB N a ++ [46] ++ digs 3 (nN N / 1000000)) := ⟨_, rfl⟩
  rw [← hC1, ← hC0] at k1
  have k2 := cat_run (clkB N a ++ [46] ++ digs 3 (nN N / 1000000)) (zoneB a []) (str (zoneB a [])) rfl (by simp [clkB_len, digs_len]; omega)
  obtain ⟨C2, hC2⟩ : ∃ C : ByteArray, C = str (clkB N a ++ [46] ++ digs 3 (nN N / 1000000) ++ zoneB a []) := ⟨_, rfl⟩
  rw [← hC2, ← hC1] at k2
  have HC := Lib.hid hC2
  have hz68 := zone_any a [] (by simp) ha0 ha1
  have h66 := zclock_any (yN N a) (moN N a) (daN N a) (hN N a) (miN N a) (sN N a) (nN N) (by omega) (by omega) (by omega) (by omega) (by omega) (by omega)
  have ec : clockB (yN N a) (moN N a) (daN N a) (hN N a) (miN N a) (sN N a) = clkB N a := rfl
  rw [ec] at h66
  unfold mom at h66
  have h67 := fun x hx => paddedI x 3 (nN N / 1000000) 2 hx (by omega) (by omega) (by omega) (by omega)
  have H66 := Lib.hid h66
  have H67 := Lib.hid h67
  have H68 := Lib.hid hz68
  have q0 : (0 : Int) ≤ (nN N : Int) := Int.natCast_nonneg _
  have q1 : (nN N : Int) ≤ 999999999 := by omega
  have HQ : Hid (IntKind.i64.wrap ((nN N : Int) / 1000000) = ((nN N / 1000000 : Nat) : Int)) := Lib.hid (by rw [IntWalk.i64_in _ (by omega)]; omega)
  clear hC0 hC1 hC2 hM hT h13 HB1 hs1 h66 h67 hz68 ec
  unfold mom at hk
  have HK := Lib.hid hk
  clear hk
  go_wp2_with fail
  generalize w1.heap.size = B at HK ⊢
  generalize w1.alloc _ = w5 at HK ⊢
  go_region_held3 (fun w' => Clk w B (yN N a) (moN N a) (daN N a) (hN N a) (miN N a) (sN N a) w' ∧ w'.cell? ⟨B, 6, none⟩ = some (.int .i64 (nN N))) (first | exact HK.out | (go_split_ands; exact ⟨clk_keep hb ⟨by assumption, by assumption, by assumption, by assumption, by assumption, by assumption, by assumption, by assumption, by assumption, by assumption, by assumption⟩, (hb.cell (p := ⟨B, 6, none⟩) (by assumption)).trans (by assumption)⟩)) (first | (go_at_call 66; go_split_ands; (with_reducible refine (H66.out _ ?_ ?_).mono ?_); exact Hid.out (by assumption); assumption; rintro e w' ⟨rfl, hb⟩) | (go_at_call 67; go_split_ands; (with_reducible refine (H67.out _ ?_ _ ?_ ?_).mono ?_); exact HQ.out; exact Hid.out (by assumption); assumption; rintro e w' ⟨rfl, hb⟩) | (go_at_call 68; go_split_ands; (with_reducible refine (H68.out _ ?_ ?_).mono ?_); exact Hid.out (by assumption); assumption; rintro e w' ⟨rfl, hb⟩))
  all_goals
    go_split_ands
    have hfin : Below w.heap.size w _ := Hid.out (by assumption)
    have HF := Lib.hid hfin
    clear hfin
    go_wp2_with fail
    go_ret
    refine ⟨ret_eq ?_, HF.out⟩
    show Value.string C2 = _
    rw [HC.out]
    simp [rfcB, milB, List.append_assoc]
end Go.Proofs.Zap
