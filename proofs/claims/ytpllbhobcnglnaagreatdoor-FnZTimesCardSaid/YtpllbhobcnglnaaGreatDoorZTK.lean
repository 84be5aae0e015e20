/- a text of the claims over the seat; its order and aim: NOTES.md -/
import Derived.Test.YtpllbhobcnglnaaGreatDoorZTJ
namespace Go.Proofs.Zap
open Go Go.Proofs Go.RowKit

theorem plain_digs (k n : Nat) : ∀ b ∈ digs k n, b.toNat < 128 ∧ plainB b = true := by
  intro b hb
  have := digs_plain k n b hb
  refine ⟨by omega, ?_⟩
  unfold plainB
  simp only [Bool.and_eq_true, decide_eq_true_eq, bne_iff_ne, ne_eq]
  refine ⟨⟨by omega, ?_⟩, ?_⟩ <;> (intro h; subst h; revert this; decide)
theorem plain_sign (c : UInt8) (h : c = 45 ∨ c = 43 ∨ c = 58 ∨ c = 84 ∨ c = 90 ∨ c = 46) : c.toNat < 128 ∧ plainB c = true := by
  rcases h with rfl | rfl | rfl | rfl | rfl | rfl <;> decide
theorem plain_zone (a : Int) (sep : List UInt8) (hs : ∀ b ∈ sep, b.toNat < 128 ∧ plainB b = true) : ∀ b ∈ zoneB a sep, b.toNat < 128 ∧ plainB b = true := by
  intro b hb
  unfold zoneB at hb
  split at hb
  · exact plain_sign b (by simp at hb; simp [hb])
  · rcases List.mem_cons.1 hb with h | h
    · exact plain_sign b (by split at h <;> simp [h])
    · rcases List.mem_append.1 h with h | h
      · exact plain_digs _ _ b h
      · rcases List.mem_append.1 h with h | h
        · exact hs b h
        · exact plain_digs _ _ b h
theorem plain_clk (N a : Int) : ∀ b ∈ clkB N a, b.toNat < 128 ∧ plainB b = true := by
  intro b hb
  simp only [clkB, clockB, List.mem_append, List.mem_singleton] at hb
  rcases hb with h | h | h | h | h | h | h | h | h | h | h
  all_goals first | exact plain_digs _ _ b h | exact plain_sign b (by simp [h])
theorem plain_rfc (N a : Int) (frac sep : List UInt8) (hf : ∀ b ∈ frac, b.toNat < 128 ∧ plainB b = true) (hs : ∀ b ∈ sep, b.toNat < 128 ∧ plainB b = true) : ∀ b ∈ rfcB N a frac sep, b.toNat < 128 ∧ plainB b = true := by
  intro b hb
  unfold rfcB at hb
  rcases List.mem_append.1 hb with h | h
  · exact plain_clk N a b h
  · rcases List.mem_append.1 h with h | h
    · exact hf b h
    · exact plain_zone a sep hs b h
theorem plain_58 : ∀ b ∈ ([58] : List UInt8), b.toNat < 128 ∧ plainB b = true := fun b hb => plain_sign b (by simp at hb; simp [hb])
theorem plain_nil : ∀ b ∈ ([] : List UInt8), b.toNat < 128 ∧ plainB b = true := fun b hb => by cases hb
theorem plain_frac (n : Nat) : ∀ b ∈ fracB n, b.toNat < 128 ∧ plainB b = true := by
  intro b hb
  unfold fracB at hb
  split at hb
  · cases hb
  · rcases List.mem_cons.1 hb with h | h
    · exact plain_sign b (by simp [h])
    · exact plain_digs _ _ b (trim0_mem h)
theorem plain_mil (n : Nat) : ∀ b ∈ milB n, b.toNat < 128 ∧ plainB b = true := by
  intro b hb
  unfold milB at hb
  rcases List.mem_cons.1 hb with h | h
  · exact plain_sign b (by simp [h])
  · exact plain_digs _ _ b h
theorem rfc_len (N a : Int) (frac sep : List UInt8) : (rfcB N a frac sep).length ≤ 30 + frac.length + sep.length := by
  unfold rfcB zoneB
  rw [List.length_append, List.length_append, clkB_len]
  split <;> simp [digs_len] <;> omega
theorem frac_len (n : Nat) : (fracB n).length ≤ 10 := by
  unfold fracB
  split
  · simp
  · have := trim0_le (digs 9 n); rw [digs_len] at this; simp; omega

/-- a quoted text reads as itself -/
theorem quoted_any (R : List UInt8) (hR : ∀ b ∈ R, b.toNat < 128 ∧ plainB b = true) (hl : R.length ≤ 1000) (w : World) (hT : Tabs w) (hw : 13 ≤ w.heap.size) :
    Calls Tryz.prog 15 #[.string (str (34 :: (R ++ [34]))), .string (str R)] w fun e w' => e = .returned (.bool true) ∧ Below w.heap.size w w' := by
  have hs0 : 0 < (str (34 :: (R ++ [34]))).size := by rw [str_size]; simp
  refine zquoted_any _ _ w hT hw (by rw [str_size]; simp; omega) (by rw [str_size]; omega) hs0 ?_ ?_
  · have : (str (34 :: (R ++ [34])))[0]'hs0 = (34 : UInt8) := rfl
    rw [this]; rfl
  · have : (str (34 :: (R ++ [34]))).data.toList = 34 :: (R ++ [34]) := by simp
    rw [this, List.drop_succ_cons, List.drop_zero]
    have h2 : (str R).data.toList = R := by simp
    rw [h2]
    exact readT_plain R hR []

abbrev Zst (w w' : World) (N a : Int) (zone : ByteArray) (B : Nat) : Prop :=
  Hid (Below w.heap.size w w') ∧ Hid (GT w') ∧ 13 ≤ w'.heap.size ∧ w.heap.size ≤ w'.heap.size ∧ B < w'.heap.size ∧ w'.cell? ⟨B, 0, none⟩ = some (.bool false) ∧ w'.cell? ⟨B, 1, none⟩ = some (.int .i64 N) ∧ w'.cell? ⟨B, 2, none⟩ = some (.int .i64 a) ∧ w'.cell? ⟨B, 3, none⟩ = some (.string zone)
theorem zst_keep {w W W' : World} {N a : Int} {zone : ByteArray} {B : Nat} (hb : Below W.heap.size W W') (k : Zst w W N a zone B) : Zst w W' N a zone B := by
  obtain ⟨k1, k2, k3, k4, k5, c0, c1, c2, c3⟩ := k
  have hs := hb.size
  have hc : ∀ b o, b < W.heap.size → W'.cell? ⟨b, o, none⟩ = W.cell? ⟨b, o, none⟩ := fun b o h => hb.cell (p := ⟨b, o, none⟩) h
  exact ⟨Lib.hid (k1.out.trans (hb.mono k4)), Lib.hid (below_G GT.closed hb k3 k2.out), by omega, by omega, by omega, (hc _ _ k5).trans c0, (hc _ _ k5).trans c1, (hc _ _ k5).trans c2, (hc _ _ k5).trans c3⟩
theorem zst_drew {w W : World} {N a : Int} {zone : ByteArray} {B : Nat} (k : Zst w W N a zone B) : Zst w W.drew N a zone B := by
  obtain ⟨k1, k2, k3, k4, k5, c0, c1, c2, c3⟩ := k
  exact ⟨Lib.hid k1.out.drew, Lib.hid (GT.closed W W.drew (fun _ _ => rfl) k2.out), by simpa using k3, by simpa using k4, by simpa using k5, c0, c1, c2, c3⟩

theorem fmtInt_any (n : Int) (h0 : -9223372036854775808 ≤ n) (h1 : n ≤ 9223372036854775807) (w : World) (hT : Tabs w) :
    Calls Tryz.prog 14 #[.int .i64 n, .int .i64 10] w fun e w' => e = .returned (.string (str (Lib.itoa n))) ∧ Below w.heap.size w w' := by
  refine (Tryz.strconv_FormatInt_10 n h0 h1 w hT.2).mono ?_
  rintro e w' ⟨rfl, k, os, rfl⟩
  exact ⟨rfl, Lib.below_grow _ _ (Nat.le_refl _) _ _⟩

set_option maxHeartbeats 8000000 in
set_option maxRecDepth 100000 in
theorem times_any (zero : Bool) (N a : Int) (zone : ByteArray) (hz : zone.size ≤ 9223372036854775807) (h0 : -9223372036854775808 ≤ N) (h1 : N ≤ 9223372036854775807) (w : World) (hG : GT w) (h13 : 13 ≤ w.heap.size) :
    Calls Tryz.prog 6 #[.agg (mzA zero N a zone)] w fun e w' => e = .returned (.bool true) ∧ Below w.heap.size w w' := by
  have hbx : Below w.heap.size w (w.alloc (.cells (mzA zero N a zone) 34)) := (Below.refl _ _).alloc (Nat.le_refl _) _
  have hblk : Blk (w.alloc (.cells (mzA zero N a zone) 34)) w.heap.size 34 (mzA zero N a zone) := Blk.new _ _ _
  have H21 := Lib.hid (fits6_any zero N a zone hz)
  have HG := Lib.hid (below_G GT.closed hbx h13 hG)
  have HBX := Lib.hid hbx
  have HBLK := Lib.hid hblk
  clear hbx hblk hG
  by_cases hf : zone.size ≤ 2147483647
  · have hfd : decide (zone.size ≤ 2147483647) = true := by simpa using hf
    rw [hfd] at H21
    clear hfd
    by_cases hy : yrs zero a = true
    · have hzf : zero = false := by
        cases zero
        · rfl
        · simp [yrs] at hy
      subst hzf
      have hyy := hy
      simp [yrs] at hyy
      obtain ⟨⟨ha0, ha1⟩, hm60⟩ := hyy
      have H23 := Lib.hid (years_yes N a zone hy)
      have l1 := rfc_len N a [] [58]
      have l2 := rfc_len N a (fracB (nN N)) [58]
      have l3 := rfc_len N a (milB (nN N)) []
      have lf := frac_len (nN N)
      have lm : (milB (nN N)).length = 4 := by simp [milB, digs_len]
      have p1 := plain_rfc N a [] [58] plain_nil plain_58
      have p2 := plain_rfc N a (fracB (nN N)) [58] (plain_frac _) plain_58
      have p3 := plain_rfc N a (milB (nN N)) [] (plain_mil _) plain_nil
      simp only [List.length_nil, List.length_cons] at l1 l2 l3
      have T1 := text156 GT GT.closed N a zone h0 h1 _ (door_rfc GT GT.closed N a zone _ (fmt_rfc GT N a zone h0 h1 ha0 ha1 hm60) (by omega)) (by simp)
      have T2 := text157 GT GT.closed N a zone h0 h1 _ (door_nano GT GT.closed N a zone _ (fmt_nano GT N a zone h0 h1 ha0 ha1 hm60) (by omega)) (by simp)
      have T3 := text155 GT GT.closed N a zone h0 h1 _ (door_iso GT GT.closed N a zone _ (fmt_iso N a zone h0 h1 ha0 ha1 hm60) (by omega)) (by simp)
      have lit : 0 < (Lib.itoa N).length := by
        unfold Lib.itoa
        split
        · simp
        · rw [Lib.decDigits_length]; exact Lib.nDigits_pos _
      have T4 := text154 GT GT.closed N a zone h0 h1 _ (door_nanos GT GT.closed (fun w h => h.1) N a zone h0 h1) lit
      have S1 := rfcF_any N a h0 h1 ha0 ha1
      have S2 := rfcT_any N a h0 h1 ha0 ha1
      have S3 := iso_any N a h0 h1 ha0 ha1
      have S4 := fmtInt_any N h0 h1
      have Q1 := quoted_any _ p1 (by omega)
      have Q2 := quoted_any _ p2 (by omega)
      have Q3 := quoted_any _ p3 (by omega)
      change ∀ w, _ → _ → Calls Tryz.prog 22 _ w fun e w' => e = .returned (.string (str (34 :: (rfcB N a [] [58] ++ [34])))) ∧ _ at T1
      change ∀ w, _ → _ → Calls Tryz.prog 22 _ w fun e w' => e = .returned (.string (str (34 :: (rfcB N a (fracB (nN N)) [58] ++ [34])))) ∧ _ at T2
      change ∀ w, _ → _ → Calls Tryz.prog 22 _ w fun e w' => e = .returned (.string (str (34 :: (rfcB N a (milB (nN N)) [] ++ [34])))) ∧ _ at T3
      change ∀ w, _ → _ → Calls Tryz.prog 22 _ w fun e w' => e = .returned (.string (str (Lib.itoa N))) ∧ _ at T4
      generalize str (34 :: (rfcB N a [] [58] ++ [34])) = A1 at T1 Q1
      generalize str (34 :: (rfcB N a (fracB (nN N)) [58] ++ [34])) = A2 at T2 Q2
      generalize str (34 :: (rfcB N a (milB (nN N)) [] ++ [34])) = A3 at T3 Q3
      generalize str (rfcB N a [] [58]) = B1 at S1 Q1
      generalize str (rfcB N a (fracB (nN N)) [58]) = B2 at S2 Q2
      generalize str (rfcB N a (milB (nN N)) []) = B3 at S3 Q3
      generalize str (Lib.itoa N) = A4 at T4 S4
      have HT1 := Lib.hid T1
      have HT2 := Lib.hid T2
      have HT3 := Lib.hid T3
      have HT4 := Lib.hid T4
      have HS1 := Lib.hid S1
      have HS2 := Lib.hid S2
      have HS3 := Lib.hid S3
      have HS4 := Lib.hid S4
      have HQ1 := Lib.hid Q1
      have HQ2 := Lib.hid Q2
      have HQ3 := Lib.hid Q3
      clear T1 T2 T3 T4 S1 S2 S3 S4 Q1 Q2 Q3 p1 p2 p3 l1 l2 l3 lf lm hy ha0 ha1 hm60 lit
      unfold mzA at *
      go_enter Tryz.func6, Tryz.ntmps6
      go_wp2_with fail
      refine (H21.out _).mono ?_
      rintro e w1 ⟨rfl, hb1⟩
      have hB1 := HBLK.out.below hb1 HBLK.out.lt
      have hs1 := hb1.size
      have x0 : w1.cell? ⟨w.heap.size, 0, none⟩ = some (.bool false) := hB1.cell 0
      have x1 : w1.cell? ⟨w.heap.size, 1, none⟩ = some (.int .i64 N) := hB1.cell 1
      have x2 : w1.cell? ⟨w.heap.size, 2, none⟩ = some (.int .i64 a) := hB1.cell 2
      have x3 : w1.cell? ⟨w.heap.size, 3, none⟩ = some (.string zone) := hB1.cell 3
      have HB1 := Lib.hid (HBX.out.trans (hb1.mono (by simp)))
      have HG1 := Lib.hid (below_G GT.closed hb1 (by simp; omega) HG.out)
      simp at hs1
      have hz1 : Zst w w1 N a zone w.heap.size := ⟨HB1, HG1, by omega, by omega, by omega, x0, x1, x2, x3⟩
      have HZ1 := Lib.hid hz1
      clear hb1 hB1 hz1
      go_wp2_with fail
      refine (H23.out _).mono ?_
      rintro e w2 ⟨rfl, hb2⟩
      have HZ2 := Lib.hid (zst_drew (zst_keep hb2 HZ1.out))
      clear hb2 x0 x1 x2 x3 HB1 HG1 HZ1 hs1 H21 H23 HBLK HBX HG
      go_wp2_with fail
      go_region_held3 (fun w' => Zst w w' N a zone w.heap.size) (first | exact HZ2.out | (go_split_ands; exact zst_keep hb ⟨by assumption, by assumption, by assumption, by assumption, by assumption, by assumption, by assumption, by assumption, by assumption⟩)) (first | (go_at_call 22; go_split_ands; (first | (with_reducible refine (HT1.out _ ?_ ?_).mono ?_) | (with_reducible refine (HT2.out _ ?_ ?_).mono ?_) | (with_reducible refine (HT3.out _ ?_ ?_).mono ?_) | (with_reducible refine (HT4.out _ ?_ ?_).mono ?_)); exact Hid.out (by assumption); assumption; rintro e w' ⟨rfl, hb⟩) | (go_at_call 24; go_split_ands; (first | (with_reducible refine (HS1.out _ ?_ ?_).mono ?_) | (with_reducible refine (HS2.out _ ?_ ?_).mono ?_)); exact And.left (Hid.out (by assumption)); assumption; rintro e w' ⟨rfl, hb⟩) | (go_at_call 25; go_split_ands; (with_reducible refine (HS3.out _ ?_ ?_).mono ?_); exact And.left (Hid.out (by assumption)); assumption; rintro e w' ⟨rfl, hb⟩) | (go_at_call 14; go_split_ands; (with_reducible refine (HS4.out _ ?_).mono ?_); exact And.left (Hid.out (by assumption)); rintro e w' ⟨rfl, hb⟩) | (go_at_call 15; go_split_ands; (first | (with_reducible refine (HQ1.out _ ?_ ?_).mono ?_) | (with_reducible refine (HQ2.out _ ?_ ?_).mono ?_) | (with_reducible refine (HQ3.out _ ?_ ?_).mono ?_)); exact And.left (Hid.out (by assumption)); assumption; rintro e w' ⟨rfl, hb⟩))
      all_goals
        go_split_ands
        have hfin : Below w.heap.size w _ := Hid.out (by assumption)
        have HF := Lib.hid hfin
        clear hfin
        go_wp2_with fail
        go_ret
        exact ⟨rfl, HF.out⟩
    · have hy2 : yrs zero a = false := by simpa using hy
      have H23 := Lib.hid (years_no zero N a zone hy2)
      clear hy hy2
      unfold mzA at *
      go_enter Tryz.func6, Tryz.ntmps6
      go_wp2_with fail
      refine (H21.out _).mono ?_
      rintro e w1 ⟨rfl, hb1⟩
      have hB1 := HBLK.out.below hb1 HBLK.out.lt
      have hs1 := hb1.size
      have x0 : w1.cell? ⟨w.heap.size, 0, none⟩ = some (.bool zero) := hB1.cell 0
      have x1 : w1.cell? ⟨w.heap.size, 1, none⟩ = some (.int .i64 N) := hB1.cell 1
      have x2 : w1.cell? ⟨w.heap.size, 2, none⟩ = some (.int .i64 a) := hB1.cell 2
      have x3 : w1.cell? ⟨w.heap.size, 3, none⟩ = some (.string zone) := hB1.cell 3
      have HB1 := Lib.hid (HBX.out.trans (hb1.mono (by simp)))
      have HG1 := Lib.hid (below_G GT.closed hb1 (by simp; omega) HG.out)
      simp at hs1
      clear hb1 hB1
      go_wp2_with fail
      refine (H23.out _).mono ?_
      rintro e w2 ⟨rfl, hb2⟩
      have HB2 := Lib.hid (HB1.out.trans (hb2.mono (by omega)))
      have HG2 := Lib.hid (below_G GT.closed hb2 (by omega) HG1.out)
      have hs2 := hb2.size
      clear hb2 x0 x1 x2 x3
      go_wp2_with fail
      refine (awake_any w2 HG2.out.1 (by omega)).mono ?_
      rintro e w3 ⟨rfl, hb3⟩
      have HB3 := Lib.hid (HB2.out.trans (hb3.mono (by omega)))
      clear hb3
      go_wp2_with fail
      go_ret
      exact ⟨rfl, HB3.out⟩
  · have hfd : decide (zone.size ≤ 2147483647) = false := by simpa using hf
    rw [hfd] at H21
    clear hfd
    unfold mzA at *
    go_enter Tryz.func6, Tryz.ntmps6
    go_wp2_with fail
    refine (H21.out _).mono ?_
    rintro e w1 ⟨rfl, hb1⟩
    have HB1 := Lib.hid (HBX.out.trans (hb1.mono (by simp)))
    clear hb1
    go_wp2_with fail
    go_ret
    exact ⟨rfl, HB1.out⟩
end Go.Proofs.Zap
