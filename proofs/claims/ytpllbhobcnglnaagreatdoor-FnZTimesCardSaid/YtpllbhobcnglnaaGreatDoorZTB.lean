/- a text of the claims over the seat; its order and aim: NOTES.md -/
import Derived.Test.YtpllbhobcnglnaaGreatDoorZTA
namespace Go.Proofs.Zap
open Go Go.Proofs Go.RowKit

theorem abs_days (N a : Int) : (N / 1000000000 + a + 9223372028741760000) / 86400 = 106751990353932 + dn N a := by unfold dn; omega

theorem nanoT0' (n : Int) (hn : n = 0) (v : Value) (w : World) : Calls Tryz.prog 223 #[v, .int .i64 n, .int .i64 589859] w fun e w' => e = .returned v ∧ w' = w := by
  subst hn; exact nanoT0 v w
theorem ai2I (base : Nat) (v : Value) (l : List UInt8) (x : Int) (n : Nat) (hx : x = n) (hn : n < 100) (w : World) (hown : Own w base v l) (hbase : base ≤ w.heap.size) (hl : l.length ≤ 100000) :
    Calls Tryz.prog 220 #[v, .int .i64 x, .int .i64 2] w fun e w' => ∃ v', e = .returned v' ∧ Own w' base v' (l ++ digs 2 n) ∧ BK base w w' := by
  subst hx; exact ai2 base v l n hn w hown hbase hl

set_option maxHeartbeats 4000000 in
set_option maxRecDepth 100000 in
theorem rfc_any (nanos : Bool) (base : Nat) (v : Value) (l : List UInt8) (N a : Int) (zone : ByteArray) (h0 : -9223372036854775808 ≤ N) (h1 : N ≤ 9223372036854775807) (ha0 : -86400 < a) (ha1 : a < 86400) (hm60 : a % 60 = 0)
    (w : World) (hown : Own w base v l) (hbase : base ≤ w.heap.size) (hl : l.length ≤ 1000) :
    Calls Tryz.prog 214 #[.agg (tmA N zone a), v, .bool nanos] w fun e w' => ∃ v', e = .returned v' ∧ Own w' base v' (l ++ rfcB N a (if nanos then fracB (nN N) else []) [58]) ∧ BK base w w' := by
  obtain ⟨⟨e1, e2, e3, e4, e5, e6, e7⟩, b1, b2, b3, b4, b5, b6, b7, b8, b9, b10⟩ := mom_nat N a h0 h1 ha0 ha1
  have hdn := dn_bd N a h0 h1 ha0 ha1
  have hdate := date_any (dn N a) (by omega) (by omega)
  rw [e1, e2, e3] at hdate
  have hlocd := locabs_any (N / 1000000000 + 62135596800) (N % 1000000000) a zone
  have hx : N / 1000000000 + 62135596800 - 62135596800 = N / 1000000000 := by omega
  rw [hx] at hlocd
  have habs := abs_days N a
  have hclk := clock_any (N / 1000000000 + a + 9223372028741760000) (by omega) (by omega)
  have q1 : (N / 1000000000 + a + 9223372028741760000) % 86400 / 3600 = hN N a := by rw [← e4]; omega
  have q2 : (N / 1000000000 + a + 9223372028741760000) % 86400 / 60 % 60 = miN N a := by rw [← e5]; omega
  have q3 : (N / 1000000000 + a + 9223372028741760000) % 60 = sN N a := by rw [← e6]; omega
  rw [q1, q2, q3] at hclk
  have hdays := days_any (N / 1000000000 + a + 9223372028741760000) (by omega) (by omega)
  rw [habs] at hdays
  have hnano := nano_any (N / 1000000000 + 62135596800) (N % 1000000000) a zone
  rw [e7] at hnano hlocd
  have HDATE := Lib.hid hdate
  have HLOC := Lib.hid hlocd
  have HCLK := Lib.hid hclk
  have HDAYS := Lib.hid hdays
  have HNANO := Lib.hid hnano
  have hS0 : -9223372037 ≤ N / 1000000000 := by omega
  have hS1 : N / 1000000000 ≤ 9223372036 := by omega
  unfold tmA
  rw [e7]
  generalize N / 1000000000 = S at *
  clear e1 e2 e3 e4 e5 e6 e7 hdate hlocd hx habs hclk q1 q2 q3 hdays hnano hdn
  have HO := Lib.hid hown
  clear hown
  go_enter Tryz.func214, Tryz.ntmps214
  go_wp2_with fail
  refine (HLOC.out _ (by omega) (by omega) ha0 ha1).mono ?_
  rintro e w1 ⟨rfl, hb1⟩
  have hB : Blk (w.alloc (.cells #[.int .i64 (S + 62135596800), .int .i32 (nN N), .string zone, .int .i64 a] 112)) w.heap.size 112 #[.int .i64 (S + 62135596800), .int .i32 (nN N), .string zone, .int .i64 a] := Blk.new _ _ _
  have HBX := Lib.hid (hB.below hb1 (by simp))
  have HBK := Lib.hid ((BK.alloc base w (.cells #[.int .i64 (S + 62135596800), .int .i32 (nN N), .string zone, .int .i64 a] 112) hbase).trans (BK.of_below hb1 (by simp; omega)))
  have HO1 := Lib.hid (ownsRow_below (ownsRow_below HO.out ((Below.refl _ _).alloc (Nat.le_refl _) (.cells #[.int .i64 (S + 62135596800), .int .i32 (nN N), .string zone, .int .i64 a] 112))) hb1)
  clear hb1 hB HO
  have hs := HBK.out.size
  go_wp2_with fail
  refine (HDAYS.out _).mono ?_
  rintro e w' ⟨rfl, rfl⟩
  go_wp2_with fail
  refine (HDATE.out _).mono ?_
  rintro e w' ⟨rfl, rfl⟩
  have hbw : base ≤ w'.heap.size := by omega
  have HC10 := Lib.hid (BK.refl base w')
  have hs10 := HC10.out.size
  have HO10 : Hid (Own w' base v l) := HO1
  clear HO1 hs
  go_wp2_with fail
  refine (ai4 base _ _ (yN N a) (by omega) _ HO10.out (by omega) (by first | omega | (simp; omega) | (simp [digs_len]; omega))).mono ?_
  rintro e w11 ⟨v11, rfl, ho, hb⟩
  have HO11 := Lib.hid ho
  have HC11 := Lib.hid (HC10.out.trans hb)
  have hs11 := HC11.out.size
  clear ho hb HO10 HC10 hs10
  go_wp2_with (at_builtin; refine wpList_app rfl _ _ rfl base _ _ rfl HO11.out _ [45] rfl 1 rfl rfl (by first | omega | (simp; omega) | (simp [digs_len]; omega)) (by omega) ?_; intro v12 w12 ho hb; have HO12 := Lib.hid ho; have HC12 := Lib.hid (HC11.out.trans hb); have hs12 := HC12.out.size; clear ho hb HO11 HC11 hs11)
  refine (ai2 base _ _ (moN N a) (by omega) _ HO12.out (by omega) (by first | omega | (simp; omega) | (simp [digs_len]; omega))).mono ?_
  rintro e w13 ⟨v13, rfl, ho, hb⟩
  have HO13 := Lib.hid ho
  have HC13 := Lib.hid (HC12.out.trans hb)
  have hs13 := HC13.out.size
  clear ho hb HO12 HC12 hs12
  go_wp2_with (at_builtin; refine wpList_app rfl _ _ rfl base _ _ rfl HO13.out _ [45] rfl 1 rfl rfl (by first | omega | (simp; omega) | (simp [digs_len]; omega)) (by omega) ?_; intro v14 w14 ho hb; have HO14 := Lib.hid ho; have HC14 := Lib.hid (HC13.out.trans hb); have hs14 := HC14.out.size; clear ho hb HO13 HC13 hs13)
  refine (ai2 base _ _ (daN N a) (by omega) _ HO14.out (by omega) (by first | omega | (simp; omega) | (simp [digs_len]; omega))).mono ?_
  rintro e w15 ⟨v15, rfl, ho, hb⟩
  have HO15 := Lib.hid ho
  have HC15 := Lib.hid (HC14.out.trans hb)
  have hs15 := HC15.out.size
  clear ho hb HO14 HC14 hs14
  go_wp2_with (at_builtin; refine wpList_app rfl _ _ rfl base _ _ rfl HO15.out _ [84] rfl 1 rfl rfl (by first | omega | (simp; omega) | (simp [digs_len]; omega)) (by omega) ?_; intro v16 w16 ho hb; have HO16 := Lib.hid ho; have HC16 := Lib.hid (HC15.out.trans hb); have hs16 := HC16.out.size; clear ho hb HO15 HC15 hs15)
  refine (HCLK.out _).mono ?_
  rintro e w' ⟨rfl, rfl⟩
  go_wp2_with fail
  refine (ai2 base _ _ (hN N a) (by omega) _ HO16.out (by omega) (by first | omega | (simp; omega) | (simp [digs_len]; omega))).mono ?_
  rintro e w17 ⟨v17, rfl, ho, hb⟩
  have HO17 := Lib.hid ho
  have HC17 := Lib.hid (HC16.out.trans hb)
  have hs17 := HC17.out.size
  clear ho hb HO16 HC16 hs16
  go_wp2_with (at_builtin; refine wpList_app rfl _ _ rfl base _ _ rfl HO17.out _ [58] rfl 1 rfl rfl (by first | omega | (simp; omega) | (simp [digs_len]; omega)) (by omega) ?_; intro v18 w18 ho hb; have HO18 := Lib.hid ho; have HC18 := Lib.hid (HC17.out.trans hb); have hs18 := HC18.out.size; clear ho hb HO17 HC17 hs17)
  refine (ai2 base _ _ (miN N a) (by omega) _ HO18.out (by omega) (by first | omega | (simp; omega) | (simp [digs_len]; omega))).mono ?_
  rintro e w19 ⟨v19, rfl, ho, hb⟩
  have HO19 := Lib.hid ho
  have HC19 := Lib.hid (HC18.out.trans hb)
  have hs19 := HC19.out.size
  clear ho hb HO18 HC18 hs18
  go_wp2_with (at_builtin; refine wpList_app rfl _ _ rfl base _ _ rfl HO19.out _ [58] rfl 1 rfl rfl (by first | omega | (simp; omega) | (simp [digs_len]; omega)) (by omega) ?_; intro v20 w20 ho hb; have HO20 := Lib.hid ho; have HC20 := Lib.hid (HC19.out.trans hb); have hs20 := HC20.out.size; clear ho hb HO19 HC19 hs19)
  refine (ai2 base _ _ (sN N a) (by omega) _ HO20.out (by omega) (by first | omega | (simp; omega) | (simp [digs_len]; omega))).mono ?_
  rintro e w21 ⟨v21, rfl, ho, hb⟩
  have HO21 := Lib.hid ho
  have HC21 := Lib.hid (HC20.out.trans hb)
  have hs21 := HC21.out.size
  clear ho hb HO20 HC20 hs20
  have ecl : l ++ digs 4 (yN N a) ++ [45] ++ digs 2 (moN N a) ++ [45] ++ digs 2 (daN N a) ++ [84] ++ digs 2 (hN N a) ++ [58] ++ digs 2 (miN N a) ++ [58] ++ digs 2 (sN N a) = l ++ clkB N a := by simp [clkB, clockB]
  rw [ecl] at HO21
  have hcl := clkB_len N a
  have hcl2 : (l ++ clkB N a).length ≤ 1100 := by simp [hcl]; omega
  clear ecl hcl HLOC HDATE HCLK HDAYS
  obtain ⟨LL, hLL⟩ : ∃ LL, LL = l ++ clkB N a := ⟨_, rfl⟩
  rw [← hLL] at HO21 hcl2
  have HLL := Lib.hid hLL
  clear hLL
  cases nanos
  · obtain ⟨LLF, hLF⟩ : ∃ LLF, LLF = LL := ⟨_, rfl⟩
    rw [← hLF] at HO21 hcl2
    have HLF := Lib.hid (show LLF = l ++ clkB N a ++ [] by rw [hLF, HLL.out, List.append_nil])
    clear hLF HLL
    rcases (show a = 0 ∨ a < 0 ∨ 0 < a by omega) with ha | ha | ha
    · have HZ := Lib.hid (show zoneB a [58] = [90] by unfold zoneB; rw [if_pos ha])
      have hz0 : (a == 0) = true := by simp [ha]
      clear ha
      go_wp2_with (at_builtin; refine wpList_app rfl _ _ rfl base _ _ rfl HO21.out _ [90] rfl 1 rfl rfl (by first | omega | (simp; omega) | (simp [digs_len]; omega)) (by omega) ?_; intro v22 w22 ho hb; have HO22 := Lib.hid ho; have HC22 := Lib.hid (HC21.out.trans hb); have hs22 := HC22.out.size; clear ho hb HO21 HC21 hs21)
      have h7 : LLF ++ [90] = l ++ rfcB N a [] [58] := by rw [HLF.out, rfcB, HZ.out]; simp
      rw [h7] at HO22
      clear h7
      go_ret
      refine ⟨_, rfl, ?_, HBK.out.trans HC22.out⟩
      exact HO22.out
    · obtain ⟨n, hn⟩ : ∃ n : Nat, a = -(n : Int) := ⟨a.natAbs, by omega⟩
      have HZ := Lib.hid (show zoneB a [58] = 45 :: (digs 2 (n / 3600) ++ ([58] ++ digs 2 (n / 60 % 60))) by
        unfold zoneB; rw [if_neg (by omega), if_pos ha, hn, Int.natAbs_neg, Int.natAbs_natCast])
      have hz0 : (a == 0) = false := by simp; omega
      have hq : a.tdiv 60 = -((n / 60 : Nat) : Int) := by rw [hn, Int.neg_tdiv, Int.tdiv_eq_ediv_of_nonneg (by omega)]; omega
      have hq2 : (-((n / 60 : Nat) : Int)) < 0 := by omega
      have hn2 : n < 86400 := by omega
      clear hn ha
      go_wp2_with (at_builtin; refine wpList_app rfl _ _ rfl base _ _ rfl HO21.out _ [45] rfl 1 rfl rfl (by first | omega | (simp; omega) | (simp [digs_len]; omega)) (by omega) ?_; intro v22 w22 ho hb; have HO22 := Lib.hid ho; have HC22 := Lib.hid (HC21.out.trans hb); have hs22 := HC22.out.size; clear ho hb HO21 HC21 hs21)
      refine (ai2I base _ _ _ (n / 3600) (by omega) (by omega) _ HO22.out (by omega) (by first | omega | (simp; omega) | (simp [digs_len]; omega))).mono ?_
      rintro e w23 ⟨v23, rfl, ho, hb⟩
      have HO23 := Lib.hid ho
      have HC23 := Lib.hid (HC22.out.trans hb)
      have hs23 := HC23.out.size
      clear ho hb HO22 HC22 hs22
      go_wp2_with (at_builtin; refine wpList_app rfl _ _ rfl base _ _ rfl HO23.out _ [58] rfl 1 rfl rfl (by first | omega | (simp; omega) | (simp [digs_len]; omega)) (by omega) ?_; intro v24 w24 ho hb; have HO24 := Lib.hid ho; have HC24 := Lib.hid (HC23.out.trans hb); have hs24 := HC24.out.size; clear ho hb HO23 HC23 hs23)
      refine (ai2I base _ _ _ (n / 60 % 60) (by omega) (by omega) _ HO24.out (by omega) (by first | omega | (simp; omega) | (simp [digs_len]; omega))).mono ?_
      rintro e w25 ⟨v25, rfl, ho, hb⟩
      have HO25 := Lib.hid ho
      have HC25 := Lib.hid (HC24.out.trans hb)
      have hs25 := HC25.out.size
      clear ho hb HO24 HC24 hs24
      go_wp2_with fail
      have h7 : LLF ++ [45] ++ digs 2 (n / 3600) ++ [58] ++ digs 2 (n / 60 % 60) = l ++ rfcB N a [] [58] := by rw [HLF.out, rfcB, HZ.out]; simp
      rw [h7] at HO25
      clear h7
      go_ret
      refine ⟨_, rfl, ?_, HBK.out.trans HC25.out⟩
      exact HO25.out
    · obtain ⟨n, hn⟩ : ∃ n : Nat, a = (n : Int) := ⟨a.natAbs, by omega⟩
      have HZ := Lib.hid (show zoneB a [58] = 43 :: (digs 2 (n / 3600) ++ ([58] ++ digs 2 (n / 60 % 60))) by
        unfold zoneB; rw [if_neg (by omega), if_neg (by omega), hn, Int.natAbs_natCast])
      have hz0 : (a == 0) = false := by simp; omega
      have hq : a.tdiv 60 = ((n / 60 : Nat) : Int) := by rw [hn, Int.tdiv_eq_ediv_of_nonneg (by omega)]; omega
      have hq1 : a / 60 = ((n / 60 : Nat) : Int) := by omega
      have hq2 : (0 : Int) ≤ ((n / 60 : Nat) : Int) := by omega
      have hn2 : n < 86400 := by omega
      clear hn
      go_wp2_with (at_builtin; refine wpList_app rfl _ _ rfl base _ _ rfl HO21.out _ [43] rfl 1 rfl rfl (by first | omega | (simp; omega) | (simp [digs_len]; omega)) (by omega) ?_; intro v22 w22 ho hb; have HO22 := Lib.hid ho; have HC22 := Lib.hid (HC21.out.trans hb); have hs22 := HC22.out.size; clear ho hb HO21 HC21 hs21)
      refine (ai2I base _ _ _ (n / 3600) (by omega) (by omega) _ HO22.out (by omega) (by first | omega | (simp; omega) | (simp [digs_len]; omega))).mono ?_
      rintro e w23 ⟨v23, rfl, ho, hb⟩
      have HO23 := Lib.hid ho
      have HC23 := Lib.hid (HC22.out.trans hb)
      have hs23 := HC23.out.size
      clear ho hb HO22 HC22 hs22
      go_wp2_with (at_builtin; refine wpList_app rfl _ _ rfl base _ _ rfl HO23.out _ [58] rfl 1 rfl rfl (by first | omega | (simp; omega) | (simp [digs_len]; omega)) (by omega) ?_; intro v24 w24 ho hb; have HO24 := Lib.hid ho; have HC24 := Lib.hid (HC23.out.trans hb); have hs24 := HC24.out.size; clear ho hb HO23 HC23 hs23)
      refine (ai2I base _ _ _ (n / 60 % 60) (by omega) (by omega) _ HO24.out (by omega) (by first | omega | (simp; omega) | (simp [digs_len]; omega))).mono ?_
      rintro e w25 ⟨v25, rfl, ho, hb⟩
      have HO25 := Lib.hid ho
      have HC25 := Lib.hid (HC24.out.trans hb)
      have hs25 := HC25.out.size
      clear ho hb HO24 HC24 hs24
      go_wp2_with fail
      have h7 : LLF ++ [43] ++ digs 2 (n / 3600) ++ [58] ++ digs 2 (n / 60 % 60) = l ++ rfcB N a [] [58] := by rw [HLF.out, rfcB, HZ.out]; simp
      rw [h7] at HO25
      clear h7
      go_ret
      refine ⟨_, rfl, ?_, HBK.out.trans HC25.out⟩
      exact HO25.out
  · have HB5 := Lib.hid (HC21.out.other _ 112 _ (by decide) HBX.out)
    go_wp2_with (first | (go_at_call 222; refine (frac35 _).mono ?_; rintro e w' ⟨rfl, rfl⟩) | (refine wpList_load_row (by rfl) 112 (.tmp 3) rfl w.heap.size rfl 112 _ (0, 0) _ HB5.out Tryz.underlying112 rfl (by kernel_rfl) ?_))
    refine (HNANO.out _ (by omega) (by omega)).mono ?_
    rintro e w30 ⟨rfl, hb30⟩
    have HC30 := Lib.hid (HC21.out.trans (BK.of_below hb30 (by omega)))
    have hs30 := HC30.out.size
    have HO30 := Lib.hid (ownsRow_below HO21.out hb30)
    clear hb30 HB5 HC21 HO21 hs21
    by_cases hn0 : nN N = 0
    · have ef : fracB (nN N) = [] := by unfold fracB; rw [if_pos hn0]
      have hni : (nN N : Int) = 0 := by omega
      have HNI := Lib.hid hni
      clear hn0 hni
      go_wp2_with fail
      refine (nanoT0' _ HNI.out _ _).mono ?_
      rintro e w' ⟨rfl, rfl⟩
      obtain ⟨LLF, hLF⟩ : ∃ LLF, LLF = LL := ⟨_, rfl⟩
      have HO40 : Hid (Own w' base v21 LLF) := by rw [hLF]; exact HO30
      rw [← hLF] at hcl2
      have HLF := Lib.hid (show LLF = l ++ clkB N a ++ fracB (nN N) by rw [ef, hLF, HLL.out, List.append_nil])
      clear ef
      have HC40 := HC30
      have hs40 := hs30
      clear hLF HLL HO30 HC30 hs30
      rcases (show a = 0 ∨ a < 0 ∨ 0 < a by omega) with ha | ha | ha
      · have HZ := Lib.hid (show zoneB a [58] = [90] by unfold zoneB; rw [if_pos ha])
        have hz0 : (a == 0) = true := by simp [ha]
        clear ha
        go_wp2_with (at_builtin; refine wpList_app rfl _ _ rfl base _ _ rfl HO40.out _ [90] rfl 1 rfl rfl (by first | omega | (simp; omega) | (simp [digs_len]; omega)) (by omega) ?_; intro v41 w41 ho hb; have HO41 := Lib.hid ho; have HC41 := Lib.hid (HC40.out.trans hb); have hs41 := HC41.out.size; clear ho hb HO40 HC40 hs40)
        have h7 : LLF ++ [90] = l ++ rfcB N a (fracB (nN N)) [58] := by rw [HLF.out, rfcB, HZ.out]; simp
        rw [h7] at HO41
        clear h7
        go_ret
        refine ⟨_, rfl, ?_, HBK.out.trans HC41.out⟩
        exact HO41.out
      · obtain ⟨n, hn⟩ : ∃ n : Nat, a = -(n : Int) := ⟨a.natAbs, by omega⟩
        have HZ := Lib.hid (show zoneB a [58] = 45 :: (digs 2 (n / 3600) ++ ([58] ++ digs 2 (n / 60 % 60))) by
          unfold zoneB; rw [if_neg (by omega), if_pos ha, hn, Int.natAbs_neg, Int.natAbs_natCast])
        have hz0 : (a == 0) = false := by simp; omega
        have hq : a.tdiv 60 = -((n / 60 : Nat) : Int) := by rw [hn, Int.neg_tdiv, Int.tdiv_eq_ediv_of_nonneg (by omega)]; omega
        have hq2 : (-((n / 60 : Nat) : Int)) < 0 := by omega
        have hn2 : n < 86400 := by omega
        clear hn ha
        go_wp2_with (at_builtin; refine wpList_app rfl _ _ rfl base _ _ rfl HO40.out _ [45] rfl 1 rfl rfl (by first | omega | (simp; omega) | (simp [digs_len]; omega)) (by omega) ?_; intro v41 w41 ho hb; have HO41 := Lib.hid ho; have HC41 := Lib.hid (HC40.out.trans hb); have hs41 := HC41.out.size; clear ho hb HO40 HC40 hs40)
        refine (ai2I base _ _ _ (n / 3600) (by omega) (by omega) _ HO41.out (by omega) (by first | omega | (simp; omega) | (simp [digs_len]; omega))).mono ?_
        rintro e w42 ⟨v42, rfl, ho, hb⟩
        have HO42 := Lib.hid ho
        have HC42 := Lib.hid (HC41.out.trans hb)
        have hs42 := HC42.out.size
        clear ho hb HO41 HC41 hs41
        go_wp2_with (at_builtin; refine wpList_app rfl _ _ rfl base _ _ rfl HO42.out _ [58] rfl 1 rfl rfl (by first | omega | (simp; omega) | (simp [digs_len]; omega)) (by omega) ?_; intro v43 w43 ho hb; have HO43 := Lib.hid ho; have HC43 := Lib.hid (HC42.out.trans hb); have hs43 := HC43.out.size; clear ho hb HO42 HC42 hs42)
        refine (ai2I base _ _ _ (n / 60 % 60) (by omega) (by omega) _ HO43.out (by omega) (by first | omega | (simp; omega) | (simp [digs_len]; omega))).mono ?_
        rintro e w44 ⟨v44, rfl, ho, hb⟩
        have HO44 := Lib.hid ho
        have HC44 := Lib.hid (HC43.out.trans hb)
        have hs44 := HC44.out.size
        clear ho hb HO43 HC43 hs43
        go_wp2_with fail
        have h7 : LLF ++ [45] ++ digs 2 (n / 3600) ++ [58] ++ digs 2 (n / 60 % 60) = l ++ rfcB N a (fracB (nN N)) [58] := by rw [HLF.out, rfcB, HZ.out]; simp
        rw [h7] at HO44
        clear h7
        go_ret
        refine ⟨_, rfl, ?_, HBK.out.trans HC44.out⟩
        exact HO44.out
      · obtain ⟨n, hn⟩ : ∃ n : Nat, a = (n : Int) := ⟨a.natAbs, by omega⟩
        have HZ := Lib.hid (show zoneB a [58] = 43 :: (digs 2 (n / 3600) ++ ([58] ++ digs 2 (n / 60 % 60))) by
          unfold zoneB; rw [if_neg (by omega), if_neg (by omega), hn, Int.natAbs_natCast])
        have hz0 : (a == 0) = false := by simp; omega
        have hq : a.tdiv 60 = ((n / 60 : Nat) : Int) := by rw [hn, Int.tdiv_eq_ediv_of_nonneg (by omega)]; omega
        have hq1 : a / 60 = ((n / 60 : Nat) : Int) := by omega
        have hq2 : (0 : Int) ≤ ((n / 60 : Nat) : Int) := by omega
        have hn2 : n < 86400 := by omega
        clear hn
        go_wp2_with (at_builtin; refine wpList_app rfl _ _ rfl base _ _ rfl HO40.out _ [43] rfl 1 rfl rfl (by first | omega | (simp; omega) | (simp [digs_len]; omega)) (by omega) ?_; intro v41 w41 ho hb; have HO41 := Lib.hid ho; have HC41 := Lib.hid (HC40.out.trans hb); have hs41 := HC41.out.size; clear ho hb HO40 HC40 hs40)
        refine (ai2I base _ _ _ (n / 3600) (by omega) (by omega) _ HO41.out (by omega) (by first | omega | (simp; omega) | (simp [digs_len]; omega))).mono ?_
        rintro e w42 ⟨v42, rfl, ho, hb⟩
        have HO42 := Lib.hid ho
        have HC42 := Lib.hid (HC41.out.trans hb)
        have hs42 := HC42.out.size
        clear ho hb HO41 HC41 hs41
        go_wp2_with (at_builtin; refine wpList_app rfl _ _ rfl base _ _ rfl HO42.out _ [58] rfl 1 rfl rfl (by first | omega | (simp; omega) | (simp [digs_len]; omega)) (by omega) ?_; intro v43 w43 ho hb; have HO43 := Lib.hid ho; have HC43 := Lib.hid (HC42.out.trans hb); have hs43 := HC43.out.size; clear ho hb HO42 HC42 hs42)
        refine (ai2I base _ _ _ (n / 60 % 60) (by omega) (by omega) _ HO43.out (by omega) (by first | omega | (simp; omega) | (simp [digs_len]; omega))).mono ?_
        rintro e w44 ⟨v44, rfl, ho, hb⟩
        have HO44 := Lib.hid ho
        have HC44 := Lib.hid (HC43.out.trans hb)
        have hs44 := HC44.out.size
        clear ho hb HO43 HC43 hs43
        go_wp2_with fail
        have h7 : LLF ++ [43] ++ digs 2 (n / 3600) ++ [58] ++ digs 2 (n / 60 % 60) = l ++ rfcB N a (fracB (nN N)) [58] := by rw [HLF.out, rfcB, HZ.out]; simp
        rw [h7] at HO44
        clear h7
        go_ret
        refine ⟨_, rfl, ?_, HBK.out.trans HC44.out⟩
        exact HO44.out
    · have ef : fracB (nN N) = 46 :: trim0 (digs 9 (nN N)) := by unfold fracB; rw [if_neg hn0]
      have htl := trim0_le (digs 9 (nN N))
      rw [digs_len] at htl
      go_wp2_with fail
      refine (nanoT base _ _ (nN N) (by omega) b10 _ HO30.out (by omega) (by omega)).mono ?_
      rintro e w40 ⟨v40, rfl, ho, hb⟩
      obtain ⟨LLF, hLF⟩ : ∃ LLF, LLF = LL ++ 46 :: trim0 (digs 9 (nN N)) := ⟨_, rfl⟩
      rw [← hLF] at ho
      have hcl3 : LLF.length ≤ 1200 := by rw [hLF]; simp; omega
      have HLF := Lib.hid (show LLF = l ++ clkB N a ++ fracB (nN N) by rw [hLF, HLL.out, ef])
      have HO40 := Lib.hid ho
      have HC40 := Lib.hid (HC30.out.trans hb)
      have hs40 := HC40.out.size
      clear hLF HLL HO30 HC30 hs30 ho hb ef htl hcl2 hn0
      rcases (show a = 0 ∨ a < 0 ∨ 0 < a by omega) with ha | ha | ha
      · have HZ := Lib.hid (show zoneB a [58] = [90] by unfold zoneB; rw [if_pos ha])
        have hz0 : (a == 0) = true := by simp [ha]
        clear ha
        go_wp2_with (at_builtin; refine wpList_app rfl _ _ rfl base _ _ rfl HO40.out _ [90] rfl 1 rfl rfl (by first | omega | (simp; omega) | (simp [digs_len]; omega)) (by omega) ?_; intro v41 w41 ho hb; have HO41 := Lib.hid ho; have HC41 := Lib.hid (HC40.out.trans hb); have hs41 := HC41.out.size; clear ho hb HO40 HC40 hs40)
        have h7 : LLF ++ [90] = l ++ rfcB N a (fracB (nN N)) [58] := by rw [HLF.out, rfcB, HZ.out]; simp
        rw [h7] at HO41
        clear h7
        go_ret
        refine ⟨_, rfl, ?_, HBK.out.trans HC41.out⟩
        exact HO41.out
      · obtain ⟨n, hn⟩ : ∃ n : Nat, a = -(n : Int) := ⟨a.natAbs, by omega⟩
        have HZ := Lib.hid (show zoneB a [58] = 45 :: (digs 2 (n / 3600) ++ ([58] ++ digs 2 (n / 60 % 60))) by
          unfold zoneB; rw [if_neg (by omega), if_pos ha, hn, Int.natAbs_neg, Int.natAbs_natCast])
        have hz0 : (a == 0) = false := by simp; omega
        have hq : a.tdiv 60 = -((n / 60 : Nat) : Int) := by rw [hn, Int.neg_tdiv, Int.tdiv_eq_ediv_of_nonneg (by omega)]; omega
        have hq2 : (-((n / 60 : Nat) : Int)) < 0 := by omega
        have hn2 : n < 86400 := by omega
        clear hn ha
        go_wp2_with (at_builtin; refine wpList_app rfl _ _ rfl base _ _ rfl HO40.out _ [45] rfl 1 rfl rfl (by first | omega | (simp; omega) | (simp [digs_len]; omega)) (by omega) ?_; intro v41 w41 ho hb; have HO41 := Lib.hid ho; have HC41 := Lib.hid (HC40.out.trans hb); have hs41 := HC41.out.size; clear ho hb HO40 HC40 hs40)
        refine (ai2I base _ _ _ (n / 3600) (by omega) (by omega) _ HO41.out (by omega) (by first | omega | (simp; omega) | (simp [digs_len]; omega))).mono ?_
        rintro e w42 ⟨v42, rfl, ho, hb⟩
        have HO42 := Lib.hid ho
        have HC42 := Lib.hid (HC41.out.trans hb)
        have hs42 := HC42.out.size
        clear ho hb HO41 HC41 hs41
        go_wp2_with (at_builtin; refine wpList_app rfl _ _ rfl base _ _ rfl HO42.out _ [58] rfl 1 rfl rfl (by first | omega | (simp; omega) | (simp [digs_len]; omega)) (by omega) ?_; intro v43 w43 ho hb; have HO43 := Lib.hid ho; have HC43 := Lib.hid (HC42.out.trans hb); have hs43 := HC43.out.size; clear ho hb HO42 HC42 hs42)
        refine (ai2I base _ _ _ (n / 60 % 60) (by omega) (by omega) _ HO43.out (by omega) (by first | omega | (simp; omega) | (simp [digs_len]; omega))).mono ?_
        rintro e w44 ⟨v44, rfl, ho, hb⟩
        have HO44 := Lib.hid ho
        have HC44 := Lib.hid (HC43.out.trans hb)
        have hs44 := HC44.out.size
        clear ho hb HO43 HC43 hs43
        go_wp2_with fail
        have h7 : LLF ++ [45] ++ digs 2 (n / 3600) ++ [58] ++ digs 2 (n / 60 % 60) = l ++ rfcB N a (fracB (nN N)) [58] := by rw [HLF.out, rfcB, HZ.out]; simp
        rw [h7] at HO44
        clear h7
        go_ret
        refine ⟨_, rfl, ?_, HBK.out.trans HC44.out⟩
        exact HO44.out
      · obtain ⟨n, hn⟩ : ∃ n : Nat, a = (n : Int) := ⟨a.natAbs, by omega⟩
        have HZ := Lib.hid (show zoneB a [58] = 43 :: (digs 2 (n / 3600) ++ ([58] ++ digs 2 (n / 60 % 60))) by
          unfold zoneB; rw [if_neg (by omega), if_neg (by omega), hn, Int.natAbs_natCast])
        have hz0 : (a == 0) = false := by simp; omega
        have hq : a.tdiv 60 = ((n / 60 : Nat) : Int) := by rw [hn, Int.tdiv_eq_ediv_of_nonneg (by omega)]; omega
        have hq1 : a / 60 = ((n / 60 : Nat) : Int) := by omega
        have hq2 : (0 : Int) ≤ ((n / 60 : Nat) : Int) := by omega
        have hn2 : n < 86400 := by omega
        clear hn
        go_wp2_with (at_builtin; refine wpList_app rfl _ _ rfl base _ _ rfl HO40.out _ [43] rfl 1 rfl rfl (by first | omega | (simp; omega) | (simp [digs_len]; omega)) (by omega) ?_; intro v41 w41 ho hb; have HO41 := Lib.hid ho; have HC41 := Lib.hid (HC40.out.trans hb); have hs41 := HC41.out.size; clear ho hb HO40 HC40 hs40)
        refine (ai2I base _ _ _ (n / 3600) (by omega) (by omega) _ HO41.out (by omega) (by first | omega | (simp; omega) | (simp [digs_len]; omega))).mono ?_
        rintro e w42 ⟨v42, rfl, ho, hb⟩
        have HO42 := Lib.hid ho
        have HC42 := Lib.hid (HC41.out.trans hb)
        have hs42 := HC42.out.size
        clear ho hb HO41 HC41 hs41
        go_wp2_with (at_builtin; refine wpList_app rfl _ _ rfl base _ _ rfl HO42.out _ [58] rfl 1 rfl rfl (by first | omega | (simp; omega) | (simp [digs_len]; omega)) (by omega) ?_; intro v43 w43 ho hb; have HO43 := Lib.hid ho; have HC43 := Lib.hid (HC42.out.trans hb); have hs43 := HC43.out.size; clear ho hb HO42 HC42 hs42)
        refine (ai2I base _ _ _ (n / 60 % 60) (by omega) (by omega) _ HO43.out (by omega) (by first | omega | (simp; omega) | (simp [digs_len]; omega))).mono ?_
        rintro e w44 ⟨v44, rfl, ho, hb⟩
        have HO44 := Lib.hid ho
        have HC44 := Lib.hid (HC43.out.trans hb)
        have hs44 := HC44.out.size
        clear ho hb HO43 HC43 hs43
        go_wp2_with fail
        have h7 : LLF ++ [43] ++ digs 2 (n / 3600) ++ [58] ++ digs 2 (n / 60 % 60) = l ++ rfcB N a (fracB (nN N)) [58] := by rw [HLF.out, rfcB, HZ.out]; simp
        rw [h7] at HO44
        clear h7
        go_ret
        refine ⟨_, rfl, ?_, HBK.out.trans HC44.out⟩
        exact HO44.out
end Go.Proofs.Zap
