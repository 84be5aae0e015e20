/- a text of the claims over the seat; its order and aim: NOTES.md -/
import Derived.Test.YtpllbhobcnglnaaGreatDoorZT7
import Derived.Lib.AppendZeros
import Derived.Lib.AppendZerosOnto
namespace Go.Proofs.Zap
open Go Go.Proofs Go.RowKit

theorem asm_list (cur : Array Value) (L : List UInt8) (n : Nat) (_ : L.length + Lib.nDigits n ≤ cur.size)
    (h1 : ∀ k, k < L.length → cur[k]? = (bytesV L)[k]?) (h2 : ∀ i, i < Lib.nDigits n → cur[L.length + Lib.nDigits n - 1 - i]? = some (.int .u8 ((Lib.dg n i).toNat : Int))) :
    cur.toList.take (L.length + Lib.nDigits n) = bytesV (L ++ Lib.decDigits n) := by
  have hdl := Lib.decDigits_length n
  apply List.ext_getElem?
  intro k
  rw [List.getElem?_take]
  by_cases hk : k < L.length + Lib.nDigits n
  · rw [if_pos hk, Array.getElem?_toList, bytesV_append]
    by_cases hkl : k < L.length
    · rw [h1 k hkl, List.getElem?_append_left (by rw [bytesV_length]; exact hkl)]
    · have := h2 (L.length + Lib.nDigits n - 1 - k) (by omega)
      rw [show L.length + Lib.nDigits n - 1 - (L.length + Lib.nDigits n - 1 - k) = k by omega] at this
      rw [this, List.getElem?_append_right (by rw [bytesV_length]; omega), bytesV_length, Lib.decDigits_eq]
      unfold bytesV
      rw [List.getElem?_map, List.getElem?_map, List.getElem?_range (by omega)]
      simp only [Option.map_some]
      rw [show L.length + Lib.nDigits n - 1 - k = Lib.nDigits n - 1 - (k - L.length) by omega]
  · rw [if_neg hk, List.getElem?_eq_none]
    rw [bytesV_length, List.length_append, hdl]; omega

theorem nd_step (n j : Nat) (hj : j < Lib.nDigits n) : 10 ≤ n / 10 ^ j ↔ j + 1 < Lib.nDigits n := by
  induction j generalizing n with
  | zero =>
    rw [Nat.pow_zero, Nat.div_one]
    by_cases h : n < 10
    · rw [Lib.nDigits_small h]; omega
    · rw [Lib.nDigits_big h]; have := Lib.nDigits_pos (n / 10); omega
  | succ j ih =>
    by_cases h : n < 10
    · rw [Lib.nDigits_small h] at hj; omega
    · rw [Lib.nDigits_big h] at hj ⊢
      rw [Nat.pow_succ, Nat.mul_comm, ← Nat.div_div_eq_div_mul, ih (n / 10) (by omega)]
      omega

/-- a row of bytes whose first ones are known -/
def RowAt (w : World) (base g cap : Nat) (cur : Array Value) : Prop := Blk w g 5 cur ∧ cur.size = cap ∧ base ≤ g

/-- the row while it is filled from its end -/
structure Fill (L : List UInt8) (n d j cap : Nat) (cur : Array Value) : Prop where
  size : cur.size = cap
  pre : ∀ k, k < L.length → cur[k]? = (bytesV L)[k]?
  dig : ∀ i, i < j → cur[L.length + d - 1 - i]? = some (.int .u8 ((Lib.dg n i).toNat : Int))

theorem Fill.step {L : List UInt8} {n d j cap p : Nat} {cur : Array Value} (h : Fill L n d j cap cur) (hp : p + j = L.length + d - 1) (hj : j < d) (hc : L.length + d ≤ cap) (x : Value) (hx : x = .int .u8 ((Lib.dg n j).toNat : Int)) :
    Fill L n d (j + 1) cap (cur.setIfInBounds p x) := by
  refine ⟨by simp [h.size], fun k hk => ?_, fun i hi => ?_⟩
  · rw [Array.getElem?_setIfInBounds_ne (by omega)]; exact h.pre k hk
  · by_cases e : i = j
    · subst e
      have : L.length + d - 1 - i = p := by omega
      rw [this, Array.getElem?_setIfInBounds_self_of_lt (by rw [h.size]; omega), hx]
    · rw [Array.getElem?_setIfInBounds_ne (by omega)]; exact h.dig i (by omega)

theorem Fill.own {L : List UInt8} {n cap g base : Nat} {cur : Array Value} {w : World} (h : Fill L n (Lib.nDigits n) (Lib.nDigits n) cap cur) (hc : L.length + Lib.nDigits n ≤ cap) (hm : cap ≤ maxLen) (hB : Blk w g 5 cur) (hb : base ≤ g) :
    Own w base (.slice (some ⟨g, 0, none⟩) (L.length + Lib.nDigits n) cap) (L ++ Lib.decDigits n) := by
  have e : (L ++ Lib.decDigits n).length = L.length + Lib.nDigits n := by rw [List.length_append, Lib.decDigits_length]
  refine ⟨by rw [bytesV_length, Nat.mul_one], .inr ⟨g, cap, cur, by rw [e], hb, hB, by rw [e]; exact hc, hm, by rw [h.size, Nat.mul_one], ?_⟩⟩
  rw [Nat.mul_one, e]
  exact asm_list cur L n (by rw [h.size]; exact hc) h.pre h.dig

theorem run_app_zeros {wr : World} {base g cap : Nat} {L : List UInt8} (ho : Own wr base (.slice (some ⟨g, 0, none⟩) L.length cap) L) (k : Nat) (hk : 0 < k) (hk9 : k ≤ 9) (hl : L.length ≤ 200000) (hg : cap < L.length + k) :
    ∃ cap' cur, (Builtin.append_ #[31, 3] 31 #[.slice (some ⟨g, 0, none⟩) L.length cap, .int .i64 k]).run Tryz.prog wr = .ok (.slice (some ⟨wr.heap.size, 0, none⟩) (L.length + k) cap') (wr.drew.alloc (.cells cur 5)) ∧
      L.length + k ≤ cap' ∧ cap' ≤ maxLen ∧ ∀ n d, Fill L n d 0 cap' cur := by
  obtain ⟨i0, hi, hz0, hz1, hz2⟩ := info_parts Tz.info5
  have hold : (Builtin.firstCells i0.size L.length (.slice (some ⟨g, 0, none⟩) L.length cap)).run Tryz.prog wr.drew = .ok (bytesV L).toArray wr.drew := by
    rw [hz1]
    refine run_firstCells_some _ 1 L.length ⟨g, 0, none⟩ _ _ (bytesV L) (by rw [bytesV_length, Nat.mul_one]) fun j v hv => ?_
    exact (ho.cells (g := g) rfl) j v hv
  refine ⟨_, _, Lib.run_append_grow_zeros wr 31 3 31 5 i0 (.int .u8 0) .i64 .i64 Tryz.underlying31 Tryz.underlying3 hi hz0 (some ⟨g, 0, none⟩) L.length cap (bytesV L) hold k hk (by omega) hg (by omega) (by rw [hz2]; omega) (by rw [hz2]; exact growslice_fits hg (by omega)), grownCap_ge _ _ _ _, grownCap_le_maxLen _ _ _ _ (by unfold maxLen; omega), ?_⟩
  intro n d
  have hge := grownCap_ge wr (L.length + k) cap 5
  refine ⟨?_, fun i hik => ?_, fun i hi => absurd hi (by omega)⟩
  · simp [Builtin.zeroCells, bytesV_length]
    have e1 : (Value.int IntKind.u8 0).cells.size = 1 := rfl
    rw [e1]; omega
  · rw [Array.append_assoc, Array.getElem?_append_left (by simp [bytesV_length]; exact hik)]
    simp

set_option maxHeartbeats 4000000 in
set_option maxRecDepth 100000 in
theorem ai9 (base : Nat) (v : Value) (l : List UInt8) (n : Nat) (hn : n ≤ 999999999) (w : World) (hown : Own w base v l) (hbase : base ≤ w.heap.size) (hl : l.length ≤ 100000) (hl0 : 1 ≤ l.length) :
    Calls Tryz.prog 220 #[v, .int .i64 n, .int .i64 9] w fun e w' => ∃ v', e = .returned v' ∧ Own w' base v' (l ++ digs 9 n) ∧ BK base w w' := by
  have hdg : digs 9 n = List.replicate (9 - Lib.nDigits n) 48 ++ Lib.decDigits n := by
    have := pad_digs 8 n (by omega)
    rw [← this]; unfold pad; rw [Lib.decDigits_length]
  have hnd : Lib.nDigits n ≤ 9 := by
    have := dec_len 8 n (by omega)
    rwa [Lib.decDigits_length] at this
  have hnp := Lib.nDigits_pos n
  rw [hdg]
  have HO := Lib.hid hown
  clear hown hdg
  have hcase : ∃ (b : Bool) (c0 : Nat), ((n : Int) == 0) = b ∧ c0 = (if b then 1 else 0) ∧ (n = 0 → c0 = Lib.nDigits n) ∧ (0 < n → c0 + Lib.nDigits n = Lib.nDigits n) ∧ c0 ≤ 9 := by
    by_cases h : n = 0
    · exact ⟨true, 1, by simp [h], rfl, fun h => by subst h; rw [Lib.nDigits_small (by omega)], by omega, by omega⟩
    · exact ⟨false, 0, by simp; omega, rfl, by omega, by omega, by omega⟩
  obtain ⟨b, c0, hb0, hc0, hst1, hst2, hst3⟩ := hcase
  have hstep : ∀ m c : Nat, 0 < m → c + Lib.nDigits m = Lib.nDigits n → (m / 10 = 0 → c + 1 = Lib.nDigits n) ∧ (0 < m / 10 → c + 1 + Lib.nDigits (m / 10) = Lib.nDigits n) := by
    intro m c hm h
    by_cases h10 : m < 10
    · rw [Lib.nDigits_small h10] at h; omega
    · rw [Lib.nDigits_big h10] at h; omega
  have HST := Lib.hid hstep
  have H0 := Lib.hid (And.intro hst1 (And.intro hst2 hst3))
  clear hstep hst1 hst2 hst3
  cases b
  all_goals
    simp only [if_true, if_false, Bool.false_eq_true] at hc0
    subst hc0
    go_enter Tryz.func220, Tryz.ntmps220
    go_wp2_with fail
    go_loop [9, 10] (fun c u => ∃ c' m : Nat, c = .int .i64 c' ∧ u = .int .u64 m ∧ Hid (m = 0 → c' = Lib.nDigits n) ∧ Hid (0 < m → c' + Lib.nDigits m = Lib.nDigits n) ∧ m ≤ 999999999 ∧ c' ≤ 9) (fun _ u => (intOf u).toNat)
    case atStart => exact ⟨_, n, rfl, rfl, Lib.hid H0.out.1, Lib.hid H0.out.2.1, hn, H0.out.2.2⟩
    case round =>
      obtain ⟨c', m, rfl, rfl, hm0, hm1, hmb, hcb⟩ := hrel
      by_cases hm : 0 < m
      · have hs := HST.out m c' hm (hm1.out hm)
        have HS := Lib.hid hs
        have hc9 : c' + 1 ≤ 9 := by have := hm1.out hm; have := Lib.nDigits_pos m; omega
        clear hs
        go_wp2_with fail
        go_round
        case rel => exact ⟨c' + 1, m / 10, by go_num, by apply int_eq; omega, Lib.hid HS.out.1, Lib.hid HS.out.2, by omega, hc9⟩
        case measure => simp [intOf]; omega
      · have hce : c' = Lib.nDigits n := hm0.out (by omega)
        have hm00 : m = 0 := by omega
        subst hce hm00
        clear hm0 hm1 hm HST H0
        go_wp2_with fail
        have HB := Lib.hid (BK.refl base w)
        go_loopw [0, 11] (fun dv p wr => ∃ (j : Nat), p = .int .i64 (9 - (Lib.nDigits n : Int) - j) ∧ j ≤ 9 - Lib.nDigits n ∧ Hid (Own wr base dv (l ++ List.replicate j 48)) ∧ Hid (BK base w wr))
          (fun _ p _ => (intOf p).toNat)
        case atStart => exact ⟨0, by simp, by omega, by simpa using HO, HB⟩
        case round =>
          obtain ⟨j, rfl, hj, ho, hbk⟩ := hrel
          rename_i dv _ wr
          have hsz := hbk.out.size
          by_cases hc : j < 9 - Lib.nDigits n
          · have hnl : (l ++ List.replicate j (48 : UInt8)).length ≤ 200000 := by simp; omega
            go_wp2_with (at_builtin; refine wpList_app rfl _ _ rfl base _ (l ++ List.replicate j 48) rfl ho.out _ [48] rfl 1 rfl rfl (by omega) (by omega) ?_; intro v1 w1 ho1 hb1; have H1 := Lib.hid ho1; have HB1 := Lib.hid (hbk.out.trans hb1); clear ho1 hb1)
            go_roundw
            case rel =>
              refine ⟨j + 1, by apply int_eq; omega, by omega, ?_, HB1⟩
              have := H1.out
              rw [List.append_assoc, ← List.replicate_succ'] at this
              exact Lib.hid this
            case measure => simp [intOf]; omega
          · obtain rfl : j = 9 - Lib.nDigits n := by omega
            have hL : ∃ L : List UInt8, l ++ List.replicate (9 - Lib.nDigits n) 48 = L ∧ 1 ≤ L.length ∧ L.length ≤ 200000 := ⟨_, rfl, by simp; omega, by simp; omega⟩
            obtain ⟨L, hLe, hL1, hL2⟩ := hL
            rw [hLe] at ho
            have HL := Lib.hid hLe
            clear hLe
            rcases ho.out.2 with ⟨_, h0⟩ | ⟨g, cap, cur, rfl, hbg, hh, hle, hmx, hcs, htk⟩
            · omega
            have HHH := Lib.hid hh
            have HCS := Lib.hid hcs
            have HTK := Lib.hid htk
            have hmx2 : cap ≤ 9223372036854775807 := hmx
            clear hh hcs htk hmx
            have hf0 : Fill L n (Lib.nDigits n) 0 cap cur := ⟨by rw [HCS.out, Nat.mul_one], fun k hk => by
              have := HTK.out
              rw [← this, List.getElem?_take, if_pos (by omega), Array.getElem?_toList], fun i hi => absurd hi (by omega)⟩
            have HF0 := Lib.hid hf0
            clear HTK hf0
            by_cases hroom : L.length + Lib.nDigits n ≤ cap
            · have hdec : decide ((L.length : Int) + (Lib.nDigits n : Int) ≤ (cap : Int)) = true := by simp; omega
              go_wp2_with fail
              have HBL := HHH
              have HF := HF0
              have HBK := hbk
              go_loopw [7, 12, 13] (fun u i _ wr' => ∃ (j p : Nat) (cur' : Array Value), u = .int .u64 ((n / 10 ^ j : Nat) : Int) ∧ i = .int .i64 p ∧ p + j = L.length + Lib.nDigits n - 1 ∧ j < Lib.nDigits n ∧ Hid (Blk wr' g 5 cur') ∧ Hid (Fill L n (Lib.nDigits n) j cap cur') ∧ Hid (BK base w wr'))
                (fun u _ _ _ => (intOf u).toNat)
              case atStart => exact ⟨0, L.length + Lib.nDigits n - 1, cur, by simp, by apply int_eq; omega, by omega, by omega, HBL, HF, HBK⟩
              case round =>
                obtain ⟨j, p, cur', rfl, rfl, hpj, hjd, hbl, hfl, hbk2⟩ := hrel
                obtain ⟨m, hm⟩ : ∃ m : Nat, n / 10 ^ j = m := ⟨_, rfl⟩
                have hmle : m ≤ 999999999 := by rw [← hm]; exact Nat.le_trans (Nat.div_le_self _ _) hn
                have hns := nd_step n j hjd
                rw [hm] at hns ⊢
                have hdgj : ((Lib.dg n j).toNat : Int) = 48 + ((m % 10 : Nat) : Int) := by
                  unfold Lib.dg; rw [hm, UInt8.toNat_ofNat']; omega
                have hm1 : n / 10 ^ (j + 1) = m / 10 := by rw [Nat.pow_succ, ← Nat.div_div_eq_div_mul, hm]
                have hpc : p < cur'.size := by rw [hfl.out.size]; omega
                have hcp := (hbl.out.cell p).trans (Array.getElem?_eq_getElem hpc)
                have hfp := hbl.out.frozen p
                have HM1 := Lib.hid hm1
                have HDG := Lib.hid hdgj
                clear hm hm1 hdgj
                by_cases h10 : 10 ≤ m
                · have hj1 : j + 1 < Lib.nDigits n := hns.1 h10
                  have hp0 : 0 < p := by omega
                  clear hns
                  go_wp2_with (go_at_call 236; refine (utod_any _ (by omega) (by omega) _).mono ?_; rintro e w' ⟨rfl, rfl⟩)
                  go_roundw
                  case rel =>
                    refine ⟨j + 1, p - 1, cur'.setIfInBounds p (.int .u8 (48 + ((m : Int) - (m : Int) / 10 * 10))), ?_, by apply int_eq; omega, by omega, hj1, Lib.hid (hbl.out.set_ p _), Lib.hid (hfl.out.step (by omega) hjd (by omega) _ ?_), ?_⟩
                    · rw [HM1.out]; apply int_eq; omega
                    · rw [HDG.out]; apply int_eq; omega
                    · exact Lib.hid ⟨hbk2.out.below.setCell (by simp; omega) _, fun g' t' cs' ht' hb' => (hbk2.out.other g' t' cs' ht' hb').far (fun e => ht' (by
                        have e2 : g' = g := e
                        subst e2
                        exact (Blk.uniq (hbk2.out.other _ t' cs' ht' hb') hbl.out).1)) _⟩
                  case measure => simp [intOf]; omega
                · have hj1 : j + 1 = Lib.nDigits n := by omega
                  clear hns
                  go_wp2_with (go_at_call 236; refine (utod_any _ (by omega) (by omega) _).mono ?_; rintro e w' ⟨rfl, rfl⟩)
                  have hfin := (hfl.out.step (p := p) (by omega) hjd (by omega) (.int .u8 (48 + (m : Int))) (by rw [HDG.out]; apply int_eq; omega))
                  rw [hj1] at hfin
                  have hown := hfin.own (base := base) (by omega) (by unfold maxLen; omega) (hbl.out.set_ p (.int .u8 (48 + (m : Int)))) (by omega)
                  have HOW := Lib.hid hown
                  clear hown hfin
                  go_ret
                  refine ⟨_, rfl, ?_, ?_⟩
                  · rw [← List.append_assoc, HL.out]; exact HOW.out
                  · exact ⟨hbk2.out.below.setCell (by simp; omega) _, fun g' t' cs' ht' hb' => (hbk2.out.other g' t' cs' ht' hb').far (fun e => ht' (by
                        have e2 : g' = g := e
                        subst e2
                        exact (Blk.uniq (hbk2.out.other _ t' cs' ht' hb') hbl.out).1)) _⟩
            · obtain ⟨cap', cur2, hrun, hr1, hr2, hr3⟩ := run_app_zeros ho.out (Lib.nDigits n) (by omega) hnd hL2 (by omega)
              have hr22 : cap' ≤ 9223372036854775807 := hr2
              have HRUN := Lib.hid hrun
              have HF := Lib.hid (hr3 n (Lib.nDigits n))
              have hB2 : Blk ((wr.alloc (.cells cur2 5)).drew) wr.heap.size 5 cur2 := (Blk.new wr 5 cur2).drew
              have HBL := Lib.hid hB2
              have hbk3 : BK base w ((wr.alloc (.cells cur2 5)).drew) := hbk.out.trans (BK.of_below ((Below.refl _ _).alloc (Nat.le_refl _) _).drew (by omega))
              have HBK := Lib.hid hbk3
              have hb7 : base ≤ wr.heap.size := by omega
              have hdec : decide ((L.length : Int) + (Lib.nDigits n : Int) ≤ (cap : Int)) = false := by simp; omega
              clear hrun hr3 hB2 hbk3 hr2
              go_wp2_with (at_builtin; refine Lib.wpList_append_run _ rfl _ _ _ _ rfl _ _ rfl rfl _ _ HRUN.out ?_)
              generalize (wr.alloc (.cells cur2 5)).drew = w7 at HBL HBK ⊢
              generalize wr.heap.size = g7 at HBL hb7 ⊢
              go_loopw [7, 12, 13] (fun u i _ wr' => ∃ (j p : Nat) (cur' : Array Value), u = .int .u64 ((n / 10 ^ j : Nat) : Int) ∧ i = .int .i64 p ∧ p + j = L.length + Lib.nDigits n - 1 ∧ j < Lib.nDigits n ∧ Hid (Blk wr' g7 5 cur') ∧ Hid (Fill L n (Lib.nDigits n) j cap' cur') ∧ Hid (BK base w wr'))
                (fun u _ _ _ => (intOf u).toNat)
              case atStart => exact ⟨0, L.length + Lib.nDigits n - 1, cur2, by simp, by apply int_eq; omega, by omega, by omega, HBL, HF, HBK⟩
              case round =>
                obtain ⟨j, p, cur', rfl, rfl, hpj, hjd, hbl, hfl, hbk2⟩ := hrel
                obtain ⟨m, hm⟩ : ∃ m : Nat, n / 10 ^ j = m := ⟨_, rfl⟩
                have hmle : m ≤ 999999999 := by rw [← hm]; exact Nat.le_trans (Nat.div_le_self _ _) hn
                have hns := nd_step n j hjd
                rw [hm] at hns ⊢
                have hdgj : ((Lib.dg n j).toNat : Int) = 48 + ((m % 10 : Nat) : Int) := by
                  unfold Lib.dg; rw [hm, UInt8.toNat_ofNat']; omega
                have hm1 : n / 10 ^ (j + 1) = m / 10 := by rw [Nat.pow_succ, ← Nat.div_div_eq_div_mul, hm]
                have hpc : p < cur'.size := by rw [hfl.out.size]; omega
                have hcp := (hbl.out.cell p).trans (Array.getElem?_eq_getElem hpc)
                have hfp := hbl.out.frozen p
                have HM1 := Lib.hid hm1
                have HDG := Lib.hid hdgj
                clear hm hm1 hdgj
                by_cases h10 : 10 ≤ m
                · have hj1 : j + 1 < Lib.nDigits n := hns.1 h10
                  have hp0 : 0 < p := by omega
                  clear hns
                  go_wp2_with (go_at_call 236; refine (utod_any _ (by omega) (by omega) _).mono ?_; rintro e w' ⟨rfl, rfl⟩)
                  go_roundw
                  case rel =>
                    refine ⟨j + 1, p - 1, cur'.setIfInBounds p (.int .u8 (48 + ((m : Int) - (m : Int) / 10 * 10))), ?_, by apply int_eq; omega, by omega, hj1, Lib.hid (hbl.out.set_ p _), Lib.hid (hfl.out.step (by omega) hjd (by omega) _ ?_), ?_⟩
                    · rw [HM1.out]; apply int_eq; omega
                    · rw [HDG.out]; apply int_eq; omega
                    · exact Lib.hid ⟨hbk2.out.below.setCell (by simp; omega) _, fun g' t' cs' ht' hb' => (hbk2.out.other g' t' cs' ht' hb').far (fun e => ht' (by
                        have e2 : g' = g7 := e
                        subst e2
                        exact (Blk.uniq (hbk2.out.other _ t' cs' ht' hb') hbl.out).1)) _⟩
                  case measure => simp [intOf]; omega
                · have hj1 : j + 1 = Lib.nDigits n := by omega
                  clear hns
                  go_wp2_with (go_at_call 236; refine (utod_any _ (by omega) (by omega) _).mono ?_; rintro e w' ⟨rfl, rfl⟩)
                  have hfin := (hfl.out.step (p := p) (by omega) hjd (by omega) (.int .u8 (48 + (m : Int))) (by rw [HDG.out]; apply int_eq; omega))
                  rw [hj1] at hfin
                  have hown := hfin.own (base := base) (by omega) (by unfold maxLen; omega) (hbl.out.set_ p (.int .u8 (48 + (m : Int)))) (by omega)
                  have HOW := Lib.hid hown
                  clear hown hfin
                  go_ret
                  refine ⟨_, rfl, ?_, ?_⟩
                  · rw [← List.append_assoc, HL.out]; exact HOW.out
                  · exact ⟨hbk2.out.below.setCell (by simp; omega) _, fun g' t' cs' ht' hb' => (hbk2.out.other g' t' cs' ht' hb').far (fun e => ht' (by
                        have e2 : g' = g7 := e
                        subst e2
                        exact (Blk.uniq (hbk2.out.other _ t' cs' ht' hb') hbl.out).1)) _⟩
end Go.Proofs.Zap
