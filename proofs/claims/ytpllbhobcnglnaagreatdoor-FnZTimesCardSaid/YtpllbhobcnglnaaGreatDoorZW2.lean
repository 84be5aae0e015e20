/- a text of the claims over the seat; its order and aim: NOTES.md -/
import Derived.Test.YtpllbhobcnglnaaGreatDoorZW1
import Derived.Test.YtpllbhobcnglnaaGreatDoorZDecode
import Derived.Test.YtpllbhobcnglnaaGreatDoorZ2
namespace Go.Proofs.Zap
open Go Go.Proofs Go.RowKit


theorem appendBytesN (m : Nat) (U base : Nat) (l : List UInt8) (ad : Addr) (c : Nat) (x : List UInt8) (w : World) (hm : x.length = m) (hb : Buf w base U l) (hl : l.length + x.length < 1000000000)
    (hx : ∀ j u, (bytesV x)[j]? = some u → w.cell? (ad.add j) = some u) :
    Calls Tryz.prog 174 #[.pointer (some ⟨U, 0, none⟩), .slice (some ad) m c] w fun e w' => e = .returned (.tuple #[]) ∧ Buf w' base U (l ++ x) ∧ Keep base U w w' := by
  subst hm; exact appendBytes_any U base l ad c x w hb hl hx

theorem add_lit' (b o j : Nat) : (⟨b, o, none⟩ : Addr).add j = ⟨b, o + j, none⟩ := by unfold Addr.add; split <;> simp_all

/-- a piece of the bytes that came in, as cells -/
theorem piece_cells {s : ByteArray} {wr : World} {b j k : Nat} (hc : ∀ i, i < s.size → wr.cell? ⟨b, i, none⟩ = some (.int .u8 (s.get! i).toNat)) (hk : k ≤ s.size) :
    ∀ i u, (bytesV ((s.data.toList.drop j).take (k - j)))[i]? = some u → wr.cell? ((⟨b, j, none⟩ : Addr).add i) = some u := by
  intro i u hu
  rw [add_lit']
  simp only [bytesV, List.getElem?_map, Option.map_eq_some_iff] at hu
  obtain ⟨c, hc1, rfl⟩ := hu
  rw [List.getElem?_take] at hc1
  split at hc1
  · rename_i hi
    rw [List.getElem?_drop] at hc1
    have hlt : j + i < s.size := by omega
    rw [hc _ hlt, get!_list, List.getD_eq_getElem?_getD, hc1]; rfl
  · cases hc1

theorem piece_len (s : ByteArray) {j k : Nat} (hk : k ≤ s.size) : ((s.data.toList.drop j).take (k - j)).length = k - j := by
  rw [List.length_take, List.length_drop, Array.length_toList]
  have : s.data.size = s.size := rfl
  omega

theorem Buf.assoc {w : World} {base U : Nat} {l o x y : List UInt8} (h : Buf w base U (l ++ o ++ x ++ y)) : Buf w base U (l ++ (o ++ x ++ y)) := by
  simpa only [List.append_assoc] using h

set_option maxHeartbeats 12000000 in
set_option maxRecDepth 100000 in
theorem safeAppendB_any (U base b cp : Nat) (l : List UInt8) (s : ByteArray) (w : World) (hT : Tabs w) (hU13 : 13 ≤ U) (hb : Buf w base U l) (hl : l.length ≤ 100000) (hs : s.size ≤ 100000)
    (hbb : b < base) (hbU : b ≠ U) (hcp : s.size ≤ cp) (hcpm : cp ≤ 9223372036854775807)
    (hcell : ∀ j, j < s.size → w.cell? ⟨b, j, none⟩ = some (.int .u8 (s.get! j).toNat)) :
    Calls Tryz.prog 173 #[.func (.func 174) #[] #[], .func (.func 175) #[] #[], .pointer (some ⟨U, 0, none⟩), .slice (some ⟨b, 0, none⟩) s.size cp] w fun e w' =>
      e = .returned (.tuple #[]) ∧ Buf w' base U (l ++ esc s.data.toList) ∧ Keep base U w w' := by
  have hUb := hb.1
  have HC := Lib.hid hcell
  clear hcell
  go_enter Tryz.func173, Tryz.ntmps173
  go_wp2_with fail
  go_loopw [8, 9] (fun last i wr => ∃ (k j : Nat) (o : List UInt8), i = .int .i64 k ∧ last = .int .i64 j ∧ Rel s.data.toList o k j ∧ Buf wr base U (l ++ o) ∧ Keep base U w wr)
    (fun _ i _ => s.size - (intOf i).toNat)
  case atStart => exact ⟨0, 0, [], rfl, rfl, Rel.start _, by simpa using hb, Keep.refl _ _ _⟩
  case round =>
    obtain ⟨k, j, o, rfl, rfl, hrel, hbuf, hkeep⟩ := hrel
    have hjk : j ≤ k := hrel.1
    have hol := hrel.len
    have hSl : s.data.toList.length = s.size := by rw [Array.length_toList]; rfl
    have hl2 : (l ++ o).length + (k - j) ≤ 700000 := by rw [List.length_append]; omega
    have hbB : base ≤ wr.heap.size := hbuf.2.1
    have hTr := hT.keep hkeep hU13 hUb
    have HR := Lib.hid hrel
    clear hrel hol
    have HCr := Lib.hid (fun j (hj : j < s.size) => (hkeep.cell (o := j) hbb hbU).trans (HC.out j hj))
    by_cases hlt : k < s.size
    · obtain ⟨x, hx⟩ : ∃ x, s.get! k = x := ⟨_, rfl⟩
      have hck : wr.cell? ⟨b, k, none⟩ = some (.int .u8 x.toNat) := by rw [← hx]; exact HCr.out k hlt
      have hkc : k < cp := by omega
      have hjc : j < cp := by omega
      have HX := Lib.hid hx
      clear hx
      have hxS : s.data.toList[k]'(by omega) = x := by
        have := HX.out; rw [get!_list, List.getD_eq_getElem?_getD, List.getElem?_eq_getElem (by omega)] at this; exact this
      have HXS := Lib.hid hxS
      clear hxS
      by_cases h128 : 128 ≤ x.toNat
      · obtain ⟨r, n, hd⟩ : ∃ r n, dec (s.data.toList.drop k) = (r, n) := ⟨_, _, rfl⟩
        have c61 := decodeRune_any (s.extract k s.size) b k (cp - k) wr hTr.1 (fun i hi => by
          have hi' : k + i < s.size := by simp at hi; omega
          rw [HCr.out _ hi', get!_list, get!_list, Lib.extract_to_end, List.getD_eq_getElem?_getD, List.getD_eq_getElem?_getD, List.getElem?_drop])
        rw [dec_go s k hlt, hd, show (s.extract k s.size).size = s.size - k by simp] at c61
        simp only at c61
        have hn1 : 1 ≤ n := by have := dec_pos (s.data.toList.drop k); rw [hd] at this; exact this
        have hn2 : k + n ≤ s.size := by
          have := dec_le (l := s.data.toList.drop k) (by intro h; have := congrArg List.length h; simp at this; omega)
          rw [hd, List.length_drop] at this; simp only at this; omega
        have HD := Lib.hid hd
        clear hd
        have C61 := Lib.hid c61
        clear c61
        go_wp2_with fail
        refine C61.out.mono ?_
        rintro e w1 ⟨rfl, hbel⟩
        have hbuf1 := hbuf.below hbel
        have hkeep1 : Keep base U w w1 := hkeep.trans (Keep.below hbel hbB)
        have hck1 : w1.cell? ⟨b, k, none⟩ = some (.int .u8 x.toNat) := (hbel.cell (p := ⟨b, k, none⟩) (show b < wr.heap.size by omega)).trans hck
        by_cases hg : good (s.data.toList.drop k) = true
        · have step : Rel s.data.toList o (k + n) j := by
            refine HR.out.skip hn1 (by omega) ?_
            have := esc_good (S := s.data.toList) (i := k) (by omega) (by rw [HXS.out]; exact h128) hg
            rw [HD.out] at this; exact this
          have HS := Lib.hid step
          by_cases hr : r = 65533
          · have hn : ((n : Int) != 1) = true := by
              rw [good_eq, HD.out] at hg; simp [hr] at hg; simp; omega
            have hr' : ((r : Int) != 65533) = false := by simp [hr]
            clear hg step C61 hr
            go_wp2_with fail
            exact ⟨⟨k + n, j, o, by go_num, rfl, HS.out, hbuf1, hkeep1⟩, by simp [intOf]; omega⟩
          · have hr' : ((r : Int) != 65533) = true := by simp; omega
            clear hg step C61 hr
            go_wp2_with fail
            exact ⟨⟨k + n, j, o, by go_num, rfl, HS.out, hbuf1, hkeep1⟩, by simp [intOf]; omega⟩
        · have hrn : r = 65533 ∧ n = 1 := by rw [good_eq, HD.out] at hg; simpa using hg
          obtain ⟨rfl, rfl⟩ := hrn
          have HS := Lib.hid (HR.out.flush (by omega) (esc_bad (S := s.data.toList) (i := k) (by omega) (by rw [HXS.out]; exact h128) (by simpa using hg)))
          have HC1 := Lib.hid (fun i (hi : i < s.size) => (hkeep1.cell (o := i) hbb hbU).trans (HC.out i hi))
          have hpl := piece_len s (j := j) (k := k) (by omega)
          have HPL := Lib.hid hpl
          clear hg C61 hn1 hpl
          go_wp2_with fail
          refine (appendBytesN (k - j) U base (l ++ o) ⟨b, j, none⟩ _ ((s.data.toList.drop j).take (k - j)) _ HPL.out hbuf1 (by rw [HPL.out]; omega) (piece_cells HC1.out (by omega))).mono ?_
          rintro e w2 ⟨rfl, hbuf2, hkeep2⟩
          go_wp2_with fail
          refine (appendString_any U base _ ⟨#[92, 117, 102, 102, 102, 100]⟩ _ hbuf2 (by
            have : (⟨#[92, 117, 102, 102, 102, 100]⟩ : ByteArray).size = 6 := rfl
            rw [List.length_append, HPL.out]; omega)).mono ?_
          rintro e w3 ⟨rfl, hbuf3, hkeep3⟩
          have hbuf4 := hbuf3.assoc
          have hkeep4 := (hkeep1.trans hkeep2).trans hkeep3
          clear hbuf3 hbuf2 hbuf1 hkeep3 hkeep2 hkeep1
          go_wp2_with fail
          exact ⟨⟨k + 1, k + 1, _, by go_num, by go_num, HS.out, hbuf4, hkeep4⟩, by simp [intOf]; omega⟩
      · have hlt128 : x.toNat < 128 := by omega
        have hpl := piece_len s (j := j) (k := k) (by omega)
        have HPL := Lib.hid hpl
        clear hpl
        by_cases hp : plainB x = true
        · have HS := Lib.hid (HR.out.skip (n := 1) (by omega) (by omega) (esc_plain (S := s.data.toList) (i := k) (by omega) (by rw [HXS.out]; exact hlt128) (by rw [HXS.out]; exact hp)))
          obtain ⟨h32, h92, h34⟩ := plainB_facts hp
          clear hp
          go_wp2_with fail
          exact ⟨⟨k + 1, j, o, by go_num, rfl, HS.out, hbuf, hkeep⟩, by simp [intOf]; omega⟩
        · have hS0 := HR.out.flush (by omega) (esc_escB (S := s.data.toList) (i := k) (by omega) (by rw [HXS.out]; exact hlt128) (by rw [HXS.out]; exact (Bool.not_eq_true _).mp hp))
          rw [HXS.out] at hS0
          have HS := Lib.hid hS0
          clear hS0
          have HCALL := Lib.hid (fun (w2 : World) (hk2 : Keep base U wr w2) => (hk2.cell (o := k) hbb hbU).trans hck)
          have HF := Lib.hid (piece_cells (j := j) (k := k) HCr.out (by omega))
          by_cases h1 : x.toNat = 92 ∨ x.toNat = 34
          · rcases h1 with h1 | h1
            · have HS2 := HS.out
              rw [esc_c92 h1] at HS2
              have HS3 := Lib.hid HS2
              clear HS2 HS hp
              go_wp2_with fail
              refine (appendBytesN (k - j) U base (l ++ o) ⟨b, j, none⟩ _ ((s.data.toList.drop j).take (k - j)) _ HPL.out hbuf (by rw [HPL.out]; omega) HF.out).mono ?_
              rintro e w2 ⟨rfl, hbuf2, hkeep2⟩
              have hck2 := HCALL.out w2 hkeep2
              have hl3 : (l ++ o ++ (s.data.toList.drop j).take (k - j)).length ≤ 700000 := by rw [List.length_append, HPL.out]; omega
              go_wp2_with fail
              refine (appendByteN _ U base _ 92 rfl _ hbuf2 (by omega)).mono ?_
              rintro e w3 ⟨rfl, hbuf3, hkeep3⟩
              have hck3 := HCALL.out w3 (hkeep2.trans hkeep3)
              go_wp2_with fail
              refine (appendByteN _ U base _ 92 rfl _ hbuf3 (by rw [List.length_append]; simp only [List.length_cons, List.length_nil]; omega)).mono ?_
              rintro e w4 ⟨rfl, hbuf4, hkeep4⟩
              have hbuf6 := hbuf4.two.assoc
              have hkeep6 := ((hkeep.trans hkeep2).trans hkeep3).trans hkeep4
              clear hbuf4 hbuf3 hbuf2 hkeep2 hkeep3 hkeep4
              go_wp2_with fail
              exact ⟨⟨k + 1, k + 1, _, by go_num, by go_num, HS3.out, hbuf6, hkeep6⟩, by simp [intOf]; omega⟩
            · have HS2 := HS.out
              rw [esc_c34 h1] at HS2
              have HS3 := Lib.hid HS2
              clear HS2 HS hp
              go_wp2_with fail
              refine (appendBytesN (k - j) U base (l ++ o) ⟨b, j, none⟩ _ ((s.data.toList.drop j).take (k - j)) _ HPL.out hbuf (by rw [HPL.out]; omega) HF.out).mono ?_
              rintro e w2 ⟨rfl, hbuf2, hkeep2⟩
              have hck2 := HCALL.out w2 hkeep2
              have hl3 : (l ++ o ++ (s.data.toList.drop j).take (k - j)).length ≤ 700000 := by rw [List.length_append, HPL.out]; omega
              go_wp2_with fail
              refine (appendByteN _ U base _ 92 rfl _ hbuf2 (by omega)).mono ?_
              rintro e w3 ⟨rfl, hbuf3, hkeep3⟩
              have hck3 := HCALL.out w3 (hkeep2.trans hkeep3)
              go_wp2_with fail
              refine (appendByteN _ U base _ 34 rfl _ hbuf3 (by rw [List.length_append]; simp only [List.length_cons, List.length_nil]; omega)).mono ?_
              rintro e w4 ⟨rfl, hbuf4, hkeep4⟩
              have hbuf6 := hbuf4.two.assoc
              have hkeep6 := ((hkeep.trans hkeep2).trans hkeep3).trans hkeep4
              clear hbuf4 hbuf3 hbuf2 hkeep2 hkeep3 hkeep4
              go_wp2_with fail
              exact ⟨⟨k + 1, k + 1, _, by go_num, by go_num, HS3.out, hbuf6, hkeep6⟩, by simp [intOf]; omega⟩
          · by_cases h2 : x.toNat = 10
            · have HS2 := HS.out
              rw [esc_c10 h2] at HS2
              have HS3 := Lib.hid HS2
              clear HS2 HS hp h1
              go_wp2_with fail
              refine (appendBytesN (k - j) U base (l ++ o) ⟨b, j, none⟩ _ ((s.data.toList.drop j).take (k - j)) _ HPL.out hbuf (by rw [HPL.out]; omega) HF.out).mono ?_
              rintro e w2 ⟨rfl, hbuf2, hkeep2⟩
              have hck2 := HCALL.out w2 hkeep2
              have hl3 : (l ++ o ++ (s.data.toList.drop j).take (k - j)).length ≤ 700000 := by rw [List.length_append, HPL.out]; omega
              go_wp2_with fail
              refine (appendByteN _ U base _ 92 rfl _ hbuf2 (by omega)).mono ?_
              rintro e w3 ⟨rfl, hbuf3, hkeep3⟩
              have hck3 := HCALL.out w3 (hkeep2.trans hkeep3)
              go_wp2_with fail
              refine (appendByteN _ U base _ 110 rfl _ hbuf3 (by rw [List.length_append]; simp only [List.length_cons, List.length_nil]; omega)).mono ?_
              rintro e w4 ⟨rfl, hbuf4, hkeep4⟩
              have hbuf6 := hbuf4.two.assoc
              have hkeep6 := ((hkeep.trans hkeep2).trans hkeep3).trans hkeep4
              clear hbuf4 hbuf3 hbuf2 hkeep2 hkeep3 hkeep4
              go_wp2_with fail
              exact ⟨⟨k + 1, k + 1, _, by go_num, by go_num, HS3.out, hbuf6, hkeep6⟩, by simp [intOf]; omega⟩
            · by_cases h3 : x.toNat = 13
              · have HS2 := HS.out
                rw [esc_c13 h3] at HS2
                have HS3 := Lib.hid HS2
                clear HS2 HS hp h1
                go_wp2_with fail
                refine (appendBytesN (k - j) U base (l ++ o) ⟨b, j, none⟩ _ ((s.data.toList.drop j).take (k - j)) _ HPL.out hbuf (by rw [HPL.out]; omega) HF.out).mono ?_
                rintro e w2 ⟨rfl, hbuf2, hkeep2⟩
                have hck2 := HCALL.out w2 hkeep2
                have hl3 : (l ++ o ++ (s.data.toList.drop j).take (k - j)).length ≤ 700000 := by rw [List.length_append, HPL.out]; omega
                go_wp2_with fail
                refine (appendByteN _ U base _ 92 rfl _ hbuf2 (by omega)).mono ?_
                rintro e w3 ⟨rfl, hbuf3, hkeep3⟩
                have hck3 := HCALL.out w3 (hkeep2.trans hkeep3)
                go_wp2_with fail
                refine (appendByteN _ U base _ 114 rfl _ hbuf3 (by rw [List.length_append]; simp only [List.length_cons, List.length_nil]; omega)).mono ?_
                rintro e w4 ⟨rfl, hbuf4, hkeep4⟩
                have hbuf6 := hbuf4.two.assoc
                have hkeep6 := ((hkeep.trans hkeep2).trans hkeep3).trans hkeep4
                clear hbuf4 hbuf3 hbuf2 hkeep2 hkeep3 hkeep4
                go_wp2_with fail
                exact ⟨⟨k + 1, k + 1, _, by go_num, by go_num, HS3.out, hbuf6, hkeep6⟩, by simp [intOf]; omega⟩
              · by_cases h4 : x.toNat = 9
                · have HS2 := HS.out
                  rw [esc_c9 h4] at HS2
                  have HS3 := Lib.hid HS2
                  clear HS2 HS hp h1
                  go_wp2_with fail
                  refine (appendBytesN (k - j) U base (l ++ o) ⟨b, j, none⟩ _ ((s.data.toList.drop j).take (k - j)) _ HPL.out hbuf (by rw [HPL.out]; omega) HF.out).mono ?_
                  rintro e w2 ⟨rfl, hbuf2, hkeep2⟩
                  have hck2 := HCALL.out w2 hkeep2
                  have hl3 : (l ++ o ++ (s.data.toList.drop j).take (k - j)).length ≤ 700000 := by rw [List.length_append, HPL.out]; omega
                  go_wp2_with fail
                  refine (appendByteN _ U base _ 92 rfl _ hbuf2 (by omega)).mono ?_
                  rintro e w3 ⟨rfl, hbuf3, hkeep3⟩
                  have hck3 := HCALL.out w3 (hkeep2.trans hkeep3)
                  go_wp2_with fail
                  refine (appendByteN _ U base _ 116 rfl _ hbuf3 (by rw [List.length_append]; simp only [List.length_cons, List.length_nil]; omega)).mono ?_
                  rintro e w4 ⟨rfl, hbuf4, hkeep4⟩
                  have hbuf6 := hbuf4.two.assoc
                  have hkeep6 := ((hkeep.trans hkeep2).trans hkeep3).trans hkeep4
                  clear hbuf4 hbuf3 hbuf2 hkeep2 hkeep3 hkeep4
                  go_wp2_with fail
                  exact ⟨⟨k + 1, k + 1, _, by go_num, by go_num, HS3.out, hbuf6, hkeep6⟩, by simp [intOf]; omega⟩
                · have h32 : x.toNat < 32 := plainB_not hp h1
                  have a1 : ((x.toNat : Int) == 92) = false := by rw [beq_eq_false_iff_ne]; omega
                  have a2 : ((x.toNat : Int) == 34) = false := by rw [beq_eq_false_iff_ne]; omega
                  have a3 : ((x.toNat : Int) == 10) = false := by rw [beq_eq_false_iff_ne]; omega
                  have a4 : ((x.toNat : Int) == 13) = false := by rw [beq_eq_false_iff_ne]; omega
                  have a5 : ((x.toNat : Int) == 9) = false := by rw [beq_eq_false_iff_ne]; omega
                  have HS2 := HS.out
                  rw [escByte_hex a1 a2 a3 a4 a5] at HS2
                  have HS3 := Lib.hid HS2
                  clear hp h1 HS2 HS
                  go_wp2_with fail
                  refine (appendBytesN (k - j) U base (l ++ o) ⟨b, j, none⟩ _ ((s.data.toList.drop j).take (k - j)) _ HPL.out hbuf (by rw [HPL.out]; omega) HF.out).mono ?_
                  rintro e w2 ⟨rfl, hbuf2, hkeep2⟩
                  have hck2 := HCALL.out w2 hkeep2
                  have hl3 : (l ++ o ++ (s.data.toList.drop j).take (k - j)).length ≤ 700000 := by rw [List.length_append, HPL.out]; omega
                  go_wp2_with fail
                  refine (appendString_any U base _ ⟨#[92, 117, 48, 48]⟩ _ hbuf2 (by
                    have : (⟨#[92, 117, 48, 48]⟩ : ByteArray).size = 4 := rfl
                    omega)).mono ?_
                  rintro e w3 ⟨rfl, hbuf3, hkeep3⟩
                  have hck3 := HCALL.out w3 (hkeep2.trans hkeep3)
                  go_wp2_with fail
                  refine (appendByte_any U base _ _ _ hbuf3 (by simp only [List.length_append, List.length_cons, List.length_nil] at hl3 ⊢; omega)).mono ?_
                  rintro e w4 ⟨rfl, hbuf4, hkeep4⟩
                  rw [hex_at] at hbuf4
                  have hck4 := HCALL.out w4 ((hkeep2.trans hkeep3).trans hkeep4)
                  go_wp2_with fail
                  refine (appendByte_any U base _ _ _ hbuf4 (by simp only [List.length_append, List.length_cons, List.length_nil] at hl3 ⊢; omega)).mono ?_
                  rintro e w5 ⟨rfl, hbuf5, hkeep5⟩
                  rw [hex_at, List.append_assoc _ [92, 117, 48, 48], List.append_assoc _ ([92, 117, 48, 48] ++ _)] at hbuf5
                  have hbuf6 := hbuf5.assoc
                  have hkeep6 := (((hkeep.trans hkeep2).trans hkeep3).trans hkeep4).trans hkeep5
                  clear hbuf5 hbuf4 hbuf3 hbuf2 hkeep2 hkeep3 hkeep4 hkeep5
                  go_wp2_with fail
                  exact ⟨⟨k + 1, k + 1, _, by go_num, by go_num, HS3.out, hbuf6, hkeep6⟩, by simp [intOf]; omega⟩
    · obtain rfl : k = s.size := by have := HR.out.2.1; omega
      have hfin := HR.out
      rw [← hSl] at hfin
      have hfin := hfin.done
      have hpl := piece_len s (j := j) (k := s.size) (Nat.le_refl _)
      have hpe : (s.data.toList.drop j).take (s.size - j) = s.data.toList.drop j := by rw [List.take_of_length_le]; rw [List.length_drop]; omega
      have HPL := Lib.hid hpl
      have HPE := Lib.hid hpe
      have HF := Lib.hid (piece_cells (j := j) (k := s.size) HCr.out (Nat.le_refl _))
      have HFIN := Lib.hid hfin
      clear hpl hpe hfin
      by_cases hjc : j < cp
      · go_wp2_with fail
        refine (appendBytesN (s.size - j) U base (l ++ o) ⟨b, j, none⟩ _ ((s.data.toList.drop j).take (s.size - j)) _ HPL.out hbuf (by rw [HPL.out]; omega) HF.out).mono ?_
        rintro e w2 ⟨rfl, hbuf2, hkeep2⟩
        rw [HPE.out, List.append_assoc, HFIN.out] at hbuf2
        have H := Lib.hid hbuf2
        have HK := Lib.hid (hkeep.trans hkeep2)
        clear hbuf2 hkeep2
        go_wp2_with fail
        go_end0
        exact ⟨rfl, H.out, HK.out⟩
      · obtain rfl : j = cp := by omega
        obtain rfl : s.size = j := by omega
        have he : o = esc s.data.toList := by
          have := HFIN.out
          rwa [List.drop_of_length_le (by omega), List.append_nil] at this
        have HE := Lib.hid he
        clear he
        go_wp2_with fail
        refine (appendBytesN 0 U base (l ++ o) ⟨b, 0, none⟩ _ [] _ rfl hbuf (by simp only [List.length_nil]; omega) (by intro i u hu; simp [bytesV] at hu)).mono ?_
        rintro e w2 ⟨rfl, hbuf2, hkeep2⟩
        rw [List.append_nil, HE.out] at hbuf2
        have H := Lib.hid hbuf2
        have HK := Lib.hid (hkeep.trans hkeep2)
        clear hbuf2 hkeep2
        go_wp2_with fail
        go_end0
        exact ⟨rfl, H.out, HK.out⟩
end Go.Proofs.Zap
