/- a text of the claims over the seat; its order and aim: NOTES.md -/
import Derived.Test.YtpllbhobcnglnaaGreatDoorZBase
import Derived.Test.YtpllbhobcnglnaaGreatDoorZEsc
namespace Go.Proofs.Zap
open Go Go.Proofs Go.RowKit

theorem get!_list (s : ByteArray) (j : Nat) : s.get! j = s.data.toList.getD j 0 := by
  show s.data[j]! = _
  rw [List.getD_eq_getElem?_getD, Array.getElem?_toList]
  cases h : s.data[j]? with
  | none => rw [getElem!_def, h]; rfl
  | some x => rw [getElem!_def, h]; rfl

theorem dec_go (s : ByteArray) (k : Nat) (hk : k < s.size) : Lib.decodeGo (s.extract k s.size) = dec (s.data.toList.drop k) := by
  have hs : (s.extract k s.size).data.toList = s.data.toList.drop k := Lib.extract_to_end s k
  have hsz : (s.extract k s.size).size = s.size - k := by simp
  unfold Lib.decodeGo
  rw [if_neg (by omega), Lib.decode_at]
  have g : ∀ j, (s.extract k s.size).get! j = (s.data.toList.drop k).getD j 0 := by
    intro j
    rw [get!_list, hs]
  unfold dec
  have hl : (s.data.toList.drop k).length = s.size - k := by rw [List.length_drop, Array.length_toList]; rfl
  rw [hl, hsz, Nat.sub_zero, g, g, g, g]

theorem sdata_get (s : ByteArray) (k : Nat) (hk : k < s.size) : s[k] = s.data.toList[k]'(by simpa using hk) := rfl


theorem Buf.flush {w : World} {base U : Nat} {l o x : List UInt8} {s : ByteArray} {j k : Nat} (h : Buf w base U (l ++ o ++ (s.extract j k).data.toList ++ x)) :
    Buf w base U (l ++ (o ++ (s.data.toList.drop j).take (k - j) ++ x)) := by
  rw [Lib.extract_data] at h
  simpa only [List.append_assoc] using h

theorem extract_le (s : ByteArray) (j k : Nat) : (s.extract j k).size ≤ k - j := by simp; omega

theorem plainB_facts {b : UInt8} (h : plainB b = true) : 32 ≤ b.toNat ∧ ((b.toNat : Int) != 92) = true ∧ ((b.toNat : Int) != 34) = true := by
  unfold plainB at h
  simp only [Bool.and_eq_true, decide_eq_true_eq, bne_iff_ne, ne_eq] at h
  refine ⟨h.1.1, ?_, ?_⟩
  · rw [bne_iff_ne]; intro hh; apply h.1.2; apply UInt8.toNat_inj.1; show b.toNat = 92; omega
  · rw [bne_iff_ne]; intro hh; apply h.2; apply UInt8.toNat_inj.1; show b.toNat = 34; omega

theorem plainB_not {b : UInt8} (h : ¬ plainB b = true) (h1 : ¬ (b.toNat = 92 ∨ b.toNat = 34)) : b.toNat < 32 := by
  apply Nat.lt_of_not_le
  intro hge
  apply h
  unfold plainB
  simp only [Bool.and_eq_true, decide_eq_true_eq, bne_iff_ne, ne_eq]
  exact ⟨⟨hge, fun e => h1 (.inl (by rw [e]; rfl))⟩, fun e => h1 (.inr (by rw [e]; rfl))⟩

theorem hex_get : ∀ (n : Fin 16), (⟨#[48, 49, 50, 51, 52, 53, 54, 55, 56, 57, 97, 98, 99, 100, 101, 102]⟩ : ByteArray)[n.val]'n.isLt = hexd n.val := by decide

theorem hex_at (n : Nat) (h : n < (⟨#[48, 49, 50, 51, 52, 53, 54, 55, 56, 57, 97, 98, 99, 100, 101, 102]⟩ : ByteArray).size) :
    (⟨#[48, 49, 50, 51, 52, 53, 54, 55, 56, 57, 97, 98, 99, 100, 101, 102]⟩ : ByteArray)[n] = hexd n := hex_get ⟨n, h⟩

theorem escByte_hex {b : UInt8} (a1 : ((b.toNat : Int) == 92) = false) (a2 : ((b.toNat : Int) == 34) = false) (a3 : ((b.toNat : Int) == 10) = false)
    (a4 : ((b.toNat : Int) == 13) = false) (a5 : ((b.toNat : Int) == 9) = false) : escByte b = [92, 117, 48, 48, hexd (b.toNat / 16), hexd (b.toNat % 16)] := by
  have ne : ∀ c : UInt8, ((b.toNat : Int) == (c.toNat : Int)) = false → b ≠ c := fun c h e => by subst e; simp at h
  unfold escByte
  rw [if_neg (by intro h; rcases h with h | h; exact ne 92 a1 h; exact ne 34 a2 h), if_neg (ne 10 a3), if_neg (ne 13 a4), if_neg (ne 9 a5)]

theorem appendByteN (n : Int) (U base : Nat) (l : List UInt8) (c : UInt8) (hn : n = c.toNat) (w : World) (hb : Buf w base U l) (hl : l.length < 1000000000) :
    Calls Tryz.prog 196 #[.pointer (some ⟨U, 0, none⟩), .int .u8 n] w fun e w' => e = .returned (.tuple #[]) ∧ Buf w' base U (l ++ [c]) ∧ Keep base U w w' := by
  subst hn; exact appendByte_any U base l c w hb hl

theorem Buf.two {w : World} {base U : Nat} {l x : List UInt8} {a b : UInt8} (h : Buf w base U (l ++ x ++ [a] ++ [b])) : Buf w base U (l ++ x ++ [a, b]) := by
  simpa only [List.append_assoc, List.cons_append, List.nil_append] using h

theorem esc_c92 {b : UInt8} (h : b.toNat = 92) : escByte b = [92, 92] := by
  have : b = 92 := UInt8.toNat_inj.1 h
  subst this; rfl
theorem esc_c34 {b : UInt8} (h : b.toNat = 34) : escByte b = [92, 34] := by
  have : b = 34 := UInt8.toNat_inj.1 h
  subst this; rfl
theorem esc_c10 {b : UInt8} (h : b.toNat = 10) : escByte b = [92, 110] := by
  have : b = 10 := UInt8.toNat_inj.1 h
  subst this; rfl
theorem esc_c13 {b : UInt8} (h : b.toNat = 13) : escByte b = [92, 114] := by
  have : b = 13 := UInt8.toNat_inj.1 h
  subst this; rfl
theorem esc_c9 {b : UInt8} (h : b.toNat = 9) : escByte b = [92, 116] := by
  have : b = 9 := UInt8.toNat_inj.1 h
  subst this; rfl
theorem esc_cq {b : UInt8} (h : b.toNat = 92 ∨ b.toNat = 34) : escByte b = [92, b] := by
  have : b = 92 ∨ b = 34 := h.imp (fun h => UInt8.toNat_inj.1 h) (fun h => UInt8.toNat_inj.1 h)
  unfold escByte; rw [if_pos this]

theorem list_ba (l : List UInt8) : (⟨l.toArray⟩ : ByteArray).data.toList = l := rfl

set_option maxHeartbeats 12000000 in
set_option maxRecDepth 100000 in
theorem safeAppend_any (U base : Nat) (l : List UInt8) (s : ByteArray) (w : World) (hT : Tabs w) (hU13 : 13 ≤ U) (hb : Buf w base U l) (hl : l.length ≤ 100000) (hs : s.size ≤ 100000) :
    Calls Tryz.prog 171 #[.func (.func 172) #[] #[], .func (.func 61) #[] #[], .pointer (some ⟨U, 0, none⟩), .string s] w fun e w' =>
      e = .returned (.tuple #[]) ∧ Buf w' base U (l ++ esc s.data.toList) ∧ Keep base U w w' := by
  have hUb := hb.1
  go_enter Tryz.func171, Tryz.ntmps171
  go_wp2_with fail
  go_loopw [8, 9] (fun last i wr => ∃ (k j : Nat) (o : List UInt8), i = .int .i64 k ∧ last = .int .i64 j ∧ Rel s.data.toList o k j ∧ Buf wr base U (l ++ o) ∧ Keep base U w wr)
    (fun _ i _ => s.size - (intOf i).toNat)
  case atStart => exact ⟨0, 0, [], rfl, rfl, Rel.start _, by simpa using hb, Keep.refl _ _ _⟩
  case round =>
    obtain ⟨k, j, o, rfl, rfl, hrel, hbuf, hkeep⟩ := hrel
    have hjk : j ≤ k := hrel.1
    have hol := hrel.len
    have hl2 : (l ++ o).length + (k - j) ≤ 700000 := by rw [List.length_append]; have : s.data.toList.length = s.size := by rw [Array.length_toList]; rfl
                                                        omega
    have hbB : base ≤ wr.heap.size := hbuf.2.1
    have hTr := hT.keep hkeep hU13 hUb
    have hSl : s.data.toList.length = s.size := by rw [Array.length_toList]; rfl
    have HR := Lib.hid hrel
    clear hrel hol
    by_cases hlt : k < s.size
    · by_cases h128 : 128 ≤ s[k].toNat
      · obtain ⟨r, n, hd⟩ : ∃ r n, dec (s.data.toList.drop k) = (r, n) := ⟨_, _, rfl⟩
        have c61 := Tryz.utf8_DecodeRuneInString (s.extract k s.size) wr hTr.1
        rw [dec_go s k hlt, hd] at c61
        simp only at c61
        have hn1 : 1 ≤ n := by have := dec_pos (s.data.toList.drop k); rw [hd] at this; exact this
        have hn2 : k + n ≤ s.size := by
          have := dec_le (l := s.data.toList.drop k) (by intro h; have := congrArg List.length h; simp at this; omega)
          rw [hd, List.length_drop] at this; simp only at this; omega
        have HD := Lib.hid hd
        clear hd
        have C61 := Lib.hid c61
        clear c61
        go_wp2_with fail
        refine C61.out.mono ?_
        rintro e w1 ⟨rfl, hbel⟩
        have hbuf1 := hbuf.below hbel
        have hkeep1 : Keep base U w w1 := hkeep.trans (Keep.below hbel hbB)
        by_cases hg : good (s.data.toList.drop k) = true
        · have step : Rel s.data.toList o (k + n) j := by
            refine HR.out.skip hn1 (by omega) ?_
            have := esc_good (S := s.data.toList) (i := k) (by omega) h128 hg
            rw [HD.out] at this; exact this
          have HS := Lib.hid step
          by_cases hr : r = 65533
          · have hn : ((n : Int) != 1) = true := by
              rw [good_eq, HD.out] at hg; simp [hr] at hg; simp; omega
            have hr' : ((r : Int) != 65533) = false := by simp [hr]
            clear hg step C61 hr
            go_wp2_with fail
            exact ⟨⟨k + n, j, o, by go_num, rfl, HS.out, hbuf1, hkeep1⟩, by simp [intOf]; omega⟩
          · have hr' : ((r : Int) != 65533) = true := by simp; omega
            clear hg step C61 hr
            go_wp2_with fail
            exact ⟨⟨k + n, j, o, by go_num, rfl, HS.out, hbuf1, hkeep1⟩, by simp [intOf]; omega⟩
        · have hrn : r = 65533 ∧ n = 1 := by rw [good_eq, HD.out] at hg; simpa using hg
          obtain ⟨rfl, rfl⟩ := hrn
          have step : Rel s.data.toList (o ++ (s.data.toList.drop j).take (k - j) ++ [92, 117, 102, 102, 102, 100]) (k + 1) (k + 1) :=
            HR.out.flush (by omega) (esc_bad (S := s.data.toList) (i := k) (by omega) h128 (by simpa using hg))
          have HS := Lib.hid step
          have hxl := extract_le s j k
          clear hg step C61 hn1
          go_wp2_with fail
          refine (appendString_any U base (l ++ o) (s.extract j k) _ hbuf1 (by omega)).mono ?_
          rintro e w2 ⟨rfl, hbuf2, hkeep2⟩
          have hl3 : (l ++ o ++ (s.extract j k).data.toList).length ≤ 700000 := by rw [List.length_append, Lib.extract_data]; simp only [List.length_take]; omega
          go_wp2_with fail
          refine (appendString_any U base _ ⟨#[92, 117, 102, 102, 102, 100]⟩ _ hbuf2 (by have : (⟨#[92, 117, 102, 102, 102, 100]⟩ : ByteArray).size = 6 := rfl
                                                                                         omega)).mono ?_
          rintro e w3 ⟨rfl, hbuf3, hkeep3⟩
          have hbuf4 := hbuf3.flush
          have hkeep4 := (hkeep1.trans hkeep2).trans hkeep3
          clear hbuf3 hbuf2 hbuf1 hkeep3 hkeep2 hkeep1
          go_wp2_with fail
          exact ⟨⟨k + 1, k + 1, _, by go_num, by go_num, HS.out, hbuf4, hkeep4⟩, by simp [intOf]; omega⟩
      · have hlt128 : s[k].toNat < 128 := by omega
        have hxl := extract_le s j k
        have hl3 : (l ++ o ++ (s.extract j k).data.toList).length ≤ 700000 := by rw [List.length_append, Lib.extract_data]; simp only [List.length_take]; omega
        by_cases hp : plainB s[k] = true
        · have HS := Lib.hid (HR.out.skip (n := 1) (by omega) (by omega) (esc_plain (S := s.data.toList) (i := k) (by omega) hlt128 hp))
          obtain ⟨h32, h92, h34⟩ := plainB_facts hp
          clear hp
          go_wp2_with fail
          exact ⟨⟨k + 1, j, o, by go_num, rfl, HS.out, hbuf, hkeep⟩, by simp [intOf]; omega⟩
        · have HS := Lib.hid (HR.out.flush (by omega) (esc_escB (S := s.data.toList) (i := k) (by omega) hlt128 ((Bool.not_eq_true _).mp hp)))
          by_cases h1 : s[k].toNat = 92 ∨ s[k].toNat = 34
          · rcases h1 with h1 | h1
            · have HS2 := HS.out
              rw [← sdata_get s k hlt, esc_c92 h1] at HS2
              have HS3 := Lib.hid HS2
              clear HS2 HS hp
              go_wp2_with fail
              refine (appendString_any U base (l ++ o) (s.extract j k) _ hbuf (by omega)).mono ?_
              rintro e w2 ⟨rfl, hbuf2, hkeep2⟩
              go_wp2_with fail
              refine (appendByteN _ U base _ 92 rfl _ hbuf2 (by omega)).mono ?_
              rintro e w3 ⟨rfl, hbuf3, hkeep3⟩
              go_wp2_with fail
              refine (appendByteN _ U base _ 92 rfl _ hbuf3 (by rw [List.length_append]; simp only [List.length_cons, List.length_nil]; omega)).mono ?_
              rintro e w4 ⟨rfl, hbuf4, hkeep4⟩
              have hbuf6 := hbuf4.two.flush
              have hkeep6 := ((hkeep.trans hkeep2).trans hkeep3).trans hkeep4
              clear hbuf4 hbuf3 hbuf2 hkeep2 hkeep3 hkeep4
              go_wp2_with fail
              exact ⟨⟨k + 1, k + 1, _, by go_num, by go_num, HS3.out, hbuf6, hkeep6⟩, by simp [intOf]; omega⟩
            · have HS2 := HS.out
              rw [← sdata_get s k hlt, esc_c34 h1] at HS2
              have HS3 := Lib.hid HS2
              clear HS2 HS hp
              go_wp2_with fail
              refine (appendString_any U base (l ++ o) (s.extract j k) _ hbuf (by omega)).mono ?_
              rintro e w2 ⟨rfl, hbuf2, hkeep2⟩
              go_wp2_with fail
              refine (appendByteN _ U base _ 92 rfl _ hbuf2 (by omega)).mono ?_
              rintro e w3 ⟨rfl, hbuf3, hkeep3⟩
              go_wp2_with fail
              refine (appendByteN _ U base _ 34 rfl _ hbuf3 (by rw [List.length_append]; simp only [List.length_cons, List.length_nil]; omega)).mono ?_
              rintro e w4 ⟨rfl, hbuf4, hkeep4⟩
              have hbuf6 := hbuf4.two.flush
              have hkeep6 := ((hkeep.trans hkeep2).trans hkeep3).trans hkeep4
              clear hbuf4 hbuf3 hbuf2 hkeep2 hkeep3 hkeep4
              go_wp2_with fail
              exact ⟨⟨k + 1, k + 1, _, by go_num, by go_num, HS3.out, hbuf6, hkeep6⟩, by simp [intOf]; omega⟩
          · by_cases h2 : s[k].toNat = 10
            · have HS2 := HS.out
              rw [← sdata_get s k hlt, esc_c10 h2] at HS2
              have HS3 := Lib.hid HS2
              clear HS2 HS hp
              clear h1
              go_wp2_with fail
              refine (appendString_any U base (l ++ o) (s.extract j k) _ hbuf (by omega)).mono ?_
              rintro e w2 ⟨rfl, hbuf2, hkeep2⟩
              go_wp2_with fail
              refine (appendByteN _ U base _ 92 rfl _ hbuf2 (by omega)).mono ?_
              rintro e w3 ⟨rfl, hbuf3, hkeep3⟩
              go_wp2_with fail
              refine (appendByteN _ U base _ 110 rfl _ hbuf3 (by rw [List.length_append]; simp only [List.length_cons, List.length_nil]; omega)).mono ?_
              rintro e w4 ⟨rfl, hbuf4, hkeep4⟩
              have hbuf6 := hbuf4.two.flush
              have hkeep6 := ((hkeep.trans hkeep2).trans hkeep3).trans hkeep4
              clear hbuf4 hbuf3 hbuf2 hkeep2 hkeep3 hkeep4
              go_wp2_with fail
              exact ⟨⟨k + 1, k + 1, _, by go_num, by go_num, HS3.out, hbuf6, hkeep6⟩, by simp [intOf]; omega⟩
            · by_cases h3 : s[k].toNat = 13
              · have HS2 := HS.out
                rw [← sdata_get s k hlt, esc_c13 h3] at HS2
                have HS3 := Lib.hid HS2
                clear HS2 HS hp
                clear h1
                go_wp2_with fail
                refine (appendString_any U base (l ++ o) (s.extract j k) _ hbuf (by omega)).mono ?_
                rintro e w2 ⟨rfl, hbuf2, hkeep2⟩
                go_wp2_with fail
                refine (appendByteN _ U base _ 92 rfl _ hbuf2 (by omega)).mono ?_
                rintro e w3 ⟨rfl, hbuf3, hkeep3⟩
                go_wp2_with fail
                refine (appendByteN _ U base _ 114 rfl _ hbuf3 (by rw [List.length_append]; simp only [List.length_cons, List.length_nil]; omega)).mono ?_
                rintro e w4 ⟨rfl, hbuf4, hkeep4⟩
                have hbuf6 := hbuf4.two.flush
                have hkeep6 := ((hkeep.trans hkeep2).trans hkeep3).trans hkeep4
                clear hbuf4 hbuf3 hbuf2 hkeep2 hkeep3 hkeep4
                go_wp2_with fail
                exact ⟨⟨k + 1, k + 1, _, by go_num, by go_num, HS3.out, hbuf6, hkeep6⟩, by simp [intOf]; omega⟩
              · by_cases h4 : s[k].toNat = 9
                · have HS2 := HS.out
                  rw [← sdata_get s k hlt, esc_c9 h4] at HS2
                  have HS3 := Lib.hid HS2
                  clear HS2 HS hp
                  clear h1
                  go_wp2_with fail
                  refine (appendString_any U base (l ++ o) (s.extract j k) _ hbuf (by omega)).mono ?_
                  rintro e w2 ⟨rfl, hbuf2, hkeep2⟩
                  go_wp2_with fail
                  refine (appendByteN _ U base _ 92 rfl _ hbuf2 (by omega)).mono ?_
                  rintro e w3 ⟨rfl, hbuf3, hkeep3⟩
                  go_wp2_with fail
                  refine (appendByteN _ U base _ 116 rfl _ hbuf3 (by rw [List.length_append]; simp only [List.length_cons, List.length_nil]; omega)).mono ?_
                  rintro e w4 ⟨rfl, hbuf4, hkeep4⟩
                  have hbuf6 := hbuf4.two.flush
                  have hkeep6 := ((hkeep.trans hkeep2).trans hkeep3).trans hkeep4
                  clear hbuf4 hbuf3 hbuf2 hkeep2 hkeep3 hkeep4
                  go_wp2_with fail
                  exact ⟨⟨k + 1, k + 1, _, by go_num, by go_num, HS3.out, hbuf6, hkeep6⟩, by simp [intOf]; omega⟩
                · have h32 : s[k].toNat < 32 := plainB_not hp h1
                  have a1 : ((s[k].toNat : Int) == 92) = false := by rw [beq_eq_false_iff_ne]; omega
                  have a2 : ((s[k].toNat : Int) == 34) = false := by rw [beq_eq_false_iff_ne]; omega
                  have a3 : ((s[k].toNat : Int) == 10) = false := by rw [beq_eq_false_iff_ne]; omega
                  have a4 : ((s[k].toNat : Int) == 13) = false := by rw [beq_eq_false_iff_ne]; omega
                  have a5 : ((s[k].toNat : Int) == 9) = false := by rw [beq_eq_false_iff_ne]; omega
                  clear hp h1
                  go_wp2_with fail
                  refine (appendString_any U base (l ++ o) (s.extract j k) _ hbuf (by omega)).mono ?_
                  rintro e w2 ⟨rfl, hbuf2, hkeep2⟩
                  go_wp2_with fail
                  refine (appendString_any U base _ ⟨#[92, 117, 48, 48]⟩ _ hbuf2 (by have : (⟨#[92, 117, 48, 48]⟩ : ByteArray).size = 4 := rfl
                                                                                     omega)).mono ?_
                  rintro e w3 ⟨rfl, hbuf3, hkeep3⟩
                  go_wp2_with fail
                  refine (appendByte_any U base _ _ _ hbuf3 (by simp only [List.length_append, List.length_cons, List.length_nil] at hl3 ⊢; omega)).mono ?_
                  rintro e w4 ⟨rfl, hbuf4, hkeep4⟩
                  rw [hex_at] at hbuf4
                  go_wp2_with fail
                  refine (appendByte_any U base _ _ _ hbuf4 (by simp only [List.length_append, List.length_cons, List.length_nil] at hl3 ⊢; omega)).mono ?_
                  rintro e w5 ⟨rfl, hbuf5, hkeep5⟩
                  rw [hex_at, List.append_assoc _ [92, 117, 48, 48], List.append_assoc _ ([92, 117, 48, 48] ++ _)] at hbuf5
                  have hbuf6 := hbuf5.flush
                  have hkeep6 := (((hkeep.trans hkeep2).trans hkeep3).trans hkeep4).trans hkeep5
                  have he := escByte_hex a1 a2 a3 a4 a5
                  have HS2 := HS.out
                  rw [← sdata_get s k hlt, he] at HS2
                  have HS3 := Lib.hid HS2
                  clear hbuf5 hbuf4 hbuf3 hbuf2 hkeep2 hkeep3 hkeep4 hkeep5 HS2 he
                  go_wp2_with fail
                  exact ⟨⟨k + 1, k + 1, _, by go_num, by go_num, HS3.out, hbuf6, hkeep6⟩, by simp [intOf]; omega⟩
    · obtain rfl : k = s.size := by have := HR.out.2.1; omega
      have hfin := HR.out
      rw [← hSl] at hfin
      have hfin := hfin.done
      go_wp2_with fail
      refine (appendString_any U base (l ++ o) (s.extract j s.size) _ hbuf (by have := extract_le s j s.size; omega)).mono ?_
      rintro e w2 ⟨rfl, hbuf2, hkeep2⟩
      rw [Lib.extract_to_end, List.append_assoc, hfin] at hbuf2
      have H := Lib.hid hbuf2
      have HK := Lib.hid (hkeep.trans hkeep2)
      clear hbuf2 hkeep2 hfin
      go_wp2_with fail
      go_end0
      exact ⟨rfl, H.out, HK.out⟩
end Go.Proofs.Zap
