/- a text of the claims over the seat; its order and aim: NOTES.md -/
import Derived.Test.YtpllbhobcnglnaaGreatDoorZJ8
namespace Go.Proofs.Zap
open Go Go.Proofs Go.RowKit

theorem true8_len : ∀ (n : Nat) (s : List UInt8), s.length ≤ n → (true8 s).length ≤ 3 * s.length := by
  intro n
  induction n with
  | zero =>
    intro s h
    have : s = [] := List.length_eq_zero_iff.1 (by omega)
    subst this; rw [true8]; simp
  | succ n ih =>
    intro s h
    cases s with
    | nil => rw [true8]; simp
    | cons b t =>
      rw [true8]
      have hp := dec_pos (b :: t)
      have hl := dec_le (l := b :: t) (by simp)
      split
      · have := ih ((b :: t).drop (dec (b :: t)).2) (by rw [List.length_drop]; simp at h ⊢; omega)
        rw [List.length_drop] at this
        rw [List.length_append, List.length_take]
        omega
      · have := ih t (by simpa using h)
        simp
        omega

set_option maxHeartbeats 8000000 in
set_option maxRecDepth 100000 in
theorem jtrue8_any (s : ByteArray) (w : World) (hT : Tabs w) (hw : 13 ≤ w.heap.size) (hs : s.size ≤ 100000) :
    Calls Tryz.prog 19 #[.string s] w fun e w' => e = .returned (.string ⟨(true8 s.data.toList).toArray⟩) ∧ Below w.heap.size w w' := by
  obtain ⟨i0, hi, hz0, hz1, hz2⟩ := info_parts Tz.info5
  have hl3 := true8_len _ s.data.toList (Nat.le_refl _)
  rw [show s.data.toList.length = s.size by rw [Array.length_toList]; rfl] at hl3
  go_enter Tryz.func19, Tryz.ntmps19
  go_wp2_with fail
  go_loopw [3, 4] (fun v i wr => ∃ (p : Nat) (o : List UInt8), i = .int .i64 p ∧ p ≤ s.size ∧ Hid (o ++ true8 (s.data.toList.drop p) = true8 s.data.toList) ∧ wr.ownsRow w.heap.size 5 1 v o.length (bytesV o) ∧ Below w.heap.size w wr)
    (fun _ i _ => s.size - (intOf i).toNat)
  case atStart => exact ⟨0, [], rfl, by omega, Lib.hid rfl, World.ownsRow_nil _ _ _ _, Below.refl _ _⟩
  case round =>
    obtain ⟨p, o, rfl, hp, ho, hown, hbel⟩ := hrel
    have hol : o.length ≤ 300000 := by have := congrArg List.length ho.out; rw [List.length_append] at this; omega
    obtain ⟨a, cp, rfl⟩ := ownsRow_form hown
    have HO := Lib.hid hown
    have HB := Lib.hid hbel
    clear hown hbel
    by_cases hlt : p < s.size
    · have hpi : (p : Int) < (s.size : Int) := by omega
      have hpi2 : (p : Int) ≤ (s.size : Int) := by omega
      have hpi0 : (0 : Int) ≤ (p : Int) := by omega
      obtain ⟨r, n, hd3⟩ : ∃ r n, dec (s.data.toList.drop p) = (r, n) := ⟨_, _, rfl⟩
      have c61 := fun W hW => Tryz.utf8_DecodeRuneInString (s.extract p s.size) W hW
      rw [dec_go s p hlt, hd3] at c61
      simp only at c61
      have C61 := Lib.hid c61
      clear c61
      have hn1 : 1 ≤ n := by have := dec_pos (s.data.toList.drop p); rw [hd3] at this; exact this
      have hn2 : p + n ≤ s.size := by
        have := dec_le (l := s.data.toList.drop p) (by intro h; have := congrArg List.length h; simp at this; omega)
        rw [hd3, List.length_drop] at this; simp only [Array.length_toList] at this
        have e : s.data.size = s.size := rfl
        omega
      have HD := Lib.hid hd3
      clear hd3
      go_wp2_with fail
      refine (C61.out _ ((hT.below HB.out hw).1)).mono ?_
      rintro e w1 ⟨rfl, hb1⟩
      have hown1 := ownsRow_below HO.out hb1
      have HB1 := Lib.hid (HB.out.trans (hb1.mono HB.out.size))
      have hsz : w.heap.size ≤ w1.heap.size := HB1.out.size
      clear hb1
      have hdp : s.data.toList.drop p ≠ [] := by intro h; have := congrArg List.length h; simp at this; omega
      by_cases hg : good (s.data.toList.drop p) = true
      · have hgn : ((r : Int) == 65533) = false ∨ (((r : Int) == 65533) = true ∧ decide ((n : Int) < 2) = false) := by
          have := hg
          rw [good_eq, HD.out] at this
          by_cases hr : r = 65533
          · right; simp [hr] at this; subst hr; simp; omega
          · left; simp; omega
        have ht8 : true8 (s.data.toList.drop p) = (s.data.toList.drop p).take n ++ true8 (s.data.toList.drop (p + n)) := by
          rcases hdl : s.data.toList.drop p with _ | ⟨b, t⟩
          · exact absurd hdl hdp
          · have hd2 := HD.out
            rw [hdl] at hg hd2
            rw [true8, if_pos hg, hd2, ← hdl, List.drop_drop]
        have HT8 := Lib.hid ht8
        clear ht8 hg
        have hbi : (p : Int) + (n : Int) ≤ (s.size : Int) := by omega
        have hbi1 : (p : Int) ≤ (p : Int) + (n : Int) := by omega
        have hbi2 : (0 : Int) ≤ (p : Int) + (n : Int) := by omega
        have hbw : IntKind.i64.wrap ((p : Int) + (n : Int)) = (p : Int) + (n : Int) := by rw [IntKind.wrap_i64]; omega
        have hbn : ((p : Int) + (n : Int)).toNat = p + n := by omega
        have hpl : (s.extract p (p + n)).size = n := by simp; omega
        rcases hgn with hq | ⟨hq, hq2⟩
        all_goals
          go_wp2_with (at_builtin; refine Lib.wpList_append_own_string _ rfl (.tmp 28) (.tmp 34) 31 9 rfl w.heap.size 5 i0 Tryz.underlying31 Tryz.underlying9 hi hz0 hz1 hz2 _ _ _ rfl hown1 (s.extract p (p + n)) rfl ?c3 ?c4 hsz ?_)
          case c3 => unfold maxLen; omega
          case c4 => rw [hpl]; omega
          intro v' w2 hown2 hg _
          have hbel : Below w.heap.size w1 w2 := (Below.refl w.heap.size w1).grown hg hsz (own_ge hown1)
          go_wp2_with fail
          have hex : (s.extract p (p + n)).data.toList = (s.data.toList.drop p).take n := by
            rw [Lib.extract_data]; simp
          refine ⟨⟨p + n, o ++ (s.data.toList.drop p).take n, by simp, by omega, Lib.hid ?_, ?_, HB1.out.trans hbel⟩, by simp [intOf]; omega⟩
          · rw [List.append_assoc, ← HT8.out]; exact ho.out
          · rw [← hex, bytesV_append, List.length_append, show (s.extract p (p + n)).data.toList.length = n by rw [Array.length_toList]; exact hpl]; exact hown2
      · have hgn : r = 65533 ∧ n = 1 := by
          have := hg
          rw [good_eq, HD.out] at this
          simp at this; exact this
        obtain ⟨hr, hn⟩ := hgn
        have hq : ((r : Int) == 65533) = true := by simp; omega
        have hq2 : decide ((n : Int) < 2) = true := by simp; omega
        have ht8 : true8 (s.data.toList.drop p) = [239, 191, 189] ++ true8 (s.data.toList.drop (p + 1)) := by
          rcases hdl : s.data.toList.drop p with _ | ⟨b, t⟩
          · exact absurd hdl hdp
          · rw [hdl] at hg
            rw [true8, if_neg hg, ← List.drop_drop, hdl]; rfl
        have HT8 := Lib.hid ht8
        clear ht8 hg hr hn
        go_wp2_with (at_builtin; refine Lib.wpList_append_own_string _ rfl (.tmp 24) (.const (.string ⟨#[239, 191, 189]⟩)) 31 9 rfl w.heap.size 5 i0 Tryz.underlying31 Tryz.underlying9 hi hz0 hz1 hz2 _ _ _ rfl hown1 (⟨#[239, 191, 189]⟩) rfl ?c3 ?c4 hsz ?_)
        case c3 => change o.length + 3 ≤ _; unfold maxLen; omega
        case c4 => change o.length + 3 ≤ _; omega
        intro v' w2 hown2 hg _
        have hbel : Below w.heap.size w1 w2 := (Below.refl w.heap.size w1).grown hg hsz (own_ge hown1)
        go_wp2_with fail
        refine ⟨⟨p + 1, o ++ [239, 191, 189], by simp, by omega, Lib.hid ?_, ?_, HB1.out.trans hbel⟩, by simp [intOf]; omega⟩
        · rw [List.append_assoc, ← HT8.out]; exact ho.out
        · rw [bytesV_append, List.length_append]; exact hown2
    · have hpi : ¬ (p : Int) < (s.size : Int) := by omega
      have hconv : (convert 31 9 (.slice a o.length cp)).run Tryz.prog wr = .ok (.string ⟨o.toArray⟩) wr := conv_owned HO.out
      go_wp2_with fail
      go_ret
      have e1 : o = true8 s.data.toList := by
        have := ho.out
        rwa [List.drop_of_length_le (by rw [show s.data.toList.length = s.size by rw [Array.length_toList]; rfl]; omega), true8, List.append_nil] at this
      exact ⟨by rw [← e1]; rfl, HB.out⟩
end Go.Proofs.Zap
