/- a text of the claims over the seat; its order and aim: NOTES.md -/
import Derived.Test.YtpllbhobcnglnaaGreatDoorZJ5
import Derived.Deep.RegionHeld3
import Derived.Test.YtpllbhobcnglnaaGreatDoorZ2
namespace Go.Proofs.Zap
open Go Go.Proofs Go.RowKit

theorem keep_of_below {base J : Nat} {w w' : World} (h : Below base w w') : Keep base J w w' := ⟨h.os, h.tape, h.output, h.size, fun k hk _ => h.block k hk⟩

theorem below_grown {base : Nat} {w1 w2 : World} {v : Value} {oo : Obj} (hg : (w1.alloc oo).grownBy w2 v.ownBlock) (hr : ∀ k, v.ownBlock = some k → base ≤ k) (hB : base ≤ w1.heap.size) : Below base w1 w2 :=
  ((Below.refl base w1).alloc hB _).grown hg (by simp; omega) hr

set_option maxHeartbeats 12000000 in
set_option maxRecDepth 100000 in
theorem text_any (J k : Nat) (s : ByteArray) (d : Int) (t rest : List UInt8) (w : World) (h : Jr w J s k d) (hT : Tabs w) (hJ : 13 ≤ J) (hs : s.size ≤ 1000000) (ht : t.length ≤ 1000000)
    (hr : readT (s.data.toList.drop k) = some (t, rest)) :
    Calls Tryz.prog 136 #[.pointer (some ⟨J, 0, none⟩)] w fun e w' => e = .returned (.tuple #[.string ⟨t.toArray⟩, .bool true]) ∧
      (∃ p : Nat, Jr w' J s p d ∧ s.data.toList.drop p = rest ∧ p ≤ s.size) ∧ Keep w.heap.size J w w' := by
  have HR0 := Lib.hid hr
  have hJw := h.lt
  clear hr
  go_enter Tryz.func136, Tryz.ntmps136
  go_wp2_with fail
  go_loopw [4] (fun v wr => ∃ (p : Nat) (o t2 : List UInt8), Hid (readT (s.data.toList.drop p) = some (t2, rest)) ∧ Hid (o ++ t2 = t) ∧ Jr wr J s p d ∧ wr.ownsRow w.heap.size 5 1 v o.length (bytesV o) ∧ Keep w.heap.size J w wr)
    (fun _ wr => s.size - atOf wr J)
  case atStart => exact ⟨k, [], t, HR0, Lib.hid rfl, h, World.ownsRow_nil _ _ _ _, Keep.refl _ _ _⟩
  case round =>
    obtain ⟨p, o, t2, hr, ho, hj, hown, hkeep⟩ := hrel
    have c0 := hj.c0
    have c1 := hj.c1
    have f1 := hj.f 1
    have hp : p < s.size := by
      apply Nat.lt_of_not_le; intro hge
      have := hr.out
      rw [List.drop_of_length_le (by rw [Array.length_toList]; exact hge), readT] at this; cases this
    have hol : o.length + t2.length = t.length := by rw [← ho.out, List.length_append]
    have hd : decide ((p : Int) < (s.size : Int)) = true := by simp; omega
    have hpi : (p : Int) < (s.size : Int) := by omega
    have hpi2 : (p : Int) ≤ (s.size : Int) := by omega
    have hpi0 : (0 : Int) ≤ (p : Int) := by omega
    have hat := hj.at
    have hTr := hT.keep hkeep hJ (by omega)
    obtain ⟨a, cp, rfl⟩ := ownsRow_form hown
    have hcs := readT_cases (by rw [← drop_get s p hp]; exact hr.out)
    have HOWN := Lib.hid hown
    have HJ := Lib.hid hj
    have HK := Lib.hid hkeep
    have HAT := Lib.hid hat
    clear hown hj hkeep hat
    rcases hcs with ⟨hc, ht2, hrest⟩ | ⟨hc, r, n, t3, hu, hr3, ht2⟩ | ⟨h32, h34, h92, hg, t3, hr3, ht2⟩
    · have HT2 := Lib.hid ht2
      have HREST := Lib.hid hrest
      clear ht2 hrest
      have hconv : ∀ b nq, (convert 31 9 (.slice a o.length cp)).run Tryz.prog ((wr.drewN nq).setCell ⟨J, 1, none⟩ b) = .ok (.string ⟨o.toArray⟩) ((wr.drewN nq).setCell ⟨J, 1, none⟩ b) := by
        intro b nq
        exact conv_owned (base := w.heap.size) (ownsRow_keep HOWN.out ((keep1 wr J wr.heap.size nq b)) hJw)
      go_wp2_with fail
      go_quiet (fail)
      go_wp2_with fail
      go_quiet (fail)
      go_wp2_with fail
      go_ret2
      have e1 : o = t := by have := ho.out; rwa [HT2.out, List.append_nil] at this
      refine ⟨by rw [e1]; rfl, ⟨p + 1, ?_, HREST.out.symm, by omega⟩, HK.out.trans (keep1 _ _ _ _ _)⟩
      rw [show ((p + 1 : Nat) : Int) = (p : Int) + 1 by omega]
      exact (HJ.out.drew _).set1 _
    · have HU := Lib.hid hu
      have HR3 := Lib.hid hr3
      have HT2 := Lib.hid ht2
      have hsm := unesc_small hu
      have hSl : (s.data.toList.drop (p + 1)).length = s.size - (p + 1) := by rw [List.length_drop, Array.length_toList]; rfl
      obtain ⟨hn1, hrs, hr16, hnl⟩ := hsm
      have HRS := Lib.hid hrs
      clear hu hr3 ht2 hrs
      go_wp2_with fail
      go_quiet (fail)
      go_wp2_with fail
      go_quiet (fail)
      go_wp2_with fail
      have hj1 : ∀ q, Jr ((wr.drewN q).setCell ⟨J, 1, none⟩ (.int .i64 ((p : Int) + 1))) J s ((p + 1 : Nat) : Int) d := by
        intro q; rw [show ((p + 1 : Nat) : Int) = (p : Int) + 1 by omega]; exact (HJ.out.drew _).set1 _
      have HJ1 := Lib.hid hj1
      clear hj1
      refine (unescaped_any J (p + 1) r n s d _ (HJ1.out _) hs HU.out).mono ?_
      rintro e w1 ⟨rfl, hj2, hk2⟩
      have hk3 : Keep wr.heap.size J wr w1 := (keep1 wr J wr.heap.size _ _).trans (hk2.mono (by simp [World.setCell]))
      have hown1 := ownsRow_keep HOWN.out hk3 hJw
      have HK3 := Lib.hid (HK.out.trans (hk3.mono HK.out.size))
      have HJ2 := Lib.hid hj2
      have hsz : w.heap.size ≤ w1.heap.size := by have := HK3.out.size; exact this
      clear hk2 hk3 hj2
      have hc1 := (HJ2.out).c1
      have hc0 := (HJ2.out).c0
      go_wp2_with fail
      refine (Tryz.utf8_AppendRune_plain w.heap.size _ o.length (bytesV o) (r : Int) (by omega) (by omega) w1 hown1 (by omega) hsz).mono ?_
      rintro e w2 ⟨v2, rfl, hown2, oo, hgr⟩
      have hbel := below_grown hgr (own_ge hown1) hsz
      have hj4 : Jr w2 J s ((p + 1 + n : Nat) : Int) d := (hbel.block J hJw).trans HJ2.out
      have HK4 := Lib.hid (HK3.out.trans (keep_of_below (J := J) hbel))
      have hown3 : w2.ownsRow w.heap.size 5 1 v2 (o ++ runeB r).length (bytesV (o ++ runeB r)) := by
        have hc := runeCells_eq HRS.out hr16
        rw [hc] at hown2
        rw [bytesV_append, List.length_append]
        rwa [bytesV_length] at hown2
      have HJ4 := Lib.hid hj4
      have HO4 := Lib.hid hown3
      clear hown1 hown2 hown3 hgr hbel hj4
      go_wp2_with fail
      refine ⟨⟨p + 1 + n, o ++ runeB r, t3, Lib.hid ?_, Lib.hid ?_, HJ4.out, HO4.out, HK4.out⟩, ?_⟩
      · have := HR3.out; rwa [List.drop_drop] at this
      · have := ho.out; rw [HT2.out] at this; rw [List.append_assoc]; exact this
      · rw [HAT.out, HJ4.out.at]; omega
    · have hg2 := hg
      rw [← drop_get s p hp] at hg2
      obtain ⟨r, n, hd3⟩ : ∃ r n, dec (s.data.toList.drop p) = (r, n) := ⟨_, _, rfl⟩
      have c61 := fun W hW => Tryz.utf8_DecodeRuneInString (s.extract p s.size) W hW
      rw [dec_go s p hp, hd3] at c61
      simp only at c61
      have hn1 : 1 ≤ n := by have := dec_pos (s.data.toList.drop p); rw [hd3] at this; exact this
      have hn2 : p + n ≤ s.size := by
        have := dec_le (l := s.data.toList.drop p) (by intro h; have := congrArg List.length h; simp at this; omega)
        rw [hd3, List.length_drop] at this; simp only [Array.length_toList] at this
        have e : s.data.size = s.size := rfl
        omega
      rw [← drop_get s p hp, hd3] at hr3 ht2
      have HR3 := Lib.hid hr3
      have HT2 := Lib.hid ht2
      have HD := Lib.hid hd3
      have C61 := Lib.hid c61
      have HG := Lib.hid hg2
      clear hr3 ht2 hd3 c61 hg hg2
      go_wp2_with fail
      go_quiet (fail)
      go_wp2_with fail
      go_quiet (fail)
      go_wp2_with fail
      go_region_held3 (fun w' => w'.cell? ⟨J, 0, none⟩ = some (.string s) ∧ w'.cell? ⟨J, 1, none⟩ = some (.int .i64 p))
        (first | go_keep | exact ⟨(hbel.cell (p := ⟨J, 0, none⟩) hJr).trans c0, (hbel.cell (p := ⟨J, 1, none⟩) hJr).trans c1⟩)
        (first | (go_at_call 61; refine (C61.out _ ?_).mono ?_; exact hTr.1; rintro e w1 ⟨rfl, hbel⟩; have hJr : J < wr.heap.size := HJ.out.lt))
      have hb1 : Below wr.heap.size wr w1 := ⟨hbel.os, hbel.tape, hbel.output, hbel.size, hbel.block⟩
      have hown1 := ownsRow_below HOWN.out hb1
      have HJ1 := Lib.hid (HJ.out.below hb1)
      have HK1 := Lib.hid (HK.out.trans (Keep.below hb1 HK.out.size))
      have d0 := HJ1.out.c0
      have d1 := HJ1.out.c1
      have g1 := HJ1.out.f 1
      have hsz : w.heap.size ≤ w1.heap.size := HK1.out.size
      clear hbel hb1 c0 c1 f1 hTr
      have hgn : ((r : Int) == 65533) = false ∨ (((r : Int) == 65533) = true ∧ decide ((n : Int) < 2) = false) := by
        have := HG.out
        rw [good_eq, HD.out] at this
        by_cases hr : r = 65533
        · right; simp [hr] at this; subst hr; simp; omega
        · left; simp; omega
      have hbi : (p : Int) + (n : Int) ≤ (s.size : Int) := by omega
      have hbi1 : (p : Int) ≤ (p : Int) + (n : Int) := by omega
      have hbi2 : (0 : Int) ≤ (p : Int) + (n : Int) := by omega
      have hbw : IntKind.i64.wrap ((p : Int) + (n : Int)) = (p : Int) + (n : Int) := by rw [IntKind.wrap_i64]; omega
      have hbn : ((p : Int) + (n : Int)).toNat = p + n := by omega
      have hpl : (s.extract p (p + n)).size = n := by simp; omega
      obtain ⟨i0, hi, hz0, hz1, hz2⟩ := info_parts Tz.info5
      rcases hgn with hq | ⟨hq, hq2⟩
      all_goals
        go_wp2_with fail
        go_still_tail 16, (by kernel_rfl)
        refine Lib.wpList_append_own_string _ rfl (.tmp 48) (.tmp 63) 31 9 rfl w.heap.size 5 i0 Tryz.underlying31 Tryz.underlying9 hi hz0 hz1 hz2 _ _ _ rfl hown1 (s.extract p (p + n)) rfl ?c3 ?c4 hsz ?_
        case c3 => unfold maxLen; omega
        case c4 => rw [hpl]; omega
        intro v' w2 hown2 hg _
        have hbd := (Below.refl w.heap.size (w1.drewN 1)).grown hg hsz (own_ge hown1)
        have hbel : Below w.heap.size w1 w2 := ⟨hbd.os, hbd.tape, hbd.output, hbd.size, hbd.block⟩
        clear hbd hg
        have f0 : w2.cell? ⟨J, 0, none⟩ = some (.string s) := (hbel.cell (p := ⟨J, 0, none⟩) hJw).trans d0
        have f1 : w2.cell? ⟨J, 1, none⟩ = some (.int .i64 p) := (hbel.cell (p := ⟨J, 1, none⟩) hJw).trans d1
        have f2 : w2.frozen? ⟨J, 1, none⟩ = false := (hbel.frozen (p := ⟨J, 1, none⟩) hJw).trans g1
        have HB := Lib.hid hbel
        have HO2 := Lib.hid hown2
        clear hbel hown2
        go_wp2_with fail
        have hj5 : Jr (w2.setCell ⟨J, 1, none⟩ (.int .i64 ((p : Int) + (n : Int)))) J s ((p + n : Nat) : Int) d := by
          rw [show ((p + n : Nat) : Int) = (p : Int) + (n : Int) by omega]
          exact Jr.set1 (((HB.out).block J hJw).trans HJ1.out) _
        have hk5 := keep1 w2 J w2.heap.size 0 (.int .i64 ((p : Int) + (n : Int)))
        have hex : (s.extract p (p + n)).data.toList = (s.data.toList.drop p).take n := by
          rw [Lib.extract_data]; simp
        have hown5 : w2.ownsRow w.heap.size 5 1 v' (o ++ (s.data.toList.drop p).take n).length (bytesV (o ++ (s.data.toList.drop p).take n)) := by
          have h5 := HO2.out
          rw [← hex, bytesV_append, List.length_append]
          exact h5
        refine ⟨⟨p + n, o ++ (s.data.toList.drop p).take n, t3, Lib.hid ?_, Lib.hid ?_, hj5, ownsRow_keep hown5 hk5 (by have := HB.out.size; omega), (HK1.out.trans (keep_of_below (J := J) HB.out)).trans (hk5.mono (by have := HB.out.size; omega))⟩, ?_⟩
        · have := HR3.out; rwa [List.drop_drop] at this
        · have := ho.out; rw [HT2.out] at this; rw [List.append_assoc]; exact this
        · rw [HAT.out, hj5.at]; omega
end Go.Proofs.Zap
