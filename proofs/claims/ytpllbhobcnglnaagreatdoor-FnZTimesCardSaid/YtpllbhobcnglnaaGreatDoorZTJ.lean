/- a text of the claims over the seat; its order and aim: NOTES.md -/
import Derived.Test.YtpllbhobcnglnaaGreatDoorZTI
import Derived.Test.YtpllbhobcnglnaaGreatDoorZTF
import Derived.Test.YtpllbhobcnglnaaGreatDoorZF
namespace Go.Proofs.Zap
open Go Go.Proofs Go.RowKit

def GT (w : World) : Prop := Tabs w ∧ StdT w
theorem GT.closed : Closed13 GT := by
  intro w w' hk ⟨h1, cs, h2, h3⟩
  exact ⟨h1.mono hk, cs, (hk 7 (by omega)).trans h2, h3⟩

set_option maxHeartbeats 2000000 in
set_option maxRecDepth 100000 in
theorem fmt_iso (N a : Int) (zone : ByteArray) (h0 : -9223372036854775808 ≤ N) (h1 : N ≤ 9223372036854775807) (ha0 : -86400 < a) (ha1 : a < 86400) (hm60 : a % 60 = 0) :
    FmtOK GT layIso N a zone (rfcB N a (milB (nN N)) []) := by
  intro base v l w hG hown hbase hl
  have HR := Lib.hid (isoF_any base v l N a zone h0 h1 ha0 ha1 hm60)
  have HO := Lib.hid hown
  have HG := Lib.hid (hG.2.bk (BK.alloc base w (.cells (tmA N zone a) 112) hbase))
  clear hown hG h0 h1 ha0 ha1 hm60
  have HA := Lib.hid (BK.alloc base w (.cells (tmA N zone a) 112) hbase)
  unfold tmA at *
  go_enter Tryz.func209, Tryz.ntmps209
  go_wp2_with fail
  refine (HR.out _ HG.out (ownsRow_below HO.out ((Below.refl _ _).alloc (Nat.le_refl _) _)) (by simp; omega) hl).mono ?_
  rintro e w1 ⟨v1, rfl, ho, hb⟩
  have HO1 := Lib.hid ho
  have HB1 := Lib.hid (HA.out.trans hb)
  clear ho hb
  go_wp2_with fail
  go_ret
  exact ⟨_, rfl, HO1.out, HB1.out⟩

/-- what a moment must be -/
def yrs (zero : Bool) (a : Int) : Bool := !zero && decide (-86400 < a) && decide (a < 86400) && decide (a % 60 = 0)

theorem tmod60 (a : Int) : (a.tmod 60 == 0) = decide (a % 60 = 0) := by
  rw [Bool.eq_iff_iff]
  simp only [beq_iff_eq, decide_eq_true_eq]
  exact ⟨fun h => Int.emod_eq_zero_of_dvd (Int.dvd_of_tmod_eq_zero h), fun h => Int.tmod_eq_zero_of_dvd (Int.dvd_of_emod_eq_zero h)⟩

set_option maxHeartbeats 1000000 in
theorem years_yes (N a : Int) (zone : ByteArray) (h : yrs false a = true) (w : World) :
    Calls Tryz.prog 23 #[.agg (mzA false N a zone)] w fun e w' => e = .returned (.bool true) ∧ Below w.heap.size w w' := by
  simp [yrs] at h
  obtain ⟨⟨h1, h2⟩, h3⟩ := h
  have h4 : (a.tmod 60 == 0) = true := by rw [tmod60]; simp [h3]
  have h5 : (0 : Int) ≤ a → (a % 60 == 0) = true := fun _ => by simp [h3]
  unfold mzA
  clear h3
  by_cases h0 : 0 ≤ a
  · have h6 := h5 h0
    clear h5
    go_enter Tryz.func23, Tryz.ntmps23
    go_wp2
    go_ret
    exact ⟨rfl, (Below.refl _ _).alloc (Nat.le_refl _) _⟩
  · clear h5
    go_enter Tryz.func23, Tryz.ntmps23
    go_wp2
    go_ret
    exact ⟨rfl, (Below.refl _ _).alloc (Nat.le_refl _) _⟩

set_option maxHeartbeats 2000000 in
theorem years_no (zero : Bool) (N a : Int) (zone : ByteArray) (h : yrs zero a = false) (w : World) :
    Calls Tryz.prog 23 #[.agg (mzA zero N a zone)] w fun e w' => e = .returned (.bool false) ∧ Below w.heap.size w w' := by
  unfold mzA
  cases zero
  · by_cases h1 : -86400 < a
    · by_cases h2 : a < 86400
      · have h3 : a % 60 ≠ 0 := by
          intro hh; simp [yrs, h1, h2, hh] at h
        have h4 : (a.tmod 60 == 0) = false := by rw [tmod60]; simp [h3]
        have h5 : (a % 60 == 0) = false := by simp [h3]
        clear h h3
        go_enter Tryz.func23, Tryz.ntmps23
        go_wp2
        all_goals
          go_ret
          exact ⟨rfl, (Below.refl _ _).alloc (Nat.le_refl _) _⟩
      · clear h
        go_enter Tryz.func23, Tryz.ntmps23
        go_wp2
        go_ret
        exact ⟨rfl, (Below.refl _ _).alloc (Nat.le_refl _) _⟩
    · clear h
      go_enter Tryz.func23, Tryz.ntmps23
      go_wp2
      go_ret
      exact ⟨rfl, (Below.refl _ _).alloc (Nat.le_refl _) _⟩
  · clear h
    go_enter Tryz.func23, Tryz.ntmps23
    go_wp2
    go_ret
    exact ⟨rfl, (Below.refl _ _).alloc (Nat.le_refl _) _⟩

theorem fits6_any (zero : Bool) (N a : Int) (zone : ByteArray) (hz : zone.size ≤ 9223372036854775807) (w : World) :
    Calls Tryz.prog 21 #[.agg (mzA zero N a zone)] w fun e w' => e = .returned (.bool (decide (zone.size ≤ 2147483647))) ∧ Below w.heap.size w w' := by
  unfold mzA
  by_cases h : zone.size ≤ 2147483647
  · have hd : decide (zone.size ≤ 2147483647) = true := by simpa using h
    rw [hd]
    clear hd
    go_enter Tryz.func21, Tryz.ntmps21
    go_wp2
    go_ret
    exact ⟨rfl, (Below.refl _ _).alloc (Nat.le_refl _) _⟩
  · have hd : decide (zone.size ≤ 2147483647) = false := by simpa using h
    rw [hd]
    clear hd
    go_enter Tryz.func21, Tryz.ntmps21
    go_wp2
    go_ret
    exact ⟨rfl, (Below.refl _ _).alloc (Nat.le_refl _) _⟩
end Go.Proofs.Zap
