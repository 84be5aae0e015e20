/- a text of the claims over the seat; its order and aim: NOTES.md -/
import Derived.Test.YtpllbhobcnglnaaGreatDoorZTG
namespace Go.Proofs.Zap
open Go Go.Proofs Go.RowKit

set_option maxHeartbeats 8000000 in
set_option maxRecDepth 100000 in
theorem nsZ (s : ByteArray) (hs : s.size = 5) (g0 : ∀ h, (s[0]'h).toNat = 90) (x5 : ((s.extract 0 5).toList == [90, 48, 55, 48, 48]) = true) (w : World) :
    Calls Tryz.prog 225 #[.string s] w fun e w' => e = .returned (.tuple #[.string ⟨#[]⟩, .int .i64 24, .string ⟨#[]⟩]) ∧ ∃ n, w' = w.drewN n := by
  have w0 : wrap64 90 = 90 := w64s _ (by omega) (by omega)
  go_enter Tryz.func225, Tryz.ntmps225
  go_wp2_with fail
  refine wp_loop_rounds 1 ?_
  rw [rounds_succ]
  go_wp2_with fail
  go_quiet (fail)
  go_wp2_with fail
  go_ret3
  exact ⟨rfl, nq, rfl⟩

theorem isd_no (s : ByteArray) (k : Nat) (hk : k < s.size) (_hs : s.size ≤ 100) (c : Nat) (hc : 57 < c) (hc2 : c ≤ 255) (g : ∀ h, (s[k]'h).toNat = c) (w : World) :
    Calls Tryz.prog 240 #[.string s, .int .i64 k] w fun e w' => e = .returned (.bool false) ∧ w' = w := by
  have hd : decide ((c : Int) ≤ 57) = false := by simp; omega
  go_enter Tryz.func240, Tryz.ntmps240
  go_wp2
  go_ret
  exact ⟨rfl, rfl⟩

set_option maxHeartbeats 8000000 in
set_option maxRecDepth 100000 in
theorem nsD (s : ByteArray) (hs : 5 ≤ s.size) (hs2 : s.size ≤ 100) (g0 : ∀ h, (s[0]'h).toNat = 46) (g1 : ∀ h, (s[1]'h).toNat = 48) (g2 : ∀ h, (s[2]'h).toNat = 48) (g3 : ∀ h, (s[3]'h).toNat = 48) (g4 : ∀ h, (s[4]'h).toNat = 90) (w : World) :
    Calls Tryz.prog 225 #[.string s] w fun e w' => e = .returned (.tuple #[.string ⟨#[]⟩, .int .i64 196642, .string (s.extract 4 s.size)]) ∧ ∃ n, w' = w.drewN n := by
  have w0 : wrap64 46 = 46 := w64s _ (by omega) (by omega)
  have h240 := isd_no s 4 (by omega) hs2 90 (by omega) (by omega) g4
  have H240 := Lib.hid h240
  clear h240
  go_enter Tryz.func225, Tryz.ntmps225
  go_wp2_with fail
  refine wp_loop_rounds 1 ?_
  rw [rounds_succ]
  go_wp2_with fail
  refine wp_loop_rounds 4 ?_
  rw [rounds_succ]
  go_wp2_with fail
  rw [rounds_succ]
  go_wp2_with fail
  rw [rounds_succ]
  go_wp2_with fail
  rw [rounds_succ]
  go_wp2_with fail
  refine (H240.out w).mono ?_
  rintro e w' ⟨rfl, rfl⟩
  go_wp2_with (first | (go_at_call 222; refine (frac34 _).mono ?_; rintro e w' ⟨rfl, rfl⟩))
  go_quiet (fail)
  go_wp2_with fail
  go_ret3
  exact ⟨rfl, nq, rfl⟩
end Go.Proofs.Zap
