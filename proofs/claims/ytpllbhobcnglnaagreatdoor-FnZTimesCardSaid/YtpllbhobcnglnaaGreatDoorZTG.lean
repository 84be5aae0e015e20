/- a text of the claims over the seat; its order and aim: NOTES.md -/
import Derived.Test.YtpllbhobcnglnaaGreatDoorZTC
namespace Go.Proofs.Zap
open Go Go.Proofs Go.RowKit

/-- the table of two-digit codes, as its initialiser lays it -/
def Std0 (w : World) : Prop := w.cell? ⟨7, 0, none⟩ = some (.int .i64 260) ∧ w.cell? ⟨7, 1, none⟩ = some (.int .i64 265) ∧ w.cell? ⟨7, 2, none⟩ = some (.int .i64 1038) ∧ w.cell? ⟨7, 3, none⟩ = some (.int .i64 1040) ∧ w.cell? ⟨7, 4, none⟩ = some (.int .i64 1042) ∧ w.cell? ⟨7, 5, none⟩ = some (.int .i64 276)

theorem w64s (n : Int) (h0 : 0 ≤ n) (h1 : n ≤ 255) : wrap64 n = n := IntWalk.wrap64_in _ (by omega)

theorem ret3 {x y z : Value} {a b c : Value} (h1 : x = a) (h2 : y = b) (h3 : z = c) : Ending.returned (.tuple #[x, y, z]) = .returned (.tuple #[a, b, c]) := by rw [h1, h2, h3]

set_option maxHeartbeats 4000000 in
set_option maxRecDepth 100000 in
theorem nsA (s : ByteArray) (hs : 4 ≤ s.size) (hs2 : s.size ≤ 100) (g0 : ∀ h, (s[0]'h).toNat = 50) (e4 : (s.extract 0 4).toList = [50, 48, 48, 54]) (w : World) :
    Calls Tryz.prog 225 #[.string s] w fun e w' => e = .returned (.tuple #[.string ⟨#[]⟩, .int .i64 275, .string (s.extract 4 s.size)]) ∧ ∃ n, w' = w.drewN n := by
  have w0 : wrap64 50 = 50 := w64s _ (by omega) (by omega)
  go_enter Tryz.func225, Tryz.ntmps225
  go_wp2_with fail
  refine wp_loop_rounds 1 ?_
  rw [rounds_succ]
  go_wp2_with fail
  go_quiet (fail)
  go_wp2_with fail
  go_ret3
  exact ⟨rfl, nq, rfl⟩



set_option maxHeartbeats 8000000 in
set_option maxRecDepth 100000 in
theorem nsBm (s : ByteArray) (hs : 9 ≤ s.size) (hs2 : s.size ≤ 100) (g0 : ∀ h, (s[0]'h).toNat = 45) (g1 : ∀ h, (s[1]'h).toNat = 48) (d : Nat) (hd : 49 ≤ d) (hd2 : d ≤ 54) (g2 : ∀ h, (s[2]'h).toNat = d)
    (x7 : ((s.extract 0 7).toList == [45, 48, 55, 48, 48, 48, 48]) = false) (x9 : ((s.extract 0 9).toList == [45, 48, 55, 58, 48, 48, 58, 48, 48]) = false) (x5 : ((s.extract 0 5).toList == [45, 48, 55, 48, 48]) = false) (x6 : ((s.extract 0 6).toList == [45, 48, 55, 58, 48, 48]) = false) (x3 : ((s.extract 0 3).toList == [45, 48, 55]) = false)
    (std : Int) (w : World) (ht : w.cell? ⟨7, d - 49, none⟩ = some (.int .i64 std)) :
    Calls Tryz.prog 225 #[.string s] w fun e w' => e = .returned (.tuple #[.string (s.extract 0 1), .int .i64 std, .string (s.extract 3 s.size)]) ∧ ∃ n, w' = w.drewN n := by
  have w0 : wrap64 45 = 45 := w64s _ (by omega) (by omega)
  have w1 : wrap64 48 = 48 := w64s _ (by omega) (by omega)
  go_enter Tryz.func225, Tryz.ntmps225
  go_wp2_with fail
  refine wp_loop_rounds 2 ?_
  rw [rounds_succ]
  go_wp2_with fail
  rw [rounds_succ]
  go_wp2_with fail
  have q1 : IntKind.u8.wrap ((d : Int) - 49) = (d : Int) - 49 := IntWalk.u8_in _ (by omega)
  have q2 : (0 : Int) ≤ (d : Int) - 49 := by omega
  have q3 : (d : Int) - 49 < 6 := by omega
  have q4 : ((d : Int) - 49).toNat = d - 49 := by omega
  go_quiet (fail)
  go_wp2_with fail
  go_ret3
  exact ⟨rfl, nq, rfl⟩

set_option maxHeartbeats 8000000 in
set_option maxRecDepth 100000 in
theorem nsBc (s : ByteArray) (hs : 3 ≤ s.size) (hs2 : s.size ≤ 100) (g0 : ∀ h, (s[0]'h).toNat = 58) (g1 : ∀ h, (s[1]'h).toNat = 48) (d : Nat) (hd : 49 ≤ d) (hd2 : d ≤ 54) (g2 : ∀ h, (s[2]'h).toNat = d)
    (std : Int) (w : World) (ht : w.cell? ⟨7, d - 49, none⟩ = some (.int .i64 std)) :
    Calls Tryz.prog 225 #[.string s] w fun e w' => e = .returned (.tuple #[.string (s.extract 0 1), .int .i64 std, .string (s.extract 3 s.size)]) ∧ ∃ n, w' = w.drewN n := by
  have w0 : wrap64 58 = 58 := w64s _ (by omega) (by omega)
  have w1 : wrap64 48 = 48 := w64s _ (by omega) (by omega)
  go_enter Tryz.func225, Tryz.ntmps225
  go_wp2_with fail
  refine wp_loop_rounds 2 ?_
  rw [rounds_succ]
  go_wp2_with fail
  rw [rounds_succ]
  go_wp2_with fail
  have q1 : IntKind.u8.wrap ((d : Int) - 49) = (d : Int) - 49 := IntWalk.u8_in _ (by omega)
  have q2 : (0 : Int) ≤ (d : Int) - 49 := by omega
  have q3 : (d : Int) - 49 < 6 := by omega
  have q4 : ((d : Int) - 49).toNat = d - 49 := by omega
  go_quiet (fail)
  go_wp2_with fail
  go_ret3
  exact ⟨rfl, nq, rfl⟩

set_option maxHeartbeats 8000000 in
set_option maxRecDepth 100000 in
theorem nsT (s : ByteArray) (hs : 3 ≤ s.size) (hs2 : s.size ≤ 100) (g0 : ∀ h, (s[0]'h).toNat = 84) (g1 : ∀ h, (s[1]'h).toNat = 49) (g2 : ∀ h, (s[2]'h).toNat = 53)
    (w : World) :
    Calls Tryz.prog 225 #[.string s] w fun e w' => e = .returned (.tuple #[.string (s.extract 0 1), .int .i64 1036, .string (s.extract 3 s.size)]) ∧ ∃ n, w' = w.drewN n := by
  have w0 : wrap64 84 = 84 := w64s _ (by omega) (by omega)
  have w1 : wrap64 49 = 49 := w64s _ (by omega) (by omega)
  go_enter Tryz.func225, Tryz.ntmps225
  go_wp2_with fail
  refine wp_loop_rounds 2 ?_
  rw [rounds_succ]
  go_wp2_with fail
  rw [rounds_succ]
  go_wp2_with fail
  go_quiet (fail)
  go_wp2_with fail
  go_ret3
  exact ⟨rfl, nq, rfl⟩

end Go.Proofs.Zap
