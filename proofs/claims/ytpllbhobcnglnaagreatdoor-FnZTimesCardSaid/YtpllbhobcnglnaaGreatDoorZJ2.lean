/- a text of the claims over the seat; its order and aim: NOTES.md -/
import Derived.Test.YtpllbhobcnglnaaGreatDoorZJ
namespace Go.Proofs.Zap
open Go Go.Proofs Go.RowKit

theorem ext1 (s : ByteArray) (k : Nat) (hk : k < s.size) : (s.extract k (k + 1)).toList = [s[k]] := by
  rw [Lib.extract_toList, show k + 1 - k = 1 by omega, List.drop_eq_getElem_cons (by rw [Array.length_toList]; exact hk)]
  rfl

set_option maxHeartbeats 2000000 in
set_option maxRecDepth 100000 in
theorem has_no (J k : Nat) (s : ByteArray) (c : UInt8) (d : Int) (w : World) (h : Jr w J s k d) (hk : k < s.size) (_hs : s.size ≤ 1000000) (hne : s[k] ≠ c) :
    Calls Tryz.prog 134 #[.pointer (some ⟨J, 0, none⟩), .string ⟨#[c]⟩] w fun e w' => e = .returned (.bool false) ∧ ∃ n, w' = w.drewN n := by
  have c0 := h.c0
  have c1 := h.c1
  have hsz : (⟨#[c]⟩ : ByteArray).size = 1 := rfl
  have hd : decide ((s.size : Int) - (k : Int) < 1) = false := by simp; omega
  have hk' : (k : Int) + 1 ≤ (s.size : Int) := by omega
  have hb : ((s.extract k (k + 1)).toList == [c]) = false := by rw [ext1 s k hk]; simp [hne]
  clear h hne
  go_enter Tryz.func134, Tryz.ntmps134
  go_wp2_with fail
  go_quiet (fail)
  go_wp2
  go_ret
  exact ⟨rfl, _, rfl⟩

set_option maxHeartbeats 2000000 in
set_option maxRecDepth 100000 in
theorem has_yes (J k : Nat) (s : ByteArray) (c : UInt8) (d : Int) (w : World) (h : Jr w J s k d) (hk : k < s.size) (_hs : s.size ≤ 1000000) (he : s[k] = c) :
    Calls Tryz.prog 134 #[.pointer (some ⟨J, 0, none⟩), .string ⟨#[c]⟩] w fun e w' => e = .returned (.bool true) ∧ ∃ n, w' = (w.drewN n).setCell ⟨J, 1, none⟩ (.int .i64 ((k + 1 : Nat) : Int)) := by
  have c0 := h.c0
  have c1 := h.c1
  have f1 := h.f 1
  have hsz : (⟨#[c]⟩ : ByteArray).size = 1 := rfl
  have hd : decide ((s.size : Int) - (k : Int) < 1) = false := by simp; omega
  have hk' : (k : Int) + 1 ≤ (s.size : Int) := by omega
  have hb : ((s.extract k (k + 1)).toList == [c]) = true := by rw [ext1 s k hk, he]; simp
  clear h he
  go_enter Tryz.func134, Tryz.ntmps134
  go_wp2_with fail
  go_quiet (fail)
  go_wp2
  go_ret
  exact ⟨rfl, _, by rw [show ((k + 1 : Nat) : Int) = (k : Int) + 1 by omega]⟩
end Go.Proofs.Zap
