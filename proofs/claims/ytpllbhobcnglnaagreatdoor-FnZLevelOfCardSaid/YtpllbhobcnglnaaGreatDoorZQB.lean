/- a text of the claims over the seat; its order and aim: NOTES.md -/
import Derived.Test.YtpllbhobcnglnaaGreatDoorZQA
import Derived.Lib.AppendZeros
namespace Go.Proofs.Zap
open Go Go.Proofs Go.RowKit

theorem u149 : Tryz.prog.underlying 149 = some (.slice 176) := by kernel_rfl
theorem u3 : Tryz.prog.underlying 3 = some (.int .i64) := by kernel_rfl
theorem z176 : (Tryz.prog.info? 176).map (·.zero) = some (some (.agg #[.string ⟨#[]⟩, .int .u8 0, .int .i64 0, .string ⟨#[]⟩, .nilIface])) := by kernel_rfl
theorem s176 : (Tryz.prog.info? 176).map (·.size) = some 5 := by kernel_rfl
theorem y176 : (Tryz.prog.info? 176).map (·.bytes) = some 64 := by kernel_rfl

/-- so many rows of zero fields -/
def zRows (n : Nat) : Array Value := Builtin.zeroCells (Value.agg #[.string ⟨#[]⟩, .int .u8 0, .int .i64 0, .string ⟨#[]⟩, .nilIface]).cells n

/-- what Grow answers of nothing and n -/
def Grew (n : Nat) (w : World) (e : Ending) (w' : World) : Prop :=
  (n = 0 ∧ e = .returned (.slice none 0 0) ∧ w' = w) ∨ (0 < n ∧ ∃ cap, n ≤ cap ∧ cap ≤ maxLen ∧ e = .returned (.slice (some ⟨w.heap.size, 0, none⟩) 0 cap) ∧ w' = (w.alloc (.cells (zRows n ++ zRows (cap - n)) 176)).drew)

theorem append176 (n : Nat) (w : World) (h0 : 0 < n) (h48 : n * 64 ≤ 281474976710656) : ∃ cap, n ≤ cap ∧ cap ≤ maxLen ∧ cap = grownCap w n 0 176 ∧
    (Builtin.append_ #[149, 3] 149 #[.slice none 0 0, .int .i64 n]).run Tryz.prog w = .ok (.slice (some ⟨w.heap.size, 0, none⟩) n cap) (w.drew.alloc (.cells (zRows n ++ zRows (cap - n)) 176)) := by
  obtain ⟨i, hi, hz⟩ := Option.map_eq_some_iff.1 z176
  have hs : i.size = 5 := by have := s176; rw [hi] at this; simpa using this
  have hb : i.bytes = 64 := by have := y176; rw [hi] at this; simpa using this
  exact ⟨grownCap w n 0 176, grownCap_ge w n 0 176, grownCap_le_maxLen w n 0 176 (by unfold maxLen; omega), rfl, Lib.run_append_nil_zeros w 149 3 149 176 i _ .i64 .i64 u149 u3 hi hz n h0 (by omega) (by omega) (by rw [hb]; exact h48)⟩

set_option maxRecDepth 100000 in
set_option maxHeartbeats 1000000 in
theorem grow_any (n : Nat) (w : World) (h48 : n * 64 ≤ 281474976710656) : Calls Tryz.prog 374 #[.slice none 0 0, .int .i64 n] w (Grew n w) := by
  by_cases h0 : n = 0
  · subst h0
    go_enter Tryz.func374, Tryz.ntmps374
    go_wp2_with fail
    go_ret
    exact .inl ⟨rfl, rfl, rfl⟩
  · obtain ⟨cap, hc1, hcm, hce, hap⟩ := append176 n w (by omega) h48
    have hn0 : (0 : Int) < (n : Int) := by omega
    have hw : IntKind.i64.wrap (n : Int) = n := wrap64_id (by omega) (by omega)
    have HAP := Lib.hid hap
    have HCM := Lib.hid hcm
    clear hap h48 hce hcm
    go_enter Tryz.func374, Tryz.ntmps374
    go_wp2_with (at_builtin; refine Lib.wpList_append_run _ rfl _ _ _ _ rfl _ _ rfl rfl _ _ HAP.out ?_)
    go_ret
    exact .inr ⟨by omega, cap, hc1, HCM.out, rfl, rfl⟩
end Go.Proofs.Zap
