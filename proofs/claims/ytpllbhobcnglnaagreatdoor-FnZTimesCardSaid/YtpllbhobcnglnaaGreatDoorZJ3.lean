/- a text of the claims over the seat; its order and aim: NOTES.md -/
import Derived.Test.YtpllbhobcnglnaaGreatDoorZJ2
import Derived.Test.YtpllbhobcnglnaaGreatDoorZW1
namespace Go.Proofs.Zap
open Go Go.Proofs Go.RowKit

def hval (g : Nat → Nat) : Nat → Nat
  | 0 => 0
  | n + 1 => hval g n * 16 + g n

theorem hexv_lt {b : UInt8} {v : Nat} (h : hexv b = some v) : v < 16 := by
  unfold hexv at h; split at h
  · simp only [Option.some.injEq] at h; omega
  · split at h
    · simp only [Option.some.injEq] at h; omega
    · cases h

theorem hval_lt (g : Nat → Nat) (hg : ∀ i, g i < 16) : ∀ n, hval g n < 16 ^ n
  | 0 => by simp [hval]
  | n + 1 => by have := hval_lt g hg n; have h2 := hg n; simp only [hval, Nat.pow_succ]; omega

theorem Keep.mono {base base' U : Nat} {w w' : World} (h : Keep base U w w') (hb : base' ≤ base) : Keep base' U w w' :=
  ⟨h.os, h.tape, h.output, h.size, fun k hk hne => h.block k (by omega) hne⟩

theorem keep1 (w : World) (J base n : Nat) (v : Value) : Keep base J w ((w.drewN n).setCell ⟨J, 1, none⟩ v) := by
  refine ⟨rfl, rfl, rfl, by simp [World.setCell], fun k hk hne => ?_⟩
  rw [Below.heap_setCell _ _ _ _ (by simpa using hne)]; simp

theorem or16 (V x : Nat) (hV : V < 65536) (hx : x < 16) : bits .or .i32 (wrap32 ((V : Int) * 16)) (x : Int) = ((V * 16 + x : Nat) : Int) := by
  have e : wrap32 ((V : Int) * 16) = ((V * 16 : Nat) : Int) := by rw [IntWalk.wrap32_in _ (by omega)]; omega
  rw [e, (bits_nat .i32 31 (by decide) (fun n h0 h1 => wraps_i32 n h0 h1) (V * 16) x (by omega) (by omega)).2]
  have := Nat.two_pow_add_eq_or_of_lt (i := 4) (b := x) (by omega) V
  rw [Nat.mul_comm V 16, show (16 : Nat) = 2 ^ 4 by rfl, ← this]

theorem hex_close {g : Nat → Nat} {n x : Nat} {y : Int} (hg : ∀ i, g i < 16) (hn : n < 4) (h : some x = some (g n)) (hy : y = (x : Int)) :
    bits .or .i32 (wrap32 ((hval g n : Nat) * 16)) y = ((hval g (n + 1) : Nat) : Int) := by
  subst hy
  simp only [Option.some.injEq] at h
  subst h
  have h1 := hval_lt g hg n
  have h2 := hg n
  have : 16 ^ n ≤ 16 ^ 3 := Nat.pow_le_pow_right (by decide) (by omega)
  rw [or16 _ _ (by omega) h2]; rfl

set_option maxHeartbeats 4000000 in
set_option maxRecDepth 100000 in
theorem hex_any (J k : Nat) (s : ByteArray) (d : Int) (g : Nat → Nat) (w : World) (h : Jr w J s k d) (hk : k + 4 ≤ s.size) (hs : s.size ≤ 1000000)
    (hg : ∀ i, i < 4 → hexv (s.get! (k + i)) = some (g i)) (hg16 : ∀ i, g i < 16) :
    Calls Tryz.prog 198 #[.pointer (some ⟨J, 0, none⟩)] w fun e w' => e = .returned (.tuple #[.int .i32 (hval g 4 : Nat), .bool true]) ∧ Jr w' J s ((k + 4 : Nat) : Int) d ∧ Keep w.heap.size J w w' := by
  have HG := Lib.hid hg
  have HG16 := Lib.hid hg16
  clear hg hg16
  go_enter Tryz.func198, Tryz.ntmps198
  go_wp2_with fail
  go_loopw [4, 6] (fun v i wr => ∃ n p : Nat, n ≤ 4 ∧ Hid (p = k + n) ∧ i = .int .i64 n ∧ v = .int .i32 (hval g n : Nat) ∧ Jr wr J s (p : Int) d ∧ Keep w.heap.size J w wr)
    (fun _ i _ => 4 - (intOf i).toNat)
  case atStart => exact ⟨0, k, by omega, Lib.hid rfl, rfl, rfl, h, Keep.refl _ _ _⟩
  case round =>
    obtain ⟨n, p, hn, hp, rfl, rfl, hj, hkeep⟩ := hrel
    have c0 := hj.c0
    have c1 := hj.c1
    have f1 := hj.f 1
    by_cases hlt : n < 4
    · have hps : p < s.size := by have := hp.out; omega
      have hd : decide ((s.size : Int) ≤ (p : Int)) = false := by simp; omega
      have hkn : (p : Int) < (s.size : Int) := by omega
      have hdig := HG.out n hlt
      have hx : s.get! (k + n) = s[p] := by rw [get!_list, ← hp.out, List.getD_eq_getElem?_getD, List.getElem?_eq_getElem (by rw [Array.length_toList]; exact hps)]; rfl
      rw [hx] at hdig
      have HJ := Lib.hid hj
      have HKe := Lib.hid hkeep
      clear hx hj hkeep
      unfold hexv at hdig
      by_cases hA : 48 ≤ s[p].toNat ∧ s[p].toNat ≤ 57
      · rw [if_pos hA] at hdig
        have HD := Lib.hid hdig
        clear hdig
        obtain ⟨hA1, hA2⟩ := hA
        go_wp2_with fail
        go_quiet (fail)
        go_wp2_with fail
        go_quiet (fail)
        go_wp2_with fail
        exact ⟨⟨n + 1, p + 1, by omega, Lib.hid (by have := hp.out; omega), by go_num, congrArg (Value.int .i32) (hex_close HG16.out hlt HD.out (by omega)),
          by rw [show ((p + 1 : Nat) : Int) = (p : Int) + 1 by omega]; exact (HJ.out.drew _).set1 _, HKe.out.trans (keep1 _ _ _ _ _)⟩, by simp [intOf]; omega⟩
      · rw [if_neg hA] at hdig
        by_cases hB : 97 ≤ s[p].toNat ∧ s[p].toNat ≤ 102
        · rw [if_pos hB] at hdig
          have HD := Lib.hid hdig
          clear hdig hA
          obtain ⟨hB1, hB2⟩ := hB
          have hB3 : (57 : Int) < (s[p].toNat : Int) := by omega
          go_wp2_with fail
          go_quiet (fail)
          go_wp2_with fail
          go_quiet (fail)
          go_wp2_with fail
          exact ⟨⟨n + 1, p + 1, by omega, Lib.hid (by have := hp.out; omega), by go_num, congrArg (Value.int .i32) (hex_close HG16.out hlt HD.out (by omega)),
            by rw [show ((p + 1 : Nat) : Int) = (p : Int) + 1 by omega]; exact (HJ.out.drew _).set1 _, HKe.out.trans (keep1 _ _ _ _ _)⟩, by simp [intOf]; omega⟩
        · rw [if_neg hB] at hdig; cases hdig
    · have hn4 : n = 4 := by omega
      subst hn4
      have HP := Lib.hid hp.out
      have HK := Lib.hid hkeep
      have HJ := Lib.hid hj
      clear hj hkeep
      go_wp2_with fail
      go_ret2
      exact ⟨rfl, by have := HJ.out; rwa [HP.out] at this, HK.out⟩
end Go.Proofs.Zap
