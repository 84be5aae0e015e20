/- a text of the claims over the seat; its order and aim: NOTES.md -/
import Derived.Test.YtpllbhobcnglnaaGreatDoorZBase
namespace Go.Proofs.Zap
open Go Go.Proofs Go.RowKit Go.Lib

set_option maxHeartbeats 4000000 in
set_option maxRecDepth 1000000 in
theorem decodeRuneSlow_any (s : ByteArray) (b off cap : Nat) (w : World) (hT : Lib.Utf8Tabs 2 3 w)
    (hp : ∀ j, j < s.size → w.cell? ⟨b, off + j, none⟩ = some (.int .u8 (s.get! j).toNat)) :
    Calls Tryz.prog 197 #[.slice (some ⟨b, off, none⟩) s.size cap] w fun e w' => e = .returned (.tuple #[.int .i32 (Lib.decodeGo s).1, .int .i64 (Lib.decodeGo s).2]) ∧ Below w.heap.size w w' := by
  by_cases h0 : s.size = 0
  · have hz : (s.size : Int) < 1 := by omega
    simp only [Lib.decodeGo, h0, if_true]
    go_enter Tryz.func197, Tryz.ntmps197
    go_wp2
    go_ret2
    exact ⟨rfl, Below.refl _ _⟩
  · have hz0 : (0 : Int) < (s.size : Int) := by omega
    have hz0' : ¬ ((s.size : Int) < 1) := by omega
    obtain ⟨x0, hx0⟩ : ∃ x0, s.get! 0 = x0 := ⟨_, rfl⟩
    obtain ⟨x1, hx1⟩ : ∃ x1, s.get! 1 = x1 := ⟨_, rfl⟩
    obtain ⟨x2, hx2⟩ : ∃ x2, s.get! 2 = x2 := ⟨_, rfl⟩
    obtain ⟨x3, hx3⟩ : ∃ x3, s.get! 3 = x3 := ⟨_, rfl⟩
    have hs0 : w.cell? ⟨b, off, none⟩ = some (.int .u8 x0.toNat) := by have := hp 0 (by omega); rwa [hx0] at this
    have hb : b < w.heap.size := block_lt_of_cell hs0
    have hq1 : 1 < s.size → w.cell? ⟨b, off + 1, none⟩ = some (.int .u8 x1.toNat) := fun h => by have := hp 1 h; rwa [hx1] at this
    have hq2 : 2 < s.size → w.cell? ⟨b, off + 2, none⟩ = some (.int .u8 x2.toNat) := fun h => by have := hp 2 h; rwa [hx2] at this
    have hq3 : 3 < s.size → w.cell? ⟨b, off + 3, none⟩ = some (.int .u8 x3.toNat) := fun h => by have := hp 3 h; rwa [hx3] at this
    clear hp
    have l0 := x0.toNat_lt; have l1 := x1.toNat_lt; have l2 := x2.toNat_lt; have l3 := x3.toNat_lt
    have hdec : Lib.decodeGo s = decodeN s.size x0.toNat x1.toNat x2.toNat x3.toNat := by
      simp only [Lib.decodeGo, h0, if_false]
      rw [Lib.decode_at, Nat.sub_zero, Nat.zero_add, Nat.zero_add, Nat.zero_add, hx0, hx1, hx2, hx3]
    rw [hdec]
    clear hdec
    have hc0 := hT.1 x0.toNat (by omega)
    have hres : firstT x0.toNat < 240 → decodeN s.size x0.toNat x1.toNat x2.toNat x3.toNat = slowN s.size x0.toNat x1.toNat x2.toNat x3.toNat (firstT x0.toNat % 8) (accLo (firstT x0.toNat / 16)) (accHi (firstT x0.toNat / 16)) :=
      fun h => (Lib.slow_eq _ _ _ _ _ (by omega) (by omega) (by omega) (by omega) h).symm
    rcases Lib.firstT_cases x0.toNat with hX | hX | hX | hX | hX | hX | hX | hX | hX
    · -- an ASCII byte (this road is not taken from DecodeRuneInString; the text serves it all the same)
      rw [Lib.ascii_eq _ _ _ _ _ hX]
      rw [hX] at hc0
      clear hres hT hX
      clear hq1 hq2 hq3
      go_enter Tryz.func197, Tryz.ntmps197
      go_wp2
      rw [Utf8W.mask240, Utf8W.keep_byte ⟨x0.toNat, l0⟩]
      go_ret2
      exact ⟨rfl, Below.refl _ _⟩
    · -- no lead byte
      rw [Lib.bad_eq _ _ _ _ _ (by omega) hX]
      rw [hX] at hc0
      clear hres hT hX
      clear hq1 hq2 hq3
      go_enter Tryz.func197, Tryz.ntmps197
      go_wp2
      rw [Utf8W.mask241, Utf8W.drop_byte ⟨x0.toNat, l0⟩]
      go_ret2
      exact ⟨rfl, Below.refl _ _⟩
    all_goals replace hres := hres (by omega)
    · -- first[s0] = 2: 2 bytes; acceptRanges[0]
      rw [hX] at hc0 hres
      have ha0 := (hT.2 0 (by omega)).1
      have ha1 := (hT.2 0 (by omega)).2
      simp only [accLo, accHi, Nat.reduceMul, Nat.reduceAdd, Nat.reduceEqDiff, if_true, if_false, Nat.reduceMod, Nat.reduceDiv] at ha0 ha1 hres
      rw [hres]
      clear hres hT hX
      by_cases hn : s.size < 2
      · -- too short: 'if n < sz { return RuneError, 1 }': ahead of every further byte
        have hnz : (s.size : Int) < 2 := by omega
        clear hq1 hq2 hq3
        go_enter Tryz.func197, Tryz.ntmps197
        go_wp2
        all_goals (go_ret2; refine ⟨?_, (Below.refl _ _).alloc (Nat.le_refl _) _⟩; utf8_leaf)
      · -- long enough: every byte that is read is there
        have hz1 : (1 : Int) < (s.size : Int) := by omega
        have hs1 := hq1 (by omega)
        clear hq1 hq2 hq3
        go_enter Tryz.func197, Tryz.ntmps197
        go_wp2
        all_goals (go_ret2; refine ⟨?_, (Below.refl _ _).alloc (Nat.le_refl _) _⟩; utf8_leaf)
    · -- first[s0] = 19: 3 bytes; acceptRanges[1]
      rw [hX] at hc0 hres
      have ha0 := (hT.2 1 (by omega)).1
      have ha1 := (hT.2 1 (by omega)).2
      simp only [accLo, accHi, Nat.reduceMul, Nat.reduceAdd, Nat.reduceEqDiff, if_true, if_false, Nat.reduceMod, Nat.reduceDiv] at ha0 ha1 hres
      rw [hres]
      clear hres hT hX
      by_cases hn : s.size < 3
      · -- too short: 'if n < sz { return RuneError, 1 }': ahead of every further byte
        have hnz : (s.size : Int) < 3 := by omega
        clear hq1 hq2 hq3
        go_enter Tryz.func197, Tryz.ntmps197
        go_wp2
        all_goals (go_ret2; refine ⟨?_, (Below.refl _ _).alloc (Nat.le_refl _) _⟩; utf8_leaf)
      · -- long enough: every byte that is read is there
        have hz1 : (1 : Int) < (s.size : Int) := by omega
        have hz2 : (2 : Int) < (s.size : Int) := by omega
        have hs1 := hq1 (by omega)
        have hs2 := hq2 (by omega)
        clear hq1 hq2 hq3
        go_enter Tryz.func197, Tryz.ntmps197
        go_wp2
        all_goals (go_ret2; refine ⟨?_, (Below.refl _ _).alloc (Nat.le_refl _) _⟩; utf8_leaf)
    · -- first[s0] = 3: 3 bytes; acceptRanges[0]
      rw [hX] at hc0 hres
      have ha0 := (hT.2 0 (by omega)).1
      have ha1 := (hT.2 0 (by omega)).2
      simp only [accLo, accHi, Nat.reduceMul, Nat.reduceAdd, Nat.reduceEqDiff, if_true, if_false, Nat.reduceMod, Nat.reduceDiv] at ha0 ha1 hres
      rw [hres]
      clear hres hT hX
      by_cases hn : s.size < 3
      · -- too short: 'if n < sz { return RuneError, 1 }': ahead of every further byte
        have hnz : (s.size : Int) < 3 := by omega
        clear hq1 hq2 hq3
        go_enter Tryz.func197, Tryz.ntmps197
        go_wp2
        all_goals (go_ret2; refine ⟨?_, (Below.refl _ _).alloc (Nat.le_refl _) _⟩; utf8_leaf)
      · -- long enough: every byte that is read is there
        have hz1 : (1 : Int) < (s.size : Int) := by omega
        have hz2 : (2 : Int) < (s.size : Int) := by omega
        have hs1 := hq1 (by omega)
        have hs2 := hq2 (by omega)
        clear hq1 hq2 hq3
        go_enter Tryz.func197, Tryz.ntmps197
        go_wp2
        all_goals (go_ret2; refine ⟨?_, (Below.refl _ _).alloc (Nat.le_refl _) _⟩; utf8_leaf)
    · -- first[s0] = 35: 3 bytes; acceptRanges[2]
      rw [hX] at hc0 hres
      have ha0 := (hT.2 2 (by omega)).1
      have ha1 := (hT.2 2 (by omega)).2
      simp only [accLo, accHi, Nat.reduceMul, Nat.reduceAdd, Nat.reduceEqDiff, if_true, if_false, Nat.reduceMod, Nat.reduceDiv] at ha0 ha1 hres
      rw [hres]
      clear hres hT hX
      by_cases hn : s.size < 3
      · -- too short: 'if n < sz { return RuneError, 1 }': ahead of every further byte
        have hnz : (s.size : Int) < 3 := by omega
        clear hq1 hq2 hq3
        go_enter Tryz.func197, Tryz.ntmps197
        go_wp2
        all_goals (go_ret2; refine ⟨?_, (Below.refl _ _).alloc (Nat.le_refl _) _⟩; utf8_leaf)
      · -- long enough: every byte that is read is there
        have hz1 : (1 : Int) < (s.size : Int) := by omega
        have hz2 : (2 : Int) < (s.size : Int) := by omega
        have hs1 := hq1 (by omega)
        have hs2 := hq2 (by omega)
        clear hq1 hq2 hq3
        go_enter Tryz.func197, Tryz.ntmps197
        go_wp2
        all_goals (go_ret2; refine ⟨?_, (Below.refl _ _).alloc (Nat.le_refl _) _⟩; utf8_leaf)
    · -- first[s0] = 52: 4 bytes; acceptRanges[3]
      rw [hX] at hc0 hres
      have ha0 := (hT.2 3 (by omega)).1
      have ha1 := (hT.2 3 (by omega)).2
      simp only [accLo, accHi, Nat.reduceMul, Nat.reduceAdd, Nat.reduceEqDiff, if_true, if_false, Nat.reduceMod, Nat.reduceDiv] at ha0 ha1 hres
      rw [hres]
      clear hres hT hX
      by_cases hn : s.size < 4
      · -- too short: 'if n < sz { return RuneError, 1 }': ahead of every further byte
        have hnz : (s.size : Int) < 4 := by omega
        clear hq1 hq2 hq3
        go_enter Tryz.func197, Tryz.ntmps197
        go_wp2
        all_goals (go_ret2; refine ⟨?_, (Below.refl _ _).alloc (Nat.le_refl _) _⟩; utf8_leaf)
      · -- long enough: every byte that is read is there
        have hz1 : (1 : Int) < (s.size : Int) := by omega
        have hz2 : (2 : Int) < (s.size : Int) := by omega
        have hz3 : (3 : Int) < (s.size : Int) := by omega
        have hs1 := hq1 (by omega)
        have hs2 := hq2 (by omega)
        have hs3 := hq3 (by omega)
        clear hq1 hq2 hq3
        go_enter Tryz.func197, Tryz.ntmps197
        go_wp2
        all_goals (go_ret2; refine ⟨?_, (Below.refl _ _).alloc (Nat.le_refl _) _⟩; utf8_leaf)
    · -- first[s0] = 4: 4 bytes; acceptRanges[0]
      rw [hX] at hc0 hres
      have ha0 := (hT.2 0 (by omega)).1
      have ha1 := (hT.2 0 (by omega)).2
      simp only [accLo, accHi, Nat.reduceMul, Nat.reduceAdd, Nat.reduceEqDiff, if_true, if_false, Nat.reduceMod, Nat.reduceDiv] at ha0 ha1 hres
      rw [hres]
      clear hres hT hX
      by_cases hn : s.size < 4
      · -- too short: 'if n < sz { return RuneError, 1 }': ahead of every further byte
        have hnz : (s.size : Int) < 4 := by omega
        clear hq1 hq2 hq3
        go_enter Tryz.func197, Tryz.ntmps197
        go_wp2
        all_goals (go_ret2; refine ⟨?_, (Below.refl _ _).alloc (Nat.le_refl _) _⟩; utf8_leaf)
      · -- long enough: every byte that is read is there
        have hz1 : (1 : Int) < (s.size : Int) := by omega
        have hz2 : (2 : Int) < (s.size : Int) := by omega
        have hz3 : (3 : Int) < (s.size : Int) := by omega
        have hs1 := hq1 (by omega)
        have hs2 := hq2 (by omega)
        have hs3 := hq3 (by omega)
        clear hq1 hq2 hq3
        go_enter Tryz.func197, Tryz.ntmps197
        go_wp2
        all_goals (go_ret2; refine ⟨?_, (Below.refl _ _).alloc (Nat.le_refl _) _⟩; utf8_leaf)
    · -- first[s0] = 68: 4 bytes; acceptRanges[4]
      rw [hX] at hc0 hres
      have ha0 := (hT.2 4 (by omega)).1
      have ha1 := (hT.2 4 (by omega)).2
      simp only [accLo, accHi, Nat.reduceMul, Nat.reduceAdd, Nat.reduceEqDiff, if_true, if_false, Nat.reduceMod, Nat.reduceDiv] at ha0 ha1 hres
      rw [hres]
      clear hres hT hX
      by_cases hn : s.size < 4
      · -- too short: 'if n < sz { return RuneError, 1 }': ahead of every further byte
        have hnz : (s.size : Int) < 4 := by omega
        clear hq1 hq2 hq3
        go_enter Tryz.func197, Tryz.ntmps197
        go_wp2
        all_goals (go_ret2; refine ⟨?_, (Below.refl _ _).alloc (Nat.le_refl _) _⟩; utf8_leaf)
      · -- long enough: every byte that is read is there
        have hz1 : (1 : Int) < (s.size : Int) := by omega
        have hz2 : (2 : Int) < (s.size : Int) := by omega
        have hz3 : (3 : Int) < (s.size : Int) := by omega
        have hs1 := hq1 (by omega)
        have hs2 := hq2 (by omega)
        have hs3 := hq3 (by omega)
        clear hq1 hq2 hq3
        go_enter Tryz.func197, Tryz.ntmps197
        go_wp2
        all_goals (go_ret2; refine ⟨?_, (Below.refl _ _).alloc (Nat.le_refl _) _⟩; utf8_leaf)



set_option maxHeartbeats 1000000 in
set_option maxRecDepth 1000000 in
/-- The fast road: an ASCII byte at the head. -/
theorem decodeRune_ascii (n b off cap x0 : Nat) (w : World) (hn : (0 : Int) < (n : Int)) (hs0 : w.cell? ⟨b, off, none⟩ = some (.int .u8 x0)) (ha : (x0 : Int) < 128) :
    Calls Tryz.prog 175 #[.slice (some ⟨b, off, none⟩) n cap] w fun e w' => e = .returned (.tuple #[.int .i32 x0, .int .i64 1]) ∧ w' = w := by
  go_enter Tryz.func175, Tryz.ntmps175
  go_wp2
  go_loop [8] (fun i => i = .int .i64 0) (fun _ => 0)
  case atStart => rfl
  case round =>
    subst hrel
    go_wp2
    go_ret2
    exact ⟨rfl, rfl⟩

set_option maxHeartbeats 1000000 in
set_option maxRecDepth 1000000 in
/-- The slow road: p is empty, or its first byte is no ASCII: what decodeRuneSlow hands back. -/
theorem decodeRune_on (n b off cap : Nat) (w : World) (R K : Int) (Q : World → Prop)
    (hh : (n : Int) ≤ 0 ∨ ((0 : Int) < (n : Int) ∧ ∃ x0 : Nat, w.cell? ⟨b, off, none⟩ = some (.int .u8 x0) ∧ ¬ ((x0 : Int) < 128)))
    (cS : Calls Tryz.prog 197 #[.slice (some ⟨b, off, none⟩) n cap] w fun e w' => e = .returned (.tuple #[.int .i32 R, .int .i64 K]) ∧ Q w') :
    Calls Tryz.prog 175 #[.slice (some ⟨b, off, none⟩) n cap] w fun e w' => e = .returned (.tuple #[.int .i32 R, .int .i64 K]) ∧ Q w' := by
  go_enter Tryz.func175, Tryz.ntmps175
  go_wp2
  go_loop [8] (fun i => i = .int .i64 0) (fun _ => 0)
  case atStart => rfl
  case round =>
    subst hrel
    rcases hh with hz | ⟨hz, x0, hs0, ha⟩
    · have hz' : ¬ ((0 : Int) < (n : Int)) := by omega
      go_wp2_with (go_at_call 197; refine cS.mono ?_; rintro e w' ⟨rfl, hb⟩)
      go_ret2
      exact ⟨rfl, hb⟩
    · go_wp2_with (go_at_call 197; refine cS.mono ?_; rintro e w' ⟨rfl, hb⟩)
      go_ret2
      exact ⟨rfl, hb⟩

/-- **unicode/utf8.DecodeRune AT EVERY SLICE OF BYTES THAT IS NOT nil** (s: the bytes that p holds). -/
theorem decodeRune_any (s : ByteArray) (b off cap : Nat) (w : World) (hT : Lib.Utf8Tabs 2 3 w)
    (hp : ∀ j, j < s.size → w.cell? ⟨b, off + j, none⟩ = some (.int .u8 (s.get! j).toNat)) :
    Calls Tryz.prog 175 #[.slice (some ⟨b, off, none⟩) s.size cap] w fun e w' => e = .returned (.tuple #[.int .i32 (Lib.decodeGo s).1, .int .i64 (Lib.decodeGo s).2]) ∧ Below w.heap.size w w' := by
  have cS := decodeRuneSlow_any s b off cap w hT hp
  by_cases h0 : s.size = 0
  · exact decodeRune_on s.size b off cap w _ _ _ (Or.inl (by omega)) cS
  · have hs0 : w.cell? ⟨b, off, none⟩ = some (.int .u8 (s.get! 0).toNat) := hp 0 (by omega)
    by_cases ha : (s.get! 0).toNat < 128
    · have hd : Lib.decodeGo s = ((s.get! 0).toNat, 1) := by
        simp only [Lib.decodeGo, h0, if_false]
        rw [Lib.decode_at]
        simp [decodeN, ha]
      rw [hd]
      refine (decodeRune_ascii s.size b off cap _ w (by omega) hs0 (by omega)).mono ?_
      rintro e w' ⟨rfl, rfl⟩
      exact ⟨rfl, Below.refl _ _⟩
    · exact decodeRune_on s.size b off cap w _ _ _ (Or.inr ⟨by omega, _, hs0, by omega⟩) cS

end Go.Proofs.Zap
