/- a text of the claims over the seat; its order and aim: NOTES.md -/
import Derived.Test.YtpllbhobcnglnaaGreatDoorZT8
namespace Go.Proofs.Zap
open Go Go.Proofs Go.RowKit

/-- a moment as the library has it -/
def tmA (N : Int) (zone : ByteArray) (a : Int) : Array Value := #[.int .i64 (N / 1000000000 + 62135596800), .int .i32 (N % 1000000000), .string zone, .int .i64 a]

theorem below_alloc_set (w : World) (o : Obj) (v : Value) : Below w.heap.size w ((w.alloc o).setRow w.heap.size #[v]) := below_setRow ((Below.refl _ _).alloc (Nat.le_refl _) _) (Nat.le_refl _) _

set_option maxHeartbeats 1000000 in
theorem unix_any (N : Int) (h0 : -9223372036854775808 ≤ N) (h1 : N ≤ 9223372036854775807) (w : World) :
    Calls Tryz.prog 110 #[.int .i64 0, .int .i64 N] w fun e w' => e = .returned (.agg (tmA N ⟨#[85, 84, 67]⟩ 0)) ∧ Below w.heap.size w w' := by
  have hr0 : 0 ≤ N % 1000000000 := Int.emod_nonneg _ (by omega)
  have hr1 : N % 1000000000 < 1000000000 := Int.emod_lt_of_pos _ (by omega)
  have hS0 : -9223372037 ≤ N / 1000000000 := by omega
  have hS1 : N / 1000000000 ≤ 9223372036 := by omega
  by_cases hin : 0 ≤ N ∧ N < 1000000000
  · have e1 : N / 1000000000 = 0 := by omega
    have e2 : N % 1000000000 = N := by omega
    unfold tmA
    rw [e1, e2]
    clear e1 e2 hr0 hr1 hS0 hS1
    obtain ⟨ha, hb⟩ := hin
    go_enter Tryz.func110, Tryz.ntmps110
    go_wp2
    refine bodyPost_ret (results_cell_row rfl _ _ w.heap.size 112 _ (0, 0) _ rfl (Blk.new w 112 _) Tryz.underlying112 rfl (by kernel_rfl)) rfl ⟨rfl, (Below.refl _ _).alloc (Nat.le_refl _) _⟩
  · have hf := floor_eq N 1000000000 (by omega)
    have hor : (N < 0) ∨ (0 ≤ N ∧ 1000000000 ≤ N) := by omega
    have hcase : (N - N.tdiv 1000000000 * 1000000000 < 0 ∧ N < 0 ∧ N.tdiv 1000000000 - 1 = N / 1000000000 ∧ N - N.tdiv 1000000000 * 1000000000 + 1000000000 = N % 1000000000 ∧ -9223372036 ≤ N.tdiv 1000000000 ∧ N.tdiv 1000000000 ≤ 0 ∧ -9223372036854775808 ≤ N.tdiv 1000000000 * 1000000000 ∧ N.tdiv 1000000000 * 1000000000 ≤ 0) ∨
        (0 ≤ N - N.tdiv 1000000000 * 1000000000 ∧ (N < 0 → N - N.tdiv 1000000000 * 1000000000 = 0) ∧ N.tdiv 1000000000 = N / 1000000000 ∧ N - N.tdiv 1000000000 * 1000000000 = N % 1000000000) := by
      have e1 := Int.mul_tdiv_add_tmod N 1000000000
      have e2 := Int.mul_ediv_add_emod N 1000000000
      have e3 : 1000000000 * N.tdiv 1000000000 = N.tdiv 1000000000 * 1000000000 := Int.mul_comm _ _
      by_cases hN : N.tmod 1000000000 < 0
      · left
        have hneg : N < 0 := Int.not_le.1 fun h => by rw [Int.tmod_eq_emod_of_nonneg h] at hN; omega
        rw [if_pos ⟨by omega, hneg⟩] at hf
        omega
      · right
        by_cases h2 : N.tmod 1000000000 ≠ 0 ∧ N < 0
        · exfalso
          rw [if_pos h2] at hf
          omega
        · rw [if_neg h2] at hf
          omega
    clear hf
    rcases hcase with ⟨hN, hneg, hq, hr, hl1, hl2, hl3, hl4⟩ | ⟨hN, hnz, hq, hr⟩
    · unfold tmA
      generalize N / 1000000000 = S at *
      generalize N % 1000000000 = R at *
      clear hor hin
      go_enter Tryz.func110, Tryz.ntmps110
      go_wp2
      refine bodyPost_ret (results_cell_row rfl _ _ w.heap.size 112 _ (0, 0) _ rfl (Blk.new w 112 _) Tryz.underlying112 rfl (by kernel_rfl)) rfl ⟨rfl, (Below.refl _ _).alloc (Nat.le_refl _) _⟩
    · rw [hq] at hr hN hnz
      unfold tmA
      generalize N / 1000000000 = S at *
      generalize N % 1000000000 = R at *
      have hm0 : -9223372036854775808 ≤ S * 1000000000 := by omega
      have hm1 : S * 1000000000 ≤ 9223372036854775807 := by omega
      clear hnz
      clear hin
      rcases hor with hor | ⟨hor1, hor2⟩
      all_goals
        go_enter Tryz.func110, Tryz.ntmps110
        go_wp2
        refine bodyPost_ret (results_cell_row rfl _ _ w.heap.size 112 _ (0, 0) _ rfl (Blk.new w 112 _) Tryz.underlying112 rfl (by kernel_rfl)) rfl ⟨rfl, (Below.refl _ _).alloc (Nat.le_refl _) _⟩

set_option maxHeartbeats 1000000 in
theorem in_any (x n : Int) (z zone : ByteArray) (o a : Int) (w : World) :
    Calls Tryz.prog 111 #[.agg #[.int .i64 x, .int .i32 n, .string z, .int .i64 o], .string zone, .int .i64 a] w fun e w' => e = .returned (.agg #[.int .i64 x, .int .i32 n, .string zone, .int .i64 a]) ∧ Below w.heap.size w w' := by
  go_enter Tryz.func111, Tryz.ntmps111
  go_wp2
  refine bodyPost_ret (results_cell_row rfl _ _ (w.heap.size + 1) 112 _ (0, 0) _ rfl (Blk.new2 w _ 112 _) Tryz.underlying112 rfl (by kernel_rfl)) rfl ⟨rfl, ((Below.refl _ _).alloc (Nat.le_refl _) _).alloc (by simp) _⟩

/-- a moment as it is asked for -/
def mzA (zero : Bool) (N a : Int) (zone : ByteArray) : Array Value := #[.bool zero, .int .i64 N, .int .i64 a, .string zone]

abbrev Mst (w w' : World) (N a : Int) (zone : ByteArray) (B : Nat) : Prop :=
  Hid (Below w.heap.size w w') ∧ B + 1 < w'.heap.size ∧ w'.cell? ⟨B, 1, none⟩ = some (.int .i64 N) ∧ w'.cell? ⟨B, 2, none⟩ = some (.int .i64 a) ∧ w'.cell? ⟨B, 3, none⟩ = some (.string zone) ∧
  w'.cell? ⟨B + 1, 0, none⟩ = some (.int .i64 0) ∧ w'.cell? ⟨B + 1, 1, none⟩ = some (.int .i32 0) ∧ w'.cell? ⟨B + 1, 2, none⟩ = some (.string ⟨#[]⟩) ∧ w'.cell? ⟨B + 1, 3, none⟩ = some (.int .i64 0) ∧
  w'.frozen? ⟨B + 1, 0, none⟩ = false ∧ w'.frozen? ⟨B + 1, 1, none⟩ = false ∧ w'.frozen? ⟨B + 1, 2, none⟩ = false ∧ w'.frozen? ⟨B + 1, 3, none⟩ = false ∧ Hid (Blk w' (B + 1) 112 #[.int .i64 0, .int .i32 0, .string ⟨#[]⟩, .int .i64 0])
theorem mst_keep {w W W' : World} {N a : Int} {zone : ByteArray} {B : Nat} (hb : Below W.heap.size W W') (k : Mst w W N a zone B) : Mst w W' N a zone B := by
  obtain ⟨k1, k2, k3, k4, k5, k6, k7, k8, k9, f0, f1, f2, f3, kz⟩ := k
  have hs := hb.size
  have hc : ∀ b o, b < W.heap.size → W'.cell? ⟨b, o, none⟩ = W.cell? ⟨b, o, none⟩ := fun b o h => hb.cell (p := ⟨b, o, none⟩) h
  have hf : ∀ b o, b < W.heap.size → W'.frozen? ⟨b, o, none⟩ = W.frozen? ⟨b, o, none⟩ := fun b o h => hb.frozen (p := ⟨b, o, none⟩) h
  have hl : w.heap.size ≤ W.heap.size := k1.out.size
  have b0 : B < W.heap.size := by omega
  exact ⟨Lib.hid (k1.out.trans (hb.mono hl)), by omega, (hc _ _ b0).trans k3, (hc _ _ b0).trans k4, (hc _ _ b0).trans k5, (hc _ _ k2).trans k6, (hc _ _ k2).trans k7, (hc _ _ k2).trans k8, (hc _ _ k2).trans k9, (hf _ _ k2).trans f0, (hf _ _ k2).trans f1, (hf _ _ k2).trans f2, (hf _ _ k2).trans f3, Lib.hid (kz.out.below hb k2)⟩

theorem mst_drew {w W : World} {N a : Int} {zone : ByteArray} {B : Nat} (k : Mst w W N a zone B) : Mst w W.drew N a zone B := by
  obtain ⟨k1, k2, k3, k4, k5, k6, k7, k8, k9, f0, f1, f2, f3, kz⟩ := k
  exact ⟨Lib.hid k1.out.drew, by simpa using k2, k3, k4, k5, k6, k7, k8, k9, f0, f1, f2, f3, Lib.hid kz.out.drew⟩

set_option maxHeartbeats 1000000 in
theorem moment_any (N a : Int) (zone : ByteArray) (h0 : -9223372036854775808 ≤ N) (h1 : N ≤ 9223372036854775807) (w : World) :
    Calls Tryz.prog 64 #[.agg (mzA false N a zone)] w fun e w' => e = .returned (.agg (tmA N zone a)) ∧ Below w.heap.size w w' := by
  unfold mzA
  have h110 := unix_any N h0 h1
  unfold tmA at h110 ⊢
  have H110 := Lib.hid h110
  clear h110
  go_enter Tryz.func64, Tryz.ntmps64
  go_wp2_with fail
  have hk : Mst w ((w.alloc (.cells #[.bool false, .int .i64 N, .int .i64 a, .string zone] 34)).alloc (.cells #[.int .i64 0, .int .i32 0, .string ⟨#[]⟩, .int .i64 0] 112)) N a zone w.heap.size := by
    have hB : Blk ((w.alloc (.cells #[.bool false, .int .i64 N, .int .i64 a, .string zone] 34)).alloc (.cells #[.int .i64 0, .int .i32 0, .string ⟨#[]⟩, .int .i64 0] 112)) w.heap.size 34 #[.bool false, .int .i64 N, .int .i64 a, .string zone] := (Blk.new w _ _).alloc _
    have hZ : Blk ((w.alloc (.cells #[.bool false, .int .i64 N, .int .i64 a, .string zone] 34)).alloc (.cells #[.int .i64 0, .int .i32 0, .string ⟨#[]⟩, .int .i64 0] 112)) (w.heap.size + 1) 112 #[.int .i64 0, .int .i32 0, .string ⟨#[]⟩, .int .i64 0] := Blk.new2 w _ _ _
    exact ⟨Lib.hid (((Below.refl _ _).alloc (Nat.le_refl _) _).alloc (by simp) _), by simp, hB.cell 1, hB.cell 2, hB.cell 3, hZ.cell 0, hZ.cell 1, hZ.cell 2, hZ.cell 3, hZ.frozen 0, hZ.frozen 1, hZ.frozen 2, hZ.frozen 3, Lib.hid hZ⟩
  have HK := Lib.hid hk
  clear hk
  generalize World.alloc (w.alloc _) _ = w0 at HK ⊢
  obtain ⟨k1, k2, k3, k4, k5, k6, k7, k8, k9, f0, f1, f2, f3, kz⟩ := HK.out
  clear HK
  go_region_with (first | (go_at_call 110; (with_reducible refine (H110.out _).mono ?_); rintro e w' ⟨rfl, hb⟩; have hk' : Mst w w' N a zone w.heap.size := (by first | exact mst_keep hb ⟨k1, k2, k3, k4, k5, k6, k7, k8, k9, f0, f1, f2, f3, kz⟩ | exact mst_keep hb (mst_drew ⟨k1, k2, k3, k4, k5, k6, k7, k8, k9, f0, f1, f2, f3, kz⟩)); clear hb k1 k2 k3 k4 k5 k6 k7 k8 k9 f0 f1 f2 f3 kz; obtain ⟨k1, k2, k3, k4, k5, k6, k7, k8, k9, f0, f1, f2, f3, kz⟩ := hk') | (go_at_call 111; (with_reducible refine (in_any _ _ _ _ _ _ _).mono ?_); rintro e w' ⟨rfl, hb⟩; have hk' : Mst w w' N a zone w.heap.size := (by first | exact mst_keep hb ⟨k1, k2, k3, k4, k5, k6, k7, k8, k9, f0, f1, f2, f3, kz⟩ | exact mst_keep hb (mst_drew ⟨k1, k2, k3, k4, k5, k6, k7, k8, k9, f0, f1, f2, f3, kz⟩)); clear hb k1 k2 k3 k4 k5 k6 k7 k8 k9 f0 f1 f2 f3 kz; obtain ⟨k1, k2, k3, k4, k5, k6, k7, k8, k9, f0, f1, f2, f3, kz⟩ := hk'))
  all_goals
    have hfin := (((kz.out.set_ 0 (.int .i64 (N / 1000000000 + 62135596800))).set_ 1 (.int .i32 (N % 1000000000))).set_ 2 (.string zone)).set_ 3 (.int .i64 a)
    have hbf := (((k1.out.setCell (p := ⟨w.heap.size + 1, 0, none⟩) (by simp) (.int .i64 (N / 1000000000 + 62135596800))).setCell (p := ⟨w.heap.size + 1, 1, none⟩) (by simp) (.int .i32 (N % 1000000000))).setCell (p := ⟨w.heap.size + 1, 2, none⟩) (by simp) (.string zone)).setCell (p := ⟨w.heap.size + 1, 3, none⟩) (by simp) (.int .i64 a)
    have HF := Lib.hid hfin
    have HBF := Lib.hid hbf
    clear hfin hbf k1 k2 k3 k4 k5 k6 k7 k8 k9 f0 f1 f2 f3 kz
    go_wp2_with fail
    refine bodyPost_ret (results_cell_row rfl _ _ (w.heap.size + 1) 112 #[.int .i64 (N / 1000000000 + 62135596800), .int .i32 (N % 1000000000), .string zone, .int .i64 a] (0, 0) _ rfl ?_ Tryz.underlying112 rfl (by kernel_rfl)) rfl ⟨rfl, HBF.out⟩
    exact HF.out
end Go.Proofs.Zap
