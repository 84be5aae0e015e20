/- a text of the claims over the seat; its order and aim: NOTES.md -/
import Derived.Test.YtpllbhobcnglnaaGreatDoorZQD
namespace Go.Proofs.Zap
open Go Go.Proofs Go.RowKit

theorem GFs.len {w : World} {S : Nat → Prop} {fs : List FC} {v : Value} (h : GFs w S fs v) : lenV v = fs.length := by
  obtain ⟨A, cap, h1, _⟩ := h; rw [h1]; rfl

theorem zRows_size (n : Nat) : (zRows n).size = n * 5 := by simp [zRows, size_zeroCells, Value.cells]

def GrewO (n : Nat) (w : World) (e : Ending) (w' : World) : Prop :=
    (n = 0 ∧ e = .returned (.slice none 0 0) ∧ w' = w) ∨ (0 < n ∧ ∃ cap, n ≤ cap ∧ e = .returned (.slice (some ⟨w.heap.size, 0, none⟩) 0 cap) ∧ w'.ownsRow w.heap.size 176 5 (.slice (some ⟨w.heap.size, 0, none⟩) 0 cap) 0 [] ∧ Below w.heap.size w w')
/-- Grow of nothing: nothing, or a new row that is one's own -/
theorem grow_own (n : Nat) (w : World) (h48 : n * 64 ≤ 281474976710656) : Calls Tryz.prog 374 #[.slice none 0 0, .int .i64 n] w (GrewO n w) := by
  refine (grow_any n w h48).mono ?_
  rintro e w' (h | ⟨h0, cap, h1, hm, rfl, rfl⟩)
  · exact .inl h
  · refine .inr ⟨h0, cap, h1, rfl, ⟨rfl, .inr ⟨w.heap.size, cap, _, rfl, Nat.le_refl _, row_new1 w _ 176, Nat.zero_le _, hm, ?_, by simp⟩⟩, ?_⟩
    · rw [Array.size_append, zRows_size, zRows_size]; omega
    · exact ((Below.refl _ _).alloc (Nat.le_refl _) _).trans ⟨rfl, rfl, rfl, Nat.le_refl _, fun _ _ => rfl⟩

set_option maxHeartbeats 4000000 in
/-- what Concat answers of two slices of carried fields -/
theorem concat_any (P : Nat) (fs gs : List FC) (S1 S2 : Nat → Prop) (v1 v2 : Value) (w : World) (h1 : GFs w S1 fs v1) (h2 : GFs w S2 gs v2) (hs1 : ∀ k, S1 k → k < w.heap.size) (hs2 : ∀ k, S2 k → k < w.heap.size)
    (hP : P < w.heap.size) (c0 : w.cell? ⟨P, 0, none⟩ = some v1) (c1 : w.cell? ⟨P, 1, none⟩ = some v2) (hm : fs.length + gs.length ≤ 1000000) (cap0 : Nat) :
    Calls Tryz.prog 372 #[.slice (some ⟨P, 0, none⟩) 2 cap0] w fun e w' => ∃ v', e = .returned v' ∧ GFs w' (fun k => w.heap.size ≤ k ∧ k < w'.heap.size) (fs ++ gs) v' ∧ Below w.heap.size w w' := by
  have H1 := Lib.hid h1
  have H2 := Lib.hid h2
  obtain ⟨A1, p1, rfl, -⟩ := h1
  obtain ⟨A2, p2, rfl, -⟩ := h2
  obtain ⟨n1, e1⟩ : ∃ n1, n1 = fs.length := ⟨_, rfl⟩
  obtain ⟨n2, e2⟩ : ∃ n2, n2 = gs.length := ⟨_, rfl⟩
  rw [← e1] at c0
  rw [← e2] at c1
  have hm' : n1 + n2 ≤ 1000000 := by omega
  rw [← e1, ← e2] at hm
  have E1 := Lib.hid e1
  have E2 := Lib.hid e2
  rw [← e1] at H1
  rw [← e2] at H2
  clear e1 e2
  have w1 : IntKind.i64.wrap (n1 : Int) = n1 := wrap64_id (by omega) (by omega)
  have w2 : IntKind.i64.wrap ((n1 : Int) + (n2 : Int)) = ((n1 + n2 : Nat) : Int) := by rw [wrap64_id (by omega) (by omega)]; omega
  have w3 : IntKind.i64.wrap ((0 : Int) + (n1 : Int)) = n1 := by rw [wrap64_id (by omega) (by omega)]; omega
  have hg : Calls Tryz.prog 374 #[.slice none 0 0, .int .i64 ((n1 : Int) + (n2 : Int))] w (GrewO (n1 + n2) w) := by
    have := grow_own (n1 + n2) w (by omega)
    rw [show (((n1 + n2 : Nat) : Int)) = (n1 : Int) + (n2 : Int) by omega] at this
    exact this
  have HG := Lib.hid hg
  clear hg
  go_enter Tryz.func372, Tryz.ntmps372
  go_wp2_with fail
  refine wp_loop_rounds 3 ?_
  rw [rounds_succ]
  go_wp2_with fail
  rw [rounds_succ]
  go_wp2_with fail
  rw [rounds_succ]
  go_wp2_with fail
  refine HG.out.mono ?_
  rintro e wg hgr
  clear HG
  rcases hgr with ⟨h0, rfl, rfl⟩ | ⟨hpos, cap, hcap, rfl, hown, hbel⟩
  · obtain rfl : n1 = 0 := by omega
    obtain rfl : n2 = 0 := by omega
    obtain rfl : fs = [] := List.length_eq_zero_iff.1 E1.out.symm
    obtain rfl : gs = [] := List.length_eq_zero_iff.1 E2.out.symm
    have a1 := app149nil wg S1 _ H1.out 149
    have a2 := app149nil wg S2 _ H2.out 149
    have A1' := Lib.hid a1
    have A2' := Lib.hid a2
    clear a1 a2
    go_wp2_with fail
    refine wp_loop_rounds 3 ?_
    rw [rounds_succ]
    go_wp2_with (at_builtin; refine Lib.wpList_append_run _ ?x1 (.tmp 31) (.tmp 32) 149 149 ?x2 _ _ ?x3 ?x4 _ _ A1'.out ?_)
    case x1 => rfl
    case x2 => rfl
    case x3 => rfl
    case x4 => rfl
    go_wp2_with fail
    rw [rounds_succ]
    go_wp2_with (at_builtin; refine Lib.wpList_append_run _ ?x1 (.tmp 31) (.tmp 32) 149 149 ?x2 _ _ ?x3 ?x4 _ _ A2'.out ?_)
    case x1 => rfl
    case x2 => rfl
    case x3 => rfl
    case x4 => rfl
    go_wp2_with fail
    rw [rounds_succ]
    go_wp2_with fail
    go_ret
    exact ⟨_, rfl, ⟨none, 0, rfl, by simp, by omega, fun _ => ⟨rfl, rfl⟩, fun h => by simp at h⟩, Below.refl _ _⟩
  · have hk : ∀ k, k < w.heap.size → wg.heap[k]? = w.heap[k]? := hbel.block
    have hsz := hbel.size
    have d0 := (World.cell?_of_block (a := ⟨P, 0, none⟩) (hk P hP)).trans c0
    have d1 := (World.cell?_of_block (a := ⟨P, 1, none⟩) (hk P hP)).trans c1
    have K1 := H1.out.keep fun k hk1 => hk k (hs1 k hk1)
    obtain ⟨wa, r1, o1, g1⟩ := app149 wg w.heap.size w.heap.size 0 cap [] hown S1 fs _ K1 (by have := E1.out; omega) 149
    rw [Nat.zero_add, List.nil_append, ← E1.out] at o1
    rw [Nat.zero_add, ← E1.out] at r1
    have hk2 : ∀ k, k < w.heap.size → wa.heap[k]? = w.heap[k]? := fun k hkk => (g1.block k (by omega) (by simp; omega)).trans (hk k hkk)
    have K2 := H2.out.keep fun k hk1 => hk2 k (hs2 k hk1)
    obtain ⟨wb, r2, o2, g2⟩ := app149 wa w.heap.size w.heap.size n1 cap (crows fs) o1 S2 gs _ K2 (by have := E2.out; omega) 149
    rw [← crows_append] at o2
    rw [← E2.out] at r2
    have e1 := World.cell?_of_block (a := ⟨P, 1, none⟩) (hk2 P hP)
    have d1' := e1.trans c1
    have hbw : Below w.heap.size w wb := ⟨g2.os.trans (g1.os.trans hbel.os), g2.tape.trans (g1.tape.trans hbel.tape), g2.output.trans (g1.output.trans hbel.output), by have := g1.size; have := g2.size; omega,
      fun k hkk => (g2.block k (by have := g1.size; omega) (by simp; omega)).trans (hk2 k hkk)⟩
    have e2 : n1 + gs.length = (fs ++ gs).length := by have := E1.out; simp; omega
    rw [e2] at o2
    have hgf := gfs_of_own o2
    have R1 := Lib.hid r1
    have R2 := Lib.hid r2
    have HF : Hid (GFs wb (fun k => w.heap.size ≤ k ∧ k < wb.heap.size) (fs ++ gs) (.slice (some ⟨w.heap.size, 0, none⟩) (n1 + n2) cap)) := Lib.hid (by
      rw [show n1 + n2 = (fs ++ gs).length by have := E1.out; have := E2.out; simp; omega]; exact hgf)
    have HBW := Lib.hid hbw
    clear hown hbel hk c0 c1 K1 K2 r1 r2 o1 o2 g1 g2 hk2 hbw hgf e1 e2
    go_wp2_with fail
    refine wp_loop_rounds 3 ?_
    rw [rounds_succ]
    go_wp2_with (at_builtin; refine Lib.wpList_append_run _ ?x1 (.tmp 31) (.tmp 32) 149 149 ?x2 _ _ ?x3 ?x4 _ _ R1.out ?_)
    case x1 => rfl
    case x2 => rfl
    case x3 => rfl
    case x4 => rfl
    go_wp2_with fail
    rw [rounds_succ]
    go_wp2_with (at_builtin; refine Lib.wpList_append_run _ ?x1 (.tmp 31) (.tmp 32) 149 149 ?x2 _ _ ?x3 ?x4 _ _ R2.out ?_)
    case x1 => rfl
    case x2 => rfl
    case x3 => rfl
    case x4 => rfl
    go_wp2_with fail
    rw [rounds_succ]
    go_wp2_with fail
    go_ret
    exact ⟨_, rfl, HF.out, HBW.out⟩
end Go.Proofs.Zap
