/- a text of the claims over the seat; its order and aim: NOTES.md -/
import Derived.Test.YtpllbhobcnglnaaGreatDoorZQK
import Derived.Test.YtpllbhobcnglnaaGreatDoorZR0
namespace Go.Proofs.Zap
open Go Go.Proofs Go.RowKit

theorem sumN_le {f : Nat → Nat} : ∀ {n i : Nat}, i < n → f i ≤ sumN n f
  | 0, i, h => by omega
  | n + 1, i, h => by
    simp only [sumN]
    by_cases e : i = n
    · subst e; omega
    · have := sumN_le (f := f) (show i < n by omega); omega
theorem sumN_mono {f : Nat → Nat} : ∀ {n i : Nat}, i ≤ n → sumN i f ≤ sumN n f
  | 0, i, h => by obtain rfl : i = 0 := by omega
                  exact Nat.le_refl _
  | n + 1, i, h => by
    by_cases e : i = n + 1
    · subst e; exact Nat.le_refl _
    · have := sumN_mono (f := f) (show i ≤ n by omega); simp only [sumN]; omega

theorem fl_bld (t : CT FC) : ∀ (d c : Nat), fine t d = true → fl (bld t c) (flen t) := by
  induction t with
  | no => intro d c hf; exact absurd hf (by simp [fine])
  | mk kind lvl n kids fs ih =>
    intro d c hf
    obtain ⟨k0, k5, hd, hn, h1, h0, hk⟩ := fine_parts hf
    have hle : ∀ i, i < n → flen (kids i) + fs.length ≤ flen (.mk kind lvl n kids fs) := fun i hi => by
      have := sumN_le (f := fun i => flen (kids i)) hi
      simp only [flen]; omega
    have hc : kind = 0 ∨ kind = 1 ∨ kind = 2 ∨ kind = 3 ∨ kind = 4 ∨ kind = 5 := by omega
    rcases hc with rfl | rfl | rfl | rfl | rfl | rfl
    · simp [bld, fl]
    · simp only [bld]
      simp
      by_cases e0 : n = 0
      · subst e0; simp [fl]
      · by_cases e1 : n = 1
        · subst e1
          simp
          exact fl_mono (ih 0 _ c (hk 0 (by omega))) (by have := hle 0 (by omega); omega)
        · rw [if_neg e0, if_neg e1]
          exact ⟨hn, fun i hi => fl_mono (ih i _ _ (hk i hi)) (by have := hle i hi; omega)⟩
    · have e := h1 (by omega); subst e
      simp [bld, fl]
      exact fl_mono (ih 0 _ _ (hk 0 (by omega))) (by have := hle 0 (by omega); omega)
    · have e := h1 (by omega); subst e
      simp [bld]
      exact fl_mono (fl_withF (ih 0 _ c (hk 0 (by omega)))) (hle 0 (by omega))
    · have e := h1 (by omega); subst e
      simp [bld, fl]
      have := hle 0 (by omega)
      exact ⟨by omega, fl_mono (ih 0 _ _ (hk 0 (by omega))) (by omega)⟩
    · simp [bld, fl]

/-- the two cells that a leaf's making reads -/
abbrev TwoS (w' : World) (X N : Nat) (a b : Value) : Prop := w'.cell? ⟨X, 1, none⟩ = some a ∧ w'.cell? ⟨N, 1, none⟩ = some b

set_option maxHeartbeats 4000000 in
theorem core_leaf (lvl : Int) (n : Nat) (A : Option Addr) (cap : Nat) (kids : Nat → CT FC) (fs : List FC) (fv : Value) (d N c : Nat) (e0 s0 : Value) (w : World) (hf : fine (.mk 0 lvl n kids fs) d = true) (hfv : ∃ fA fn fc, fv = .slice fA fn fc)
    (hN : Blk w N 128 #[e0, .int .i64 c, s0]) (hc : c ≤ 1000000) :
    Calls Tryz.prog 71 #[.agg #[.int .i64 0, .int .i64 lvl, .slice A n cap, fv], .pointer (some ⟨N, 0, none⟩)] w (CoP w N (.mk 0 lvl n kids fs) c e0 s0) := by
  obtain ⟨fA, fn, fc, rfl⟩ := hfv
  have hNl := hN.lt
  have b2 := w8_bd lvl
  have e2 := wrap8 lvl
  have hw1 : wrap64 ((c : Int) + 1) = (c : Int) + 1 := by unfold wrap64; omega
  have hw2 : IntKind.i64.wrap (c : Int) = (c : Int) := wrap64_id (by omega) (by omega)
  have hX := Blk.new w 41 #[.int .i64 0, .int .i64 lvl, .slice A n cap, .slice fA fn fc]
  have hN1 := hN.alloc (.cells #[.int .i64 0, .int .i64 lvl, .slice A n cap, .slice fA fn fc] 41)
  have cN : (w.alloc (.cells #[.int .i64 0, .int .i64 lvl, .slice A n cap, .slice fA fn fc] 41)).cell? ⟨N, 1, none⟩ = some (.int .i64 c) := hN1.cell 1
  have cF : (w.alloc (.cells #[.int .i64 0, .int .i64 lvl, .slice A n cap, .slice fA fn fc] 41)).frozen? ⟨N, 1, none⟩ = false := hN1.frozen 1
  have hsz : (w.setCell ⟨N, 1, none⟩ (.int .i64 ((c : Int) + 1))).heap.size = w.heap.size := by simp [World.setCell]
  have hN2 : Blk ((w.setCell ⟨N, 1, none⟩ (.int .i64 ((c : Int) + 1))).alloc (.cells #[.int .i64 0, .int .i64 lvl, .slice A n cap, .slice fA fn fc] 41)) N 128 #[e0, .int .i64 ((c : Int) + 1), s0] := by
    have := (hN.set_ 1 (.int .i64 ((c : Int) + 1))).alloc (.cells #[.int .i64 0, .int .i64 lvl, .slice A n cap, .slice fA fn fc] 41)
    simpa using this
  have hX2 : Blk ((w.setCell ⟨N, 1, none⟩ (.int .i64 ((c : Int) + 1))).alloc (.cells #[.int .i64 0, .int .i64 lvl, .slice A n cap, .slice fA fn fc] 41)) w.heap.size 41 #[.int .i64 0, .int .i64 lvl, .slice A n cap, .slice fA fn fc] := by
    have := Blk.new (w.setCell ⟨N, 1, none⟩ (.int .i64 ((c : Int) + 1))) 41 #[.int .i64 0, .int .i64 lvl, .slice A n cap, .slice fA fn fc]
    rwa [hsz] at this
  have hk2 : Kept (fun k => k = N) w ((w.setCell ⟨N, 1, none⟩ (.int .i64 ((c : Int) + 1))).alloc (.cells #[.int .i64 0, .int .i64 lvl, .slice A n cap, .slice fA fn fc] 41)) := (Kept.set1 w N 1 _).alloc _
  have hs2 : ((w.setCell ⟨N, 1, none⟩ (.int .i64 ((c : Int) + 1))).alloc (.cells #[.int .i64 0, .int .i64 lvl, .slice A n cap, .slice fA fn fc] 41)).heap.size = w.heap.size + 1 := by simp [hsz]
  have HS2 : TwoS ((w.setCell ⟨N, 1, none⟩ (.int .i64 ((c : Int) + 1))).alloc (.cells #[.int .i64 0, .int .i64 lvl, .slice A n cap, .slice fA fn fc] 41)) w.heap.size N (.int .i64 lvl) (.int .i64 ((c : Int) + 1)) := ⟨hX2.cell 1, hN2.cell 1⟩
  have hX3 := fun o => hX2.alloc o
  have hN3 := fun o => hN2.alloc o
  have hb5 : ∀ cs, Blk (((w.setCell ⟨N, 1, none⟩ (.int .i64 ((c : Int) + 1))).alloc (.cells #[.int .i64 0, .int .i64 lvl, .slice A n cap, .slice fA fn fc] 41)).alloc (.cells cs 205)).drew (w.heap.size + 1) 205 cs := fun cs => by
    have := Blk.new ((w.setCell ⟨N, 1, none⟩ (.int .i64 ((c : Int) + 1))).alloc (.cells #[.int .i64 0, .int .i64 lvl, .slice A n cap, .slice fA fn fc] 41)) 205 cs
    rw [hs2] at this
    exact this
  have HB5 := Lib.hid hb5
  have HX3 := Lib.hid hX3
  have HN3 := Lib.hid hN3
  have HN2 := Lib.hid hN2
  have HK2 := Lib.hid hk2
  have HS2' := Lib.hid HS2
  have hmk : makes (.mk 0 lvl n kids fs) = true := by
    obtain ⟨_, _, _, _, _, h0, _⟩ := fine_parts hf
    have e := h0 (by omega)
    subst e
    simp [makes, anyB]
  have HMK := Lib.hid hmk
  clear hX hN1 hX2 hN2 hk2 hX3 hN3 HS2 hmk hN hb5
  go_enter Tryz.func71, Tryz.ntmps71
  go_wp2_with fail
  go_region_held3 (fun w' => TwoS w' w.heap.size N (.int .i64 lvl) (.int .i64 ((c : Int) + 1))) (first | exact HS2'.out | exact ⟨(HX3.out _).cell 1, (HN3.out _).cell 1⟩) (fail)
  all_goals
    go_wp2_with fail
    go_ret2
    refine ⟨(HK2.out.alloc _).trans (Kept.drewN _ 1), .inl ⟨HMK.out, _, rfl, (HN3.out _), ?_⟩⟩
    simp only [bld, if_true]
    refine ⟨_, _, rfl, ⟨by omega, by simp⟩, HB5.out _, ⟨none, 0, rfl, Nat.le_refl _, by omega, fun _ => ⟨rfl, rfl⟩, fun h => by simp at h⟩, b2.1, b2.2⟩
end Go.Proofs.Zap
