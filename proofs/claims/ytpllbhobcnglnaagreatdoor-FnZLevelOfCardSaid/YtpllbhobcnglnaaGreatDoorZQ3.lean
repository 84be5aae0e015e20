/- a text of the claims over the seat; its order and aim: NOTES.md -/
import Derived.Test.YtpllbhobcnglnaaGreatDoorZQ2
namespace Go.Proofs.Zap
open Go Go.Proofs Go.RowKit

theorem wrap64_id {x : Int} (h0 : -9223372036854775808 ≤ x) (h1 : x ≤ 9223372036854775807) : IntKind.i64.wrap x = x := IntWalk.i64_in _ ⟨h0, h1⟩

set_option maxHeartbeats 2000000 in
theorem en_any (t : CT FC) : ∀ (d : Nat), fine t d = true → ∀ (v : Value) (l : Int) (B : Nat) (w : World), CAt w B t v → B ≤ w.heap.size →
    Calls Tryz.prog 70 #[v, .int .i64 l] w (Says w (.bool (en t l))) := by
  induction t with
  | no => intro d hf; exact absurd hf (by simp [fine])
  | mk kind lvl n kids fs ih =>
    intro d hf v l B w hc hB
    obtain ⟨k0, k5, hd, hn, h1, h0, hk⟩ := fine_parts hf
    obtain ⟨A, cap, fv, rfl, h2, h3, h4, h5, hbd, h6⟩ := hc
    clear hbd h5 h4 hf
    have H6 := Lib.hid h6
    have hw8l : w8 (w8 l) = w8 l := w8_id (w8_bd l).1 (w8_bd l).2
    clear h6
    have hcs : kind = 0 ∨ kind = 1 ∨ kind = 2 ∨ kind = 3 ∨ kind = 4 ∨ kind = 5 := by omega
    rcases hcs with rfl | rfl | rfl | rfl | rfl | rfl
    · simp only [en]
      simp
      clear h1 h0
      have e1 := wrap8 l
      have e2 := wrap8 lvl
      have b1 := w8_bd l
      have b2 := w8_bd lvl
      generalize w8 l = L at *
      generalize w8 lvl = LV at *
      have e3 : IntKind.i64.wrap L = L := wrap64_id (by omega) (by omega)
      have e4 : IntKind.i64.wrap LV = LV := wrap64_id (by omega) (by omega)
      go_enter Tryz.func70, Tryz.ntmps70
      go_wp2_with fail
      go_ret
      exact ⟨rfl, (Below.refl _ _).alloc (Nat.le_refl _) _⟩
    · simp only [en]
      simp
      clear h1 h0 hw8l
      go_enter Tryz.func70, Tryz.ntmps70
      go_wp2_with fail
      have hXc : (w.alloc (.cells #[.int .i64 1, .int .i64 lvl, .slice A n cap, fv] 41)).cell? ⟨w.heap.size, 2, none⟩ = some (.slice A n cap) := (Blk.new w 41 #[.int .i64 1, .int .i64 lvl, .slice A n cap, fv]).cell 2
      have HB0 := Lib.hid ((Below.refl w.heap.size w).alloc (Nat.le_refl _) (.cells #[.int .i64 1, .int .i64 lvl, .slice A n cap, fv] 41))
      go_loopw [5] (fun i wr => ∃ j : Nat, i = .int .i64 j ∧ j ≤ n ∧ (∀ m, m < j → en (kids m) l = false) ∧ wr.cell? ⟨w.heap.size, 2, none⟩ = some (.slice A n cap) ∧ Hid (Below w.heap.size w wr)) (fun i _ => n - (intOf i).toNat)
      case atStart => exact ⟨0, rfl, by omega, fun m hm => absurd hm (by omega), hXc, HB0⟩
      case round =>
        obtain ⟨j, rfl, hj, hall, hxc, hbl⟩ := hrel
        by_cases hlt : j < n
        · obtain ⟨b, o, rfl, hb, hcs⟩ := H6.out (by omega)
          obtain ⟨r0, r1, r2, r3, hrow, hcat⟩ := hcs j hlt
          have kb : ∀ k, k < B → wr.heap[k]? = w.heap[k]? := fun k hk => hbl.out.block k (by omega)
          have hrow' := hrow.keep hb kb
          have hcat' := hcat.keep kb
          have c0 : wr.cell? ⟨b, o + j * 4, none⟩ = some r0 := hrow' 0 _ rfl
          have c1 : wr.cell? ⟨b, o + j * 4 + 1, none⟩ = some r1 := hrow' 1 _ rfl
          have c2 : wr.cell? ⟨b, o + j * 4 + 2, none⟩ = some r2 := hrow' 2 _ rfl
          have c3 : wr.cell? ⟨b, o + j * 4 + 3, none⟩ = some r3 := hrow' 3 _ rfl
          have q0 : (0 : Int) ≤ (j : Int) := Int.natCast_nonneg _
          have q1 : (j : Int) < (n : Int) := by omega
          have hcall := ih j (d - 1) (hk j hlt) _ l B wr hcat' (by have := hbl.out.size; omega)
          have HC := Lib.hid hcall
          clear hcall hcat hcat' hrow hrow' hcs kb
          go_wp2_with fail
          refine HC.out.mono ?_
          rintro e w' ⟨rfl, hb'⟩
          have hsz := hbl.out.size
          have hxw : w.heap.size < wr.heap.size := World.block_lt_of_cell? wr _ hxc
          have hxc' : w'.cell? ⟨w.heap.size, 2, none⟩ = some (.slice (some ⟨b, o, none⟩) n cap) := (World.cell?_of_block (w := wr) (hb'.block _ hxw)).trans hxc
          have HB := Lib.hid (hbl.out.trans (hb'.mono hsz))
          clear hb' hbl c0 c1 c2 c3 hxc
          rcases he : en (kids j) l with _ | _
          · go_wp2_with fail
            go_roundw
            case rel => exact ⟨j + 1, by go_num, by omega, fun m hm => if e : m = j then e ▸ he else hall m (by omega), hxc', HB⟩
            case measure => simp [intOf]; omega
          · go_wp2_with fail
            go_ret
            exact ⟨congrArg (fun b => Ending.returned (.bool b)) (anyB_true.2 ⟨j, hlt, he⟩).symm, HB.out⟩
        · go_wp2_with fail
          go_ret
          exact ⟨congrArg (fun b => Ending.returned (.bool b)) (anyB_false.2 fun i hi => hall i (by omega)).symm, hbl.out⟩
    · simp only [en]
      simp
      clear h1 h0
      have e1 := wrap8 l
      have e2 := wrap8 lvl
      have b1 := w8_bd l
      have b2 := w8_bd lvl
      generalize w8 l = L at *
      generalize w8 lvl = LV at *
      have e3 : IntKind.i64.wrap L = L := wrap64_id (by omega) (by omega)
      have e4 : IntKind.i64.wrap LV = LV := wrap64_id (by omega) (by omega)
      go_enter Tryz.func70, Tryz.ntmps70
      go_wp2_with fail
      go_ret
      exact ⟨rfl, (Below.refl _ _).alloc (Nat.le_refl _) _⟩
    all_goals
      try (
        have hn1 := h1 (by omega)
        subst hn1
        simp only [en]
        simp
        clear h1 h0 hw8l
        obtain ⟨b, o, rfl, hb, hcs⟩ := H6.out (by omega)
        obtain ⟨r0, r1, r2, r3, hrow, hcat⟩ := hcs 0 (by omega)
        simp at hrow
        have hb2 : b < w.heap.size := by omega
        have hcc : ∀ (W : World) , (∀ k, k < B → W.heap[k]? = w.heap[k]?) → B ≤ W.heap.size → Calls Tryz.prog 70 #[.agg #[r0, r1, r2, r3], .int .i64 l] W (Says W (.bool (en (kids 0) l))) :=
          fun W hW hBW => ih 0 (d - 1) (hk 0 (by omega)) _ l B W (hcat.keep hW) hBW
        have HCC := Lib.hid hcc
        have c0 : w.cell? ⟨b, o, none⟩ = some r0 := hrow 0 _ rfl
        have c1 : w.cell? ⟨b, o + 1, none⟩ = some r1 := hrow 1 _ rfl
        have c2 : w.cell? ⟨b, o + 2, none⟩ = some r2 := hrow 2 _ rfl
        have c3 : w.cell? ⟨b, o + 3, none⟩ = some r3 := hrow 3 _ rfl
        clear hcc hcat hrow hcs
        go_enter Tryz.func70, Tryz.ntmps70
        go_wp2_with fail
        refine (HCC.out _ (fun k hk => ((Below.refl w.heap.size w).alloc (Nat.le_refl _) _).block k (by omega)) (by simp; omega)).mono ?_
        rintro e w' ⟨rfl, hb'⟩
        go_wp2_with fail
        go_ret
        exact ⟨rfl, ((Below.refl _ _).alloc (Nat.le_refl _) _).trans (hb'.mono (by simp))⟩
        done)
    simp only [en]
    simp
    clear h1 h0 hw8l
    go_enter Tryz.func70, Tryz.ntmps70
    go_wp2_with fail
    go_ret
    exact ⟨rfl, (Below.refl _ _).alloc (Nat.le_refl _) _⟩
end Go.Proofs.Zap
