/- a text of the claims over the seat; its order and aim: NOTES.md -/
import Derived.Test.YtpllbhobcnglnaaGreatDoorZQO
import Derived.Test.YtpllbhobcnglnaaGreatDoorZQ5
import Derived.Test.YtpllbhobcnglnaaGreatDoorZQ6
import Derived.Test.YtpllbhobcnglnaaGreatDoorZP4
namespace Go.Proofs.Zap
open Go Go.Proofs Go.RowKit

/-- the law's copy of its argument, and what has been kept -/
structure LawI (w W : World) (xs : Array Value) : Prop where
  b : Below (w.heap.size + 1) (w.alloc (.cells xs 41)) W
theorem LawI.start (w : World) (xs : Array Value) : LawI w (w.alloc (.cells xs 41)) xs := ⟨Below.refl _ _⟩
theorem LawI.size {w W : World} {xs : Array Value} (h : LawI w W xs) : w.heap.size + 1 ≤ W.heap.size := by have := h.b.size; simpa using this
theorem LawI.go {w W W' : World} {xs : Array Value} (h : LawI w W xs) (hb : Below W.heap.size W W') : LawI w W' xs := ⟨h.b.trans (hb.mono h.size)⟩
theorem LawI.x {w W : World} {xs : Array Value} (h : LawI w W xs) : Blk W w.heap.size 41 xs := (Blk.new w 41 xs).below h.b (Nat.lt_succ_self _)
theorem LawI.below {w W : World} {xs : Array Value} (h : LawI w W xs) : Below w.heap.size w W := ((Below.refl _ _).alloc (Nat.le_refl _) _).trans (h.b.mono (Nat.le_succ _))

set_option maxRecDepth 100000 in
set_option maxHeartbeats 4000000 in
theorem levelOf_any (t : CT FC) (v : Value) (B : Nat) (w : World) (hc : CAt w B t v) (hB : B ≤ w.heap.size) (hT : PTab w) (h13 : 13 ≤ w.heap.size) : Calls Tryz.prog 7 #[v] w (Says w (.bool true)) := by
  obtain ⟨xk, xl, xA, xn, xc, xfA, xfn, xfc, rfl⟩ := hc.form
  obtain ⟨xs, hxs⟩ : ∃ xs, xs = #[Value.int .i64 xk, .int .i64 xl, .slice xA xn xc, .slice xfA xfn xfc] := ⟨_, rfl⟩
  have hcat : ∀ W, LawI w W xs → CAt W B t (.agg xs) ∧ B ≤ W.heap.size := fun W h => ⟨by rw [hxs]; exact hc.keep fun k hk => h.below.block k (by omega), by have := h.size; omega⟩
  have hcell : ∀ W, LawI w W xs → W.cell? ⟨w.heap.size, 0, none⟩ = some (.int .i64 xk) ∧ W.cell? ⟨w.heap.size, 1, none⟩ = some (.int .i64 xl) ∧ W.cell? ⟨w.heap.size, 2, none⟩ = some (.slice xA xn xc) ∧ W.cell? ⟨w.heap.size, 3, none⟩ = some (.slice xfA xfn xfc) := fun W h => by
    have hb := h.x
    rw [hxs] at hb
    exact ⟨hb.cell 0, hb.cell 1, hb.cell 2, hb.cell 3⟩
  have hst := LawI.start w xs
  have haw : ∀ W, LawI w W xs → Calls Tryz.prog 17 #[] W (Says W (.bool true)) := fun W h => awake_any W (hT.below h.below h13) (by have := h.size; omega)
  have h26 := fun W (h : LawI w W xs) => fits9_any t (.agg xs) B W (hcat W h).1 (hcat W h).2
  have h27 := fun W (h : LawI w W xs) => great_any t B (.agg xs) W (hcat W h).1 (hcat W h).2
  have h28 := fun W (h : LawI w W xs) => fine_any t 6 (by omega) (.agg xs) B W (hcat W h).1 (hcat W h).2
  have h29 := fun (hf : fine t 6 = true) W (h : LawI w W xs) => makes_any t 6 hf (.agg xs) B W (hcat W h).1 (hcat W h).2
  have h30 := fun (hf : fine t 6 = true) W (h : LawI w W xs) => least_any t 6 hf (.agg xs) B W (hcat W h).1 (hcat W h).2
  have h31 := fun (hf : fine t 6 = true) (hl : flen t ≤ 300) W (h : LawI w W xs) => zlevel_any t hf (.agg xs) B W (hcat W h).1 (hcat W h).2 hl (Nat.le_trans (cnt_le t 6 hf) (by omega))
  have h32 := fun (hf : fine t 6 = true) W (h : LawI w W xs) => tee_any t 6 hf (.agg xs) B W (hcat W h).1 (hcat W h).2
  subst hxs
  have HCELL := Lib.hid hcell
  have HST := Lib.hid hst
  have HAW := Lib.hid haw
  have H26 := Lib.hid h26
  have H27 := Lib.hid h27
  have H28 := Lib.hid h28
  have H29 := Lib.hid h29
  have H30 := Lib.hid h30
  have H31 := Lib.hid h31
  have H32 := Lib.hid h32
  clear hcat hcell hst haw h26 h27 h28 h29 h30 h31 h32 hc hT
  go_enter Tryz.func7, Tryz.ntmps7
  go_wp2_with fail
  refine (H26.out _ HST.out).mono ?_
  rintro e w1 ⟨b1, rfl, hb1⟩
  have L1 := Lib.hid (HST.out.go hb1)
  obtain ⟨c0, c1, c2, c3⟩ := HCELL.out w1 L1.out
  clear hb1 H26
  cases b1
  · go_wp2_with fail
    go_ret
    exact ⟨rfl, L1.out.below⟩
  go_wp2_with fail
  refine (H27.out _ L1.out).mono ?_
  rintro e w2 ⟨b2, rfl, hb2, hq2⟩
  have L2 := Lib.hid (L1.out.go hb2)
  clear c0 c1 c2 c3 hb2 H27
  cases b2
  case true =>
    go_wp2_with fail
    refine (HAW.out _ L2.out).mono ?_
    rintro e w3 ⟨rfl, hb3⟩
    have L3 := Lib.hid (L2.out.go hb3)
    clear hb3
    go_wp2_with fail
    go_ret
    exact ⟨rfl, L3.out.below⟩
  have hfl := hq2 rfl
  obtain ⟨c0, c1, c2, c3⟩ := HCELL.out w2 L2.out
  clear hq2
  go_wp2_with fail
  refine (H28.out _ L2.out).mono ?_
  rintro e w3 ⟨rfl, hb3⟩
  have L3 := Lib.hid (L2.out.go hb3)
  clear c0 c1 c2 c3 hb3 H28
  rcases hf : fine t 6 with _ | _
  · go_wp2_with fail
    refine (HAW.out _ L3.out).mono ?_
    rintro e w4 ⟨rfl, hb4⟩
    have L4 := Lib.hid (L3.out.go hb4)
    clear hb4
    go_wp2_with fail
    go_ret
    exact ⟨rfl, L4.out.below⟩
  obtain ⟨c0, c1, c2, c3⟩ := HCELL.out w3 L3.out
  go_wp2_with fail
  refine (H29.out hf _ L3.out).mono ?_
  rintro e w4 ⟨rfl, hb4⟩
  have L4 := Lib.hid (L3.out.go hb4)
  clear c0 c1 c2 c3 hb4 H29
  rcases hm : makes t with _ | _
  · go_wp2_with fail
    refine (HAW.out _ L4.out).mono ?_
    rintro e w5 ⟨rfl, hb5⟩
    have L5 := Lib.hid (L4.out.go hb5)
    clear hb5
    go_wp2_with fail
    go_ret
    exact ⟨rfl, L5.out.below⟩
  obtain ⟨c0, c1, c2, c3⟩ := HCELL.out w4 L4.out
  go_wp2_with fail
  refine (H30.out hf _ L4.out).mono ?_
  rintro e w5 ⟨rfl, hb5⟩
  have L5 := Lib.hid (L4.out.go hb5)
  clear c0 c1 c2 c3 hb5 H30
  obtain ⟨c0, c1, c2, c3⟩ := HCELL.out w5 L5.out
  have hlaw := least_law t 6 hf
  go_wp2_with fail
  refine (H31.out hf hfl _ L5.out).mono ?_
  rintro e w6 ⟨hb6, ⟨_, rfl⟩ | ⟨hm2, _⟩⟩
  case inr => rw [hm] at hm2; cases hm2
  have L6 := Lib.hid (L5.out.go hb6)
  clear c0 c1 c2 c3 hb6 H31
  generalize hga : lvK (bld t 0) = ga at *
  generalize hla : leastOf (en t) = la at *
  have HGA := Lib.hid hga
  have HLA := Lib.hid hla
  clear hga hla
  by_cases heq : ga = la
  · have hd : (ga == la) = true := by simp [heq]
    go_wp2_with fail
    go_ret
    exact ⟨rfl, L6.out.below⟩
  · have hd : (ga == la) = false := by simp [heq]
    obtain ⟨rfl, hte⟩ : la = 6 ∧ hasTee t = true := by rcases hlaw with h | h
                                                       · exact absurd h heq
                                                       · exact h
    obtain ⟨c0, c1, c2, c3⟩ := HCELL.out w6 L6.out
    go_wp2_with fail
    refine (H32.out hf _ L6.out).mono ?_
    rintro e w7 ⟨rfl, hb7⟩
    have L7 := Lib.hid (L6.out.go hb7)
    clear hb7 c0 c1 c2 c3
    rw [hte]
    go_wp2_with fail
    go_ret
    exact ⟨rfl, L7.out.below⟩
end Go.Proofs.Zap
