/- a text of the claims over the seat; its order and aim: NOTES.md -/
import Derived.Test.YtpllbhobcnglnaaGreatDoorZQP
namespace Go.Proofs.Zap
open Go Go.Proofs Go.RowKit

set_option maxRecDepth 100000 in
set_option maxHeartbeats 8000000 in
theorem cores_any (h43 : W43) (t : CT FC) (v ev fv : Value) (EL : List ZE) (FL : List (List FC)) (B : Nat) (w : World) (hc : CAt w B t v) (hE : ELk w B EL ev) (hF : FFk w B FL fv) (hB : B ≤ w.heap.size) (hT : PTab w) (h13 : 13 ≤ w.heap.size) : Calls Tryz.prog 9 #[v, ev, fv] w (Says w (.bool true)) := by
  obtain ⟨xk, xl, xA, xn, xc, xfA, xfn, xfc, rfl⟩ := hc.form
  obtain ⟨xs, hxs⟩ : ∃ xs, xs = #[Value.int .i64 xk, .int .i64 xl, .slice xA xn xc, .slice xfA xfn xfc] := ⟨_, rfl⟩
  have hkp : ∀ W, LawI w W xs → ∀ k, k < B → W.heap[k]? = w.heap[k]? := fun W h k hk => h.below.block k (by omega)
  have hcat : ∀ W, LawI w W xs → CAt W B t (.agg xs) ∧ B ≤ W.heap.size := fun W h => ⟨by rw [hxs]; exact hc.keep (hkp W h), by have := h.size; omega⟩
  have hcell : ∀ W, LawI w W xs → W.cell? ⟨w.heap.size, 0, none⟩ = some (.int .i64 xk) ∧ W.cell? ⟨w.heap.size, 1, none⟩ = some (.int .i64 xl) ∧ W.cell? ⟨w.heap.size, 2, none⟩ = some (.slice xA xn xc) ∧ W.cell? ⟨w.heap.size, 3, none⟩ = some (.slice xfA xfn xfc) := fun W h => by
    have hb := h.x
    rw [hxs] at hb
    exact ⟨hb.cell 0, hb.cell 1, hb.cell 2, hb.cell 3⟩
  have hst := LawI.start w xs
  have haw : ∀ W, LawI w W xs → Calls Tryz.prog 17 #[] W (Says W (.bool true)) := fun W h => awake_any W (hT.below h.below h13) (by have := h.size; omega)
  have h26 := fun W (h : LawI w W xs) => fits9_any t (.agg xs) B W (hcat W h).1 (hcat W h).2
  have h40 := fun W (h : LawI w W xs) => fits8_any EL ev B W (hE.keep (hkp W h)) (hcat W h).2
  have h41 := fun W (h : LawI w W xs) => looked_any t (.agg xs) EL FL ev fv B W (hcat W h).1 (hE.keep (hkp W h)) (hF.keep (hkp W h)) (hcat W h).2
  have h42 := fun (q : EL.length ≤ 20 ∧ FL.length ≤ 20 ∧ flen t ≤ 300 ∧ fine t 6 = true ∧ ∀ fs, fs ∈ FL → fs.length ≤ 300) W (h : LawI w W xs) => zwrite_any t q.2.2.2.1 (.agg xs) EL FL ev fv B W (hcat W h).1 (hE.keep (hkp W h)) (hF.keep (hkp W h)) (hcat W h).2 q.2.2.1 q.1 q.2.2.2.2
  have h43' := fun (q : EL.length ≤ 20 ∧ FL.length ≤ 20 ∧ flen t ≤ 300 ∧ fine t 6 = true ∧ ∀ fs, fs ∈ FL → fs.length ≤ 300) W (h : LawI w W xs) => h43 t (.agg xs) ev fv EL FL B W q.2.2.2.1 (hcat W h).1 (hE.keep (hkp W h)) (hF.keep (hkp W h)) (hcat W h).2 q.2.2.1 q.1 q.2.2.2.2
  have h29 := fun (hf : fine t 6 = true) W (h : LawI w W xs) => makes_any t 6 hf (.agg xs) B W (hcat W h).1 (hcat W h).2
  have hpz := fun (hf : fine t 6 = true) W (h : LawI w W xs) => seen_pz (EL := EL) hf (hcat W h).1 (hF.keep (hkp W h)) EL.length
  have hbl : ∀ W, LawI w W xs → B ≤ W.heap.size := fun W h => (hcat W h).2
  obtain ⟨eA, ec, rfl, e2, e3, -, -⟩ := hE
  obtain ⟨fA, fc, rfl, f2, f3, -, -⟩ := hF
  subst hxs
  generalize hen : EL.length = en at *
  generalize hfn : FL.length = fn at *
  have HCELL := Lib.hid hcell
  have HST := Lib.hid hst
  have HAW := Lib.hid haw
  have H26 := Lib.hid h26
  have H40 := Lib.hid h40
  have H41 := Lib.hid h41
  have H42 := Lib.hid h42
  have H43 := Lib.hid h43'
  have H29 := Lib.hid h29
  have HPZ := Lib.hid hpz
  have HBL := Lib.hid hbl
  have HEN := Lib.hid hen
  have HFN := Lib.hid hfn
  clear hcat hcell hst haw h26 h40 h41 h42 h43 h43' h29 hpz hbl hc hT hkp hen hfn
  go_enter Tryz.func9, Tryz.ntmps9
  go_wp2_with fail
  refine (H26.out _ HST.out).mono ?_
  rintro e w1 ⟨b1, rfl, hb1⟩
  have L1 := Lib.hid (HST.out.go hb1)
  clear hb1 H26
  cases b1
  · go_wp2_with fail
    go_ret
    exact ⟨rfl, L1.out.below⟩
  go_wp2_with fail
  refine (H40.out _ L1.out).mono ?_
  rintro e w2 ⟨b2, rfl, hb2⟩
  have L2 := Lib.hid (L1.out.go hb2)
  clear hb2 H40
  cases b2
  · go_wp2_with fail
    go_ret
    exact ⟨rfl, L2.out.below⟩
  by_cases hbig : 2147483647 < (fn : Int)
  · go_wp2_with fail
    go_ret
    exact ⟨rfl, L2.out.below⟩
  obtain ⟨c0, c1, c2, c3⟩ := HCELL.out w2 L2.out
  go_wp2_with fail
  refine (H41.out _ L2.out).mono ?_
  rintro e w3 ⟨b3, rfl, hb3, hq3⟩
  have L3 := Lib.hid (L2.out.go hb3)
  have HQ3 := Lib.hid hq3
  clear c0 c1 c2 c3 hb3 hq3 H41
  cases b3
  · go_wp2_with fail
    refine (HAW.out _ L3.out).mono ?_
    rintro e w4 ⟨rfl, hb4⟩
    have L4 := Lib.hid (L3.out.go hb4)
    clear hb4
    go_wp2_with fail
    go_ret
    exact ⟨rfl, L4.out.below⟩
  have HQ := Lib.hid (HQ3.out rfl)
  clear HQ3
  rw [HEN.out, HFN.out] at HQ
  obtain ⟨c0, c1, c2, c3⟩ := HCELL.out w3 L3.out
  go_wp2_with fail
  refine (H42.out HQ.out _ L3.out).mono ?_
  rintro e w4 ⟨hb4, hr4⟩
  have L4 := Lib.hid (L3.out.go hb4)
  have z34 := L3.out.size
  clear c0 c1 c2 c3 H42
  rcases hr4 with ⟨hm, u, T, rfl, hs, ht⟩ | ⟨hm, rfl⟩
  · rw [HEN.out] at hs
    obtain ⟨uA, uc, rfl⟩ := hs.form
    have HS4 := Lib.hid hs
    have HT4 := Lib.hid ht
    have HM := Lib.hid hm
    clear hs ht hm hb4
    obtain ⟨c0, c1, c2, c3⟩ := HCELL.out w4 L4.out
    go_wp2_with fail
    refine (H29.out HQ.out.2.2.2.1 _ L4.out).mono ?_
    rintro e w5 ⟨rfl, hb5⟩
    have L5 := Lib.hid (L4.out.go hb5)
    have HS5 := Lib.hid (HS4.out.keep fun k hk => hb5.block k (HT4.out k hk).2)
    have z5 := hb5.size
    clear c0 c1 c2 c3 hb5 HS4
    rw [HM.out]
    obtain ⟨c0, c1, c2, c3⟩ := HCELL.out w5 L5.out
    go_wp2_with fail
    refine (H43.out HQ.out _ L5.out).mono ?_
    rintro e w6 ⟨u6, T6, he6, hs6, ht6, hb6⟩
    rw [HEN.out] at hs6
    have L6 := Lib.hid (L5.out.go hb6)
    have HS6 := Lib.hid (HS5.out.keep fun k hk => hb6.block k (by have := (HT4.out k hk).2; omega))
    have z6 := hb6.size
    obtain ⟨bA, bc, rfl⟩ := hs6.form
    subst he6
    have hpz6 := HPZ.out HQ.out.2.2.2.1 w6 L6.out
    have HB6 := Lib.hid (HBL.out w6 L6.out)
    have HP6 := Lib.hid hpz6
    have HR6 := Lib.hid hs6
    have HT6 := Lib.hid ht6
    clear hs6 ht6 hb6 hpz6 H43 H29 HPZ HBL HCELL c0 c1 c2 c3 HS5
    have hdl : (seenOf t EL FL en).length ≤ 1000000 := by
      have h1 := seenOf_len t EL FL HQ.out.2.2.2.1 en
      have h2 := HQ.out.1
      omega
    generalize hD : seenOf t EL FL en = D at *
    clear hD
    have hnn : ((D.length : Int) != (D.length : Int)) = false := by simp
    have HLL := Lib.hid (Below.refl w6.heap.size w6)
    go_wp2_with fail
    go_loopw [10] (fun i wr => ∃ j : Nat, i = .int .i64 j ∧ j ≤ D.length ∧ Hid (Below w6.heap.size w6 wr)) (fun i _ => D.length - (intOf i).toNat)
    case atStart => exact ⟨0, rfl, by omega, HLL⟩
    case round =>
      obtain ⟨j, rfl, hj, hbr⟩ := hrel
      by_cases hlt : j < D.length
      · obtain ⟨x, hx⟩ : ∃ x, D[j]? = some x := ⟨D[j], by simp⟩
        obtain ⟨g1, p1, a1, k1, e1, le1, tg1, r0, r1, r2, S1, v1, s1⟩ := seen_at HS6.out hx
        obtain ⟨g2, p2, a2, k2, e2', le2, tg2, t0, t1, t2, S2, v2, s2⟩ := seen_at HR6.out hx
        injection e1 with e11 e12 e13
        injection e2' with e21 e22 e23
        subst e11 e13 e21 e23
        have hpx := HP6.out x (List.mem_of_getElem? hx)
        obtain ⟨num, ent, gs⟩ := x
        have zr := hbr.out.size
        have hb1 : g1 < w6.heap.size := by have := (HT4.out g1 tg1).2; omega
        have hb2 : g2 < w6.heap.size := (HT6.out g2 tg2).2
        have hkk : ∀ w', Below w6.heap.size w6 w' → ∀ g o, g < w6.heap.size → w'.cell? ⟨g, o, none⟩ = w6.cell? ⟨g, o, none⟩ := fun w' h g o hg => World.cell?_of_block (w := w6) (h.block g hg)
        have hcall : ∀ w', Below w6.heap.size w6 w' → Calls Tryz.prog 44 #[.slice a1 gs.length k1, .slice a2 gs.length k2] w' (Says w' (.bool true)) := fun w' h =>
          same_pz B gs _ _ S1 S2 w' (v1.keep fun k hk => h.block k (by have := (HT4.out k (s1 k hk)).2; omega)) (v2.keep fun k hk => h.block k (HT6.out k (s2 k hk)).2) (fun k hk => by have := (HT4.out k (s1 k hk)).2; have := h.size; omega) (fun k hk => Nat.lt_of_lt_of_le (HT6.out k (s2 k hk)).2 h.size)
            (fun c hc => (hpx c hc).keep fun k hk => h.block k (by have := HB6.out; omega)) (Nat.le_trans HB6.out h.size)
        have hS : ∀ w', Below w6.heap.size w6 w' → (w'.cell? ⟨g1, j * 3, none⟩ = some (.int .i64 num) ∧ w'.cell? ⟨g1, j * 3 + 1, none⟩ = some (.int .i64 ent) ∧ w'.cell? ⟨g1, j * 3 + 2, none⟩ = some (.slice a1 gs.length k1)) ∧ w'.cell? ⟨g2, j * 3, none⟩ = some (.int .i64 num) ∧ w'.cell? ⟨g2, j * 3 + 1, none⟩ = some (.int .i64 ent) ∧ w'.cell? ⟨g2, j * 3 + 2, none⟩ = some (.slice a2 gs.length k2) := fun w' h =>
          ⟨⟨(hkk w' h g1 _ hb1).trans r0, (hkk w' h g1 _ hb1).trans r1, (hkk w' h g1 _ hb1).trans r2⟩, (hkk w' h g2 _ hb2).trans t0, (hkk w' h g2 _ hb2).trans t1, (hkk w' h g2 _ hb2).trans t2⟩
        obtain ⟨⟨y0, y1, y2⟩, y3, y4, y5⟩ := hS wr hbr.out
        have n1 : ((num : Int) != (num : Int)) = false := by simp
        have n2 : ((ent : Int) != (ent : Int)) = false := by simp
        have q0 : (0 : Int) ≤ (j : Int) := Int.natCast_nonneg _
        have q1 : (j : Int) < (D.length : Int) := by omega
        have HCALL := Lib.hid (hcall wr.drew hbr.out.drew)
        have HSS := Lib.hid hS
        have HSD := Lib.hid (hS wr.drew hbr.out.drew)
        have HBD := Lib.hid hbr.out.drew
        dsimp only at r0 r1 r2 t0 t1 t2 v1 v2
        clear r0 r1 r2 t0 t1 t2 v1 v2 hkk hcall hS hpx tg1 tg2
        go_wp2_with fail
        go_region_held3 (fun w' => (w'.cell? ⟨g1, j * 3, none⟩ = some (.int .i64 num) ∧ w'.cell? ⟨g1, j * 3 + 1, none⟩ = some (.int .i64 ent) ∧ w'.cell? ⟨g1, j * 3 + 2, none⟩ = some (.slice a1 gs.length k1)) ∧ w'.cell? ⟨g2, j * 3, none⟩ = some (.int .i64 num) ∧ w'.cell? ⟨g2, j * 3 + 1, none⟩ = some (.int .i64 ent) ∧ w'.cell? ⟨g2, j * 3 + 2, none⟩ = some (.slice a2 gs.length k2)) (first | exact HSD.out | exact HSS.out _ (HBD.out.trans (hb7.mono HBD.out.size)) | fail) ((go_at_call 44; refine HCALL.out.mono ?_; rintro e w7 ⟨rfl, hb7⟩))
        all_goals
          have HB7 := Lib.hid (HBD.out.trans (hb7.mono HBD.out.size))
          clear HCALL HSS HSD HBD hb7 y0 y1 y2 y3 y4 y5
          go_wp2_with fail
          go_roundw
          case rel => exact ⟨j + 1, by go_num, by omega, HB7⟩
          case measure => simp [intOf]; omega
      · have ej : j = D.length := by omega
        subst ej
        go_wp2_with fail
        go_ret
        exact ⟨rfl, (L6.out.go hbr.out).below⟩
  · have HM := Lib.hid hm
    clear hm hb4
    obtain ⟨c0, c1, c2, c3⟩ := HCELL.out w4 L4.out
    go_wp2_with fail
    refine (H29.out HQ.out.2.2.2.1 _ L4.out).mono ?_
    rintro e w5 ⟨rfl, hb5⟩
    have L5 := Lib.hid (L4.out.go hb5)
    clear c0 c1 c2 c3 hb5
    rw [HM.out]
    go_wp2_with fail
    refine (HAW.out _ L5.out).mono ?_
    rintro e w6 ⟨rfl, hb6⟩
    have L6 := Lib.hid (L5.out.go hb6)
    clear hb6
    go_wp2_with fail
    go_ret
    exact ⟨rfl, L6.out.below⟩
end Go.Proofs.Zap
