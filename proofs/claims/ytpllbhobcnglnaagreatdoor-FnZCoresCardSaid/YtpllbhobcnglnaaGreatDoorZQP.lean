/- a text of the claims over the seat; its order and aim: NOTES.md -/
import Derived.Test.YtpllbhobcnglnaaGreatDoorZP2
import Derived.Test.YtpllbhobcnglnaaGreatDoorZP3
import Derived.Test.YtpllbhobcnglnaaGreatDoorZSB
import Derived.Test.YtpllbhobcnglnaaGreatDoorZSC
import Derived.Test.YtpllbhobcnglnaaGreatDoorZ2
import Derived.Test.YtpllbhobcnglnaaGreatDoorZSA
import Derived.Test.YtpllbhobcnglnaaGreatDoorZQ6
namespace Go.Proofs.Zap
open Go Go.Proofs Go.RowKit

theorem enc96_0 (w : World) : Calls Tryz.prog 96 #[.int .i64 0] w fun e w' => e = .returned .nilFunc ∧ w' = w := by
  go_enter Tryz.func96, Tryz.ntmps96
  go_wp2
  go_ret
  exact ⟨rfl, rfl⟩
theorem enc97_0 (s : ByteArray) (w : World) : Calls Tryz.prog 97 #[.int .i64 0, .string s] w fun e w' => e = .returned .nilFunc ∧ w' = w := by
  go_enter Tryz.func97, Tryz.ntmps97
  go_wp2
  go_ret
  exact ⟨rfl, rfl⟩
theorem enc98_2 (w : World) : Calls Tryz.prog 98 #[.int .i64 2] w fun e w' => e = .returned (.func (.func 160) #[] #[]) ∧ w' = w := by
  go_enter Tryz.func98, Tryz.ntmps98
  go_wp2
  go_ret
  exact ⟨rfl, rfl⟩
theorem enc99_0 (w : World) : Calls Tryz.prog 99 #[.int .i64 0] w fun e w' => e = .returned .nilFunc ∧ w' = w := by
  go_enter Tryz.func99, Tryz.ntmps99
  go_wp2
  go_ret
  exact ⟨rfl, rfl⟩

theorem itoa1500 : Lib.itoa 1500 = [49, 53, 48, 48] := by
  simp [Lib.itoa, Lib.decDigits]

set_option maxHeartbeats 2000000 in
set_option maxRecDepth 100000 in
theorem durText_any (w : World) (hT : PTab w) (h13 : 13 ≤ w.heap.size) :
    Calls Tryz.prog 13 #[.int .i64 1500, .int .i64 2] w fun e w' => e = .returned (.string ⟨#[49, 53, 48, 48]⟩) ∧ Below w.heap.size w w' := by
  go_enter Tryz.func13, Tryz.ntmps13
  go_wp2_with fail
  refine (configD_any ⟨#[]⟩ ⟨#[]⟩ ⟨#[]⟩ ⟨#[]⟩ ⟨#[]⟩ ⟨#[]⟩ ⟨#[]⟩ false ⟨#[]⟩ 0 0 2 0 0 ⟨#[]⟩ ⟨#[]⟩ 160 enc96_0 (enc97_0 _) enc98_2 enc99_0 rfl _).mono ?_
  rintro e w1 ⟨rfl, hb1⟩
  have hD1 : w1.cell? ⟨w.heap.size, 0, none⟩ = some (.int .i64 1500) := by
    rw [hb1.cell (p := ⟨w.heap.size, 0, none⟩) (by simp)]
    exact cell_of_one (heap_alloc_new w _)
  have hs1 : w.heap.size < w1.heap.size := by have := hb1.size; simp at this; omega
  have hbel : Below w.heap.size w w1 := ((Below.refl _ w).alloc (Nat.le_refl _) _).trans (hb1.mono (by simp))
  have hT1 : PTab w1 := hT.below hbel h13
  have HB := Lib.hid hbel
  clear hb1 hbel
  go_wp2_with fail
  have hv := valueDur_any w.heap.size 1500 (by omega) (by omega) w1 hT1 (by omega) (by rw [itoa1500]; decide) hD1 hs1
  rw [itoa1500] at hv
  refine hv.mono ?_
  rintro e w2 ⟨rfl, hb2⟩
  have HB2 := Lib.hid (HB.out.trans (hb2.mono (by omega)))
  clear hb2 hv
  go_wp2_with fail
  go_ret
  exact ⟨rfl, HB2.out⟩

set_option maxHeartbeats 2000000 in
set_option maxRecDepth 100000 in
theorem awake_any (w : World) (hT : PTab w) (h13 : 13 ≤ w.heap.size) :
    Calls Tryz.prog 17 #[] w fun e w' => e = .returned (.bool true) ∧ Below w.heap.size w w' := by
  go_enter Tryz.func17, Tryz.ntmps17
  go_wp2_with fail
  refine (leveltext_any w).mono ?_
  rintro e w1 ⟨rfl, hb1⟩
  have hs := hb1.size
  have HB := Lib.hid hb1
  clear hb1
  go_wp2_with fail
  refine (durText_any w1 (hT.below HB.out h13) (by omega)).mono ?_
  rintro e w2 ⟨rfl, hb2⟩
  have HB2 := Lib.hid (HB.out.trans (hb2.mono (by omega)))
  clear hb2
  go_wp2_with fail
  go_ret
  exact ⟨rfl, HB2.out⟩
end Go.Proofs.Zap

/- the law of the cores, over what ZWritten is to answer -/
namespace Go.Proofs.Zap
open Go Go.Proofs Go.RowKit

theorem FsOk.up1 {w : World} {B : Nat} : ∀ {d : Nat} {v : Value}, FsOk w B d v → FsOk w B (d + 1) v
  | 0, v, h => h.elim
  | d + 1, v, h => by
    obtain ⟨A, n, cap, h1, h2, h3, h4, h5⟩ := h
    refine ⟨A, n, cap, h1, h2, h3, h4, fun hn => ?_⟩
    obtain ⟨b, o, e, hb, hc⟩ := h5 hn
    refine ⟨b, o, e, hb, fun i hi => ?_⟩
    obtain ⟨c, g1, g2, g3, g4⟩ := hc i hi
    exact ⟨c, g1, g2, FsOk.up1 g3, g4⟩
theorem FsOk.le {w : World} {B d : Nat} {v : Value} (h : FsOk w B d v) : ∀ e, d ≤ e → FsOk w B e v := by
  intro e he
  induction e with
  | zero => have : d = 0 := by omega
            subst this; exact h
  | succ e ih =>
    by_cases hd : d = e + 1
    · subst hd; exact h
    · exact FsOk.up1 (ih (by omega))
theorem pz_common {w : World} {B : Nat} : ∀ fs : List FC, (∀ c, c ∈ fs → Pz w B c) → ∃ d, ∀ c, c ∈ fs → BytesOk w B c.bytes ∧ FsOk w B d c.items
  | [], _ => ⟨0, fun c h => by cases h⟩
  | c :: fs, h => by
    obtain ⟨d, hd⟩ := pz_common fs fun c hc => h c (List.mem_cons_of_mem _ hc)
    obtain ⟨h1, ⟨e, h2⟩, _⟩ := h c (List.mem_cons_self ..)
    refine ⟨max d e, fun c' hc' => ?_⟩
    rcases List.mem_cons.1 hc' with rfl | hc'
    · exact ⟨h1, h2.le _ (Nat.le_max_right _ _)⟩
    · exact ⟨(hd c' hc').1, (hd c' hc').2.le _ (Nat.le_max_left _ _)⟩
theorem Pz.keep {w w' : World} {B : Nat} {c : FC} (h : Pz w B c) (hk : ∀ k, k < B → w'.heap[k]? = w.heap[k]?) : Pz w' B c := by
  obtain ⟨h1, ⟨d, h2⟩, h3⟩ := h
  exact ⟨h1.keep hk, ⟨d, h2.keep hk⟩, h3⟩
theorem same_pz (B : Nat) (fs : List FC) (v1 v2 : Value) (S1 S2 : Nat → Prop) (w : World) (h1 : VFs w S1 fs v1) (h2 : VFs w S2 fs v2) (hS1 : ∀ k, S1 k → k < w.heap.size) (hS2 : ∀ k, S2 k → k < w.heap.size) (hc : ∀ c, c ∈ fs → Pz w B c) (hB : B ≤ w.heap.size) :
    Calls Tryz.prog 44 #[v1, v2] w (Says w (.bool true)) := by
  obtain ⟨d, hd⟩ := pz_common fs hc
  exact same_any B d fs v1 v2 S1 S2 w h1 h2 hS1 hS2 hd hB

theorem seen_pz {w : World} {B : Nat} {t : CT FC} {v fv : Value} {EL : List ZE} {FL : List (List FC)} (hf : fine t 6 = true) (hc : CAt w B t v) (hF : FFk w B FL fv) : ∀ j x, x ∈ seenOf t EL FL j → ∀ c, c ∈ x.2.2 → Pz w B c := by
  intro j x hx c hcc
  obtain ⟨i, _, hx⟩ := List.mem_flatMap.1 hx
  obtain ⟨d, hd, rfl⟩ := List.mem_map.1 hx
  rcases List.mem_append.1 hcc with h | h
  · rw [wr_bld _ t 6 0 hf] at hd
    obtain ⟨y, hy, e⟩ := pick_mem _ _ _ d hd
    rw [e] at h
    exact zl_pz t v hc y hy c h
  · unfold gsAt at h
    rcases hfi : FL[i]? with _ | fs
    · rw [hfi] at h; cases h
    · rw [hfi] at h
      obtain ⟨A, cap, _, _, _, _, h5⟩ := hF
      obtain ⟨b, o, _, _, hcs⟩ := h5 (by have := (List.getElem?_eq_some_iff.1 hfi).1; omega)
      obtain ⟨d2, fv2, _, hfl⟩ := hcs i fs hfi
      exact flok_pz hfl c h

theorem srows_at : ∀ (SL : List (Nat × Nat × List FC × Value)) (j : Nat) (x : Nat × Nat × List FC × Value), SL[j]? = some x → (srows SL)[j * 3]? = some (.int .i64 x.1) ∧ (srows SL)[j * 3 + 1]? = some (.int .i64 x.2.1) ∧ (srows SL)[j * 3 + 2]? = some x.2.2.2
  | [], j, x, h => by simp at h
  | y :: SL, 0, x, h => by simp at h; subst h; exact ⟨rfl, rfl, rfl⟩
  | y :: SL, j + 1, x, h => by
    have := srows_at SL j x (by simpa using h)
    have e : srows (y :: SL) = [.int .i64 y.1, .int .i64 y.2.1, y.2.2.2] ++ srows SL := rfl
    rw [e]
    rw [show (j + 1) * 3 = j * 3 + 3 by omega, show j * 3 + 3 + 1 = (j * 3 + 1) + 3 by omega, show j * 3 + 3 + 2 = (j * 3 + 2) + 3 by omega]
    exact this
theorem seen_at {w : World} {T : Nat → Prop} {u : Value} {D : List (Nat × Nat × List FC)} (h : SeenO w T u D) {j : Nat} {x : Nat × Nat × List FC} (hx : D[j]? = some x) :
    ∃ g cap A c, u = .slice (some ⟨g, 0, none⟩) D.length cap ∧ D.length ≤ cap ∧ T g ∧ w.cell? ⟨g, j * 3, none⟩ = some (.int .i64 x.1) ∧ w.cell? ⟨g, j * 3 + 1, none⟩ = some (.int .i64 x.2.1) ∧ w.cell? ⟨g, j * 3 + 2, none⟩ = some (.slice A x.2.2.length c) ∧ ∃ Si, VFs w Si x.2.2 (.slice A x.2.2.length c) ∧ ∀ k, Si k → T k := by
  obtain ⟨SL, rfl, h2, h3, h4⟩ := h
  rw [List.getElem?_map, Option.map_eq_some_iff] at hx
  obtain ⟨y, hy, rfl⟩ := hx
  obtain ⟨Si, hv, hs⟩ := h4 y (List.mem_of_getElem? hy)
  have hlt := (List.getElem?_eq_some_iff.1 hy).1
  rcases h2.2 with ⟨rfl, hn⟩ | ⟨g, cap, cur, rfl, hb, hg, hnc, _⟩
  · omega
  · obtain ⟨r0, r1, r2⟩ := srows_at SL j y hy
    have hcell : ∀ q v, (srows SL)[q]? = some v → w.cell? ⟨g, q, none⟩ = some v := fun q v hq => by
      have := h2.cells (g := g) rfl q v hq
      rw [add_off] at this
      simpa using this
    obtain ⟨A, c, e, hrest⟩ := id hv
    refine ⟨g, cap, A, c, by simp, by simpa using hnc, h3 g rfl, hcell _ _ r0, hcell _ _ r1, ?_, Si, e ▸ hv, fun k hk => (hs k hk).1⟩
    rw [← e]; exact hcell _ _ r2

/-- what ZWritten answers -/
def WnP (t : CT FC) (EL : List ZE) (FL : List (List FC)) (w : World) (e : Ending) (w' : World) : Prop :=
  ∃ u T, e = .returned u ∧ SeenO w' T u (seenOf t EL FL EL.length) ∧ (∀ k, T k → NewB w w' k) ∧ Below w.heap.size w w'
def W43 : Prop := ∀ (t : CT FC) (v ev fv : Value) (EL : List ZE) (FL : List (List FC)) (B : Nat) (w : World), fine t 6 = true → CAt w B t v → ELk w B EL ev → FFk w B FL fv → B ≤ w.heap.size → flen t ≤ 300 → EL.length ≤ 20 → (∀ fs, fs ∈ FL → fs.length ≤ 300) → Calls Tryz.prog 43 #[v, ev, fv] w (WnP t EL FL w)
end Go.Proofs.Zap

namespace Go.Proofs.Zap
open Go Go.Proofs Go.RowKit

/-- the law's copy of its argument, and what has been kept -/
structure LawI (w W : World) (xs : Array Value) : Prop where
  b : Below (w.heap.size + 1) (w.alloc (.cells xs 41)) W
theorem LawI.start (w : World) (xs : Array Value) : LawI w (w.alloc (.cells xs 41)) xs := ⟨Below.refl _ _⟩
theorem LawI.size {w W : World} {xs : Array Value} (h : LawI w W xs) : w.heap.size + 1 ≤ W.heap.size := by have := h.b.size; simpa using this
theorem LawI.go {w W W' : World} {xs : Array Value} (h : LawI w W xs) (hb : Below W.heap.size W W') : LawI w W' xs := ⟨h.b.trans (hb.mono h.size)⟩
theorem LawI.x {w W : World} {xs : Array Value} (h : LawI w W xs) : Blk W w.heap.size 41 xs := (Blk.new w 41 xs).below h.b (Nat.lt_succ_self _)
theorem LawI.below {w W : World} {xs : Array Value} (h : LawI w W xs) : Below w.heap.size w W := ((Below.refl _ _).alloc (Nat.le_refl _) _).trans (h.b.mono (Nat.le_succ _))

set_option maxRecDepth 100000 in
set_option maxHeartbeats 4000000 in
theorem levelOf_any (t : CT FC) (v : Value) (B : Nat) (w : World) (hc : CAt w B t v) (hB : B ≤ w.heap.size) (hT : PTab w) (h13 : 13 ≤ w.heap.size) : Calls Tryz.prog 7 #[v] w (Says w (.bool true)) := by
  obtain ⟨xk, xl, xA, xn, xc, xfA, xfn, xfc, rfl⟩ := hc.form
  obtain ⟨xs, hxs⟩ : ∃ xs, xs = #[Value.int .i64 xk, .int .i64 xl, .slice xA xn xc, .slice xfA xfn xfc] := ⟨_, rfl⟩
  have hcat : ∀ W, LawI w W xs → CAt W B t (.agg xs) ∧ B ≤ W.heap.size := fun W h => ⟨by rw [hxs]; exact hc.keep fun k hk => h.below.block k (by omega), by have := h.size; omega⟩
  have hcell : ∀ W, LawI w W xs → W.cell? ⟨w.heap.size, 0, none⟩ = some (.int .i64 xk) ∧ W.cell? ⟨w.heap.size, 1, none⟩ = some (.int .i64 xl) ∧ W.cell? ⟨w.heap.size, 2, none⟩ = some (.slice xA xn xc) ∧ W.cell? ⟨w.heap.size, 3, none⟩ = some (.slice xfA xfn xfc) := fun W h => by
    have hb := h.x
    rw [hxs] at hb
    exact ⟨hb.cell 0, hb.cell 1, hb.cell 2, hb.cell 3⟩
  have hst := LawI.start w xs
  have haw : ∀ W, LawI w W xs → Calls Tryz.prog 17 #[] W (Says W (.bool true)) := fun W h => awake_any W (hT.below h.below h13) (by have := h.size; omega)
  have h26 := fun W (h : LawI w W xs) => fits9_any t (.agg xs) B W (hcat W h).1 (hcat W h).2
  have h27 := fun W (h : LawI w W xs) => great_any t B (.agg xs) W (hcat W h).1 (hcat W h).2
  have h28 := fun W (h : LawI w W xs) => fine_any t 6 (by omega) (.agg xs) B W (hcat W h).1 (hcat W h).2
  have h29 := fun (hf : fine t 6 = true) W (h : LawI w W xs) => makes_any t 6 hf (.agg xs) B W (hcat W h).1 (hcat W h).2
  have h30 := fun (hf : fine t 6 = true) W (h : LawI w W xs) => least_any t 6 hf (.agg xs) B W (hcat W h).1 (hcat W h).2
  have h31 := fun (hf : fine t 6 = true) (hl : flen t ≤ 300) W (h : LawI w W xs) => zlevel_any t hf (.agg xs) B W (hcat W h).1 (hcat W h).2 hl (Nat.le_trans (cnt_le t 6 hf) (by omega))
  have h32 := fun (hf : fine t 6 = true) W (h : LawI w W xs) => tee_any t 6 hf (.agg xs) B W (hcat W h).1 (hcat W h).2
  subst hxs
  have HCELL := Lib.hid hcell
  have HST := Lib.hid hst
  have HAW := Lib.hid haw
  have H26 := Lib.hid h26
  have H27 := Lib.hid h27
  have H28 := Lib.hid h28
  have H29 := Lib.hid h29
  have H30 := Lib.hid h30
  have H31 := Lib.hid h31
  have H32 := Lib.hid h32
  clear hcat hcell hst haw h26 h27 h28 h29 h30 h31 h32 hc hT
  go_enter Tryz.func7, Tryz.ntmps7
  go_wp2_with fail
  refine (H26.out _ HST.out).mono ?_
  rintro e w1 ⟨b1, rfl, hb1⟩
  have L1 := Lib.hid (HST.out.go hb1)
  obtain ⟨c0, c1, c2, c3⟩ := HCELL.out w1 L1.out
  clear hb1 H26
  cases b1
  · go_wp2_with fail
    go_ret
    exact ⟨rfl, L1.out.below⟩
  go_wp2_with fail
  refine (H27.out _ L1.out).mono ?_
  rintro e w2 ⟨b2, rfl, hb2, hq2⟩
  have L2 := Lib.hid (L1.out.go hb2)
  clear c0 c1 c2 c3 hb2 H27
  cases b2
  case true =>
    go_wp2_with fail
    refine (HAW.out _ L2.out).mono ?_
    rintro e w3 ⟨rfl, hb3⟩
    have L3 := Lib.hid (L2.out.go hb3)
    clear hb3
    go_wp2_with fail
    go_ret
    exact ⟨rfl, L3.out.below⟩
  have hfl := hq2 rfl
  obtain ⟨c0, c1, c2, c3⟩ := HCELL.out w2 L2.out
  clear hq2
  go_wp2_with fail
  refine (H28.out _ L2.out).mono ?_
  rintro e w3 ⟨rfl, hb3⟩
  have L3 := Lib.hid (L2.out.go hb3)
  clear c0 c1 c2 c3 hb3 H28
  rcases hf : fine t 6 with _ | _
  · go_wp2_with fail
    refine (HAW.out _ L3.out).mono ?_
    rintro e w4 ⟨rfl, hb4⟩
    have L4 := Lib.hid (L3.out.go hb4)
    clear hb4
    go_wp2_with fail
    go_ret
    exact ⟨rfl, L4.out.below⟩
  obtain ⟨c0, c1, c2, c3⟩ := HCELL.out w3 L3.out
  go_wp2_with fail
  refine (H29.out hf _ L3.out).mono ?_
  rintro e w4 ⟨rfl, hb4⟩
  have L4 := Lib.hid (L3.out.go hb4)
  clear c0 c1 c2 c3 hb4 H29
  rcases hm : makes t with _ | _
  · go_wp2_with fail
    refine (HAW.out _ L4.out).mono ?_
    rintro e w5 ⟨rfl, hb5⟩
    have L5 := Lib.hid (L4.out.go hb5)
    clear hb5
    go_wp2_with fail
    go_ret
    exact ⟨rfl, L5.out.below⟩
  obtain ⟨c0, c1, c2, c3⟩ := HCELL.out w4 L4.out
  go_wp2_with fail
  refine (H30.out hf _ L4.out).mono ?_
  rintro e w5 ⟨rfl, hb5⟩
  have L5 := Lib.hid (L4.out.go hb5)
  clear c0 c1 c2 c3 hb5 H30
  obtain ⟨c0, c1, c2, c3⟩ := HCELL.out w5 L5.out
  have hlaw := least_law t 6 hf
  go_wp2_with fail
  refine (H31.out hf hfl _ L5.out).mono ?_
  rintro e w6 ⟨hb6, ⟨_, rfl⟩ | ⟨hm2, _⟩⟩
  case inr => rw [hm] at hm2; cases hm2
  have L6 := Lib.hid (L5.out.go hb6)
  clear c0 c1 c2 c3 hb6 H31
  generalize hga : lvK (bld t 0) = ga at *
  generalize hla : leastOf (en t) = la at *
  have HGA := Lib.hid hga
  have HLA := Lib.hid hla
  clear hga hla
  by_cases heq : ga = la
  · have hd : (ga == la) = true := by simp [heq]
    go_wp2_with fail
    go_ret
    exact ⟨rfl, L6.out.below⟩
  · have hd : (ga == la) = false := by simp [heq]
    obtain ⟨rfl, hte⟩ : la = 6 ∧ hasTee t = true := by rcases hlaw with h | h
                                                       · exact absurd h heq
                                                       · exact h
    obtain ⟨c0, c1, c2, c3⟩ := HCELL.out w6 L6.out
    go_wp2_with fail
    refine (H32.out hf _ L6.out).mono ?_
    rintro e w7 ⟨rfl, hb7⟩
    have L7 := Lib.hid (L6.out.go hb7)
    clear hb7 c0 c1 c2 c3
    rw [hte]
    go_wp2_with fail
    go_ret
    exact ⟨rfl, L7.out.below⟩
end Go.Proofs.Zap
