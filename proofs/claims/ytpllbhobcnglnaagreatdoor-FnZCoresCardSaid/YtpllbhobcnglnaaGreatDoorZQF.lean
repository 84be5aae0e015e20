/- a text of the claims over the seat; its order and aim: NOTES.md -/
import Derived.Test.YtpllbhobcnglnaaGreatDoorZQC
import Derived.Deep.DeepAppendRoom
import Derived.LoopN
namespace Go.Proofs.Zap
open Go Go.Proofs Go.RowKit

theorem crows_get : ∀ (fs : List FC) (j : Nat) (u : Value), (crows fs)[j]? = some u → ∃ i r c, j = i * 5 + r ∧ fs[i]? = some c ∧ (CR c)[r]? = some u
  | [], j, u, h => by simp [crows] at h
  | c :: fs, j, u, h => by
    have e : crows (c :: fs) = (CR c).toList ++ crows fs := rfl
    have l : (CR c).toList.length = 5 := rfl
    rw [e, List.getElem?_append] at h
    split at h
    · exact ⟨0, j, c, by omega, rfl, by simpa using h⟩
    · obtain ⟨i, r, c2, h1, h2, h3⟩ := crows_get fs _ u h
      exact ⟨i + 1, r, c2, by omega, by simpa using h2, h3⟩
theorem crows_len (fs : List FC) : (crows fs).length = fs.length * 5 := by
  induction fs with
  | nil => rfl
  | cons c fs ih => rw [show crows (c :: fs) = (CR c).toList ++ crows fs from rfl, List.length_append, ih, show (CR c).toList.length = 5 from rfl, List.length_cons]; omega
theorem crows_append (fs gs : List FC) : crows (fs ++ gs) = crows fs ++ crows gs := by simp [crows]
theorem crows_at : ∀ (fs : List FC) (i r : Nat) (c : FC) (v : Value), fs[i]? = some c → (CR c)[r]? = some v → (crows fs)[i * 5 + r]? = some v
  | [], i, r, c, v, h, _ => by simp at h
  | c0 :: fs, i, r, c, v, h, hv => by
    have e : crows (c0 :: fs) = (CR c0).toList ++ crows fs := rfl
    have l : (CR c0).toList.length = 5 := rfl
    have hr : r < 5 := by
      have := (Array.getElem?_eq_some_iff.1 hv).1
      simpa [CR] using this
    rw [e, List.getElem?_append]
    cases i with
    | zero =>
      simp at h; subst h
      rw [if_pos (by omega)]
      simpa using hv
    | succ i =>
      rw [if_neg (by omega), l, show (i + 1) * 5 + r - 5 = i * 5 + r by omega]
      exact crows_at fs i r c v (by simpa using h) hv

theorem add_off (b o j : Nat) : (⟨b, o, none⟩ : Addr).add j = ⟨b, o + j, none⟩ := by unfold Addr.add; split <;> simp_all

theorem gfs_of_own {w : World} {base : Nat} {v : Value} {fs : List FC} (h : w.ownsRow base 176 5 v fs.length (crows fs)) : GFs w (fun k => base ≤ k ∧ k < w.heap.size) fs v := by
  rcases h.2 with ⟨rfl, hn⟩ | ⟨g, cap, cur, rfl, hb, hg, hnc, hcm, hcs, htake⟩
  · exact ⟨none, 0, by rw [hn], by omega, by omega, fun _ => ⟨hn, rfl⟩, fun h => by omega⟩
  · refine ⟨_, cap, rfl, hnc, by unfold maxLen at hcm; omega, fun h => (by cases h), fun hpos => ⟨g, 0, rfl, ⟨hb, (Array.getElem?_eq_some_iff.1 hg).1⟩, fun i c hi j v hj => ?_⟩⟩
    have h2 := crows_at fs i j c v hi hj
    rw [← htake] at h2
    rw [cell_of_row w g _ cur 176 (0, 0) hg]
    rw [List.getElem?_take] at h2
    split at h2
    · simpa using h2
    · cases h2

/-- carried fields, as a slice in new blocks -/
theorem carried_gfs (B d : Nat) (fs : List FC) (v : Value) (w : World) (hf : FlOk w B d fs v) (hB : B ≤ w.heap.size) :
    Calls Tryz.prog 83 #[v] w fun e w' => ∃ v', e = .returned v' ∧ GFs w' (fun k => w.heap.size ≤ k ∧ k < w'.heap.size) fs v' ∧ Below w.heap.size w w' := by
  have hn : fs.length ≤ 765000000000 := by obtain ⟨A, cap, _, _, _, ⟨_, h⟩, _⟩ := hf; exact h
  refine (carried_any B d fs v w hf hB hn).mono ?_
  rintro e w' ⟨v', rfl, h1, h2⟩
  exact ⟨v', rfl, gfs_of_own h1, h2⟩

/-- an append of carried fields onto a row with room -/
theorem app149 (w : World) (base g n cap : Nat) (xs : List Value) (hown : w.ownsRow base 176 5 (.slice (some ⟨g, 0, none⟩) n cap) n xs) (S : Nat → Prop) (fs : List FC) (X : Value) (hX : GFs w S fs X) (hroom : n + fs.length ≤ cap) (ty : TypeId) :
    ∃ w', (Builtin.append_ #[149, 149] ty #[.slice (some ⟨g, 0, none⟩) n cap, X]).run Tryz.prog w = .ok (.slice (some ⟨g, 0, none⟩) (n + fs.length) cap) w' ∧
      w'.ownsRow base 176 5 (.slice (some ⟨g, 0, none⟩) (n + fs.length) cap) (n + fs.length) (xs ++ crows fs) ∧ w.grownBy w' (some g) := by
  obtain ⟨i, z, hi, hz, hsz, hby, hzs⟩ := row149.i
  obtain ⟨A, c, rfl, h2, h3, h4, h5⟩ := hX
  rcases A with _ | a
  · obtain ⟨h0, rfl⟩ := h4 rfl
    have e : fs = [] := List.length_eq_zero_iff.1 h0
    subst e
    refine ⟨w, ?_, by simpa [crows] using hown, ⟨rfl, rfl, rfl, Nat.le_refl _, fun _ _ _ => rfl⟩⟩
    simp at hroom
    simp [Builtin.append_, run_underlying u149, sizeOf, typeInfo, hi, Builtin.lenOf, hroom, run_firstCells_none, storeCells]
  · by_cases hp : 0 < fs.length
    · obtain ⟨b, o, e, hb, hc⟩ := h5 hp
      cases e
      exact run_append_own_spare w base 149 ty 176 i 5 u149 hi hsz g n cap xs hown ⟨b, o, none⟩ fs.length c (crows fs) (crows_len fs)
        (fun j u hu => by
          obtain ⟨i2, r, c2, rfl, hi2, hr⟩ := crows_get fs j u hu
          rw [add_off, ← Nat.add_assoc]
          exact hc i2 c2 hi2 r u hr)
        (fun u hu => by
          simp only [crows, List.mem_flatMap] at hu
          obtain ⟨c2, _, hu⟩ := hu
          simp [CR] at hu
          rcases hu with rfl | rfl | rfl | rfl | rfl <;> rfl)
        hroom
    · have h0 : fs.length = 0 := by omega
      have e : fs = [] := List.length_eq_zero_iff.1 h0
      subst e
      exact run_append_own_spare w base 149 ty 176 i 5 u149 hi hsz g n cap xs hown a 0 c [] rfl (fun j u hu => by simp at hu) (fun u hu => by simp at hu) hroom

/-- an append of nothing onto nothing -/
theorem app149nil (w : World) (S : Nat → Prop) (X : Value) (hX : GFs w S [] X) (ty : TypeId) :
    (Builtin.append_ #[149, 149] ty #[.slice none 0 0, X]).run Tryz.prog w = .ok (.slice none 0 0) w := by
  obtain ⟨i, z, hi, hz, hsz, hby, hzs⟩ := row149.i
  obtain ⟨A, c, rfl, h2, h3, h4, h5⟩ := hX
  rcases A with _ | a
  · obtain ⟨h0, rfl⟩ := h4 rfl
    simp [Builtin.append_, run_underlying u149, sizeOf, typeInfo, hi, Builtin.lenOf, run_firstCells_none]
  · have hf := run_firstCells_some (P := Tryz.prog) w i.size 0 a 0 c [] (by simp) (fun j u hu => by simp at hu)
    simp [Builtin.append_, run_underlying u149, sizeOf, typeInfo, hi, Builtin.lenOf, hf]
end Go.Proofs.Zap

namespace Go.Proofs.Zap
open Go Go.Proofs Go.RowKit

theorem GFs.len {w : World} {S : Nat → Prop} {fs : List FC} {v : Value} (h : GFs w S fs v) : lenV v = fs.length := by
  obtain ⟨A, cap, h1, _⟩ := h; rw [h1]; rfl

theorem zRows_size (n : Nat) : (zRows n).size = n * 5 := by simp [zRows, size_zeroCells, Value.cells]

def GrewO (n : Nat) (w : World) (e : Ending) (w' : World) : Prop :=
    (n = 0 ∧ e = .returned (.slice none 0 0) ∧ w' = w) ∨ (0 < n ∧ ∃ cap, n ≤ cap ∧ e = .returned (.slice (some ⟨w.heap.size, 0, none⟩) 0 cap) ∧ w'.ownsRow w.heap.size 176 5 (.slice (some ⟨w.heap.size, 0, none⟩) 0 cap) 0 [] ∧ Below w.heap.size w w')
/-- Grow of nothing: nothing, or a new row that is one's own -/
theorem grow_own (n : Nat) (w : World) (h48 : n * 64 ≤ 281474976710656) : Calls Tryz.prog 374 #[.slice none 0 0, .int .i64 n] w (GrewO n w) := by
  refine (grow_any n w h48).mono ?_
  rintro e w' (h | ⟨h0, cap, h1, hm, rfl, rfl⟩)
  · exact .inl h
  · refine .inr ⟨h0, cap, h1, rfl, ⟨rfl, .inr ⟨w.heap.size, cap, _, rfl, Nat.le_refl _, row_new1 w _ 176, Nat.zero_le _, hm, ?_, by simp⟩⟩, ?_⟩
    · rw [Array.size_append, zRows_size, zRows_size]; omega
    · exact ((Below.refl _ _).alloc (Nat.le_refl _) _).trans ⟨rfl, rfl, rfl, Nat.le_refl _, fun _ _ => rfl⟩

set_option maxHeartbeats 4000000 in
/-- what Concat answers of two slices of carried fields -/
theorem concat_any (P : Nat) (fs gs : List FC) (S1 S2 : Nat → Prop) (v1 v2 : Value) (w : World) (h1 : GFs w S1 fs v1) (h2 : GFs w S2 gs v2) (hs1 : ∀ k, S1 k → k < w.heap.size) (hs2 : ∀ k, S2 k → k < w.heap.size)
    (hP : P < w.heap.size) (c0 : w.cell? ⟨P, 0, none⟩ = some v1) (c1 : w.cell? ⟨P, 1, none⟩ = some v2) (hm : fs.length + gs.length ≤ 1000000) (cap0 : Nat) :
    Calls Tryz.prog 372 #[.slice (some ⟨P, 0, none⟩) 2 cap0] w fun e w' => ∃ v', e = .returned v' ∧ GFs w' (fun k => w.heap.size ≤ k ∧ k < w'.heap.size) (fs ++ gs) v' ∧ Below w.heap.size w w' := by
  have H1 := Lib.hid h1
  have H2 := Lib.hid h2
  obtain ⟨A1, p1, rfl, -⟩ := h1
  obtain ⟨A2, p2, rfl, -⟩ := h2
  obtain ⟨n1, e1⟩ : ∃ n1, n1 = fs.length := ⟨_, rfl⟩
  obtain ⟨n2, e2⟩ : ∃ n2, n2 = gs.length := ⟨_, rfl⟩
  rw [← e1] at c0
  rw [← e2] at c1
  have hm' : n1 + n2 ≤ 1000000 := by omega
  rw [← e1, ← e2] at hm
  have E1 := Lib.hid e1
  have E2 := Lib.hid e2
  rw [← e1] at H1
  rw [← e2] at H2
  clear e1 e2
  have w1 : IntKind.i64.wrap (n1 : Int) = n1 := wrap64_id (by omega) (by omega)
  have w2 : IntKind.i64.wrap ((n1 : Int) + (n2 : Int)) = ((n1 + n2 : Nat) : Int) := by rw [wrap64_id (by omega) (by omega)]; omega
  have w3 : IntKind.i64.wrap ((0 : Int) + (n1 : Int)) = n1 := by rw [wrap64_id (by omega) (by omega)]; omega
  have hg : Calls Tryz.prog 374 #[.slice none 0 0, .int .i64 ((n1 : Int) + (n2 : Int))] w (GrewO (n1 + n2) w) := by
    have := grow_own (n1 + n2) w (by omega)
    rw [show (((n1 + n2 : Nat) : Int)) = (n1 : Int) + (n2 : Int) by omega] at this
    exact this
  have HG := Lib.hid hg
  clear hg
  go_enter Tryz.func372, Tryz.ntmps372
  go_wp2_with fail
  refine wp_loop_rounds 3 ?_
  rw [rounds_succ]
  go_wp2_with fail
  rw [rounds_succ]
  go_wp2_with fail
  rw [rounds_succ]
  go_wp2_with fail
  refine HG.out.mono ?_
  rintro e wg hgr
  clear HG
  rcases hgr with ⟨h0, rfl, rfl⟩ | ⟨hpos, cap, hcap, rfl, hown, hbel⟩
  · obtain rfl : n1 = 0 := by omega
    obtain rfl : n2 = 0 := by omega
    obtain rfl : fs = [] := List.length_eq_zero_iff.1 E1.out.symm
    obtain rfl : gs = [] := List.length_eq_zero_iff.1 E2.out.symm
    have a1 := app149nil wg S1 _ H1.out 149
    have a2 := app149nil wg S2 _ H2.out 149
    have A1' := Lib.hid a1
    have A2' := Lib.hid a2
    clear a1 a2
    go_wp2_with fail
    refine wp_loop_rounds 3 ?_
    rw [rounds_succ]
    go_wp2_with (at_builtin; refine Lib.wpList_append_run _ ?x1 (.tmp 31) (.tmp 32) 149 149 ?x2 _ _ ?x3 ?x4 _ _ A1'.out ?_)
    case x1 => rfl
    case x2 => rfl
    case x3 => rfl
    case x4 => rfl
    go_wp2_with fail
    rw [rounds_succ]
    go_wp2_with (at_builtin; refine Lib.wpList_append_run _ ?x1 (.tmp 31) (.tmp 32) 149 149 ?x2 _ _ ?x3 ?x4 _ _ A2'.out ?_)
    case x1 => rfl
    case x2 => rfl
    case x3 => rfl
    case x4 => rfl
    go_wp2_with fail
    rw [rounds_succ]
    go_wp2_with fail
    go_ret
    exact ⟨_, rfl, ⟨none, 0, rfl, by simp, by omega, fun _ => ⟨rfl, rfl⟩, fun h => by simp at h⟩, Below.refl _ _⟩
  · have hk : ∀ k, k < w.heap.size → wg.heap[k]? = w.heap[k]? := hbel.block
    have hsz := hbel.size
    have d0 := (World.cell?_of_block (a := ⟨P, 0, none⟩) (hk P hP)).trans c0
    have d1 := (World.cell?_of_block (a := ⟨P, 1, none⟩) (hk P hP)).trans c1
    have K1 := H1.out.keep fun k hk1 => hk k (hs1 k hk1)
    obtain ⟨wa, r1, o1, g1⟩ := app149 wg w.heap.size w.heap.size 0 cap [] hown S1 fs _ K1 (by have := E1.out; omega) 149
    rw [Nat.zero_add, List.nil_append, ← E1.out] at o1
    rw [Nat.zero_add, ← E1.out] at r1
    have hk2 : ∀ k, k < w.heap.size → wa.heap[k]? = w.heap[k]? := fun k hkk => (g1.block k (by omega) (by simp; omega)).trans (hk k hkk)
    have K2 := H2.out.keep fun k hk1 => hk2 k (hs2 k hk1)
    obtain ⟨wb, r2, o2, g2⟩ := app149 wa w.heap.size w.heap.size n1 cap (crows fs) o1 S2 gs _ K2 (by have := E2.out; omega) 149
    rw [← crows_append] at o2
    rw [← E2.out] at r2
    have e1 := World.cell?_of_block (a := ⟨P, 1, none⟩) (hk2 P hP)
    have d1' := e1.trans c1
    have hbw : Below w.heap.size w wb := ⟨g2.os.trans (g1.os.trans hbel.os), g2.tape.trans (g1.tape.trans hbel.tape), g2.output.trans (g1.output.trans hbel.output), by have := g1.size; have := g2.size; omega,
      fun k hkk => (g2.block k (by have := g1.size; omega) (by simp; omega)).trans (hk2 k hkk)⟩
    have e2 : n1 + gs.length = (fs ++ gs).length := by have := E1.out; simp; omega
    rw [e2] at o2
    have hgf := gfs_of_own o2
    have R1 := Lib.hid r1
    have R2 := Lib.hid r2
    have HF : Hid (GFs wb (fun k => w.heap.size ≤ k ∧ k < wb.heap.size) (fs ++ gs) (.slice (some ⟨w.heap.size, 0, none⟩) (n1 + n2) cap)) := Lib.hid (by
      rw [show n1 + n2 = (fs ++ gs).length by have := E1.out; have := E2.out; simp; omega]; exact hgf)
    have HBW := Lib.hid hbw
    clear hown hbel hk c0 c1 K1 K2 r1 r2 o1 o2 g1 g2 hk2 hbw hgf e1 e2
    go_wp2_with fail
    refine wp_loop_rounds 3 ?_
    rw [rounds_succ]
    go_wp2_with (at_builtin; refine Lib.wpList_append_run _ ?x1 (.tmp 31) (.tmp 32) 149 149 ?x2 _ _ ?x3 ?x4 _ _ R1.out ?_)
    case x1 => rfl
    case x2 => rfl
    case x3 => rfl
    case x4 => rfl
    go_wp2_with fail
    rw [rounds_succ]
    go_wp2_with (at_builtin; refine Lib.wpList_append_run _ ?x1 (.tmp 31) (.tmp 32) 149 149 ?x2 _ _ ?x3 ?x4 _ _ R2.out ?_)
    case x1 => rfl
    case x2 => rfl
    case x3 => rfl
    case x4 => rfl
    go_wp2_with fail
    rw [rounds_succ]
    go_wp2_with fail
    go_ret
    exact ⟨_, rfl, HF.out, HBW.out⟩
end Go.Proofs.Zap

namespace Go.Proofs.Zap
open Go Go.Proofs Go.RowKit

/-- the blocks that a call has made -/
def NewB (w w' : World) (k : Nat) : Prop := w.heap.size ≤ k ∧ k < w'.heap.size

set_option maxRecDepth 1000000
theorem nlWL (a : Addr) (w : World) : (nilAhead 589 201 (.pointer (some a)) "With").run Tryz.prog w = .ok (some false) w := by kernel_rfl
theorem mtWL (a : Addr) (w : World) : (method 589 201 (.pointer (some a)) "With").run Tryz.prog w = .ok (369, .pointer (some a)) w := by kernel_rfl
theorem nlWN (w : World) : (nilAhead 589 318 (.agg #[]) "With").run Tryz.prog w = .ok (some false) w := by kernel_rfl
theorem mtWN (w : World) : (method 589 318 (.agg #[]) "With").run Tryz.prog w = .ok (401, .agg #[]) w := by kernel_rfl
theorem nlWT (a : Option Addr) (n c : Nat) (w : World) : (nilAhead 589 319 (.slice a n c) "With").run Tryz.prog w = .ok (some false) w := by kernel_rfl
theorem mtWT (a : Option Addr) (n c : Nat) (w : World) : (method 589 319 (.slice a n c) "With").run Tryz.prog w = .ok (407, .slice a n c) w := by kernel_rfl
theorem nlWI (a : Addr) (w : World) : (nilAhead 589 321 (.pointer (some a)) "With").run Tryz.prog w = .ok (some false) w := by kernel_rfl
theorem mtWI (a : Addr) (w : World) : (method 589 321 (.pointer (some a)) "With").run Tryz.prog w = .ok (414, .pointer (some a)) w := by kernel_rfl
theorem nlWZ (a : Addr) (w : World) : (nilAhead 589 324 (.pointer (some a)) "With").run Tryz.prog w = .ok (some false) w := by kernel_rfl
theorem mtWZ (a : Addr) (w : World) : (method 589 324 (.pointer (some a)) "With").run Tryz.prog w = .ok (419, .pointer (some a)) w := by kernel_rfl
theorem cf369 (A : Array Value) (W : World) : (callFunc 369 A).run Tryz.prog W = .ok (.enter 369 A) W := by kernel_rfl
theorem cf401 (A : Array Value) (W : World) : (callFunc 401 A).run Tryz.prog W = .ok (.enter 401 A) W := by kernel_rfl
theorem cf407 (A : Array Value) (W : World) : (callFunc 407 A).run Tryz.prog W = .ok (.enter 407 A) W := by kernel_rfl
theorem cf414 (A : Array Value) (W : World) : (callFunc 414 A).run Tryz.prog W = .ok (.enter 414 A) W := by kernel_rfl
theorem cf419 (A : Array Value) (W : World) : (callFunc 419 A).run Tryz.prog W = .ok (.enter 419 A) W := by kernel_rfl

/-- a core's With: what is built anew, and nothing old is changed -/
def WithP (w : World) (N : Nat) (K : KT FC) (e : Ending) (w' : World) : Prop := ∃ v', e = .returned v' ∧ RepF w' N K (NewB w w') v' ∧ Below w.heap.size w w'

/-- the cells of a leaf -/
abbrev LeafS (w' : World) (L : Nat) (lvl : Int) (num : Nat) (g : Value) (N : Nat) : Prop :=
  w'.cell? ⟨L, 0, none⟩ = some (.iface 129 (.int .i8 lvl)) ∧ w'.cell? ⟨L, 1, none⟩ = some (.int .i64 num) ∧ w'.cell? ⟨L, 2, none⟩ = some g ∧ w'.cell? ⟨L, 3, none⟩ = some (.pointer (some ⟨N, 0, none⟩))
theorem leafS {w' : World} {L : Nat} {lvl : Int} {num : Nat} {g : Value} {N : Nat} (hb : Blk w' L 205 #[.iface 129 (.int .i8 lvl), .int .i64 num, g, .pointer (some ⟨N, 0, none⟩)]) : LeafS w' L lvl num g N :=
  ⟨hb.cell 0, hb.cell 1, hb.cell 2, hb.cell 3⟩

set_option maxHeartbeats 1000000 in
theorem leafWith (N L : Nat) (lvl : Int) (num : Nat) (gs fs : List FC) (g f : Value) (S SG : Nat → Prop) (w : World) (hb : Blk w L 205 #[.iface 129 (.int .i8 lvl), .int .i64 num, g, .pointer (some ⟨N, 0, none⟩)])
    (hg : GFs w S gs g) (hf : GFs w SG fs f) (hS : ∀ k, S k → k < w.heap.size) (hSG : ∀ k, SG k → k < w.heap.size) (hm : gs.length + fs.length ≤ 1000000) (hl0 : -128 ≤ lvl) (hl1 : lvl ≤ 127) :
    Calls Tryz.prog 369 #[.pointer (some ⟨L, 0, none⟩), f] w (WithP w N (.leaf lvl num (gs ++ fs))) := by
  have hL := hb.lt
  have hcl : Calls Tryz.prog 372 #[.slice (some ⟨w.heap.size, 0, none⟩) 2 2] ((w.alloc (.cells #[g, f] 149)).drew) fun e w' => ∃ v', e = .returned v' ∧ GFs w' (fun k => w.heap.size + 1 ≤ k ∧ k < w'.heap.size) (gs ++ fs) v' ∧ Below (w.heap.size + 1) ((w.alloc (.cells #[g, f] 149)).drew) w' := by
    have hbx := Blk.new w.drew 149 #[g, f]
    have := concat_any w.heap.size gs fs S SG g f ((w.alloc (.cells #[g, f] 149)).drew) (hg.keep fun k hk => heap_alloc_old w _ (hS k hk)) (hf.keep fun k hk => heap_alloc_old w _ (hSG k hk)) (fun k hk => by have := hS k hk; simp; omega) (fun k hk => by have := hSG k hk; simp; omega)
      (by simp) (hbx.cell 0) (hbx.cell 1) hm 2
    simpa using this
  have HCL := Lib.hid hcl
  have HB := Lib.hid hb
  have hkb : ∀ W w' : World, (Below (w.heap.size + 1) W w') → W.heap[L]? = w.heap[L]? → Blk w' L 205 #[.iface 129 (.int .i8 lvl), .int .i64 num, g, .pointer (some ⟨N, 0, none⟩)] := fun W w' hbl hW => by
    have : w'.heap[L]? = w.heap[L]? := (hbl.block L (by omega)).trans hW
    exact this.trans hb
  have HKB := Lib.hid hkb
  obtain ⟨gA, gc, rfl, -⟩ := hg
  obtain ⟨fA, fc, rfl, -⟩ := hf
  have hS0 : LeafS w L lvl num (.slice gA gs.length gc) N := leafS HB.out
  obtain ⟨c0, c1, c2, c3⟩ := hS0
  clear hcl hb hkb
  go_enter Tryz.func369, Tryz.ntmps369
  go_wp2_with fail
  go_region_held3 (fun w' => LeafS w' L lvl num (.slice gA gs.length gc) N) (first | exact ⟨c0, c1, c2, c3⟩ | exact leafS (HB.out.alloc _) | exact leafS (HKB.out _ _ hb1 (heap_alloc_old w _ hL)) | exact leafS ((HKB.out _ _ hb1 (heap_alloc_old w _ hL)).alloc _)) ((go_at_call 372; refine HCL.out.mono ?_; rintro e w1 ⟨_, rfl, ⟨vA, vc, rfl, hg1⟩, hb1⟩))
  have hgl : (gs ++ fs).length = gs.length + fs.length := by simp
  have hg2 : GFs w1 (fun k => w.heap.size + 1 ≤ k ∧ k < w1.heap.size) (gs ++ fs) (.slice vA (gs.length + fs.length) vc) := ⟨vA, vc, by rw [hgl], hg1⟩
  have HG2 := Lib.hid hg2
  have HB1 := Lib.hid hb1
  clear hg2 hg1 hb1 hgl c0 c1 c2 c3 HKB HCL
  go_wp2_with fail
  go_ret
  have hs1 := HB1.out.size
  simp at hs1
  refine ⟨_, rfl, ⟨w1.heap.size, _, rfl, ⟨by omega, by simp⟩, Blk.new w1 205 _, (HG2.out.keep (fun k hk => heap_alloc_old w1 _ hk.2)).mono (fun k hk => ⟨by omega, by simp; omega⟩), hl0, hl1⟩, ?_⟩
  have hb0 : Below w.heap.size w (w.alloc (.cells #[.slice gA gs.length gc, .slice fA fs.length fc] 149)).drew := ⟨rfl, rfl, rfl, by simp, fun k hk => heap_alloc_old w _ hk⟩
  exact (hb0.trans (HB1.out.mono (show w.heap.size ≤ w.heap.size + 1 by omega))).alloc (show w.heap.size ≤ w1.heap.size by omega) _

/-- what a core's With of these fields leaves: a new core without lazy ones; the old one is as good as it was, for its levels -/
def RepE (w : World) (N : Nat) (K : KT FC) (S : Nat → Prop) (v : Value) : Prop := RepG True (fun _ _ _ => True) w N K S v
def WithU (w : World) (N : Nat) (S : Nat → Prop) (K : KT FC) (fs : List FC) (v : Value) (e : Ending) (w' : World) : Prop := ∃ v', e = .returned v' ∧ RepF w' N (withF fs K) (NewB w w') v' ∧ Kept S w w' ∧ RepE w' N K S v

/-- few fields, few cores of a tee -/
def fl {F : Type} : KT F → Nat → Prop
  | .leaf _ _ gs, m => gs.length ≤ m
  | .nop, _ => True
  | .tee n kids, m => n ≤ 6 ∧ ∀ i, i < n → fl (kids i) m
  | .incr _ k, m => fl k m
  | .lazy k gs, m => gs.length ≤ m ∧ fl k (m - gs.length)
theorem fl_mono {F : Type} {K : KT F} : ∀ {m m' : Nat}, fl K m → m ≤ m' → fl K m' := by
  induction K with
  | leaf lvl num gs => intro m m' h hm; exact Nat.le_trans (show gs.length ≤ m from h) hm
  | nop => intro m m' h hm; trivial
  | tee n kids ih => intro m m' h hm; exact ⟨h.1, fun i hi => ih i (h.2 i hi) hm⟩
  | incr lvl k ih => intro m m' h hm; exact ih h hm
  | lazy k gs ih => intro m m' h hm; exact ⟨Nat.le_trans h.1 hm, ih h.2 (by omega)⟩
theorem fl_withF {F : Type} {K : KT F} : ∀ {m : Nat} {fs : List F}, fl K m → fl (withF fs K) (m + fs.length) := by
  induction K with
  | leaf lvl num gs => intro m fs h; simp only [withF, fl, List.length_append]; simp only [fl] at h; omega
  | nop => intro m fs h; trivial
  | tee n kids ih => intro m fs h; exact ⟨h.1, fun i hi => ih i (h.2 i hi)⟩
  | incr lvl k ih => intro m fs h; exact ih h
  | lazy k gs ih =>
    intro m fs h
    refine fl_mono (ih h.2) ?_
    have := h.1
    rw [List.length_append]; omega

/-- a method call on an interface value whose method asks nothing ahead -/
def InvW (v : Value) (name : String) (args : List Value) (w : World) (post : Ending → World → Prop) : Prop :=
  ∃ t p f r, v = .iface t p ∧ (nilAhead 589 t p name).run Tryz.prog w = .ok (some false) w ∧ (method 589 t p name).run Tryz.prog w = .ok (f, r) w ∧
    (∀ (A : Array Value) (W : World), (callFunc f A).run Tryz.prog W = .ok (.enter f A) W) ∧ Calls Tryz.prog f (r :: args).toArray w post

def WC (ok : Prop) (N : Nat) (K : KT FC) : Prop := ∀ (S : Nat → Prop) (v : Value) (w : World) (m : Nat) (fs : List FC) (f : Value) (SG : Nat → Prop), RepG ok (fun _ _ _ => False) w N K S v → (∀ k, S k → k < w.heap.size) → GFs w SG fs f → (∀ k, SG k → k < w.heap.size ∧ ¬ S k) → fl K m → m + fs.length ≤ 1000000 →
  InvW v "With" [f] w (WithU w N S K fs v)

theorem repE_below {ok : Prop} {w w' : World} {N : Nat} {K : KT FC} {S : Nat → Prop} {v : Value} (h : RepG ok (fun _ _ _ => False) w N K S v) (hS : ∀ k, S k → k < w.heap.size) (hb : Below w.heap.size w w') : RepE w' N K S v :=
  RepG.keep (fun _ _ _ _ _ => trivial) (RepG.weaken (ok' := True) (Y' := fun _ _ _ => True) (fun _ => trivial) (fun _ _ _ h => h.elim) h) fun k hk => hb.block k (hS k hk)

theorem wc_leaf (ok : Prop) (N : Nat) (lvl : Int) (num : Nat) (gs : List FC) : WC ok N (.leaf lvl num gs) := by
  intro S v w m fs f SG h hS hf hSG hfl hm
  have hh := h
  obtain ⟨L, g, rfl, h2, h3, h4, h5, h6⟩ := h
  refine ⟨201, _, 369, _, rfl, nlWL _ _, mtWL _ w, cf369, ?_⟩
  refine (leafWith N L lvl num gs fs g f S SG w h3 h4 hf hS (fun k hk => (hSG k hk).1) (by have : gs.length ≤ m := hfl; omega) h5 h6).mono ?_
  rintro e w' ⟨v', rfl, hr, hb⟩
  exact ⟨v', rfl, hr, Kept.of_below hb, repE_below hh hS hb⟩

theorem nopWith (f : Value) (w : World) : Calls Tryz.prog 401 #[.agg #[], f] w (Says w (.iface 318 (.agg #[]))) := by
  go_enter Tryz.func401, Tryz.ntmps401
  go_wp2_with fail
  go_ret
  exact ⟨rfl, (Below.refl _ _).alloc (Nat.le_refl _) _⟩
theorem wc_nop (ok : Prop) (N : Nat) : WC ok N .nop := by
  intro S v w m fs f SG h hS hf hSG hfl hm
  have hh := h
  obtain rfl := h
  refine ⟨318, _, 401, _, rfl, nlWN _, mtWN w, cf401, ?_⟩
  refine (nopWith f w).mono ?_
  rintro e w' ⟨rfl, hb⟩
  exact ⟨_, rfl, rfl, Kept.of_below hb, repE_below hh hS hb⟩

theorem RepG.form {ok : Prop} {Y : (Nat → Prop) → KT FC → Value → Prop} {w : World} {N : Nat} {K : KT FC} {S : Nat → Prop} {v : Value} (h : RepG ok Y w N K S v) : ∃ t p, v = .iface t p := by
  cases K with
  | leaf lvl num fs => obtain ⟨L, g, h1, _⟩ := h; exact ⟨_, _, h1⟩
  | nop => exact ⟨_, _, h⟩
  | tee n kids => obtain ⟨T, cap, Sk, vs, h1, _⟩ := h; exact ⟨_, _, h1⟩
  | incr lvl k => obtain ⟨I, vc, S1, h1, _⟩ := h; exact ⟨_, _, h1⟩
  | lazy k fs => obtain ⟨h0, Z, vo, g, S1, SG, h1, _⟩ := h; exact ⟨_, _, h1⟩
end Go.Proofs.Zap
