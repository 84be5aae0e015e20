/- a text of the claims over the seat; its order and aim: NOTES.md -/
import Derived.Test.YtpllbhobcnglnaaGreatDoorZQJ
namespace Go.Proofs.Zap
open Go Go.Proofs Go.RowKit

/-- a core as coreOf builds it -/
def RepU (w : World) (N : Nat) (K : KT FC) (S : Nat → Prop) (v : Value) : Prop := RepG True (fun _ _ _ => False) w N K S v
theorem RepU.keep {w w' : World} {N : Nat} {K : KT FC} {S : Nat → Prop} {v : Value} (h : RepU w N K S v) (hk : ∀ k, S k → w'.heap[k]? = w.heap[k]?) : RepU w' N K S v := RepG.keep (fun _ _ _ _ h => h) h hk
theorem RepF.toU {w : World} {N : Nat} {K : KT FC} {S : Nat → Prop} {v : Value} (h : RepF w N K S v) : RepU w N K S v := RepG.weaken (fun h => h.elim) (fun _ _ _ h => h) h

/-- where the leaves of kid i begin -/
def offN {F : Type} (c : Nat) (kids : Nat → CT F) (i : Nat) : Nat := c + sumN i fun j => cnt (kids j)
theorem offN_succ {F : Type} (c : Nat) (kids : Nat → CT F) (i : Nat) : offN c kids (i + 1) = offN c kids i + cnt (kids i) := by simp [offN, sumN]; omega

/-- what coreOf answers -/
def CoP (w : World) (N : Nat) (t : CT FC) (c : Nat) (e0 s0 : Value) (e : Ending) (w' : World) : Prop :=
  Kept (fun k => k = N) w w' ∧ ((makes t = true ∧ ∃ v, e = .returned (.tuple #[v, .bool true]) ∧ Blk w' N 128 #[e0, .int .i64 ((c + cnt t : Nat) : Int), s0] ∧ RepU w' N (bld t c) (NewB w w') v) ∨
    (makes t = false ∧ e = .returned (.tuple #[.nilIface, .bool false]) ∧ ∃ x : Int, Blk w' N 128 #[e0, .int .i64 x, s0]))

def vlist (vs : Nat → Value) (n : Nat) : List Value := (List.range n).map vs
theorem vlist_succ (vs : Nat → Value) (n : Nat) : vlist vs (n + 1) = vlist vs n ++ [vs n] := by simp [vlist, List.range_succ]
theorem vlist_congr {vs vs' : Nat → Value} {n : Nat} (h : ∀ i, i < n → vs i = vs' i) : vlist vs n = vlist vs' n := List.map_congr_left fun i hi => h i (List.mem_range.1 hi)
theorem vlist_get (vs : Nat → Value) (n i : Nat) (h : i < n) : (vlist vs n)[i]? = some (vs i) := by simp [vlist, h]

/-- what stands in the middle of coreOf's loop: X is the core's copy, u the kids that are built -/
structure CoI (w wr : World) (N n j c : Nat) (kids : Nat → CT FC) (xs : Array Value) (e0 s0 : Value) (u : Value) : Prop where
  kept : Kept (fun k => k = N) w wr
  x : Blk wr w.heap.size 41 xs
  nb : Blk wr N 128 #[e0, .int .i64 ((offN c kids j : Nat) : Int), s0]
  made : ∀ i, i < j → makes (kids i) = true
  own : ∃ (vs : Nat → Value) (Sk : Nat → Nat → Prop), wr.ownsRow (w.heap.size + 1) 123 1 u j (vlist vs j) ∧ ∀ i, i < j → RepU wr N (bld (kids i) (offN c kids i)) (Sk i) (vs i) ∧ (∀ k, Sk i k → w.heap.size < k ∧ k < wr.heap.size) ∧
    (∀ k, Sk i k → u.ownBlock ≠ some k) ∧ ∀ i2, i2 < j → i2 ≠ i → ∀ k, Sk i k → ¬ Sk i2 k

theorem CoI.own_alloc {w wr : World} {N n j c : Nat} {kids : Nat → CT FC} {xs : Array Value} {e0 s0 u : Value} (h : CoI w wr N n j c kids xs e0 s0 u) (hN : N < w.heap.size) {W w' : World} (hW : Below wr.heap.size wr W) (hk : Kept (fun k => k = N) W w') :
    ∃ vs, w'.ownsRow (w.heap.size + 1) 123 1 u j (vlist vs j) ∧ w.heap.size + 1 ≤ w'.heap.size := by
  obtain ⟨vs, Sk, h1, _⟩ := h.own
  have hx := h.x.lt
  have hs1 := hW.size
  have hs2 := hk.size
  refine ⟨vs, ?_, by omega⟩
  have hg1 : wr.grownBy w' (some N) := ⟨hk.os.trans hW.os, hk.tape.trans hW.tape, hk.output.trans hW.output, by omega, fun k hk1 hne => (hk.block k (by omega) fun e => hne (by rw [e])).trans (hW.block k hk1)⟩
  refine h1.kept hg1 ?_
  rcases hu : u.ownBlock with _ | g
  · exact .inl rfl
  · refine .inr fun e => ?_
    have := (h1.lt g hu).1
    injection e with e
    omega

theorem CoI.step {w wr : World} {N n j c : Nat} {kids : Nat → CT FC} {xs : Array Value} {e0 s0 u : Value} (h : CoI w wr N n j c kids xs e0 s0 u) (hN : N < w.heap.size) {W w' w1 w2 : World} {v u' : Value} {vs0 : Nat → Value}
    (hW : Below wr.heap.size wr W) (hWs : wr.heap.size ≤ W.heap.size) (hk : Kept (fun k => k = N) W w') (hm : makes (kids j) = true) (hnb : Blk w' N 128 #[e0, .int .i64 ((offN c kids j + cnt (kids j) : Nat) : Int), s0]) (hr : RepU w' N (bld (kids j) (offN c kids j)) (NewB W w') v)
    (h1 : w1 = w'.alloc (.cells #[v] 123)) (hown0 : w'.ownsRow (w.heap.size + 1) 123 1 u j (vlist vs0 j))
    (hown : w2.ownsRow (w.heap.size + 1) 123 1 u' (j + 1) (vlist vs0 j ++ [v])) (hg : w1.grownBy w2 u.ownBlock) (hat : u'.ownBlock = u.ownBlock ∨ u'.ownBlock = some w1.heap.size) :
    CoI w w2 N n (j + 1) c kids xs e0 s0 u' := by
  obtain ⟨vs, Sk, o1, o2⟩ := h.own
  have hxl := h.x.lt
  have s1 := hW.size
  have s2 := hk.size
  have s3 : w1.heap.size = w'.heap.size + 1 := by rw [h1]; simp
  have s4 := hg.size
  have hub : ∀ g, u.ownBlock = some g → w.heap.size + 1 ≤ g ∧ g < wr.heap.size := fun g hg => by
    obtain ⟨a, b⟩ := o1.lt g hg; exact ⟨a, b⟩
  have k1 : ∀ k, k < w'.heap.size → u.ownBlock ≠ some k → w2.heap[k]? = w'.heap[k]? := fun k hk1 hne => (hg.block k (by omega) fun e => hne e.symm).trans (by rw [h1]; exact heap_alloc_old w' _ hk1)
  have k2 : ∀ k, k < wr.heap.size → k ≠ N → u.ownBlock ≠ some k → w2.heap[k]? = wr.heap[k]? := fun k a b d => (k1 k (by omega) d).trans ((hk.block k (by omega) b).trans (hW.block k a))
  have hvs : ∀ i, i < j → vs0 i = vs i := fun i hi => by
    have e : vlist vs0 j = vlist vs j := by
      rcases hown0.2 with ⟨rfl, rfl⟩ | ⟨g, cap, cur, rfl, _, hgg, _, _, _, ht⟩
      · rfl
      · rcases o1.2 with ⟨e, _⟩ | ⟨g2, cap2, cur2, e, _, hgg2, _, _, _, ht2⟩
        · cases e
        · cases e
          have hb := hub g rfl
          have : w'.heap[g]? = wr.heap[g]? := (hk.block g (by omega) (by omega)).trans (hW.block g (by omega))
          rw [this, hgg2] at hgg
          cases hgg
          rw [← ht, ← ht2]
    have := congrArg (fun l => l[i]?) e
    simp only [vlist_get _ _ _ hi] at this
    injection this
  refine ⟨?_, ?_, ?_, fun i hi => ?_, ?_⟩
  · exact ⟨hg.os.trans ((by rw [h1]; exact hk.os : w1.os = W.os).trans (hW.os.trans h.kept.os)), hg.tape.trans ((by rw [h1]; exact hk.tape : w1.tape = W.tape).trans (hW.tape.trans h.kept.tape)), hg.output.trans ((by rw [h1]; exact hk.output : w1.output = W.output).trans (hW.output.trans h.kept.output)),
      by have := h.kept.size; omega, fun k hk1 hne => (k2 k (by omega) hne fun e => by have := (hub k e).1; omega).trans (h.kept.block k hk1 hne)⟩
  · exact (k2 _ hxl (by omega) fun e => by have := (hub _ e).1; omega).trans h.x
  · rw [offN_succ]
    exact (k1 N (by have := h.kept.size; omega) fun e => by have := (hub N e).1; omega).trans hnb
  · by_cases e : i = j
    · exact e ▸ hm
    · exact h.made i (by omega)
  · refine ⟨fun i => if i = j then v else vs i, fun i => if i = j then NewB W w' else Sk i, ?_, fun i hi => ?_⟩
    · rw [vlist_succ, if_pos rfl, vlist_congr (vs' := vs0) fun i hi => by rw [if_neg (by omega), hvs i hi]]
      exact hown
    · have hu' : ∀ k, k < w'.heap.size → u.ownBlock ≠ some k → u'.ownBlock ≠ some k := fun k a b e => by
        rcases hat with h | h
        · exact b (h ▸ e)
        · rw [h] at e; injection e with e; omega
      by_cases e : i = j
      · subst e
        simp only [if_true]
        refine ⟨hr.keep fun k hk1 => k1 k hk1.2 fun e => by have := (hub k e).2; have := hk1.1; omega, fun k hk1 => ⟨by have := hk1.1; omega, by have := hk1.2; omega⟩, fun k hk1 => hu' k hk1.2 fun e => by have := (hub k e).2; have := hk1.1; omega, fun i2 hi2 hne k hk1 => ?_⟩
        rw [if_neg hne]
        intro hk2
        have := ((o2 i2 (by omega)).2.1 k hk2).2
        have := hk1.1
        omega
      · obtain ⟨a1, a2, a3, a4⟩ := o2 i (by omega)
        simp only [if_neg e]
        refine ⟨a1.keep fun k hk1 => k2 k (a2 k hk1).2 (by have := (a2 k hk1).1; omega) (a3 k hk1), fun k hk1 => ⟨(a2 k hk1).1, by have := (a2 k hk1).2; omega⟩, fun k hk1 => hu' k (by have := (a2 k hk1).2; omega) (a3 k hk1), fun i2 hi2 hne k hk1 => ?_⟩
        by_cases e2 : i2 = j
        · rw [if_pos e2]
          intro hk2
          have := (a2 k hk1).2
          have := hk2.1
          omega
        · rw [if_neg e2]
          exact a4 i2 (by omega) hne k hk1

/-- the kids' slice, read at i -/
theorem CoI.cell {w wr : World} {N n j c : Nat} {kids : Nat → CT FC} {xs : Array Value} {e0 s0 u : Value} (h : CoI w wr N n j c kids xs e0 s0 u) (hj : 0 < j) :
    ∃ (g cap : Nat) (vs : Nat → Value) (Sk : Nat → Nat → Prop), u = .slice (some ⟨g, 0, none⟩) j cap ∧ j ≤ cap ∧ cap ≤ maxLen ∧ w.heap.size < g ∧ g < wr.heap.size ∧ (∀ i, i < j → wr.cell? ⟨g, i, none⟩ = some (vs i)) ∧
      ∀ i, i < j → RepU wr N (bld (kids i) (offN c kids i)) (Sk i) (vs i) ∧ (∀ k, Sk i k → w.heap.size < k ∧ k < wr.heap.size) ∧ ¬ Sk i g ∧ ∀ i2, i2 < j → i2 ≠ i → ∀ k, Sk i k → ¬ Sk i2 k := by
  obtain ⟨vs, Sk, o1, o2⟩ := h.own
  rcases o1.2 with ⟨_, e⟩ | ⟨g, cap, cur, rfl, hb, hg, hnc, hcm, hcs, ht⟩
  · omega
  · refine ⟨g, cap, vs, Sk, rfl, hnc, hcm, by omega, (Array.getElem?_eq_some_iff.1 hg).1, fun i hi => ?_, fun i hi => ?_⟩
    · rw [cell_of_row wr g i cur 123 (0, 0) hg]
      have := vlist_get vs j i hi
      rw [← ht, List.getElem?_take] at this
      split at this
      · simpa using this
      · cases this
    · obtain ⟨a1, a2, a3, a4⟩ := o2 i hi
      exact ⟨a1, a2, fun h => a3 g h rfl, a4⟩
end Go.Proofs.Zap
