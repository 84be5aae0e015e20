/- a text of the claims over the seat; its order and aim: NOTES.md -/
import Derived.Test.YtpllbhobcnglnaaGreatDoorZSM
import Derived.Test.YtpllbhobcnglnaaGreatDoorZQP
/- plain part of ZWritten -/
namespace Go.Proofs.Zap
open Go Go.Proofs Go.RowKit

theorem VFs.form {w : World} {S : Nat → Prop} {fs : List FC} {v : Value} (h : VFs w S fs v) : ∃ A c, v = .slice A fs.length c := by
  obtain ⟨A, c, e, _⟩ := h; exact ⟨A, c, e⟩
/-- the leaves that are on among the first ones -/
theorem pick_succ {F : Type} (l : Int) (L : List (List Int × List F)) (m : Nat) (x : List Int × List F) (h : L[m]? = some x) : pick 0 (L.take (m + 1)) l = pick 0 (L.take m) l ++ if onL x.1 l then [(m, x.2)] else [] := by
  have hm := (List.getElem?_eq_some_iff.1 h).1
  rw [List.take_add_one, h, pick_append]
  have hl : (L.take m).length = m := by simp; omega
  rw [hl, Nat.zero_add]
  simp only [Option.toList, pick]
theorem onL_succ (l : Int) (ls : List Int) (q : Nat) (y : Int) (h : ls[q]? = some y) : onL (ls.take (q + 1)) l = (onL (ls.take q) l && decide (y ≤ l)) := by
  rw [List.take_add_one, h]; simp [onL]
theorem noted_append (ent : Nat) (gs : List FC) (a b : List (Nat × List FC)) : noted ent gs (a ++ b) = noted ent gs a ++ noted ent gs b := by simp [noted]
theorem noted_len (ent : Nat) (gs : List FC) (a : List (Nat × List FC)) : (noted ent gs a).length = a.length := by simp [noted]
/-- an integer of a slice -/
theorem IVs.at {w : World} {S : Nat → Prop} {ls : List Int} {A : Option Addr} {c : Nat} (h : IVs w S ls (.slice A ls.length c)) {q : Nat} {y : Int} (hq : ls[q]? = some y) : ∃ b o, A = some ⟨b, o, none⟩ ∧ S b ∧ w.cell? ⟨b, o + q, none⟩ = some (.int .i64 y) := by
  obtain ⟨A', cap, e, h2, h3, h4, h5⟩ := h
  obtain ⟨b, o, e2, hb, hc⟩ := h5 (by have := (List.getElem?_eq_some_iff.1 hq).1; omega)
  injection e with e1
  exact ⟨b, o, e1.trans e2, hb, hc q y hq⟩

/-- what stands in the middle of ZWritten -/
structure WnI (w1 wr : World) (T : Nat → Prop) (u : Value) (D : List (Nat × Nat × List FC)) : Prop where
  below : Below w1.heap.size w1 wr
  seen : SeenO wr T u D
  t : ∀ k, T k → w1.heap.size ≤ k ∧ k < wr.heap.size
theorem WnI.on {w1 wr w2 : World} {T : Nat → Prop} {u : Value} {D : List (Nat × Nat × List FC)} (h : WnI w1 wr T u D) (hb : Below wr.heap.size wr w2) : WnI w1 w2 T u D :=
  ⟨h.below.trans (hb.mono h.below.size), h.seen.keep fun k hk => hb.block k (h.t k hk).2, fun k hk => ⟨(h.t k hk).1, Nat.lt_of_lt_of_le (h.t k hk).2 hb.size⟩⟩
/-- the note that is made -/
structure MidW (wr W : World) (b m j : Nat) (xf : Value) (fs : List FC) : Prop where
  below : Below wr.heap.size wr W
  hb : wr.heap.size ≤ b
  blk : Blk W b 72 #[.int .i64 m, .int .i64 j, xf]
  fv : W.ownsRow wr.heap.size 135 15 xf fs.length (vrows fs)
theorem MidW.fields {wr W w2 : World} {b m j : Nat} {xf xf' : Value} {fs gs : List FC} (h : MidW wr W b m j xf fs) (hgr : W.grownBy w2 xf.ownBlock) (hown : w2.ownsRow wr.heap.size 135 15 xf' (fs.length + gs.length) (vrows fs ++ vrows gs)) : MidW wr (w2.setCell ⟨b, 2, none⟩ xf') b m j xf' (fs ++ gs) := by
  have b2 := blk_grown h.blk h.fv hgr (by decide)
  refine ⟨below_setB (grown_below h.below h.fv h.below.size hgr) h.hb, h.hb, ?_, ?_⟩
  · have := b2.set_ 2 xf'; simpa using this
  · rw [List.length_append, vrows_append]; exact own_set hown b2 (by decide)
/-- the end of a round that notes a leaf -/
theorem wn_step {w1 wr W w2 : World} {T : Nat → Prop} {u u' xf : Value} {b m j : Nat} {D : List (Nat × Nat × List FC)} {SL : List (Nat × Nat × List FC × Value)} {fs : List FC} (h : WnI w1 wr T u D) (hR1 : SL.map (fun x => (x.1, x.2.1, x.2.2.1)) = D) (hR3 : ∀ k, u.ownBlock = some k → T k)
    (hR4 : ∀ x, x ∈ SL → ∃ Si, VFs wr Si x.2.2.1 x.2.2.2 ∧ ∀ k, Si k → T k ∧ u.ownBlock ≠ some k) (hM : MidW wr W b m j xf fs) (hown : w2.ownsRow 0 72 3 u' (SL.length + 1) (srows SL ++ [.int .i64 m, .int .i64 j, xf])) (hgr : (W.alloc (.cells #[.int .i64 m, .int .i64 j, xf] 72)).grownBy w2 u.ownBlock)
    (hat : u'.ownBlock = u.ownBlock ∨ u'.ownBlock = some (W.alloc (.cells #[.int .i64 m, .int .i64 j, xf] 72)).heap.size) : ∃ T', WnI w1 w2 T' u' (D ++ [(m, j, fs)]) := by
  have z0 := h.below.size
  have z1 := hM.below.size
  have hz : (W.alloc (.cells #[.int .i64 m, .int .i64 j, xf] 72)).heap.size = W.heap.size + 1 := by simp
  have z2 : W.heap.size + 1 ≤ w2.heap.size := by have := hgr.size; omega
  have hT := h.t
  have kW : ∀ k, k < wr.heap.size → (W.alloc (.cells #[.int .i64 m, .int .i64 j, xf] 72)).heap[k]? = wr.heap[k]? := fun k hk => (heap_alloc_old W _ (by omega)).trans (hM.below.block k hk)
  have k2 : ∀ k, k < wr.heap.size → u.ownBlock ≠ some k → w2.heap[k]? = wr.heap[k]? := fun k hk hn => (hgr.block k (by omega) fun e => hn e.symm).trans (kW k hk)
  have hut : ∀ k, u'.ownBlock = some k → T k ∨ k = W.heap.size + 1 := fun k hk => by
    rcases hat with h | h
    · exact .inl (hR3 k (h ▸ hk))
    · rw [h, hz] at hk; injection hk with hk; exact .inr hk.symm
  refine ⟨fun k => T k ∨ NewB wr w2 k, ⟨h.below.trans ⟨hgr.os.trans hM.below.os, hgr.tape.trans hM.below.tape, hgr.output.trans hM.below.output, by omega, fun k hk => k2 k (by omega) fun e => by have := (hT k (hR3 k e)).1; omega⟩, ⟨SL ++ [(m, j, fs, xf)], by simp [hR1], ?_, fun k hk => ?_, fun x hx => ?_⟩, fun k hk => ?_⟩⟩
  · rw [srows_snoc, List.length_append]; exact hown
  · rcases hut k hk with h | h
    · exact .inl h
    · have hl := (hown.lt k hk).2
      exact .inr ⟨by omega, hl⟩
  · rcases List.mem_append.1 hx with hx | hx
    · obtain ⟨Si, a, c⟩ := hR4 x hx
      refine ⟨Si, a.keep fun k hk => k2 k (hT k (c k hk).1).2 (c k hk).2, fun k hk => ⟨.inl (c k hk).1, fun e => ?_⟩⟩
      rcases hat with h | h
      · exact (c k hk).2 (h ▸ e)
      · rw [h, hz] at e; injection e with e; have := (hT k (c k hk).1).2; omega
    · simp at hx
      subst hx
      refine ⟨fun k => xf.ownBlock = some k, (vfs_of_own hM.fv).keep fun k hk => ?_, fun k hk => ?_⟩
      · obtain ⟨cs, a, c⟩ := own_blk hM.fv hk
        exact (hgr.block k (by have := a.lt; omega) fun e => by have := (hT k (hR3 k e.symm)).2; omega).trans (heap_alloc_old W _ a.lt)
      · obtain ⟨cs, a, c⟩ := own_blk hM.fv hk
        have := a.lt
        refine ⟨.inr ⟨by omega, by omega⟩, fun e => ?_⟩
        rcases hut k e with e | e
        · have := (hT k e).2; omega
        · omega
  · rcases hk with hk | hk
    · have := hT k hk; omega
    · have e1 : wr.heap.size ≤ k := hk.1
      have e2 : k < w2.heap.size := hk.2
      omega
end Go.Proofs.Zap
