/- a text of the claims over the seat; its order and aim: NOTES.md -/
import Derived.Test.YtpllbhobcnglnaaGreatDoorZQF
namespace Go.Proofs.Zap
open Go Go.Proofs Go.RowKit

/-- the cells of an increased core -/
abbrev IncS (w' : World) (I : Nat) (vc : Value) (lvl : Int) : Prop := w'.cell? ⟨I, 0, none⟩ = some vc ∧ w'.cell? ⟨I, 1, none⟩ = some (.iface 129 (.int .i8 lvl))
theorem incS {w' : World} {I : Nat} {vc : Value} {lvl : Int} (hb : Blk w' I 323 #[vc, .iface 129 (.int .i8 lvl)]) : IncS w' I vc lvl := ⟨hb.cell 0, hb.cell 1⟩

theorem Kept.mono' {S S' : Nat → Prop} {w w' : World} (h : Kept S w w') (hs : ∀ k, S k → S' k) : Kept S' w w' := ⟨h.os, h.tape, h.output, h.size, fun k hk hn => h.block k hk fun h2 => hn (hs k h2)⟩
theorem Kept.ofDrew {S : Nat → Prop} {w w' : World} (h : Kept S w.drew w') : Kept S w w' := ⟨h.os, h.tape, h.output, h.size, h.block⟩
theorem Kept.alloc {S : Nat → Prop} {w w' : World} (h : Kept S w w') (o : Obj) : Kept S w (w'.alloc o) := h.trans (Kept.of_below ((Below.refl _ _).alloc (Nat.le_refl _) _))

set_option maxHeartbeats 2000000 in
theorem wc_incr (ok : Prop) (N : Nat) (lvl : Int) (K : KT FC) (ih : WC ok N K) : WC ok N (.incr lvl K) := by
  intro S v w m fs f SG h hS hf hSG hfl hm
  obtain ⟨I, vc, S1, rfl, h2, h3, h4, h5, h6, h7, h8⟩ := h
  refine ⟨321, _, 414, _, rfl, nlWI _ _, mtWI _ w, cf414, ?_⟩
  have hI := hS I h2
  have hcall := ih S1 vc w.drew m fs f SG (RepG.keep (fun _ _ _ _ h => h) h6 (fun _ _ => rfl)) (fun k hk => hS k (h4 k hk)) (hf.keep (fun _ _ => rfl)) (fun k hk => ⟨(hSG k hk).1, fun h => (hSG k hk).2 (h4 k h)⟩) hfl hm
  obtain ⟨t, p, f1, r, rfl, i1, i3, i5, i4⟩ := hcall
  have I4 := Lib.hid i4
  have HB := Lib.hid h3
  have hSk : ∀ W : World, Kept S1 w.drew W → Blk W I 323 #[.iface t p, .iface 129 (.int .i8 lvl)] := fun W hk => (hk.block I hI h5).trans h3
  have HSK := Lib.hid hSk
  obtain ⟨fA, fc, rfl, -⟩ := hf
  obtain ⟨c0, c1⟩ : IncS w I (.iface t p) lvl := incS h3
  have H4 := Lib.hid h4
  clear h3 h6 hSk i4 hSG
  all_goals
    go_enter Tryz.func414, Tryz.ntmps414
    go_wp2_with fail
    go_region_held3 (fun w' => IncS w' I (.iface t p) lvl) (first | exact ⟨c0, c1⟩ | exact incS (HSK.out _ hk1) | exact incS ((HSK.out _ hk1).alloc _)) ((refine I4.out.mono ?_; rintro e w1 ⟨_, rfl, hr1, hk1, he1⟩; obtain ⟨t1, p1, rfl⟩ := RepG.form hr1))
  all_goals
    have HR1 := Lib.hid hr1
    have HK1 := Lib.hid hk1
    have HE1 := Lib.hid he1
    clear hr1 hk1 he1 c0 c1 i1 i3 I4
    go_wp2_with fail
    go_ret
    have hs1 : w.heap.size ≤ w1.heap.size := HK1.out.size
    refine ⟨_, rfl, ⟨w1.heap.size, _, NewB w.drew w1, rfl, ⟨hs1, by simp⟩, Blk.new w1 323 _, fun j hj => ⟨hj.1, by have := hj.2; simp; omega⟩, fun h => by have := h.2; omega, ?_, h7, h8⟩, ((HK1.out.ofDrew.mono' H4.out).alloc _), ?_⟩
    · exact RepF.keep HR1.out fun k hk => heap_alloc_old w1 _ hk.2
    · exact ⟨I, _, S1, rfl, h2, (HSK.out _ HK1.out).alloc _, H4.out, h5, RepG.keep (fun _ _ _ _ h => h) HE1.out (fun k hk => heap_alloc_old w1 _ (Nat.lt_of_lt_of_le (hS k (H4.out k hk)) hs1)), h7, h8⟩

theorem u319 : Tryz.prog.underlying 319 = some (.slice 123) := by kernel_rfl
theorem z123 : (Tryz.prog.info? 123).map (·.zero) = some (some .nilIface) := by kernel_rfl
theorem s123 : (Tryz.prog.info? 123).map (·.size) = some 1 := by kernel_rfl
theorem y123 : (Tryz.prog.info? 123).map (·.bytes) = some 16 := by kernel_rfl
theorem row319 : RowT 319 123 1 16 := rowT_of u319 z123 s123 y123 rfl (by decide)

/-- what stands in the middle of a tee's With -/
structure TeeI (w wr : World) (N n j : Nat) (T : Nat) (kids : Nat → KT FC) (S : Nat → Prop) (Sk : Nat → Nat → Prop) (vs : Nat → Value) (fs : List FC) (ok : Prop) : Prop where
  row : ∃ (cur : Array Value) (vs' : Nat → Value) (Sk' : Nat → Nat → Prop), wr.heap[w.heap.size]? = some (.cells cur 123 (0, 0)) ∧ cur.size = n ∧
    (∀ i, i < j → cur[i]? = some (vs' i) ∧ RepF wr N (withF fs (kids i)) (Sk' i) (vs' i) ∧ (∀ k, Sk' i k → w.heap.size < k ∧ k < wr.heap.size) ∧ ∀ i2, i2 < j → i2 ≠ i → ∀ k, Sk' i k → ¬ Sk' i2 k)
  kept : Kept S w wr
  size : w.heap.size < wr.heap.size
  src : wr.heap[T]? = w.heap[T]?
  done : ∀ i, i < j → RepE wr N (kids i) (Sk i) (vs i)
  todo : ∀ i, j ≤ i → i < n → RepG ok (fun _ _ _ => False) wr N (kids i) (Sk i) (vs i)

theorem TeeI.blk {w wr w' : World} {N n j T : Nat} {kids : Nat → KT FC} {S : Nat → Prop} {Sk : Nat → Nat → Prop} {vs : Nat → Value} {fs : List FC} {ok : Prop} (h : TeeI w wr N n j T kids S Sk vs fs ok)
    (hk : Kept (Sk j) wr w') (hj : ∀ k, Sk j k → k < w.heap.size) : ∃ cur, Blk w' w.heap.size 123 cur ∧ cur.size = n := by
  obtain ⟨cur, vs', Sk', h1, h2, _⟩ := h.row
  exact ⟨cur, (hk.block _ h.size fun hs => by have := hj _ hs; omega).trans h1, h2⟩

theorem TeeI.step {w wr w' : World} {N n j T : Nat} {kids : Nat → KT FC} {S : Nat → Prop} {Sk : Nat → Nat → Prop} {vs : Nat → Value} {fs : List FC} {ok : Prop} (h : TeeI w wr N n j T kids S Sk vs fs ok) (hj : j < n) (v' : Value)
    (hk : Kept (Sk j) wr w') (he : RepE w' N (kids j) (Sk j) (vs j)) (hr : RepF w' N (withF fs (kids j)) (NewB wr w') v')
    (h1 : ∀ i, i < n → ∀ k, Sk i k → S k) (h2 : ¬ Sk j T) (h3 : ∀ i, i < n → ∀ i2, i2 < n → i2 ≠ i → ∀ k, Sk i k → ¬ Sk i2 k) (hS : ∀ k, S k → k < w.heap.size) (hT : T < w.heap.size) :
    TeeI w (w'.setCell ⟨w.heap.size, j, none⟩ v') N n (j + 1) T kids S Sk vs fs ok := by
  have hsz := h.size
  have hs' := hk.size
  have hset : ∀ k, k ≠ w.heap.size → (w'.setCell ⟨w.heap.size, j, none⟩ v').heap[k]? = w'.heap[k]? := fun k hne => Below.heap_setCell w' ⟨w.heap.size, j, none⟩ v' k hne
  have hsj : ∀ k, Sk j k → k < w.heap.size := fun k hk1 => hS k (h1 j hj k hk1)
  have hkk : ∀ k, k < wr.heap.size → ¬ Sk j k → k ≠ w.heap.size → (w'.setCell ⟨w.heap.size, j, none⟩ v').heap[k]? = wr.heap[k]? := fun k a b c => (hset k c).trans (hk.block k a b)
  have hsz2 : (w'.setCell ⟨w.heap.size, j, none⟩ v').heap.size = w'.heap.size := by simp [World.setCell]
  refine ⟨?_, ?_, by rw [hsz2]; omega, (hkk T (by omega) h2 (by omega)).trans h.src, fun i hi => ?_, fun i hi1 hi => ?_⟩
  · obtain ⟨cur, vs', Sk', r1, r2, r3⟩ := h.row
    have hb : Blk w' w.heap.size 123 cur := (hk.block _ hsz fun hs => by have := hsj _ hs; omega).trans r1
    refine ⟨cur.setIfInBounds j v', fun i => if i = j then v' else vs' i, fun i => if i = j then NewB wr w' else Sk' i, hb.set_ j v', by simpa using r2, fun i hi => ?_⟩
    by_cases e : i = j
    · subst e
      simp only [if_true]
      refine ⟨by simp [r2, hj], hr.keep fun k hk1 => hset k (by have := hk1.1; omega), fun k hk1 => ⟨by have := hk1.1; omega, by rw [hsz2]; exact hk1.2⟩, fun i2 hi2 hne k hk1 => ?_⟩
      rw [if_neg hne]
      intro hk2
      have := (r3 i2 (by omega)).2.2.1 k hk2
      have := hk1.1
      omega
    · obtain ⟨a1, a2, a3, a4⟩ := r3 i (by omega)
      simp only [if_neg e]
      refine ⟨by rw [Array.getElem?_setIfInBounds_ne (by omega)]; exact a1, a2.keep fun k hk1 => ?_, fun k hk1 => ⟨(a3 k hk1).1, by rw [hsz2]; have := (a3 k hk1).2; omega⟩, fun i2 hi2 hne k hk1 => ?_⟩
      · have := a3 k hk1
        exact hkk k (by omega) (fun h => by have := hsj k h; omega) (by omega)
      · by_cases e2 : i2 = j
        · rw [if_pos e2]
          intro hk2
          have := (a3 k hk1).2
          have := hk2.1
          omega
        · rw [if_neg e2]
          exact a4 i2 (by omega) hne k hk1
  · have hk2 := h.kept.trans (hk.mono' (h1 j hj))
    exact ⟨hk2.os, hk2.tape, hk2.output, by rw [hsz2]; exact hk2.size, fun k hk1 hns => (hset k (by omega)).trans (hk2.block k hk1 hns)⟩
  · by_cases e : i = j
    · subst e
      exact RepG.keep (fun _ _ _ _ h => h) he fun k hk1 => hset k (by have := hsj k hk1; omega)
    · exact RepG.keep (fun _ _ _ _ h => h) (h.done i (by omega)) fun k hk1 => by
        have := hS k (h1 i (by omega) k hk1)
        exact hkk k (by omega) (h3 i (by omega) j hj (by omega) k hk1) (by omega)
  · exact RepG.keep (fun _ _ _ _ h => h) (h.todo i (by omega) hi) fun k hk1 => by
      have := hS k (h1 i hi k hk1)
      exact hkk k (by omega) (h3 i hi j hj (by omega) k hk1) (by omega)

set_option maxRecDepth 100000 in
set_option maxHeartbeats 4000000 in
theorem wc_tee (ok : Prop) (N : Nat) (n : Nat) (kids : Nat → KT FC) (ih : ∀ i, i < n → WC ok N (kids i)) : WC ok N (.tee n kids) := by
  intro S v w m fs f SG h hS hf hSG hfl hm
  obtain ⟨T, cap, Sk, vs, rfl, h2, h3, h4, h5⟩ := h
  refine ⟨319, _, 407, _, rfl, nlWT _ _ _ _, mtWT _ _ _ w, cf407, ?_⟩
  have hT := hS T h4
  obtain ⟨hn6, hflk⟩ := hfl
  have HIH := Lib.hid ih
  have H5 := Lib.hid h5
  have HF := Lib.hid hf
  have HSG := Lib.hid hSG
  have HFL := Lib.hid hflk
  have HS := Lib.hid hS
  obtain ⟨fA, fc, rfl, -⟩ := hf
  clear ih h5 hSG hflk hS
  obtain ⟨i0, hi0, hz0⟩ := Option.map_eq_some_iff.1 z123
  have hsz0 : i0.size = 1 := by have := s123; rw [hi0] at this; simpa using this
  have hby0 : i0.bytes = 16 := by have := y123; rw [hi0] at this; simpa using this
  have HI0 := Lib.hid hi0
  have HZ0 := Lib.hid hz0
  have HSZ0 := Lib.hid hsz0
  have HBY0 := Lib.hid hby0
  clear hi0 hz0 hsz0 hby0
  go_enter Tryz.func407, Tryz.ntmps407
  go_wp2_with (at_make; refine wpList_make_full _ ?x1 (.tmp 8) (.tmp 8) 319 ?x2 w.heap.size 123 i0 .nilIface 1 u319 HI0.out HZ0.out HSZ0.out .i64 .i64 _ _ n ?x3 ?x4 rfl rfl ?b2 ?b3 (Nat.le_refl _) ?_)
  case x1 => rfl
  case x2 => rfl
  case x3 => rfl
  case x4 => rfl
  case b2 => rw [HBY0.out]; omega
  case b3 => unfold maxLen; omega
  intro w1 hown1 hgr1
  have hTI : TeeI w w1 N n 0 T kids S Sk vs fs ok := by
    have hk : ∀ k, k < w.heap.size → w1.heap[k]? = w.heap[k]? := fun k hk => hgr1.block k hk (by simp)
    refine ⟨?_, ⟨hgr1.os, hgr1.tape, hgr1.output, hgr1.size, fun k hk1 _ => hk k hk1⟩, ?_, hk T hT, fun i hi => absurd hi (by omega), fun i _ hi => ?_⟩
    · rcases hown1.2 with ⟨e, _⟩ | ⟨g, cap', cur, e, _, hg, _, _, hcs, _⟩
      · cases e
      · cases e
        exact ⟨cur, fun _ => .nilIface, fun _ _ => False, hg, by omega, fun i hi => absurd hi (by omega)⟩
    · rcases hown1.2 with ⟨e, _⟩ | ⟨g, cap', cur, e, _, hg, _, _, hcs, _⟩
      · cases e
      · cases e
        exact (Array.getElem?_eq_some_iff.1 hg).1
    · obtain ⟨g1, g2, g3, g4, g5⟩ := H5.out i hi
      exact RepG.keep (fun _ _ _ _ h => h) g5 fun k hk1 => hk k (HS.out k (g1 k hk1))
  have HTI := Lib.hid hTI
  clear hown1 hgr1 hTI HI0 HZ0 HSZ0 HBY0
  go_wp2_with fail
  go_loopw [12] (fun i wr => ∃ j : Nat, i = .int .i64 j ∧ j ≤ n ∧ Hid (TeeI w wr N n j T kids S Sk vs fs ok)) (fun i _ => n - (intOf i).toNat)
  case atStart => exact ⟨0, rfl, by omega, HTI⟩
  case round =>
    obtain ⟨j, rfl, hj, hti⟩ := hrel
    by_cases hlt : j < n
    · obtain ⟨g1, g2, g3, g4, g5⟩ := H5.out j hlt
      have hsz : w.heap.size < wr.heap.size := hti.out.size
      have hGF : GFs wr SG fs (.slice fA fs.length fc) := HF.out.keep fun k hk => hti.out.kept.block k (HSG.out k hk).1 (HSG.out k hk).2
      have hcall := HIH.out j hlt (Sk j) (vs j) wr m fs _ SG (hti.out.todo j (Nat.le_refl _) hlt) (fun k hk => by have := HS.out k (g1 k hk); omega) hGF (fun k hk => ⟨by have := (HSG.out k hk).1; omega, fun h => (HSG.out k hk).2 (g1 k h)⟩) (HFL.out j hlt) hm
      obtain ⟨t, q, f1, r, ev, i1, i3, i5, i4⟩ := hcall
      have c0 : wr.cell? ⟨T, j, none⟩ = some (.iface t q) := (World.cell?_of_block (w := w) hti.out.src).trans (g4.trans (by rw [ev]))
      have q0 : (0 : Int) ≤ (j : Int) := Int.natCast_nonneg _
      have q1 : (j : Int) < (n : Int) := by omega
      have I4 := Lib.hid i4
      have G1 := Lib.hid g1
      have G3 := Lib.hid g3
      have EV := Lib.hid ev
      clear i4 ev g1 g3 g4 g5 hGF
      all_goals
        go_wp2_with fail
        refine I4.out.mono ?_
        rintro e w' ⟨_, rfl, hr, hk, he⟩
        obtain ⟨t1, p1, rfl⟩ := RepG.form hr
        have hsj : ∀ k, Sk j k → k < w.heap.size := fun k hk1 => HS.out k (G1.out k hk1)
        obtain ⟨cur, hbk, hcs⟩ := hti.out.blk hk hsj
        have hst := hti.out.step hlt (.iface t1 p1) hk he hr (fun i hi => (H5.out i hi).1) g2 (fun i hi => (H5.out i hi).2.2.1) HS.out hT
        have cj : w'.cell? ⟨w.heap.size, j, none⟩ = some cur[j] := by rw [hbk.cell j]; simp [hcs, hlt]
        have cfz : w'.frozen? ⟨w.heap.size, j, none⟩ = false := hbk.frozen j
        have HST := Lib.hid hst
        clear hk he hr hsj hbk hst i1 i3 I4 EV hti c0
        go_wp2_with fail
        go_roundw
        case rel => exact ⟨j + 1, by go_num, by omega, HST⟩
        case measure => simp [intOf]; omega
    · have e : j = n := by omega
      subst e
      go_wp2_with fail
      go_ret
      obtain ⟨cur, vs', Sk', r1, r2, r3⟩ := hti.out.row
      have hsz := hti.out.size
      refine ⟨_, rfl, ⟨w.heap.size, j, Sk', vs', rfl, Nat.le_refl _, by omega, ⟨Nat.le_refl _, hsz⟩, fun i hi => ?_⟩, hti.out.kept, ?_⟩
      · obtain ⟨a1, a2, a3, a4⟩ := r3 i hi
        exact ⟨fun k hk => ⟨by have := (a3 k hk).1; omega, (a3 k hk).2⟩, fun h => by have := (a3 _ h).1; omega, a4, (cell_of_row wr _ i cur 123 (0, 0) r1).trans a1, a2⟩
      · refine ⟨T, cap, Sk, vs, rfl, h2, h3, h4, fun i hi => ?_⟩
        obtain ⟨g1, g2, g3, g4, _⟩ := H5.out i hi
        exact ⟨g1, g2, g3, (World.cell?_of_block (w := w) hti.out.src).trans g4, hti.out.done i hi⟩
end Go.Proofs.Zap

namespace Go.Proofs.Zap
open Go Go.Proofs Go.RowKit

theorem RepG.monoS {ok : Prop} {Y : (Nat → Prop) → KT FC → Value → Prop} {w : World} {N : Nat} {K : KT FC} {S S' : Nat → Prop} {v : Value} (h : RepG ok Y w N K S v) (hs : ∀ k, S k → S' k) : RepG ok Y w N K S' v := by
  cases K with
  | leaf lvl num fs => obtain ⟨L, g, h1, h2, h3, h4, h5⟩ := h; exact ⟨L, g, h1, hs L h2, h3, h4.mono hs, h5⟩
  | nop => exact h
  | tee n kids =>
    obtain ⟨T, cap, Sk, vs, h1, h2, h3, h4, h5⟩ := h
    exact ⟨T, cap, Sk, vs, h1, h2, h3, hs T h4, fun i hi => ⟨fun k hk => hs k ((h5 i hi).1 k hk), (h5 i hi).2⟩⟩
  | incr lvl k =>
    obtain ⟨I, vc, S1, h1, h2, h3, h4, h5⟩ := h
    exact ⟨I, vc, S1, h1, hs I h2, h3, fun j hj => hs j (h4 j hj), h5⟩
  | lazy k fs =>
    obtain ⟨h0, Z, vo, g, S1, SG, h1, h2, h3, h4, h5, h6, h7, h8, h9, h10⟩ := h
    refine ⟨h0, Z, vo, g, S1, SG, h1, hs Z h2, fun j hj => hs j (h3 j hj), fun j hj => hs j (h4 j hj), h5, h6, h7, h8, h9, ?_⟩
    rcases h10 with h10 | ⟨vy, S2, g1, g2, g3, g4, g5⟩
    · exact .inl h10
    · exact .inr ⟨vy, S2, g1, fun j hj => hs j (g2 j hj), g3, g4, g5⟩

/-- With of a core without lazy ones -/
theorem wc_F (N : Nat) (K : KT FC) : WC False N K := by
  induction K with
  | leaf lvl num fs => exact wc_leaf False N lvl num fs
  | nop => exact wc_nop False N
  | tee n kids ih => exact wc_tee False N n kids fun i _ => ih i
  | incr lvl k ih => exact wc_incr False N lvl k ih
  | lazy k fs ih => intro S v w m fs f SG h; exact h.1.elim

abbrev LazS (w' : World) (Z : Nat) (vo g : Value) : Prop := w'.cell? ⟨Z, 1, none⟩ = some vo ∧ w'.cell? ⟨Z, 3, none⟩ = some g
theorem lazS {w' : World} {Z : Nat} {x vo y g : Value} (hb : Blk w' Z 326 #[x, vo, y, g]) : LazS w' Z vo g := ⟨hb.cell 1, hb.cell 3⟩

/-- what initOnce leaves -/
def Inited (w : World) (N Z : Nat) (S1 : Nat → Prop) (K : KT FC) (gs : List FC) (vo g : Value) (w' : World) : Prop :=
  ∃ vy, RepF w' N (withF gs K) (NewB w w') vy ∧ Kept (fun k => S1 k ∨ k = Z) w w' ∧ RepE w' N K S1 vo ∧ Blk w' Z 326 #[vy, vo, .bool true, g]

set_option maxHeartbeats 2000000 in
theorem init_any (ok : Prop) (N Z : Nat) (S1 SG : Nat → Prop) (K : KT FC) (gs : List FC) (vo g : Value) (m : Nat) (w : World) (ih : WC ok N K) (hr : RepG ok (fun _ _ _ => False) w N K S1 vo) (hS : ∀ k, S1 k → k < w.heap.size) (hg : GFs w SG gs g)
    (hSG : ∀ k, SG k → k < w.heap.size ∧ ¬ S1 k ∧ k ≠ Z) (hZ : ¬ S1 Z) (hfl : fl K m) (hm : m + gs.length ≤ 1000000) (hb : Blk w Z 326 #[.nilIface, vo, .bool false, g]) :
    Calls Tryz.prog 421 #[.pointer (some ⟨Z, 0, none⟩)] w fun e w' => e = .returned (.tuple #[]) ∧ Inited w N Z S1 K gs vo g w' := by
  have hZw := hb.lt
  have hb2 : Blk (w.setCell ⟨Z, 2, none⟩ (.bool true)) Z 326 #[.nilIface, vo, .bool true, g] := by
    have := hb.set_ 2 (.bool true); simpa using this
  have hfar : ∀ k, k ≠ Z → (w.setCell ⟨Z, 2, none⟩ (.bool true)).heap[k]? = w.heap[k]? := fun k hne => Below.heap_setCell w ⟨Z, 2, none⟩ (.bool true) k hne
  have hsz2 : (w.setCell ⟨Z, 2, none⟩ (.bool true)).heap.size = w.heap.size := by simp [World.setCell]
  have hcall := ih S1 vo (w.setCell ⟨Z, 2, none⟩ (.bool true)).drew m gs g SG (RepG.keep (fun _ _ _ _ h => h) hr fun k hk => hfar k fun e => hZ (e ▸ hk)) (fun k hk => by have := hS k hk; rw [← hsz2] at this; exact this) (hg.keep fun k hk => hfar k (hSG k hk).2.2)
    (fun k hk => ⟨by have := (hSG k hk).1; rw [← hsz2] at this; exact this, (hSG k hk).2.1⟩) hfl hm
  obtain ⟨t, p, f1, r, rfl, i1, i3, i5, i4⟩ := hcall
  have c2 : w.cell? ⟨Z, 2, none⟩ = some (.bool false) := hb.cell 2
  have cf2 : w.frozen? ⟨Z, 2, none⟩ = false := hb.frozen 2
  obtain ⟨gA, gc, rfl, -⟩ := hg
  have I4 := Lib.hid i4
  have HB2 := Lib.hid hb2
  have HS0 : LazS (w.setCell ⟨Z, 2, none⟩ (.bool true)) Z (.iface t p) (.slice gA gs.length gc) := lazS hb2
  have HFAR := Lib.hid hfar
  have hkb : ∀ w1 : World, Kept S1 (w.setCell ⟨Z, 2, none⟩ (.bool true)).drew w1 → Blk w1 Z 326 #[.nilIface, .iface t p, .bool true, .slice gA gs.length gc] := fun w1 hk1 => (hk1.block Z (by rw [← hsz2] at hZw; exact hZw) hZ).trans hb2
  have hk3 : ∀ (w1 : World) (x : Value), Blk w1 Z 326 #[.nilIface, .iface t p, .bool true, .slice gA gs.length gc] → Blk (w1.setCell ⟨Z, 0, none⟩ x) Z 326 #[x, .iface t p, .bool true, .slice gA gs.length gc] := fun w1 x h => by
    have := h.set_ 0 x; simpa using this
  have HKB := Lib.hid hkb
  have HK3 := Lib.hid hk3
  have HSS := Lib.hid hS
  clear i4 hb hb2 hr hSG hfar ih hS hkb hk3
  all_goals
    go_enter Tryz.func421, Tryz.ntmps421
    go_wp2_with fail
    go_region_held3 (fun w' => LazS w' Z (.iface t p) (.slice gA gs.length gc)) (first | exact HS0 | exact lazS HB1.out | exact lazS HB3.out) ((refine I4.out.mono ?_; rintro e w1 ⟨_, rfl, hr1, hk1, he1⟩; obtain ⟨t1, p1, rfl⟩ := RepG.form hr1; have HB1 := Lib.hid (HKB.out _ hk1); have e0 : w1.cell? ⟨Z, 0, none⟩ = some .nilIface := HB1.out.cell 0; have e1 : w1.frozen? ⟨Z, 0, none⟩ = false := HB1.out.frozen 0; have HB3 := Lib.hid (HK3.out _ (.iface t1 p1) HB1.out)))
  all_goals
    have HR1 := Lib.hid hr1
    have HK1 := Lib.hid hk1
    have HE1 := Lib.hid he1
    clear hr1 hk1 he1 i1 i3 I4 HS0 e0 e1 c2 cf2
    go_wp2_with fail
    first | go_end0 | refine bodyPost_ret (results_none rfl _ _ _) rfl ?_
    have hss := HK1.out.size
    have hss2 : w.heap.size ≤ w1.heap.size := by rw [← hsz2]; exact hss
    have hsz3 : (w1.setCell ⟨Z, 0, none⟩ (.iface t1 p1)).heap.size = w1.heap.size := by simp [World.setCell]
    have hfar3 : ∀ k, k ≠ Z → (w1.setCell ⟨Z, 0, none⟩ (.iface t1 p1)).heap[k]? = w1.heap[k]? := fun k hne => Below.heap_setCell w1 ⟨Z, 0, none⟩ (.iface t1 p1) k hne
    have hnb : ∀ k, NewB (w.setCell ⟨Z, 2, none⟩ (.bool true)).drew w1 k → w.heap.size ≤ k ∧ k < w1.heap.size := fun k hk => ⟨by rw [← hsz2]; exact hk.1, hk.2⟩
    refine ⟨rfl, _, (RepG.monoS (RepF.keep HR1.out fun k hk => hfar3 k (by have := (hnb k hk).1; omega)) fun k hk => ⟨(hnb k hk).1, by rw [hsz3]; exact (hnb k hk).2⟩), ?_, RepG.keep (fun _ _ _ _ h => h) HE1.out (fun k hk => hfar3 k fun e => hZ (e ▸ hk)), HB3.out⟩
    refine ⟨HK1.out.os, HK1.out.tape, HK1.out.output, by rw [hsz3]; exact hss2, fun k hk hns => ?_⟩
    have n1 : ¬ S1 k := fun h => hns (.inl h)
    have n2 : k ≠ Z := fun h => hns (.inr h)
    have h1 : w1.heap[k]? = (w.setCell ⟨Z, 2, none⟩ (.bool true)).heap[k]? := HK1.out.block k (show k < (w.setCell ⟨Z, 2, none⟩ (.bool true)).heap.size by rw [hsz2]; exact hk) n1
    exact (hfar3 k n2).trans (h1.trans (HFAR.out k n2))

set_option maxHeartbeats 2000000 in
theorem wc_lazy (ok : Prop) (N : Nat) (K : KT FC) (gs : List FC) (ih : WC ok N K) : WC ok N (.lazy K gs) := by
  intro S v w m fs f SF h hS hf hSF hfl hm
  obtain ⟨hok, Z, vo, g, S1, SG, rfl, h2, h3, h4, h5, h6, h7, h8, h9, h10⟩ := h
  refine ⟨324, _, 419, _, rfl, nlWZ _ _, mtWZ _ w, cf419, ?_⟩
  rcases h10 with h10 | ⟨vy, S2, _, _, _, _, hno⟩
  case inr => exact hno.elim
  have hZw := hS Z h2
  have hinit := init_any ok N Z S1 SG K gs vo g (m - gs.length) w ih h8 (fun k hk => hS k (h3 k hk)) h9 (fun k hk => ⟨hS k (h4 k hk), h7 k hk, fun e => h6 (e ▸ hk)⟩) h5 hfl.2 (by have := hfl.1; omega) h10
  have HI := Lib.hid hinit
  have HF := Lib.hid hf
  have HSF := Lib.hid hSF
  have HS := Lib.hid hS
  have H3 := Lib.hid h3
  have H4 := Lib.hid h4
  have H7 := Lib.hid h7
  have H9 := Lib.hid h9
  obtain ⟨fA, fc, rfl, -⟩ := hf
  obtain ⟨hl1, hl2⟩ := hfl
  clear hinit h8 h10 hSF hS h3 h4 h7 h9
  go_enter Tryz.func419, Tryz.ntmps419
  go_wp2_with fail
  refine HI.out.mono ?_
  rintro e w1 ⟨rfl, vy, hr1, hk1, he1, hb1⟩
  have hs1 := hk1.size
  have hSF1 : ∀ k, SF k → w1.heap[k]? = w.heap[k]? := fun k hk => hk1.block k (HSF.out k hk).1 fun h => (HSF.out k hk).2 (h.elim (H3.out k) fun e => e ▸ h2)
  have hcall := wc_F N (withF gs K) (NewB w w1) vy w1 m fs _ SF hr1 (fun k hk => hk.2) (HF.out.keep hSF1) (fun k hk => ⟨by have := (HSF.out k hk).1; omega, fun h => by have := (HSF.out k hk).1; have := h.1; omega⟩)
    (fl_mono (fl_withF hl2) (by omega)) hm
  obtain ⟨t, p, f1, r, rfl, i1, i3, i5, i4⟩ := hcall
  have e0 : w1.cell? ⟨Z, 0, none⟩ = some (.iface t p) := hb1.cell 0
  have I4 := Lib.hid i4
  have HR1 := Lib.hid hr1
  have HK1 := Lib.hid hk1
  have HE1 := Lib.hid he1
  have HB1 := Lib.hid hb1
  clear hr1 hk1 he1 hb1 i4 hSF1 HI
  all_goals
    go_wp2_with fail
    refine I4.out.mono ?_
    rintro e w2 ⟨v', rfl, hr2, hk2, he2⟩
    have HR2 := Lib.hid hr2
    have HK2 := Lib.hid hk2
    clear hr2 hk2 he2 i1 i3 I4 e0
    go_wp2_with fail
    go_ret
    have hs2 := HK2.out.size
    have hold : ∀ k, k < w.heap.size → w2.heap[k]? = w1.heap[k]? := fun k hk => HK2.out.block k (by omega) fun h => by have := h.1; omega
    refine ⟨_, rfl, ?_, ⟨HK2.out.os.trans HK1.out.os, HK2.out.tape.trans HK1.out.tape, HK2.out.output.trans HK1.out.output, by omega, fun k hk hns => (hold k hk).trans (HK1.out.block k hk fun h => hns (h.elim (H3.out k) fun e => e ▸ h2))⟩, ?_⟩
    · rw [show withF fs (.lazy K gs) = withF fs (withF gs K) by rw [withF_withF]; rfl]
      exact RepG.monoS HR2.out fun k hk => ⟨by have := hk.1; omega, hk.2⟩
    · refine ⟨trivial, Z, vo, g, S1, SG, rfl, h2, H3.out, H4.out, h5, h6, H7.out, ?_, ?_, .inr ⟨_, fun _ => False, (hold Z hZw).trans HB1.out, fun _ h => h.elim, fun h => h, fun _ h => h.elim, trivial⟩⟩
      · exact RepG.keep (fun _ _ _ _ h => h) HE1.out fun k hk => hold k (HS.out k (H3.out k hk))
      · exact H9.out.keep fun k hk => (hold k (HS.out k (H4.out k hk))).trans (HK1.out.block k (HS.out k (H4.out k hk)) fun h => h.elim (H7.out k hk) fun e => h6 (e ▸ hk))

/-- With of a core as coreOf builds it -/
theorem wc_U (N : Nat) (K : KT FC) : WC True N K := by
  induction K with
  | leaf lvl num fs => exact wc_leaf True N lvl num fs
  | nop => exact wc_nop True N
  | tee n kids ih => exact wc_tee True N n kids fun i _ => ih i
  | incr lvl k ih => exact wc_incr True N lvl k ih
  | lazy k fs ih => exact wc_lazy True N k fs ih
end Go.Proofs.Zap
