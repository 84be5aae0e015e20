/- a text of the claims over the seat; its order and aim: NOTES.md -/
import Derived.Test.YtpllbhobcnglnaaGreatDoorZQG
namespace Go.Proofs.Zap
open Go Go.Proofs Go.RowKit

theorem RepG.monoS {ok : Prop} {Y : (Nat → Prop) → KT FC → Value → Prop} {w : World} {N : Nat} {K : KT FC} {S S' : Nat → Prop} {v : Value} (h : RepG ok Y w N K S v) (hs : ∀ k, S k → S' k) : RepG ok Y w N K S' v := by
  cases K with
  | leaf lvl num fs => obtain ⟨L, g, h1, h2, h3, h4, h5⟩ := h; exact ⟨L, g, h1, hs L h2, h3, h4.mono hs, h5⟩
  | nop => exact h
  | tee n kids =>
    obtain ⟨T, cap, Sk, vs, h1, h2, h3, h4, h5⟩ := h
    exact ⟨T, cap, Sk, vs, h1, h2, h3, hs T h4, fun i hi => ⟨fun k hk => hs k ((h5 i hi).1 k hk), (h5 i hi).2⟩⟩
  | incr lvl k =>
    obtain ⟨I, vc, S1, h1, h2, h3, h4, h5⟩ := h
    exact ⟨I, vc, S1, h1, hs I h2, h3, fun j hj => hs j (h4 j hj), h5⟩
  | lazy k fs =>
    obtain ⟨h0, Z, vo, g, S1, SG, h1, h2, h3, h4, h5, h6, h7, h8, h9, h10⟩ := h
    refine ⟨h0, Z, vo, g, S1, SG, h1, hs Z h2, fun j hj => hs j (h3 j hj), fun j hj => hs j (h4 j hj), h5, h6, h7, h8, h9, ?_⟩
    rcases h10 with h10 | ⟨vy, S2, g1, g2, g3, g4, g5⟩
    · exact .inl h10
    · exact .inr ⟨vy, S2, g1, fun j hj => hs j (g2 j hj), g3, g4, g5⟩

/-- With of a core without lazy ones -/
theorem wc_F (N : Nat) (K : KT FC) : WC False N K := by
  induction K with
  | leaf lvl num fs => exact wc_leaf False N lvl num fs
  | nop => exact wc_nop False N
  | tee n kids ih => exact wc_tee False N n kids fun i _ => ih i
  | incr lvl k ih => exact wc_incr False N lvl k ih
  | lazy k fs ih => intro S v w m fs f SG h; exact h.1.elim

abbrev LazS (w' : World) (Z : Nat) (vo g : Value) : Prop := w'.cell? ⟨Z, 1, none⟩ = some vo ∧ w'.cell? ⟨Z, 3, none⟩ = some g
theorem lazS {w' : World} {Z : Nat} {x vo y g : Value} (hb : Blk w' Z 326 #[x, vo, y, g]) : LazS w' Z vo g := ⟨hb.cell 1, hb.cell 3⟩

/-- what initOnce leaves -/
def Inited (w : World) (N Z : Nat) (S1 : Nat → Prop) (K : KT FC) (gs : List FC) (vo g : Value) (w' : World) : Prop :=
  ∃ vy, RepF w' N (withF gs K) (NewB w w') vy ∧ Kept (fun k => S1 k ∨ k = Z) w w' ∧ RepE w' N K S1 vo ∧ Blk w' Z 326 #[vy, vo, .bool true, g]

set_option maxHeartbeats 2000000 in
theorem init_any (ok : Prop) (N Z : Nat) (S1 SG : Nat → Prop) (K : KT FC) (gs : List FC) (vo g : Value) (m : Nat) (w : World) (ih : WC ok N K) (hr : RepG ok (fun _ _ _ => False) w N K S1 vo) (hS : ∀ k, S1 k → k < w.heap.size) (hg : GFs w SG gs g)
    (hSG : ∀ k, SG k → k < w.heap.size ∧ ¬ S1 k ∧ k ≠ Z) (hZ : ¬ S1 Z) (hfl : fl K m) (hm : m + gs.length ≤ 1000000) (hb : Blk w Z 326 #[.nilIface, vo, .bool false, g]) :
    Calls Tryz.prog 421 #[.pointer (some ⟨Z, 0, none⟩)] w fun e w' => e = .returned (.tuple #[]) ∧ Inited w N Z S1 K gs vo g w' := by
  have hZw := hb.lt
  have hb2 : Blk (w.setCell ⟨Z, 2, none⟩ (.bool true)) Z 326 #[.nilIface, vo, .bool true, g] := by
    have := hb.set_ 2 (.bool true); simpa using this
  have hfar : ∀ k, k ≠ Z → (w.setCell ⟨Z, 2, none⟩ (.bool true)).heap[k]? = w.heap[k]? := fun k hne => Below.heap_setCell w ⟨Z, 2, none⟩ (.bool true) k hne
  have hsz2 : (w.setCell ⟨Z, 2, none⟩ (.bool true)).heap.size = w.heap.size := by simp [World.setCell]
  have hcall := ih S1 vo (w.setCell ⟨Z, 2, none⟩ (.bool true)).drew m gs g SG (RepG.keep (fun _ _ _ _ h => h) hr fun k hk => hfar k fun e => hZ (e ▸ hk)) (fun k hk => by have := hS k hk; rw [← hsz2] at this; exact this) (hg.keep fun k hk => hfar k (hSG k hk).2.2)
    (fun k hk => ⟨by have := (hSG k hk).1; rw [← hsz2] at this; exact this, (hSG k hk).2.1⟩) hfl hm
  obtain ⟨t, p, f1, r, rfl, i1, i3, i5, i4⟩ := hcall
  have c2 : w.cell? ⟨Z, 2, none⟩ = some (.bool false) := hb.cell 2
  have cf2 : w.frozen? ⟨Z, 2, none⟩ = false := hb.frozen 2
  obtain ⟨gA, gc, rfl, -⟩ := hg
  have I4 := Lib.hid i4
  have HB2 := Lib.hid hb2
  have HS0 : LazS (w.setCell ⟨Z, 2, none⟩ (.bool true)) Z (.iface t p) (.slice gA gs.length gc) := lazS hb2
  have HFAR := Lib.hid hfar
  have hkb : ∀ w1 : World, Kept S1 (w.setCell ⟨Z, 2, none⟩ (.bool true)).drew w1 → Blk w1 Z 326 #[.nilIface, .iface t p, .bool true, .slice gA gs.length gc] := fun w1 hk1 => (hk1.block Z (by rw [← hsz2] at hZw; exact hZw) hZ).trans hb2
  have hk3 : ∀ (w1 : World) (x : Value), Blk w1 Z 326 #[.nilIface, .iface t p, .bool true, .slice gA gs.length gc] → Blk (w1.setCell ⟨Z, 0, none⟩ x) Z 326 #[x, .iface t p, .bool true, .slice gA gs.length gc] := fun w1 x h => by
    have := h.set_ 0 x; simpa using this
  have HKB := Lib.hid hkb
  have HK3 := Lib.hid hk3
  have HSS := Lib.hid hS
  clear i4 hb hb2 hr hSG hfar ih hS hkb hk3
  all_goals
    go_enter Tryz.func421, Tryz.ntmps421
    go_wp2_with fail
    go_region_held3 (fun w' => LazS w' Z (.iface t p) (.slice gA gs.length gc)) (first | exact HS0 | exact lazS HB1.out | exact lazS HB3.out) ((refine I4.out.mono ?_; rintro e w1 ⟨_, rfl, hr1, hk1, he1⟩; obtain ⟨t1, p1, rfl⟩ := RepG.form hr1; have HB1 := Lib.hid (HKB.out _ hk1); have e0 : w1.cell? ⟨Z, 0, none⟩ = some .nilIface := HB1.out.cell 0; have e1 : w1.frozen? ⟨Z, 0, none⟩ = false := HB1.out.frozen 0; have HB3 := Lib.hid (HK3.out _ (.iface t1 p1) HB1.out)))
  all_goals
    have HR1 := Lib.hid hr1
    have HK1 := Lib.hid hk1
    have HE1 := Lib.hid he1
    clear hr1 hk1 he1 i1 i3 I4 HS0 e0 e1 c2 cf2
    go_wp2_with fail
    first | go_end0 | refine bodyPost_ret (results_none rfl _ _ _) rfl ?_
    have hss := HK1.out.size
    have hss2 : w.heap.size ≤ w1.heap.size := by rw [← hsz2]; exact hss
    have hsz3 : (w1.setCell ⟨Z, 0, none⟩ (.iface t1 p1)).heap.size = w1.heap.size := by simp [World.setCell]
    have hfar3 : ∀ k, k ≠ Z → (w1.setCell ⟨Z, 0, none⟩ (.iface t1 p1)).heap[k]? = w1.heap[k]? := fun k hne => Below.heap_setCell w1 ⟨Z, 0, none⟩ (.iface t1 p1) k hne
    have hnb : ∀ k, NewB (w.setCell ⟨Z, 2, none⟩ (.bool true)).drew w1 k → w.heap.size ≤ k ∧ k < w1.heap.size := fun k hk => ⟨by rw [← hsz2]; exact hk.1, hk.2⟩
    refine ⟨rfl, _, (RepG.monoS (RepF.keep HR1.out fun k hk => hfar3 k (by have := (hnb k hk).1; omega)) fun k hk => ⟨(hnb k hk).1, by rw [hsz3]; exact (hnb k hk).2⟩), ?_, RepG.keep (fun _ _ _ _ h => h) HE1.out (fun k hk => hfar3 k fun e => hZ (e ▸ hk)), HB3.out⟩
    refine ⟨HK1.out.os, HK1.out.tape, HK1.out.output, by rw [hsz3]; exact hss2, fun k hk hns => ?_⟩
    have n1 : ¬ S1 k := fun h => hns (.inl h)
    have n2 : k ≠ Z := fun h => hns (.inr h)
    have h1 : w1.heap[k]? = (w.setCell ⟨Z, 2, none⟩ (.bool true)).heap[k]? := HK1.out.block k (show k < (w.setCell ⟨Z, 2, none⟩ (.bool true)).heap.size by rw [hsz2]; exact hk) n1
    exact (hfar3 k n2).trans (h1.trans (HFAR.out k n2))

set_option maxHeartbeats 2000000 in
theorem wc_lazy (ok : Prop) (N : Nat) (K : KT FC) (gs : List FC) (ih : WC ok N K) : WC ok N (.lazy K gs) := by
  intro S v w m fs f SF h hS hf hSF hfl hm
  obtain ⟨hok, Z, vo, g, S1, SG, rfl, h2, h3, h4, h5, h6, h7, h8, h9, h10⟩ := h
  refine ⟨324, _, 419, _, rfl, nlWZ _ _, mtWZ _ w, cf419, ?_⟩
  rcases h10 with h10 | ⟨vy, S2, _, _, _, _, hno⟩
  case inr => exact hno.elim
  have hZw := hS Z h2
  have hinit := init_any ok N Z S1 SG K gs vo g (m - gs.length) w ih h8 (fun k hk => hS k (h3 k hk)) h9 (fun k hk => ⟨hS k (h4 k hk), h7 k hk, fun e => h6 (e ▸ hk)⟩) h5 hfl.2 (by have := hfl.1; omega) h10
  have HI := Lib.hid hinit
  have HF := Lib.hid hf
  have HSF := Lib.hid hSF
  have HS := Lib.hid hS
  have H3 := Lib.hid h3
  have H4 := Lib.hid h4
  have H7 := Lib.hid h7
  have H9 := Lib.hid h9
  obtain ⟨fA, fc, rfl, -⟩ := hf
  obtain ⟨hl1, hl2⟩ := hfl
  clear hinit h8 h10 hSF hS h3 h4 h7 h9
  go_enter Tryz.func419, Tryz.ntmps419
  go_wp2_with fail
  refine HI.out.mono ?_
  rintro e w1 ⟨rfl, vy, hr1, hk1, he1, hb1⟩
  have hs1 := hk1.size
  have hSF1 : ∀ k, SF k → w1.heap[k]? = w.heap[k]? := fun k hk => hk1.block k (HSF.out k hk).1 fun h => (HSF.out k hk).2 (h.elim (H3.out k) fun e => e ▸ h2)
  have hcall := wc_F N (withF gs K) (NewB w w1) vy w1 m fs _ SF hr1 (fun k hk => hk.2) (HF.out.keep hSF1) (fun k hk => ⟨by have := (HSF.out k hk).1; omega, fun h => by have := (HSF.out k hk).1; have := h.1; omega⟩)
    (fl_mono (fl_withF hl2) (by omega)) hm
  obtain ⟨t, p, f1, r, rfl, i1, i3, i5, i4⟩ := hcall
  have e0 : w1.cell? ⟨Z, 0, none⟩ = some (.iface t p) := hb1.cell 0
  have I4 := Lib.hid i4
  have HR1 := Lib.hid hr1
  have HK1 := Lib.hid hk1
  have HE1 := Lib.hid he1
  have HB1 := Lib.hid hb1
  clear hr1 hk1 he1 hb1 i4 hSF1 HI
  all_goals
    go_wp2_with fail
    refine I4.out.mono ?_
    rintro e w2 ⟨v', rfl, hr2, hk2, he2⟩
    have HR2 := Lib.hid hr2
    have HK2 := Lib.hid hk2
    clear hr2 hk2 he2 i1 i3 I4 e0
    go_wp2_with fail
    go_ret
    have hs2 := HK2.out.size
    have hold : ∀ k, k < w.heap.size → w2.heap[k]? = w1.heap[k]? := fun k hk => HK2.out.block k (by omega) fun h => by have := h.1; omega
    refine ⟨_, rfl, ?_, ⟨HK2.out.os.trans HK1.out.os, HK2.out.tape.trans HK1.out.tape, HK2.out.output.trans HK1.out.output, by omega, fun k hk hns => (hold k hk).trans (HK1.out.block k hk fun h => hns (h.elim (H3.out k) fun e => e ▸ h2))⟩, ?_⟩
    · rw [show withF fs (.lazy K gs) = withF fs (withF gs K) by rw [withF_withF]; rfl]
      exact RepG.monoS HR2.out fun k hk => ⟨by have := hk.1; omega, hk.2⟩
    · refine ⟨trivial, Z, vo, g, S1, SG, rfl, h2, H3.out, H4.out, h5, h6, H7.out, ?_, ?_, .inr ⟨_, fun _ => False, (hold Z hZw).trans HB1.out, fun _ h => h.elim, fun h => h, fun _ h => h.elim, trivial⟩⟩
      · exact RepG.keep (fun _ _ _ _ h => h) HE1.out fun k hk => hold k (HS.out k (H3.out k hk))
      · exact H9.out.keep fun k hk => (hold k (HS.out k (H4.out k hk))).trans (HK1.out.block k (HS.out k (H4.out k hk)) fun h => h.elim (H7.out k hk) fun e => h6 (e ▸ hk))

/-- With of a core as coreOf builds it -/
theorem wc_U (N : Nat) (K : KT FC) : WC True N K := by
  induction K with
  | leaf lvl num fs => exact wc_leaf True N lvl num fs
  | nop => exact wc_nop True N
  | tee n kids ih => exact wc_tee True N n kids fun i _ => ih i
  | incr lvl k ih => exact wc_incr True N lvl k ih
  | lazy k fs ih => exact wc_lazy True N k fs ih
end Go.Proofs.Zap
