/- a text of the claims over the seat; its order and aim: NOTES.md -/
import Derived.Test.YtpllbhobcnglnaaGreatDoorZQE
namespace Go.Proofs.Zap
open Go Go.Proofs Go.RowKit

/-- the blocks that a call has made -/
def NewB (w w' : World) (k : Nat) : Prop := w.heap.size ≤ k ∧ k < w'.heap.size

set_option maxRecDepth 1000000
theorem nlWL (a : Addr) (w : World) : (nilAhead 589 201 (.pointer (some a)) "With").run Tryz.prog w = .ok (some false) w := by kernel_rfl
theorem mtWL (a : Addr) (w : World) : (method 589 201 (.pointer (some a)) "With").run Tryz.prog w = .ok (369, .pointer (some a)) w := by kernel_rfl
theorem nlWN (w : World) : (nilAhead 589 318 (.agg #[]) "With").run Tryz.prog w = .ok (some false) w := by kernel_rfl
theorem mtWN (w : World) : (method 589 318 (.agg #[]) "With").run Tryz.prog w = .ok (401, .agg #[]) w := by kernel_rfl
theorem nlWT (a : Option Addr) (n c : Nat) (w : World) : (nilAhead 589 319 (.slice a n c) "With").run Tryz.prog w = .ok (some false) w := by kernel_rfl
theorem mtWT (a : Option Addr) (n c : Nat) (w : World) : (method 589 319 (.slice a n c) "With").run Tryz.prog w = .ok (407, .slice a n c) w := by kernel_rfl
theorem nlWI (a : Addr) (w : World) : (nilAhead 589 321 (.pointer (some a)) "With").run Tryz.prog w = .ok (some false) w := by kernel_rfl
theorem mtWI (a : Addr) (w : World) : (method 589 321 (.pointer (some a)) "With").run Tryz.prog w = .ok (414, .pointer (some a)) w := by kernel_rfl
theorem nlWZ (a : Addr) (w : World) : (nilAhead 589 324 (.pointer (some a)) "With").run Tryz.prog w = .ok (some false) w := by kernel_rfl
theorem mtWZ (a : Addr) (w : World) : (method 589 324 (.pointer (some a)) "With").run Tryz.prog w = .ok (419, .pointer (some a)) w := by kernel_rfl
theorem cf369 (A : Array Value) (W : World) : (callFunc 369 A).run Tryz.prog W = .ok (.enter 369 A) W := by kernel_rfl
theorem cf401 (A : Array Value) (W : World) : (callFunc 401 A).run Tryz.prog W = .ok (.enter 401 A) W := by kernel_rfl
theorem cf407 (A : Array Value) (W : World) : (callFunc 407 A).run Tryz.prog W = .ok (.enter 407 A) W := by kernel_rfl
theorem cf414 (A : Array Value) (W : World) : (callFunc 414 A).run Tryz.prog W = .ok (.enter 414 A) W := by kernel_rfl
theorem cf419 (A : Array Value) (W : World) : (callFunc 419 A).run Tryz.prog W = .ok (.enter 419 A) W := by kernel_rfl

/-- a core's With: what is built anew, and nothing old is changed -/
def WithP (w : World) (N : Nat) (K : KT FC) (e : Ending) (w' : World) : Prop := ∃ v', e = .returned v' ∧ RepF w' N K (NewB w w') v' ∧ Below w.heap.size w w'

/-- the cells of a leaf -/
abbrev LeafS (w' : World) (L : Nat) (lvl : Int) (num : Nat) (g : Value) (N : Nat) : Prop :=
  w'.cell? ⟨L, 0, none⟩ = some (.iface 129 (.int .i8 lvl)) ∧ w'.cell? ⟨L, 1, none⟩ = some (.int .i64 num) ∧ w'.cell? ⟨L, 2, none⟩ = some g ∧ w'.cell? ⟨L, 3, none⟩ = some (.pointer (some ⟨N, 0, none⟩))
theorem leafS {w' : World} {L : Nat} {lvl : Int} {num : Nat} {g : Value} {N : Nat} (hb : Blk w' L 205 #[.iface 129 (.int .i8 lvl), .int .i64 num, g, .pointer (some ⟨N, 0, none⟩)]) : LeafS w' L lvl num g N :=
  ⟨hb.cell 0, hb.cell 1, hb.cell 2, hb.cell 3⟩

set_option maxHeartbeats 1000000 in
theorem leafWith (N L : Nat) (lvl : Int) (num : Nat) (gs fs : List FC) (g f : Value) (S SG : Nat → Prop) (w : World) (hb : Blk w L 205 #[.iface 129 (.int .i8 lvl), .int .i64 num, g, .pointer (some ⟨N, 0, none⟩)])
    (hg : GFs w S gs g) (hf : GFs w SG fs f) (hS : ∀ k, S k → k < w.heap.size) (hSG : ∀ k, SG k → k < w.heap.size) (hm : gs.length + fs.length ≤ 1000000) (hl0 : -128 ≤ lvl) (hl1 : lvl ≤ 127) :
    Calls Tryz.prog 369 #[.pointer (some ⟨L, 0, none⟩), f] w (WithP w N (.leaf lvl num (gs ++ fs))) := by
  have hL := hb.lt
  have hcl : Calls Tryz.prog 372 #[.slice (some ⟨w.heap.size, 0, none⟩) 2 2] ((w.alloc (.cells #[g, f] 149)).drew) fun e w' => ∃ v', e = .returned v' ∧ GFs w' (fun k => w.heap.size + 1 ≤ k ∧ k < w'.heap.size) (gs ++ fs) v' ∧ Below (w.heap.size + 1) ((w.alloc (.cells #[g, f] 149)).drew) w' := by
    have hbx := Blk.new w.drew 149 #[g, f]
    have := concat_any w.heap.size gs fs S SG g f ((w.alloc (.cells #[g, f] 149)).drew) (hg.keep fun k hk => heap_alloc_old w _ (hS k hk)) (hf.keep fun k hk => heap_alloc_old w _ (hSG k hk)) (fun k hk => by have := hS k hk; simp; omega) (fun k hk => by have := hSG k hk; simp; omega)
      (by simp) (hbx.cell 0) (hbx.cell 1) hm 2
    simpa using this
  have HCL := Lib.hid hcl
  have HB := Lib.hid hb
  have hkb : ∀ W w' : World, (Below (w.heap.size + 1) W w') → W.heap[L]? = w.heap[L]? → Blk w' L 205 #[.iface 129 (.int .i8 lvl), .int .i64 num, g, .pointer (some ⟨N, 0, none⟩)] := fun W w' hbl hW => by
    have : w'.heap[L]? = w.heap[L]? := (hbl.block L (by omega)).trans hW
    exact this.trans hb
  have HKB := Lib.hid hkb
  obtain ⟨gA, gc, rfl, -⟩ := hg
  obtain ⟨fA, fc, rfl, -⟩ := hf
  have hS0 : LeafS w L lvl num (.slice gA gs.length gc) N := leafS HB.out
  obtain ⟨c0, c1, c2, c3⟩ := hS0
  clear hcl hb hkb
  go_enter Tryz.func369, Tryz.ntmps369
  go_wp2_with fail
  go_region_held3 (fun w' => LeafS w' L lvl num (.slice gA gs.length gc) N) (first | exact ⟨c0, c1, c2, c3⟩ | exact leafS (HB.out.alloc _) | exact leafS (HKB.out _ _ hb1 (heap_alloc_old w _ hL)) | exact leafS ((HKB.out _ _ hb1 (heap_alloc_old w _ hL)).alloc _)) ((go_at_call 372; refine HCL.out.mono ?_; rintro e w1 ⟨_, rfl, ⟨vA, vc, rfl, hg1⟩, hb1⟩))
  have hgl : (gs ++ fs).length = gs.length + fs.length := by simp
  have hg2 : GFs w1 (fun k => w.heap.size + 1 ≤ k ∧ k < w1.heap.size) (gs ++ fs) (.slice vA (gs.length + fs.length) vc) := ⟨vA, vc, by rw [hgl], hg1⟩
  have HG2 := Lib.hid hg2
  have HB1 := Lib.hid hb1
  clear hg2 hg1 hb1 hgl c0 c1 c2 c3 HKB HCL
  go_wp2_with fail
  go_ret
  have hs1 := HB1.out.size
  simp at hs1
  refine ⟨_, rfl, ⟨w1.heap.size, _, rfl, ⟨by omega, by simp⟩, Blk.new w1 205 _, (HG2.out.keep (fun k hk => heap_alloc_old w1 _ hk.2)).mono (fun k hk => ⟨by omega, by simp; omega⟩), hl0, hl1⟩, ?_⟩
  have hb0 : Below w.heap.size w (w.alloc (.cells #[.slice gA gs.length gc, .slice fA fs.length fc] 149)).drew := ⟨rfl, rfl, rfl, by simp, fun k hk => heap_alloc_old w _ hk⟩
  exact (hb0.trans (HB1.out.mono (show w.heap.size ≤ w.heap.size + 1 by omega))).alloc (show w.heap.size ≤ w1.heap.size by omega) _

/-- what a core's With of these fields leaves: a new core without lazy ones; the old one is as good as it was, for its levels -/
def RepE (w : World) (N : Nat) (K : KT FC) (S : Nat → Prop) (v : Value) : Prop := RepG True (fun _ _ _ => True) w N K S v
def WithU (w : World) (N : Nat) (S : Nat → Prop) (K : KT FC) (fs : List FC) (v : Value) (e : Ending) (w' : World) : Prop := ∃ v', e = .returned v' ∧ RepF w' N (withF fs K) (NewB w w') v' ∧ Kept S w w' ∧ RepE w' N K S v

/-- few fields, few cores of a tee -/
def fl {F : Type} : KT F → Nat → Prop
  | .leaf _ _ gs, m => gs.length ≤ m
  | .nop, _ => True
  | .tee n kids, m => n ≤ 6 ∧ ∀ i, i < n → fl (kids i) m
  | .incr _ k, m => fl k m
  | .lazy k gs, m => gs.length ≤ m ∧ fl k (m - gs.length)
theorem fl_mono {F : Type} {K : KT F} : ∀ {m m' : Nat}, fl K m → m ≤ m' → fl K m' := by
  induction K with
  | leaf lvl num gs => intro m m' h hm; exact Nat.le_trans (show gs.length ≤ m from h) hm
  | nop => intro m m' h hm; trivial
  | tee n kids ih => intro m m' h hm; exact ⟨h.1, fun i hi => ih i (h.2 i hi) hm⟩
  | incr lvl k ih => intro m m' h hm; exact ih h hm
  | lazy k gs ih => intro m m' h hm; exact ⟨Nat.le_trans h.1 hm, ih h.2 (by omega)⟩
theorem fl_withF {F : Type} {K : KT F} : ∀ {m : Nat} {fs : List F}, fl K m → fl (withF fs K) (m + fs.length) := by
  induction K with
  | leaf lvl num gs => intro m fs h; simp only [withF, fl, List.length_append]; simp only [fl] at h; omega
  | nop => intro m fs h; trivial
  | tee n kids ih => intro m fs h; exact ⟨h.1, fun i hi => ih i (h.2 i hi)⟩
  | incr lvl k ih => intro m fs h; exact ih h
  | lazy k gs ih =>
    intro m fs h
    refine fl_mono (ih h.2) ?_
    have := h.1
    rw [List.length_append]; omega

/-- a method call on an interface value whose method asks nothing ahead -/
def InvW (v : Value) (name : String) (args : List Value) (w : World) (post : Ending → World → Prop) : Prop :=
  ∃ t p f r, v = .iface t p ∧ (nilAhead 589 t p name).run Tryz.prog w = .ok (some false) w ∧ (method 589 t p name).run Tryz.prog w = .ok (f, r) w ∧
    (∀ (A : Array Value) (W : World), (callFunc f A).run Tryz.prog W = .ok (.enter f A) W) ∧ Calls Tryz.prog f (r :: args).toArray w post

def WC (ok : Prop) (N : Nat) (K : KT FC) : Prop := ∀ (S : Nat → Prop) (v : Value) (w : World) (m : Nat) (fs : List FC) (f : Value) (SG : Nat → Prop), RepG ok (fun _ _ _ => False) w N K S v → (∀ k, S k → k < w.heap.size) → GFs w SG fs f → (∀ k, SG k → k < w.heap.size ∧ ¬ S k) → fl K m → m + fs.length ≤ 1000000 →
  InvW v "With" [f] w (WithU w N S K fs v)

theorem repE_below {ok : Prop} {w w' : World} {N : Nat} {K : KT FC} {S : Nat → Prop} {v : Value} (h : RepG ok (fun _ _ _ => False) w N K S v) (hS : ∀ k, S k → k < w.heap.size) (hb : Below w.heap.size w w') : RepE w' N K S v :=
  RepG.keep (fun _ _ _ _ _ => trivial) (RepG.weaken (ok' := True) (Y' := fun _ _ _ => True) (fun _ => trivial) (fun _ _ _ h => h.elim) h) fun k hk => hb.block k (hS k hk)

theorem wc_leaf (ok : Prop) (N : Nat) (lvl : Int) (num : Nat) (gs : List FC) : WC ok N (.leaf lvl num gs) := by
  intro S v w m fs f SG h hS hf hSG hfl hm
  have hh := h
  obtain ⟨L, g, rfl, h2, h3, h4, h5, h6⟩ := h
  refine ⟨201, _, 369, _, rfl, nlWL _ _, mtWL _ w, cf369, ?_⟩
  refine (leafWith N L lvl num gs fs g f S SG w h3 h4 hf hS (fun k hk => (hSG k hk).1) (by have : gs.length ≤ m := hfl; omega) h5 h6).mono ?_
  rintro e w' ⟨v', rfl, hr, hb⟩
  exact ⟨v', rfl, hr, Kept.of_below hb, repE_below hh hS hb⟩

theorem nopWith (f : Value) (w : World) : Calls Tryz.prog 401 #[.agg #[], f] w (Says w (.iface 318 (.agg #[]))) := by
  go_enter Tryz.func401, Tryz.ntmps401
  go_wp2_with fail
  go_ret
  exact ⟨rfl, (Below.refl _ _).alloc (Nat.le_refl _) _⟩
theorem wc_nop (ok : Prop) (N : Nat) : WC ok N .nop := by
  intro S v w m fs f SG h hS hf hSG hfl hm
  have hh := h
  obtain rfl := h
  refine ⟨318, _, 401, _, rfl, nlWN _, mtWN w, cf401, ?_⟩
  refine (nopWith f w).mono ?_
  rintro e w' ⟨rfl, hb⟩
  exact ⟨_, rfl, rfl, Kept.of_below hb, repE_below hh hS hb⟩

theorem RepG.form {ok : Prop} {Y : (Nat → Prop) → KT FC → Value → Prop} {w : World} {N : Nat} {K : KT FC} {S : Nat → Prop} {v : Value} (h : RepG ok Y w N K S v) : ∃ t p, v = .iface t p := by
  cases K with
  | leaf lvl num fs => obtain ⟨L, g, h1, _⟩ := h; exact ⟨_, _, h1⟩
  | nop => exact ⟨_, _, h⟩
  | tee n kids => obtain ⟨T, cap, Sk, vs, h1, _⟩ := h; exact ⟨_, _, h1⟩
  | incr lvl k => obtain ⟨I, vc, S1, h1, _⟩ := h; exact ⟨_, _, h1⟩
  | lazy k fs => obtain ⟨h0, Z, vo, g, S1, SG, h1, _⟩ := h; exact ⟨_, _, h1⟩
end Go.Proofs.Zap
