/- a text of the claims over the seat; its order and aim: NOTES.md -/
import Derived.Test.YtpllbhobcnglnaaGreatDoorZJ6
import Derived.Defers
import Derived.Laws.ResultCell
import Derived.Laws.Rows
namespace Go.Proofs.Zap
open Go Go.Proofs Go.RowKit

set_option maxHeartbeats 2000000 in
set_option maxRecDepth 100000 in
theorem deeper_d (A J : Nat) (s : ByteArray) (k d : Int) (w : World) (h : Jr w J s k d) (hd : 0 < d) (hd2 : d < 5000) (hA : w.cell? ⟨A, 0, none⟩ = some (.pointer (some ⟨J, 0, none⟩))) :
    CallsD Tryz.prog 133 #[.pointer (some ⟨A, 0, none⟩)] .returning w fun e u' w' => u' = .returning ∧ e = .returned (.tuple #[]) ∧ w' = w.setCell ⟨J, 2, none⟩ (.int .i64 (d - 1)) := by
  have c2 := h.c2
  have f2 := h.f 2
  have hw : IntKind.i64.wrap (d - 1) = d - 1 := by rw [IntKind.wrap_i64]; omega
  clear h
  go_enter_d Tryz.func133, Tryz.ntmps133
  go_wp2
  go_end0
  all_goals first | rfl | exact ⟨rfl, rfl⟩

structure Vst (w0 w : World) (J : Nat) (s : ByteArray) (k d : Int) : Prop where
  jr : Jr w J s k d
  a : w.heap[w0.heap.size]? = some (.cells #[.pointer (some ⟨J, 0, none⟩)] 136 (0, 0))
  b : w.heap[w0.heap.size + 1]? = some (.cells #[.int .i64 0, .string ⟨#[]⟩, .slice none 0 0, .slice none 0 0] 56 (0, 0))
  keep : Keep w0.heap.size J w0 w

theorem Vst.drew {w0 w : World} {J : Nat} {s : ByteArray} {k d : Int} (h : Vst w0 w J s k d) (n : Nat) : Vst w0 (w.drewN n) J s k d :=
  ⟨h.jr.drew n, by simpa using h.a, by simpa using h.b, h.keep.trans ⟨rfl, rfl, rfl, by simp, fun _ _ _ => by simp⟩⟩

theorem Vst.set {w0 w : World} {J : Nat} {s : ByteArray} {k d k' d' : Int} (h : Vst w0 w J s k d) (hJ : J < w0.heap.size) (o : Nat) (v : Value) (hj : Jr (w.setCell ⟨J, o, none⟩ v) J s k' d') : Vst w0 (w.setCell ⟨J, o, none⟩ v) J s k' d' :=
  ⟨hj, by rw [Below.heap_setCell _ _ _ _ (by simp; omega)]; exact h.a, by rw [Below.heap_setCell _ _ _ _ (by simp; omega)]; exact h.b,
    h.keep.trans ⟨rfl, rfl, rfl, by simp [World.setCell], fun _ _ hne => Below.heap_setCell _ _ _ _ (by simpa using hne)⟩⟩

theorem Vst.next {w0 w w' : World} {J : Nat} {s : ByteArray} {k d k' d' : Int} (h : Vst w0 w J s k d) (hk : Keep w.heap.size J w w') (hJ : J < w0.heap.size) (hj : Jr w' J s k' d') : Vst w0 w' J s k' d' := by
  have h1 : w0.heap.size + 1 < w.heap.size := (Array.getElem?_eq_some_iff.1 h.b).1
  exact ⟨hj, (hk.block _ (by omega) (by omega)).trans h.a, (hk.block _ (by omega) (by omega)).trans h.b, h.keep.trans (hk.mono (by omega))⟩

theorem Vst.cA {w0 w : World} {J : Nat} {s : ByteArray} {k d : Int} (h : Vst w0 w J s k d) : w.cell? ⟨w0.heap.size, 0, none⟩ = some (.pointer (some ⟨J, 0, none⟩)) := by simp [World.cell?, h.a]

theorem Vst.new (w : World) (J : Nat) (s : ByteArray) (k d : Int) (h : Jr w J s k d) : Vst w ((w.alloc (.cells #[.pointer (some ⟨J, 0, none⟩)] 136)).alloc
  (.cells #[.int .i64 0, .string ⟨#[]⟩, .slice none 0 0, .slice none 0 0] 56)) J s k d := by
  have hJ := h.lt
  have hb : Below w.heap.size w ((w.alloc (.cells #[.pointer (some ⟨J, 0, none⟩)] 136)).alloc (.cells #[.int .i64 0, .string ⟨#[]⟩, .slice none 0 0, .slice none 0 0] 56)) :=
    ((Below.refl _ w).alloc (Nat.le_refl _) _).alloc (by simp) _
  refine ⟨h.below hb, ?_, ?_, keep_of_below hb⟩
  · change ((w.heap.push _).push _)[w.heap.size]? = _
    simp [Array.getElem?_push]
  · change ((w.heap.push _).push _)[w.heap.size + 1]? = _
    rw [Array.getElem?_push]; simp

theorem results_row_tmp {P : Program} {fn : Func} {p u : Tmp} {ty : TypeId} (h : fn.results = #[.cell p ty, .tmp u]) (tmps : Array Value) (w : World) (g : Nat) (t : TypeId) (cs : Array Value) (fr : Nat × Nat) (d : TypeDesc)
    (hp : tmps.getD p undef = .pointer (some ⟨g, 0, none⟩)) (hg : w.heap[g]? = some (.cells cs t fr))
    (hu : P.underlying ty = some d) (hd : (match d with | .struct _ | .array _ _ => true | _ => false) = true) (hi : (P.info? ty).map (·.size) = some cs.size) :
    (results fn tmps).run P w = .ok (.tuple #[.agg cs, tmps.getD u undef]) w := by
  rw [results_cell_tmp h, hp]
  simp [asAddr, run_loadVar_row w g t ty cs fr d hg hu hd hi, Result.andThen]

set_option maxHeartbeats 4000000 in
set_option maxRecDepth 100000 in
theorem value_any (J k : Nat) (s : ByteArray) (t rest : List UInt8) (w : World) (h : Jr w J s k 0) (hT : Tabs w) (hJ : 13 ≤ J) (hs : s.size ≤ 1000000) (ht : t.length ≤ 1000000)
    (hks : k < s.size) (hq : s[k].toNat = 34) (hr : readT (s.data.toList.drop (k + 1)) = some (t, rest)) :
    Calls Tryz.prog 75 #[.pointer (some ⟨J, 0, none⟩)] w fun e w' => e = .returned (.tuple #[.agg #[.int .i64 4, .string ⟨t.toArray⟩, .slice none 0 0, .slice none 0 0], .bool true]) ∧
      (∃ p : Nat, Jr w' J s p 0 ∧ s.data.toList.drop p = rest ∧ p ≤ s.size) ∧ Keep w.heap.size J w w' := by
  have hmf : ∀ (fn : Fn) (first cap : Array Value) (w : World), (Instr.makeFunc fn first cap).run Tryz.prog w = .ok (.func fn first cap) w := fun _ _ _ _ => rfl
  have hJw := h.lt
  have hwJ : 13 ≤ w.heap.size := by omega
  have h1 := Lib.hid h
  have HR := Lib.hid hr
  have hq2 : s[k] = 34 := by apply UInt8.toNat_inj.1; exact hq
  have HQ2 := Lib.hid hq2
  clear h hr hq2
  go_enter_defers Tryz.func75, Tryz.ntmps75
  go_wp2_with fail
  have v0 := Vst.new w J s k 0 h1.out
  have V0 := Lib.hid v0
  clear v0
  refine (blanks_quote J k s 0 _ V0.out.jr hks hs hq).mono ?_
  rintro e w1 ⟨rfl, n1, hw1⟩
  have V1 : Hid (Vst w w1 J s k 0) := by rw [hw1]; exact Lib.hid (V0.out.drew n1)
  clear hw1 V0
  have a1 := V1.out.cA
  have c2 := V1.out.jr.c2
  have f2 := V1.out.jr.f 2
  go_wp2_with fail
  have V2 : Hid (Vst w (w1.setCell ⟨J, 2, none⟩ (.int .i64 1)) J s k 1) := Lib.hid (V1.out.set hJw _ _ (V1.out.jr.set2 1))
  refine (has_no J k s 123 1 _ V2.out.jr hks hs (by rw [HQ2.out]; decide)).mono ?_
  rintro e w2 ⟨rfl, n2, hw2⟩
  have V3 : Hid (Vst w w2 J s k 1) := by rw [hw2]; exact Lib.hid (V2.out.drew n2)
  clear hw2 V2 a1 c2 f2
  have a2 := V3.out.cA
  go_wp2_with fail
  refine (has_no J k s 91 1 _ V3.out.jr hks hs (by rw [HQ2.out]; decide)).mono ?_
  rintro e w3 ⟨rfl, n3, hw3⟩
  have V4 : Hid (Vst w w3 J s k 1) := by rw [hw3]; exact Lib.hid (V3.out.drew n3)
  clear hw3 V3 a2
  have a3 := V4.out.cA
  go_wp2_with fail
  refine (has_yes J k s 34 1 _ V4.out.jr hks hs HQ2.out).mono ?_
  rintro e w4 ⟨rfl, n4, hw4⟩
  have V5 : Hid (Vst w w4 J s ((k + 1 : Nat) : Int) 1) := by rw [hw4]; exact Lib.hid ((V4.out.drew n4).set hJw _ _ ((V4.out.jr.drew _).set1 _))
  clear hw4 V4 a3
  have a4 := V5.out.cA
  go_wp2_with fail
  refine (text_any J (k + 1) s 1 t rest _ V5.out.jr (hT.keep V5.out.keep hJ hJw) hJ hs ht HR.out).mono ?_
  rintro e w5 ⟨rfl, ⟨p, hjp, hrest, hps⟩, hk5⟩
  have V6 : Hid (Vst w w5 J s (p : Int) 1) := Lib.hid (V5.out.next hk5 hJw hjp)
  have HREST := Lib.hid hrest
  clear hrest hjp hk5 V5 a4
  have a5 := V6.out.cA
  have bb : w5.heap[w.heap.size + 1]? = _ := V6.out.b
  have b0 : w5.cell? ⟨w.heap.size + 1, 0, none⟩ = some (.int .i64 0) := by simp [World.cell?, bb]
  have b1 : w5.cell? ⟨w.heap.size + 1, 1, none⟩ = some (.string ⟨#[]⟩) := by simp [World.cell?, bb]
  have b2 : w5.cell? ⟨w.heap.size + 1, 2, none⟩ = some (.slice none 0 0) := by simp [World.cell?, bb]
  have b3 : w5.cell? ⟨w.heap.size + 1, 3, none⟩ = some (.slice none 0 0) := by simp [World.cell?, bb]
  have hB : ((((w5.setCell ⟨w.heap.size + 1, 0, none⟩ (.int .i64 4)).setCell ⟨w.heap.size + 1, 1, none⟩ (.string ⟨t.toArray⟩)).setCell ⟨w.heap.size + 1, 2, none⟩ (.slice none 0 0)).setCell
      ⟨w.heap.size + 1, 3, none⟩ (.slice none 0 0)).heap[w.heap.size + 1]? = some (.cells #[.int .i64 4, .string ⟨t.toArray⟩, .slice none 0 0, .slice none 0 0] 56 (0, 0)) := by
    simp [World.setCell, Array.getElem?_modify, bb]
  have HB := Lib.hid hB
  clear hB
  have g : ∀ o, w5.frozen? ⟨w.heap.size + 1, o, none⟩ = false := by intro o; simp [World.frozen?, bb]
  clear bb
  go_wp2_with fail
  have hsz5 : w.heap.size + 1 < w5.heap.size := (Array.getElem?_eq_some_iff.1 V6.out.b).1
  obtain ⟨w6, hw6⟩ : ∃ w6, w6 = ((((w5.setCell ⟨w.heap.size + 1, 0, none⟩ (.int .i64 4)).setCell ⟨w.heap.size + 1, 1, none⟩ (.string ⟨t.toArray⟩)).setCell ⟨w.heap.size + 1, 2, none⟩ (.slice none 0 0)).setCell
      ⟨w.heap.size + 1, 3, none⟩ (.slice none 0 0)) := ⟨_, rfl⟩
  rw [← hw6]
  have hbl : ∀ k, k ≠ w.heap.size + 1 → w6.heap[k]? = w5.heap[k]? := by
    intro k hk
    rw [hw6, Below.heap_setCell _ _ _ _ hk, Below.heap_setCell _ _ _ _ hk, Below.heap_setCell _ _ _ _ hk, Below.heap_setCell _ _ _ _ hk]
  have hk6 : Keep w.heap.size J w5 w6 := by
    refine ⟨?_, ?_, ?_, ?_, fun k hk _ => hbl k (by omega)⟩ <;> rw [hw6]
    all_goals first | rfl | simp [World.setCell]
  have hB6 : w6.heap[w.heap.size + 1]? = some (.cells #[.int .i64 4, .string ⟨t.toArray⟩, .slice none 0 0, .slice none 0 0] 56 (0, 0)) := by rw [hw6]; exact HB.out
  have hA6 : w6.cell? ⟨w.heap.size, 0, none⟩ = some (.pointer (some ⟨J, 0, none⟩)) := by
    rw [← a5]; exact World.cell?_of_block (w := w5) (hbl w.heap.size (by omega))
  have hj6 : Jr w6 J s (p : Int) 1 := (hbl J (by omega)).trans V6.out.jr
  refine leaves_cons (f := 133) (args := #[.pointer (some ⟨w.heap.size, 0, none⟩)]) (by simp) (by simp [go_sem]) ?_
  refine (deeper_d w.heap.size J s (p : Int) 1 _ hj6 (by omega) (by omega) hA6).mono ?_
  rintro e u' w'' ⟨rfl, rfl, rfl⟩
  have hne : ∀ k, k ≠ J → (w6.setCell ⟨J, 2, none⟩ (.int .i64 (1 - 1))).heap[k]? = w6.heap[k]? := fun k hk => Below.heap_setCell _ _ _ _ hk
  refine ⟨_, results_row_tmp rfl _ _ (w.heap.size + 1) 56 _ (0, 0) _ rfl ((hne _ (by omega)).trans hB6) Tryz.underlying56 rfl (by kernel_rfl), rfl, ⟨p, ?_, HREST.out, hps⟩, ?_⟩
  · exact Jr.set2 hj6 _
  · exact (V6.out.keep.trans hk6).trans ⟨rfl, rfl, rfl, by simp [World.setCell], fun k _ hk => hne k hk⟩
end Go.Proofs.Zap
