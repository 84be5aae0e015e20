/- a text of the claims over the seat; its order and aim: NOTES.md -/
import Derived.Test.YtpllbhobcnglnaaGreatDoorZS6
import Derived.Deep.RegionLaw
namespace Go.Proofs.Zap
open Go Go.Proofs Go.RowKit

/-- what has been seen, with the values that hold the fields -/
def srows (SL : List (Nat × Nat × List FC × Value)) : List Value := SL.flatMap fun x => [.int .i64 x.1, .int .i64 x.2.1, x.2.2.2]
def SeenO (w : World) (T : Nat → Prop) (u : Value) (L : List (Nat × Nat × List FC)) : Prop :=
  ∃ SL : List (Nat × Nat × List FC × Value), SL.map (fun x => (x.1, x.2.1, x.2.2.1)) = L ∧ w.ownsRow 0 72 3 u SL.length (srows SL) ∧ (∀ k, u.ownBlock = some k → T k) ∧ ∀ x, x ∈ SL → ∃ Si, VFs w Si x.2.2.1 x.2.2.2 ∧ ∀ k, Si k → T k ∧ u.ownBlock ≠ some k

/-- what stands in the middle of a leaf's Write: X is the note that is made -/
structure LwI (w1 wr : World) (X j num ent : Nat) (fs : List FC) : Prop where
  os : wr.os = w1.os
  tape : wr.tape = w1.tape
  output : wr.output = w1.output
  size : w1.heap.size ≤ wr.heap.size
  block : ∀ k, k < w1.heap.size → k ≠ X → wr.heap[k]? = w1.heap[k]?
  x : ∃ xv, Blk wr X 72 #[.int .i64 num, .int .i64 ent, xv] ∧ wr.ownsRow w1.heap.size 135 15 xv j (vrows (fs.take j))

/-- what a leaf's Write answers -/
def WrP (w : World) (N : Nat) (T : Nat → Prop) (ent : Nat) (lv : Value) (L : List (Nat × Nat × List FC)) (en : Ending) (w' : World) : Prop :=
  en = .returned .nilIface ∧ ∃ u' T', Blk w' N 128 #[.int .i64 ent, lv, u'] ∧ SeenO w' T' u' L ∧ (∀ k, T' k → T k ∨ NewB w w' k) ∧ Kept (fun k => T k ∨ k = N) w w'

theorem srows_snoc (SL : List (Nat × Nat × List FC × Value)) (x : Nat × Nat × List FC × Value) : srows (SL ++ [x]) = srows SL ++ [.int .i64 x.1, .int .i64 x.2.1, x.2.2.2] := by simp [srows]

/-- one note more is seen -/
theorem seen_step {w wr wA w2 : World} {N num ent : Nat} {lv u u' xv : Value} {fs : List FC} {T : Nat → Prop} {base : Nat} {SL : List (Nat × Nat × List FC × Value)}
    (hT : ∀ k, T k → k < w.heap.size) (hTN : ¬ T N) (hNw : N < w.heap.size) (hz : w.heap.size ≤ base) (hzr : base ≤ wr.heap.size) (hkr : ∀ k, k < w.heap.size → wr.heap[k]? = w.heap[k]?) (hor : wr.os = w.os ∧ wr.tape = w.tape ∧ wr.output = w.output)
    (hN : Blk w N 128 #[.int .i64 ent, lv, u]) (hu : ∀ k, u.ownBlock = some k → T k) (hx : ∀ x, x ∈ SL → ∃ Si, VFs w Si x.2.2.1 x.2.2.2 ∧ ∀ k, Si k → T k ∧ u.ownBlock ≠ some k)
    (hxo : wr.ownsRow base 135 15 xv fs.length (vrows fs)) (hA : Below wr.heap.size wr wA) (hAs : wr.heap.size ≤ wA.heap.size)
    (hown : w2.ownsRow 0 72 3 u' (SL.length + 1) (srows SL ++ [.int .i64 num, .int .i64 ent, xv])) (hgr : wA.grownBy w2 u.ownBlock) (hat : u'.ownBlock = u.ownBlock ∨ u'.ownBlock = some wA.heap.size) :
    Blk w2 N 128 #[.int .i64 ent, lv, u] ∧ Blk (w2.setCell ⟨N, 2, none⟩ u') N 128 #[.int .i64 ent, lv, u'] ∧
    SeenO (w2.setCell ⟨N, 2, none⟩ u') (fun k => T k ∨ NewB w (w2.setCell ⟨N, 2, none⟩ u') k) u' (SL.map (fun x => (x.1, x.2.1, x.2.2.1)) ++ [(num, ent, fs)]) ∧ Kept (fun k => T k ∨ k = N) w (w2.setCell ⟨N, 2, none⟩ u') := by
  have hgs := hgr.size
  have hfar : ∀ k, k ≠ N → (w2.setCell ⟨N, 2, none⟩ u').heap[k]? = w2.heap[k]? := fun k hne => Below.heap_setCell w2 ⟨N, 2, none⟩ u' k hne
  have hszs : (w2.setCell ⟨N, 2, none⟩ u').heap.size = w2.heap.size := by simp [World.setCell]
  have k2 : ∀ k, k < wr.heap.size → u.ownBlock ≠ some k → w2.heap[k]? = wr.heap[k]? := fun k a b => (hgr.block k (by omega) (fun e => b e.symm)).trans (hA.block k a)
  have huN : u.ownBlock ≠ some N := fun e => hTN (hu N e)
  have hN2 : Blk w2 N 128 #[.int .i64 ent, lv, u] := (k2 N (by omega) huN).trans ((hkr N hNw).trans hN)
  have hut : ∀ k, u'.ownBlock = some k → T k ∨ wA.heap.size = k := fun k hk => by
    rcases hat with h | h
    · exact .inl (hu k (h ▸ hk))
    · rw [h] at hk; injection hk with hk; exact .inr hk
  refine ⟨hN2, by have := hN2.set_ 2 u'; simpa using this, ⟨SL ++ [(num, ent, fs, xv)], by simp, ?_, fun k hk => ?_, fun x hxm => ?_⟩, ⟨hgr.os.trans (hA.os.trans hor.1), hgr.tape.trans (hA.tape.trans hor.2.1), hgr.output.trans (hA.output.trans hor.2.2), by rw [hszs]; omega, fun k hk hns => ?_⟩⟩
  · rw [srows_snoc, List.length_append]
    refine ⟨hown.1, ?_⟩
    rcases hown.2 with h | ⟨g', cap', cur, he, hb, hg, r⟩
    · exact .inl h
    · refine .inr ⟨g', cap', cur, he, hb, (hfar g' fun e => ?_).trans hg, r⟩
      rcases hut g' (by rw [he]; rfl) with h | h
      · exact hTN (e ▸ h)
      · omega
  · rcases hut k hk with h | h
    · exact .inl h
    · have := (hown.lt k hk).2
      exact .inr ⟨by omega, by rw [hszs]; exact this⟩
  · rcases List.mem_append.1 hxm with hxm | hxm
    · obtain ⟨Si, h1, h2⟩ := hx x hxm
      refine ⟨Si, h1.keep fun k hk => ?_, fun k hk => ⟨.inl (h2 k hk).1, fun e => ?_⟩⟩
      · have a := h2 k hk
        have b := hT k a.1
        exact (hfar k fun e => hTN (e ▸ a.1)).trans ((k2 k (by omega) a.2).trans (hkr k b))
      · have a := h2 k hk
        rcases hat with h | h
        · exact a.2 (h ▸ e)
        · rw [h] at e; injection e with e; have := hT k a.1; omega
    · have e : x = (num, ent, fs, xv) := by simpa using hxm
      subst e
      refine ⟨fun k => xv.ownBlock = some k, (vfs_of_own hxo).keep fun k hk => ?_, fun k hk => ?_⟩
      · have a := hxo.lt k hk
        exact (hfar k (by omega)).trans (k2 k (by omega) fun e => by have := hT k (hu k e); omega)
      · have a := hxo.lt k hk
        refine ⟨.inr ⟨by omega, by rw [hszs]; omega⟩, fun e => ?_⟩
        rcases hut k e with h | h
        · have := hT k h; omega
        · omega
  · have a : k ≠ N := fun e => hns (.inr e)
    have b : ¬ T k := fun h => hns (.inl h)
    exact (hfar k a).trans ((k2 k (by omega) fun e => b (hu k e)).trans (hkr k hk))

abbrev PS (w' : World) (L X N num ent : Nat) (xv : Value) : Prop := w'.cell? ⟨L, 3, none⟩ = some (.pointer (some ⟨N, 0, none⟩)) ∧ w'.cell? ⟨X, 0, none⟩ = some (.int .i64 num) ∧ w'.cell? ⟨X, 1, none⟩ = some (.int .i64 ent) ∧ w'.cell? ⟨X, 2, none⟩ = some xv
abbrev WS (w' : World) (L N : Nat) (num ent : Nat) (g u : Value) : Prop := w'.cell? ⟨L, 1, none⟩ = some (.int .i64 num) ∧ w'.cell? ⟨L, 2, none⟩ = some g ∧ w'.cell? ⟨L, 3, none⟩ = some (.pointer (some ⟨N, 0, none⟩)) ∧ w'.cell? ⟨N, 0, none⟩ = some (.int .i64 ent) ∧ w'.cell? ⟨N, 2, none⟩ = some u

set_option maxRecDepth 100000 in
set_option maxHeartbeats 8000000 in
theorem leafWrite (N L num ent : Nat) (lvl lv g f u : Value) (fs gs : List FC) (S SG T : Nat → Prop) (D : List (Nat × Nat × List FC)) (e : EV) (l : Int) (w : World) (hL : Blk w L 205 #[lvl, .int .i64 num, g, .pointer (some ⟨N, 0, none⟩)]) (hg : GFs w S fs g) (hf : GFs w SG gs f)
    (hN : Blk w N 128 #[.int .i64 ent, lv, u]) (hu : SeenO w T u D) (hT : ∀ k, T k → k < w.heap.size) (hS : ∀ k, S k → k < w.heap.size) (hSG : ∀ k, SG k → k < w.heap.size) (hTN : ¬ T N) (hTL : ¬ T L) (hLN : L ≠ N) (hm : fs.length + gs.length ≤ 1000000) (hD : D.length ≤ 1000000) (hfm : ∀ c, c ∈ fs ++ gs → (∃ a n m, c.bytes = .slice a n m) ∧ ∃ a n m, c.items = .slice a n m) :
    Calls Tryz.prog 370 #[.pointer (some ⟨L, 0, none⟩), .agg (e.arr l), f] w (WrP w N T ent lv (D ++ [(num, ent, fs ++ gs)])) := by
  have hLw := hL.lt
  have hNw := hN.lt
  obtain ⟨uA, un, ucap, hue⟩ : ∃ a n c, u = .slice a n c := by
    obtain ⟨SL, _, h, _⟩ := hu
    obtain ⟨a, c, h⟩ := ownsRow_shape h
    exact ⟨a, _, c, h⟩
  have HFM := Lib.hid hfm
  clear hfm
  have HU := Lib.hid hu
  have HL := Lib.hid hL
  have HN := Lib.hid hN
  have HG := Lib.hid hg
  have HF := Lib.hid hf
  obtain ⟨gA, gc, rfl, -⟩ := hg
  obtain ⟨fA, fc, rfl, -⟩ := hf
  subst hue
  have hs0 : ∀ w', (∀ k, k < w.heap.size → w'.heap[k]? = w.heap[k]?) → WS w' L N num ent (.slice gA fs.length gc) (.slice uA un ucap) := fun w' h =>
    ⟨Blk.cell ((h L hLw).trans hL) 1, Blk.cell ((h L hLw).trans hL) 2, Blk.cell ((h L hLw).trans hL) 3, Blk.cell ((h N hNw).trans hN) 0, Blk.cell ((h N hNw).trans hN) 2⟩
  have HS0 := Lib.hid hs0
  have hal : ∀ o k, k < w.heap.size → (w.alloc o).heap[k]? = w.heap[k]? := fun o k hk => heap_alloc_old w o hk
  have hal2 : ∀ o o2 k, k < w.heap.size → ((w.alloc o).alloc o2).heap[k]? = w.heap[k]? := fun o o2 k hk => (heap_alloc_old _ o2 (by simp; omega)).trans (heap_alloc_old w o hk)
  have HAL := Lib.hid hal
  have HAL2 := Lib.hid hal2
  obtain ⟨W0, hWe⟩ : ∃ W0, W0 = ((w.alloc (.cells (e.arr l) 156)).alloc (.cells #[.int .i64 num, .int .i64 ent, .slice none 0 0] 72)).drew := ⟨_, rfl⟩
  have hk0 : ∀ k, k < w.heap.size → W0.heap[k]? = w.heap[k]? := by rw [hWe]; exact hal2 _ _
  have hx0 : Blk W0 (w.heap.size + 1) 72 #[.int .i64 num, .int .i64 ent, .slice none 0 0] := by rw [hWe]; exact Blk.new2 w _ 72 _
  have hz0 : W0.heap.size = w.heap.size + 2 := by rw [hWe]; show ((w.alloc _).alloc _).heap.size = _; simp
  have ho0 : W0.os = w.os ∧ W0.tape = w.tape ∧ W0.output = w.output := by rw [hWe]; exact ⟨rfl, rfl, rfl⟩
  have hbx := Blk.new W0 149 #[.slice gA fs.length gc, .slice fA gs.length fc]
  have hcat := concat_any W0.heap.size fs gs S SG _ _ (W0.alloc (.cells #[.slice gA fs.length gc, .slice fA gs.length fc] 149)) ((HG.out.keep fun k hk => hk0 k (hS k hk)).keep fun k hk => heap_alloc_old W0 _ (by have := hS k hk; omega)) ((HF.out.keep fun k hk => hk0 k (hSG k hk)).keep fun k hk => heap_alloc_old W0 _ (by have := hSG k hk; omega))
    (fun k hk => by have := hS k hk; simp; omega) (fun k hk => by have := hSG k hk; simp; omega) (by simp) (hbx.cell 0) (hbx.cell 1) hm 2
  have HCAT := Lib.hid hcat
  have HK0 := Lib.hid hk0
  have HX0 := Lib.hid hx0
  have HO0 := Lib.hid ho0
  have HS1 : Hid (WS W0 L N num ent (.slice gA fs.length gc) (.slice uA un ucap)) := Lib.hid (hs0 W0 hk0)
  clear hu hL hN hs0 hal hal2 hcat hk0 hx0 ho0 hbx
  have HWE := Lib.hid hWe
  have HZ0 := Lib.hid hz0
  clear hWe hz0
  unfold EV.arr at *
  go_enter Tryz.func370, Tryz.ntmps370
  go_wp2_with fail
  go_region_held3 (fun w' => WS w' L N num ent (.slice gA fs.length gc) (.slice uA un ucap)) (first | exact HS0.out _ (HAL.out _) | exact HS0.out _ (HAL2.out _ _)) (fail)
  all_goals
    generalize hWW : World.drew _ = W1
    obtain rfl : W1 = W0 := hWW.symm.trans HWE.out.symm
    clear HWE hWW HAL HAL2
    obtain ⟨a1, a2, a3, a4, a5⟩ := HS1.out
    go_wp2_with fail
    refine HCAT.out.mono ?_
    rintro en w1 ⟨v1, rfl, hg1, hb1⟩
    have hz1 := hb1.size
    have hX1 : Blk w1 (w.heap.size + 1) 72 #[.int .i64 num, .int .i64 ent, .slice none 0 0] := (hb1.block _ (by simp; have := HZ0.out; omega)).trans (HX0.out.alloc _)
    have hli : LwI w1 w1 (w.heap.size + 1) 0 num ent (fs ++ gs) := ⟨rfl, rfl, rfl, Nat.le_refl _, fun _ _ _ => rfl, _, hX1, World.ownsRow_nil _ _ _ _⟩
    have HLI := Lib.hid hli
    have HX1L := Lib.hid hX1.lt
    have HB1 := Lib.hid hb1
    have HG1 := Lib.hid hg1
    obtain ⟨vA, vc, rfl, -⟩ := hg1
    clear hb1 hX1 hli HCAT a1 a2 a3 a4 a5 hz1
    generalize hnn : (fs ++ gs).length = n at *
    have HNN := Lib.hid hnn
    clear hnn
    go_wp2_with fail
    go_loopw [30] (fun i wr => ∃ j : Nat, i = .int .i64 j ∧ j ≤ n ∧ Hid (LwI w1 wr (w.heap.size + 1) j num ent (fs ++ gs))) (fun i _ => n - (intOf i).toNat)
    case atStart => exact ⟨0, rfl, by omega, HLI⟩
    case round =>
      obtain ⟨j, rfl, hj, hli⟩ := hrel
      by_cases hlt : j < n
      · have hjl : j < (fs ++ gs).length := by rw [HNN.out]; exact hlt
        obtain ⟨c, hc⟩ : ∃ c, (fs ++ gs)[j]? = some c := ⟨(fs ++ gs)[j], by simp⟩
        have hg := HG1.out
        rw [← HNN.out] at hg
        obtain ⟨A', cap', e1, _, _, _, hrow⟩ := hg
        injection e1 with e1 e2 e3
        subst e1 e3
        obtain ⟨b, o, rfl, hb, hrc⟩ := hrow (by omega)
        have hcf := HFM.out c (List.mem_of_getElem? hc)
        obtain ⟨zk, zky, zw, zi, zu, zr, zm, zt, zby, zz, zna, zof, zzo, zit, zf⟩ := c
        obtain ⟨⟨za, zn, zc, e1⟩, zia, zin, zic, e2⟩ := hcf
        simp only at e1 e2
        subst e1 e2
        have hr := hrc j _ hc
        obtain ⟨c, hce⟩ : ∃ c : FC, c = ⟨zk, zky, zw, zi, zu, zr, zm, zt, .slice za zn zc, zz, zna, zof, zzo, .slice zia zin zic, zf⟩ := ⟨_, rfl⟩
        rw [← hce] at hc hr
        have harr : c.arr = #[.int .i64 zk, .string zky, .int .i64 zw, .int .i64 zi, .int .u64 zu, .int .u64 zr, .int .u64 zm, .string zt, .slice za zn zc, .bool zz, .int .i64 zna, .int .i64 zof, .string zzo, .slice zia zin zic, .string zf] := by rw [hce]; rfl
        have hky : c.key = zky := by rw [hce]
        have hbX : b ≠ w.heap.size + 1 := fun e => by
          have h1 : W1.heap.size + 1 ≤ b := by have := hb.1; simpa using this
          have := HZ0.out
          omega
        have hkb : wr.heap[b]? = w1.heap[b]? := hli.out.block b hb.2 hbX
        have c0 : wr.cell? ⟨b, o + j * 5, none⟩ = some (.string zky) := (World.cell?_of_block (w := w1) hkb).trans (hr 0 _ (by rw [← hky]; rfl))
        have c1 : wr.cell? ⟨b, o + j * 5 + 1, none⟩ = some (.int .u8 27) := (World.cell?_of_block (w := w1) hkb).trans (hr 1 _ rfl)
        have c2 : wr.cell? ⟨b, o + j * 5 + 2, none⟩ = some (.int .i64 0) := (World.cell?_of_block (w := w1) hkb).trans (hr 2 _ rfl)
        have c3 : wr.cell? ⟨b, o + j * 5 + 3, none⟩ = some (.string ⟨#[]⟩) := (World.cell?_of_block (w := w1) hkb).trans (hr 3 _ rfl)
        have c4 : wr.cell? ⟨b, o + j * 5 + 4, none⟩ = some (.iface 135 (.agg #[.int .i64 zk, .string zky, .int .i64 zw, .int .i64 zi, .int .u64 zu, .int .u64 zr, .int .u64 zm, .string zt, .slice za zn zc, .bool zz, .int .i64 zna, .int .i64 zof, .string zzo, .slice zia zin zic, .string zf])) := (World.cell?_of_block (w := w1) hkb).trans (hr 4 _ (by rw [← harr]; rfl))
        obtain ⟨xv, hxb, hxo⟩ := hli.out.x
        obtain ⟨xa, xc, rfl⟩ := ownsRow_shape hxo
        have x2 : wr.cell? ⟨w.heap.size + 1, 2, none⟩ = some (.slice xa j xc) := hxb.cell 2
        have q0 : (0 : Int) ≤ (j : Int) := Int.natCast_nonneg _
        have q1 : (j : Int) < (n : Int) := by omega
        have hnm : n ≤ 1000000 := by have := HNN.out; rw [List.length_append] at this; omega
        have hta := fun v w => ta135 v w
        have HXB := Lib.hid hxb
        have HXO := Lib.hid hxo
        have HC := Lib.hid hc
        have hCR : CR c = #[.string zky, .int .u8 27, .int .i64 0, .string ⟨#[]⟩, .iface 135 (.agg #[.int .i64 zk, .string zky, .int .i64 zw, .int .i64 zi, .int .u64 zu, .int .u64 zr, .int .u64 zm, .string zt, .slice za zn zc, .bool zz, .int .i64 zna, .int .i64 zof, .string zzo, .slice zia zin zic, .string zf])] := by rw [hce]; rfl
        have hf4 : (wr.alloc (.cells #[.string zky, .int .u8 27, .int .i64 0, .string ⟨#[]⟩, .iface 135 (.agg #[.int .i64 zk, .string zky, .int .i64 zw, .int .i64 zi, .int .u64 zu, .int .u64 zr, .int .u64 zm, .string zt, .slice za zn zc, .bool zz, .int .i64 zna, .int .i64 zof, .string zzo, .slice zia zin zic, .string zf])] 176)).cell? ⟨wr.heap.size, 4, none⟩ = some (.iface 135 (.agg #[.int .i64 zk, .string zky, .int .i64 zw, .int .i64 zi, .int .u64 zu, .int .u64 zr, .int .u64 zm, .string zt, .slice za zn zc, .bool zz, .int .i64 zna, .int .i64 zof, .string zzo, .slice zia zin zic, .string zf])) := (Blk.new wr 176 _).cell 4
        have hf4a : ∀ o, ((wr.alloc (.cells #[.string zky, .int .u8 27, .int .i64 0, .string ⟨#[]⟩, .iface 135 (.agg #[.int .i64 zk, .string zky, .int .i64 zw, .int .i64 zi, .int .u64 zu, .int .u64 zr, .int .u64 zm, .string zt, .slice za zn zc, .bool zz, .int .i64 zna, .int .i64 zof, .string zzo, .slice zia zin zic, .string zf])] 176)).alloc o).cell? ⟨wr.heap.size, 4, none⟩ = some (.iface 135 (.agg #[.int .i64 zk, .string zky, .int .i64 zw, .int .i64 zi, .int .u64 zu, .int .u64 zr, .int .u64 zm, .string zt, .slice za zn zc, .bool zz, .int .i64 zna, .int .i64 zof, .string zzo, .slice zia zin zic, .string zf])) := fun o => ((Blk.new wr 176 _).alloc o).cell 4
        have HF4A := Lib.hid hf4a
        clear hf4a
        have HF4 := Lib.hid hf4
        clear hf4
        clear hxb hxo hrow hrc hr hkb hb hc
        have hxa : ∀ o, (wr.alloc o).cell? ⟨w.heap.size + 1, 2, none⟩ = some (.slice xa j xc) := fun o => (HXB.out.alloc o).cell 2
        have hxb2 : ∀ o o2, ((wr.alloc o).alloc o2).cell? ⟨w.heap.size + 1, 2, none⟩ = some (.slice xa j xc) := fun o o2 => ((HXB.out.alloc o).alloc o2).cell 2
        have hstep : ∀ (w2 : World) (v' : Value), w2.ownsRow w1.heap.size 135 15 v' (j + 1) (vrows ((fs ++ gs).take j) ++ c.arr.toList) → ((wr.alloc (.cells (CR c) 176)).alloc (.cells c.arr 135)).drew.grownBy w2 (Value.slice xa j xc).ownBlock →
            Blk w2 (w.heap.size + 1) 72 #[.int .i64 num, .int .i64 ent, .slice xa j xc] ∧ w2.cell? ⟨wr.heap.size, 4, none⟩ = some (.iface 135 (.agg c.arr)) ∧ LwI w1 (w2.setCell ⟨w.heap.size + 1, 2, none⟩ v') (w.heap.size + 1) (j + 1) num ent (fs ++ gs) := fun w2 v' hown hgr => by
          have hown1 := HXO.out
          have hX1 : w.heap.size + 1 < w1.heap.size := HX1L.out
          have hub : ∀ k, (Value.slice xa j xc).ownBlock = some k → w1.heap.size ≤ k ∧ k < wr.heap.size := fun k hk => hown1.lt k hk
          have hz := hli.out.size
          have hgs : wr.heap.size + 2 ≤ w2.heap.size := by
            have h := hgr.size
            have h2 : ((wr.alloc (.cells (CR c) 176)).alloc (.cells c.arr 135)).heap.size = wr.heap.size + 2 := by simp
            have h3 : ((wr.alloc (.cells (CR c) 176)).alloc (.cells c.arr 135)).drew.heap.size = wr.heap.size + 2 := h2
            omega
          have hk2 : ∀ k, k < wr.heap.size → (Value.slice xa j xc).ownBlock ≠ some k → w2.heap[k]? = wr.heap[k]? := fun k a b =>
            (hgr.block k (by show k < ((wr.alloc (.cells (CR c) 176)).alloc (.cells c.arr 135)).heap.size; simp; omega) (fun e => b e.symm)).trans ((heap_alloc_old _ _ (by simp; omega)).trans (heap_alloc_old wr _ a))
          have hxk : Blk w2 (w.heap.size + 1) 72 #[.int .i64 num, .int .i64 ent, .slice xa j xc] := (hk2 _ (by omega) (fun h => by have := (hub _ h).1; omega)).trans HXB.out
          refine ⟨hxk, ?_, ?_⟩
          · have hf : Blk w2 wr.heap.size 176 (CR c) := (hgr.block _ (by show _ < ((wr.alloc (.cells (CR c) 176)).alloc (.cells c.arr 135)).heap.size; simp; omega) (fun h => by have := (hub _ h.symm).2; omega)).trans ((Blk.new wr 176 (CR c)).alloc _)
            exact hf.cell 4
          · have hfar : ∀ k, k ≠ w.heap.size + 1 → (w2.setCell ⟨w.heap.size + 1, 2, none⟩ v').heap[k]? = w2.heap[k]? := fun k hne => Below.heap_setCell w2 ⟨w.heap.size + 1, 2, none⟩ v' k hne
            have hszs : (w2.setCell ⟨w.heap.size + 1, 2, none⟩ v').heap.size = w2.heap.size := by simp [World.setCell]
            have hst := hxk.set_ 2 v'
            refine ⟨hgr.os.trans hli.out.os, hgr.tape.trans hli.out.tape, hgr.output.trans hli.out.output, by rw [hszs]; omega, fun k a b => (hfar k b).trans ((hk2 k (by omega) (fun h => by have := (hub _ h).1; omega)).trans (hli.out.block k a b)), v', by simpa using hst, ?_⟩
            have htk : vrows ((fs ++ gs).take (j + 1)) = vrows ((fs ++ gs).take j) ++ c.arr.toList := by
              rw [List.take_add_one, HC.out]
              simp [vrows]
            rw [htk]
            refine ⟨hown.1, ?_⟩
            rcases hown.2 with h | ⟨g', cap', cur, he, hb, hg, r⟩
            · exact .inl h
            · exact .inr ⟨g', cap', cur, he, hb, (hfar g' (by omega)).trans hg, r⟩
        rw [hCR, harr] at hstep
        have HSTEP := Lib.hid hstep
        have HHC := Lib.hid hce
        clear hce harr hky hCR
        clear hstep
        have hon : ∀ u, u ∈ (#[.int .i64 zk, .string zky, .int .i64 zw, .int .i64 zi, .int .u64 zu, .int .u64 zr, .int .u64 zm, .string zt, .slice za zn zc, .bool zz, .int .i64 zna, .int .i64 zof, .string zzo, .slice zia zin zic, .string zf] : Array Value).toList → u.oneCell' = true := fun u hu => by
          simp at hu
          rcases hu with rfl | rfl | rfl | rfl | rfl | rfl | rfl | rfl | rfl | rfl | rfl | rfl | rfl | rfl | rfl <;> rfl
        have HON := Lib.hid hon
        have hbs : ∀ o o2, w1.heap.size ≤ ((wr.alloc o).alloc o2).heap.size := fun o o2 => by have := hli.out.size; simp; omega
        have hne : wr.heap.size ≠ w.heap.size + 1 := by have h1 : w.heap.size + 1 < w1.heap.size := HX1L.out
                                                        have := hli.out.size
                                                        omega
        have HBS := Lib.hid (hbs (.cells #[.string zky, .int .u8 27, .int .i64 0, .string ⟨#[]⟩, .iface 135 (.agg #[.int .i64 zk, .string zky, .int .i64 zw, .int .i64 zi, .int .u64 zu, .int .u64 zr, .int .u64 zm, .string zt, .slice za zn zc, .bool zz, .int .i64 zna, .int .i64 zof, .string zzo, .slice zia zin zic, .string zf])] 176) (.cells #[.int .i64 zk, .string zky, .int .i64 zw, .int .i64 zi, .int .u64 zu, .int .u64 zr, .int .u64 zm, .string zt, .slice za zn zc, .bool zz, .int .i64 zna, .int .i64 zof, .string zzo, .slice zia zin zic, .string zf] 135))
        have HNE := Lib.hid hne
        clear hon hbs hne
        go_wp2_with fail
        have hf4b := HF4.out
        have hf4c := HF4A.out
        go_region_law ((refine step_app1 row39 ?x1 (.tmp 35) (.tmp 39) ?x2 w1.heap.size ?v j (vrows ((fs ++ gs).take j)) ?hs ?own (wr.heap.size + 1) ?cs ?hx ?nh ?hl ?h1 ?n63 ?nb ?nbase ?_; (case x1 => rfl); (case x2 => rfl); (case hs => rfl); (case hx => rfl); (case own => first | exact own_drew ((HXO.out.alloc _).alloc _) | exact (HXO.out.alloc _).alloc _); (case nh => exact row_new2 _ _ _ _); (case hl => rfl); (case h1 => exact HON.out); (case n63 => exact (by unfold maxLen; omega)); (case nb => omega); (case nbase => exact HBS.out); intro v' w2 hown hgr hat; have hkk := HSTEP.out w2 v' hown hgr; obtain ⟨xa', xc', rfl⟩ := ownsRow_shape hown; have x2' : w2.cell? ⟨w.heap.size + 1, 2, none⟩ = some (.slice xa j xc) := hkk.1.cell 2; have xf : w2.frozen? ⟨w.heap.size + 1, 2, none⟩ = false := hkk.1.frozen 2; have HFK := Lib.hid hkk.2.1; have HFS := Lib.hid ((World.cell?_of_block (a := ⟨wr.heap.size, 4, none⟩) (Below.heap_setCell w2 ⟨w.heap.size + 1, 2, none⟩ (.slice xa' (j + 1) xc') wr.heap.size (HNE.out))).trans hkk.2.1); have HLI2 := Lib.hid hkk.2.2; clear hown hgr hat hkk))
        all_goals
          clear HSTEP HXB HXO HF4 HF4A hf4b hf4c HON HBS hxa hxb2 c0 c1 c2 c3 c4 x2 x2' xf hli
          go_wp2_with fail
          go_roundw
          case rel => exact ⟨j + 1, by go_num, by omega, HLI2⟩
          case measure => simp [intOf]; omega
      · have ej : j = n := by omega
        subst ej
        obtain ⟨xv, hxb, hxo⟩ := hli.out.x
        obtain ⟨SL, hSL, so1, so2, so3⟩ := HU.out
        have hw1 : w.heap.size + 2 ≤ w1.heap.size := by
          have h1 := HB1.out.size
          have h2 := HZ0.out
          have h3 : (W1.alloc (.cells #[.slice gA fs.length gc, .slice fA gs.length fc] 149)).heap.size = W1.heap.size + 1 := by simp
          omega
        have hkr : ∀ k, k < w.heap.size → wr.heap[k]? = w.heap[k]? := fun k hk => (hli.out.block k (by omega) (by omega)).trans ((HB1.out.block k (by have h2 := HZ0.out; simp; omega)).trans ((heap_alloc_old W1 _ (by have h2 := HZ0.out; omega)).trans (HK0.out k hk)))
        obtain ⟨b1, b2, b3, b4, b5⟩ := HS0.out wr hkr
        have hown : wr.ownsRow 0 72 3 (.slice uA un ucap) SL.length (srows SL) := by
          refine ⟨so1.1, ?_⟩
          rcases so1.2 with h | ⟨g', cap', cur, he, hb, hg, r⟩
          · exact .inl h
          · exact .inr ⟨g', cap', cur, he, hb, (hkr g' (hT g' (so2 g' (by rw [he]; rfl)))).trans hg, r⟩
        have hor : wr.os = w.os ∧ wr.tape = w.tape ∧ wr.output = w.output := ⟨hli.out.os.trans (HB1.out.os.trans HO0.out.1), hli.out.tape.trans (HB1.out.tape.trans HO0.out.2.1), hli.out.output.trans (HB1.out.output.trans HO0.out.2.2)⟩
        have hfl : (fs ++ gs).take j = fs ++ gs := List.take_of_length_le (by have := HNN.out; omega)
        rw [hfl] at hxo
        have hxo2 : wr.ownsRow w1.heap.size 135 15 xv (fs ++ gs).length (vrows (fs ++ gs)) := by rw [HNN.out]; exact hxo
        obtain ⟨xa, xc, rfl⟩ := ownsRow_shape hxo
        have hX3 : wr.cell? ⟨w.heap.size + 1, 0, none⟩ = some (.int .i64 num) ∧ wr.cell? ⟨w.heap.size + 1, 1, none⟩ = some (.int .i64 ent) ∧ wr.cell? ⟨w.heap.size + 1, 2, none⟩ = some (.slice xa j xc) := ⟨hxb.cell 0, hxb.cell 1, hxb.cell 2⟩
        have hstep := fun (w2 : World) (u' : Value) (hown2 : w2.ownsRow 0 72 3 u' (SL.length + 1) (srows SL ++ [.int .i64 num, .int .i64 ent, .slice xa j xc])) (hgr : (wr.alloc (.cells #[.int .i64 num, .int .i64 ent, .slice xa j xc] 72)).drew.grownBy w2 (Value.slice uA un ucap).ownBlock) (hat : u'.ownBlock = (Value.slice uA un ucap).ownBlock ∨ u'.ownBlock = some (wr.alloc (.cells #[.int .i64 num, .int .i64 ent, .slice xa j xc] 72)).drew.heap.size) =>
          seen_step (num := num) (ent := ent) hT hTN hNw (show w.heap.size ≤ w1.heap.size by omega) hli.out.size hkr hor HN.out so2 so3 hxo2 (⟨rfl, rfl, rfl, by show wr.heap.size ≤ (wr.alloc _).heap.size; simp, fun k hk => heap_alloc_old wr _ hk⟩ : Below wr.heap.size wr (wr.alloc (.cells #[.int .i64 num, .int .i64 ent, .slice xa j xc] 72)).drew) (by show wr.heap.size ≤ (wr.alloc _).heap.size; simp) hown2 hgr hat
        rw [hSL] at hstep
        have hsll : SL.length = D.length := by rw [← hSL]; simp
        have HSLL := Lib.hid hsll
        have hstep2 : ∀ (w2 : World), (wr.alloc (.cells #[.int .i64 num, .int .i64 ent, .slice xa j xc] 72)).drew.grownBy w2 (Value.slice uA un ucap).ownBlock → PS w2 L (w.heap.size + 1) N num ent (.slice xa j xc) ∧ ∀ u', PS (w2.setCell ⟨N, 2, none⟩ u') L (w.heap.size + 1) N num ent (.slice xa j xc) := fun w2 hgr => by
          have hk2 : ∀ k, k < wr.heap.size → (Value.slice uA un ucap).ownBlock ≠ some k → w2.heap[k]? = wr.heap[k]? := fun k a b => (hgr.block k (by show k < (wr.alloc _).heap.size; simp; omega) (fun e => b e.symm)).trans (heap_alloc_old wr _ a)
          have hlz := hli.out.size
          have hX2 : Blk w2 (w.heap.size + 1) 72 #[.int .i64 num, .int .i64 ent, .slice xa j xc] := (hk2 _ (by omega) (fun e => by have := hT _ (so2 _ e); omega)).trans hxb
          have hL2 : Blk w2 L 205 #[lvl, .int .i64 num, .slice gA fs.length gc, .pointer (some ⟨N, 0, none⟩)] := (hk2 L (by omega) (fun e => hTL (so2 _ e))).trans ((hkr L hLw).trans HL.out)
          exact ⟨⟨hL2.cell 3, hX2.cell 0, hX2.cell 1, hX2.cell 2⟩, fun u' => ⟨(hL2.far (p := ⟨N, 2, none⟩) hLN u').cell 3, (hX2.far (p := ⟨N, 2, none⟩) (show w.heap.size + 1 ≠ N by omega) u').cell 0, (hX2.far (p := ⟨N, 2, none⟩) (show w.heap.size + 1 ≠ N by omega) u').cell 1, (hX2.far (p := ⟨N, 2, none⟩) (show w.heap.size + 1 ≠ N by omega) u').cell 2⟩⟩
        have HSTEP2 := Lib.hid hstep2
        clear hstep2
        have HSTEP := Lib.hid hstep
        have HOWN := Lib.hid hown
        have HX3 := Lib.hid hX3
        have hX4 : ∀ o, (wr.alloc o).cell? ⟨w.heap.size + 1, 0, none⟩ = some (.int .i64 num) ∧ (wr.alloc o).cell? ⟨w.heap.size + 1, 1, none⟩ = some (.int .i64 ent) ∧ (wr.alloc o).cell? ⟨w.heap.size + 1, 2, none⟩ = some (.slice xa j xc) := fun o => ⟨(hxb.alloc o).cell 0, (hxb.alloc o).cell 1, (hxb.alloc o).cell 2⟩
        have HX4 := Lib.hid hX4
        have hon3 : ∀ u, u ∈ (#[.int .i64 num, .int .i64 ent, .slice xa j xc] : Array Value).toList → u.oneCell' = true := fun u hu => by
          simp at hu
          rcases hu with rfl | rfl | rfl <;> rfl
        have HON3 := Lib.hid hon3
        have HN63 := Lib.hid (show SL.length + 1 ≤ maxLen by rw [HSLL.out]; unfold maxLen; omega)
        have HNB := Lib.hid (show (SL.length + 1) * 40 ≤ 140737488355328 by rw [HSLL.out]; omega)
        clear hon3
        have hL4 : ∀ o, (wr.alloc o).cell? ⟨L, 3, none⟩ = some (.pointer (some ⟨N, 0, none⟩)) := fun o => (World.cell?_of_block (w := wr) (heap_alloc_old wr o (show L < wr.heap.size by have := hli.out.size; omega))).trans b3
        have hN4 : ∀ o, (wr.alloc o).cell? ⟨N, 2, none⟩ = some (.slice uA un ucap) := fun o => (World.cell?_of_block (w := wr) (heap_alloc_old wr o (show N < wr.heap.size by have := hli.out.size; omega))).trans b5
        have HL4 := Lib.hid hL4
        clear hxb hxo hxo2 hstep hown hX3 so1 so2 so3 hSL hsll hX4 hL4 hfl
        go_wp2_with fail
        obtain ⟨xx0, xx1, xx2⟩ := HX3.out
        have xx4 := HX4.out
        have ll4 := HL4.out
        go_region_law ((refine step_app1 row67 ?x1 (.tmp 53) (.tmp 55) ?x2 0 (.slice uA un ucap) SL.length (srows SL) ?hs ?own wr.heap.size #[.int .i64 num, .int .i64 ent, .slice xa j xc] ?hx ?nh ?hl ?h1 ?n63 ?nb ?nbase ?_; (case x1 => rfl); (case x2 => rfl); (case hs => rfl); (case hx => rfl); (case own => exact own_drew (HOWN.out.alloc _)); (case nh => exact row_new1 _ _ _); (case hl => rfl); (case h1 => exact HON3.out); (case n63 => exact HN63.out); (case nb => exact HNB.out); (case nbase => exact Nat.zero_le _); intro u' w2 hown hgr hat; obtain ⟨ua', uc', rfl⟩ := ownsRow_shape hown; have hkk := HSTEP.out w2 _ hown hgr hat; have n2' : w2.cell? ⟨N, 2, none⟩ = some (.slice uA un ucap) := hkk.1.cell 2; have nf' : w2.frozen? ⟨N, 2, none⟩ = false := hkk.1.frozen 2; have HKK := Lib.hid hkk.2; have HPS := Lib.hid (HSTEP2.out w2 hgr); obtain ⟨pl3, px0, px1, px2⟩ := HPS.out.1; clear hkk hown hgr hat))
        all_goals
          clear HSTEP HSTEP2 HOWN HX3 HX4 HL4 HON3 HN63 HNB hN4 n2' nf' b1 b2 b3 b4 b5 xx0 xx1 xx2 xx4 ll4 pl3 px0 px1 px2 HPS
          go_wp2_with fail
          go_ret
          refine ⟨rfl, _, _, HKK.out.1, HKK.out.2.1, fun k hk => hk, HKK.out.2.2⟩
end Go.Proofs.Zap
