/- a text of the claims over the seat; its order and aim: NOTES.md -/
import Derived.Test.YtpllbhobcnglnaaGreatDoorZSN
/- ZWritten -/
namespace Go.Proofs.Zap
open Go Go.Proofs Go.RowKit

theorem MidW.drew {wr W : World} {b m j : Nat} {xf : Value} {fs : List FC} (h : MidW wr W b m j xf fs) : MidW wr W.drew b m j xf fs := ⟨h.below.drew, h.hb, h.blk, h.fv⟩
/-- an append as a step of a drawn region, the values read off the frame -/
theorem step_appE {t e : TypeId} {size bytes : Nat} (R : RowT t e size bytes) {ops : Array Oper} {o : Oper} {a : Act} {w : World} {K : Act → World → Prop} {Q : Exit → Act → World → Prop} {E : Prop} (hgd : o.guard = none) (s x : Operand)
    (ho : o.op = .call { callee := .builtin .append, args := #[s, x], argTypes := #[t, t] })
    (base n m : Nat) (xs news : List Value) (hown : w.ownsRow base e size (a.eval s) n xs) (hX : Src w size (a.eval x) m news)
    (h63 : n + m ≤ maxLen) (hbytes : (n + m) * bytes ≤ 140737488355328) (hbase : base ≤ w.heap.size)
    (hK : ∀ A c w', w'.ownsRow base e size (.slice A (n + m) c) (n + m) (xs ++ news) → w.grownBy w' (a.eval s).ownBlock → K (a.put o.dst (.slice A (n + m) c)) w') :
    if Region.wanted o (yielded ops a.tmps) = true then Oper.wp Tryz.prog o a w K Q else E := by
  refine step_appN R hgd s x ho base _ n xs rfl hown _ m news rfl hX h63 hbytes hbase fun v' w' h2 hgr _ => ?_
  obtain ⟨A, c, rfl⟩ := ownsRow_shape h2
  exact hK A c w' h2 hgr

set_option maxRecDepth 100000 in
set_option maxHeartbeats 8000000 in
theorem written_any : W43 := by
  intro t v ev fv EL FL B w hf hc hE hF hB hfl hn20 hg3
  obtain ⟨xk, xl, xA, xn, xc, xfA, xfn, xfc, rfl⟩ := hc.form
  have HLV := Lib.hid (fun W (hW : Below w.heap.size w W) => leaves_any t 6 (by omega) hf _ B W (hc.keep fun k hk => hW.block k (by omega)) (Nat.le_trans hB hW.size) hfl)
  have HFM : Hid (∀ x, x ∈ zl t → ∀ c, c ∈ x.2 → (∃ a n m, c.bytes = .slice a n m) ∧ ∃ a n m, c.items = .slice a n m) := Lib.hid fun x hx c hcc => (zl_pz t _ hc x hx c hcc).fmd
  have HL2 : Hid (∀ x, x ∈ zl t → x.2.length ≤ 300) := Lib.hid fun x hx => Nat.le_trans (zl_len t x hx) hfl
  have HL1 : Hid (∀ x, x ∈ zl t → x.1.length ≤ 6) := Lib.hid fun x hx => zl_lv t 6 hf x hx
  have HLL : Hid ((zl t).length ≤ 46656) := Lib.hid (by rw [len_zl t 6 hf]; exact cnt_le t 6 hf)
  have HSL := Lib.hid (seenOf_len t EL FL hf)
  have HSU : Hid (∀ j, seenOf t EL FL (j + 1) = seenOf t EL FL j ++ noted j (gsAt FL j) (pick 0 (zl t) (lvAt EL j))) := Lib.hid fun j => by rw [seenOf_succ, wr_bld _ t 6 0 hf]
  have HG3 := Lib.hid hg3
  obtain ⟨eA, ec, rfl, e2, e3, e4, e5⟩ := hE
  obtain ⟨fA, fc, rfl, f2, f3, f4, f5⟩ := hF
  have HE5 := Lib.hid e5
  have HF5 := Lib.hid f5
  generalize hen : EL.length = en at *
  generalize hfn : FL.length = fn at *
  have HEN := Lib.hid hen
  have HFN := Lib.hid hfn
  have hb0 : ∀ o, Below w.heap.size w (w.alloc o) := fun o => (Below.refl _ _).alloc (Nat.le_refl _) o
  have HB0 := Lib.hid hb0
  clear hc hg3 e4 e5 f4 f5 hen hfn hb0 hfl
  unfold WnP
  rw [HEN.out]
  go_enter Tryz.func43, Tryz.ntmps43
  go_wp2_with fail
  refine (HLV.out _ (HB0.out _)).mono ?_
  rintro e w1 ⟨u, T, rfl, hl, ht, hb⟩
  obtain ⟨uA, uc, rfl⟩ := hl.form
  have hB1 : Below w.heap.size w w1 := (HB0.out (.cells #[.int .i64 xk, .int .i64 xl, .slice xA xn xc, .slice xfA xfn xfc] 41)).trans (hb.mono (HB0.out _).size)
  have hBw : B ≤ w1.heap.size := Nat.le_trans hB hB1.size
  have HKB : Hid (∀ W, Below w1.heap.size w1 W → ∀ k, k < B → W.heap[k]? = w.heap[k]?) := Lib.hid fun W hW k hk => (hW.block k (by omega)).trans (hB1.block k (by omega))
  have HT : Hid (∀ k, T k → k < w1.heap.size) := Lib.hid fun k hk => (ht k hk).2
  have HL := Lib.hid hl
  have hw0 : WnI w1 w1 (fun _ => False) (.slice none 0 0) (seenOf t EL FL 0) := ⟨Below.refl _ _, by simpa [seenOf] using seen0, fun k h => h.elim⟩
  have HW0 := Lib.hid hw0
  have HB1 := Lib.hid hB1
  clear hl ht hb hw0 hB1 HLV HB0
  go_wp2_with fail
  go_loopw [8, 9] (fun u i wr => ∃ (j : Nat) (T2 : Nat → Prop), i = .int .i64 j ∧ j ≤ en ∧ Hid (WnI w1 wr T2 u (seenOf t EL FL j))) (fun _ i _ => en - (intOf i).toNat)
  case atStart => exact ⟨0, _, rfl, by omega, HW0⟩
  case round =>
    obtain ⟨j, T2, rfl, hj, hwn⟩ := hrel
    by_cases hlt : j < en
    · obtain ⟨z, hz⟩ : ∃ z, EL[j]? = some z := ⟨EL[j]'(by have := HEN.out; omega), by simp⟩
      obtain ⟨eb, eo, rfl, heb, hecs⟩ := HE5.out (by omega)
      have HEC : Hid (∀ W, Below w1.heap.size w1 W → W.cell? ⟨eb, eo + j * 12, none⟩ = some (.int .i64 z.lv)) := Lib.hid fun W hW => ((hecs j z hz).1.keep heb (w' := W) (HKB.out W hW)) 0 _ rfl
      have HLA : Hid (lvAt EL j = w8 z.lv) := Lib.hid (by simp [lvAt, hz])
      have hw1 : WnI w1 wr T2 u8 (seenOf t EL FL j ++ noted j (gsAt FL j) (pick 0 ((zl t).take 0) (w8 z.lv))) := by simpa [pick, noted] using hwn.out
      have HW1 := Lib.hid hw1
      have w1e := wrap8 z.lv
      have w2e : IntKind.i64.wrap (w8 z.lv) = w8 z.lv := wrap64_id (by unfold w8; omega) (by unfold w8; omega)
      have q0 : (0 : Int) ≤ (j : Int) := Int.natCast_nonneg _
      have q1 : (j : Int) < (en : Int) := by omega
      clear hecs hw1 hwn
      go_wp2_with fail
      go_loopw [8, 10] (fun u i wr => ∃ (m : Nat) (T2 : Nat → Prop), i = .int .i64 m ∧ m ≤ (zl t).length ∧ Hid (WnI w1 wr T2 u (seenOf t EL FL j ++ noted j (gsAt FL j) (pick 0 ((zl t).take m) (w8 z.lv))))) (fun _ i _ => (zl t).length - (intOf i).toNat)
      case atStart => exact ⟨0, T2, rfl, by omega, HW1⟩
      case round =>
        obtain ⟨m, T3, rfl, hm, hwn⟩ := hrel
        obtain ⟨wr1, ewr⟩ : ∃ W, W = wr := ⟨wr, rfl⟩
        subst ewr
        by_cases hlt2 : m < (zl t).length
        · obtain ⟨x, hx⟩ : ∃ x, (zl t)[m]? = some x := ⟨(zl t)[m], by simp⟩
          obtain ⟨g, kcap, iA, ic, fA2, fc2, ek, lek, tg, s0, s1, Si, hiv, hvf, hsi⟩ := lvo_at HL.out hx
          injection ek with ek1 ek2 ek3
          subst ek1 ek3
          have p1 : (m : Int) < ((zl t).length : Int) := by omega
          have p0 : (0 : Int) ≤ (m : Int) := Int.natCast_nonneg _
          have hgw : g < w1.heap.size := HT.out g tg
          have hS : ∀ W, Below w1.heap.size w1 W → W.cell? ⟨g, m * 2, none⟩ = some (.slice iA x.1.length ic) ∧ W.cell? ⟨g, m * 2 + 1, none⟩ = some (.slice fA2 x.2.length fc2) := fun W hW => ⟨(World.cell?_of_block (w := w1) (a := ⟨g, m * 2, none⟩) (hW.block g hgw)).trans s0, (World.cell?_of_block (w := w1) (a := ⟨g, m * 2 + 1, none⟩) (hW.block g hgw)).trans s1⟩
          have HS := Lib.hid hS
          have HIV : Hid (∀ W, Below w1.heap.size w1 W → IVs W Si x.1 (.slice iA x.1.length ic)) := Lib.hid fun W hW => hiv.keep fun k hk => hW.block k (HT.out k (hsi k hk))
          have HSF : Hid (∀ W, Below w1.heap.size w1 W → Src W 15 (.slice fA2 x.2.length fc2) x.2.length (vrows x.2)) := Lib.hid fun W hW => (hvf.keep fun k hk => hW.block k (HT.out k (hsi k hk))).src (HFM.out x (List.mem_of_getElem? hx))
          have HX := Lib.hid hx
          have hl1 : x.1.length ≤ 6 := HL1.out x (List.mem_of_getElem? hx)
          have hll : (zl t).length ≤ 46656 := HLL.out
          have hb00 : Hid (Below wr1.heap.size wr1 wr1) := Lib.hid (Below.refl _ _)
          have hzw : w1.heap.size ≤ wr1.heap.size := hwn.out.below.size
          clear hS hiv hvf hsi s0 s1 ek2 tg hx
          go_wp2_with fail
          go_loopw [11, 12] (fun b i wr' => ∃ q : Nat, i = .int .i64 q ∧ q ≤ x.1.length ∧ b = .bool (onL (x.1.take q) (w8 z.lv)) ∧ Hid (Below wr1.heap.size wr1 wr')) (fun _ i _ => x.1.length - (intOf i).toNat)
          case atStart => exact ⟨0, rfl, by omega, by simp [onL], hb00⟩
          case round =>
            obtain ⟨q, rfl, hq, hb, hbw⟩ := hrel
            have hb3 : Below w1.heap.size w1 wr := hwn.out.below.trans (hbw.out.mono hzw)
            obtain ⟨c0, c1⟩ := HS.out _ hb3
            by_cases hq2 : q < x.1.length
            · obtain ⟨y, hy⟩ : ∃ y, x.1[q]? = some y := ⟨x.1[q], by simp⟩
              obtain ⟨ib, io, rfl, hib, hyc⟩ := (HIV.out _ hb3).at hy
              have HY : Hid (∀ W, Below w1.heap.size w1 W → W.cell? ⟨ib, io + q, none⟩ = some (.int .i64 y)) := Lib.hid fun W hW => by
                obtain ⟨ib2, io2, e, _, h⟩ := (HIV.out W hW).at hy
                injection e with e; injection e with e1 e2
                subst e1 e2
                exact h
              have HNX := Lib.hid (onL_succ (w8 z.lv) x.1 q y hy)
              have r0 : (0 : Int) ≤ (q : Int) := Int.natCast_nonneg _
              have r1 : (q : Int) < (x.1.length : Int) := by omega
              have cE : wr.cell? ⟨eb, eo + j * 12, none⟩ = some (.int .i64 z.lv) := HEC.out _ hb3
              have cY : wr.cell? ⟨ib, io + q, none⟩ = some (.int .i64 y) := HY.out _ hb3
              have HBW : Hid (∀ nq, Below wr1.heap.size wr1 (wr.drewN nq)) := Lib.hid fun nq => ⟨hbw.out.os, hbw.out.tape, hbw.out.output, hbw.out.size, hbw.out.block⟩
              clear hyc hy hb3 hbw
              rcases hon : onL (x.1.take q) (w8 z.lv) with _ | _
              · rw [hon] at hb HNX
                have HN2 : Hid (onL (x.1.take (q + 1)) (w8 z.lv) = false) := Lib.hid (by rw [HNX.out]; rfl)
                subst hb
                clear hon HNX
                go_wp2_with fail
                go_quiet (fail)
                go_wp2_with fail
                go_roundw
                case rel => exact ⟨q + 1, by go_num, by omega, by rw [HN2.out], Lib.hid (HBW.out _)⟩
                case measure => simp [intOf]; omega
              · rw [hon] at hb HNX
                have HN2 : Hid (onL (x.1.take (q + 1)) (w8 z.lv) = decide (y ≤ w8 z.lv)) := Lib.hid (by rw [HNX.out]; rfl)
                subst hb
                clear hon HNX
                go_wp2_with fail
                go_quiet (fail)
                go_wp2_with fail
                go_roundw
                case rel => exact ⟨q + 1, by go_num, by omega, by rw [HN2.out], Lib.hid (HBW.out _)⟩
                case measure => simp [intOf]; omega
            · have eq : q = x.1.length := by omega
              subst eq
              rw [List.take_length] at hb
              have r1 : ¬ (x.1.length : Int) < (x.1.length : Int) := by omega
              have hwn3 := hwn.out.on hbw.out
              rcases hon : onL x.1 (w8 z.lv) with _ | _
              · rw [hon] at hb
                subst hb
                have hw2 : WnI w1 wr T3 u8 (seenOf t EL FL j ++ noted j (gsAt FL j) (pick 0 ((zl t).take (m + 1)) (w8 z.lv))) := by
                  rw [pick_succ _ _ _ _ HX.out, hon]; simpa using hwn3
                have HW2 := Lib.hid hw2
                clear hw2 hon hwn3 hwn
                go_wp2_with fail
                go_roundw
                case rel => exact ⟨m + 1, T3, by go_num, by omega, HW2⟩
                case measure => simp [intOf]; omega
              · rw [hon] at hb
                subst hb
                obtain ⟨SL, hR1, hR2, hR3, hR4⟩ := hwn3.seen
                have hRl : SL.length = (seenOf t EL FL j ++ noted j (gsAt FL j) (pick 0 ((zl t).take m) (w8 z.lv))).length := by rw [← hR1]; simp
                obtain ⟨u8A, u8c, rfl⟩ := ownsRow_shape hR2
                have HR63 : Hid (SL.length + 1 ≤ 1000000) := Lib.hid (by
                  rw [hRl, List.length_append, noted_len]
                  have h1 := HSL.out j
                  have h2 := pick_len (w8 z.lv) ((zl t).take m) 0
                  rw [List.length_take] at h2
                  have h3 := HLL.out
                  omega)
                have HOW : Hid (∀ W, Below wr.heap.size wr W → W.ownsRow 0 72 3 (.slice u8A SL.length u8c) SL.length (srows SL)) := Lib.hid fun W hW => own_keep hR2 fun k cs hB => hW.block k hB.lt
                have HST : Hid (∀ (W w2 : World) (b9 : Nat) (xf u' : Value) (fs : List FC), MidW wr W b9 m j xf fs → fs = x.2 ++ gsAt FL j → w2.ownsRow 0 72 3 u' (SL.length + 1) (srows SL ++ [.int .i64 m, .int .i64 j, xf]) → (W.alloc (.cells #[.int .i64 m, .int .i64 j, xf] 72)).grownBy w2 (Value.slice u8A SL.length u8c).ownBlock → (u'.ownBlock = (Value.slice u8A SL.length u8c).ownBlock ∨ u'.ownBlock = some (W.alloc (.cells #[.int .i64 m, .int .i64 j, xf] 72)).heap.size) → ∃ T', WnI w1 w2 T' u' (seenOf t EL FL j ++ noted j (gsAt FL j) (pick 0 ((zl t).take (m + 1)) (w8 z.lv)))) := Lib.hid fun W w2 b9 xf u' fs hM hfs hown hgr hat => by
                  subst hfs
                  have h := wn_step hwn3 hR1 hR3 hR4 hM hown hgr hat
                  rw [pick_succ _ _ _ _ HX.out, hon, if_pos rfl, noted_append, ← List.append_assoc]
                  exact h
                have hl2 : x.2.length ≤ 300 := HL2.out x (List.mem_of_getElem? HX.out)
                have HB3 := Lib.hid hwn3.below
                have hz3 : w1.heap.size ≤ wr.heap.size := hwn3.below.size
                have c1a : (wr.alloc (.cells #[] 135)).cell? ⟨g, m * 2 + 1, none⟩ = some (.slice fA2 x.2.length fc2) := (HS.out _ (below_allocB HB3.out (Nat.le_refl _) _)).2
                clear hwn3 hwn hon hR1 hR2 hR3 hR4 hRl hb3
                go_wp2_with (at_builtin; refine wpList_appN row39 ?x1 (.tmp 61) (.tmp 66) ?x2 wr.heap.size (.slice (some ⟨wr.heap.size, 0, none⟩) 0 0) 0 [] ?hsA ?own (.slice fA2 x.2.length fc2) x.2.length (vrows x.2) ?hxA ?src ?n63 ?nb ?nbaseA ?_)
                case x1 => rfl
                case x2 => rfl
                case own => exact own_fresh 135 15 rfl (Nat.le_refl _)
                case src => exact HSF.out _ (below_allocB HB3.out (Nat.le_refl _) _)
                case n63 => unfold maxLen; omega
                case nb => omega
                intro v' w5 hown hgr _
                obtain ⟨A', c', rfl⟩ := ownsRow_shape hown
                have hb5 : Below wr.heap.size wr w5 := grown_below ((Below.refl _ _).alloc (Nat.le_refl _) _) (own_fresh 135 15 rfl (Nat.le_refl _)) (by simp) hgr
                have HM : Hid (MidW wr (w5.alloc (.cells #[.int .i64 m, .int .i64 j, .slice A' x.2.length c'] 72)) w5.heap.size m j (.slice A' x.2.length c') x.2) := Lib.hid ⟨below_allocB hb5 (Nat.le_refl _) _, hb5.size, Blk.new _ _ _, hown.alloc _⟩
                have hz5 : wr.heap.size ≤ w5.heap.size := hb5.size
                clear hown hgr c0 c1 c1a
                by_cases hjf : j < fn
                · obtain ⟨fs, hfs⟩ : ∃ fs, FL[j]? = some fs := ⟨FL[j]'(by have := HFN.out; omega), by simp⟩
                  obtain ⟨fb, fo, rfl, hfb, hfcs⟩ := HF5.out (by omega)
                  obtain ⟨fd, fvv, hcell, hflk⟩ := hfcs j fs hfs
                  have hgl : fs.length ≤ 300 := HG3.out fs (List.mem_of_getElem? hfs)
                  have HGA : Hid (gsAt FL j = fs) := Lib.hid (by simp [gsAt, hfs])
                  obtain ⟨gA, gc, rfl⟩ := hflk.vfs.form
                  have HCE : Hid (∀ W, Below w1.heap.size w1 W → W.cell? ⟨fb, fo + j, none⟩ = some (.slice gA fs.length gc) ∧ Src W 15 (.slice gA fs.length gc) fs.length (vrows fs)) := Lib.hid fun W hW => ⟨(World.cell?_of_block (w := w) (a := ⟨fb, fo + j, none⟩) (HKB.out W hW fb hfb)).trans hcell, (hflk.vfs.keep fun k hk => HKB.out W hW k hk).src fun c hc => (flok_pz hflk c hc).fmd⟩
                  have hBA : Below w1.heap.size w1 (w5.alloc (.cells #[.int .i64 m, .int .i64 j, .slice A' x.2.length c'] 72)) := HB3.out.trans (HM.out.below.mono hz3)
                  have c3 : (w5.alloc (.cells #[.int .i64 m, .int .i64 j, .slice A' x.2.length c'] 72)).cell? ⟨fb, fo + j, none⟩ = some (.slice gA fs.length gc) := (HCE.out _ hBA).1
                  have c4 : (w5.alloc (.cells #[.int .i64 m, .int .i64 j, .slice A' x.2.length c'] 72)).cell? ⟨w5.heap.size, 2, none⟩ = some (.slice A' x.2.length c') := HM.out.blk.cell 2
                  have HSR := Lib.hid (HCE.out _ hBA.drew).2
                  have q2 : (j : Int) < (fn : Int) := by omega
                  have HNB : Hid (wr.heap.size ≤ (w5.alloc (.cells #[.int .i64 m, .int .i64 j, .slice A' x.2.length c'] 72)).heap.size) := Lib.hid HM.out.below.size
                  clear hfcs hcell hflk hfs hBA hb5
                  go_wp2_with fail
                  go_region_law ((refine step_appE row39 ?x1 (.tmp 74) (.tmp 78) ?x2 wr.heap.size x.2.length fs.length (vrows x.2) (vrows fs) ?own ?src ?n63 ?nb ?nbase ?_; (case x1 => rfl); (case x2 => rfl); (case own => exact own_drew HM.out.fv); (case src => exact HSR.out); (case n63 => exact (by unfold maxLen; omega)); (case nb => omega); (case nbase => exact HNB.out); intro A2 c2 w6 hown hgr; have hB6 := blk_grown HM.out.drew.blk HM.out.drew.fv hgr (by decide); have k0 : w6.cell? ⟨w5.heap.size, 2, none⟩ = some (.slice A' x.2.length c') := hB6.cell 2; have k1 : w6.frozen? ⟨w5.heap.size, 2, none⟩ = false := hB6.frozen 2; have HM2 := Lib.hid (MidW.fields HM.out.drew hgr hown); clear hB6 hown hgr))
                  all_goals
                    clear c3 c4 k0 k1 HNB HSR HCE
                    have t0 : (w6.setCell ⟨w5.heap.size, 2, none⟩ (.slice A2 (x.2.length + fs.length) c2)).cell? ⟨w5.heap.size, 0, none⟩ = some (.int .i64 (m : Int)) := HM2.out.blk.cell 0
                    have t1 : (w6.setCell ⟨w5.heap.size, 2, none⟩ (.slice A2 (x.2.length + fs.length) c2)).cell? ⟨w5.heap.size, 1, none⟩ = some (.int .i64 (j : Int)) := HM2.out.blk.cell 1
                    have t2 : (w6.setCell ⟨w5.heap.size, 2, none⟩ (.slice A2 (x.2.length + fs.length) c2)).cell? ⟨w5.heap.size, 2, none⟩ = some (.slice A2 (x.2.length + fs.length) c2) := HM2.out.blk.cell 2
                    go_wp2_with (at_builtin; refine wpList_appN row67 ?x1 (.tmp 81) (.tmp 83) ?x2 0 (.slice u8A SL.length u8c) SL.length (srows SL) ?hs ?own (.slice (some ⟨w6.heap.size, 0, none⟩) 1 1) 1 [.int .i64 m, .int .i64 j, .slice A2 (x.2.length + fs.length) c2] ?hx ?src ?n63 ?nb ?nbase ?_)
                    case x1 => rfl
                    case x2 => rfl
                    case hs => rfl
                    case hx => rfl
                    case own => exact HOW.out _ (below_allocB HM2.out.below (Nat.le_refl _) _)
                    case src => (have hs := src_fresh (W := w6.setCell ⟨w5.heap.size, 2, none⟩ (.slice A2 (x.2.length + fs.length) c2)) (e := 72) (cs := #[.int .i64 m, .int .i64 j, .slice A2 (x.2.length + fs.length) c2]) (size := 3) (m := 1) rfl (by intro u hu; simp at hu; rcases hu with rfl | rfl | rfl <;> rfl); have hz9 : (w6.setCell ⟨w5.heap.size, 2, none⟩ (.slice A2 (x.2.length + fs.length) c2)).heap.size = w6.heap.size := (by simp [World.setCell]); rw [hz9] at hs; exact hs)
                    case n63 => exact (by have := HR63.out; unfold maxLen; omega)
                    case nb => exact (by have := HR63.out; omega)
                    case nbase => exact Nat.zero_le _
                    intro u' w7 hown hgr hat
                    obtain ⟨T', hwn'⟩ := HST.out (w6.setCell ⟨w5.heap.size, 2, none⟩ (.slice A2 (x.2.length + fs.length) c2)) w7 w5.heap.size _ u' (x.2 ++ fs) HM2.out (by rw [HGA.out]) hown hgr (hat.imp id fun h => h.trans (by simp [World.setCell]))
                    have HZ' := Lib.hid hwn'
                    obtain ⟨uA', uc', rfl⟩ := ownsRow_shape hown
                    clear hown hgr hat hwn' t0 t1 t2 HST HOW
                    go_wp2_with fail
                    go_roundw
                    case rel => exact ⟨m + 1, T', by go_num, by omega, HZ'⟩
                    case measure => simp [intOf]; omega
                · have q2 : ¬ (j : Int) < (fn : Int) := by omega
                  have HGA : Hid (gsAt FL j = []) := Lib.hid (by
                    have h1 := HFN.out
                    unfold gsAt
                    rw [List.getElem?_eq_none (by omega)]
                    rfl)
                  clear hb5
                  have t0 : (w5.alloc (.cells #[.int .i64 m, .int .i64 j, .slice A' x.2.length c'] 72)).cell? ⟨w5.heap.size, 0, none⟩ = some (.int .i64 (m : Int)) := HM.out.blk.cell 0
                  have t1 : (w5.alloc (.cells #[.int .i64 m, .int .i64 j, .slice A' x.2.length c'] 72)).cell? ⟨w5.heap.size, 1, none⟩ = some (.int .i64 (j : Int)) := HM.out.blk.cell 1
                  have t2 : (w5.alloc (.cells #[.int .i64 m, .int .i64 j, .slice A' x.2.length c'] 72)).cell? ⟨w5.heap.size, 2, none⟩ = some (.slice A' x.2.length c') := HM.out.blk.cell 2
                  go_wp2_with (at_builtin; refine wpList_appN row67 ?x1B (.tmp 81) (.tmp 83) ?x2B 0 (.slice u8A SL.length u8c) SL.length (srows SL) ?hsB ?ownB (.slice (some ⟨w5.heap.size + 1, 0, none⟩) 1 1) 1 [.int .i64 m, .int .i64 j, .slice A' x.2.length c'] ?hxB ?srcB ?n63B ?nbB ?nbaseB ?_)
                  case x1B => rfl
                  case x2B => rfl
                  case ownB => exact HOW.out _ (below_allocB HM.out.below (Nat.le_refl _) _)
                  case srcB => (have hs := src_fresh (W := w5.alloc (.cells #[.int .i64 m, .int .i64 j, .slice A' x.2.length c'] 72)) (e := 72) (cs := #[.int .i64 m, .int .i64 j, .slice A' x.2.length c']) (size := 3) (m := 1) rfl (by intro u hu; simp at hu; rcases hu with rfl | rfl | rfl <;> rfl); have hz9 : (w5.alloc (.cells #[.int .i64 m, .int .i64 j, .slice A' x.2.length c'] 72)).heap.size = w5.heap.size + 1 := (by simp); rw [hz9] at hs; exact hs)
                  case n63B => exact (by have := HR63.out; unfold maxLen; omega)
                  case nbB => exact (by have := HR63.out; omega)
                  intro u' w7 hown hgr hat
                  obtain ⟨T', hwn'⟩ := HST.out (w5.alloc (.cells #[.int .i64 m, .int .i64 j, .slice A' x.2.length c'] 72)) w7 w5.heap.size _ u' (x.2) HM.out (by rw [HGA.out, List.append_nil]) hown hgr (hat.imp id fun h => h.trans (by simp))
                  have HZ' := Lib.hid hwn'
                  obtain ⟨uA', uc', rfl⟩ := ownsRow_shape hown
                  clear hown hgr hat hwn' t0 t1 t2 HST HOW
                  go_wp2_with fail
                  go_roundw
                  case rel => exact ⟨m + 1, T', by go_num, by omega, HZ'⟩
                  case measure => simp [intOf]; omega
        · have em : m = (zl t).length := by omega
          subst em
          have hw2 : WnI w1 wr1 T3 u8 (seenOf t EL FL (j + 1)) := by
            rw [HSU.out, HLA.out]
            have h := hwn.out
            rw [List.take_length] at h
            exact h
          have HW2 := Lib.hid hw2
          clear hw2 hwn
          go_wp2_with fail
          go_roundw
          case rel => exact ⟨j + 1, T3, by go_num, by omega, HW2⟩
          case measure => simp [intOf]; omega
    · have ej : j = en := by omega
      subst ej
      obtain ⟨u8A, u8c, rfl⟩ := hwn.out.seen.form
      have HWN := hwn
      clear hwn
      go_wp2_with fail
      go_ret
      exact ⟨_, T2, rfl, HWN.out.seen, fun k hk => ⟨by have := (HWN.out.t k hk).1; have := HB1.out.size; omega, (HWN.out.t k hk).2⟩, HB1.out.trans (HWN.out.below.mono HB1.out.size)⟩
end Go.Proofs.Zap
