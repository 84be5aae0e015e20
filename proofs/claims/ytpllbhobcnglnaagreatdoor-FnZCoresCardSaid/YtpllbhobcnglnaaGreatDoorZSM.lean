/- a text of the claims over the seat; its order and aim: NOTES.md -/
import Derived.Test.YtpllbhobcnglnaaGreatDoorZSL
namespace Go.Proofs.Zap
open Go Go.Proofs Go.RowKit

set_option maxRecDepth 100000 in
set_option maxHeartbeats 8000000 in
theorem leaves_any (t : CT FC) : ∀ (d : Nat), d ≤ 6 → fine t d = true → ∀ (v : Value) (B : Nat) (w : World), CAt w B t v → B ≤ w.heap.size → flen t ≤ 300 → Calls Tryz.prog 86 #[v] w (ZlP t w) := by
  induction t with
  | no => intro d _ hf; exact absurd hf (by simp [fine])
  | mk kind lvl n kids fs ih =>
    intro d hd6 hf v B w hc hB hfl
    obtain ⟨k0, k5, hd, hn, h1, h0, hk⟩ := fine_parts hf
    obtain ⟨A, cap, fv, rfl, h2, h3, h4, ⟨d5, h5⟩, hbd, h6⟩ := hc
    obtain ⟨fA, fn, fc, rfl⟩ := h5.form
    by_cases e0 : kind = 0
    · subst e0; exact leaves_leaf lvl n A cap kids fs fA fn fc w
    by_cases e5 : kind = 5
    · subst e5; exact leaves_nop lvl n A cap kids fs fA fn fc w
    have hz := zl_mk kind lvl n kids fs e0 e5
    have g0 : (kind == 0) = false := by simpa using e0
    have g5 : (kind == 5) = false := by simpa using e5
    have hci : ZoI w (w.alloc (.cells #[.int .i64 kind, .int .i64 lvl, .slice A n cap, .slice fA fn fc] 41)) #[.int .i64 kind, .int .i64 lvl, .slice A n cap, .slice fA fn fc] (fun _ => False) (.slice none 0 0) (zpart kind lvl fs kids 0) :=
      ⟨(Below.refl _ _).alloc (Nat.le_refl _) _, Blk.new _ _ _, LvO.nil _, fun k h => h.elim⟩
    have HCI := Lib.hid hci
    have H6 := Lib.hid h6
    have H5 := Lib.hid h5
    have HZ := Lib.hid hz
    have HIH := Lib.hid ih
    have HK := Lib.hid hk
    have HZP : Hid (∀ j, j ≤ n → (zpart kind lvl fs kids j).length ≤ j * 46656) := Lib.hid (zpart_len kind lvl fs kids (d - 1) n (by omega) hk)
    have H5L : Hid (fs.length ≤ 1000) := Lib.hid (by simp only [flen] at hfl; omega)
    have w1e := wrap8 lvl
    have w2e : IntKind.i64.wrap (w8 lvl) = w8 lvl := wrap64_id (by unfold w8; omega) (by unfold w8; omega)
    have HFL := Lib.hid (show ∀ i, i < n → flen (kids i) ≤ 300 from fun i hi => by have := le_sumN (fun i => flen (kids i)) hi; simp only [flen] at hfl; omega)
    clear hci h6 h5 hz ih hk hf h4 hbd h1 h0 hfl
    go_enter Tryz.func86, Tryz.ntmps86
    go_wp2_with fail
    go_loopw [3, 4] (fun u i wr => ∃ (j : Nat) (T : Nat → Prop), i = .int .i64 j ∧ j ≤ n ∧ Hid (ZoI w wr #[.int .i64 kind, .int .i64 lvl, .slice A n cap, .slice fA fn fc] T u (zpart kind lvl fs kids j))) (fun _ i _ => n - (intOf i).toNat)
    case atStart => exact ⟨0, _, rfl, by omega, HCI⟩
    case round =>
      obtain ⟨j, T, rfl, hj, hzo⟩ := hrel
      obtain ⟨uA, uc, rfl⟩ := hzo.out.out.form
      have hsz := hzo.out.below.size
      have hwx := hzo.out.x.lt
      have x0 : wr.cell? ⟨w.heap.size, 0, none⟩ = some (.int .i64 kind) := hzo.out.x.cell 0
      have x1 : wr.cell? ⟨w.heap.size, 1, none⟩ = some (.int .i64 lvl) := hzo.out.x.cell 1
      have x2 : wr.cell? ⟨w.heap.size, 2, none⟩ = some (.slice A n cap) := hzo.out.x.cell 2
      have x3 : wr.cell? ⟨w.heap.size, 3, none⟩ = some (.slice fA fn fc) := hzo.out.x.cell 3
      by_cases hlt : j < n
      · obtain ⟨b, o, rfl, hb, hcs⟩ := H6.out (by omega)
        obtain ⟨r0, r1, r2, r3, hrow, hcat⟩ := hcs j hlt
        have kb : ∀ k, k < B → wr.heap[k]? = w.heap[k]? := fun k hk => hzo.out.below.block k (by omega)
        have hrow' := hrow.keep hb kb
        have hcat' := hcat.keep kb
        obtain ⟨q1k, q1l, q1A, q1n, q1c, q1fA, q1fn, q1fc, hfm⟩ := hcat.form
        injection hfm with hfm
        injection hfm with hfm
        injection hfm with e0' hfm
        injection hfm with e1' hfm
        injection hfm with e2' hfm
        injection hfm with e3' hfm
        subst e0' e1' e2' e3'
        have c0 : wr.cell? ⟨b, o + j * 4, none⟩ = some (.int .i64 q1k) := hrow' 0 _ rfl
        have c1 : wr.cell? ⟨b, o + j * 4 + 1, none⟩ = some (.int .i64 q1l) := hrow' 1 _ rfl
        have c2 : wr.cell? ⟨b, o + j * 4 + 2, none⟩ = some (.slice q1A q1n q1c) := hrow' 2 _ rfl
        have c3 : wr.cell? ⟨b, o + j * 4 + 3, none⟩ = some (.slice q1fA q1fn q1fc) := hrow' 3 _ rfl
        have q0 : (0 : Int) ≤ (j : Int) := Int.natCast_nonneg _
        have q1 : (j : Int) < (n : Int) := by omega
        have HCALL := Lib.hid (HIH.out j (d - 1) (by omega) (HK.out j hlt) _ B wr hcat' (by omega) (HFL.out j hlt))
        have HFM : Hid (∀ x, x ∈ zl (kids j) → ∀ c, c ∈ x.2 → (∃ a n m, c.bytes = .slice a n m) ∧ ∃ a n m, c.items = .slice a n m) := Lib.hid fun x hx c hc => (zl_pz (kids j) _ hcat' x hx c hc).fmd
        clear hcat hcat' hrow hrow' hcs kb
        go_wp2_with fail
        refine HCALL.out.mono ?_
        rintro e w2 ⟨ku, T2, rfl, hl2, ht2, hb2⟩
        obtain ⟨kA, kc, rfl⟩ := hl2.form
        have hzi : ZiI w w2 #[.int .i64 kind, .int .i64 lvl, .slice (some ⟨b, o, none⟩) n cap, .slice fA fn fc] T T2 (.slice uA (zpart kind lvl fs kids j).length uc) (.slice kA (zl (kids j)).length kc) (zpart kind lvl fs kids j ++ ((zl (kids j)).take 0).map (lmap kind lvl fs)) (zl (kids j)) :=
          ⟨⟨hzo.out.below.trans (hb2.mono hsz), hzo.out.x.below hb2 hwx, by simpa using hzo.out.out.keep fun k hk => hb2.block k (hzo.out.t k hk).2, fun k hk => ⟨(hzo.out.t k hk).1, Nat.lt_of_lt_of_le (hzo.out.t k hk).2 hb2.size⟩⟩, hl2, fun k hk => ⟨by have h1 : wr.heap.size ≤ k := (ht2 k hk).1; omega, (ht2 k hk).2⟩, fun k hk h => by have h1 : wr.heap.size ≤ k := (ht2 k hk).1; have := (hzo.out.t k h).2; omega⟩
        have HZI := Lib.hid hzi
        clear hzi hl2 ht2 hb2 HCALL x0 x1 x2 x3 c0 c1 c2 c3 hzo
        have hkl : (zl (kids j)).length ≤ 46656 := by
          have h1 := len_zl (kids j) (d - 1) (HK.out j hlt)
          have h2 := cnt_le (kids j) (d - 1) (HK.out j hlt)
          have h3 : 6 ^ (d - 1) ≤ 6 ^ 6 := Nat.pow_le_pow_right (by omega) (by omega)
          omega
        go_wp2_with fail
        go_loopw [3, 6] (fun u i wr => ∃ (m : Nat) (T : Nat → Prop), i = .int .i64 m ∧ m ≤ (zl (kids j)).length ∧ Hid (ZiI w wr #[.int .i64 kind, .int .i64 lvl, .slice (some ⟨b, o, none⟩) n cap, .slice fA fn fc] T T2 u (.slice kA (zl (kids j)).length kc) (zpart kind lvl fs kids j ++ ((zl (kids j)).take m).map (lmap kind lvl fs)) (zl (kids j)))) (fun _ i _ => (zl (kids j)).length - (intOf i).toNat)
        case atStart => exact ⟨0, T, rfl, by omega, HZI⟩
        case round =>
          obtain ⟨m, T3, rfl, hm, hzi⟩ := hrel
          by_cases hlt2 : m < (zl (kids j)).length
          · obtain ⟨x, hx⟩ : ∃ x, (zl (kids j))[m]? = some x := ⟨(zl (kids j))[m], by simp⟩
            obtain ⟨g, kcap, iA, ic, fA2, fc2, ek, lek, tg, s0, s1, Si, hiv, hvf, hsi⟩ := lvo_at hzi.out.kid hx
            injection ek with ek1 ek2 ek3
            subst ek1 ek3
            have p1 : (m : Int) < ((zl (kids j)).length : Int) := by omega
            have p0 : (0 : Int) ≤ (m : Int) := Int.natCast_nonneg _
            have hgw : g < wr.heap.size := (hzi.out.t2 g tg).2
            have s0a : ∀ o, (wr.alloc o).cell? ⟨g, m * 2, none⟩ = some (.slice iA x.1.length ic) := fun o => (World.cell?_of_block (w := wr) (a := ⟨g, m * 2, none⟩) (heap_alloc_old wr o hgw)).trans s0
            have s1a : ∀ o, (wr.alloc o).cell? ⟨g, m * 2 + 1, none⟩ = some (.slice fA2 x.2.length fc2) := fun o => (World.cell?_of_block (w := wr) (a := ⟨g, m * 2 + 1, none⟩) (heap_alloc_old wr o hgw)).trans s1
            have hfm : ∀ c, c ∈ x.2 → (∃ a n m, c.bytes = .slice a n m) ∧ ∃ a n m, c.items = .slice a n m := HFM.out x (List.mem_of_getElem? hx)
            have hl1 : x.1.length ≤ 1000000 := by have := zl_lv (kids j) (d - 1) (HK.out j hlt) x (List.mem_of_getElem? hx); omega
            have hl2 : x.2.length ≤ 1000000 := by have := zl_len (kids j) x (List.mem_of_getElem? hx); have := HFL.out j hlt; omega
            obtain ⟨R, hR1, hR2, hR3, hR4⟩ := hzi.out.o.out
            have hRl : R.length = (zpart kind lvl fs kids j ++ ((zl (kids j)).take m).map (lmap kind lvl fs)).length := by rw [← hR1]; simp
            obtain ⟨u3A, u3c, rfl⟩ := ownsRow_shape hR2
            have HR63 : Hid (R.length + 1 ≤ 1000000) := Lib.hid (by
              have h1 := HZP.out j (by omega)
              rw [hRl, List.length_append, List.length_map, List.length_take]
              omega)
            have HOW : Hid (∀ W, Below wr.heap.size wr W → W.ownsRow 0 163 2 (.slice u3A R.length u3c) R.length (lrows R)) := Lib.hid fun W hW => own_keep hR2 fun k cs hB => hW.block k hB.lt
            have HSTEP : Hid (∀ (W w2 : World) (b9 : Nat) (xi xf u' : Value), Mid14 wr W b9 xi xf (lmap kind lvl fs x).1 (lmap kind lvl fs x).2 → w2.ownsRow 0 163 2 u' (R.length + 1) (lrows R ++ [xi, xf]) → (W.alloc (.cells #[xi, xf] 163)).grownBy w2 (Value.slice u3A R.length u3c).ownBlock → (u'.ownBlock = (Value.slice u3A R.length u3c).ownBlock ∨ u'.ownBlock = some (W.alloc (.cells #[xi, xf] 163)).heap.size) → ∃ T', ZiI w w2 #[.int .i64 kind, .int .i64 lvl, .slice (some ⟨b, o, none⟩) n cap, .slice fA fn fc] T' T2 u' (.slice (some ⟨g, 0, none⟩) (zl (kids j)).length kc) (zpart kind lvl fs kids j ++ ((zl (kids j)).take (m + 1)).map (lmap kind lvl fs)) (zl (kids j))) := Lib.hid fun W w2 b9 xi xf u' hM hown hgr hat => by
              rw [map_take_succ _ _ _ _ hx, ← List.append_assoc]
              exact zi_step hzi.out hR1 hR3 hR4 hM hown hgr hat
            clear hR1 hR2 hR3 hR4 hRl
            have hSW : ∀ W, Below wr.heap.size wr W → S14 wr g m (.slice iA x.1.length ic) (.slice fA2 x.2.length fc2) W := fun W hW => S14.of ⟨s0, s1⟩ hgw hW
            have HSW := Lib.hid hSW
            have hBW : ∀ W, Below wr.heap.size wr W → Hid (Below wr.heap.size wr W) := fun W hW => Lib.hid hW
            have HSI : Hid (∀ W, Below wr.heap.size wr W → Src W 1 (.slice iA x.1.length ic) x.1.length (ivs x.1)) := Lib.hid fun W hW => (hiv.keep fun k hk => hW.block k (hzi.out.t2 k (hsi k hk)).2).src
            have HSF : Hid (∀ W, Below wr.heap.size wr W → Src W 15 (.slice fA2 x.2.length fc2) x.2.length (vrows x.2)) := Lib.hid fun W hW => (hvf.keep fun k hk => hW.block k (hzi.out.t2 k (hsi k hk)).2).src hfm
            have HB0 : Hid (Below wr.heap.size wr wr) := Lib.hid (Below.refl _ _)
            clear hSW hBW hiv hvf s0a s1a hsi hfm
            go_wp2_with fail
            refine wp_via14 wr x.1 x.2 ?reg14 ?rest14
            case reg14 =>
              go_region_held3 (S14 wr g m (.slice iA x.1.length ic) (.slice fA2 x.2.length fc2)) (first | (refine HSW.out _ ?_; (repeat' (first | exact HB13.out | exact HB6.out | exact HB0.out | apply Below.drew | refine below_allocB ?_ (Nat.le_refl _) _ | refine below_setB ?_ (by first | omega | (have := HB6.out.size; omega) | (have := HB13.out.size; omega))))) | fail) (first | (refine step14 row161 wr ?x1 (.tmp 40) (.tmp 45) ?x2 ?own x.1.length (ivs x.1) ?src ?bel ?n63 ?nb ?_; (case x1 => rfl); (case x2 => rfl); (case src => exact HSI.out); (case bel => (repeat' (first | exact HB13.out | exact HB6.out | exact HB0.out | apply Below.drew | refine below_allocB ?_ (Nat.le_refl _) _ | refine below_setB ?_ (by first | omega | (have := HB6.out.size; omega) | (have := HB13.out.size; omega))))); (case n63 => unfold maxLen; omega); (case nb => omega); (case own => first | exact own_drew (own_fresh 3 1 (by simp) (by first | omega | (have := HB6.out.size; omega))) | exact own_drew ((own_fresh 3 1 (by simp) (by first | omega | (have := HB6.out.size; omega))).alloc _) | exact own_drew (((own_fresh 3 1 (by simp) (by first | omega | (have := HB6.out.size; omega))).alloc _).alloc _)); intro A6 c6 w6 hown hb hk; have I6 := Lib.hid hown; have HB6 := Lib.hid hb; have HK6 := Lib.hid hk; clear hown hb hk) | (refine step14 row39 wr ?x1 (.tmp 47) (.tmp 52) ?x2 ?own x.2.length (vrows x.2) ?src ?bel ?n63 ?nb ?_; (case x1 => rfl); (case x2 => rfl); (case src => exact HSF.out); (case bel => (repeat' (first | exact HB13.out | exact HB6.out | exact HB0.out | apply Below.drew | refine below_allocB ?_ (Nat.le_refl _) _ | refine below_setB ?_ (by first | omega | (have := HB6.out.size; omega) | (have := HB13.out.size; omega))))); (case n63 => unfold maxLen; omega); (case nb => omega); (case own => first | exact own_fresh 135 15 (by simp) (by first | omega | (have := HB6.out.size; omega)) | exact (own_fresh 135 15 (by simp) (by first | omega | (have := HB6.out.size; omega))).alloc _ | exact own_keepU (own_drew (own_fresh 135 15 (by simp) (by first | omega | (have := HB6.out.size; omega)))) HK6.out (by decide) | exact own_keepU (own_drew ((own_fresh 135 15 (by simp) (by first | omega | (have := HB6.out.size; omega))).alloc _)) HK6.out (by decide) | exact own_keepU (own_drew (((own_fresh 135 15 (by simp) (by first | omega | (have := HB6.out.size; omega))).alloc _).alloc _)) HK6.out (by decide) | exact (own_keepU (own_drew (own_fresh 135 15 (by simp) (by first | omega | (have := HB6.out.size; omega)))) HK6.out (by decide)).alloc _ | exact (own_keepU (own_drew ((own_fresh 135 15 (by simp) (by first | omega | (have := HB6.out.size; omega))).alloc _)) HK6.out (by decide)).alloc _ | exact (own_keepU (own_drew (((own_fresh 135 15 (by simp) (by first | omega | (have := HB6.out.size; omega))).alloc _).alloc _)) HK6.out (by decide)).alloc _); intro A13 c13 w13 hown hb hk; have I13 : Hid (w13.ownsRow wr.heap.size 3 1 (.slice A6 x.1.length c6) x.1.length (ivs x.1)) := Lib.hid (by first | exact own_keepT I6.out hk (by decide) | exact own_keepT (I6.out.alloc _) hk (by decide) | exact own_keepT ((I6.out.alloc _).alloc _) hk (by decide)); have F13 := Lib.hid hown; have HB13 := Lib.hid hb; (try (first | have hz7 := zero_cells (hk 163 _ _ (by decide) (Blk.new _ 163 _)) | have hz7 := zero_cells (hk 163 _ _ (by decide) ((Blk.new _ 163 _).alloc _)) | have hz7 := zero_cells (hk 163 _ _ (by decide) (HK6.out 163 _ _ (by decide) (Blk.drew (Blk.new _ 163 _)))) | have hz7 := zero_cells (hk 163 _ _ (by decide) (HK6.out 163 _ _ (by decide) (Blk.drew ((Blk.new _ 163 _).alloc _)))) | have hz7 := zero_cells (hk 163 _ _ (by decide) (HK6.out 163 _ _ (by decide) (Blk.drew (((Blk.new _ 163 _).alloc _).alloc _)))) | have hz7 := zero_cells (hk 163 _ _ (by decide) ((HK6.out 163 _ _ (by decide) (Blk.drew (Blk.new _ 163 _))).alloc _)) | have hz7 := zero_cells (hk 163 _ _ (by decide) ((HK6.out 163 _ _ (by decide) (Blk.drew ((Blk.new _ 163 _).alloc _))).alloc _)) | have hz7 := zero_cells (hk 163 _ _ (by decide) ((HK6.out 163 _ _ (by decide) (Blk.drew (((Blk.new _ 163 _).alloc _).alloc _))).alloc _)))); (try (simp only [size_alloc] at hz7; obtain ⟨z1, z2, z3, z4⟩ := hz7)); (try (first | have HB7 := Lib.hid (hk 163 _ _ (by decide) (Blk.new _ 163 _)) | have HB7 := Lib.hid (hk 163 _ _ (by decide) ((Blk.new _ 163 _).alloc _)) | have HB7 := Lib.hid (hk 163 _ _ (by decide) (HK6.out 163 _ _ (by decide) (Blk.drew (Blk.new _ 163 _)))) | have HB7 := Lib.hid (hk 163 _ _ (by decide) (HK6.out 163 _ _ (by decide) (Blk.drew ((Blk.new _ 163 _).alloc _)))) | have HB7 := Lib.hid (hk 163 _ _ (by decide) (HK6.out 163 _ _ (by decide) (Blk.drew (((Blk.new _ 163 _).alloc _).alloc _)))) | have HB7 := Lib.hid (hk 163 _ _ (by decide) ((HK6.out 163 _ _ (by decide) (Blk.drew (Blk.new _ 163 _))).alloc _)) | have HB7 := Lib.hid (hk 163 _ _ (by decide) ((HK6.out 163 _ _ (by decide) (Blk.drew ((Blk.new _ 163 _).alloc _))).alloc _)) | have HB7 := Lib.hid (hk 163 _ _ (by decide) ((HK6.out 163 _ _ (by decide) (Blk.drew (((Blk.new _ 163 _).alloc _).alloc _))).alloc _)))); (try simp only [size_alloc] at HB7); clear hown hb hk) | fail)
              all_goals
                refine ⟨rfl, ?_⟩
                unfold M14
                simp only [Act.put, List.setIfInBounds_toArray, List.set_cons_zero, List.set_cons_succ]
                refine ⟨_, A6, c6, A13, c13, _, _, _, _, _, _, _, _, _, _, _, _, _, _, _, Eq.refl _, ?_⟩
                first
                  | exact mid_end HB13.out (by first | omega | (have := HB6.out.size; omega)) HB7.out I13.out F13.out
                  | exact ⟨below_allocB HB13.out (Nat.le_refl _) _, HB13.out.size, Blk.new _ 163 _, I13.out.alloc _, F13.out.alloc _⟩
            case rest14 =>
              intro b7 A6 c6 A13 c13 d40 d41 d42 d43 d44 d45 d46 d47 d48 d49 d50 d51 d52 d53 d54 W hmid
              simp only [Act.put, List.setIfInBounds_toArray, List.set_cons_zero, List.set_cons_succ]
              have HMID := Lib.hid hmid
              have hz := hmid.below.size
              have HX : Blk W w.heap.size 41 #[.int .i64 kind, .int .i64 lvl, .slice (some ⟨b, o, none⟩) n cap, .slice fA fn fc] := hzi.out.o.x.below hmid.below hzi.out.o.x.lt
              have c0 : W.cell? ⟨w.heap.size, 0, none⟩ = some (.int .i64 kind) := HX.cell 0
              have c1 : W.cell? ⟨w.heap.size, 1, none⟩ = some (.int .i64 lvl) := HX.cell 1
              have c3 : W.cell? ⟨w.heap.size, 3, none⟩ = some (.slice fA fn fc) := HX.cell 3
              have d0 : W.cell? ⟨b7, 0, none⟩ = some (.slice A6 x.1.length c6) := hmid.blk.cell 0
              have d1 : W.cell? ⟨b7, 1, none⟩ = some (.slice A13 x.2.length c13) := hmid.blk.cell 1
              have H5W : Hid (Src W 15 (.slice fA fn fc) fs.length (vrows fs)) := Lib.hid (by
                have hk : ∀ k, k < B → W.heap[k]? = w.heap[k]? := fun k hk => (hmid.below.block k (by have := hzi.out.o.below.size; omega)).trans (hzi.out.o.below.block k (by omega))
                exact ((H5.out.vfs.keep fun k hk' => hk k hk').src fun c hc => (flok_pz H5.out c hc).fmd))
              clear hmid HSI HSF HB0 HSW HX hzi
              by_cases e2 : kind = 2
              · have g2 : (kind == 2) = true := by simpa using e2
                have HLM : Hid (lmap kind lvl fs x = (x.1 ++ [w8 lvl], x.2)) := Lib.hid (by simp [lmap, e2])
                clear e2
                go_wp2_with (at_builtin; refine wpList_appN row161 ?x1 (.tmp 60) (.tmp 65) ?x2 wr.heap.size (.slice A6 x.1.length c6) x.1.length (ivs x.1) ?hs ?own (.slice (some ⟨W.heap.size, 0, none⟩) 1 1) 1 (ivs [w8 lvl]) ?hx ?src ?n63 ?nb ?nbase ?_)
                case x1 => rfl
                case x2 => rfl
                case hs => rfl
                case hx => rfl
                case own => exact HMID.out.iv.alloc _
                case src => exact src_fresh rfl (by intro u hu; simp at hu; subst hu; rfl)
                case n63 => unfold maxLen; omega
                case nb => omega
                case nbase => simp; omega
                intro v' w2 hown hgr _
                obtain ⟨A', c', rfl⟩ := ownsRow_shape hown
                have hB2 := blk_grown ((HMID.out.blk).alloc _) (HMID.out.iv.alloc _) hgr (by decide)
                have HM2 := Lib.hid (HMID.out.levels ((Below.refl _ _).alloc (Nat.le_refl _) _) hgr hown)
                have s0 : w2.cell? ⟨b7, 0, none⟩ = some (.slice A6 x.1.length c6) := hB2.cell 0
                have s1 : w2.frozen? ⟨b7, 0, none⟩ = false := hB2.frozen 0
                clear hB2 hown hgr c0 c1 c3 d0 d1
                have t0 : (w2.setCell ⟨b7, 0, none⟩ (.slice A' (x.1.length + 1) c')).cell? ⟨b7, 0, none⟩ = some (.slice A' (x.1.length + 1) c') := HM2.out.blk.cell 0
                have t1 : (w2.setCell ⟨b7, 0, none⟩ (.slice A' (x.1.length + 1) c')).cell? ⟨b7, 1, none⟩ = some (.slice A13 x.2.length c13) := HM2.out.blk.cell 1
                go_wp2_with (at_builtin; refine wpList_appN row159 ?x1 (.tmp 77) (.tmp 79) ?x2 0 (.slice u3A R.length u3c) R.length (lrows R) ?hs ?own (.slice (some ⟨w2.heap.size, 0, none⟩) 1 1) 1 [.slice A' (x.1.length + 1) c', .slice A13 x.2.length c13] ?hx ?src ?n63 ?nb ?nbase ?_)
                case x1 => rfl
                case x2 => rfl
                case hs => rfl
                case hx => rfl
                case own => exact HOW.out _ (below_allocB HM2.out.below (Nat.le_refl _) _)
                case src => (have hs := src_fresh (W := w2.setCell ⟨b7, 0, none⟩ (.slice A' (x.1.length + 1) c')) (e := 163) (cs := #[.slice A' (x.1.length + 1) c', .slice A13 x.2.length c13]) (size := 2) (m := 1) rfl (by intro u hu; simp at hu; rcases hu with rfl | rfl <;> rfl); have hz9 : (w2.setCell ⟨b7, 0, none⟩ (.slice A' (x.1.length + 1) c')).heap.size = w2.heap.size := (by simp [World.setCell]); rw [hz9] at hs; exact hs)
                case n63 => exact (by have := HR63.out; unfold maxLen; omega)
                case nb => exact (by have := HR63.out; omega)
                case nbase => exact Nat.zero_le _
                intro u' w4 hown hgr hat
                obtain ⟨T', hzi'⟩ := HSTEP.out (w2.setCell ⟨b7, 0, none⟩ (.slice A' (x.1.length + 1) c')) w4 b7 _ _ u' (by have h := HM2.out; rw [HLM.out]; exact h) hown hgr (hat.imp id fun h => h.trans (by simp [World.setCell]))
                have HZ' := Lib.hid hzi'
                obtain ⟨uA', uc', rfl⟩ := ownsRow_shape hown
                clear hown hgr hat hzi' t0 t1 HSTEP HOW
                go_wp2_with fail
                go_roundw
                case rel => exact ⟨m + 1, T', by go_num, by omega, HZ'⟩
                case measure => simp [intOf]; omega

              · have g2 : (kind == 2) = false := by simpa using e2
                by_cases e34 : kind = 3
                · have g3 : (kind == 3) = true := by simpa using e34
                  have HLM : Hid (lmap kind lvl fs x = (x.1, x.2 ++ fs)) := Lib.hid (by simp [lmap, e34])
                  clear e2 e34
                  go_wp2_with (at_builtin; refine wpList_appN row39 ?x1 (.tmp 72) (.tmp 74) ?x2 wr.heap.size (.slice A13 x.2.length c13) x.2.length (vrows x.2) ?hs ?own (.slice fA fn fc) fs.length (vrows fs) ?hx ?src ?n63 ?nb ?nbase ?_)
                  case x1 => rfl
                  case x2 => rfl
                  case hs => rfl
                  case hx => rfl
                  case own => exact HMID.out.fv
                  case src => exact H5W.out
                  case n63 => exact (by have := H5L.out; unfold maxLen; omega)
                  case nb => exact (by have := H5L.out; omega)
                  case nbase => exact HMID.out.below.size
                  intro v' w2 hown hgr _
                  obtain ⟨A', c', rfl⟩ := ownsRow_shape hown
                  have hB2 := blk_grown HMID.out.blk HMID.out.fv hgr (by decide)
                  have HM2 := Lib.hid (HMID.out.fields (Below.refl _ _) hgr hown)
                  have s0 : w2.cell? ⟨b7, 1, none⟩ = some (.slice A13 x.2.length c13) := hB2.cell 1
                  have s1 : w2.frozen? ⟨b7, 1, none⟩ = false := hB2.frozen 1
                  clear hB2 hown hgr c0 c1 c3 d0 d1
                  have t0 : (w2.setCell ⟨b7, 1, none⟩ (.slice A' (x.2.length + fs.length) c')).cell? ⟨b7, 0, none⟩ = some (.slice A6 x.1.length c6) := HM2.out.blk.cell 0
                  have t1 : (w2.setCell ⟨b7, 1, none⟩ (.slice A' (x.2.length + fs.length) c')).cell? ⟨b7, 1, none⟩ = some (.slice A' (x.2.length + fs.length) c') := HM2.out.blk.cell 1
                  go_wp2_with (at_builtin; refine wpList_appN row159 ?x1 (.tmp 77) (.tmp 79) ?x2 0 (.slice u3A R.length u3c) R.length (lrows R) ?hs ?own (.slice (some ⟨w2.heap.size, 0, none⟩) 1 1) 1 [.slice A6 x.1.length c6, .slice A' (x.2.length + fs.length) c'] ?hx ?src ?n63 ?nb ?nbase ?_)
                  case x1 => rfl
                  case x2 => rfl
                  case hs => rfl
                  case hx => rfl
                  case own => exact HOW.out _ (below_allocB HM2.out.below (Nat.le_refl _) _)
                  case src => (have hs := src_fresh (W := w2.setCell ⟨b7, 1, none⟩ (.slice A' (x.2.length + fs.length) c')) (e := 163) (cs := #[.slice A6 x.1.length c6, .slice A' (x.2.length + fs.length) c']) (size := 2) (m := 1) rfl (by intro u hu; simp at hu; rcases hu with rfl | rfl <;> rfl); have hz9 : (w2.setCell ⟨b7, 1, none⟩ (.slice A' (x.2.length + fs.length) c')).heap.size = w2.heap.size := (by simp [World.setCell]); rw [hz9] at hs; exact hs)
                  case n63 => exact (by have := HR63.out; unfold maxLen; omega)
                  case nb => exact (by have := HR63.out; omega)
                  case nbase => exact Nat.zero_le _
                  intro u' w4 hown hgr hat
                  obtain ⟨T', hzi'⟩ := HSTEP.out (w2.setCell ⟨b7, 1, none⟩ (.slice A' (x.2.length + fs.length) c')) w4 b7 _ _ u' (by have h := HM2.out; rw [HLM.out]; exact h) hown hgr (hat.imp id fun h => h.trans (by simp [World.setCell]))
                  have HZ' := Lib.hid hzi'
                  obtain ⟨uA', uc', rfl⟩ := ownsRow_shape hown
                  clear hown hgr hat hzi' t0 t1 HSTEP HOW
                  go_wp2_with fail
                  go_roundw
                  case rel => exact ⟨m + 1, T', by go_num, by omega, HZ'⟩
                  case measure => simp [intOf]; omega
                by_cases e4 : kind = 4
                · have g3 : (kind == 3) = false := by simpa using e34
                  have g4 : (kind == 4) = true := by simpa using e4
                  have HLM : Hid (lmap kind lvl fs x = (x.1, x.2 ++ fs)) := Lib.hid (by simp [lmap, e4])
                  clear e2 e34 e4
                  go_wp2_with (at_builtin; refine wpList_appN row39 ?x1 (.tmp 72) (.tmp 74) ?x2 wr.heap.size (.slice A13 x.2.length c13) x.2.length (vrows x.2) ?hs ?own (.slice fA fn fc) fs.length (vrows fs) ?hx ?src ?n63 ?nb ?nbase ?_)
                  case x1 => rfl
                  case x2 => rfl
                  case hs => rfl
                  case hx => rfl
                  case own => exact HMID.out.fv
                  case src => exact H5W.out
                  case n63 => exact (by have := H5L.out; unfold maxLen; omega)
                  case nb => exact (by have := H5L.out; omega)
                  case nbase => exact HMID.out.below.size
                  intro v' w2 hown hgr _
                  obtain ⟨A', c', rfl⟩ := ownsRow_shape hown
                  have hB2 := blk_grown HMID.out.blk HMID.out.fv hgr (by decide)
                  have HM2 := Lib.hid (HMID.out.fields (Below.refl _ _) hgr hown)
                  have s0 : w2.cell? ⟨b7, 1, none⟩ = some (.slice A13 x.2.length c13) := hB2.cell 1
                  have s1 : w2.frozen? ⟨b7, 1, none⟩ = false := hB2.frozen 1
                  clear hB2 hown hgr c0 c1 c3 d0 d1
                  have t0 : (w2.setCell ⟨b7, 1, none⟩ (.slice A' (x.2.length + fs.length) c')).cell? ⟨b7, 0, none⟩ = some (.slice A6 x.1.length c6) := HM2.out.blk.cell 0
                  have t1 : (w2.setCell ⟨b7, 1, none⟩ (.slice A' (x.2.length + fs.length) c')).cell? ⟨b7, 1, none⟩ = some (.slice A' (x.2.length + fs.length) c') := HM2.out.blk.cell 1
                  go_wp2_with (at_builtin; refine wpList_appN row159 ?x1 (.tmp 77) (.tmp 79) ?x2 0 (.slice u3A R.length u3c) R.length (lrows R) ?hs ?own (.slice (some ⟨w2.heap.size, 0, none⟩) 1 1) 1 [.slice A6 x.1.length c6, .slice A' (x.2.length + fs.length) c'] ?hx ?src ?n63 ?nb ?nbase ?_)
                  case x1 => rfl
                  case x2 => rfl
                  case hs => rfl
                  case hx => rfl
                  case own => exact HOW.out _ (below_allocB HM2.out.below (Nat.le_refl _) _)
                  case src => (have hs := src_fresh (W := w2.setCell ⟨b7, 1, none⟩ (.slice A' (x.2.length + fs.length) c')) (e := 163) (cs := #[.slice A6 x.1.length c6, .slice A' (x.2.length + fs.length) c']) (size := 2) (m := 1) rfl (by intro u hu; simp at hu; rcases hu with rfl | rfl <;> rfl); have hz9 : (w2.setCell ⟨b7, 1, none⟩ (.slice A' (x.2.length + fs.length) c')).heap.size = w2.heap.size := (by simp [World.setCell]); rw [hz9] at hs; exact hs)
                  case n63 => exact (by have := HR63.out; unfold maxLen; omega)
                  case nb => exact (by have := HR63.out; omega)
                  case nbase => exact Nat.zero_le _
                  intro u' w4 hown hgr hat
                  obtain ⟨T', hzi'⟩ := HSTEP.out (w2.setCell ⟨b7, 1, none⟩ (.slice A' (x.2.length + fs.length) c')) w4 b7 _ _ u' (by have h := HM2.out; rw [HLM.out]; exact h) hown hgr (hat.imp id fun h => h.trans (by simp [World.setCell]))
                  have HZ' := Lib.hid hzi'
                  obtain ⟨uA', uc', rfl⟩ := ownsRow_shape hown
                  clear hown hgr hat hzi' t0 t1 HSTEP HOW
                  go_wp2_with fail
                  go_roundw
                  case rel => exact ⟨m + 1, T', by go_num, by omega, HZ'⟩
                  case measure => simp [intOf]; omega
                · have g3 : (kind == 3) = false := by simpa using e34
                  have g4 : (kind == 4) = false := by simpa using e4
                  have HLM : Hid (lmap kind lvl fs x = (x.1, x.2)) := Lib.hid (by simp [lmap, e2, e34, e4])
                  clear e2 e34 e4 d0 d1
                  have t0 : (W).cell? ⟨b7, 0, none⟩ = some (.slice A6 x.1.length c6) := HMID.out.blk.cell 0
                  have t1 : (W).cell? ⟨b7, 1, none⟩ = some (.slice A13 x.2.length c13) := HMID.out.blk.cell 1
                  go_wp2_with (at_builtin; refine wpList_appN row159 ?x1 (.tmp 77) (.tmp 79) ?x2 0 (.slice u3A R.length u3c) R.length (lrows R) ?hs ?own (.slice (some ⟨W.heap.size, 0, none⟩) 1 1) 1 [.slice A6 x.1.length c6, .slice A13 x.2.length c13] ?hx ?src ?n63 ?nb ?nbase ?_)
                  case x1 => rfl
                  case x2 => rfl
                  case hs => rfl
                  case hx => rfl
                  case own => exact HOW.out _ (below_allocB HMID.out.below (Nat.le_refl _) _)
                  case src => exact src_fresh rfl (by intro u hu; simp at hu; rcases hu with rfl | rfl <;> rfl)
                  case n63 => exact (by have := HR63.out; unfold maxLen; omega)
                  case nb => exact (by have := HR63.out; omega)
                  case nbase => exact Nat.zero_le _
                  intro u' w4 hown hgr hat
                  obtain ⟨T', hzi'⟩ := HSTEP.out (W) w4 b7 _ _ u' (by have h := HMID.out; rw [HLM.out]; exact h) hown hgr (hat.imp id fun h => h.trans (by simp))
                  have HZ' := Lib.hid hzi'
                  obtain ⟨uA', uc', rfl⟩ := ownsRow_shape hown
                  clear hown hgr hat hzi' t0 t1 HSTEP HOW
                  go_wp2_with fail
                  go_roundw
                  case rel => exact ⟨m + 1, T', by go_num, by omega, HZ'⟩
                  case measure => simp [intOf]; omega
          · have em : m = (zl (kids j)).length := by omega
            have hzo2 : ZoI w wr #[.int .i64 kind, .int .i64 lvl, .slice (some ⟨b, o, none⟩) n cap, .slice fA fn fc] T3 u3 (zpart kind lvl fs kids (j + 1)) := by
              have h := hzi.out.o
              rw [List.take_of_length_le (by omega), ← zpart_succ] at h
              exact h
            have HZO2 := Lib.hid hzo2
            have p1 : ¬ (m : Int) < ((zl (kids j)).length : Int) := by omega
            clear hzo2 hzi
            subst em
            go_wp2_with fail
            go_roundw
            case rel => exact ⟨j + 1, T3, by go_num, by omega, HZO2⟩
            case measure => simp [intOf]; omega
      · have ej : j = n := by omega
        subst ej
        have hout := hzo.out
        have HOUT := Lib.hid hout
        clear hout
        go_wp2_with fail
        go_ret
        exact ⟨_, T, rfl, by rw [HZ.out]; exact HOUT.out.out, fun k hk => ⟨by have := (HOUT.out.t k hk).1; omega, (HOUT.out.t k hk).2⟩, HOUT.out.below⟩
end Go.Proofs.Zap
