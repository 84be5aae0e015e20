/- a text of the claims over the seat; its order and aim: NOTES.md -/
import Derived.Test.YtpllbhobcnglnaaGreatDoorZS4
namespace Go.Proofs.Zap
open Go Go.Proofs Go.RowKit

theorem init_done (Z : Nat) (vy vo g : Value) (w : World) (hb : Blk w Z 326 #[vy, vo, .bool true, g]) : Calls Tryz.prog 421 #[.pointer (some ⟨Z, 0, none⟩)] w fun e w' => e = .returned (.tuple #[]) ∧ w' = w := by
  have c2 : w.cell? ⟨Z, 2, none⟩ = some (.bool true) := hb.cell 2
  clear hb
  go_enter Tryz.func421, Tryz.ntmps421
  go_wp2_with fail
  first | go_end0 | refine bodyPost_ret (results_none rfl _ _ _) rfl ?_
  exact ⟨rfl, rfl⟩

/-- what stands behind initOnce, fresh or not -/
def Ini (w : World) (N Z : Nat) (S S1 : Nat → Prop) (K : KT FC) (gs : List FC) (vo g : Value) (w' : World) : Prop :=
  Kept (fun k => S1 k ∨ k = Z) w w' ∧ RepE w' N K S1 vo ∧ ∃ vy S2, Blk w' Z 326 #[vy, vo, .bool true, g] ∧ (∀ k, S2 k → S k ∨ NewB w w' k) ∧ ¬ S2 Z ∧ (∀ k, S2 k → ¬ S1 k) ∧ RepF w' N (withF gs K) S2 vy

theorem ini_any (N Z m : Nat) (S S1 SG : Nat → Prop) (K : KT FC) (gs : List FC) (vo g : Value) (w : World) (hS : ∀ k, S k → k < w.heap.size) (hZ : S Z) (h1 : ∀ k, S1 k → S k) (h2 : ∀ k, SG k → S k) (h3 : ¬ S1 Z) (h4 : ¬ SG Z) (h5 : ∀ k, SG k → ¬ S1 k)
    (hfl : fl (.lazy K gs) m) (hm : m ≤ 1000000)
    (h : (Blk w Z 326 #[.nilIface, vo, .bool false, g] ∧ RepU w N K S1 vo ∧ GFs w SG gs g) ∨ ∃ vy, ∃ S2 : Nat → Prop, Blk w Z 326 #[vy, vo, .bool true, g] ∧ RepE w N K S1 vo ∧ (∀ j, S2 j → S j) ∧ ¬ S2 Z ∧ (∀ j, S2 j → ¬ S1 j) ∧ RepF w N (withF gs K) S2 vy) :
    Calls Tryz.prog 421 #[.pointer (some ⟨Z, 0, none⟩)] w fun e w' => e = .returned (.tuple #[]) ∧ Ini w N Z S S1 K gs vo g w' := by
  rcases h with ⟨a1, a2, hg⟩ | ⟨vy, S2, a1, a2, a3, a4, a5, a6⟩
  · refine (init_any True N Z S1 SG K gs vo g (m - gs.length) w (wc_U N K) a2 (fun k hk => hS k (h1 k hk)) hg (fun k hk => ⟨hS k (h2 k hk), h5 k hk, fun e => h4 (e ▸ hk)⟩) h3 hfl.2 (by have := hfl.1; omega) a1).mono ?_
    rintro e w' ⟨rfl, vy, hr, hk, he, hb⟩
    exact ⟨rfl, hk, he, vy, NewB w w', hb, fun k hk => .inr hk, fun h => by have := h.1; have := hS Z hZ; omega, fun k hk h => by have := hk.1; have := hS k (h1 k h); omega, hr⟩
  · refine (init_done Z vy vo g w a1).mono ?_
    rintro e w' ⟨rfl, rfl⟩
    exact ⟨rfl, Kept.refl _ _, a2, vy, S2, a1, fun k hk => .inl (a3 k hk), a4, a5, a6⟩

/-- what a lazy core's Check reads ahead -/
abbrev LzS (w' : World) (Z X : Nat) (vo : Value) (l : Int) : Prop := w'.cell? ⟨Z, 1, none⟩ = some vo ∧ w'.cell? ⟨X, 0, none⟩ = some (.int .i8 l)

set_option maxRecDepth 100000 in
set_option maxHeartbeats 8000000 in
theorem ck_lazy (N : Nat) (K : KT FC) (gs : List FC) (ih : CK N (withF gs K)) : CK N (.lazy K gs) := by
  intro S v w Q e l p Ls m h hS hQ hSQ hce hfl hm hn
  have hh := h
  obtain ⟨Z, vo, g, S1, SG, rfl, h2, h3, h4, h5, h6, h7, h10⟩ := h
  refine ⟨324, _, 416, _, rfl, nlCZ _ _, mtCZ _ w, cf416, ?_⟩
  have hZw := hS Z h2
  have hX : Blk (w.alloc (.cells (e.arr l) 156)) w.heap.size 156 (e.arr l) := Blk.new w 156 _
  have hE : RepE w N K S1 vo := by
    rcases h10 with ⟨_, a2, _⟩ | ⟨_, _, _, a2, _⟩
    · exact RepG.weaken (fun _ => trivial) (fun _ _ _ h => h.elim) a2
    · exact a2
  have hbZ : ∃ x y, Blk w Z 326 #[x, vo, y, g] := by
    rcases h10 with ⟨a1, _⟩ | ⟨_, _, a1, _⟩
    · exact ⟨_, _, a1⟩
    · exact ⟨_, _, a1⟩
  obtain ⟨bx, by', hbZ⟩ := hbZ
  have hsz : (w.alloc (.cells (e.arr l) 156)).drew.heap.size = w.heap.size + 1 := by show (w.alloc (.cells (e.arr l) 156)).heap.size = _; simp
  have hinv := en_rep l K (RepG.keep (Y' := fun _ _ _ => True) (w' := (w.alloc (.cells (e.arr l) 156)).drew) (fun _ _ _ _ _ => trivial) hE fun k hk => heap_alloc_old w _ (hS k (h3 k hk))) (fun k hk => by rw [hsz]; have := hS k (h3 k hk); omega)
  unfold Says at hinv
  rw [hsz] at hinv
  obtain ⟨t, q, f1, r, o, rfl, i1, i2, i3, i5, i4⟩ := hinv
  have io : o = none ∨ o = some false := by rcases o with _ | _ | _ <;> simp at i2 ⊢
  have hkS : ∀ w', Below (w.heap.size + 1) (w.alloc (.cells (e.arr l) 156)).drew w' → ∀ k, k < w.heap.size → w'.heap[k]? = w.heap[k]? := fun w' hb k hk => (hb.block k (by omega)).trans (heap_alloc_old w _ hk)
  have hkX : ∀ w', Below (w.heap.size + 1) (w.alloc (.cells (e.arr l) 156)).drew w' → Blk w' w.heap.size 156 (e.arr l) := fun w' hb => (hb.block _ (by omega)).trans hX
  have hs0 : LzS (w.alloc (.cells (e.arr l) 156)) Z w.heap.size (.iface t q) l := ⟨(hbZ.alloc _).cell 1, hX.cell 0⟩
  have hs1 : ∀ w', Below (w.heap.size + 1) (w.alloc (.cells (e.arr l) 156)).drew w' → LzS w' Z w.heap.size (.iface t q) l := fun w' hb => ⟨Blk.cell ((hkS w' hb Z hZw).trans hbZ) 1, (hkX w' hb).cell 0⟩
  have I4 := Lib.hid i4
  have HH := Lib.hid hh
  have H3 := Lib.hid h3
  have H4 := Lib.hid h4
  have H7 := Lib.hid h7
  have H10 := Lib.hid h10
  have HCE := Lib.hid hce
  have HKS := Lib.hid hkS
  have HKX := Lib.hid hkX
  have HS0 := Lib.hid hs0
  have HS1 := Lib.hid hs1
  have HSS := Lib.hid hS
  have HQQ := Lib.hid hQ
  have HSQ := Lib.hid hSQ
  have HFL := Lib.hid hfl
  have HN := Lib.hid hn
  have HIH := Lib.hid ih
  clear hh h3 h4 h7 h10 hce hkS hkX hs0 hs1 hX hS hQ hSQ hE hbZ i4 i2 hfl hn ih
  unfold EV.arr at *
  rcases io with rfl | rfl
  all_goals
    go_enter Tryz.func416, Tryz.ntmps416
    go_wp2_with fail
    go_region_held3 (fun w' => LzS w' Z w.heap.size (.iface t q) l) (first | exact HS0.out | exact HS1.out _ hb1) ((refine I4.out.mono ?_; rintro en w1 ⟨rfl, hb1⟩))
    all_goals
      have hs1 : w.heap.size + 1 ≤ w1.heap.size := by have := hb1.size; rw [hsz] at this; exact this
      have HB1 := Lib.hid hb1
      clear hb1 I4 i1 i3
      rcases hen : enK K l with _ | _
      · go_wp2_with fail
        go_ret
        have hkS : ∀ k, k < w.heap.size → w1.heap[k]? = w.heap[k]? := HKS.out _ HB1.out
        refine ⟨p, Q, S, [], rfl, by simpa using HCE.out.keep fun k hk => hkS k (HQQ.out k hk), HH.out.keep fun k hk => hkS k (HSS.out k hk), fun k hk => .inl hk, fun k hk => .inl hk, HSQ.out, ⟨HB1.out.os, HB1.out.tape, HB1.out.output, by omega, fun k hk _ => hkS k hk⟩, ?_⟩
        have : wrK (.lazy K gs) l = [] := by simp [wrK, hen]
        rw [this]
        exact Leaves.nil _ _ _
      · have hini := ini_any N Z m S S1 SG K gs (.iface t q) g w1 (fun k hk => by have := HSS.out k hk; omega) h2 H3.out H4.out h5 h6 H7.out HFL.out hm (by
          rcases H10.out with ⟨a1, a2, a3⟩ | ⟨vy, S2, a1, a2, a3, a4, a5, a6⟩
          · exact .inl ⟨(HKS.out w1 HB1.out Z hZw).trans a1, a2.keep (fun k hk => HKS.out w1 HB1.out k (HSS.out k (H3.out k hk))), a3.keep fun k hk => HKS.out w1 HB1.out k (HSS.out k (H4.out k hk))⟩
          · exact .inr ⟨vy, S2, (HKS.out w1 HB1.out Z hZw).trans a1, RepG.keep (fun _ _ _ _ h => h) a2 fun k hk => HKS.out w1 HB1.out k (HSS.out k (H3.out k hk)), a3, a4, a5, a6.keep fun k hk => HKS.out w1 HB1.out k (HSS.out k (a3 k hk))⟩)
        have HINI := Lib.hid hini
        clear hini
        go_wp2_with fail
        refine HINI.out.mono ?_
        rintro en w2 ⟨rfl, hk2, he2, vy, S2, hb2, hs2, hz2, hd2, hr2⟩
        have hw2 : w1.heap.size ≤ w2.heap.size := hk2.size
        have hX2 : Blk w2 w.heap.size 156 (e.arr l) := (hk2.block _ (by omega) (fun h => h.elim (fun h => by have := HSS.out _ (H3.out _ h); omega) (by omega))).trans (HKX.out w1 HB1.out)
        have hS2w : ∀ k, S2 k → k < w2.heap.size := fun k hk => by
          rcases hs2 k hk with h | h
          · have := HSS.out k h; omega
          · exact h.2
        have hS2Q : ∀ k, S2 k → ¬ Q k := fun k hk hq => by
          rcases hs2 k hk with h | h
          · exact HSQ.out k h hq
          · have := HQQ.out k hq; have := h.1; omega
        have hQk : ∀ k, Q k → w2.heap[k]? = w.heap[k]? := fun k hq => (hk2.block k (by have := HQQ.out k hq; omega) (fun h => h.elim (fun h => HSQ.out k (H3.out k h) hq) (fun h => HSQ.out k (h ▸ h2) hq))).trans (HKS.out w1 HB1.out k (HQQ.out k hq))
        have hcall := HIH.out S2 vy w2.drew Q e l p Ls m (RepR.keep hr2.toR fun _ _ => rfl) hS2w (fun k hq => by show k < w2.heap.size; have := HQQ.out k hq; omega) hS2Q (HCE.out.keep hQk) (fl_mono (fl_withF HFL.out.2) (by have := HFL.out.1; omega)) hm (by rw [lvs_withF]; exact HN.out)
        obtain ⟨t2, q2, f2, r2, rfl, i1, i3, i5', i4⟩ := hcall
        have z0 : w2.cell? ⟨Z, 0, none⟩ = some (.iface t2 q2) := hb2.cell 0
        obtain ⟨y0, y1, y2, y3, y4, y5, y6, y7, y8, y9, y10, y11, y12⟩ := entS hX2
        have HE1 : Hid (EntS w2 w.heap.size e l) := Lib.hid ⟨y0, y1, y2, y3, y4, y5, y6, y7, y8, y9, y10, y11, y12⟩
        have hfin : ∀ w3, Kept (fun k => S2 k ∨ Q k) w2.drew w3 → (w3.cell? ⟨Z, 0, none⟩ = some (.iface t2 q2) ∧ EntS w3 w.heap.size e l) := fun w3 hk => by
          have hbI : Blk w3 Z 326 #[.iface t2 q2, .iface t q, .bool true, g] := (hk.block Z (show Z < w2.heap.size by omega) (fun h => h.elim hz2 (HSQ.out Z h2))).trans hb2
          have hbX : Blk w3 w.heap.size 156 (e.arr l) := (hk.block _ (show w.heap.size < w2.heap.size by omega) (fun h => h.elim (fun h => by
            rcases hs2 _ h with h | h
            · have := HSS.out _ h; omega
            · have h1 : w1.heap.size ≤ w.heap.size := h.1; omega) (fun h => by have := HQQ.out _ h; omega))).trans hX2
          exact ⟨hbI.cell 0, entS hbX⟩
        have HFIN := Lib.hid hfin
        have I4 := Lib.hid i4
        have HK2 := Lib.hid hk2
        have HE2 := Lib.hid he2
        have HS2 := Lib.hid hs2
        have HD2 := Lib.hid hd2
        have HBZ := Lib.hid hb2
        have HS2Q := Lib.hid hS2Q
        have HS2W := Lib.hid hS2w
        clear hk2 he2 hs2 hb2 hd2 hr2 hX2 hS2w hS2Q hQk hfin i4 HINI
        go_wp2_with fail
        go_region_held3 (fun w' => w'.cell? ⟨Z, 0, none⟩ = some (.iface t2 q2) ∧ EntS w' w.heap.size e l) (first | exact ⟨z0, HE1.out⟩ | exact HFIN.out _ b6) ((refine I4.out.mono ?_; rintro en w3 ⟨p', Q', S', Ms, rfl, b1, b2, b3, b4, b5, b6, b7⟩))
        all_goals
          have B1 := Lib.hid b1
          have B2 := Lib.hid b2
          have B3 := Lib.hid b3
          have B4 := Lib.hid b4
          have B5 := Lib.hid b5
          have B6 := Lib.hid b6
          have B7 := Lib.hid b7
          clear b1 b2 b3 b4 b5 b6 b7 y0 y1 y2 y3 y4 y5 y6 y7 y8 y9 y10 y11 y12 z0 i1 i3 I4 HFIN
          go_wp2_with fail
          go_ret
          have hw3 : w2.heap.size ≤ w3.heap.size := B6.out.size
          have hkOld : ∀ k, k < w2.heap.size → ¬ S2 k → ¬ Q k → w3.heap[k]? = w2.heap[k]? := fun k a b c => B6.out.block k a fun h => h.elim b c
          have hZ3 : w3.heap[Z]? = w2.heap[Z]? := hkOld Z (by omega) hz2 (HSQ.out Z h2)
          have hnS' : ∀ k, k < w.heap.size → S' k → S2 k := fun k hk h => by
            rcases B3.out k h with h | h
            · exact h
            · have h1 : w2.heap.size ≤ k := h.1; omega
          refine ⟨p', Q', fun k => S' k ∨ S1 k ∨ SG k ∨ k = Z, Ms, rfl, B1.out, ⟨Z, _, g, S1, SG, rfl, .inr (.inr (.inr rfl)), fun k hk => .inr (.inl hk), fun k hk => .inr (.inr (.inl hk)), h5, h6, H7.out, .inr ⟨_, S', hZ3.trans HBZ.out, ?_, fun k hk => .inl hk, fun h => hz2 (hnS' Z hZw h), ?_, B2.out.toF (lf_withF K gs)⟩⟩, fun k hk => ?_, fun k hk => ?_, fun k hk hq => ?_, ?_, ?_⟩
          · refine RepG.keep (fun _ _ _ _ h => h) HE2.out fun k hk => hkOld k (by have := HSS.out k (H3.out k hk); omega) (fun h => HD2.out k h hk) (HSQ.out k (H3.out k hk))
          · intro k hk hk1
            exact HD2.out k (hnS' k (HSS.out k (H3.out k hk1)) hk) hk1
          · rcases hk with hk | hk | hk | rfl
            · rcases B3.out k hk with h | h
              · rcases HS2.out k h with h | h
                · exact .inl h
                · exact .inr ⟨by have h1 : w1.heap.size ≤ k := h.1; omega, by have := h.2; omega⟩
              · exact .inr ⟨by have h1 : w2.heap.size ≤ k := h.1; omega, h.2⟩
            · exact .inl (H3.out k hk)
            · exact .inl (H4.out k hk)
            · exact .inl h2
          · rcases B4.out k hk with h | h
            · exact .inl h
            · exact .inr ⟨by have h1 : w2.heap.size ≤ k := h.1; omega, h.2⟩
          · have hold : ∀ k, S k → Q' k → False := fun k hk hq => by
              rcases B4.out k hq with h | h
              · exact HSQ.out k hk h
              · have h1 : w2.heap.size ≤ k := h.1; have := HSS.out k hk; omega
            rcases hk with hk | hk | hk | rfl
            · exact B5.out k hk hq
            · exact hold k (H3.out k hk) hq
            · exact hold k (H4.out k hk) hq
            · exact hold _ h2 hq
          · refine ⟨(B6.out.os.trans HK2.out.os).trans HB1.out.os, (B6.out.tape.trans HK2.out.tape).trans HB1.out.tape, (B6.out.output.trans HK2.out.output).trans HB1.out.output, by omega, fun k hk hns => ?_⟩
            refine (hkOld k (by omega) (fun h => ?_) (fun h => hns (.inr h))).trans ((HK2.out.block k (by omega) (fun h => hns (.inl (h.elim (H3.out k) (fun e => e ▸ h2))))).trans (HKS.out w1 HB1.out k hk))
            rcases HS2.out k h with h | h
            · exact hns (.inl h)
            · have h1 : w1.heap.size ≤ k := h.1; omega
          · have hw : wrK (.lazy K gs) l = wrK (withF gs K) l := by rw [wrK_withF]; simp [wrK, hen]
            rw [hw]
            exact B7.out.mono fun k hk => .inl hk

/-- Check of a built core -/
theorem ck_free (N : Nat) (K : KT FC) : lf K → CK N K := by
  induction K with
  | leaf lvl num fs => intro _; exact ck_leaf N lvl num fs
  | nop => intro _; exact ck_nop N
  | tee n kids ih =>
    intro h
    exact ck_tee N n kids fun i hi => ih i (h i hi)
  | incr lvl k ih => intro h; exact ck_incr N lvl k (ih h)
  | lazy k gs ih => intro h; exact h.elim
theorem ck_any (N : Nat) (K : KT FC) : CK N K := by
  induction K with
  | leaf lvl num fs => exact ck_leaf N lvl num fs
  | nop => exact ck_nop N
  | tee n kids ih => exact ck_tee N n kids fun i _ => ih i
  | incr lvl k ih => exact ck_incr N lvl k ih
  | lazy k gs ih => exact ck_lazy N k gs (ck_free N (withF gs k) (lf_withF k gs))
end Go.Proofs.Zap
