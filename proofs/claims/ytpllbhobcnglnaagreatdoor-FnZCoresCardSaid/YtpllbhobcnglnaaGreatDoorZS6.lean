/- a text of the claims over the seat; its order and aim: NOTES.md -/
import Derived.Test.YtpllbhobcnglnaaGreatDoorZS4
namespace Go.Proofs.Zap
open Go Go.Proofs Go.RowKit

theorem init_done (Z : Nat) (vy vo g : Value) (w : World) (hb : Blk w Z 326 #[vy, vo, .bool true, g]) : Calls Tryz.prog 421 #[.pointer (some ⟨Z, 0, none⟩)] w fun e w' => e = .returned (.tuple #[]) ∧ w' = w := by
  have c2 : w.cell? ⟨Z, 2, none⟩ = some (.bool true) := hb.cell 2
  clear hb
  go_enter Tryz.func421, Tryz.ntmps421
  go_wp2_with fail
  first | go_end0 | refine bodyPost_ret (results_none rfl _ _ _) rfl ?_
  exact ⟨rfl, rfl⟩

/-- what stands behind initOnce, fresh or not -/
def Ini (w : World) (N Z : Nat) (S S1 : Nat → Prop) (K : KT FC) (gs : List FC) (vo g : Value) (w' : World) : Prop :=
  Kept (fun k => S1 k ∨ k = Z) w w' ∧ RepE w' N K S1 vo ∧ ∃ vy S2, Blk w' Z 326 #[vy, vo, .bool true, g] ∧ (∀ k, S2 k → S k ∨ NewB w w' k) ∧ ¬ S2 Z ∧ (∀ k, S2 k → ¬ S1 k) ∧ RepF w' N (withF gs K) S2 vy

theorem ini_any (N Z m : Nat) (S S1 SG : Nat → Prop) (K : KT FC) (gs : List FC) (vo g : Value) (w : World) (hS : ∀ k, S k → k < w.heap.size) (hZ : S Z) (h1 : ∀ k, S1 k → S k) (h2 : ∀ k, SG k → S k) (h3 : ¬ S1 Z) (h4 : ¬ SG Z) (h5 : ∀ k, SG k → ¬ S1 k)
    (hfl : fl (.lazy K gs) m) (hm : m ≤ 1000000)
    (h : (Blk w Z 326 #[.nilIface, vo, .bool false, g] ∧ RepU w N K S1 vo ∧ GFs w SG gs g) ∨ ∃ vy, ∃ S2 : Nat → Prop, Blk w Z 326 #[vy, vo, .bool true, g] ∧ RepE w N K S1 vo ∧ (∀ j, S2 j → S j) ∧ ¬ S2 Z ∧ (∀ j, S2 j → ¬ S1 j) ∧ RepF w N (withF gs K) S2 vy) :
    Calls Tryz.prog 421 #[.pointer (some ⟨Z, 0, none⟩)] w fun e w' => e = .returned (.tuple #[]) ∧ Ini w N Z S S1 K gs vo g w' := by
  rcases h with ⟨a1, a2, hg⟩ | ⟨vy, S2, a1, a2, a3, a4, a5, a6⟩
  · refine (init_any True N Z S1 SG K gs vo g (m - gs.length) w (wc_U N K) a2 (fun k hk => hS k (h1 k hk)) hg (fun k hk => ⟨hS k (h2 k hk), h5 k hk, fun e => h4 (e ▸ hk)⟩) h3 hfl.2 (by have := hfl.1; omega) a1).mono ?_
    rintro e w' ⟨rfl, vy, hr, hk, he, hb⟩
    exact ⟨rfl, hk, he, vy, NewB w w', hb, fun k hk => .inr hk, fun h => by have := h.1; have := hS Z hZ; omega, fun k hk h => by have := hk.1; have := hS k (h1 k h); omega, hr⟩
  · refine (init_done Z vy vo g w a1).mono ?_
    rintro e w' ⟨rfl, rfl⟩
    exact ⟨rfl, Kept.refl _ _, a2, vy, S2, a1, fun k hk => .inl (a3 k hk), a4, a5, a6⟩

/-- what a lazy core's Check reads ahead -/
abbrev LzS (w' : World) (Z X : Nat) (vo : Value) (l : Int) : Prop := w'.cell? ⟨Z, 1, none⟩ = some vo ∧ w'.cell? ⟨X, 0, none⟩ = some (.int .i8 l)

set_option maxRecDepth 100000 in
set_option maxHeartbeats 8000000 in
theorem ck_lazy (N : Nat) (K : KT FC) (gs : List FC) (ih : CK N (withF gs K)) : CK N (.lazy K gs) := by
  intro S v w Q e l p Ls m h hS hQ hSQ hce hfl hm hn
  have hh := h
  obtain ⟨Z, vo, g, S1, SG, rfl, h2, h3, h4, h5, h6, h7, h10⟩ := h
  refine ⟨324, _, 416, _, rfl, nlCZ _ _, mtCZ _ w, cf416, ?_⟩
  have hZw := hS Z h2
  have hX : Blk (w.alloc (.cells (e.arr l) 156)) w.heap.size 156 (e.arr l) := Blk.new w 156 _
  have hE : RepE w N K S1 vo := by
    rcases h10 with ⟨_, a2, _⟩ | ⟨_, _, _, a2, _⟩
    · exact RepG.weaken (fun _ => trivial) (fun _ _ _ h => h.elim) a2
    · exact a2
  have hbZ : ∃ x y, Blk w Z 326 #[x, vo, y, g] := by
    rcases h10 with ⟨a1, _⟩ | ⟨_, _, a1, _⟩
    · exact ⟨_, _, a1⟩
    · exact ⟨_, _, a1⟩
  obtain ⟨bx, by', hbZ⟩ := hbZ
  have hsz : (w.alloc (.cells (e.arr l) 156)).drew.heap.size = w.heap.size + 1 := by show (w.alloc (.cells (e.arr l) 156)).heap.size = _; simp
  have hinv := en_rep l K (RepG.keep (Y' := fun _ _ _ => True) (w' := (w.alloc (.cells (e.arr l) 156)).drew) (fun _ _ _ _ _ => trivial) hE fun k hk => heap_alloc_old w _ (hS k (h3 k hk))) (fun k hk => by rw [hsz]; have := hS k (h3 k hk); omega)
  unfold Says at hinv
  rw [hsz] at hinv
  obtain ⟨t, q, f1, r, o, rfl, i1, i2, i3, i5, i4⟩ := hinv
  have io : o = none ∨ o = some false := by rcases o with _ | _ | _ <;> simp at i2 ⊢
  have hkS : ∀ w', Below (w.heap.size + 1) (w.alloc (.cells (e.arr l) 156)).drew w' → ∀ k, k < w.heap.size → w'.heap[k]? = w.heap[k]? := fun w' hb k hk => (hb.block k (by omega)).trans (heap_alloc_old w _ hk)
  have hkX : ∀ w', Below (w.heap.size + 1) (w.alloc (.cells (e.arr l) 156)).drew w' → Blk w' w.heap.size 156 (e.arr l) := fun w' hb => (hb.block _ (by omega)).trans hX
  have hs0 : LzS (w.alloc (.cells (e.arr l) 156)) Z w.heap.size (.iface t q) l := ⟨(hbZ.alloc _).cell 1, hX.cell 0⟩
  have hs1 : ∀ w', Below (w.heap.size + 1) (w.alloc (.cells (e.arr l) 156)).drew w' → LzS w' Z w.heap.size (.iface t q) l := fun w' hb => ⟨Blk.cell ((hkS w' hb Z hZw).trans hbZ) 1, (hkX w' hb).cell 0⟩
  have I4 := Lib.hid i4
  have HH := Lib.hid hh
  have H3 := Lib.hid h3
  have H4 := Lib.hid h4
  have H7 := Lib.hid h7
  have H10 := Lib.hid h10
  have HCE := Lib.hid hce
  have HKS := Lib.hid hkS
  have HKX := Lib.hid hkX
  have HS0 := Lib.hid hs0
  have HS1 := Lib.hid hs1
  have HSS := Lib.hid hS
  have HQQ := Lib.hid hQ
  have HSQ := Lib.hid hSQ
  have HFL := Lib.hid hfl
  have HN := Lib.hid hn
  have HIH := Lib.hid ih
  clear hh h3 h4 h7 h10 hce hkS hkX hs0 hs1 hX hS hQ hSQ hE hbZ i4 i2 hfl hn ih
  unfold EV.arr at *
  rcases io with rfl | rfl
  all_goals
    go_enter Tryz.func416, Tryz.ntmps416
    go_wp2_with fail
    go_region_held3 (fun w' => LzS w' Z w.heap.size (.iface t q) l) (first | exact HS0.out | exact HS1.out _ hb1) ((refine I4.out.mono ?_; rintro en w1 ⟨rfl, hb1⟩))
    all_goals
      have hs1 : w.heap.size + 1 ≤ w1.heap.size := by have := hb1.size; rw [hsz] at this; exact this
      have HB1 := Lib.hid hb1
      clear hb1 I4 i1 i3
      rcases hen : enK K l with _ | _
      · go_wp2_with fail
        go_ret
        have hkS : ∀ k, k < w.heap.size → w1.heap[k]? = w.heap[k]? := HKS.out _ HB1.out
        refine ⟨p, Q, S, [], rfl, by simpa using HCE.out.keep fun k hk => hkS k (HQQ.out k hk), HH.out.keep fun k hk => hkS k (HSS.out k hk), fun k hk => .inl hk, fun k hk => .inl hk, HSQ.out, ⟨HB1.out.os, HB1.out.tape, HB1.out.output, by omega, fun k hk _ => hkS k hk⟩, ?_⟩
        have : wrK (.lazy K gs) l = [] := by simp [wrK, hen]
        rw [this]
        exact Leaves.nil _ _ _
      · have hini := ini_any N Z m S S1 SG K gs (.iface t q) g w1 (fun k hk => by have := HSS.out k hk; omega) h2 H3.out H4.out h5 h6 H7.out HFL.out hm (by
          rcases H10.out with ⟨a1, a2, a3⟩ | ⟨vy, S2, a1, a2, a3, a4, a5, a6⟩
          · exact .inl ⟨(HKS.out w1 HB1.out Z hZw).trans a1, a2.keep (fun k hk => HKS.out w1 HB1.out k (HSS.out k (H3.out k hk))), a3.keep fun k hk => HKS.out w1 HB1.out k (HSS.out k (H4.out k hk))⟩
          · exact .inr ⟨vy, S2, (HKS.out w1 HB1.out Z hZw).trans a1, RepG.keep (fun _ _ _ _ h => h) a2 fun k hk => HKS.out w1 HB1.out k (HSS.out k (H3.out k hk)), a3, a4, a5, a6.keep fun k hk => HKS.out w1 HB1.out k (HSS.out k (a3 k hk))⟩)
        have HINI := Lib.hid hini
        clear hini
        go_wp2_with fail
        refine HINI.out.mono ?_
        rintro en w2 ⟨rfl, hk2, he2, vy, S2, hb2, hs2, hz2, hd2, hr2⟩
        have hw2 : w1.heap.size ≤ w2.heap.size := hk2.size
        have hX2 : Blk w2 w.heap.size 156 (e.arr l) := (hk2.block _ (by omega) (fun h => h.elim (fun h => by have := HSS.out _ (H3.out _ h); omega) (by omega))).trans (HKX.out w1 HB1.out)
        have hS2w : ∀ k, S2 k → k < w2.heap.size := fun k hk => by
          rcases hs2 k hk with h | h
          · have := HSS.out k h; omega
          · exact h.2
        have hS2Q : ∀ k, S2 k → ¬ Q k := fun k hk hq => by
          rcases hs2 k hk with h | h
          · exact HSQ.out k h hq
          · have := HQQ.out k hq; have := h.1; omega
        have hQk : ∀ k, Q k → w2.heap[k]? = w.heap[k]? := fun k hq => (hk2.block k (by have := HQQ.out k hq; omega) (fun h => h.elim (fun h => HSQ.out k (H3.out k h) hq) (fun h => HSQ.out k (h ▸ h2) hq))).trans (HKS.out w1 HB1.out k (HQQ.out k hq))
        have hcall := HIH.out S2 vy w2.drew Q e l p Ls m (RepR.keep hr2.toR fun _ _ => rfl) hS2w (fun k hq => by show k < w2.heap.size; have := HQQ.out k hq; omega) hS2Q (HCE.out.keep hQk) (fl_mono (fl_withF HFL.out.2) (by have := HFL.out.1; omega)) hm (by rw [lvs_withF]; exact HN.out)
        obtain ⟨t2, q2, f2, r2, rfl, i1, i3, i5', i4⟩ := hcall
        have z0 : w2.cell? ⟨Z, 0, none⟩ = some (.iface t2 q2) := hb2.cell 0
        obtain ⟨y0, y1, y2, y3, y4, y5, y6, y7, y8, y9, y10, y11, y12⟩ := entS hX2
        have HE1 : Hid (EntS w2 w.heap.size e l) := Lib.hid ⟨y0, y1, y2, y3, y4, y5, y6, y7, y8, y9, y10, y11, y12⟩
        have hfin : ∀ w3, Kept (fun k => S2 k ∨ Q k) w2.drew w3 → (w3.cell? ⟨Z, 0, none⟩ = some (.iface t2 q2) ∧ EntS w3 w.heap.size e l) := fun w3 hk => by
          have hbI : Blk w3 Z 326 #[.iface t2 q2, .iface t q, .bool true, g] := (hk.block Z (show Z < w2.heap.size by omega) (fun h => h.elim hz2 (HSQ.out Z h2))).trans hb2
          have hbX : Blk w3 w.heap.size 156 (e.arr l) := (hk.block _ (show w.heap.size < w2.heap.size by omega) (fun h => h.elim (fun h => by
            rcases hs2 _ h with h | h
            · have := HSS.out _ h; omega
            · have h1 : w1.heap.size ≤ w.heap.size := h.1; omega) (fun h => by have := HQQ.out _ h; omega))).trans hX2
          exact ⟨hbI.cell 0, entS hbX⟩
        have HFIN := Lib.hid hfin
        have I4 := Lib.hid i4
        have HK2 := Lib.hid hk2
        have HE2 := Lib.hid he2
        have HS2 := Lib.hid hs2
        have HD2 := Lib.hid hd2
        have HBZ := Lib.hid hb2
        have HS2Q := Lib.hid hS2Q
        have HS2W := Lib.hid hS2w
        clear hk2 he2 hs2 hb2 hd2 hr2 hX2 hS2w hS2Q hQk hfin i4 HINI
        go_wp2_with fail
        go_region_held3 (fun w' => w'.cell? ⟨Z, 0, none⟩ = some (.iface t2 q2) ∧ EntS w' w.heap.size e l) (first | exact ⟨z0, HE1.out⟩ | exact HFIN.out _ b6) ((refine I4.out.mono ?_; rintro en w3 ⟨p', Q', S', Ms, rfl, b1, b2, b3, b4, b5, b6, b7⟩))
        all_goals
          have B1 := Lib.hid b1
          have B2 := Lib.hid b2
          have B3 := Lib.hid b3
          have B4 := Lib.hid b4
          have B5 := Lib.hid b5
          have B6 := Lib.hid b6
          have B7 := Lib.hid b7
          clear b1 b2 b3 b4 b5 b6 b7 y0 y1 y2 y3 y4 y5 y6 y7 y8 y9 y10 y11 y12 z0 i1 i3 I4 HFIN
          go_wp2_with fail
          go_ret
          have hw3 : w2.heap.size ≤ w3.heap.size := B6.out.size
          have hkOld : ∀ k, k < w2.heap.size → ¬ S2 k → ¬ Q k → w3.heap[k]? = w2.heap[k]? := fun k a b c => B6.out.block k a fun h => h.elim b c
          have hZ3 : w3.heap[Z]? = w2.heap[Z]? := hkOld Z (by omega) hz2 (HSQ.out Z h2)
          have hnS' : ∀ k, k < w.heap.size → S' k → S2 k := fun k hk h => by
            rcases B3.out k h with h | h
            · exact h
            · have h1 : w2.heap.size ≤ k := h.1; omega
          refine ⟨p', Q', fun k => S' k ∨ S1 k ∨ SG k ∨ k = Z, Ms, rfl, B1.out, ⟨Z, _, g, S1, SG, rfl, .inr (.inr (.inr rfl)), fun k hk => .inr (.inl hk), fun k hk => .inr (.inr (.inl hk)), h5, h6, H7.out, .inr ⟨_, S', hZ3.trans HBZ.out, ?_, fun k hk => .inl hk, fun h => hz2 (hnS' Z hZw h), ?_, B2.out.toF (lf_withF K gs)⟩⟩, fun k hk => ?_, fun k hk => ?_, fun k hk hq => ?_, ?_, ?_⟩
          · refine RepG.keep (fun _ _ _ _ h => h) HE2.out fun k hk => hkOld k (by have := HSS.out k (H3.out k hk); omega) (fun h => HD2.out k h hk) (HSQ.out k (H3.out k hk))
          · intro k hk hk1
            exact HD2.out k (hnS' k (HSS.out k (H3.out k hk1)) hk) hk1
          · rcases hk with hk | hk | hk | rfl
            · rcases B3.out k hk with h | h
              · rcases HS2.out k h with h | h
                · exact .inl h
                · exact .inr ⟨by have h1 : w1.heap.size ≤ k := h.1; omega, by have := h.2; omega⟩
              · exact .inr ⟨by have h1 : w2.heap.size ≤ k := h.1; omega, h.2⟩
            · exact .inl (H3.out k hk)
            · exact .inl (H4.out k hk)
            · exact .inl h2
          · rcases B4.out k hk with h | h
            · exact .inl h
            · exact .inr ⟨by have h1 : w2.heap.size ≤ k := h.1; omega, h.2⟩
          · have hold : ∀ k, S k → Q' k → False := fun k hk hq => by
              rcases B4.out k hq with h | h
              · exact HSQ.out k hk h
              · have h1 : w2.heap.size ≤ k := h.1; have := HSS.out k hk; omega
            rcases hk with hk | hk | hk | rfl
            · exact B5.out k hk hq
            · exact hold k (H3.out k hk) hq
            · exact hold k (H4.out k hk) hq
            · exact hold _ h2 hq
          · refine ⟨(B6.out.os.trans HK2.out.os).trans HB1.out.os, (B6.out.tape.trans HK2.out.tape).trans HB1.out.tape, (B6.out.output.trans HK2.out.output).trans HB1.out.output, by omega, fun k hk hns => ?_⟩
            refine (hkOld k (by omega) (fun h => ?_) (fun h => hns (.inr h))).trans ((HK2.out.block k (by omega) (fun h => hns (.inl (h.elim (H3.out k) (fun e => e ▸ h2))))).trans (HKS.out w1 HB1.out k hk))
            rcases HS2.out k h with h | h
            · exact hns (.inl h)
            · have h1 : w1.heap.size ≤ k := h.1; omega
          · have hw : wrK (.lazy K gs) l = wrK (withF gs K) l := by rw [wrK_withF]; simp [wrK, hen]
            rw [hw]
            exact B7.out.mono fun k hk => .inl hk

/-- Check of a built core -/
theorem ck_free (N : Nat) (K : KT FC) : lf K → CK N K := by
  induction K with
  | leaf lvl num fs => intro _; exact ck_leaf N lvl num fs
  | nop => intro _; exact ck_nop N
  | tee n kids ih =>
    intro h
    exact ck_tee N n kids fun i hi => ih i (h i hi)
  | incr lvl k ih => intro h; exact ck_incr N lvl k (ih h)
  | lazy k gs ih => intro h; exact h.elim
theorem ck_any (N : Nat) (K : KT FC) : CK N K := by
  induction K with
  | leaf lvl num fs => exact ck_leaf N lvl num fs
  | nop => exact ck_nop N
  | tee n kids ih => exact ck_tee N n kids fun i _ => ih i
  | incr lvl k ih => exact ck_incr N lvl k ih
  | lazy k gs ih => exact ck_lazy N k gs (ck_free N (withF gs k) (lf_withF k gs))
end Go.Proofs.Zap

namespace Go.Proofs.Zap
open Go Go.Proofs Go.RowKit

/-- a slice of fields as they are, their block in S -/
def VFs (w : World) (S : Nat → Prop) (fs : List FC) (v : Value) : Prop :=
  ∃ A cap, v = .slice A fs.length cap ∧ fs.length ≤ cap ∧ cap ≤ 9223372036854775807 ∧ (A = none → fs.length = 0 ∧ cap = 0) ∧
    (0 < fs.length → ∃ b o, A = some ⟨b, o, none⟩ ∧ S b ∧ ∀ i c, fs[i]? = some c → RowC w b (o + i * 15) c.arr)
theorem VFs.keep {w w' : World} {S : Nat → Prop} {fs : List FC} {v : Value} (h : VFs w S fs v) (hk : ∀ k, S k → w'.heap[k]? = w.heap[k]?) : VFs w' S fs v := by
  obtain ⟨A, cap, h1, h2, h3, h4, h5⟩ := h
  refine ⟨A, cap, h1, h2, h3, h4, fun hn => ?_⟩
  obtain ⟨b, o, e, hb, hc⟩ := h5 hn
  exact ⟨b, o, e, hb, fun i c hi j v hj => (World.cell?_of_block (w := w) (hk b hb)).trans (hc i c hi j v hj)⟩
theorem VFs.mono {w : World} {S S' : Nat → Prop} {fs : List FC} {v : Value} (h : VFs w S fs v) (hs : ∀ k, S k → S' k) : VFs w S' fs v := by
  obtain ⟨A, cap, h1, h2, h3, h4, h5⟩ := h
  refine ⟨A, cap, h1, h2, h3, h4, fun hn => ?_⟩
  obtain ⟨b, o, e, hb, hc⟩ := h5 hn
  exact ⟨b, o, e, hs b hb, hc⟩

/-- the cells of fields, one behind the other -/
def vrows (fs : List FC) : List Value := fs.flatMap fun c => c.arr.toList
theorem vrows_len (fs : List FC) : (vrows fs).length = fs.length * 15 := by
  induction fs with
  | nil => rfl
  | cons c fs ih => rw [show vrows (c :: fs) = c.arr.toList ++ vrows fs from rfl, List.length_append, ih, show c.arr.toList.length = 15 from rfl, List.length_cons]; omega
theorem vrows_append (fs gs : List FC) : vrows (fs ++ gs) = vrows fs ++ vrows gs := by simp [vrows]
theorem vrows_get : ∀ (fs : List FC) (j : Nat) (u : Value), (vrows fs)[j]? = some u → ∃ i r c, j = i * 15 + r ∧ fs[i]? = some c ∧ c.arr[r]? = some u
  | [], j, u, h => by simp [vrows] at h
  | c :: fs, j, u, h => by
    have e : vrows (c :: fs) = c.arr.toList ++ vrows fs := rfl
    have l : c.arr.toList.length = 15 := rfl
    rw [e, List.getElem?_append] at h
    split at h
    · exact ⟨0, j, c, by omega, rfl, by simpa using h⟩
    · obtain ⟨i, r, c2, h1, h2, h3⟩ := vrows_get fs _ u h
      exact ⟨i + 1, r, c2, by omega, by simpa using h2, h3⟩
theorem vrows_at : ∀ (fs : List FC) (i r : Nat) (c : FC) (v : Value), fs[i]? = some c → c.arr[r]? = some v → (vrows fs)[i * 15 + r]? = some v
  | [], i, r, c, v, h, _ => by simp at h
  | c0 :: fs, i, r, c, v, h, hv => by
    have e : vrows (c0 :: fs) = c0.arr.toList ++ vrows fs := rfl
    have l : c0.arr.toList.length = 15 := rfl
    have hr : r < 15 := by
      have := (Array.getElem?_eq_some_iff.1 hv).1
      simpa [FC.arr] using this
    rw [e, List.getElem?_append]
    cases i with
    | zero =>
      simp at h; subst h
      rw [if_pos (by omega)]
      simpa using hv
    | succ i =>
      rw [if_neg (by omega), l, show (i + 1) * 15 + r - 15 = i * 15 + r by omega]
      exact vrows_at fs i r c v (by simpa using h) hv
theorem vfs_of_own {w : World} {base : Nat} {v : Value} {fs : List FC} (h : w.ownsRow base 135 15 v fs.length (vrows fs)) : VFs w (fun k => v.ownBlock = some k) fs v := by
  rcases h.2 with ⟨rfl, hn⟩ | ⟨g, cap, cur, rfl, hb, hg, hnc, hcm, hcs, htake⟩
  · exact ⟨none, 0, by rw [hn], by omega, by omega, fun _ => ⟨hn, rfl⟩, fun h => by omega⟩
  · refine ⟨_, cap, rfl, hnc, by unfold maxLen at hcm; omega, fun h => (by cases h), fun hpos => ⟨g, 0, rfl, rfl, fun i c hi j v hj => ?_⟩⟩
    have h2 := vrows_at fs i j c v hi hj
    rw [← htake] at h2
    rw [cell_of_row w g _ cur 135 (0, 0) hg]
    rw [List.getElem?_take] at h2
    split at h2
    · simpa using h2
    · cases h2

theorem u39 : Tryz.prog.underlying 39 = some (.slice 135) := Tryz.underlying39
theorem z135 : (Tryz.prog.info? 135).map (·.zero) = some (some (.agg #[.int .i64 0, .string ⟨#[]⟩, .int .i64 0, .int .i64 0, .int .u64 0, .int .u64 0, .int .u64 0, .string ⟨#[]⟩, .slice none 0 0, .bool false, .int .i64 0, .int .i64 0, .string ⟨#[]⟩, .slice none 0 0, .string ⟨#[]⟩])) := by kernel_rfl
theorem s135 : (Tryz.prog.info? 135).map (·.size) = some 15 := by kernel_rfl
theorem b135 : (Tryz.prog.info? 135).map (·.bytes) = some 184 := by kernel_rfl
theorem row39 : RowT 39 135 15 184 := rowT_of u39 z135 s135 b135 rfl (by decide)
theorem u67 : Tryz.prog.underlying 67 = some (.slice 72) := by kernel_rfl
theorem z72 : (Tryz.prog.info? 72).map (·.zero) = some (some (.agg #[.int .i64 0, .int .i64 0, .slice none 0 0])) := by kernel_rfl
theorem s72 : (Tryz.prog.info? 72).map (·.size) = some 3 := by kernel_rfl
theorem b72 : (Tryz.prog.info? 72).map (·.bytes) = some 40 := by kernel_rfl
theorem row67 : RowT 67 72 3 40 := rowT_of u67 z72 s72 b72 rfl (by decide)

theorem own_drew {w : World} {base : Nat} {e : TypeId} {size n : Nat} {v : Value} {xs : List Value} (h : w.ownsRow base e size v n xs) : w.drew.ownsRow base e size v n xs := h
/-- an append of one row, as a step of a region that draws its order -/
theorem step_app1 {t e : TypeId} {size bytes : Nat} (R : RowT t e size bytes) {ops : Array Oper} {o : Oper} {a : Act} {w : World} {K : Act → World → Prop} {Q : Exit → Act → World → Prop} {E : Prop} (hgd : o.guard = none) (s x : Operand)
    (ho : o.op = .call { callee := .builtin .append, args := #[s, x], argTypes := #[t, t] })
    (base : Nat) (v : Value) (n : Nat) (xs : List Value) (hs : a.eval s = v) (hown : w.ownsRow base e size v n xs)
    (g : Nat) (cs : Array Value) (hx : a.eval x = .slice (some ⟨g, 0, none⟩) 1 1) (hg : w.heap[g]? = some (.cells cs e (0, 0))) (hl : cs.size = size) (h1 : ∀ u ∈ cs.toList, u.oneCell' = true)
    (h63 : n + 1 ≤ maxLen) (hbytes : (n + 1) * bytes ≤ 140737488355328) (hbase : base ≤ w.heap.size)
    (hK : ∀ v' w', w'.ownsRow base e size v' (n + 1) (xs ++ cs.toList) → w.grownBy w' v.ownBlock → (v'.ownBlock = v.ownBlock ∨ v'.ownBlock = some w.heap.size) → K (a.put o.dst v') w') :
    if Region.wanted o (yielded ops a.tmps) = true then Oper.wp Tryz.prog o a w K Q else E := by
  have hw : Region.wanted o (yielded ops a.tmps) = true := by simp [Region.wanted, hgd]
  rw [if_pos hw]
  obtain ⟨i, z, hi, hz, hsz, hby, hzs⟩ := R.i
  have hnews : ∀ j u, cs.toList[j]? = some u → w.cell? ((⟨g, 0, none⟩ : Addr).add j) = some u := fun j u hu => by
    have hadd : (⟨g, 0, none⟩ : Addr).add j = ⟨g, j, none⟩ := by unfold Addr.add; split <;> simp_all
    rw [hadd, cell_of_row w g j cs e (0, 0) hg]
    simpa using hu
  obtain ⟨v', w', hr, h2, h3, _, h5⟩ := run_append_own_at (P := Tryz.prog) w base t o.type e i z size bytes R.u hi hz hsz hby hzs R.pos v n xs hown ⟨g, 0, none⟩ 1 1 cs.toList (by simp [hl]) hnews h1 h63 hbytes hbase
  unfold Oper.wp
  simp [execOp, ho, resolve, invoke, builtin, hs, hx, hr, Result.andThen]
  exact hK v' w' h2 h3 h5

/-- the slices of the fields of a carried field are slices -/
theorem fc_forms {w : World} {B d : Nat} {c : FC} (h1 : BytesOk w B c.bytes) (h2 : FsOk w B d c.items) : (∃ a n m, c.bytes = .slice a n m) ∧ ∃ a n m, c.items = .slice a n m := by
  obtain ⟨a, n, m, e, _⟩ := h1
  cases d with
  | zero => exact h2.elim
  | succ d =>
    obtain ⟨a2, n2, m2, e2, _⟩ := h2
    exact ⟨⟨a, n, m, e⟩, a2, n2, m2, e2⟩

set_option maxRecDepth 100000 in
theorem ta135 (v : Value) (w : World) : (Instr.typeAssert (.iface 135 v) 20 135 false).run Tryz.prog w = .ok v w := by kernel_rfl
end Go.Proofs.Zap
