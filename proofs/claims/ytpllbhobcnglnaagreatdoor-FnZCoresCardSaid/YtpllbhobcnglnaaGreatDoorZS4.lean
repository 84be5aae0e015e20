/- a text of the claims over the seat; its order and aim: NOTES.md -/
import Derived.Test.YtpllbhobcnglnaaGreatDoorZS2
namespace Go.Proofs.Zap
open Go Go.Proofs Go.RowKit

/-- an entry's cells in block X -/
abbrev EntS (w' : World) (X : Nat) (e : EV) (l : Int) : Prop :=
  w'.cell? ⟨X, 0, none⟩ = some (.int .i8 l) ∧ w'.cell? ⟨X, 1, none⟩ = some (.int .i64 e.x) ∧ w'.cell? ⟨X, 2, none⟩ = some (.int .i32 e.n) ∧ w'.cell? ⟨X, 3, none⟩ = some (.string e.z) ∧ w'.cell? ⟨X, 4, none⟩ = some (.int .i64 e.o) ∧ w'.cell? ⟨X, 5, none⟩ = some (.string e.lg) ∧ w'.cell? ⟨X, 6, none⟩ = some (.string e.ms) ∧ w'.cell? ⟨X, 7, none⟩ = some (.bool e.df) ∧ w'.cell? ⟨X, 8, none⟩ = some (.int .u64 e.pc) ∧ w'.cell? ⟨X, 9, none⟩ = some (.string e.f) ∧ w'.cell? ⟨X, 10, none⟩ = some (.int .i64 e.ln) ∧ w'.cell? ⟨X, 11, none⟩ = some (.string e.fn) ∧ w'.cell? ⟨X, 12, none⟩ = some (.string e.st)
theorem entS {w' : World} {X : Nat} {e : EV} {l : Int} (h : Blk w' X 156 (e.arr l)) : EntS w' X e l :=
  ⟨h.cell 0, h.cell 1, h.cell 2, h.cell 3, h.cell 4, h.cell 5, h.cell 6, h.cell 7, h.cell 8, h.cell 9, h.cell 10, h.cell 11, h.cell 12⟩

set_option maxRecDepth 100000 in
set_option maxHeartbeats 4000000 in
theorem ck_incr (N : Nat) (lvl : Int) (K : KT FC) (ih : CK N K) : CK N (.incr lvl K) := by
  intro S v w Q e l p Ls m h hS hQ hSQ hce hfl hm hn
  obtain ⟨I, vc, S1, rfl, h2, h3, h4, h5, h6, h7⟩ := h
  refine ⟨321, _, 410, _, rfl, nlCI _ _, mtCI _ w, cf410, ?_⟩
  have hIw := hS I h2
  have hX : Blk (w.alloc (.cells (e.arr l) 156)) w.heap.size 156 (e.arr l) := Blk.new w 156 _
  have hen := incEn I vc lvl l (w.alloc (.cells (e.arr l) 156)) (h3.alloc _)
  have hsz : (w.alloc (.cells (e.arr l) 156)).heap.size = w.heap.size + 1 := by simp
  unfold Says at hen
  rw [hsz] at hen
  have hkS : ∀ w', Below (w.heap.size + 1) (w.alloc (.cells (e.arr l) 156)) w' → ∀ k, k < w.heap.size → w'.heap[k]? = w.heap[k]? := fun w' hb k hk => (hb.block k (by omega)).trans (heap_alloc_old w _ hk)
  have hkX : ∀ w', Below (w.heap.size + 1) (w.alloc (.cells (e.arr l) 156)) w' → Blk w' w.heap.size 156 (e.arr l) := fun w' hb => (hb.block _ (by omega)).trans hX
  have hgs : ∀ w1, Below (w.heap.size + 1) (w.alloc (.cells (e.arr l) 156)) w1 → w.heap.size + 1 ≤ w1.drew.heap.size := fun w1 hb => by
    have := hb.size
    rw [hsz] at this
    exact this
  have hih := fun (w1 : World) (hb : Below (w.heap.size + 1) (w.alloc (.cells (e.arr l) 156)) w1) => ih S1 vc w1.drew Q e l p Ls m (h6.keep fun k hk => hkS w1 hb k (hS k (h4 k hk)))
    (fun k hk => Nat.lt_of_lt_of_le (Nat.lt_succ_of_lt (hS k (h4 k hk))) (hgs w1 hb)) (fun k hk => Nat.lt_of_lt_of_le (Nat.lt_succ_of_lt (hQ k hk)) (hgs w1 hb)) (fun k hk => hSQ k (h4 k hk)) (hce.keep fun k hk => hkS w1 hb k (hQ k hk)) hfl hm hn
  have H3 := Lib.hid h3
  have H4 := Lib.hid h4
  have HCE := Lib.hid hce
  have HKS := Lib.hid hkS
  have HKX := Lib.hid hkX
  have HSS := Lib.hid hS
  have HQQ := Lib.hid hQ
  have HSQ := Lib.hid hSQ
  have HEN := Lib.hid hen
  have HIH := Lib.hid hih
  have H6 := Lib.hid h6
  have x0 := hX.cell 0
  simp at x0
  clear h3 h4 hce hkS hkX hX hS hQ hSQ hen hih h6 ih hgs
  unfold EV.arr at *
  go_enter Tryz.func410, Tryz.ntmps410
  go_wp2_with fail
  refine HEN.out.mono ?_
  rintro en w1 ⟨rfl, hb1⟩
  have hs1 : w.heap.size + 1 ≤ w1.heap.size := by have := hb1.size; rw [hsz] at this; exact this
  have HB1 := Lib.hid hb1
  clear hb1 HEN
  by_cases hle : lvl ≤ l
  · have hd : decide (lvl ≤ l) = true := by simpa using hle
    obtain ⟨t, q, f1, r, rfl, i1, i3, i5, i4⟩ := HIH.out w1 HB1.out
    have hE1 := entS (HKX.out w1 HB1.out)
    obtain ⟨y0, y1, y2, y3, y4, y5, y6, y7, y8, y9, y10, y11, y12⟩ := hE1
    have z0 : w1.cell? ⟨I, 0, none⟩ = some (.iface t q) := Blk.cell ((HKS.out w1 HB1.out I hIw).trans H3.out) 0
    have I4 := Lib.hid i4
    have HE1 : Hid (EntS w1 w.heap.size e l) := Lib.hid ⟨y0, y1, y2, y3, y4, y5, y6, y7, y8, y9, y10, y11, y12⟩
    have hfin : ∀ w2, Kept (fun k => S1 k ∨ Q k) w1.drew w2 → (w2.cell? ⟨I, 0, none⟩ = some (.iface t q) ∧ EntS w2 w.heap.size e l) := fun w2 hk => by
      have hbI : Blk w2 I 323 #[.iface t q, .iface 129 (.int .i8 lvl)] := (hk.block I (show I < w1.heap.size by omega) (fun h => h.elim h5 (HSQ.out I h2))).trans ((HKS.out w1 HB1.out I hIw).trans H3.out)
      have hbX : Blk w2 w.heap.size 156 (e.arr l) := (hk.block _ (show w.heap.size < w1.heap.size by omega) (fun h => h.elim (fun h => by have := HSS.out _ (H4.out _ h); omega) (fun h => by have := HQQ.out _ h; omega))).trans (HKX.out w1 HB1.out)
      exact ⟨hbI.cell 0, entS hbX⟩
    have HFIN := Lib.hid hfin
    clear i4 HIH hfin
    go_wp2_with fail
    go_region_held3 (fun w' => w'.cell? ⟨I, 0, none⟩ = some (.iface t q) ∧ EntS w' w.heap.size e l) (first | exact ⟨z0, HE1.out⟩ | exact HFIN.out _ hk2) ((refine I4.out.mono ?_; rintro en w2 ⟨p', Q', S', Ms, rfl, hce2, hr2, hs2, hq2, hsq2, hk2, hl2⟩))
    all_goals
      have HCE2 := Lib.hid hce2
      have HR2 := Lib.hid hr2
      have HS2 := Lib.hid hs2
      have HQ2 := Lib.hid hq2
      have HSQ2 := Lib.hid hsq2
      have HK2 := Lib.hid hk2
      have HL2 := Lib.hid hl2
      clear hce2 hr2 hs2 hq2 hsq2 hk2 hl2 y0 y1 y2 y3 y4 y5 y6 y7 y8 y9 y10 y11 y12 z0 i1 i3 I4
      go_wp2_with fail
      go_ret
      have hss : w1.heap.size ≤ w2.heap.size := HK2.out.size
      have hnI : ¬ Q' I := fun h => by
        rcases HQ2.out I h with h | h
        · exact HSQ.out I h2 h
        · have h1 : w1.heap.size ≤ I := h.1; omega
      have hbI : Blk w2 I 323 #[.iface t q, .iface 129 (.int .i8 lvl)] := (HK2.out.block I (show I < w1.heap.size by omega) (fun h => h.elim h5 (HSQ.out I h2))).trans ((HKS.out w1 HB1.out I hIw).trans H3.out)
      refine ⟨p', Q', fun k => S' k ∨ k = I, Ms, rfl, HCE2.out, ⟨I, _, S', rfl, .inr rfl, hbI, fun k hk => .inl hk, fun h => ?_, HR2.out, h7⟩, fun k hk => ?_, fun k hk => ?_, fun k hk => ?_, ?_, ?_⟩
      · rcases HS2.out I h with h | h
        · exact h5 h
        · have h1 : w1.heap.size ≤ I := h.1; omega
      · rcases hk with hk | rfl
        · rcases HS2.out k hk with h | h
          · exact .inl (H4.out k h)
          · exact .inr ⟨by have h1 : w1.heap.size ≤ k := h.1; omega, h.2⟩
        · exact .inl h2
      · rcases HQ2.out k hk with h | h
        · exact .inl h
        · exact .inr ⟨by have h1 : w1.heap.size ≤ k := h.1; omega, h.2⟩
      · rcases hk with hk | rfl
        · exact HSQ2.out k hk
        · exact hnI
      · refine ⟨HK2.out.os.trans HB1.out.os, HK2.out.tape.trans HB1.out.tape, HK2.out.output.trans HB1.out.output, by omega, fun k hk hns => ?_⟩
        exact (HK2.out.block k (show k < w1.heap.size by omega) (fun h => hns (h.imp (H4.out k) id))).trans (HKS.out w1 HB1.out k hk)
      · simp only [wrK, if_pos hle]
        exact HL2.out.mono fun k hk => .inl hk
  · have hd : decide (lvl ≤ l) = false := by simpa using hle
    go_wp2_with fail
    go_ret
    have hkS : ∀ k, k < w.heap.size → w1.heap[k]? = w.heap[k]? := HKS.out w1 HB1.out
    refine ⟨p, Q, S, [], rfl, by simpa using HCE.out.keep fun k hk => hkS k (HQQ.out k hk), ⟨I, _, S1, rfl, h2, (hkS I hIw).trans H3.out, H4.out, h5, H6.out.keep (fun k hk => hkS k (HSS.out k (H4.out k hk))), h7⟩, fun k hk => .inl hk, fun k hk => .inl hk, HSQ.out, ⟨HB1.out.os, HB1.out.tape, HB1.out.output, by omega, fun k hk _ => hkS k hk⟩, ?_⟩
    simp only [wrK, if_neg (show ¬ lvl ≤ l by omega)]
    exact Leaves.nil _ _ _
end Go.Proofs.Zap

namespace Go.Proofs.Zap
open Go Go.Proofs Go.RowKit

theorem wrK_tee_succ {F : Type} (j : Nat) (kids : Nat → KT F) (l : Int) : wrK (.tee (j + 1) kids) l = wrK (.tee j kids) l ++ wrK (kids j) l := by
  simp only [wrK]
  rw [List.range_succ, List.flatMap_append]
  simp

/-- what stands in the middle of a tee's Check -/
structure TcI (w wr : World) (N n j T : Nat) (kids : Nat → KT FC) (S Q : Nat → Prop) (Sk : Nat → Nat → Prop) (vs : Nat → Value) (e : EV) (l : Int) (Ls : List Nat) (p : Option Addr) : Prop where
  x : Blk wr w.heap.size 156 (e.arr l)
  src : wr.heap[T]? = w.heap[T]?
  kept : Kept (fun k => S k ∨ Q k) w wr
  st : ∃ (Q' : Nat → Prop) (Sk' : Nat → Nat → Prop) (Ms : List Nat), CEo wr Q' e l p (Ls ++ Ms) ∧ (∀ k, Q' k → Q k ∨ (w.heap.size < k ∧ k < wr.heap.size)) ∧
    (∀ i, i < n → RepR wr N (kids i) (Sk' i) (vs i) ∧ (∀ k, Sk' i k → Sk i k ∨ (w.heap.size < k ∧ k < wr.heap.size)) ∧ (∀ i2, i2 < n → i2 ≠ i → ∀ k, Sk' i k → ¬ Sk' i2 k) ∧ ∀ k, Sk' i k → ¬ Q' k) ∧
    Leaves wr N (fun k => ∃ i, i < j ∧ Sk' i k) Ms (wrK (.tee j kids) l)

theorem TcI.step {w wr w' : World} {N n j T : Nat} {kids : Nat → KT FC} {S Q : Nat → Prop} {Sk : Nat → Nat → Prop} {vs : Nat → Value} {e : EV} {l : Int} {Ls : List Nat} {p2 : Option Addr}
    (hx : Blk wr w.heap.size 156 (e.arr l)) (hsrc : wr.heap[T]? = w.heap[T]?) (hkept : Kept (fun k => S k ∨ Q k) w wr) {Q' Q2 : Nat → Prop} {Sk' : Nat → Nat → Prop} {S2 : Nat → Prop} {Ms M2 : List Nat}
    (hq : ∀ k, Q' k → Q k ∨ (w.heap.size < k ∧ k < wr.heap.size))
    (hkids : ∀ i, i < n → RepR wr N (kids i) (Sk' i) (vs i) ∧ (∀ k, Sk' i k → Sk i k ∨ (w.heap.size < k ∧ k < wr.heap.size)) ∧ (∀ i2, i2 < n → i2 ≠ i → ∀ k, Sk' i k → ¬ Sk' i2 k) ∧ ∀ k, Sk' i k → ¬ Q' k)
    (hlv : Leaves wr N (fun k => ∃ i, i < j ∧ Sk' i k) Ms (wrK (.tee j kids) l)) (hj : j < n)
    (h1 : ∀ i, i < n → ∀ k, Sk i k → S k) (hT : S T) (hTk : ∀ i, i < n → ¬ Sk i T) (hS : ∀ k, S k → k < w.heap.size) (hQ : ∀ k, Q k → k < w.heap.size) (hSQ : ∀ k, S k → ¬ Q k)
    (hce2 : CEo w' Q2 e l p2 ((Ls ++ Ms) ++ M2)) (hr2 : RepR w' N (kids j) S2 (vs j)) (hs2 : ∀ k, S2 k → Sk' j k ∨ NewB wr w' k) (hq2 : ∀ k, Q2 k → Q' k ∨ NewB wr w' k) (hsq2 : ∀ k, S2 k → ¬ Q2 k) (hk2 : Kept (fun k => Sk' j k ∨ Q' k) wr w') (hl2 : Leaves w' N S2 M2 (wrK (kids j) l)) :
    TcI w w' N n (j + 1) T kids S Q Sk vs e l Ls p2 := by
  have hxl := hx.lt
  have hz := hk2.size
  have hkw : ∀ i, i < n → ∀ k, Sk' i k → k < wr.heap.size ∧ k ≠ w.heap.size := fun i hi k hk => by
    rcases (hkids i hi).2.1 k hk with h | h
    · have := hS k (h1 i hi k h); omega
    · omega
  have hqw : ∀ k, Q' k → k < wr.heap.size ∧ k ≠ w.heap.size := fun k hk => by
    rcases hq k hk with h | h
    · have := hQ k h; omega
    · omega
  have hTw := hS T hT
  have keepi : ∀ i, i < n → i ≠ j → ∀ k, Sk' i k → w'.heap[k]? = wr.heap[k]? := fun i hi hne k hk => hk2.block k (hkw i hi k hk).1 fun h => h.elim ((hkids i hi).2.2.1 j hj (Ne.symm hne) k hk) ((hkids i hi).2.2.2 k hk)
  refine ⟨(hk2.block _ hxl fun h => h.elim (fun h => (hkw j hj _ h).2 rfl) fun h => (hqw _ h).2 rfl).trans hx, (hk2.block T (by omega) fun h => ?_).trans hsrc, ⟨hk2.os.trans hkept.os, hk2.tape.trans hkept.tape, hk2.output.trans hkept.output, by have := hkept.size; omega, fun k hk hns => ?_⟩, Q2, fun i => if i = j then S2 else Sk' i, Ms ++ M2, by rw [← List.append_assoc]; exact hce2, fun k hk => ?_, fun i hi => ?_, ?_⟩
  · rcases h with h | h
    · rcases (hkids j hj).2.1 T h with h | h
      · exact hTk j hj h
      · omega
    · rcases hq T h with h | h
      · exact hSQ T hT h
      · omega
  · refine (hk2.block k (by omega) fun h => ?_).trans (hkept.block k hk hns)
    rcases h with h | h
    · rcases (hkids j hj).2.1 k h with h | h
      · exact hns (.inl (h1 j hj k h))
      · omega
    · rcases hq k h with h | h
      · exact hns (.inr h)
      · omega
  · rcases hq2 k hk with h | h
    · exact (hq k h).imp id fun h => ⟨h.1, by omega⟩
    · exact .inr ⟨by have := h.1; omega, h.2⟩
  · by_cases ei : i = j
    · subst ei
      simp only [if_true]
      refine ⟨hr2, fun k hk => ?_, fun i2 hi2 hne k hk => ?_, hsq2⟩
      · rcases hs2 k hk with h | h
        · exact ((hkids i hi).2.1 k h).imp id fun h => ⟨h.1, by omega⟩
        · exact .inr ⟨by have := h.1; omega, h.2⟩
      · rw [if_neg hne]
        rcases hs2 k hk with h | h
        · exact (hkids i hi).2.2.1 i2 hi2 hne k h
        · intro h3; have := (hkw i2 hi2 k h3).1; have := h.1; omega
    · simp only [if_neg ei]
      refine ⟨(hkids i hi).1.keep (keepi i hi ei), fun k hk => ((hkids i hi).2.1 k hk).imp id fun h => ⟨h.1, by omega⟩, fun i2 hi2 hne k hk => ?_, fun k hk h => ?_⟩
      · by_cases e2 : i2 = j
        · rw [if_pos e2]
          intro h3
          rcases hs2 k h3 with h | h
          · exact (hkids i hi).2.2.1 j hj (by omega) k hk h
          · have := (hkw i hi k hk).1; have := h.1; omega
        · rw [if_neg e2]
          exact (hkids i hi).2.2.1 i2 hi2 hne k hk
      · rcases hq2 k h with h | h
        · exact (hkids i hi).2.2.2 k hk h
        · have := (hkw i hi k hk).1; have := h.1; omega
  · rw [wrK_tee_succ]
    refine Leaves.append ?_ (hl2.mono fun k hk => ⟨j, by omega, show (if j = j then S2 else Sk' j) k by rw [if_pos rfl]; exact hk⟩)
    refine (hlv.keep (w' := w') fun k ⟨i, hi, hk⟩ => keepi i (by omega) (by omega) k hk).mono fun k ⟨i, hi, hk⟩ => ⟨i, by omega, show (if i = j then S2 else Sk' i) k by rw [if_neg (by omega)]; exact hk⟩

set_option maxRecDepth 100000 in
set_option maxHeartbeats 4000000 in
theorem ck_tee (N n : Nat) (kids : Nat → KT FC) (ih : ∀ i, i < n → CK N (kids i)) : CK N (.tee n kids) := by
  intro S v w Q e l p Ls m h hS hQ hSQ hce hfl hm hn
  obtain ⟨T, cap, Sk, vs, rfl, h2, h3, h4, h5⟩ := h
  refine ⟨319, _, 403, _, rfl, nlCT _ _ _ _, mtCT _ _ _ w, cf403, ?_⟩
  have hTw := hS T h4
  obtain ⟨hn6, hflk⟩ := hfl
  have hX : Blk (w.alloc (.cells (e.arr l) 156)) w.heap.size 156 (e.arr l) := Blk.new w 156 _
  have hti : TcI w (w.alloc (.cells (e.arr l) 156)) N n 0 T kids S Q Sk vs e l Ls p :=
    ⟨hX, heap_alloc_old w _ hTw, (Kept.refl _ _).alloc _, Q, Sk, [], by simpa using hce.keep fun k hk => heap_alloc_old w _ (hQ k hk), fun k hk => .inl hk, fun i hi => ⟨(h5 i hi).2.2.2.2.keep fun k hk => heap_alloc_old w _ (hS k ((h5 i hi).1 k hk)), fun k hk => .inl hk, (h5 i hi).2.2.1, fun k hk => hSQ k ((h5 i hi).1 k hk)⟩, by simp only [wrK]; exact Leaves.nil _ _ _⟩
  have HTI := Lib.hid hti
  have H5 := Lib.hid h5
  have HSS := Lib.hid hS
  have HQQ := Lib.hid hQ
  have HSQ := Lib.hid hSQ
  have HIH := Lib.hid ih
  have HFL := Lib.hid hflk
  have HN := Lib.hid hn
  clear hti h5 hS hQ hSQ ih hflk hce hX hn
  unfold EV.arr at *
  go_enter Tryz.func403, Tryz.ntmps403
  go_wp2_with fail
  go_loopw [2, 10] (fun c i wr => ∃ (j : Nat) (p1 : Option Addr), i = .int .i64 j ∧ c = .pointer p1 ∧ j ≤ n ∧ Hid (TcI w wr N n j T kids S Q Sk vs e l Ls p1)) (fun _ i _ => n - (intOf i).toNat)
  case atStart => exact ⟨0, p, rfl, rfl, by omega, HTI⟩
  case round =>
    obtain ⟨j, p1, rfl, rfl, hj, hti⟩ := hrel
    by_cases hlt : j < n
    · obtain ⟨g1, g2, g3, g4, g5⟩ := H5.out j hlt
      obtain ⟨Q', Sk', Ms, s1, s2, s3, s4⟩ := hti.out.st
      have hxl := hti.out.x.lt
      have hmsl : Ms.length ≤ sumN j fun i => lvs (kids i) := by rw [s4.1]; exact wrK_len (.tee j kids) l
      have hsl : (sumN j fun i => lvs (kids i)) + lvs (kids j) ≤ sumN n fun i => lvs (kids i) := sumN_mono (f := fun i => lvs (kids i)) (show j + 1 ≤ n by omega)
      have hnn : Ls.length + (sumN n fun i => lvs (kids i)) ≤ 1000000 := HN.out
      have hkw : ∀ k, Sk' j k → k < wr.heap.size := fun k hk => by
        rcases (s3 j hlt).2.1 k hk with h | h
        · have := HSS.out k (g1 k h); omega
        · omega
      have hqw : ∀ k, Q' k → k < wr.heap.size := fun k hk => by
        rcases s2 k hk with h | h
        · have := HQQ.out k h; omega
        · omega
      have hcall := HIH.out j hlt (Sk' j) (vs j) wr.drew Q' e l p1 (Ls ++ Ms) m ((s3 j hlt).1.keep fun _ _ => rfl) hkw hqw (s3 j hlt).2.2.2 (s1.keep fun _ _ => rfl) (HFL.out j hlt) hm (by rw [List.length_append]; omega)
      obtain ⟨t, q, f1, r, ev, i1, i3, i5, i4⟩ := hcall
      have c0 : wr.cell? ⟨T, j, none⟩ = some (.iface t q) := (World.cell?_of_block (w := w) hti.out.src).trans (g4.trans (by rw [ev]))
      have q0 : (0 : Int) ≤ (j : Int) := Int.natCast_nonneg _
      have q1 : (j : Int) < (n : Int) := by omega
      obtain ⟨y0, y1, y2, y3, y4, y5, y6, y7, y8, y9, y10, y11, y12⟩ := entS hti.out.x
      have hst : ∀ (p2 : Option Addr) (w' : World) (Q2 S2 : Nat → Prop) (M2 : List Nat), CEo w' Q2 e l p2 ((Ls ++ Ms) ++ M2) → RepR w' N (kids j) S2 (vs j) → (∀ k, S2 k → Sk' j k ∨ NewB wr w' k) → (∀ k, Q2 k → Q' k ∨ NewB wr w' k) → (∀ k, S2 k → ¬ Q2 k) → Kept (fun k => Sk' j k ∨ Q' k) wr w' → Leaves w' N S2 M2 (wrK (kids j) l) → TcI w w' N n (j + 1) T kids S Q Sk vs e l Ls p2 := fun p2 w' Q2 S2 M2 b1 b2 b3 b4 b5 b6 b7 =>
        TcI.step hti.out.x hti.out.src hti.out.kept s2 s3 s4 hlt (fun i hi => (H5.out i hi).1) h4 (fun i hi => (H5.out i hi).2.1) HSS.out HQQ.out HSQ.out b1 b2 b3 b4 b5 b6 b7
      have hcells : ∀ w', TcI w w' N n (j + 1) T kids S Q Sk vs e l Ls p1 ∨ (∃ p2, TcI w w' N n (j + 1) T kids S Q Sk vs e l Ls p2) → (w'.cell? ⟨T, j, none⟩ = some (.iface t q) ∧ EntS w' w.heap.size e l) := fun w' h => by
        obtain ⟨p2, h⟩ : ∃ p2, TcI w w' N n (j + 1) T kids S Q Sk vs e l Ls p2 := h.elim (fun h => ⟨_, h⟩) id
        exact ⟨(World.cell?_of_block (w := w) h.src).trans (g4.trans (by rw [ev])), entS h.x⟩
      have I4 := Lib.hid i4
      have HST := Lib.hid hst
      have HCELLS := Lib.hid hcells
      have HE1 : Hid (EntS wr w.heap.size e l) := Lib.hid ⟨y0, y1, y2, y3, y4, y5, y6, y7, y8, y9, y10, y11, y12⟩
      clear i4 hst hcells ev s1 s2 s3 s4 g1 g3 g4 g5 hkw hqw hmsl hsl hnn
      go_wp2_with fail
      go_region_held3 (fun w' => w'.cell? ⟨T, j, none⟩ = some (.iface t q) ∧ EntS w' w.heap.size e l) (first | exact ⟨c0, HE1.out⟩ | exact HCELLS.out _ (.inr ⟨_, HT2.out⟩)) ((refine I4.out.mono ?_; rintro en w2 ⟨p', Q2, S2, M2, rfl, b1, b2, b3, b4, b5, b6, b7⟩; have HT2 := Lib.hid (HST.out p' w2 Q2 S2 M2 b1 b2 b3 b4 b5 b6.ofDrew b7)))
      all_goals
        clear b1 b2 b3 b4 b5 b6 b7 y0 y1 y2 y3 y4 y5 y6 y7 y8 y9 y10 y11 y12 c0 i1 i3 I4 HST HCELLS hti
        go_wp2_with fail
        go_roundw
        case rel => exact ⟨j + 1, p', by go_num, rfl, by omega, HT2⟩
        case measure => simp [intOf]; omega
    · have ej : j = n := by omega
      subst ej
      go_wp2_with fail
      go_ret
      obtain ⟨Q', Sk', Ms, s1, s2, s3, s4⟩ := hti.out.st
      have hz := hti.out.kept.size
      refine ⟨p1, Q', fun k => k = T ∨ ∃ i, i < j ∧ Sk' i k, Ms, rfl, s1, ⟨T, cap, Sk', vs, rfl, h2, h3, .inl rfl, fun i hi => ?_⟩, fun k hk => ?_, fun k hk => ?_, fun k hk hq => ?_, hti.out.kept, s4.mono fun k hk => .inr hk⟩
      · obtain ⟨a1, a2, a3, a4⟩ := s3 i hi
        refine ⟨fun k hk => .inr ⟨i, hi, hk⟩, fun h => ?_, a3, (World.cell?_of_block (w := w) hti.out.src).trans (H5.out i hi).2.2.2.1, a1⟩
        rcases a2 T h with h | h
        · exact (H5.out i hi).2.1 h
        · omega
      · rcases hk with rfl | ⟨i, hi, hk⟩
        · exact .inl h4
        · rcases (s3 i hi).2.1 k hk with h | h
          · exact .inl ((H5.out i hi).1 k h)
          · exact .inr ⟨by omega, h.2⟩
      · rcases s2 k hk with h | h
        · exact .inl h
        · exact .inr ⟨by omega, h.2⟩
      · rcases hk with rfl | ⟨i, hi, hk⟩
        · rcases s2 _ hq with h | h
          · exact HSQ.out _ h4 h
          · omega
        · exact (s3 i hi).2.2.2 k hk hq
end Go.Proofs.Zap
