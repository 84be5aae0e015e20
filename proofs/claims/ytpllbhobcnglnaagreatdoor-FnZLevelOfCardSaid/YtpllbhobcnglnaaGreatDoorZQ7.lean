/- a text of the claims over the seat; its order and aim: NOTES.md -/
import Derived.Test.YtpllbhobcnglnaaGreatDoorZQ4
import Derived.Test.YtpllbhobcnglnaaGreatDoorZT3
namespace Go.Proofs.Zap
open Go Go.Proofs Go.RowKit

def CF (C F : Nat) : Nat → Prop := fun k => k = C ∨ k = F

/-- a call that answers some bool, and leaves some number in either of two blocks -/
def Counts2 (w : World) (C F : Nat) (n : Nat) (y0 : Int) (e : Ending) (w' : World) : Prop :=
  ∃ (b : Bool) (x y : Int), e = .returned (.bool b) ∧ Blk w' C 3 #[.int .i64 x] ∧ Blk w' F 3 #[.int .i64 y] ∧ Kept (CF C F) w w' ∧ (b = false → 0 ≤ y0 → y0 ≤ 300 → y0 + n ≤ y ∧ y ≤ 300)

set_option maxHeartbeats 2000000 in
theorem ccount_any (C F B : Nat) (hCF : C ≠ F) (hBC : B ≤ C) (hBF : B ≤ F) (t : CT FC) : ∀ (v : Value) (x y : Int) (w : World), CAt w B t v → B ≤ w.heap.size → Blk w C 3 #[.int .i64 x] → Blk w F 3 #[.int .i64 y] →
    Calls Tryz.prog 69 #[v, .pointer (some ⟨C, 0, none⟩), .pointer (some ⟨F, 0, none⟩)] w (Counts2 w C F (flen t) y) := by
  induction t with
  | no => intro v x y w hc; exact hc.elim
  | mk kind lvl n kids fs ih =>
    intro v x y w hc hB hC hF
    obtain ⟨A, cap, fv, rfl, h2, h3, h4, ⟨d, hfl⟩, hbd, h6⟩ := hc
    clear hbd h4
    have H6 := Lib.hid h6
    have hCw := hC.lt
    have hFw := hF.lt
    have hcC : w.cell? ⟨C, 0, none⟩ = some (.int .i64 x) := hC.cell 0
    have hfz : w.frozen? ⟨C, 0, none⟩ = false := hC.frozen 0
    have hCs : Blk (w.setCell ⟨C, 0, none⟩ (.int .i64 (wrap64 (x + 1)))) C 3 #[.int .i64 (wrap64 (x + 1))] := by
      have := hC.set_ 0 (.int .i64 (wrap64 (x + 1))); simpa using this
    have hFs : Blk (w.setCell ⟨C, 0, none⟩ (.int .i64 (wrap64 (x + 1)))) F 3 #[.int .i64 y] :=
      (Below.heap_setCell w ⟨C, 0, none⟩ (.int .i64 (wrap64 (x + 1))) F (Ne.symm hCF)).trans hF
    have hks : Kept (CF C F) w (w.setCell ⟨C, 0, none⟩ (.int .i64 (wrap64 (x + 1)))) := Kept.set (S := CF C F) w (p := ⟨C, 0, none⟩) (.inl rfl) _
    have hsz : (w.setCell ⟨C, 0, none⟩ (.int .i64 (wrap64 (x + 1)))).heap.size = w.heap.size := by simp [World.setCell]
    have hCa := hCs.alloc (.cells #[.int .i64 kind, .int .i64 lvl, .slice A n cap, fv] 41)
    have hFa := hFs.alloc (.cells #[.int .i64 kind, .int .i64 lvl, .slice A n cap, fv] 41)
    have hXa : Blk ((w.setCell ⟨C, 0, none⟩ (.int .i64 (wrap64 (x + 1)))).alloc (.cells #[.int .i64 kind, .int .i64 lvl, .slice A n cap, fv] 41)) (w.setCell ⟨C, 0, none⟩ (.int .i64 (wrap64 (x + 1)))).heap.size 41 #[.int .i64 kind, .int .i64 lvl, .slice A n cap, fv] := Blk.new _ _ _
    rw [hsz] at hXa
    have hka : Kept (CF C F) w ((w.setCell ⟨C, 0, none⟩ (.int .i64 (wrap64 (x + 1)))).alloc (.cells #[.int .i64 kind, .int .i64 lvl, .slice A n cap, fv] 41)) := hks.trans (Kept.of_below ((Below.refl _ _).alloc (Nat.le_refl _) _))
    have HCA := Lib.hid hCa
    have HFA := Lib.hid hFa
    have HXA := Lib.hid hXa
    have HKA := Lib.hid hka
    have HFL := Lib.hid hfl
    clear hCs hFs hks hCa hFa hXa hka hfl h6 hC hF hsz
    by_cases b1 : 60 < wrap64 (x + 1)
    · go_enter Tryz.func69, Tryz.ntmps69
      go_wp2_with fail
      go_ret
      exact ⟨true, _, _, rfl, HCA.out, HFA.out, HKA.out, fun h => by cases h⟩
    by_cases b2 : 60 < (n : Int)
    · go_enter Tryz.func69, Tryz.ntmps69
      go_wp2_with fail
      go_ret
      exact ⟨true, _, _, rfl, HCA.out, HFA.out, HKA.out, fun h => by cases h⟩
    · go_enter Tryz.func69, Tryz.ntmps69
      go_wp2_with fail
      have hfs : FsOk ((w.setCell ⟨C, 0, none⟩ (.int .i64 (wrap64 (x + 1)))).alloc (.cells #[.int .i64 kind, .int .i64 lvl, .slice A n cap, fv] 41)) B (d + 1) fv := by
        refine (HFL.out.keep fun k hk => ?_).fs
        exact HKA.out.block k (by omega) (by unfold CF; omega)
      refine (zcount_any F B 30 (by omega) (d + 1) fv y _ hfs hBF (by have := HKA.out.size; omega) HFA.out).mono ?_
      rintro e w' ⟨bb, y2, rfl, hF2, hk2, hq2⟩
      have hs0 := HKA.out.size
      have hC2 : Blk w' C 3 #[.int .i64 (wrap64 (x + 1))] := (hk2.block C (by omega) hCF).trans HCA.out
      have hX2 : Blk w' w.heap.size 41 #[.int .i64 kind, .int .i64 lvl, .slice A n cap, fv] := (hk2.block _ HXA.out.lt (by omega)).trans HXA.out
      have hk3 : Kept (CF C F) w w' := HKA.out.trans ⟨hk2.os, hk2.tape, hk2.output, hk2.size, fun k hk hs => hk2.block k hk fun e => hs (.inr e)⟩
      have cF : w'.cell? ⟨F, 0, none⟩ = some (.int .i64 y2) := hF2.cell 0
      have HF2 := Lib.hid hF2
      have HC2 := Lib.hid hC2
      have HX2 := Lib.hid hX2
      have HK2 := Lib.hid hk3
      have hq3 : bb = false → 0 ≤ y → y ≤ 300 → y + fs.length ≤ y2 ∧ y2 ≤ 300 := by rw [← HFL.out.len]; exact hq2
      have HQ2 := Lib.hid hq3
      clear hq2 hq3
      clear hfs HCA HFA HXA HKA HFL hF2 hk2 hs0 hC2 hX2 hk3 hcC hfz
      cases bb
      case true =>
        go_wp2_with fail
        go_ret
        exact ⟨true, _, _, rfl, HC2.out, HF2.out, HK2.out, fun h => by cases h⟩
      case false =>
        by_cases b3 : 300 < y2
        · go_wp2_with fail
          go_ret
          exact ⟨true, _, _, rfl, HC2.out, HF2.out, HK2.out, fun h => by cases h⟩
        · go_wp2_with fail
          go_loopw [7] (fun i wr => ∃ (j : Nat) (x z : Int), i = .int .i64 j ∧ j ≤ n ∧ Hid (0 ≤ y → y ≤ 300 → y + fs.length + (sumN j fun i => flen (kids i)) ≤ z ∧ z ≤ 300) ∧ Hid (Blk wr C 3 #[.int .i64 x]) ∧ Hid (Blk wr F 3 #[.int .i64 z]) ∧ Hid (Blk wr w.heap.size 41 #[.int .i64 kind, .int .i64 lvl, .slice A n cap, fv]) ∧ Hid (Kept (CF C F) w wr)) (fun i _ => n - (intOf i).toNat)
          case atStart => exact ⟨0, _, _, rfl, by omega, Lib.hid (fun h0 h1 => by have := HQ2.out (by first | rfl | trivial) h0 h1; simp only [sumN]; omega), HC2, HF2, HX2, HK2⟩
          case round =>
            obtain ⟨j, x3, y3, rfl, hj, hQ3, hC3, hF3, hX3, hK3⟩ := hrel
            clear cF
            have hxc : wr.cell? ⟨w.heap.size, 2, none⟩ = some (.slice A n cap) := hX3.out.cell 2
            by_cases hlt : j < n
            · obtain ⟨b, o, rfl, hb, hcs⟩ := H6.out (by omega)
              obtain ⟨r0, r1, r2, r3, hrow, hcat⟩ := hcs j hlt
              have kb : ∀ k, k < B → wr.heap[k]? = w.heap[k]? := fun k hk => hK3.out.block k (by omega) (by unfold CF; omega)
              have hrow' := hrow.keep hb kb
              have hcat' := hcat.keep kb
              have c0 : wr.cell? ⟨b, o + j * 4, none⟩ = some r0 := hrow' 0 _ rfl
              have c1 : wr.cell? ⟨b, o + j * 4 + 1, none⟩ = some r1 := hrow' 1 _ rfl
              have c2 : wr.cell? ⟨b, o + j * 4 + 2, none⟩ = some r2 := hrow' 2 _ rfl
              have c3 : wr.cell? ⟨b, o + j * 4 + 3, none⟩ = some r3 := hrow' 3 _ rfl
              have q0 : (0 : Int) ≤ (j : Int) := Int.natCast_nonneg _
              have q1 : (j : Int) < (n : Int) := by omega
              have hcall := ih j _ x3 y3 wr hcat' (by have := hK3.out.size; omega) hC3.out hF3.out
              have HC := Lib.hid hcall
              clear hcall hcat hcat' hrow hrow' hcs kb
              go_wp2_with fail
              refine HC.out.mono ?_
              rintro e w4 ⟨bb, x4, y4, rfl, hC4, hF4, hk4, hq4⟩
              have HQ4 := Lib.hid hq4
              have HC4 := Lib.hid hC4
              have HF4 := Lib.hid hF4
              have HK4 := Lib.hid (hK3.out.trans hk4)
              have HX4 := Lib.hid (Eq.trans (hk4.block _ hX3.out.lt (by unfold CF; omega)) hX3.out : Blk w4 w.heap.size 41 #[.int .i64 kind, .int .i64 lvl, .slice (some ⟨b, o, none⟩) n cap, fv])
              clear hC4 hF4 hk4 hq4 hC3 hF3 hX3 hK3 hxc c0 c1 c2 c3
              cases bb
              · go_wp2_with fail
                go_roundw
                case rel => exact ⟨j + 1, x4, y4, by go_num, by omega, Lib.hid (fun h0 h1 => by have g1 := hQ3.out h0 h1; have g2 := HQ4.out (by first | rfl | trivial) (by omega) (by omega); simp only [sumN]; omega), HC4, HF4, HX4, HK4⟩
                case measure => simp [intOf]; omega
              · go_wp2_with fail
                go_ret
                exact ⟨true, _, _, rfl, HC4.out, HF4.out, HK4.out, fun h => by cases h⟩
            · go_wp2_with fail
              go_ret
              exact ⟨false, _, _, rfl, hC3.out, hF3.out, hK3.out, fun _ h0 h1 => by have g1 := hQ3.out h0 h1; have e : j = n := (by omega); subst e; simp only [flen]; omega⟩

/-- a call that answers some bool and changes nothing old; false: there are few fields -/
def SaysF (n : Nat) (w : World) (e : Ending) (w' : World) : Prop := ∃ b : Bool, e = .returned (.bool b) ∧ Below w.heap.size w w' ∧ (b = false → n ≤ 300)

set_option maxHeartbeats 2000000 in
theorem great_any (t : CT FC) (B : Nat) (v : Value) (w : World) (hc : CAt w B t v) (hB : B ≤ w.heap.size) : Calls Tryz.prog 27 #[v] w (SaysF (flen t) w) := by
  rcases t with _ | ⟨kind, lvl, n, kids, fs⟩
  · exact hc.elim
  have hcall := fun (W : World) (C F : Nat) (hk : ∀ k, k < B → W.heap[k]? = w.heap[k]?) (hBW : B ≤ W.heap.size) (h1 : C ≠ F) (h2 : B ≤ C) (h3 : B ≤ F) (hC : Blk W C 3 #[.int .i64 0]) (hF : Blk W F 3 #[.int .i64 0]) => ccount_any C F B h1 h2 h3 _ v 0 0 W (hc.keep hk) hBW hC hF
  have HC := Lib.hid hcall
  obtain ⟨A, cap, fv, rfl, _⟩ := hc
  clear hcall
  generalize flen (.mk kind lvl n kids fs) = FL at *
  have hb3 : ∀ o1 o2 o3 : Obj, Below w.heap.size w (((w.alloc o1).alloc o2).alloc o3) := fun o1 o2 o3 =>
    (((Below.refl _ _).alloc (Nat.le_refl _) _).alloc (by simp) _).alloc (by simp; omega) _
  have HB3 := Lib.hid hb3
  clear hb3
  go_enter Tryz.func27, Tryz.ntmps27
  go_wp2_with fail
  refine (HC.out _ _ _ (fun k hk => (HB3.out _ _ _).block k (by omega)) (by simp; omega) (by omega) (by omega) (by omega) ((Blk.new2 w _ 3 #[.int .i64 0]).alloc _) (by
    have := Blk.new ((w.alloc (.cells #[.int .i64 kind, .int .i64 lvl, .slice A n cap, fv] 41)).alloc (.cells #[.int .i64 0] 3)) 3 #[.int .i64 0]
    simpa using this)).mono ?_
  rintro e w' ⟨bb, x, y, rfl, _, _, hk, hq⟩
  have HQ := Lib.hid hq
  clear hq
  have hb : Below w.heap.size w w' := by
    have h0 := HB3.out (.cells #[.int .i64 kind, .int .i64 lvl, .slice A n cap, fv] 41) (.cells #[.int .i64 0] 3) (.cells #[.int .i64 0] 3)
    exact ⟨hk.os.trans h0.os, hk.tape.trans h0.tape, hk.output.trans h0.output, Nat.le_trans h0.size hk.size, fun k hk1 => (hk.block k (by have := h0.size; omega) (by unfold CF; omega)).trans (h0.block k hk1)⟩
  clear hk
  go_wp2_with fail
  go_ret
  exact ⟨bb, rfl, hb, fun h => by have := HQ.out h (by omega) (by omega); omega⟩
end Go.Proofs.Zap
