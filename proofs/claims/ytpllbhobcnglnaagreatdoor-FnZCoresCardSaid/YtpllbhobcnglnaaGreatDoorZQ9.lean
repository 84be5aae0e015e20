/- a text of the claims over the seat; its order and aim: NOTES.md -/
import Derived.Test.YtpllbhobcnglnaaGreatDoorZQ4
import Derived.Test.YtpllbhobcnglnaaGreatDoorZT3
namespace Go.Proofs.Zap
open Go Go.Proofs Go.RowKit

def CF (C F : Nat) : Nat → Prop := fun k => k = C ∨ k = F

/-- a call that answers some bool, and leaves some number in either of two blocks -/
def Counts2 (w : World) (C F : Nat) (n : Nat) (y0 : Int) (e : Ending) (w' : World) : Prop :=
  ∃ (b : Bool) (x y : Int), e = .returned (.bool b) ∧ Blk w' C 3 #[.int .i64 x] ∧ Blk w' F 3 #[.int .i64 y] ∧ Kept (CF C F) w w' ∧ (b = false → 0 ≤ y0 → y0 ≤ 300 → y0 + n ≤ y ∧ y ≤ 300)

set_option maxHeartbeats 2000000 in
theorem ccount_any (C F B : Nat) (hCF : C ≠ F) (hBC : B ≤ C) (hBF : B ≤ F) (t : CT FC) : ∀ (v : Value) (x y : Int) (w : World), CAt w B t v → B ≤ w.heap.size → Blk w C 3 #[.int .i64 x] → Blk w F 3 #[.int .i64 y] →
    Calls Tryz.prog 69 #[v, .pointer (some ⟨C, 0, none⟩), .pointer (some ⟨F, 0, none⟩)] w (Counts2 w C F (flen t) y) := by
  induction t with
  | no => intro v x y w hc; exact hc.elim
  | mk kind lvl n kids fs ih =>
    intro v x y w hc hB hC hF
    obtain ⟨A, cap, fv, rfl, h2, h3, h4, ⟨d, hfl⟩, hbd, h6⟩ := hc
    clear hbd h4
    have H6 := Lib.hid h6
    have hCw := hC.lt
    have hFw := hF.lt
    have hcC : w.cell? ⟨C, 0, none⟩ = some (.int .i64 x) := hC.cell 0
    have hfz : w.frozen? ⟨C, 0, none⟩ = false := hC.frozen 0
    have hCs : Blk (w.setCell ⟨C, 0, none⟩ (.int .i64 (wrap64 (x + 1)))) C 3 #[.int .i64 (wrap64 (x + 1))] := by
      have := hC.set_ 0 (.int .i64 (wrap64 (x + 1))); simpa using this
    have hFs : Blk (w.setCell ⟨C, 0, none⟩ (.int .i64 (wrap64 (x + 1)))) F 3 #[.int .i64 y] :=
      (Below.heap_setCell w ⟨C, 0, none⟩ (.int .i64 (wrap64 (x + 1))) F (Ne.symm hCF)).trans hF
    have hks : Kept (CF C F) w (w.setCell ⟨C, 0, none⟩ (.int .i64 (wrap64 (x + 1)))) := Kept.set (S := CF C F) w (p := ⟨C, 0, none⟩) (.inl rfl) _
    have hsz : (w.setCell ⟨C, 0, none⟩ (.int .i64 (wrap64 (x + 1)))).heap.size = w.heap.size := by simp [World.setCell]
    have hCa := hCs.alloc (.cells #[.int .i64 kind, .int .i64 lvl, .slice A n cap, fv] 41)
    have hFa := hFs.alloc (.cells #[.int .i64 kind, .int .i64 lvl, .slice A n cap, fv] 41)
    have hXa : Blk ((w.setCell ⟨C, 0, none⟩ (.int .i64 (wrap64 (x + 1)))).alloc (.cells #[.int .i64 kind, .int .i64 lvl, .slice A n cap, fv] 41)) (w.setCell ⟨C, 0, none⟩ (.int .i64 (wrap64 (x + 1)))).heap.size 41 #[.int .i64 kind, .int .i64 lvl, .slice A n cap, fv] := Blk.new _ _ _
    rw [hsz] at hXa
    have hka : Kept (CF C F) w ((w.setCell ⟨C, 0, none⟩ (.int .i64 (wrap64 (x + 1)))).alloc (.cells #[.int .i64 kind, .int .i64 lvl, .slice A n cap, fv] 41)) := hks.trans (Kept.of_below ((Below.refl _ _).alloc (Nat.le_refl _) _))
    have HCA := Lib.hid hCa
    have HFA := Lib.hid hFa
    have HXA := Lib.hid hXa
    have HKA := Lib.hid hka
    have HFL := Lib.hid hfl
    clear hCs hFs hks hCa hFa hXa hka hfl h6 hC hF hsz
    by_cases b1 : 60 < wrap64 (x + 1)
    · go_enter Tryz.func69, Tryz.ntmps69
      go_wp2_with fail
      go_ret
      exact ⟨true, _, _, rfl, HCA.out, HFA.out, HKA.out, fun h => by cases h⟩
    by_cases b2 : 60 < (n : Int)
    · go_enter Tryz.func69, Tryz.ntmps69
      go_wp2_with fail
      go_ret
      exact ⟨true, _, _, rfl, HCA.out, HFA.out, HKA.out, fun h => by cases h⟩
    · go_enter Tryz.func69, Tryz.ntmps69
      go_wp2_with fail
      have hfs : FsOk ((w.setCell ⟨C, 0, none⟩ (.int .i64 (wrap64 (x + 1)))).alloc (.cells #[.int .i64 kind, .int .i64 lvl, .slice A n cap, fv] 41)) B (d + 1) fv := by
        refine (HFL.out.keep fun k hk => ?_).fs
        exact HKA.out.block k (by omega) (by unfold CF; omega)
      refine (zcount_any F B 30 (by omega) (d + 1) fv y _ hfs hBF (by have := HKA.out.size; omega) HFA.out).mono ?_
      rintro e w' ⟨bb, y2, rfl, hF2, hk2, hq2⟩
      have hs0 := HKA.out.size
      have hC2 : Blk w' C 3 #[.int .i64 (wrap64 (x + 1))] := (hk2.block C (by omega) hCF).trans HCA.out
      have hX2 : Blk w' w.heap.size 41 #[.int .i64 kind, .int .i64 lvl, .slice A n cap, fv] := (hk2.block _ HXA.out.lt (by omega)).trans HXA.out
      have hk3 : Kept (CF C F) w w' := HKA.out.trans ⟨hk2.os, hk2.tape, hk2.output, hk2.size, fun k hk hs => hk2.block k hk fun e => hs (.inr e)⟩
      have cF : w'.cell? ⟨F, 0, none⟩ = some (.int .i64 y2) := hF2.cell 0
      have HF2 := Lib.hid hF2
      have HC2 := Lib.hid hC2
      have HX2 := Lib.hid hX2
      have HK2 := Lib.hid hk3
      have hq3 : bb = false → 0 ≤ y → y ≤ 300 → y + fs.length ≤ y2 ∧ y2 ≤ 300 := by rw [← HFL.out.len]; exact hq2
      have HQ2 := Lib.hid hq3
      clear hq2 hq3
      clear hfs HCA HFA HXA HKA HFL hF2 hk2 hs0 hC2 hX2 hk3 hcC hfz
      cases bb
      case true =>
        go_wp2_with fail
        go_ret
        exact ⟨true, _, _, rfl, HC2.out, HF2.out, HK2.out, fun h => by cases h⟩
      case false =>
        by_cases b3 : 300 < y2
        · go_wp2_with fail
          go_ret
          exact ⟨true, _, _, rfl, HC2.out, HF2.out, HK2.out, fun h => by cases h⟩
        · go_wp2_with fail
          go_loopw [7] (fun i wr => ∃ (j : Nat) (x z : Int), i = .int .i64 j ∧ j ≤ n ∧ Hid (0 ≤ y → y ≤ 300 → y + fs.length + (sumN j fun i => flen (kids i)) ≤ z ∧ z ≤ 300) ∧ Hid (Blk wr C 3 #[.int .i64 x]) ∧ Hid (Blk wr F 3 #[.int .i64 z]) ∧ Hid (Blk wr w.heap.size 41 #[.int .i64 kind, .int .i64 lvl, .slice A n cap, fv]) ∧ Hid (Kept (CF C F) w wr)) (fun i _ => n - (intOf i).toNat)
          case atStart => exact ⟨0, _, _, rfl, by omega, Lib.hid (fun h0 h1 => by have := HQ2.out (by first | rfl | trivial) h0 h1; simp only [sumN]; omega), HC2, HF2, HX2, HK2⟩
          case round =>
            obtain ⟨j, x3, y3, rfl, hj, hQ3, hC3, hF3, hX3, hK3⟩ := hrel
            clear cF
            have hxc : wr.cell? ⟨w.heap.size, 2, none⟩ = some (.slice A n cap) := hX3.out.cell 2
            by_cases hlt : j < n
            · obtain ⟨b, o, rfl, hb, hcs⟩ := H6.out (by omega)
              obtain ⟨r0, r1, r2, r3, hrow, hcat⟩ := hcs j hlt
              have kb : ∀ k, k < B → wr.heap[k]? = w.heap[k]? := fun k hk => hK3.out.block k (by omega) (by unfold CF; omega)
              have hrow' := hrow.keep hb kb
              have hcat' := hcat.keep kb
              have c0 : wr.cell? ⟨b, o + j * 4, none⟩ = some r0 := hrow' 0 _ rfl
              have c1 : wr.cell? ⟨b, o + j * 4 + 1, none⟩ = some r1 := hrow' 1 _ rfl
              have c2 : wr.cell? ⟨b, o + j * 4 + 2, none⟩ = some r2 := hrow' 2 _ rfl
              have c3 : wr.cell? ⟨b, o + j * 4 + 3, none⟩ = some r3 := hrow' 3 _ rfl
              have q0 : (0 : Int) ≤ (j : Int) := Int.natCast_nonneg _
              have q1 : (j : Int) < (n : Int) := by omega
              have hcall := ih j _ x3 y3 wr hcat' (by have := hK3.out.size; omega) hC3.out hF3.out
              have HC := Lib.hid hcall
              clear hcall hcat hcat' hrow hrow' hcs kb
              go_wp2_with fail
              refine HC.out.mono ?_
              rintro e w4 ⟨bb, x4, y4, rfl, hC4, hF4, hk4, hq4⟩
              have HQ4 := Lib.hid hq4
              have HC4 := Lib.hid hC4
              have HF4 := Lib.hid hF4
              have HK4 := Lib.hid (hK3.out.trans hk4)
              have HX4 := Lib.hid (Eq.trans (hk4.block _ hX3.out.lt (by unfold CF; omega)) hX3.out : Blk w4 w.heap.size 41 #[.int .i64 kind, .int .i64 lvl, .slice (some ⟨b, o, none⟩) n cap, fv])
              clear hC4 hF4 hk4 hq4 hC3 hF3 hX3 hK3 hxc c0 c1 c2 c3
              cases bb
              · go_wp2_with fail
                go_roundw
                case rel => exact ⟨j + 1, x4, y4, by go_num, by omega, Lib.hid (fun h0 h1 => by have g1 := hQ3.out h0 h1; have g2 := HQ4.out (by first | rfl | trivial) (by omega) (by omega); simp only [sumN]; omega), HC4, HF4, HX4, HK4⟩
                case measure => simp [intOf]; omega
              · go_wp2_with fail
                go_ret
                exact ⟨true, _, _, rfl, HC4.out, HF4.out, HK4.out, fun h => by cases h⟩
            · go_wp2_with fail
              go_ret
              exact ⟨false, _, _, rfl, hC3.out, hF3.out, hK3.out, fun _ h0 h1 => by have g1 := hQ3.out h0 h1; have e : j = n := (by omega); subst e; simp only [flen]; omega⟩

/-- a call that answers some bool and changes nothing old; false: there are few fields -/
def SaysF (n : Nat) (w : World) (e : Ending) (w' : World) : Prop := ∃ b : Bool, e = .returned (.bool b) ∧ Below w.heap.size w w' ∧ (b = false → n ≤ 300)

set_option maxHeartbeats 2000000 in
theorem great_any (t : CT FC) (B : Nat) (v : Value) (w : World) (hc : CAt w B t v) (hB : B ≤ w.heap.size) : Calls Tryz.prog 27 #[v] w (SaysF (flen t) w) := by
  rcases t with _ | ⟨kind, lvl, n, kids, fs⟩
  · exact hc.elim
  have hcall := fun (W : World) (C F : Nat) (hk : ∀ k, k < B → W.heap[k]? = w.heap[k]?) (hBW : B ≤ W.heap.size) (h1 : C ≠ F) (h2 : B ≤ C) (h3 : B ≤ F) (hC : Blk W C 3 #[.int .i64 0]) (hF : Blk W F 3 #[.int .i64 0]) => ccount_any C F B h1 h2 h3 _ v 0 0 W (hc.keep hk) hBW hC hF
  have HC := Lib.hid hcall
  obtain ⟨A, cap, fv, rfl, _⟩ := hc
  clear hcall
  generalize flen (.mk kind lvl n kids fs) = FL at *
  have hb3 : ∀ o1 o2 o3 : Obj, Below w.heap.size w (((w.alloc o1).alloc o2).alloc o3) := fun o1 o2 o3 =>
    (((Below.refl _ _).alloc (Nat.le_refl _) _).alloc (by simp) _).alloc (by simp; omega) _
  have HB3 := Lib.hid hb3
  clear hb3
  go_enter Tryz.func27, Tryz.ntmps27
  go_wp2_with fail
  refine (HC.out _ _ _ (fun k hk => (HB3.out _ _ _).block k (by omega)) (by simp; omega) (by omega) (by omega) (by omega) ((Blk.new2 w _ 3 #[.int .i64 0]).alloc _) (by
    have := Blk.new ((w.alloc (.cells #[.int .i64 kind, .int .i64 lvl, .slice A n cap, fv] 41)).alloc (.cells #[.int .i64 0] 3)) 3 #[.int .i64 0]
    simpa using this)).mono ?_
  rintro e w' ⟨bb, x, y, rfl, _, _, hk, hq⟩
  have HQ := Lib.hid hq
  clear hq
  have hb : Below w.heap.size w w' := by
    have h0 := HB3.out (.cells #[.int .i64 kind, .int .i64 lvl, .slice A n cap, fv] 41) (.cells #[.int .i64 0] 3) (.cells #[.int .i64 0] 3)
    exact ⟨hk.os.trans h0.os, hk.tape.trans h0.tape, hk.output.trans h0.output, Nat.le_trans h0.size hk.size, fun k hk1 => (hk.block k (by have := h0.size; omega) (by unfold CF; omega)).trans (h0.block k hk1)⟩
  clear hk
  go_wp2_with fail
  go_ret
  exact ⟨bb, rfl, hb, fun h => by have := HQ.out h (by omega) (by omega); omega⟩
end Go.Proofs.Zap

namespace Go.Proofs.Zap
open Go Go.Proofs Go.RowKit

/-- a field as it is carried: a row of five cells -/
def CR (c : FC) : Array Value := #[.string c.key, .int .u8 27, .int .i64 0, .string ⟨#[]⟩, .iface 135 (.agg c.arr)]

/-- a slice of carried fields, its block in S -/
def GFs (w : World) (S : Nat → Prop) (fs : List FC) (v : Value) : Prop :=
  ∃ A cap, v = .slice A fs.length cap ∧ fs.length ≤ cap ∧ cap ≤ 9223372036854775807 ∧ (A = none → fs.length = 0 ∧ cap = 0) ∧
    (0 < fs.length → ∃ b o, A = some ⟨b, o, none⟩ ∧ S b ∧ ∀ i c, fs[i]? = some c → RowC w b (o + i * 5) (CR c))
theorem GFs.keep {w w' : World} {S : Nat → Prop} {fs : List FC} {v : Value} (h : GFs w S fs v) (hk : ∀ k, S k → w'.heap[k]? = w.heap[k]?) : GFs w' S fs v := by
  obtain ⟨A, cap, h1, h2, h3, h4, h5⟩ := h
  refine ⟨A, cap, h1, h2, h3, h4, fun hn => ?_⟩
  obtain ⟨b, o, e, hb, hc⟩ := h5 hn
  exact ⟨b, o, e, hb, fun i c hi j v hj => (World.cell?_of_block (w := w) (hk b hb)).trans (hc i c hi j v hj)⟩
theorem GFs.mono {w : World} {S S' : Nat → Prop} {fs : List FC} {v : Value} (h : GFs w S fs v) (hs : ∀ k, S k → S' k) : GFs w S' fs v := by
  obtain ⟨A, cap, h1, h2, h3, h4, h5⟩ := h
  refine ⟨A, cap, h1, h2, h3, h4, fun hn => ?_⟩
  obtain ⟨b, o, e, hb, hc⟩ := h5 hn
  exact ⟨b, o, e, hs b hb, hc⟩

/-- a built core in memory: its blocks in S, the notes at N -/
def RepG (ok : Prop) (Y : (Nat → Prop) → KT FC → Value → Prop) (w : World) (N : Nat) : KT FC → (Nat → Prop) → Value → Prop
  | .leaf lvl num fs, S, v => ∃ L g, v = .iface 201 (.pointer (some ⟨L, 0, none⟩)) ∧ S L ∧ Blk w L 205 #[.iface 129 (.int .i8 lvl), .int .i64 num, g, .pointer (some ⟨N, 0, none⟩)] ∧ GFs w S fs g ∧ -128 ≤ lvl ∧ lvl ≤ 127
  | .nop, _, v => v = .iface 318 (.agg #[])
  | .tee n kids, S, v => ∃ T cap, ∃ Sk : Nat → Nat → Prop, ∃ vs : Nat → Value, v = .iface 319 (.slice (some ⟨T, 0, none⟩) n cap) ∧ n ≤ cap ∧ cap ≤ 9223372036854775807 ∧ S T ∧
      (∀ i, i < n → (∀ k, Sk i k → S k) ∧ ¬ Sk i T ∧ (∀ j, j < n → j ≠ i → ∀ k, Sk i k → ¬ Sk j k) ∧ w.cell? ⟨T, i, none⟩ = some (vs i) ∧ RepG ok Y w N (kids i) (Sk i) (vs i))
  | .incr lvl k, S, v => ∃ I vc, ∃ S1 : Nat → Prop, v = .iface 321 (.pointer (some ⟨I, 0, none⟩)) ∧ S I ∧ Blk w I 323 #[vc, .iface 129 (.int .i8 lvl)] ∧ (∀ j, S1 j → S j) ∧ ¬ S1 I ∧ RepG ok Y w N k S1 vc ∧ -128 ≤ lvl ∧ lvl ≤ 127
  | .lazy k fs, S, v => ok ∧ ∃ Z vo g, ∃ S1 SG : Nat → Prop, v = .iface 324 (.pointer (some ⟨Z, 0, none⟩)) ∧ S Z ∧ (∀ j, S1 j → S j) ∧ (∀ j, SG j → S j) ∧ ¬ S1 Z ∧ ¬ SG Z ∧ (∀ j, SG j → ¬ S1 j) ∧ RepG ok Y w N k S1 vo ∧ GFs w SG fs g ∧
      (Blk w Z 326 #[.nilIface, vo, .bool false, g] ∨ ∃ vy, ∃ S2 : Nat → Prop, Blk w Z 326 #[vy, vo, .bool true, g] ∧ (∀ j, S2 j → S j) ∧ ¬ S2 Z ∧ (∀ j, S2 j → ¬ S1 j) ∧ Y S2 (withF fs k) vy)

def RepF (w : World) (N : Nat) (K : KT FC) (S : Nat → Prop) (v : Value) : Prop := RepG False (fun _ _ _ => False) w N K S v
def Rep (w : World) (N : Nat) (K : KT FC) (S : Nat → Prop) (v : Value) : Prop := RepG True (fun S2 K2 v2 => RepF w N K2 S2 v2) w N K S v

theorem RepG.keep {ok : Prop} {Y Y' : (Nat → Prop) → KT FC → Value → Prop} {w w' : World} {N : Nat} {K : KT FC} : ∀ {S : Nat → Prop} {v : Value}, (hY : ∀ S2 K2 v2, (∀ k, S2 k → S k) → Y S2 K2 v2 → Y' S2 K2 v2) → RepG ok Y w N K S v → (∀ k, S k → w'.heap[k]? = w.heap[k]?) → RepG ok Y' w' N K S v := by
  induction K with
  | leaf lvl num fs =>
    intro S v hY h hk
    obtain ⟨L, g, h1, h2, h3, h4, h5⟩ := h
    exact ⟨L, g, h1, h2, (hk L h2).trans h3, h4.keep hk, h5⟩
  | nop => intro S v hY h hk; exact h
  | tee n kids ih =>
    intro S v hY h hk
    obtain ⟨T, cap, Sk, vs, h1, h2, h3, h4, h5⟩ := h
    refine ⟨T, cap, Sk, vs, h1, h2, h3, h4, fun i hi => ?_⟩
    obtain ⟨g1, g2, g3, g4, g5⟩ := h5 i hi
    exact ⟨g1, g2, g3, (World.cell?_of_block (w := w) (hk T h4)).trans g4, ih i (fun S2 K2 v2 hs hy => hY S2 K2 v2 (fun k h => g1 k (hs k h)) hy) g5 fun k hk2 => hk k (g1 k hk2)⟩
  | incr lvl k ih =>
    intro S v hY h hk
    obtain ⟨I, vc, S1, h1, h2, h3, h4, h5, h6, h7⟩ := h
    exact ⟨I, vc, S1, h1, h2, (hk I h2).trans h3, h4, h5, ih (fun S2 K2 v2 hs hy => hY S2 K2 v2 (fun k h => h4 k (hs k h)) hy) h6 fun k hk2 => hk k (h4 k hk2), h7⟩
  | lazy k fs ih =>
    intro S v hY h hk
    obtain ⟨h0, Z, vo, g, S1, SG, h1, h2, h3, h4, h5, h6, h7, h8, h9, h10⟩ := h
    refine ⟨h0, Z, vo, g, S1, SG, h1, h2, h3, h4, h5, h6, h7, ih (fun S2 K2 v2 hs hy => hY S2 K2 v2 (fun k h => h3 k (hs k h)) hy) h8 fun k hk2 => hk k (h3 k hk2), h9.keep fun k hk2 => hk k (h4 k hk2), ?_⟩
    rcases h10 with h10 | ⟨vy, S2, g1, g2, g3, g4, g5⟩
    · exact .inl ((hk Z h2).trans h10)
    · exact .inr ⟨vy, S2, (hk Z h2).trans g1, g2, g3, g4, hY S2 _ vy g2 g5⟩
theorem RepF.keep {w w' : World} {N : Nat} {K : KT FC} {S : Nat → Prop} {v : Value} (h : RepF w N K S v) (hk : ∀ k, S k → w'.heap[k]? = w.heap[k]?) : RepF w' N K S v :=
  RepG.keep (fun _ _ _ _ h => h) h hk
theorem Rep.keep {w w' : World} {N : Nat} {K : KT FC} {S : Nat → Prop} {v : Value} (h : Rep w N K S v) (hk : ∀ k, S k → w'.heap[k]? = w.heap[k]?) : Rep w' N K S v :=
  RepG.keep (fun _ _ _ hs h => RepF.keep h fun k hk2 => hk k (hs k hk2)) h hk
theorem RepG.weaken {ok ok' : Prop} {Y Y' : (Nat → Prop) → KT FC → Value → Prop} (hok : ok → ok') (hY : ∀ S2 K2 v2, Y S2 K2 v2 → Y' S2 K2 v2) {w : World} {N : Nat} {K : KT FC} : ∀ {S : Nat → Prop} {v : Value}, RepG ok Y w N K S v → RepG ok' Y' w N K S v := by
  induction K with
  | leaf lvl num fs => intro S v h; exact h
  | nop => intro S v h; exact h
  | tee n kids ih =>
    intro S v h
    obtain ⟨T, cap, Sk, vs, h1, h2, h3, h4, h5⟩ := h
    refine ⟨T, cap, Sk, vs, h1, h2, h3, h4, fun i hi => ?_⟩
    obtain ⟨g1, g2, g3, g4, g5⟩ := h5 i hi
    exact ⟨g1, g2, g3, g4, ih i g5⟩
  | incr lvl k ih =>
    intro S v h
    obtain ⟨I, vc, S1, h1, h2, h3, h4, h5, h6, h7⟩ := h
    exact ⟨I, vc, S1, h1, h2, h3, h4, h5, ih h6, h7⟩
  | lazy k fs ih =>
    intro S v h
    obtain ⟨h0, Z, vo, g, S1, SG, h1, h2, h3, h4, h5, h6, h7, h8, h9, h10⟩ := h
    refine ⟨hok h0, Z, vo, g, S1, SG, h1, h2, h3, h4, h5, h6, h7, ih h8, h9, ?_⟩
    rcases h10 with h10 | ⟨vy, S2, g1, g2, g3, g4, g5⟩
    · exact .inl h10
    · exact .inr ⟨vy, S2, g1, g2, g3, g4, hY _ _ _ g5⟩
theorem RepF.rep {w : World} {N : Nat} {K : KT FC} {S : Nat → Prop} {v : Value} (h : RepF w N K S v) : Rep w N K S v :=
  RepG.weaken (fun h => h.elim) (fun _ _ _ h => h.elim) h
end Go.Proofs.Zap

namespace Go.Proofs.Zap
open Go Go.Proofs Go.RowKit

/-- a method call on an interface value -/
def Inv (v : Value) (name : String) (args : List Value) (w : World) (post : Ending → World → Prop) : Prop :=
  ∃ t p f r o, v = .iface t p ∧ (nilAhead 589 t p name).run Tryz.prog w = .ok o w ∧ o ≠ some true ∧ (method 589 t p name).run Tryz.prog w = .ok (f, r) w ∧
    (∀ (A : Array Value) (W : World), (callFunc f A).run Tryz.prog W = .ok (.enter f A) W) ∧ Calls Tryz.prog f (r :: args).toArray w post

set_option maxRecDepth 1000000
theorem nlL (l : Int) (w : World) : (nilAhead 589 129 (.int .i8 l) "Enabled").run Tryz.prog w = .ok (some false) w := by kernel_rfl
theorem mtL (l : Int) (w : World) : (method 589 129 (.int .i8 l) "Enabled").run Tryz.prog w = .ok (261, .int .i8 l) w := by kernel_rfl
theorem nlN (w : World) : (nilAhead 589 318 (.agg #[]) "Enabled").run Tryz.prog w = .ok (some false) w := by kernel_rfl
theorem mtN (w : World) : (method 589 318 (.agg #[]) "Enabled").run Tryz.prog w = .ok (399, .agg #[]) w := by kernel_rfl
theorem nlT (a : Option Addr) (n c : Nat) (w : World) : (nilAhead 589 319 (.slice a n c) "Enabled").run Tryz.prog w = .ok (some false) w := by kernel_rfl
theorem mtT (a : Option Addr) (n c : Nat) (w : World) : (method 589 319 (.slice a n c) "Enabled").run Tryz.prog w = .ok (404, .slice a n c) w := by kernel_rfl
theorem nlI (a : Addr) (w : World) : (nilAhead 589 321 (.pointer (some a)) "Enabled").run Tryz.prog w = .ok (some false) w := by kernel_rfl
theorem mtI (a : Addr) (w : World) : (method 589 321 (.pointer (some a)) "Enabled").run Tryz.prog w = .ok (411, .pointer (some a)) w := by kernel_rfl
theorem nlZ (a : Addr) (w : World) : (nilAhead 589 324 (.pointer (some a)) "Enabled").run Tryz.prog w = .ok (some false) w := by kernel_rfl
theorem mtZ (a : Addr) (w : World) : (method 589 324 (.pointer (some a)) "Enabled").run Tryz.prog w = .ok (417, .pointer (some a)) w := by kernel_rfl
theorem nlF (a : Addr) (w : World) : (nilAhead 589 201 (.pointer (some a)) "Enabled").run Tryz.prog w = .ok none w := by kernel_rfl
theorem flF (L : Nat) (w : World) : (method 589 201 (.pointer (some ⟨L, 0, none⟩)) "Enabled").run Tryz.prog w = ((loadVar 203 ⟨L, 0, none⟩ >>= fun x => match x with
   | .iface t' v' => method 588 t' v' "Enabled" | .nilIface => runtimePanic .nilDeref | _ => stuck "method row: interface value expected")).run Tryz.prog w := by kernel_rfl
theorem mtL8 (l : Int) (w : World) : (method 588 129 (.int .i8 l) "Enabled").run Tryz.prog w = .ok (261, .int .i8 l) w := by kernel_rfl
theorem mtF (L : Nat) (l : Int) (w : World) (h : w.cell? ⟨L, 0, none⟩ = some (.iface 129 (.int .i8 l))) : (method 589 201 (.pointer (some ⟨L, 0, none⟩)) "Enabled").run Tryz.prog w = .ok (261, .int .i8 l) w := by
  rw [flF, Sem.run_bind]
  have : (loadVar 203 ⟨L, 0, none⟩).run Tryz.prog w = .ok (.iface 129 (.int .i8 l)) w := by simp [loadVar, h]
  rw [this]
  exact mtL8 l w

/-- a call that answers v, and the world as it was -/
theorem lvlEn (a l : Int) (w : World) : Calls Tryz.prog 261 #[.int .i8 a, .int .i8 l] w (Says w (.bool (decide (a ≤ l)))) := by
  go_enter Tryz.func261, Tryz.ntmps261
  go_wp2_with fail
  go_ret
  exact ⟨rfl, Below.refl _ _⟩
theorem nopEn (l : Int) (w : World) : Calls Tryz.prog 399 #[.agg #[], .int .i8 l] w (Says w (.bool false)) := by
  go_enter Tryz.func399, Tryz.ntmps399
  go_wp2_with fail
  go_ret
  exact ⟨rfl, (Below.refl _ _).alloc (Nat.le_refl _) _⟩
theorem incEn (I : Nat) (vc : Value) (a l : Int) (w : World) (hb : Blk w I 323 #[vc, .iface 129 (.int .i8 a)]) : Calls Tryz.prog 411 #[.pointer (some ⟨I, 0, none⟩), .int .i8 l] w (Says w (.bool (decide (a ≤ l)))) := by
  have c1 : w.cell? ⟨I, 1, none⟩ = some (.iface 129 (.int .i8 a)) := hb.cell 1
  have n1 := fun a w => nlL a w
  have n2 := fun a w => mtL a w
  clear hb
  go_enter Tryz.func411, Tryz.ntmps411
  go_wp2_with (go_at_call 261; refine (lvlEn a l _).mono ?_; rintro e w1 ⟨rfl, hb1⟩)
  go_ret
  exact ⟨rfl, hb1⟩
theorem lazEn (Z : Nat) (x vo y g : Value) (b : Bool) (l : Int) (w : World) (hb : Blk w Z 326 #[x, vo, y, g]) (hi : Inv vo "Enabled" [.int .i8 l] w (Says w (.bool b))) : Calls Tryz.prog 417 #[.pointer (some ⟨Z, 0, none⟩), .int .i8 l] w (Says w (.bool b)) := by
  obtain ⟨t, p, f, r, o, rfl, i1, i2, i3, i5, i4⟩ := hi
  have c1 : w.cell? ⟨Z, 1, none⟩ = some (.iface t p) := hb.cell 1
  have I4 := Lib.hid i4
  have io : o = none ∨ o = some false := by rcases o with _ | _ | _ <;> simp at i2 ⊢
  clear hb i4 i2
  rcases io with rfl | rfl
  all_goals
    go_enter Tryz.func417, Tryz.ntmps417
    go_wp2_with fail
    refine I4.out.mono ?_
    rintro e w1 ⟨rfl, hb1⟩
    go_wp2_with fail
    go_ret
    exact ⟨rfl, hb1⟩
end Go.Proofs.Zap
