/- a text of the claims over the seat; its order and aim: NOTES.md -/
import Derived.Test.YtpllbhobcnglnaaGreatDoorZSA
import Derived.Laws.IdiomStrings
import Derived.Laws.BytesArg
namespace Go.Proofs.Zap
open Go Go.Proofs Go.RowKit

abbrev R15 (w' : World) (b o : Nat) (c : FC) (yA : Option Addr) (yn yc : Nat) (iA : Option Addr) (im ic : Nat) : Prop := w'.cell? ⟨b, o, none⟩ = some (.int .i64 c.kind) ∧ w'.cell? ⟨b, o + 1, none⟩ = some (.string c.key) ∧ w'.cell? ⟨b, o + 2, none⟩ = some (.int .i64 c.width) ∧ w'.cell? ⟨b, o + 3, none⟩ = some (.int .i64 c.int) ∧ w'.cell? ⟨b, o + 4, none⟩ = some (.int .u64 c.uint) ∧ w'.cell? ⟨b, o + 5, none⟩ = some (.int .u64 c.re) ∧ w'.cell? ⟨b, o + 6, none⟩ = some (.int .u64 c.im) ∧ w'.cell? ⟨b, o + 7, none⟩ = some (.string c.text) ∧ w'.cell? ⟨b, o + 8, none⟩ = some (.slice yA yn yc) ∧ w'.cell? ⟨b, o + 9, none⟩ = some (.bool c.zero) ∧ w'.cell? ⟨b, o + 10, none⟩ = some (.int .i64 c.nanos) ∧ w'.cell? ⟨b, o + 11, none⟩ = some (.int .i64 c.offs) ∧ w'.cell? ⟨b, o + 12, none⟩ = some (.string c.zone) ∧ w'.cell? ⟨b, o + 13, none⟩ = some (.slice iA im ic) ∧ w'.cell? ⟨b, o + 14, none⟩ = some (.string c.fail)
theorem r15 {w : World} {b o : Nat} {c : FC} {yA : Option Addr} {yn yc : Nat} {iA : Option Addr} {im ic : Nat} (h : RowC w b o c.arr) (e1 : c.bytes = .slice yA yn yc) (e2 : c.items = .slice iA im ic) : R15 w b o c yA yn yc iA im ic :=
  ⟨h 0 _ rfl, h 1 _ rfl, h 2 _ rfl, h 3 _ rfl, h 4 _ rfl, h 5 _ rfl, h 6 _ rfl, h 7 _ rfl, (h 8 _ rfl : w.cell? ⟨b, o + 8, none⟩ = some c.bytes).trans (by rw [e1]), h 9 _ rfl, h 10 _ rfl, h 11 _ rfl, h 12 _ rfl, (h 13 _ rfl : w.cell? ⟨b, o + 13, none⟩ = some c.items).trans (by rw [e2]), h 14 _ rfl⟩

/-- 'string(b)' of bytes that are handed in -/
theorem conv_ok {w : World} {B : Nat} {v : Value} (h : BytesOk w B v) : ∃ s : ByteArray, ∀ W, (∀ k, k < B → W.heap[k]? = w.heap[k]?) → (convert 31 9 v).run Tryz.prog W = .ok (.string s) W := by
  obtain ⟨A, n, cap, rfl, h2, h3, h4, h5⟩ := h
  rcases A with _ | a
  · exact ⟨ByteArray.empty, fun W _ => run_convert_bytes_nil W 31 5 Tryz.underlying31 Tryz.underlying5 n cap 9 Tryz.underlying9⟩
  · by_cases hn : 0 < n
    · obtain ⟨b, o, e, hb, hc⟩ := h5 hn
      injection e with e
      subst e
      have hch : ∀ i : Fin n, ∃ x : UInt8, w.cell? ⟨b, o + i, none⟩ = some (.int .u8 x.toNat) := fun i => hc i i.2
      obtain ⟨f, hf⟩ := Classical.axiomOfChoice hch
      refine ⟨⟨(List.ofFn f).toArray⟩, fun W hk => ?_⟩
      have := run_convert_bytes_back W 31 9 5 ⟨b, o, none⟩ cap (List.ofFn f) Tryz.underlying31 Tryz.underlying5 Tryz.underlying9 fun j hj => ?_
      · rw [List.length_ofFn] at this; exact this
      · have hj' : j < n := by simpa using hj
        have ea : (⟨b, o, none⟩ : Addr).add j = ⟨b, o + j, none⟩ := by
          unfold Addr.add
          first | rfl | (split <;> simp_all)
        rw [ea]
        have h1 := (World.cell?_of_block (w := w) (a := ⟨b, o + j, none⟩) (hk b hb)).trans (hf ⟨j, hj'⟩)
        simpa using h1
    · have e0 : n = 0 := by omega
      subst e0
      exact ⟨⟨([] : List UInt8).toArray⟩, fun W _ => run_convert_bytes_back W 31 9 5 a cap [] Tryz.underlying31 Tryz.underlying5 Tryz.underlying9 fun j hj => by simp at hj⟩

/-- a slice of fields as a list -/
theorem fsok_vfs {w : World} {B d : Nat} {v : Value} (h : FsOk w B (d + 1) v) : ∃ fs : List FC, VFs w (fun k => k < B) fs v ∧ ∀ c, c ∈ fs → BytesOk w B c.bytes ∧ FsOk w B d c.items := by
  obtain ⟨A, n, cap, rfl, h2, h3, ⟨h4, _⟩, h5⟩ := h
  by_cases hn : 0 < n
  · obtain ⟨b, o, e, hb, hc⟩ := h5 hn
    have hch : ∀ i : Fin n, ∃ c : FC, RowC w b (o + i * 15) c.arr ∧ BytesOk w B c.bytes ∧ FsOk w B d c.items := fun i => by
      obtain ⟨c, g1, g2, g3, _⟩ := hc i i.2; exact ⟨c, g1, g2, g3⟩
    obtain ⟨f, hf⟩ := Classical.axiomOfChoice hch
    refine ⟨List.ofFn f, ⟨A, cap, by simp, by simpa using h2, h3, fun h => by simpa using h4 h, fun _ => ⟨b, o, e, hb, fun i c hi => ?_⟩⟩, fun c hcm => ?_⟩
    · have hi' : i < n := by
        have := (List.getElem?_eq_some_iff.1 hi).1; simpa using this
      have e2 : c = f ⟨i, hi'⟩ := by
        have := (List.getElem?_eq_some_iff.1 hi).2; rw [← this]; simp
      rw [e2]; exact (hf ⟨i, hi'⟩).1
    · obtain ⟨i, rfl⟩ := (List.mem_ofFn ..).1 hcm
      exact (hf i).2
  · have e0 : n = 0 := by omega
    subst e0
    exact ⟨[], ⟨A, cap, rfl, h2, h3, h4, fun h => by simp at h⟩, fun c hc => by cases hc⟩

set_option maxRecDepth 100000 in
set_option maxHeartbeats 8000000 in
theorem same_any (B : Nat) : ∀ (d : Nat) (fs : List FC) (v1 v2 : Value) (S1 S2 : Nat → Prop) (w : World), VFs w S1 fs v1 → VFs w S2 fs v2 → (∀ k, S1 k → k < w.heap.size) → (∀ k, S2 k → k < w.heap.size) → (∀ c, c ∈ fs → BytesOk w B c.bytes ∧ FsOk w B d c.items) → B ≤ w.heap.size →
    Calls Tryz.prog 44 #[v1, v2] w (Says w (.bool true)) := by
  intro d
  induction d with
  | zero =>
    intro fs v1 v2 S1 S2 w h1 h2 hS1 hS2 hc hB
    have e0 : fs = [] := by
      rcases fs with _ | ⟨c, fs⟩
      · rfl
      · exact ((hc c (List.mem_cons_self ..)).2).elim
    subst e0
    obtain ⟨A1, c1, rfl, -⟩ := h1
    obtain ⟨A2, c2, rfl, -⟩ := h2
    simp only [List.length_nil]
    clear hS1 hS2 hc hB
    go_enter Tryz.func44, Tryz.ntmps44
    go_wp2_with fail
    refine wp_loop_rounds 1 ?_
    rw [rounds_succ]
    go_wp2_with fail
    go_ret
    exact ⟨rfl, Below.refl _ _⟩
  | succ d ih =>
    intro fs v1 v2 S1 S2 w h1 h2 hS1 hS2 hc hB
    obtain ⟨A1, c1, rfl, a2, a3, a4, a5⟩ := h1
    obtain ⟨A2, c2, rfl, b2, b3, b4, b5⟩ := h2
    have H1 := Lib.hid a5
    have H2 := Lib.hid b5
    have HS1 := Lib.hid hS1
    have HS2 := Lib.hid hS2
    have HC := Lib.hid hc
    have HB0 := Lib.hid (Below.refl w.heap.size w)
    generalize hn : fs.length = n at *
    have HN := Lib.hid hn
    have HIH := Lib.hid ih
    have ne : ((n : Int) != (n : Int)) = false := by simp
    clear a4 a5 b4 b5 hS1 hS2 hc hn ih
    go_enter Tryz.func44, Tryz.ntmps44
    go_wp2_with fail
    go_loopw [5] (fun i wr => ∃ j : Nat, i = .int .i64 j ∧ j ≤ n ∧ Hid (Below w.heap.size w wr)) (fun i _ => n - (intOf i).toNat)
    case atStart => exact ⟨0, rfl, by omega, HB0⟩
    case round =>
      obtain ⟨j, rfl, hj, hbl⟩ := hrel
      by_cases hlt : j < n
      · obtain ⟨c, hcj⟩ : ∃ c, fs[j]? = some c := ⟨fs[j]'(by have := HN.out; omega), by simp⟩
        obtain ⟨p1, o1, rfl, hp1, hr1⟩ := H1.out (by omega)
        obtain ⟨p2, o2, rfl, hp2, hr2⟩ := H2.out (by omega)
        have hw1 := HS1.out p1 hp1
        have hw2 := HS2.out p2 hp2
        have hsz := hbl.out.size
        obtain ⟨hby, hit⟩ := HC.out c (List.mem_of_getElem? hcj)
        obtain ⟨fs2, hv2, hc2⟩ := fsok_vfs hit
        obtain ⟨s, hconv⟩ := conv_ok hby
        obtain ⟨yA, yn, yc, hye, _⟩ := hby
        obtain ⟨iA, ic, hie, _⟩ := id hv2
        have k1 : ∀ o, wr.cell? ⟨p1, o, none⟩ = w.cell? ⟨p1, o, none⟩ := fun o => World.cell?_of_block (w := w) (hbl.out.block p1 hw1)
        have k2 : ∀ o, wr.cell? ⟨p2, o, none⟩ = w.cell? ⟨p2, o, none⟩ := fun o => World.cell?_of_block (w := w) (hbl.out.block p2 hw2)
        have hR1 : R15 wr p1 (o1 + j * 15) c yA yn yc iA fs2.length ic := r15 (fun q v hq => (k1 _).trans (hr1 j c hcj q v hq)) hye hie
        have hR2 : R15 wr p2 (o2 + j * 15) c yA yn yc iA fs2.length ic := r15 (fun q v hq => (k2 _).trans (hr2 j c hcj q v hq)) hye hie
        have hcall := fun (W : World) (hW : Below w.heap.size w W) => HIH.out fs2 c.items c.items (fun k => k < B) (fun k => k < B) W (hv2.keep fun k hk => hW.block k (by omega)) (hv2.keep fun k hk => hW.block k (by omega)) (fun k hk => Nat.lt_of_lt_of_le hk (Nat.le_trans hB hW.size)) (fun k hk => Nat.lt_of_lt_of_le hk (Nat.le_trans hB hW.size))
          (fun c' hc' => ⟨(hc2 c' hc').1.keep fun k hk => hW.block k (by omega), (hc2 c' hc').2.keep fun k hk => hW.block k (by omega)⟩) (Nat.le_trans hB hW.size)
        rw [hye] at hconv
        rw [hie] at hcall
        have q0 : (0 : Int) ≤ (j : Int) := Int.natCast_nonneg _
        have q1 : (j : Int) < (n : Int) := by omega
        have HCONV := Lib.hid hconv
        have HCALL := Lib.hid hcall
        have hp1w : p1 < wr.heap.size := by omega
        have hp2w : p2 < wr.heap.size := by omega
        have hkp : ∀ w', Below wr.heap.size wr w' → R15 w' p1 (o1 + j * 15) c yA yn yc iA fs2.length ic ∧ R15 w' p2 (o2 + j * 15) c yA yn yc iA fs2.length ic := fun w' hb => by
          have k3 : ∀ o, w'.cell? ⟨p1, o, none⟩ = wr.cell? ⟨p1, o, none⟩ := fun o => World.cell?_of_block (w := wr) (hb.block p1 hp1w)
          have k4 : ∀ o, w'.cell? ⟨p2, o, none⟩ = wr.cell? ⟨p2, o, none⟩ := fun o => World.cell?_of_block (w := wr) (hb.block p2 hp2w)
          exact ⟨r15 (fun q v hq => (k3 _).trans ((k1 _).trans (hr1 j c hcj q v hq))) hye hie, r15 (fun q v hq => (k4 _).trans ((k2 _).trans (hr2 j c hcj q v hq))) hye hie⟩
        have HKP := Lib.hid hkp
        obtain ⟨W6, h6e, h6a, h6b, h6c⟩ : ∃ W6, W6 = ((wr.alloc (.cells #[.int .i64 c.kind, .string c.key, .int .i64 c.width, .int .i64 c.int, .int .u64 c.uint, .int .u64 c.re, .int .u64 c.im, .string c.text, .slice yA yn yc, .bool c.zero, .int .i64 c.nanos, .int .i64 c.offs, .string c.zone, .slice iA fs2.length ic, .string c.fail] 135)).alloc (.cells #[.int .i64 c.kind, .string c.key, .int .i64 c.width, .int .i64 c.int, .int .u64 c.uint, .int .u64 c.re, .int .u64 c.im, .string c.text, .slice yA yn yc, .bool c.zero, .int .i64 c.nanos, .int .i64 c.offs, .string c.zone, .slice iA fs2.length ic, .string c.fail] 135)).drew ∧ Blk W6 wr.heap.size 135 #[.int .i64 c.kind, .string c.key, .int .i64 c.width, .int .i64 c.int, .int .u64 c.uint, .int .u64 c.re, .int .u64 c.im, .string c.text, .slice yA yn yc, .bool c.zero, .int .i64 c.nanos, .int .i64 c.offs, .string c.zone, .slice iA fs2.length ic, .string c.fail] ∧ Blk W6 (wr.heap.size + 1) 135 #[.int .i64 c.kind, .string c.key, .int .i64 c.width, .int .i64 c.int, .int .u64 c.uint, .int .u64 c.re, .int .u64 c.im, .string c.text, .slice yA yn yc, .bool c.zero, .int .i64 c.nanos, .int .i64 c.offs, .string c.zone, .slice iA fs2.length ic, .string c.fail] ∧ Below w.heap.size w W6 :=
          ⟨_, rfl, ((Blk.new wr 135 _).alloc _).drew, (Blk.new2 wr _ 135 _).drew, ((hbl.out.alloc hsz _).alloc (by simp; omega) _).drew⟩
        have H6E := Lib.hid h6e
        have H6A := Lib.hid h6a
        have H6B := Lib.hid h6b
        have H6C := Lib.hid h6c
        have HC7 := Lib.hid (hcall W6 h6c)
        have HV7 := Lib.hid (hconv W6 (fun k hk => h6c.block k (by omega)))
        clear h6e h6a h6b h6c
        obtain ⟨x0, x1, x2, x3, x4, x5, x6, x7, x8, x9, x10, x11, x12, x13, x14⟩ := hR1
        obtain ⟨y0, y1, y2, y3, y4, y5, y6, y7, y8, y9, y10, y11, y12, y13, y14⟩ := hR2
        generalize fs2.length = im at *
        clear hconv hcall k1 k2 hr1 hr2 hit hv2 hc2 hkp hp1w hp2w
        go_wp2_with fail
        go_region_held3 (fun w' => R15 w' p1 (o1 + j * 15) c yA yn yc iA im ic ∧ R15 w' p2 (o2 + j * 15) c yA yn yc iA im ic) (first | exact HKP.out _ (by ((repeat' (first | with_reducible exact Below.refl _ _ | with_reducible refine Below.drew ?_ | with_reducible refine Below.alloc ?_ ?_ _ | with_reducible refine Below.setCell ?_ ?_ _ | with_reducible refine below_setRow ?_ ?_ _)) <;> (first | exact Nat.le_refl _ | (simp; done) | (simp [World.setCell, World.setRow]; omega) | omega)))) (fail)
        all_goals
          clear HKP x0 x1 x2 x3 x4 x5 x6 x7 x8 x9 x10 x11 x12 x13 x14 y0 y1 y2 y3 y4 y5 y6 y7 y8 y9 y10 y11 y12 y13 y14
          generalize hWW : World.drew (World.alloc (wr.alloc _) _) = W1
          obtain rfl : W1 = W6 := hWW.symm.trans H6E.out.symm
          clear hWW H6E
          have z0 := H6A.out.cell 0
          have u0 := H6B.out.cell 0
          have z1 := H6A.out.cell 1
          have u1 := H6B.out.cell 1
          have z2 := H6A.out.cell 2
          have u2 := H6B.out.cell 2
          have z3 := H6A.out.cell 3
          have u3 := H6B.out.cell 3
          have z4 := H6A.out.cell 4
          have u4 := H6B.out.cell 4
          have z5 := H6A.out.cell 5
          have u5 := H6B.out.cell 5
          have z6 := H6A.out.cell 6
          have u6 := H6B.out.cell 6
          have z7 := H6A.out.cell 7
          have u7 := H6B.out.cell 7
          have z8 := H6A.out.cell 8
          have u8 := H6B.out.cell 8
          have z9 := H6A.out.cell 9
          have u9 := H6B.out.cell 9
          have z10 := H6A.out.cell 10
          have u10 := H6B.out.cell 10
          have z11 := H6A.out.cell 11
          have u11 := H6B.out.cell 11
          have z12 := H6A.out.cell 12
          have u12 := H6B.out.cell 12
          have z13 := H6A.out.cell 13
          have u13 := H6B.out.cell 13
          have z14 := H6A.out.cell 14
          have u14 := H6B.out.cell 14
          simp at z0 u0 z1 u1 z2 u2 z3 u3 z4 u4 z5 u5 z6 u6 z7 u7 z8 u8 z9 u9 z10 u10 z11 u11 z12 u12 z13 u13 z14 u14
          have hv7 := HV7.out
          go_wp2_with (go_at_call 44; refine HC7.out.mono ?_; rintro e w7 ⟨rfl, hb7⟩)
          have HB7 := Lib.hid (H6C.out.trans (hb7.mono H6C.out.size))
          clear hb7 hv7 z0 u0 z1 u1 z2 u2 z3 u3 z4 u4 z5 u5 z6 u6 z7 u7 z8 u8 z9 u9 z10 u10 z11 u11 z12 u12 z13 u13 z14 u14
          go_wp2_with fail
          go_roundw
          case rel => exact ⟨j + 1, by go_num, by omega, HB7⟩
          case measure => simp [intOf]; omega
      · have ej : j = n := by omega
        subst ej
        go_wp2_with fail
        go_ret
        exact ⟨rfl, hbl.out⟩
end Go.Proofs.Zap
