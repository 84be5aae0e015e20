/- a text of the claims over the seat; its order and aim: NOTES.md -/
import Derived.Test.YtpllbhobcnglnaaGreatDoorZSA
namespace Go.Proofs.Zap
open Go Go.Proofs Go.RowKit

/-- what ZWrite answers -/
def ZwP (t : CT FC) (EL : List ZE) (FL : List (List FC)) (w : World) (e : Ending) (w' : World) : Prop :=
  Below w.heap.size w w' ∧ ((makes t = true ∧ ∃ u T, e = .returned (.tuple #[u, .bool true]) ∧ SeenO w' T u (seenOf t EL FL EL.length) ∧ ∀ k, T k → NewB w w' k) ∨ (makes t = false ∧ e = .returned (.tuple #[.slice none 0 0, .bool false])))

theorem SeenO.form {w : World} {T : Nat → Prop} {u : Value} {D : List (Nat × Nat × List FC)} (h : SeenO w T u D) : ∃ A c, u = .slice A D.length c := by
  obtain ⟨SL, h1, h2, h3, h4⟩ := h
  obtain ⟨A, c, e⟩ := ownsRow_shape h2
  exact ⟨A, c, by rw [e, ← h1]; simp⟩
theorem seen0 {w : World} : SeenO w (fun _ => False) (.slice none 0 0) [] := by
  refine ⟨[], rfl, ⟨rfl, .inl ⟨rfl, rfl⟩⟩, ?_, ?_⟩
  · intro k hk; cases hk
  · intro x hx; cases hx
theorem lvs_bld (t : CT FC) : ∀ (d c : Nat), fine t d = true → lvs (bld t c) ≤ cnt t := by
  induction t with
  | no => intro d c hf; exact absurd hf (by simp [fine])
  | mk kind lvl n kids fs ih =>
    intro d c hf
    obtain ⟨k0, k5, hd, hn, h1, h0, hk⟩ := fine_parts hf
    by_cases e0 : kind = 0
    · subst e0; simp [bld, lvs, cnt]
    by_cases e5 : kind = 5
    · subst e5; simp [bld, lvs, cnt]
    simp only [bld, cnt, e0, e5, if_false]
    by_cases e1 : kind = 1
    · rw [if_pos e1]
      by_cases n0 : n = 0
      · rw [if_pos n0]; simp [lvs]
      by_cases n1 : n = 1
      · subst n1
        rw [if_neg n0, if_pos rfl]
        have := ih 0 (d - 1) c (hk 0 (by omega))
        simp only [sumN]; omega
      · rw [if_neg n0, if_neg n1]
        simp only [lvs]
        have : ∀ m, m ≤ n → (sumN m fun i => lvs (bld (kids i) (c + sumN i fun j => cnt (kids j)))) ≤ sumN m fun i => cnt (kids i) := by
          intro m
          induction m with
          | zero => intro _; exact Nat.le_refl _
          | succ m ihm =>
            intro hm
            have a := ihm (by omega)
            have b := ih m (d - 1) (c + sumN m fun j => cnt (kids j)) (hk m (by omega))
            simp only [sumN]; omega
        exact this n (Nat.le_refl _)
    · rw [if_neg e1]
      have n1 := h1 (by omega)
      have b := ih 0 (d - 1) c (hk 0 (by omega))
      have hs : (sumN n fun i => cnt (kids i)) = cnt (kids 0) := by rw [n1]; simp [sumN]
      rw [hs]
      split
      · simp only [lvs]; exact b
      · split
        · rw [lvs_withF]; exact b
        · simp only [lvs]; exact b
theorem nl_any {w : World} {N : Nat} {K : KT FC} {S : Nat → Prop} {t : TypeId} {p : Value} (h : RepR w N K S (.iface t p)) : ∀ W, (nilAhead 589 t p "Check").run Tryz.prog W = .ok (some false) W := by
  cases K with
  | leaf lvl num fs => obtain ⟨L, g, h1, _⟩ := h; cases h1; exact fun W => nlCL _ W
  | nop => cases h; exact fun W => nlCN W
  | tee n kids => obtain ⟨T, cap, Sk, vs, h1, _⟩ := h; cases h1; exact fun W => nlCT _ _ _ W
  | incr lvl k => obtain ⟨I, vc, S1, h1, _⟩ := h; cases h1; exact fun W => nlCI _ W
  | lazy k fs => obtain ⟨Z, vo, g, S1, SG, h1, _⟩ := h; cases h1; exact fun W => nlCZ _ W
theorem FlOk.toG {w : World} : GFs w (fun _ => False) [] (.slice none 0 0) := ⟨none, 0, rfl, by simp, by omega, fun _ => ⟨rfl, rfl⟩, fun h => by simp at h⟩

set_option maxRecDepth 100000 in
set_option maxHeartbeats 8000000 in
theorem zwrite_any (t : CT FC) (hf : fine t 6 = true) (v : Value) (EL : List ZE) (FL : List (List FC)) (ev fv : Value) (B : Nat) (w : World) (hc : CAt w B t v) (hE : ELk w B EL ev) (hF : FFk w B FL fv) (hB : B ≤ w.heap.size) (hfl : flen t ≤ 300) (hn20 : EL.length ≤ 20) (hg3 : ∀ fs, fs ∈ FL → fs.length ≤ 300) :
    Calls Tryz.prog 42 #[v, ev, fv] w (ZwP t EL FL w) := by
  obtain ⟨xk, xl, xA, xn, xc, xfA, xfn, xfc, rfl⟩ := hc.form
  have hct : cnt t ≤ 46656 := cnt_le t 6 hf
  have hcore := fun (W : World) (hW : Below w.heap.size w W) (N : Nat) (hN : w.heap.size ≤ N) (hb : Blk W N 128 #[.int .i64 0, .int .i64 (0 : Nat), .slice none 0 0]) => core_any t 6 hf _ B N 0 (.int .i64 0) (.slice none 0 0) W (hc.keep fun k hk => hW.block k (by omega)) (by omega) hb hfl (by omega)
  have HCO := Lib.hid hcore
  have hb0 : ∀ o1 o2 : Obj, Below w.heap.size w ((w.alloc o1).alloc o2) := fun o1 o2 => ((Below.refl _ _).alloc (Nat.le_refl _) _).alloc (by simp) _
  have HB0 := Lib.hid hb0
  have hpz := zl_pz t _ hc
  have hzl := zl_len t
  have hwm : ∀ l d, d ∈ wrK (bld t 0) l → (∀ n, n ≤ 300 → d.2.length + n ≤ 1000000) ∧ ∀ c, c ∈ d.2 → (∃ a n m, c.bytes = .slice a n m) ∧ ∃ a n m, c.items = .slice a n m := fun l d hd => by
    rw [wr_bld l t 6 0 hf] at hd
    obtain ⟨y, hy, e⟩ := pick_mem l _ _ d hd
    rw [e]
    exact ⟨fun n hn => by have := hzl y hy; omega, fun c hc => (hpz y hy c hc).fmd⟩
  have HWM := Lib.hid hwm
  have hflb : fl (bld t 0) (flen t) := fl_bld t 6 0 hf
  have HFLB := Lib.hid hflb
  have HFL6 : Hid (flen t ≤ 1000000) := Lib.hid (by omega)
  have hlvs : ([] : List Nat).length + lvs (bld t 0) ≤ 1000000 := by
    have : lvs (bld t 0) ≤ cnt t := lvs_bld t 6 0 hf
    simp; omega
  have HLVS := Lib.hid hlvs
  have HLEN := Lib.hid (seenOf_len t EL FL hf)
  have HWL := Lib.hid (fun l => wr_len t l hf)
  have HG3 := Lib.hid hg3
  obtain ⟨eA, ec, rfl, e2, e3, e4, e5⟩ := hE
  obtain ⟨fA, fc, rfl, f2, f3, f4, f5⟩ := hF
  have HE5 := Lib.hid e5
  have HF5 := Lib.hid f5
  have HCC := Lib.hid hct
  generalize hen : EL.length = en at *
  generalize hfn : FL.length = fn at *
  have HEN := Lib.hid hen
  have HFN := Lib.hid hfn
  clear hcore hb0 hc hpz hzl hwm hflb hlvs hg3 e4 e5 f4 f5 hen hfn hct hfl
  go_enter Tryz.func42, Tryz.ntmps42
  go_wp2_with fail
  refine (HCO.out _ (HB0.out _ _) (w.heap.size + 1) (by omega) (Blk.new2 w _ 128 _)).mono ?_
  rintro e w1 ⟨hk, ⟨hm, v, rfl, hnb, hr⟩ | ⟨hm, rfl, x, hnb⟩⟩
  · have h0 := HB0.out (.cells #[.int .i64 xk, .int .i64 xl, .slice xA xn xc, .slice xfA xfn xfc] 41) (.cells #[.int .i64 0, .int .i64 0, .slice none 0 0] 128)
    have hbl : Below w.heap.size w w1 := 
      ⟨hk.os.trans h0.os, hk.tape.trans h0.tape, hk.output.trans h0.output, Nat.le_trans h0.size hk.size, fun k hk1 => (hk.block k (Nat.lt_of_lt_of_le hk1 h0.size) (by omega)).trans (h0.block k hk1)⟩
    have hzi : ZwI w w1 (w.heap.size + 1) (.int .i64 ((0 + cnt t : Nat) : Int)) (bld t 0) v (seenOf t EL FL 0) :=
      ⟨hbl, by omega, 0, _, fun _ => False, _, hnb, seen0, hr.toR, fun k hk => hk.elim, fun k hk => ⟨by have h1 : _ ≤ k := hk.1; simp at h1; omega, hk.2⟩, fun k _ hk => hk⟩
    obtain ⟨ct, cp, rfl⟩ := RepG.form hr
    have HNL := Lib.hid (nl_any (RepU.toR hr))
    have HZI := Lib.hid hzi
    have HM := Lib.hid hm
    clear hk hm hnb hr h0 hbl hzi HCO HB0
    generalize hlvv : (Value.int IntKind.i64 ((0 + cnt t : Nat) : Int)) = lvv at *
    clear hlvv
    go_wp2_with fail
    go_loopw [27] (fun i wr => ∃ j : Nat, i = .int .i64 j ∧ j ≤ en ∧ Hid (ZwI w wr (w.heap.size + 1) lvv (bld t 0) (.iface ct cp) (seenOf t EL FL j))) (fun i _ => en - (intOf i).toNat)
    case atStart => exact ⟨0, rfl, by omega, HZI⟩
    case round =>
      obtain ⟨j, rfl, hj, hzi⟩ := hrel
      obtain ⟨ent, u, T, S, b1, b2, b3, b4, b5, b6⟩ := hzi.out.st
      have hsz := hzi.out.below.size
      have hNl := b1.lt
      obtain ⟨uA, uc, rfl⟩ := b2.form
      by_cases hlt : j < en
      · obtain ⟨z, hz⟩ : ∃ z, EL[j]? = some z := ⟨EL[j]'(by have := HEN.out; omega), by simp⟩
        obtain ⟨eb, eo, rfl, heb, hecs⟩ := HE5.out (by omega)
        obtain ⟨hrow, hn1, hn2⟩ := hecs j z hz
        have hrow' := hrow.keep heb (w' := wr) fun k hk => hzi.out.below.block k (by omega)
        have hlv : lvAt EL j = w8 z.lv := by simp [lvAt, hz]
        have hnx := seenOf_succ t EL FL j
        rw [hlv] at hnx
        have hdd : (seenOf t EL FL j).length + (wrK (bld t 0) (w8 z.lv)).length ≤ 1000000 := by
          have h1 := HLEN.out j
          have h2 := HWL.out (w8 z.lv)
          omega
        have HNX := Lib.hid hnx
        have HDD := Lib.hid hdd
        have HN1 := Lib.hid hn1
        have HN2 := Lib.hid hn2
        have HMM : Hid (∀ d, d ∈ wrK (bld t 0) (w8 z.lv) → ∀ n, n ≤ 300 → d.2.length + n ≤ 1000000) := Lib.hid fun d hd => (HWM.out _ d hd).1
        have HFM : Hid (∀ d, d ∈ wrK (bld t 0) (w8 z.lv) → ∀ c, c ∈ d.2 → (∃ a n m, c.bytes = .slice a n m) ∧ ∃ a n m, c.items = .slice a n m) := Lib.hid fun d hd => (HWM.out _ d hd).2
        have r0 : wr.cell? ⟨eb, eo + j * 12, none⟩ = some (.int .i64 z.lv) := hrow' 0 _ rfl
        have r1 : wr.cell? ⟨eb, eo + j * 12 + 1, none⟩ = some (.bool z.zero) := hrow' 1 _ rfl
        have r2 : wr.cell? ⟨eb, eo + j * 12 + 2, none⟩ = some (.int .i64 z.nanos) := hrow' 2 _ rfl
        have r3 : wr.cell? ⟨eb, eo + j * 12 + 3, none⟩ = some (.int .i64 z.offs) := hrow' 3 _ rfl
        have r4 : wr.cell? ⟨eb, eo + j * 12 + 4, none⟩ = some (.string z.zone) := hrow' 4 _ rfl
        have r5 : wr.cell? ⟨eb, eo + j * 12 + 5, none⟩ = some (.string z.lg) := hrow' 5 _ rfl
        have r6 : wr.cell? ⟨eb, eo + j * 12 + 6, none⟩ = some (.string z.ms) := hrow' 6 _ rfl
        have r7 : wr.cell? ⟨eb, eo + j * 12 + 7, none⟩ = some (.bool z.df) := hrow' 7 _ rfl
        have r8 : wr.cell? ⟨eb, eo + j * 12 + 8, none⟩ = some (.string z.file) := hrow' 8 _ rfl
        have r9 : wr.cell? ⟨eb, eo + j * 12 + 9, none⟩ = some (.int .i64 z.line) := hrow' 9 _ rfl
        have r10 : wr.cell? ⟨eb, eo + j * 12 + 10, none⟩ = some (.string z.fn) := hrow' 10 _ rfl
        have r11 : wr.cell? ⟨eb, eo + j * 12 + 11, none⟩ = some (.string z.st) := hrow' 11 _ rfl
        have gz : ∀ o, (wr.alloc o).frozen? ⟨w.heap.size + 1, 0, none⟩ = false := fun o => (b1.alloc o).frozen 0
        have gc : ∀ o, (wr.alloc o).cell? ⟨w.heap.size + 1, 0, none⟩ = some (.int .i64 ent) := fun o => (b1.alloc o).cell 0
        have gc0 : wr.cell? ⟨w.heap.size + 1, 0, none⟩ = some (.int .i64 ent) := b1.cell 0
        have gz0 : wr.frozen? ⟨w.heap.size + 1, 0, none⟩ = false := b1.frozen 0
        have q0 : (0 : Int) ≤ (j : Int) := Int.natCast_nonneg _
        have q1 : (j : Int) < (en : Int) := by omega
        have hsz0 : (wr.setCell ⟨w.heap.size + 1, 0, none⟩ (.int .i64 (j : Int))).heap.size = wr.heap.size := by simp [World.setCell]
        have hk3 : Kept (fun k => k = w.heap.size + 1) wr ((wr.setCell ⟨w.heap.size + 1, 0, none⟩ (.int .i64 (j : Int))).alloc (.cells z.arr 77)) := ⟨rfl, rfl, rfl, by simp [World.setCell], fun k hk hne => (heap_alloc_old _ _ (by rw [hsz0]; exact hk)).trans (Below.heap_setCell _ ⟨w.heap.size + 1, 0, none⟩ _ k hne)⟩
        have hsz3 : ((wr.setCell ⟨w.heap.size + 1, 0, none⟩ (.int .i64 (j : Int))).alloc (.cells z.arr 77)).heap.size = wr.heap.size + 1 := by simp [World.setCell]
        have hb3 : Blk ((wr.setCell ⟨w.heap.size + 1, 0, none⟩ (.int .i64 (j : Int))).alloc (.cells z.arr 77)) (w.heap.size + 1) 128 #[.int .i64 (j : Int), lvv, .slice uA (seenOf t EL FL j).length uc] := by
          have := (b1.set_ 0 (.int .i64 (j : Int))).alloc (.cells z.arr 77); simpa using this
        have hx3 : Blk ((wr.setCell ⟨w.heap.size + 1, 0, none⟩ (.int .i64 (j : Int))).alloc (.cells z.arr 77)) wr.heap.size 77 z.arr := by
          have := Blk.new (wr.setCell ⟨w.heap.size + 1, 0, none⟩ (.int .i64 (j : Int))) 77 z.arr; rwa [hsz0] at this
        have HK3 := Lib.hid hk3
        have HB3 := Lib.hid hb3
        have HX0 := Lib.hid hx3
        have HSZ3 := Lib.hid hsz3
        have HB1 := Lib.hid b1
        have HB2 := Lib.hid b2
        have HB3' := Lib.hid b3
        have HB4 := Lib.hid b4
        have HB5 := Lib.hid b5
        have HB6 := Lib.hid b6
        have HF5B : Hid (0 < fn → ∃ b o, fA = some ⟨b, o, none⟩ ∧ b < B ∧ ∀ i fs, FL[i]? = some fs → ∃ d fv, ((wr.setCell ⟨w.heap.size + 1, 0, none⟩ (.int .i64 (j : Int))).alloc (.cells z.arr 77)).cell? ⟨b, o + i, none⟩ = some fv ∧ FlOk ((wr.setCell ⟨w.heap.size + 1, 0, none⟩ (.int .i64 (j : Int))).alloc (.cells z.arr 77)) B d fs fv) := Lib.hid fun hp => by
          obtain ⟨b, o, h1, h2, h3⟩ := HF5.out hp
          have hkB : ∀ k, k < B → ((wr.setCell ⟨w.heap.size + 1, 0, none⟩ (.int .i64 (j : Int))).alloc (.cells z.arr 77)).heap[k]? = w.heap[k]? := fun k hk => (hk3.block k (by omega) (by omega)).trans (hzi.out.below.block k (by omega))
          refine ⟨b, o, h1, h2, fun i fs hi => ?_⟩
          obtain ⟨d, fv, g1, g2⟩ := h3 i fs hi
          exact ⟨d, fv, (World.cell?_of_block (w := w) (hkB b h2)).trans g1, g2.keep hkB⟩
        clear hrow hrow' hecs hnx hdd hn1 hn2 hk3 hsz3 hsz0 hb3 hx3 b1 b2 b3 b4 b5 b6 hlv
        by_cases hjf : j < fn
        · obtain ⟨fs, hfs⟩ : ∃ fs, FL[j]? = some fs := ⟨FL[j]'(by have := HFN.out; omega), by simp⟩
          obtain ⟨fb, fo, rfl, hfb, hfcs⟩ := HF5B.out (by omega)
          obtain ⟨fd, fvv, hcell, hflk⟩ := hfcs j fs hfs
          have hgl : fs.length ≤ 300 := HG3.out fs (List.mem_of_getElem? hfs)
          have hgm : ∀ c, c ∈ fs → (∃ a n m, c.bytes = .slice a n m) ∧ ∃ a n m, c.items = .slice a n m := fun c hc => (flok_pz hflk c hc).fmd
          have hcar := carried_gfs B fd fs fvv _ hflk (by rw [HSZ3.out]; omega)
          have hga : gsAt FL j = fs := by simp [gsAt, hfs]
          have HGL := Lib.hid hgl
          have HGM := Lib.hid hgm
          have HCAR := Lib.hid hcar
          have HGA := Lib.hid hga
          obtain ⟨gA0, gn0, gc0, rfl⟩ := hflk.form
          have q2 : (j : Int) < (fn : Int) := by omega
          clear hfcs hflk hgl hgm hcar hga
          unfold ZE.arr at *
          go_wp2_with fail
          refine HCAR.out.mono ?_
          rintro en3 w3 ⟨lv3, rfl, hgf, hb3⟩
          have hz2 := zw_start (v := .iface ct cp) (K := bld t 0) hzi.out.below (by omega) HB1.out HB2.out HB3'.out HB4.out HB5.out HB6.out (HK3.out.trans ⟨hb3.os, hb3.tape, hb3.output, hb3.size, fun k hk _ => hb3.block k hk⟩) (HB3.out.below hb3 HB3.out.lt) hgf (fun k hk => ⟨by have := hk.1; rw [HSZ3.out] at this; omega, hk.2⟩)
          have hx3 := HX0.out.below hb3 HX0.out.lt
          have hs3 := zeS hx3
          obtain ⟨gA, gc, rfl, -⟩ := hgf
          have HZ2 := Lib.hid hz2
          have HX3 := Lib.hid hx3
          have HS3 := Lib.hid hs3
          rw [HGA.out] at HNX
          clear hz2 hx3 hs3 hb3 hcell HCAR HF5B HF5 HE5 HB1 HB2 HB3' HB4 HB5 HB6 HK3 HB3 HX0 HSZ3 gz r0 r1 r2 r3 r4 r5 r6 r7 r8 r9 r10 r11
          go_wp2_with fail
          have hnl := HNL.out
          go_region_held3 (fun w' => ZES w' wr.heap.size z) (first | with_reducible exact HS3.out | with_reducible exact HS4.out | with_reducible exact HS5.out | exact HS3.out | fail) (first | (go_at_call 84; refine (entryOf_any z HN1.out HN2.out _).mono ?_; rintro en w4 ⟨⟨E, rfl⟩, hb4⟩; have hz4 := HZ2.out.drew.on hb4; have hx4 := HX3.out.drew.below hb4 HX3.out.lt; have hs4 := zeS hx4; obtain ⟨t2, q2, f2, r2, ev, i1, i3, i5, i4⟩ := ck_any (w.heap.size + 1) (bld t 0) S _ w4 (fun _ => False) E (w8 z.lv) none [] (flen t) hz4.rep (fun k hk => Nat.lt_of_lt_of_le (hz4.s k hk).2 hz4.size) (fun k hk => hk.elim) (fun k _ hk => hk) (.inl ⟨rfl, rfl⟩) HFLB.out HFL6.out HLVS.out; cases ev; have I4 := Lib.hid i4; have HZ4 := Lib.hid hz4; have HX4 := Lib.hid hx4; have HS4 := Lib.hid hs4; clear hz4 hx4 hs4 i4 hb4) | (refine I4.out.mono ?_; rintro en w5 ⟨p', Q', S', Ms, rfl, c1, c2, c3, c4, c5, c6, c7⟩; have hx5 : Blk w5 wr.heap.size 77 z.arr := (c6.block _ HX4.out.lt (fun e => e.elim (fun e => by have := (HZ4.out.s _ e).2; omega) id)).trans HX4.out; have HS5 := Lib.hid (zeS hx5); have HAF := Lib.hid (zw_after HZ4.out c1 c2 c3 c4 c5 c6 c7 (fun d hd => HMM.out d hd _ HGL.out) HDD.out (fun d hd c hc => (List.mem_append.1 hc).elim (HFM.out d hd c) (HGM.out c))); clear c1 c2 c3 c4 c5 c6 c7 hx5))
          all_goals
            clear HS3 HX3 HZ2 I4 HZ4 HX4 HS4 HS5 i1 i3 hnl
            obtain ⟨rfl, hfin⟩ | ⟨C, rfl, hcl⟩ := HAF.out
            · have HFIN := Lib.hid hfin
              clear hfin HAF
              go_wp2_with fail
              go_roundw
              case rel => exact ⟨j + 1, by go_num, by omega, Lib.hid (by have h := HFIN.out; rwa [← HNX.out] at h)⟩
              case measure => simp [intOf]; omega
            · have HCL := Lib.hid hcl
              clear hcl HAF
              go_wp2_with fail
              refine HCL.out.mono ?_
              rintro en w6 ⟨rfl, hfin⟩
              have HFIN := Lib.hid hfin
              clear hfin HCL
              go_wp2_with fail
              go_roundw
              case rel => exact ⟨j + 1, by go_num, by omega, Lib.hid (by have h := HFIN.out; rwa [← HNX.out] at h)⟩
              case measure => simp [intOf]; omega
        · have hga : gsAt FL j = [] := by
            have : FL[j]? = none := List.getElem?_eq_none (by have := HFN.out; omega)
            simp [gsAt, this]
          have HGL : Hid (([] : List FC).length ≤ 300) := Lib.hid (by simp)
          have HGM : Hid (∀ c, c ∈ ([] : List FC) → (∃ a n m, c.bytes = .slice a n m) ∧ ∃ a n m, c.items = .slice a n m) := Lib.hid fun c hc => by cases hc
          have hz2 := zw_start (v := .iface ct cp) (K := bld t 0) (SG := fun _ => False) hzi.out.below (by omega) HB1.out HB2.out HB3'.out HB4.out HB5.out HB6.out HK3.out HB3.out FlOk.toG (fun k hk => hk.elim)
          have hs3 := zeS HX0.out
          have HZ2 := Lib.hid hz2
          have HX3 := HX0
          have HS3 := Lib.hid hs3
          rw [hga] at HNX
          have q2 : ¬ (j : Int) < (fn : Int) := by omega
          clear hz2 hs3 hga HF5B HF5 HE5 HB1 HB2 HB3' HB4 HB5 HB6 HK3 HB3 HX0 HSZ3
          unfold ZE.arr at *
          go_wp2_with fail
          have hnl := HNL.out
          go_region_held3 (fun w' => ZES w' wr.heap.size z) (first | with_reducible exact HS3.out | with_reducible exact HS4.out | with_reducible exact HS5.out | exact HS3.out | fail) (first | (go_at_call 84; refine (entryOf_any z HN1.out HN2.out _).mono ?_; rintro en w4 ⟨⟨E, rfl⟩, hb4⟩; have hz4 := HZ2.out.drew.on hb4; have hx4 := HX3.out.drew.below hb4 HX3.out.lt; have hs4 := zeS hx4; obtain ⟨t2, q2, f2, r2, ev, i1, i3, i5, i4⟩ := ck_any (w.heap.size + 1) (bld t 0) S _ w4 (fun _ => False) E (w8 z.lv) none [] (flen t) hz4.rep (fun k hk => Nat.lt_of_lt_of_le (hz4.s k hk).2 hz4.size) (fun k hk => hk.elim) (fun k _ hk => hk) (.inl ⟨rfl, rfl⟩) HFLB.out HFL6.out HLVS.out; cases ev; have I4 := Lib.hid i4; have HZ4 := Lib.hid hz4; have HX4 := Lib.hid hx4; have HS4 := Lib.hid hs4; clear hz4 hx4 hs4 i4 hb4) | (refine I4.out.mono ?_; rintro en w5 ⟨p', Q', S', Ms, rfl, c1, c2, c3, c4, c5, c6, c7⟩; have hx5 : Blk w5 wr.heap.size 77 z.arr := (c6.block _ HX4.out.lt (fun e => e.elim (fun e => by have := (HZ4.out.s _ e).2; omega) id)).trans HX4.out; have HS5 := Lib.hid (zeS hx5); have HAF := Lib.hid (zw_after HZ4.out c1 c2 c3 c4 c5 c6 c7 (fun d hd => HMM.out d hd _ HGL.out) HDD.out (fun d hd c hc => (List.mem_append.1 hc).elim (HFM.out d hd c) (HGM.out c))); clear c1 c2 c3 c4 c5 c6 c7 hx5))
          all_goals
            clear HS3 HX3 HZ2 I4 HZ4 HX4 HS4 HS5 i1 i3 hnl
            obtain ⟨rfl, hfin⟩ | ⟨C, rfl, hcl⟩ := HAF.out
            · have HFIN := Lib.hid hfin
              clear hfin HAF
              go_wp2_with fail
              go_roundw
              case rel => exact ⟨j + 1, by go_num, by omega, Lib.hid (by have h := HFIN.out; rwa [← HNX.out] at h)⟩
              case measure => simp [intOf]; omega
            · have HCL := Lib.hid hcl
              clear hcl HAF
              go_wp2_with fail
              refine HCL.out.mono ?_
              rintro en w6 ⟨rfl, hfin⟩
              have HFIN := Lib.hid hfin
              clear hfin HCL
              go_wp2_with fail
              go_roundw
              case rel => exact ⟨j + 1, by go_num, by omega, Lib.hid (by have h := HFIN.out; rwa [← HNX.out] at h)⟩
              case measure => simp [intOf]; omega
      · have ej : j = en := by omega
        subst ej
        have y2 : wr.cell? ⟨w.heap.size + 1, 2, none⟩ = some (.slice uA (seenOf t EL FL j).length uc) := b1.cell 2
        have HB2 := Lib.hid b2
        have HB4 := Lib.hid b4
        clear b1 b2 b3 b4 b5 b6
        go_wp2_with fail
        go_ret2
        refine ⟨hzi.out.below, .inl ⟨HM.out, _, T, rfl, by rw [HEN.out]; exact HB2.out, fun k hk => ⟨by have := HB4.out k hk; omega, (HB4.out k hk).2⟩⟩⟩
  · have hbl : Below w.heap.size w w1 := by
      have h0 := HB0.out (.cells #[.int .i64 xk, .int .i64 xl, .slice xA xn xc, .slice xfA xfn xfc] 41) (.cells #[.int .i64 0, .int .i64 0, .slice none 0 0] 128)
      exact ⟨hk.os.trans h0.os, hk.tape.trans h0.tape, hk.output.trans h0.output, Nat.le_trans h0.size hk.size, fun k hk1 => (hk.block k (Nat.lt_of_lt_of_le hk1 h0.size) (by omega)).trans (h0.block k hk1)⟩
    have HBL := Lib.hid hbl
    have HM := Lib.hid hm
    clear hk hm hnb hbl HCO HB0
    go_wp2_with fail
    go_ret2
    exact ⟨HBL.out, .inr ⟨HM.out, rfl⟩⟩
end Go.Proofs.Zap
