/- a text of the claims over the seat; its order and aim: NOTES.md -/
import Derived.Test.YtpllbhobcnglnaaGreatDoorZSD
import Derived.Test.YtpllbhobcnglnaaGreatDoorZQ4
import Derived.Test.YtpllbhobcnglnaaGreatDoorZT4
namespace Go.Proofs.Zap
open Go Go.Proofs Go.RowKit

set_option maxRecDepth 100000 in
set_option maxHeartbeats 4000000 in
theorem looked_any (t : CT FC) (v : Value) (EL : List ZE) (FL : List (List FC)) (ev fv : Value) (B : Nat) (w : World) (hc : CAt w B t v) (hE : ELk w B EL ev) (hF : FFk w B FL fv) (hB : B ≤ w.heap.size) : Calls Tryz.prog 41 #[v, ev, fv] w (LkP t EL FL w) := by
  obtain ⟨eA, ec, rfl, e2, e3, -, -⟩ := hE
  obtain ⟨fA, fc, rfl, f2, f3, -, f5⟩ := hF
  have hgr := fun (W : World) (hW : Below w.heap.size w W) => great_any t B v W (hc.keep fun k hk => hW.block k (by omega)) (Nat.le_trans hB hW.size)
  have hfi := fun (W : World) (hW : Below w.heap.size w W) => fine_any t 6 (by omega) v B W (hc.keep fun k hk => hW.block k (by omega)) (Nat.le_trans hB hW.size)
  obtain ⟨xk, xl, xA, xn, xc, xfA, xfn, xfc, rfl⟩ := hc.form
  generalize hen : EL.length = en at *
  generalize hfn : FL.length = fn at *
  have HEN := Lib.hid hen
  have HFN := Lib.hid hfn
  have HF5 := Lib.hid f5
  have HGR := Lib.hid hgr
  have HFI := Lib.hid hfi
  have hb0 : ∀ o, Below w.heap.size w (w.alloc o) := fun o => (Below.refl _ _).alloc (Nat.le_refl _) o
  have HB0 := Lib.hid hb0
  have HB00 := Lib.hid (Below.refl w.heap.size w)
  clear hc f5 hgr hfi hb0 hen hfn
  by_cases c1 : 20 < (en : Int)
  · go_enter Tryz.func41, Tryz.ntmps41
    go_wp2_with fail
    go_ret
    exact ⟨false, rfl, HB0.out _, fun h => by cases h⟩
  by_cases c2 : 20 < (fn : Int)
  · go_enter Tryz.func41, Tryz.ntmps41
    go_wp2_with fail
    go_ret
    exact ⟨false, rfl, HB0.out _, fun h => by cases h⟩
  go_enter Tryz.func41, Tryz.ntmps41
  go_wp2_with fail
  refine (HGR.out _ (HB0.out _)).mono ?_
  rintro e w1 ⟨b, rfl, hb, hq⟩
  have HB1 := Lib.hid ((HB0.out (.cells #[.int .i64 xk, .int .i64 xl, .slice xA xn xc, .slice xfA xfn xfc] 41)).trans (hb.mono (HB0.out _).size))
  have hx : Blk w1 w.heap.size 41 #[.int .i64 xk, .int .i64 xl, .slice xA xn xc, .slice xfA xfn xfc] := (Blk.new w 41 _).below hb (by simp)
  have HQ := Lib.hid hq
  have x0 : w1.cell? ⟨w.heap.size, 0, none⟩ = some (.int .i64 xk) := hx.cell 0
  have x1 : w1.cell? ⟨w.heap.size, 1, none⟩ = some (.int .i64 xl) := hx.cell 1
  have x2 : w1.cell? ⟨w.heap.size, 2, none⟩ = some (.slice xA xn xc) := hx.cell 2
  have x3 : w1.cell? ⟨w.heap.size, 3, none⟩ = some (.slice xfA xfn xfc) := hx.cell 3
  clear hb hq hx
  cases b
  case true =>
    go_wp2_with fail
    go_ret
    exact ⟨false, rfl, HB1.out, fun h => by cases h⟩
  case false =>
    go_wp2_with fail
    refine (HFI.out _ HB1.out).mono ?_
    rintro e w2 ⟨rfl, hb2⟩
    have HB2 := Lib.hid (HB1.out.trans (hb2.mono HB1.out.size))
    clear hb2 x0 x1 x2 x3
    rcases hfd : fine t 6 with _ | _
    · go_wp2_with fail
      go_ret
      exact ⟨false, rfl, HB2.out, fun h => by cases h⟩
    · have HFD := Lib.hid hfd
      have hF0 := Blk.new w2 3 #[.int .i64 0]
      have hs2 : w.heap.size ≤ w2.heap.size := HB2.out.size
      have HF0 := Lib.hid hF0
      have HB3 : ∀ o, Hid (Below w.heap.size w (w2.alloc o)) := fun o => Lib.hid (HB2.out.alloc hs2 o)
      clear hfd hF0
      go_wp2_with fail
      go_loopw [8] (fun i wr => ∃ (j : Nat) (x : Int), i = .int .i64 j ∧ j ≤ fn ∧ Hid (0 ≤ x ∧ x ≤ 300) ∧ Hid (Blk wr w2.heap.size 3 #[.int .i64 x]) ∧ Hid (Below w.heap.size w wr) ∧ Hid (∀ i fs, i < j → FL[i]? = some fs → fs.length ≤ 300)) (fun i _ => fn - (intOf i).toNat)
      case atStart => exact ⟨0, 0, rfl, by omega, Lib.hid (by omega), HF0, HB3 _, Lib.hid (fun i fs hi => by omega)⟩
      case round =>
        obtain ⟨j, x, rfl, hj, hx, hC, hbl, hall⟩ := hrel
        have hsz := hbl.out.size
        by_cases hlt : j < fn
        · obtain ⟨fs, hfs⟩ : ∃ fs, FL[j]? = some fs := ⟨FL[j]'(by have := HFN.out; omega), by simp⟩
          obtain ⟨fb, fo, rfl, hfb, hfcs⟩ := HF5.out (by omega)
          obtain ⟨fd, fvv, hcell, hflk⟩ := hfcs j fs hfs
          have hkB : ∀ k, k < B → wr.heap[k]? = w.heap[k]? := fun k hk => hbl.out.block k (by omega)
          have hcell' := (World.cell?_of_block (w := w) (a := ⟨fb, fo + j, none⟩) (hkB fb hfb)).trans hcell
          have hflk' := hflk.keep hkB
          have hcnt : Calls Tryz.prog 82 #[fvv, .int .i64 30, .pointer (some ⟨w2.heap.size, 0, none⟩)] wr (Counts wr w2.heap.size (lenV fvv) x) := zcount_any w2.heap.size B 30 (by omega) _ fvv x wr hflk'.fs (by omega) (by omega) hC.out
          rw [hflk'.len] at hcnt
          obtain ⟨gA0, gn0, gc0, rfl⟩ := hflk.form
          have HCNT := Lib.hid hcnt
          have q0 : (0 : Int) ≤ (j : Int) := Int.natCast_nonneg _
          have q1 : (j : Int) < (fn : Int) := by omega
          clear hfcs hcell hflk hflk' hkB hcnt
          go_wp2_with fail
          refine HCNT.out.mono ?_
          rintro e w3 ⟨b, x', rfl, hC', hk', hq'⟩
          have hb' : Below w.heap.size w w3 := ⟨hk'.os.trans hbl.out.os, hk'.tape.trans hbl.out.tape, hk'.output.trans hbl.out.output, Nat.le_trans hsz hk'.size, fun k hk => (hk'.block k (by omega) (by omega)).trans (hbl.out.block k hk)⟩
          have y0 : w3.cell? ⟨w2.heap.size, 0, none⟩ = some (.int .i64 x') := hC'.cell 0
          have HC' := Lib.hid hC'
          have HB' := Lib.hid hb'
          have HQ' := Lib.hid hq'
          clear hC' hb' hk' hq' HCNT hcell'
          cases b
          case true =>
            go_wp2_with fail
            go_ret
            exact ⟨false, rfl, HB'.out, fun h => by cases h⟩
          case false =>
            have hqq := HQ'.out rfl hx.out.1 hx.out.2
            have hx3 : ¬ 300 < x' := by omega
            have HX3 : Hid (0 ≤ x' ∧ x' ≤ 300) := Lib.hid (by have := hx.out; omega)
            have HAL : Hid (∀ i fs, i < j + 1 → FL[i]? = some fs → fs.length ≤ 300) := Lib.hid fun i fs' hi hfi => by
              by_cases e : i = j
              · subst e
                rw [hfs] at hfi
                injection hfi with hfi
                subst hfi
                have := hx.out
                omega
              · exact hall.out i fs' (by omega) hfi
            clear hqq
            go_wp2_with fail
            go_roundw
            case rel => exact ⟨j + 1, x', by go_num, by omega, HX3, HC', HB', HAL⟩
            case measure => simp [intOf]; omega
        · have ej : j = fn := by omega
          subst ej
          go_wp2_with fail
          go_ret
          refine ⟨true, rfl, hbl.out, fun _ => ⟨?_, ?_, ?_, HFD.out, fun fs hfs => ?_⟩⟩
          · have := HEN.out; omega
          · have := HFN.out; omega
          · exact HQ.out (by first | rfl | trivial)
          · obtain ⟨i, hi⟩ := List.getElem?_of_mem hfs
            have := (List.getElem?_eq_some_iff.1 hi).1
            have h2 := HFN.out
            exact hall.out i fs (by omega) hi
end Go.Proofs.Zap

namespace Go.Proofs.Zap
open Go Go.Proofs Go.RowKit

def EnUp (p : Int → Bool) (kind LV j : Int) : Prop := kind = 2 → ∀ m, -1 ≤ m → m < j → LV ≤ m → p m = true

set_option maxHeartbeats 4000000 in
theorem makes_any (t : CT FC) : ∀ (d : Nat), fine t d = true → ∀ (v : Value) (B : Nat) (w : World), CAt w B t v → B ≤ w.heap.size →
    Calls Tryz.prog 29 #[v] w (Says w (.bool (makes t))) := by
  induction t with
  | no => intro d hf; exact absurd hf (by simp [fine])
  | mk kind lvl n kids fs ih =>
    intro d hf v B w hc hB
    obtain ⟨k0, k5, hd, hn, h1, h0, hk⟩ := fine_parts hf
    obtain ⟨A, cap, fv, rfl, h2, h3, h4, h5, hbd, h6⟩ := hc
    clear hbd h5 h4 hf h0
    have H1 := Lib.hid h1
    clear h1
    have H6 := Lib.hid h6
    clear h6
    have hX := Blk.new w 41 #[.int .i64 kind, .int .i64 lvl, .slice A n cap, fv]
    have hX0 : (w.alloc (.cells #[.int .i64 kind, .int .i64 lvl, .slice A n cap, fv] 41)).cell? ⟨w.heap.size, 0, none⟩ = some (.int .i64 kind) := hX.cell 0
    have hX1 : (w.alloc (.cells #[.int .i64 kind, .int .i64 lvl, .slice A n cap, fv] 41)).cell? ⟨w.heap.size, 1, none⟩ = some (.int .i64 lvl) := hX.cell 1
    have hX2 : (w.alloc (.cells #[.int .i64 kind, .int .i64 lvl, .slice A n cap, fv] 41)).cell? ⟨w.heap.size, 2, none⟩ = some (.slice A n cap) := hX.cell 2
    have HB0 := Lib.hid ((Below.refl w.heap.size w).alloc (Nat.le_refl _) (.cells #[.int .i64 kind, .int .i64 lvl, .slice A n cap, fv] 41))
    have e2 := wrap8 lvl
    have b2 := w8_bd lvl
    have e4 : IntKind.i64.wrap (w8 lvl) = w8 lvl := wrap64_id (by omega) (by omega)
    obtain ⟨LV, hLV⟩ : ∃ LV, LV = w8 lvl := ⟨_, rfl⟩
    rw [← hLV] at e2 b2 e4
    have hmk : makes (.mk kind lvl n kids fs) = ((!anyB n fun i => !makes (kids i)) && !(kind == 2 && anyB 7 fun j => decide (LV ≤ (j : Int) - 1) && !en (kids 0) ((j : Int) - 1))) := by rw [hLV]; rfl
    have HMK := Lib.hid hmk
    clear hX hmk
    go_enter Tryz.func29, Tryz.ntmps29
    go_wp2_with fail
    go_loopw [3] (fun i wr => ∃ j : Nat, i = .int .i64 j ∧ j ≤ n ∧ (∀ m, m < j → makes (kids m) = true) ∧ wr.cell? ⟨w.heap.size, 0, none⟩ = some (.int .i64 kind) ∧ wr.cell? ⟨w.heap.size, 1, none⟩ = some (.int .i64 lvl) ∧ wr.cell? ⟨w.heap.size, 2, none⟩ = some (.slice A n cap) ∧ Hid (Below w.heap.size w wr)) (fun i _ => n - (intOf i).toNat)
    case atStart => exact ⟨0, rfl, by omega, fun m hm => absurd hm (by omega), hX0, hX1, hX2, HB0⟩
    case round =>
      obtain ⟨j, rfl, hj, hall, hx0, hx1, hx2, hbl⟩ := hrel
      by_cases hlt : j < n
      · obtain ⟨b, o, rfl, hb, hcs⟩ := H6.out (by omega)
        obtain ⟨r0, r1, r2, r3, hrow, hcat⟩ := hcs j hlt
        have kb : ∀ k, k < B → wr.heap[k]? = w.heap[k]? := fun k hk => hbl.out.block k (by omega)
        have hrow' := hrow.keep hb kb
        have hcat' := hcat.keep kb
        have c0 : wr.cell? ⟨b, o + j * 4, none⟩ = some r0 := hrow' 0 _ rfl
        have c1 : wr.cell? ⟨b, o + j * 4 + 1, none⟩ = some r1 := hrow' 1 _ rfl
        have c2 : wr.cell? ⟨b, o + j * 4 + 2, none⟩ = some r2 := hrow' 2 _ rfl
        have c3 : wr.cell? ⟨b, o + j * 4 + 3, none⟩ = some r3 := hrow' 3 _ rfl
        have q0 : (0 : Int) ≤ (j : Int) := Int.natCast_nonneg _
        have q1 : (j : Int) < (n : Int) := by omega
        have hcall := ih j (d - 1) (hk j hlt) _ B wr hcat' (by have := hbl.out.size; omega)
        have HC := Lib.hid hcall
        clear hcall hcat hcat' hrow hrow' hcs kb
        go_wp2_with fail
        refine HC.out.mono ?_
        rintro e w' ⟨rfl, hb'⟩
        have hsz := hbl.out.size
        have hxw : w.heap.size < wr.heap.size := World.block_lt_of_cell? wr _ hx2
        have hx0' : w'.cell? ⟨w.heap.size, 0, none⟩ = some (.int .i64 kind) := (World.cell?_of_block (w := wr) (hb'.block _ hxw)).trans hx0
        have hx1' : w'.cell? ⟨w.heap.size, 1, none⟩ = some (.int .i64 lvl) := (World.cell?_of_block (w := wr) (hb'.block _ hxw)).trans hx1
        have hx2' : w'.cell? ⟨w.heap.size, 2, none⟩ = some (.slice (some ⟨b, o, none⟩) n cap) := (World.cell?_of_block (w := wr) (hb'.block _ hxw)).trans hx2
        have HB := Lib.hid (hbl.out.trans (hb'.mono hsz))
        clear hb' hbl c0 c1 c2 c3 hx0 hx1 hx2
        rcases he : makes (kids j) with _ | _
        · go_wp2_with fail
          go_ret
          have : makes (.mk kind lvl n kids fs) = false := by
            rw [HMK.out, anyB_true.2 ⟨j, hlt, by rw [he]; rfl⟩]; rfl
          exact ⟨congrArg (fun b => Ending.returned (.bool b)) this.symm, HB.out⟩
        · go_wp2_with fail
          go_roundw
          case rel => exact ⟨j + 1, by go_num, by omega, fun m hm => if e : m = j then e ▸ he else hall m (by omega), hx0', hx1', hx2', HB⟩
          case measure => simp [intOf]; omega
      · have hno : (anyB n fun i => !makes (kids i)) = false := anyB_false.2 fun i hi => by rw [hall i (by omega)]; rfl
        have hmk := HMK.out
        rw [hno] at hmk
        simp only [Bool.not_false, Bool.true_and] at hmk
        have HMK2 := Lib.hid hmk
        clear hall hmk HMK hno
        go_wp2_with fail
        go_loopw [4] (fun i wr => ∃ j : Int, i = .int .i64 j ∧ -1 ≤ j ∧ j ≤ 6 ∧ EnUp (en (kids 0)) kind LV j ∧ wr.cell? ⟨w.heap.size, 0, none⟩ = some (.int .i64 kind) ∧ wr.cell? ⟨w.heap.size, 1, none⟩ = some (.int .i64 lvl) ∧ wr.cell? ⟨w.heap.size, 2, none⟩ = some (.slice A n cap) ∧ Hid (Below w.heap.size w wr)) (fun i _ => (6 - intOf i).toNat)
        case atStart => exact ⟨-1, rfl, by omega, by omega, (fun _ m h0 h1 => by omega), hx0, hx1, hx2, hbl⟩
        case round =>
          clear hx0 hx1 hx2 hbl
          obtain ⟨l, rfl, hl0, hl, hall, hx0, hx1, hx2, hbl⟩ := hrel
          by_cases ek : kind = 2
          · subst ek
            have hn1 := H1.out (by omega)
            have HN1 := Lib.hid hn1
            have q1 : (0 : Int) < (n : Int) := by omega
            clear hn1
            have hmk := HMK2.out
            simp only [beq_self_eq_true, Bool.true_and] at hmk
            have HMK3 := Lib.hid hmk
            clear hmk HMK2
            by_cases hl5 : l ≤ 5
            · by_cases hLl : LV ≤ l
              · obtain ⟨b, o, rfl, hb, hcs⟩ := H6.out (by have := HN1.out; omega)
                obtain ⟨r0, r1, r2, r3, hrow, hcat⟩ := hcs 0 (by have := HN1.out; omega)
                have kb : ∀ k, k < B → wr.heap[k]? = w.heap[k]? := fun k hk => hbl.out.block k (by omega)
                have hrow' := hrow.keep hb kb
                have hcat' := hcat.keep kb
                simp at hrow'
                have c0 : wr.cell? ⟨b, o, none⟩ = some r0 := hrow' 0 _ rfl
                have c1 : wr.cell? ⟨b, o + 1, none⟩ = some r1 := hrow' 1 _ rfl
                have c2 : wr.cell? ⟨b, o + 2, none⟩ = some r2 := hrow' 2 _ rfl
                have c3 : wr.cell? ⟨b, o + 3, none⟩ = some r3 := hrow' 3 _ rfl
                have hcall := en_any (kids 0) (d - 1) (hk 0 (by have := HN1.out; omega)) _ l B wr hcat' (by have := hbl.out.size; omega)
                have HC := Lib.hid hcall
                clear hcall hcat hcat' hrow hrow' hcs kb
                go_wp2_with fail
                refine HC.out.mono ?_
                rintro e w' ⟨rfl, hb'⟩
                have hsz := hbl.out.size
                have hxw : w.heap.size < wr.heap.size := World.block_lt_of_cell? wr _ hx2
                have hx0' : w'.cell? ⟨w.heap.size, 0, none⟩ = some (.int .i64 2) := (World.cell?_of_block (w := wr) (hb'.block _ hxw)).trans hx0
                have hx1' : w'.cell? ⟨w.heap.size, 1, none⟩ = some (.int .i64 lvl) := (World.cell?_of_block (w := wr) (hb'.block _ hxw)).trans hx1
                have hx2' : w'.cell? ⟨w.heap.size, 2, none⟩ = some (.slice (some ⟨b, o, none⟩) n cap) := (World.cell?_of_block (w := wr) (hb'.block _ hxw)).trans hx2
                have HB := Lib.hid (hbl.out.trans (hb'.mono hsz))
                clear hb' hbl c0 c1 c2 c3 hx0 hx1 hx2
                rcases he : en (kids 0) l with _ | _
                · go_wp2_with fail
                  go_ret
                  have : makes (.mk 2 lvl n kids fs) = false := by
                    rw [HMK3.out, anyB_true.2 ⟨(l + 1).toNat, by omega, by rw [show (((l + 1).toNat : Nat) : Int) - 1 = l by omega, he]; simpa using hLl⟩]; rfl
                  exact ⟨congrArg (fun b => Ending.returned (.bool b)) this.symm, HB.out⟩
                · go_wp2_with fail
                  go_roundw
                  case rel => exact ⟨l + 1, by go_num, by omega, by omega, (fun _ m h0 hm hLm => if e : m = l then e ▸ he else hall rfl m h0 (by omega) hLm), hx0', hx1', hx2', HB⟩
                  case measure => simp [intOf]; omega
              · go_wp2_with fail
                go_roundw
                case rel => exact ⟨l + 1, by go_num, by omega, by omega, (fun _ m h0 hm hLm => if e : m = l then absurd (e ▸ hLm) hLl else hall rfl m h0 (by omega) hLm), hx0, hx1, hx2, hbl⟩
                case measure => simp [intOf]; omega
            · go_wp2_with fail
              go_ret
              have : makes (.mk 2 lvl n kids fs) = true := by
                rw [HMK3.out, anyB_false.2 fun i hi => ?_]; · rfl
                by_cases hm : LV ≤ (i : Int) - 1
                · rw [hall rfl _ (by omega) (by omega) hm]; simp
                · simp [hm]
              exact ⟨congrArg (fun b => Ending.returned (.bool b)) this.symm, hbl.out⟩
          · have ekb : (kind == 2) = false := by simp [ek]
            have hv2 : makes (.mk kind lvl n kids fs) = true := by rw [HMK2.out, ekb]; rfl
            have HV2 := Lib.hid hv2
            clear HMK2 hv2
            by_cases hl5 : l ≤ 5
            · go_wp2_with fail
              go_ret
              exact ⟨congrArg (fun b => Ending.returned (.bool b)) HV2.out.symm, hbl.out⟩
            · go_wp2_with fail
              go_ret
              exact ⟨congrArg (fun b => Ending.returned (.bool b)) HV2.out.symm, hbl.out⟩
end Go.Proofs.Zap

namespace Go.Proofs.Zap
open Go Go.Proofs Go.RowKit

/-- 'string(b)' of a row of its own -/
theorem conv_owned {w : World} {base : Nat} {v : Value} {l : List UInt8} (h : w.ownsRow base 5 1 v l.length (bytesV l)) :
    (convert 31 9 v).run Tryz.prog w = .ok (.string ⟨l.toArray⟩) w := by
  rcases h.2 with ⟨rfl, h0⟩ | ⟨g, cap, cur, rfl, _, hg, hn, _, hcs, htake⟩
  · have : l = [] := List.eq_nil_of_length_eq_zero h0
    subst this
    exact run_convert_bytes_nil w 31 5 Tryz.underlying31 Tryz.underlying5 0 0 9 Tryz.underlying9
  · refine run_convert_bytes_back w 31 9 5 ⟨g, 0, none⟩ cap l Tryz.underlying31 Tryz.underlying5 Tryz.underlying9 fun j hj => ?_
    have := h.cells (g := g) rfl j (.int .u8 (l[j].toNat : Int)) (by simp [bytesV, List.getElem?_eq_getElem hj])
    exact this

set_option maxHeartbeats 400000 in
theorem bufString_any (U base : Nat) (l : List UInt8) (w : World) (hb : Buf w base U l) :
    Calls Tryz.prog 90 #[.pointer (some ⟨U, 0, none⟩)] w fun e w' => e = .returned (.string ⟨l.toArray⟩) ∧ w = w' := by
  obtain ⟨hU, hB, v, hv, hown⟩ := hb
  have hconv := conv_owned hown
  obtain ⟨a, cp, rfl⟩ := ownsRow_form hown
  have hc : w.cell? ⟨U, 0, none⟩ = some (.slice a l.length cp) := by simp [World.cell?, hv]
  go_enter Tryz.func90, Tryz.ntmps90
  clear hown hv
  go_wp2
  go_ret
  exact ⟨rfl, rfl⟩

set_option maxHeartbeats 400000 in
theorem bufGet (w : World) :
    Calls Tryz.prog 147 #[] w fun e w' => e = .returned (.pointer (some ⟨w.heap.size, 0, none⟩)) ∧ w' = w.alloc (.cells #[.slice none 0 0] 265) := by
  go_enter Tryz.func147, Tryz.ntmps147
  go_wp2
  go_ret
  exact ⟨rfl, rfl⟩

/-- the cells of a configuration that has nothing but encoders of levels, times, durations, callers -/
def cfgCells (ending : ByteArray) (lv tm du ca : Value) : List Value :=
  [.string ⟨#[]⟩, .string ⟨#[]⟩, .string ⟨#[]⟩, .string ⟨#[]⟩, .string ⟨#[]⟩, .string ⟨#[]⟩, .string ⟨#[]⟩, .bool false, .string ending, lv, tm, du, ca, .nilFunc, .string ⟨#[]⟩]

set_option maxHeartbeats 1000000 in
set_option maxRecDepth 100000 in
theorem newEnc (tm du : Value) (w : World) :
    Calls Tryz.prog 95 #[.agg (cfgCells ⟨#[]⟩ .nilFunc tm du .nilFunc).toArray, .bool false] w fun e w' => e = .returned (.pointer (some ⟨w.heap.size + 2, 0, none⟩)) ∧
      w' = ((w.alloc (.cells (cfgCells ⟨#[10]⟩ .nilFunc tm du .nilFunc).toArray 100)).alloc (.cells #[.slice none 0 0] 265)).alloc (.cells #[.pointer (some ⟨w.heap.size, 0, none⟩), .pointer (some ⟨w.heap.size + 1, 0, none⟩), .bool false, .int .i64 0] 183) := by
  unfold cfgCells
  go_enter Tryz.func95, Tryz.ntmps95
  go_wp2_with (go_at_call 147; refine (bufGet _).mono ?_; rintro e w' ⟨rfl, rfl⟩)
  go_ret
  exact ⟨rfl, rfl⟩

set_option maxHeartbeats 400000 in
theorem appendBytes_any (U base : Nat) (l : List UInt8) (ad : Addr) (c : Nat) (x : List UInt8) (w : World) (hb : Buf w base U l) (hl : l.length + x.length < 1000000000)
    (hx : ∀ j u, (bytesV x)[j]? = some u → w.cell? (ad.add j) = some u) :
    Calls Tryz.prog 174 #[.pointer (some ⟨U, 0, none⟩), .slice (some ad) x.length c] w fun e w' => e = .returned (.tuple #[]) ∧ Buf w' base U (l ++ x) ∧ Keep base U w w' := by
  obtain ⟨hU, hB, v, hv, hown⟩ := hb
  obtain ⟨i0, hi, hz0, hz1, hz2⟩ := info_parts Tz.info5
  obtain ⟨a, cp, rfl⟩ := ownsRow_form hown
  have hc : w.cell? ⟨U, 0, none⟩ = some (.slice a l.length cp) := by simp [World.cell?, hv]
  have hf : w.frozen? ⟨U, 0, none⟩ = false := by simp [World.frozen?, hv]
  have hUs : U < w.heap.size := by omega
  have HX := Lib.hid hx
  clear hx
  go_enter Tryz.func174, Tryz.ntmps174
  go_wp2_with (at_builtin; refine wpList_append_own _ rfl (.tmp 8) (.tmp 9) 31 rfl base 5 i0 (.int .u8 0) 1 1 Tryz.underlying31 hi hz0 hz1 hz2 rfl (by decide) _ _ _ rfl hown ad x.length c (bytesV x) rfl ?c0 HX.out ?c2 ?c3 ?c4 ?c5 ?_)
  case c0 => rw [bytesV_length, Nat.mul_one]
  case c2 => intro u hu; simp only [bytesV, List.mem_map] at hu; obtain ⟨b, _, rfl⟩ := hu; rfl
  case c3 => unfold maxLen; omega
  case c4 => omega
  case c5 => exact hB
  intro v' w1 hown1 hg _
  have hbel : Below base w w1 := (Below.refl base w).grown hg hB (own_ge hown)
  obtain ⟨a', cp', rfl⟩ := ownsRow_form hown1
  have hc1 : w1.cell? ⟨U, 0, none⟩ = some (.slice a l.length cp) := (hbel.cell (p := ⟨U, 0, none⟩) hU).trans hc
  have hf1 : w1.frozen? ⟨U, 0, none⟩ = false := (hbel.frozen (p := ⟨U, 0, none⟩) hU).trans hf
  have hown2 : w1.ownsRow base 5 1 (.slice a' (l.length + x.length) cp') (l ++ x).length (bytesV (l ++ x)) := by
    rw [bytesV_append, List.length_append]; exact hown1
  have H := Lib.hid (Buf.store hU hB hv hbel hown2)
  clear hown hown1 hown2 hg hbel hv hi hz0 hz1 hz2
  go_wp2
  go_end0
  exact ⟨rfl, H.out⟩
end Go.Proofs.Zap
