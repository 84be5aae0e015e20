/- a text of the claims over the seat; its order and aim: NOTES.md -/
import Derived.Test.YtpllbhobcnglnaaGreatDoorZQ4
namespace Go.Proofs.Zap
open Go Go.Proofs Go.RowKit

def EnUp (p : Int → Bool) (kind LV j : Int) : Prop := kind = 2 → ∀ m, -1 ≤ m → m < j → LV ≤ m → p m = true

set_option maxHeartbeats 4000000 in
theorem makes_any (t : CT FC) : ∀ (d : Nat), fine t d = true → ∀ (v : Value) (B : Nat) (w : World), CAt w B t v → B ≤ w.heap.size →
    Calls Tryz.prog 29 #[v] w (Says w (.bool (makes t))) := by
  induction t with
  | no => intro d hf; exact absurd hf (by simp [fine])
  | mk kind lvl n kids fs ih =>
    intro d hf v B w hc hB
    obtain ⟨k0, k5, hd, hn, h1, h0, hk⟩ := fine_parts hf
    obtain ⟨A, cap, fv, rfl, h2, h3, h4, h5, hbd, h6⟩ := hc
    clear hbd h5 h4 hf h0
    have H1 := Lib.hid h1
    clear h1
    have H6 := Lib.hid h6
    clear h6
    have hX := Blk.new w 41 #[.int .i64 kind, .int .i64 lvl, .slice A n cap, fv]
    have hX0 : (w.alloc (.cells #[.int .i64 kind, .int .i64 lvl, .slice A n cap, fv] 41)).cell? ⟨w.heap.size, 0, none⟩ = some (.int .i64 kind) := hX.cell 0
    have hX1 : (w.alloc (.cells #[.int .i64 kind, .int .i64 lvl, .slice A n cap, fv] 41)).cell? ⟨w.heap.size, 1, none⟩ = some (.int .i64 lvl) := hX.cell 1
    have hX2 : (w.alloc (.cells #[.int .i64 kind, .int .i64 lvl, .slice A n cap, fv] 41)).cell? ⟨w.heap.size, 2, none⟩ = some (.slice A n cap) := hX.cell 2
    have HB0 := Lib.hid ((Below.refl w.heap.size w).alloc (Nat.le_refl _) (.cells #[.int .i64 kind, .int .i64 lvl, .slice A n cap, fv] 41))
    have e2 := wrap8 lvl
    have b2 := w8_bd lvl
    have e4 : IntKind.i64.wrap (w8 lvl) = w8 lvl := wrap64_id (by omega) (by omega)
    obtain ⟨LV, hLV⟩ : ∃ LV, LV = w8 lvl := ⟨_, rfl⟩
    rw [← hLV] at e2 b2 e4
    have hmk : makes (.mk kind lvl n kids fs) = ((!anyB n fun i => !makes (kids i)) && !(kind == 2 && anyB 7 fun j => decide (LV ≤ (j : Int) - 1) && !en (kids 0) ((j : Int) - 1))) := by rw [hLV]; rfl
    have HMK := Lib.hid hmk
    clear hX hmk
    go_enter Tryz.func29, Tryz.ntmps29
    go_wp2_with fail
    go_loopw [3] (fun i wr => ∃ j : Nat, i = .int .i64 j ∧ j ≤ n ∧ (∀ m, m < j → makes (kids m) = true) ∧ wr.cell? ⟨w.heap.size, 0, none⟩ = some (.int .i64 kind) ∧ wr.cell? ⟨w.heap.size, 1, none⟩ = some (.int .i64 lvl) ∧ wr.cell? ⟨w.heap.size, 2, none⟩ = some (.slice A n cap) ∧ Hid (Below w.heap.size w wr)) (fun i _ => n - (intOf i).toNat)
    case atStart => exact ⟨0, rfl, by omega, fun m hm => absurd hm (by omega), hX0, hX1, hX2, HB0⟩
    case round =>
      obtain ⟨j, rfl, hj, hall, hx0, hx1, hx2, hbl⟩ := hrel
      by_cases hlt : j < n
      · obtain ⟨b, o, rfl, hb, hcs⟩ := H6.out (by omega)
        obtain ⟨r0, r1, r2, r3, hrow, hcat⟩ := hcs j hlt
        have kb : ∀ k, k < B → wr.heap[k]? = w.heap[k]? := fun k hk => hbl.out.block k (by omega)
        have hrow' := hrow.keep hb kb
        have hcat' := hcat.keep kb
        have c0 : wr.cell? ⟨b, o + j * 4, none⟩ = some r0 := hrow' 0 _ rfl
        have c1 : wr.cell? ⟨b, o + j * 4 + 1, none⟩ = some r1 := hrow' 1 _ rfl
        have c2 : wr.cell? ⟨b, o + j * 4 + 2, none⟩ = some r2 := hrow' 2 _ rfl
        have c3 : wr.cell? ⟨b, o + j * 4 + 3, none⟩ = some r3 := hrow' 3 _ rfl
        have q0 : (0 : Int) ≤ (j : Int) := Int.natCast_nonneg _
        have q1 : (j : Int) < (n : Int) := by omega
        have hcall := ih j (d - 1) (hk j hlt) _ B wr hcat' (by have := hbl.out.size; omega)
        have HC := Lib.hid hcall
        clear hcall hcat hcat' hrow hrow' hcs kb
        go_wp2_with fail
        refine HC.out.mono ?_
        rintro e w' ⟨rfl, hb'⟩
        have hsz := hbl.out.size
        have hxw : w.heap.size < wr.heap.size := World.block_lt_of_cell? wr _ hx2
        have hx0' : w'.cell? ⟨w.heap.size, 0, none⟩ = some (.int .i64 kind) := (World.cell?_of_block (w := wr) (hb'.block _ hxw)).trans hx0
        have hx1' : w'.cell? ⟨w.heap.size, 1, none⟩ = some (.int .i64 lvl) := (World.cell?_of_block (w := wr) (hb'.block _ hxw)).trans hx1
        have hx2' : w'.cell? ⟨w.heap.size, 2, none⟩ = some (.slice (some ⟨b, o, none⟩) n cap) := (World.cell?_of_block (w := wr) (hb'.block _ hxw)).trans hx2
        have HB := Lib.hid (hbl.out.trans (hb'.mono hsz))
        clear hb' hbl c0 c1 c2 c3 hx0 hx1 hx2
        rcases he : makes (kids j) with _ | _
        · go_wp2_with fail
          go_ret
          have : makes (.mk kind lvl n kids fs) = false := by
            rw [HMK.out, anyB_true.2 ⟨j, hlt, by rw [he]; rfl⟩]; rfl
          exact ⟨congrArg (fun b => Ending.returned (.bool b)) this.symm, HB.out⟩
        · go_wp2_with fail
          go_roundw
          case rel => exact ⟨j + 1, by go_num, by omega, fun m hm => if e : m = j then e ▸ he else hall m (by omega), hx0', hx1', hx2', HB⟩
          case measure => simp [intOf]; omega
      · have hno : (anyB n fun i => !makes (kids i)) = false := anyB_false.2 fun i hi => by rw [hall i (by omega)]; rfl
        have hmk := HMK.out
        rw [hno] at hmk
        simp only [Bool.not_false, Bool.true_and] at hmk
        have HMK2 := Lib.hid hmk
        clear hall hmk HMK hno
        go_wp2_with fail
        go_loopw [4] (fun i wr => ∃ j : Int, i = .int .i64 j ∧ -1 ≤ j ∧ j ≤ 6 ∧ EnUp (en (kids 0)) kind LV j ∧ wr.cell? ⟨w.heap.size, 0, none⟩ = some (.int .i64 kind) ∧ wr.cell? ⟨w.heap.size, 1, none⟩ = some (.int .i64 lvl) ∧ wr.cell? ⟨w.heap.size, 2, none⟩ = some (.slice A n cap) ∧ Hid (Below w.heap.size w wr)) (fun i _ => (6 - intOf i).toNat)
        case atStart => exact ⟨-1, rfl, by omega, by omega, (fun _ m h0 h1 => by omega), hx0, hx1, hx2, hbl⟩
        case round =>
          clear hx0 hx1 hx2 hbl
          obtain ⟨l, rfl, hl0, hl, hall, hx0, hx1, hx2, hbl⟩ := hrel
          by_cases ek : kind = 2
          · subst ek
            have hn1 := H1.out (by omega)
            have HN1 := Lib.hid hn1
            have q1 : (0 : Int) < (n : Int) := by omega
            clear hn1
            have hmk := HMK2.out
            simp only [beq_self_eq_true, Bool.true_and] at hmk
            have HMK3 := Lib.hid hmk
            clear hmk HMK2
            by_cases hl5 : l ≤ 5
            · by_cases hLl : LV ≤ l
              · obtain ⟨b, o, rfl, hb, hcs⟩ := H6.out (by have := HN1.out; omega)
                obtain ⟨r0, r1, r2, r3, hrow, hcat⟩ := hcs 0 (by have := HN1.out; omega)
                have kb : ∀ k, k < B → wr.heap[k]? = w.heap[k]? := fun k hk => hbl.out.block k (by omega)
                have hrow' := hrow.keep hb kb
                have hcat' := hcat.keep kb
                simp at hrow'
                have c0 : wr.cell? ⟨b, o, none⟩ = some r0 := hrow' 0 _ rfl
                have c1 : wr.cell? ⟨b, o + 1, none⟩ = some r1 := hrow' 1 _ rfl
                have c2 : wr.cell? ⟨b, o + 2, none⟩ = some r2 := hrow' 2 _ rfl
                have c3 : wr.cell? ⟨b, o + 3, none⟩ = some r3 := hrow' 3 _ rfl
                have hcall := en_any (kids 0) (d - 1) (hk 0 (by have := HN1.out; omega)) _ l B wr hcat' (by have := hbl.out.size; omega)
                have HC := Lib.hid hcall
                clear hcall hcat hcat' hrow hrow' hcs kb
                go_wp2_with fail
                refine HC.out.mono ?_
                rintro e w' ⟨rfl, hb'⟩
                have hsz := hbl.out.size
                have hxw : w.heap.size < wr.heap.size := World.block_lt_of_cell? wr _ hx2
                have hx0' : w'.cell? ⟨w.heap.size, 0, none⟩ = some (.int .i64 2) := (World.cell?_of_block (w := wr) (hb'.block _ hxw)).trans hx0
                have hx1' : w'.cell? ⟨w.heap.size, 1, none⟩ = some (.int .i64 lvl) := (World.cell?_of_block (w := wr) (hb'.block _ hxw)).trans hx1
                have hx2' : w'.cell? ⟨w.heap.size, 2, none⟩ = some (.slice (some ⟨b, o, none⟩) n cap) := (World.cell?_of_block (w := wr) (hb'.block _ hxw)).trans hx2
                have HB := Lib.hid (hbl.out.trans (hb'.mono hsz))
                clear hb' hbl c0 c1 c2 c3 hx0 hx1 hx2
                rcases he : en (kids 0) l with _ | _
                · go_wp2_with fail
                  go_ret
                  have : makes (.mk 2 lvl n kids fs) = false := by
                    rw [HMK3.out, anyB_true.2 ⟨(l + 1).toNat, by omega, by rw [show (((l + 1).toNat : Nat) : Int) - 1 = l by omega, he]; simpa using hLl⟩]; rfl
                  exact ⟨congrArg (fun b => Ending.returned (.bool b)) this.symm, HB.out⟩
                · go_wp2_with fail
                  go_roundw
                  case rel => exact ⟨l + 1, by go_num, by omega, by omega, (fun _ m h0 hm hLm => if e : m = l then e ▸ he else hall rfl m h0 (by omega) hLm), hx0', hx1', hx2', HB⟩
                  case measure => simp [intOf]; omega
              · go_wp2_with fail
                go_roundw
                case rel => exact ⟨l + 1, by go_num, by omega, by omega, (fun _ m h0 hm hLm => if e : m = l then absurd (e ▸ hLm) hLl else hall rfl m h0 (by omega) hLm), hx0, hx1, hx2, hbl⟩
                case measure => simp [intOf]; omega
            · go_wp2_with fail
              go_ret
              have : makes (.mk 2 lvl n kids fs) = true := by
                rw [HMK3.out, anyB_false.2 fun i hi => ?_]; · rfl
                by_cases hm : LV ≤ (i : Int) - 1
                · rw [hall rfl _ (by omega) (by omega) hm]; simp
                · simp [hm]
              exact ⟨congrArg (fun b => Ending.returned (.bool b)) this.symm, hbl.out⟩
          · have ekb : (kind == 2) = false := by simp [ek]
            have hv2 : makes (.mk kind lvl n kids fs) = true := by rw [HMK2.out, ekb]; rfl
            have HV2 := Lib.hid hv2
            clear HMK2 hv2
            by_cases hl5 : l ≤ 5
            · go_wp2_with fail
              go_ret
              exact ⟨congrArg (fun b => Ending.returned (.bool b)) HV2.out.symm, hbl.out⟩
            · go_wp2_with fail
              go_ret
              exact ⟨congrArg (fun b => Ending.returned (.bool b)) HV2.out.symm, hbl.out⟩
end Go.Proofs.Zap
