/- a text of the claims over the seat; its order and aim: NOTES.md -/
import Derived.Test.YtpllbhobcnglnaaGreatDoorZQ4
namespace Go.Proofs.Zap
open Go Go.Proofs Go.RowKit

theorem headF_true {kind : Int} {n d : Nat} (h : kind < 0 ∨ 5 < kind ∨ d = 0 ∨ 6 < n ∨ ((kind = 2 ∨ kind = 3 ∨ kind = 4) ∧ n ≠ 1) ∨ ((kind = 0 ∨ kind = 5) ∧ n = 1)) : headF kind n d = true := by
  unfold headF
  rcases h with h | h | h | h | ⟨h, h2⟩ | ⟨h, h2⟩
  · simp [h]
  · simp [h]
  · simp [h]
  · simp [h]
  · rcases h with rfl | rfl | rfl <;> simp [h2]
  · rcases h with rfl | rfl <;> simp [h2]

/-- the loop of fine, and its end -/
abbrev FinePost (w : World) (t : CT FC) (d : Nat) : Ending → World → Prop := Says w (.bool (fine t d))

set_option maxHeartbeats 8000000 in
theorem fine_any (t : CT FC) : ∀ (d : Nat), d ≤ 100 → ∀ (v : Value) (B : Nat) (w : World), CAt w B t v → B ≤ w.heap.size →
    Calls Tryz.prog 28 #[v, .int .i64 d] w (Says w (.bool (fine t d))) := by
  induction t with
  | no => intro d hd v B w hc; exact hc.elim
  | mk kind lvl n kids fs ih =>
    intro d hd100 v B w hc hB
    obtain ⟨A, cap, fv, rfl, h2, h3, h4, h5, ⟨bd0, bd1, _, _⟩, h6⟩ := hc
    clear h5 h4
    have H6 := Lib.hid h6
    clear h6
    by_cases hbad : kind < 0 ∨ 5 < kind ∨ d = 0 ∨ 6 < n ∨ ((kind = 2 ∨ kind = 3 ∨ kind = 4) ∧ n ≠ 1) ∨ ((kind = 0 ∨ kind = 5) ∧ n = 1)
    · have hv : fine (.mk kind lvl n kids fs) d = false := by rw [fine_eq, headF_true hbad]; rfl
      have HV := Lib.hid hv
      clear hv ih
      by_cases b1 : kind < 0
      · have f2 : (kind == 2) = false := by simp; omega
        have f3 : (kind == 3) = false := by simp; omega
        have f4 : (kind == 4) = false := by simp; omega
        go_enter Tryz.func28, Tryz.ntmps28
        go_wp2_with fail
        go_ret
        exact ⟨congrArg (fun b => Ending.returned (.bool b)) HV.out.symm, (Below.refl _ _).alloc (Nat.le_refl _) _⟩
      by_cases b2 : 5 < kind
      · have f2 : (kind == 2) = false := by simp; omega
        have f3 : (kind == 3) = false := by simp; omega
        have f4 : (kind == 4) = false := by simp; omega
        go_enter Tryz.func28, Tryz.ntmps28
        go_wp2_with fail
        go_ret
        exact ⟨congrArg (fun b => Ending.returned (.bool b)) HV.out.symm, (Below.refl _ _).alloc (Nat.le_refl _) _⟩
      have hcs : kind = 0 ∨ kind = 1 ∨ kind = 2 ∨ kind = 3 ∨ kind = 4 ∨ kind = 5 := by omega
      by_cases b3 : d = 0
      · subst b3
        clear hbad
        rcases hcs with rfl | rfl | rfl | rfl | rfl | rfl
        all_goals
          go_enter Tryz.func28, Tryz.ntmps28
          go_wp2_with fail
          go_ret
          exact ⟨congrArg (fun b => Ending.returned (.bool b)) HV.out.symm, (Below.refl _ _).alloc (Nat.le_refl _) _⟩
      have d0 : ((d : Int) == 0) = false := by simp; omega
      by_cases b4 : 6 < (n : Int)
      · clear hbad
        rcases hcs with rfl | rfl | rfl | rfl | rfl | rfl
        all_goals
          go_enter Tryz.func28, Tryz.ntmps28
          go_wp2_with fail
          go_ret
          exact ⟨congrArg (fun b => Ending.returned (.bool b)) HV.out.symm, (Below.refl _ _).alloc (Nat.le_refl _) _⟩
      have b5 : kind ≠ 1 := by omega
      rcases hcs with rfl | rfl | rfl | rfl | rfl | rfl
      · have e1 : n = 1 := by omega
        have hn1 : ((n : Int) == 1) = true := by simp [e1]
        clear hbad e1
        go_enter Tryz.func28, Tryz.ntmps28
        go_wp2_with fail
        go_ret
        exact ⟨congrArg (fun b => Ending.returned (.bool b)) HV.out.symm, (Below.refl _ _).alloc (Nat.le_refl _) _⟩
      · omega
      · have hn1 : ((n : Int) == 1) = false := by simp; omega
        clear hbad
        go_enter Tryz.func28, Tryz.ntmps28
        go_wp2_with fail
        go_ret
        exact ⟨congrArg (fun b => Ending.returned (.bool b)) HV.out.symm, (Below.refl _ _).alloc (Nat.le_refl _) _⟩
      · have hn1 : ((n : Int) == 1) = false := by simp; omega
        clear hbad
        go_enter Tryz.func28, Tryz.ntmps28
        go_wp2_with fail
        go_ret
        exact ⟨congrArg (fun b => Ending.returned (.bool b)) HV.out.symm, (Below.refl _ _).alloc (Nat.le_refl _) _⟩
      · have hn1 : ((n : Int) == 1) = false := by simp; omega
        clear hbad
        go_enter Tryz.func28, Tryz.ntmps28
        go_wp2_with fail
        go_ret
        exact ⟨congrArg (fun b => Ending.returned (.bool b)) HV.out.symm, (Below.refl _ _).alloc (Nat.le_refl _) _⟩
      · have e1 : n = 1 := by omega
        have hn1 : ((n : Int) == 1) = true := by simp [e1]
        clear hbad e1
        go_enter Tryz.func28, Tryz.ntmps28
        go_wp2_with fail
        go_ret
        exact ⟨congrArg (fun b => Ending.returned (.bool b)) HV.out.symm, (Below.refl _ _).alloc (Nat.le_refl _) _⟩
    · have k0 : 0 ≤ kind := by omega
      have k5 : kind ≤ 5 := by omega
      have dpos : d ≠ 0 := by omega
      have hn6 : n ≤ 6 := by omega
      have hhead : headF kind n d = false := by
        have hcs : kind = 0 ∨ kind = 1 ∨ kind = 2 ∨ kind = 3 ∨ kind = 4 ∨ kind = 5 := by omega
        rcases hcs with rfl | rfl | rfl | rfl | rfl | rfl <;> simp [headF] <;> omega
      have hfe : fine (.mk kind lvl n kids fs) d = ((!anyB n fun i => !fine (kids i) (d - 1)) && tailF kind n) := by rw [fine_eq, hhead]; rfl
      have HFE := Lib.hid hfe
      have htl : tailF kind n = true ∨ ((kind = 0 ∨ kind = 5) ∧ n ≠ 0 ∧ tailF kind n = false) := by
        have hcs : kind = 0 ∨ kind = 1 ∨ kind = 2 ∨ kind = 3 ∨ kind = 4 ∨ kind = 5 := by omega
        rcases hcs with rfl | rfl | rfl | rfl | rfl | rfl <;> simp [tailF] <;> omega
      have HTL := Lib.hid htl
      have d0 : ((d : Int) == 0) = false := by simp; omega
      have hdw : IntKind.i64.wrap ((d : Int) - 1) = ((d - 1 : Nat) : Int) := by
        rw [wrap64_id (by omega) (by omega)]; omega
      have hX := Blk.new w 41 #[.int .i64 kind, .int .i64 lvl, .slice A n cap, fv]
      have hX0 : (w.alloc (.cells #[.int .i64 kind, .int .i64 lvl, .slice A n cap, fv] 41)).cell? ⟨w.heap.size, 0, none⟩ = some (.int .i64 kind) := hX.cell 0
      have hX2 : (w.alloc (.cells #[.int .i64 kind, .int .i64 lvl, .slice A n cap, fv] 41)).cell? ⟨w.heap.size, 2, none⟩ = some (.slice A n cap) := hX.cell 2
      have HB0 := Lib.hid ((Below.refl w.heap.size w).alloc (Nat.le_refl _) (.cells #[.int .i64 kind, .int .i64 lvl, .slice A n cap, fv] 41))
      have hdec : decide ((6 : Int) < (n : Int)) = false := by simp; omega
      clear hX hfe hhead htl
      have hcs : kind = 0 ∨ kind = 1 ∨ kind = 2 ∨ kind = 3 ∨ kind = 4 ∨ kind = 5 := by omega
      rcases hcs with rfl | rfl | rfl | rfl | rfl | rfl
      · have hn1 : ((n : Int) == 1) = false := by simp; omega
        clear hbad
        go_enter Tryz.func28, Tryz.ntmps28
        go_wp2_with fail
        go_loopw [6] (fun i wr => ∃ j : Nat, i = .int .i64 j ∧ j ≤ n ∧ (∀ m, m < j → fine (kids m) (d - 1) = true) ∧ wr.cell? ⟨w.heap.size, 0, none⟩ = some (.int .i64 0) ∧ wr.cell? ⟨w.heap.size, 2, none⟩ = some (.slice A n cap) ∧ Hid (Below w.heap.size w wr)) (fun i _ => n - (intOf i).toNat)
        case atStart => exact ⟨0, rfl, by omega, fun m hm => absurd hm (by omega), hX0, hX2, HB0⟩
        case round =>
          obtain ⟨j, rfl, hj, hall, hx0, hx2, hbl⟩ := hrel
          by_cases hlt : j < n
          · obtain ⟨b, o, rfl, hb, hcs⟩ := H6.out (by omega)
            obtain ⟨r0, r1, r2, r3, hrow, hcat⟩ := hcs j hlt
            have kb : ∀ k, k < B → wr.heap[k]? = w.heap[k]? := fun k hk => hbl.out.block k (by omega)
            have hrow' := hrow.keep hb kb
            have hcat' := hcat.keep kb
            have c0 : wr.cell? ⟨b, o + j * 4, none⟩ = some r0 := hrow' 0 _ rfl
            have c1 : wr.cell? ⟨b, o + j * 4 + 1, none⟩ = some r1 := hrow' 1 _ rfl
            have c2 : wr.cell? ⟨b, o + j * 4 + 2, none⟩ = some r2 := hrow' 2 _ rfl
            have c3 : wr.cell? ⟨b, o + j * 4 + 3, none⟩ = some r3 := hrow' 3 _ rfl
            have q0 : (0 : Int) ≤ (j : Int) := Int.natCast_nonneg _
            have q1 : (j : Int) < (n : Int) := by omega
            have hcall := ih j (d - 1) (by omega) _ B wr hcat' (by have := hbl.out.size; omega)
            have HC := Lib.hid hcall
            clear hcall hcat hcat' hrow hrow' hcs kb
            go_wp2_with fail
            refine HC.out.mono ?_
            rintro e w' ⟨rfl, hb'⟩
            have hsz := hbl.out.size
            have hxw : w.heap.size < wr.heap.size := World.block_lt_of_cell? wr _ hx2
            have hx0' : w'.cell? ⟨w.heap.size, 0, none⟩ = some (.int .i64 0) := (World.cell?_of_block (w := wr) (hb'.block _ hxw)).trans hx0
            have hx2' : w'.cell? ⟨w.heap.size, 2, none⟩ = some (.slice (some ⟨b, o, none⟩) n cap) := (World.cell?_of_block (w := wr) (hb'.block _ hxw)).trans hx2
            have HB := Lib.hid (hbl.out.trans (hb'.mono hsz))
            clear hb' hbl c0 c1 c2 c3 hx0 hx2
            rcases he : fine (kids j) (d - 1) with _ | _
            · have hv : fine (.mk 0 lvl n kids fs) d = false := by
                rw [HFE.out, anyB_true.2 ⟨j, hlt, by rw [he]; rfl⟩]; rfl
              have HV := Lib.hid hv
              clear hv
              go_wp2_with fail
              go_ret
              exact ⟨congrArg (fun b => Ending.returned (.bool b)) HV.out.symm, HB.out⟩
            · go_wp2_with fail
              go_roundw
              case rel => exact ⟨j + 1, by go_num, by omega, fun m hm => if e : m = j then e ▸ he else hall m (by omega), hx0', hx2', HB⟩
              case measure => simp [intOf]; omega
          · have hno : (anyB n fun i => !fine (kids i) (d - 1)) = false := anyB_false.2 fun i hi => by rw [hall i (by omega)]; rfl
            have hv : fine (.mk 0 lvl n kids fs) d = tailF 0 n := by rw [HFE.out, hno]; simp
            clear hno hall
            by_cases e0 : n = 0
            · have hv2 : fine (.mk 0 lvl n kids fs) d = true := by rw [hv, e0]; rfl
              have HV := Lib.hid hv2
              have e0b : ((n : Int) == 0) = true := by simp [e0]
              clear hv hv2 e0
              go_wp2_with fail
              go_ret
              exact ⟨congrArg (fun b => Ending.returned (.bool b)) HV.out.symm, hbl.out⟩
            · have hv2 : fine (.mk 0 lvl n kids fs) d = false := by rw [hv]; simp [tailF]; omega
              have HV := Lib.hid hv2
              have e0b : ((n : Int) == 0) = false := by simp; omega
              clear hv hv2 e0
              go_wp2_with fail
              go_ret
              exact ⟨congrArg (fun b => Ending.returned (.bool b)) HV.out.symm, hbl.out⟩
      · by_cases e1 : n = 1
        · have hn1 : ((n : Int) == 1) = true := by simp; omega
          clear hbad e1
          go_enter Tryz.func28, Tryz.ntmps28
          go_wp2_with fail
          go_loopw [6] (fun i wr => ∃ j : Nat, i = .int .i64 j ∧ j ≤ n ∧ (∀ m, m < j → fine (kids m) (d - 1) = true) ∧ wr.cell? ⟨w.heap.size, 0, none⟩ = some (.int .i64 1) ∧ wr.cell? ⟨w.heap.size, 2, none⟩ = some (.slice A n cap) ∧ Hid (Below w.heap.size w wr)) (fun i _ => n - (intOf i).toNat)
          case atStart => exact ⟨0, rfl, by omega, fun m hm => absurd hm (by omega), hX0, hX2, HB0⟩
          case round =>
            obtain ⟨j, rfl, hj, hall, hx0, hx2, hbl⟩ := hrel
            by_cases hlt : j < n
            · obtain ⟨b, o, rfl, hb, hcs⟩ := H6.out (by omega)
              obtain ⟨r0, r1, r2, r3, hrow, hcat⟩ := hcs j hlt
              have kb : ∀ k, k < B → wr.heap[k]? = w.heap[k]? := fun k hk => hbl.out.block k (by omega)
              have hrow' := hrow.keep hb kb
              have hcat' := hcat.keep kb
              have c0 : wr.cell? ⟨b, o + j * 4, none⟩ = some r0 := hrow' 0 _ rfl
              have c1 : wr.cell? ⟨b, o + j * 4 + 1, none⟩ = some r1 := hrow' 1 _ rfl
              have c2 : wr.cell? ⟨b, o + j * 4 + 2, none⟩ = some r2 := hrow' 2 _ rfl
              have c3 : wr.cell? ⟨b, o + j * 4 + 3, none⟩ = some r3 := hrow' 3 _ rfl
              have q0 : (0 : Int) ≤ (j : Int) := Int.natCast_nonneg _
              have q1 : (j : Int) < (n : Int) := by omega
              have hcall := ih j (d - 1) (by omega) _ B wr hcat' (by have := hbl.out.size; omega)
              have HC := Lib.hid hcall
              clear hcall hcat hcat' hrow hrow' hcs kb
              go_wp2_with fail
              refine HC.out.mono ?_
              rintro e w' ⟨rfl, hb'⟩
              have hsz := hbl.out.size
              have hxw : w.heap.size < wr.heap.size := World.block_lt_of_cell? wr _ hx2
              have hx0' : w'.cell? ⟨w.heap.size, 0, none⟩ = some (.int .i64 1) := (World.cell?_of_block (w := wr) (hb'.block _ hxw)).trans hx0
              have hx2' : w'.cell? ⟨w.heap.size, 2, none⟩ = some (.slice (some ⟨b, o, none⟩) n cap) := (World.cell?_of_block (w := wr) (hb'.block _ hxw)).trans hx2
              have HB := Lib.hid (hbl.out.trans (hb'.mono hsz))
              clear hb' hbl c0 c1 c2 c3 hx0 hx2
              rcases he : fine (kids j) (d - 1) with _ | _
              · have hv : fine (.mk 1 lvl n kids fs) d = false := by
                  rw [HFE.out, anyB_true.2 ⟨j, hlt, by rw [he]; rfl⟩]; rfl
                have HV := Lib.hid hv
                clear hv
                go_wp2_with fail
                go_ret
                exact ⟨congrArg (fun b => Ending.returned (.bool b)) HV.out.symm, HB.out⟩
              · go_wp2_with fail
                go_roundw
                case rel => exact ⟨j + 1, by go_num, by omega, fun m hm => if e : m = j then e ▸ he else hall m (by omega), hx0', hx2', HB⟩
                case measure => simp [intOf]; omega
            · have hno : (anyB n fun i => !fine (kids i) (d - 1)) = false := anyB_false.2 fun i hi => by rw [hall i (by omega)]; rfl
              have hv : fine (.mk 1 lvl n kids fs) d = tailF 1 n := by rw [HFE.out, hno]; simp
              clear hno hall
              have HV := Lib.hid (hv.trans (show tailF 1 n = true from rfl))
              clear hv
              go_wp2_with fail
              go_ret
              exact ⟨congrArg (fun b => Ending.returned (.bool b)) HV.out.symm, hbl.out⟩
        · have hn1 : ((n : Int) == 1) = false := by simp; omega
          clear hbad
          go_enter Tryz.func28, Tryz.ntmps28
          go_wp2_with fail
          go_loopw [6] (fun i wr => ∃ j : Nat, i = .int .i64 j ∧ j ≤ n ∧ (∀ m, m < j → fine (kids m) (d - 1) = true) ∧ wr.cell? ⟨w.heap.size, 0, none⟩ = some (.int .i64 1) ∧ wr.cell? ⟨w.heap.size, 2, none⟩ = some (.slice A n cap) ∧ Hid (Below w.heap.size w wr)) (fun i _ => n - (intOf i).toNat)
          case atStart => exact ⟨0, rfl, by omega, fun m hm => absurd hm (by omega), hX0, hX2, HB0⟩
          case round =>
            obtain ⟨j, rfl, hj, hall, hx0, hx2, hbl⟩ := hrel
            by_cases hlt : j < n
            · obtain ⟨b, o, rfl, hb, hcs⟩ := H6.out (by omega)
              obtain ⟨r0, r1, r2, r3, hrow, hcat⟩ := hcs j hlt
              have kb : ∀ k, k < B → wr.heap[k]? = w.heap[k]? := fun k hk => hbl.out.block k (by omega)
              have hrow' := hrow.keep hb kb
              have hcat' := hcat.keep kb
              have c0 : wr.cell? ⟨b, o + j * 4, none⟩ = some r0 := hrow' 0 _ rfl
              have c1 : wr.cell? ⟨b, o + j * 4 + 1, none⟩ = some r1 := hrow' 1 _ rfl
              have c2 : wr.cell? ⟨b, o + j * 4 + 2, none⟩ = some r2 := hrow' 2 _ rfl
              have c3 : wr.cell? ⟨b, o + j * 4 + 3, none⟩ = some r3 := hrow' 3 _ rfl
              have q0 : (0 : Int) ≤ (j : Int) := Int.natCast_nonneg _
              have q1 : (j : Int) < (n : Int) := by omega
              have hcall := ih j (d - 1) (by omega) _ B wr hcat' (by have := hbl.out.size; omega)
              have HC := Lib.hid hcall
              clear hcall hcat hcat' hrow hrow' hcs kb
              go_wp2_with fail
              refine HC.out.mono ?_
              rintro e w' ⟨rfl, hb'⟩
              have hsz := hbl.out.size
              have hxw : w.heap.size < wr.heap.size := World.block_lt_of_cell? wr _ hx2
              have hx0' : w'.cell? ⟨w.heap.size, 0, none⟩ = some (.int .i64 1) := (World.cell?_of_block (w := wr) (hb'.block _ hxw)).trans hx0
              have hx2' : w'.cell? ⟨w.heap.size, 2, none⟩ = some (.slice (some ⟨b, o, none⟩) n cap) := (World.cell?_of_block (w := wr) (hb'.block _ hxw)).trans hx2
              have HB := Lib.hid (hbl.out.trans (hb'.mono hsz))
              clear hb' hbl c0 c1 c2 c3 hx0 hx2
              rcases he : fine (kids j) (d - 1) with _ | _
              · have hv : fine (.mk 1 lvl n kids fs) d = false := by
                  rw [HFE.out, anyB_true.2 ⟨j, hlt, by rw [he]; rfl⟩]; rfl
                have HV := Lib.hid hv
                clear hv
                go_wp2_with fail
                go_ret
                exact ⟨congrArg (fun b => Ending.returned (.bool b)) HV.out.symm, HB.out⟩
              · go_wp2_with fail
                go_roundw
                case rel => exact ⟨j + 1, by go_num, by omega, fun m hm => if e : m = j then e ▸ he else hall m (by omega), hx0', hx2', HB⟩
                case measure => simp [intOf]; omega
            · have hno : (anyB n fun i => !fine (kids i) (d - 1)) = false := anyB_false.2 fun i hi => by rw [hall i (by omega)]; rfl
              have hv : fine (.mk 1 lvl n kids fs) d = tailF 1 n := by rw [HFE.out, hno]; simp
              clear hno hall
              have HV := Lib.hid (hv.trans (show tailF 1 n = true from rfl))
              clear hv
              go_wp2_with fail
              go_ret
              exact ⟨congrArg (fun b => Ending.returned (.bool b)) HV.out.symm, hbl.out⟩
      · have hn1 : ((n : Int) == 1) = true := by simp; omega
        clear hbad
        go_enter Tryz.func28, Tryz.ntmps28
        go_wp2_with fail
        go_loopw [6] (fun i wr => ∃ j : Nat, i = .int .i64 j ∧ j ≤ n ∧ (∀ m, m < j → fine (kids m) (d - 1) = true) ∧ wr.cell? ⟨w.heap.size, 0, none⟩ = some (.int .i64 2) ∧ wr.cell? ⟨w.heap.size, 2, none⟩ = some (.slice A n cap) ∧ Hid (Below w.heap.size w wr)) (fun i _ => n - (intOf i).toNat)
        case atStart => exact ⟨0, rfl, by omega, fun m hm => absurd hm (by omega), hX0, hX2, HB0⟩
        case round =>
          obtain ⟨j, rfl, hj, hall, hx0, hx2, hbl⟩ := hrel
          by_cases hlt : j < n
          · obtain ⟨b, o, rfl, hb, hcs⟩ := H6.out (by omega)
            obtain ⟨r0, r1, r2, r3, hrow, hcat⟩ := hcs j hlt
            have kb : ∀ k, k < B → wr.heap[k]? = w.heap[k]? := fun k hk => hbl.out.block k (by omega)
            have hrow' := hrow.keep hb kb
            have hcat' := hcat.keep kb
            have c0 : wr.cell? ⟨b, o + j * 4, none⟩ = some r0 := hrow' 0 _ rfl
            have c1 : wr.cell? ⟨b, o + j * 4 + 1, none⟩ = some r1 := hrow' 1 _ rfl
            have c2 : wr.cell? ⟨b, o + j * 4 + 2, none⟩ = some r2 := hrow' 2 _ rfl
            have c3 : wr.cell? ⟨b, o + j * 4 + 3, none⟩ = some r3 := hrow' 3 _ rfl
            have q0 : (0 : Int) ≤ (j : Int) := Int.natCast_nonneg _
            have q1 : (j : Int) < (n : Int) := by omega
            have hcall := ih j (d - 1) (by omega) _ B wr hcat' (by have := hbl.out.size; omega)
            have HC := Lib.hid hcall
            clear hcall hcat hcat' hrow hrow' hcs kb
            go_wp2_with fail
            refine HC.out.mono ?_
            rintro e w' ⟨rfl, hb'⟩
            have hsz := hbl.out.size
            have hxw : w.heap.size < wr.heap.size := World.block_lt_of_cell? wr _ hx2
            have hx0' : w'.cell? ⟨w.heap.size, 0, none⟩ = some (.int .i64 2) := (World.cell?_of_block (w := wr) (hb'.block _ hxw)).trans hx0
            have hx2' : w'.cell? ⟨w.heap.size, 2, none⟩ = some (.slice (some ⟨b, o, none⟩) n cap) := (World.cell?_of_block (w := wr) (hb'.block _ hxw)).trans hx2
            have HB := Lib.hid (hbl.out.trans (hb'.mono hsz))
            clear hb' hbl c0 c1 c2 c3 hx0 hx2
            rcases he : fine (kids j) (d - 1) with _ | _
            · have hv : fine (.mk 2 lvl n kids fs) d = false := by
                rw [HFE.out, anyB_true.2 ⟨j, hlt, by rw [he]; rfl⟩]; rfl
              have HV := Lib.hid hv
              clear hv
              go_wp2_with fail
              go_ret
              exact ⟨congrArg (fun b => Ending.returned (.bool b)) HV.out.symm, HB.out⟩
            · go_wp2_with fail
              go_roundw
              case rel => exact ⟨j + 1, by go_num, by omega, fun m hm => if e : m = j then e ▸ he else hall m (by omega), hx0', hx2', HB⟩
              case measure => simp [intOf]; omega
          · have hno : (anyB n fun i => !fine (kids i) (d - 1)) = false := anyB_false.2 fun i hi => by rw [hall i (by omega)]; rfl
            have hv : fine (.mk 2 lvl n kids fs) d = tailF 2 n := by rw [HFE.out, hno]; simp
            clear hno hall
            have HV := Lib.hid (hv.trans (show tailF 2 n = true from rfl))
            clear hv
            go_wp2_with fail
            go_ret
            exact ⟨congrArg (fun b => Ending.returned (.bool b)) HV.out.symm, hbl.out⟩
      · have hn1 : ((n : Int) == 1) = true := by simp; omega
        clear hbad
        go_enter Tryz.func28, Tryz.ntmps28
        go_wp2_with fail
        go_loopw [6] (fun i wr => ∃ j : Nat, i = .int .i64 j ∧ j ≤ n ∧ (∀ m, m < j → fine (kids m) (d - 1) = true) ∧ wr.cell? ⟨w.heap.size, 0, none⟩ = some (.int .i64 3) ∧ wr.cell? ⟨w.heap.size, 2, none⟩ = some (.slice A n cap) ∧ Hid (Below w.heap.size w wr)) (fun i _ => n - (intOf i).toNat)
        case atStart => exact ⟨0, rfl, by omega, fun m hm => absurd hm (by omega), hX0, hX2, HB0⟩
        case round =>
          obtain ⟨j, rfl, hj, hall, hx0, hx2, hbl⟩ := hrel
          by_cases hlt : j < n
          · obtain ⟨b, o, rfl, hb, hcs⟩ := H6.out (by omega)
            obtain ⟨r0, r1, r2, r3, hrow, hcat⟩ := hcs j hlt
            have kb : ∀ k, k < B → wr.heap[k]? = w.heap[k]? := fun k hk => hbl.out.block k (by omega)
            have hrow' := hrow.keep hb kb
            have hcat' := hcat.keep kb
            have c0 : wr.cell? ⟨b, o + j * 4, none⟩ = some r0 := hrow' 0 _ rfl
            have c1 : wr.cell? ⟨b, o + j * 4 + 1, none⟩ = some r1 := hrow' 1 _ rfl
            have c2 : wr.cell? ⟨b, o + j * 4 + 2, none⟩ = some r2 := hrow' 2 _ rfl
            have c3 : wr.cell? ⟨b, o + j * 4 + 3, none⟩ = some r3 := hrow' 3 _ rfl
            have q0 : (0 : Int) ≤ (j : Int) := Int.natCast_nonneg _
            have q1 : (j : Int) < (n : Int) := by omega
            have hcall := ih j (d - 1) (by omega) _ B wr hcat' (by have := hbl.out.size; omega)
            have HC := Lib.hid hcall
            clear hcall hcat hcat' hrow hrow' hcs kb
            go_wp2_with fail
            refine HC.out.mono ?_
            rintro e w' ⟨rfl, hb'⟩
            have hsz := hbl.out.size
            have hxw : w.heap.size < wr.heap.size := World.block_lt_of_cell? wr _ hx2
            have hx0' : w'.cell? ⟨w.heap.size, 0, none⟩ = some (.int .i64 3) := (World.cell?_of_block (w := wr) (hb'.block _ hxw)).trans hx0
            have hx2' : w'.cell? ⟨w.heap.size, 2, none⟩ = some (.slice (some ⟨b, o, none⟩) n cap) := (World.cell?_of_block (w := wr) (hb'.block _ hxw)).trans hx2
            have HB := Lib.hid (hbl.out.trans (hb'.mono hsz))
            clear hb' hbl c0 c1 c2 c3 hx0 hx2
            rcases he : fine (kids j) (d - 1) with _ | _
            · have hv : fine (.mk 3 lvl n kids fs) d = false := by
                rw [HFE.out, anyB_true.2 ⟨j, hlt, by rw [he]; rfl⟩]; rfl
              have HV := Lib.hid hv
              clear hv
              go_wp2_with fail
              go_ret
              exact ⟨congrArg (fun b => Ending.returned (.bool b)) HV.out.symm, HB.out⟩
            · go_wp2_with fail
              go_roundw
              case rel => exact ⟨j + 1, by go_num, by omega, fun m hm => if e : m = j then e ▸ he else hall m (by omega), hx0', hx2', HB⟩
              case measure => simp [intOf]; omega
          · have hno : (anyB n fun i => !fine (kids i) (d - 1)) = false := anyB_false.2 fun i hi => by rw [hall i (by omega)]; rfl
            have hv : fine (.mk 3 lvl n kids fs) d = tailF 3 n := by rw [HFE.out, hno]; simp
            clear hno hall
            have HV := Lib.hid (hv.trans (show tailF 3 n = true from rfl))
            clear hv
            go_wp2_with fail
            go_ret
            exact ⟨congrArg (fun b => Ending.returned (.bool b)) HV.out.symm, hbl.out⟩
      · have hn1 : ((n : Int) == 1) = true := by simp; omega
        clear hbad
        go_enter Tryz.func28, Tryz.ntmps28
        go_wp2_with fail
        go_loopw [6] (fun i wr => ∃ j : Nat, i = .int .i64 j ∧ j ≤ n ∧ (∀ m, m < j → fine (kids m) (d - 1) = true) ∧ wr.cell? ⟨w.heap.size, 0, none⟩ = some (.int .i64 4) ∧ wr.cell? ⟨w.heap.size, 2, none⟩ = some (.slice A n cap) ∧ Hid (Below w.heap.size w wr)) (fun i _ => n - (intOf i).toNat)
        case atStart => exact ⟨0, rfl, by omega, fun m hm => absurd hm (by omega), hX0, hX2, HB0⟩
        case round =>
          obtain ⟨j, rfl, hj, hall, hx0, hx2, hbl⟩ := hrel
          by_cases hlt : j < n
          · obtain ⟨b, o, rfl, hb, hcs⟩ := H6.out (by omega)
            obtain ⟨r0, r1, r2, r3, hrow, hcat⟩ := hcs j hlt
            have kb : ∀ k, k < B → wr.heap[k]? = w.heap[k]? := fun k hk => hbl.out.block k (by omega)
            have hrow' := hrow.keep hb kb
            have hcat' := hcat.keep kb
            have c0 : wr.cell? ⟨b, o + j * 4, none⟩ = some r0 := hrow' 0 _ rfl
            have c1 : wr.cell? ⟨b, o + j * 4 + 1, none⟩ = some r1 := hrow' 1 _ rfl
            have c2 : wr.cell? ⟨b, o + j * 4 + 2, none⟩ = some r2 := hrow' 2 _ rfl
            have c3 : wr.cell? ⟨b, o + j * 4 + 3, none⟩ = some r3 := hrow' 3 _ rfl
            have q0 : (0 : Int) ≤ (j : Int) := Int.natCast_nonneg _
            have q1 : (j : Int) < (n : Int) := by omega
            have hcall := ih j (d - 1) (by omega) _ B wr hcat' (by have := hbl.out.size; omega)
            have HC := Lib.hid hcall
            clear hcall hcat hcat' hrow hrow' hcs kb
            go_wp2_with fail
            refine HC.out.mono ?_
            rintro e w' ⟨rfl, hb'⟩
            have hsz := hbl.out.size
            have hxw : w.heap.size < wr.heap.size := World.block_lt_of_cell? wr _ hx2
            have hx0' : w'.cell? ⟨w.heap.size, 0, none⟩ = some (.int .i64 4) := (World.cell?_of_block (w := wr) (hb'.block _ hxw)).trans hx0
            have hx2' : w'.cell? ⟨w.heap.size, 2, none⟩ = some (.slice (some ⟨b, o, none⟩) n cap) := (World.cell?_of_block (w := wr) (hb'.block _ hxw)).trans hx2
            have HB := Lib.hid (hbl.out.trans (hb'.mono hsz))
            clear hb' hbl c0 c1 c2 c3 hx0 hx2
            rcases he : fine (kids j) (d - 1) with _ | _
            · have hv : fine (.mk 4 lvl n kids fs) d = false := by
                rw [HFE.out, anyB_true.2 ⟨j, hlt, by rw [he]; rfl⟩]; rfl
              have HV := Lib.hid hv
              clear hv
              go_wp2_with fail
              go_ret
              exact ⟨congrArg (fun b => Ending.returned (.bool b)) HV.out.symm, HB.out⟩
            · go_wp2_with fail
              go_roundw
              case rel => exact ⟨j + 1, by go_num, by omega, fun m hm => if e : m = j then e ▸ he else hall m (by omega), hx0', hx2', HB⟩
              case measure => simp [intOf]; omega
          · have hno : (anyB n fun i => !fine (kids i) (d - 1)) = false := anyB_false.2 fun i hi => by rw [hall i (by omega)]; rfl
            have hv : fine (.mk 4 lvl n kids fs) d = tailF 4 n := by rw [HFE.out, hno]; simp
            clear hno hall
            have HV := Lib.hid (hv.trans (show tailF 4 n = true from rfl))
            clear hv
            go_wp2_with fail
            go_ret
            exact ⟨congrArg (fun b => Ending.returned (.bool b)) HV.out.symm, hbl.out⟩
      · have hn1 : ((n : Int) == 1) = false := by simp; omega
        clear hbad
        go_enter Tryz.func28, Tryz.ntmps28
        go_wp2_with fail
        go_loopw [6] (fun i wr => ∃ j : Nat, i = .int .i64 j ∧ j ≤ n ∧ (∀ m, m < j → fine (kids m) (d - 1) = true) ∧ wr.cell? ⟨w.heap.size, 0, none⟩ = some (.int .i64 5) ∧ wr.cell? ⟨w.heap.size, 2, none⟩ = some (.slice A n cap) ∧ Hid (Below w.heap.size w wr)) (fun i _ => n - (intOf i).toNat)
        case atStart => exact ⟨0, rfl, by omega, fun m hm => absurd hm (by omega), hX0, hX2, HB0⟩
        case round =>
          obtain ⟨j, rfl, hj, hall, hx0, hx2, hbl⟩ := hrel
          by_cases hlt : j < n
          · obtain ⟨b, o, rfl, hb, hcs⟩ := H6.out (by omega)
            obtain ⟨r0, r1, r2, r3, hrow, hcat⟩ := hcs j hlt
            have kb : ∀ k, k < B → wr.heap[k]? = w.heap[k]? := fun k hk => hbl.out.block k (by omega)
            have hrow' := hrow.keep hb kb
            have hcat' := hcat.keep kb
            have c0 : wr.cell? ⟨b, o + j * 4, none⟩ = some r0 := hrow' 0 _ rfl
            have c1 : wr.cell? ⟨b, o + j * 4 + 1, none⟩ = some r1 := hrow' 1 _ rfl
            have c2 : wr.cell? ⟨b, o + j * 4 + 2, none⟩ = some r2 := hrow' 2 _ rfl
            have c3 : wr.cell? ⟨b, o + j * 4 + 3, none⟩ = some r3 := hrow' 3 _ rfl
            have q0 : (0 : Int) ≤ (j : Int) := Int.natCast_nonneg _
            have q1 : (j : Int) < (n : Int) := by omega
            have hcall := ih j (d - 1) (by omega) _ B wr hcat' (by have := hbl.out.size; omega)
            have HC := Lib.hid hcall
            clear hcall hcat hcat' hrow hrow' hcs kb
            go_wp2_with fail
            refine HC.out.mono ?_
            rintro e w' ⟨rfl, hb'⟩
            have hsz := hbl.out.size
            have hxw : w.heap.size < wr.heap.size := World.block_lt_of_cell? wr _ hx2
            have hx0' : w'.cell? ⟨w.heap.size, 0, none⟩ = some (.int .i64 5) := (World.cell?_of_block (w := wr) (hb'.block _ hxw)).trans hx0
            have hx2' : w'.cell? ⟨w.heap.size, 2, none⟩ = some (.slice (some ⟨b, o, none⟩) n cap) := (World.cell?_of_block (w := wr) (hb'.block _ hxw)).trans hx2
            have HB := Lib.hid (hbl.out.trans (hb'.mono hsz))
            clear hb' hbl c0 c1 c2 c3 hx0 hx2
            rcases he : fine (kids j) (d - 1) with _ | _
            · have hv : fine (.mk 5 lvl n kids fs) d = false := by
                rw [HFE.out, anyB_true.2 ⟨j, hlt, by rw [he]; rfl⟩]; rfl
              have HV := Lib.hid hv
              clear hv
              go_wp2_with fail
              go_ret
              exact ⟨congrArg (fun b => Ending.returned (.bool b)) HV.out.symm, HB.out⟩
            · go_wp2_with fail
              go_roundw
              case rel => exact ⟨j + 1, by go_num, by omega, fun m hm => if e : m = j then e ▸ he else hall m (by omega), hx0', hx2', HB⟩
              case measure => simp [intOf]; omega
          · have hno : (anyB n fun i => !fine (kids i) (d - 1)) = false := anyB_false.2 fun i hi => by rw [hall i (by omega)]; rfl
            have hv : fine (.mk 5 lvl n kids fs) d = tailF 5 n := by rw [HFE.out, hno]; simp
            clear hno hall
            by_cases e0 : n = 0
            · have hv2 : fine (.mk 5 lvl n kids fs) d = true := by rw [hv, e0]; rfl
              have HV := Lib.hid hv2
              have e0b : ((n : Int) == 0) = true := by simp [e0]
              clear hv hv2 e0
              go_wp2_with fail
              go_ret
              exact ⟨congrArg (fun b => Ending.returned (.bool b)) HV.out.symm, hbl.out⟩
            · have hv2 : fine (.mk 5 lvl n kids fs) d = false := by rw [hv]; simp [tailF]; omega
              have HV := Lib.hid hv2
              have e0b : ((n : Int) == 0) = false := by simp; omega
              clear hv hv2 e0
              go_wp2_with fail
              go_ret
              exact ⟨congrArg (fun b => Ending.returned (.bool b)) HV.out.symm, hbl.out⟩
end Go.Proofs.Zap
