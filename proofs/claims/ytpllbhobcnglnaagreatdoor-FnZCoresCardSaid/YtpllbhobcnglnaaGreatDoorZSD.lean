/- a text of the claims over the seat; its order and aim: NOTES.md -/
import Derived.Test.YtpllbhobcnglnaaGreatDoorZSA
import Derived.Test.YtpllbhobcnglnaaGreatDoorZQ6
import Derived.Test.YtpllbhobcnglnaaGreatDoorZQ9
namespace Go.Proofs.Zap
open Go Go.Proofs Go.RowKit

set_option maxHeartbeats 2000000 in
theorem fits6_any (zero : Bool) (N a : Int) (zone : ByteArray) (w : World) : Calls Tryz.prog 21 #[.agg (mzA zero N a zone)] w (SaysB w) := by
  unfold mzA
  by_cases e1 : 2147483647 < (zone.size : Int)
  · go_enter Tryz.func21, Tryz.ntmps21
    go_wp2_with fail
    go_ret
    exact ⟨false, rfl, (Below.refl _ _).alloc (Nat.le_refl _) _⟩
  · go_enter Tryz.func21, Tryz.ntmps21
    go_wp2_with fail
    go_ret
    exact ⟨true, rfl, (Below.refl _ _).alloc (Nat.le_refl _) _⟩

set_option maxHeartbeats 4000000 in
theorem fits5_any (z : ZE) (w : World) : Calls Tryz.prog 46 #[.agg z.arr] w (SaysB w) := by
  have hX := Blk.new w 77 z.arr
  have hb0 : Below w.heap.size w (w.alloc (.cells z.arr 77)) := (Below.refl _ _).alloc (Nat.le_refl _) _
  have h21 := fits6_any z.zero z.nanos z.offs z.zone (w.alloc (.cells z.arr 77))
  have hk : ∀ w', Below (w.alloc (.cells z.arr 77)).heap.size (w.alloc (.cells z.arr 77)) w' → ZES w' w.heap.size z ∧ Below w.heap.size w w' := fun w' hb => ⟨zeS (hX.below hb (by simp)), hb0.trans (hb.mono (by simp))⟩
  have HK := Lib.hid hk
  have H21 := Lib.hid h21
  clear hk h21 hX hb0
  unfold ZE.arr mzA at *
  go_enter Tryz.func46, Tryz.ntmps46
  go_wp2_with fail
  refine H21.out.mono ?_
  rintro e w1 ⟨b, rfl, hb⟩
  obtain ⟨⟨x0, x1, x2, x3, x4, x5, x6, x7, x8, x9, x10, x11⟩, hbl⟩ := HK.out w1 hb
  have HBL := Lib.hid hbl
  clear hbl hb HK H21
  cases b
  · go_wp2_with fail
    go_ret
    exact ⟨false, rfl, HBL.out⟩
  · by_cases e0 : 2147483647 < (z.lg.size : Int)
    · go_wp2_with fail
      go_ret
      exact ⟨false, rfl, HBL.out⟩
    · by_cases e1 : 2147483647 < (z.ms.size : Int)
      · go_wp2_with fail
        go_ret
        exact ⟨false, rfl, HBL.out⟩
      · by_cases e2 : 2147483647 < (z.file.size : Int)
        · go_wp2_with fail
          go_ret
          exact ⟨false, rfl, HBL.out⟩
        · by_cases e3 : 2147483647 < (z.fn.size : Int)
          · go_wp2_with fail
            go_ret
            exact ⟨false, rfl, HBL.out⟩
          · by_cases e4 : 2147483647 < (z.st.size : Int)
            · go_wp2_with fail
              go_ret
              exact ⟨false, rfl, HBL.out⟩
            · go_wp2_with fail
              go_ret
              exact ⟨true, rfl, HBL.out⟩

set_option maxRecDepth 100000 in
set_option maxHeartbeats 4000000 in
theorem fits8_any (EL : List ZE) (ev : Value) (B : Nat) (w : World) (hE : ELk w B EL ev) (hB : B ≤ w.heap.size) : Calls Tryz.prog 40 #[ev] w (SaysB w) := by
  obtain ⟨eA, ec, rfl, e2, e3, e4, e5⟩ := hE
  generalize hen : EL.length = en at *
  have HEN := Lib.hid hen
  have HE5 := Lib.hid e5
  have HB0 := Lib.hid (Below.refl w.heap.size w)
  clear e4 e5 hen
  by_cases hbig : 2147483647 < (en : Int)
  · go_enter Tryz.func40, Tryz.ntmps40
    go_wp2_with fail
    go_ret
    exact ⟨false, rfl, Below.refl _ _⟩
  · go_enter Tryz.func40, Tryz.ntmps40
    go_wp2_with fail
    go_loopw [10] (fun i wr => ∃ j : Nat, i = .int .i64 j ∧ j ≤ en ∧ Hid (Below w.heap.size w wr)) (fun i _ => en - (intOf i).toNat)
    case atStart => exact ⟨0, rfl, by omega, HB0⟩
    case round =>
      obtain ⟨j, rfl, hj, hbl⟩ := hrel
      have hsz := hbl.out.size
      by_cases hlt : j < en
      · obtain ⟨z, hz⟩ : ∃ z, EL[j]? = some z := ⟨EL[j]'(by have := HEN.out; omega), by simp⟩
        obtain ⟨eb, eo, rfl, heb, hecs⟩ := HE5.out (by omega)
        obtain ⟨hrow, hn1, hn2⟩ := hecs j z hz
        have hrow' := hrow.keep heb (w' := wr) fun k hk => hbl.out.block k (by omega)
        have r0 : wr.cell? ⟨eb, eo + j * 12, none⟩ = some (.int .i64 z.lv) := hrow' 0 _ rfl
        have r1 : wr.cell? ⟨eb, eo + j * 12 + 1, none⟩ = some (.bool z.zero) := hrow' 1 _ rfl
        have r2 : wr.cell? ⟨eb, eo + j * 12 + 2, none⟩ = some (.int .i64 z.nanos) := hrow' 2 _ rfl
        have r3 : wr.cell? ⟨eb, eo + j * 12 + 3, none⟩ = some (.int .i64 z.offs) := hrow' 3 _ rfl
        have r4 : wr.cell? ⟨eb, eo + j * 12 + 4, none⟩ = some (.string z.zone) := hrow' 4 _ rfl
        have r5 : wr.cell? ⟨eb, eo + j * 12 + 5, none⟩ = some (.string z.lg) := hrow' 5 _ rfl
        have r6 : wr.cell? ⟨eb, eo + j * 12 + 6, none⟩ = some (.string z.ms) := hrow' 6 _ rfl
        have r7 : wr.cell? ⟨eb, eo + j * 12 + 7, none⟩ = some (.bool z.df) := hrow' 7 _ rfl
        have r8 : wr.cell? ⟨eb, eo + j * 12 + 8, none⟩ = some (.string z.file) := hrow' 8 _ rfl
        have r9 : wr.cell? ⟨eb, eo + j * 12 + 9, none⟩ = some (.int .i64 z.line) := hrow' 9 _ rfl
        have r10 : wr.cell? ⟨eb, eo + j * 12 + 10, none⟩ = some (.string z.fn) := hrow' 10 _ rfl
        have r11 : wr.cell? ⟨eb, eo + j * 12 + 11, none⟩ = some (.string z.st) := hrow' 11 _ rfl
        have q0 : (0 : Int) ≤ (j : Int) := Int.natCast_nonneg _
        have q1 : (j : Int) < (en : Int) := by omega
        have hcall : ∀ o, Calls Tryz.prog 46 #[.agg z.arr] (wr.alloc o) (SaysB (wr.alloc o)) := fun o => fits5_any z _
        have hkb : ∀ o, Below w.heap.size w (wr.alloc o) := fun o => hbl.out.alloc hsz o
        have HCALL := Lib.hid hcall
        have HKB := Lib.hid hkb
        clear hcall hkb hrow hrow' hecs
        unfold ZE.arr at *
        go_wp2_with fail
        refine (HCALL.out _).mono ?_
        rintro e w1 ⟨b, rfl, hb⟩
        have HBL := Lib.hid ((HKB.out _).trans (hb.mono (HKB.out _).size))
        clear hb HCALL HKB r0 r1 r2 r3 r4 r5 r6 r7 r8 r9 r10 r11
        cases b
        · go_wp2_with fail
          go_ret
          exact ⟨false, rfl, HBL.out⟩
        · go_wp2_with fail
          go_roundw
          case rel => exact ⟨j + 1, by go_num, by omega, HBL⟩
          case measure => simp [intOf]; omega
      · have ej : j = en := by omega
        subst ej
        go_wp2_with fail
        go_ret
        exact ⟨true, rfl, hbl.out⟩

/-- what zCoreLooked answers -/
def LkP (t : CT FC) (EL : List ZE) (FL : List (List FC)) (w : World) (e : Ending) (w' : World) : Prop :=
  ∃ b : Bool, e = .returned (.bool b) ∧ Below w.heap.size w w' ∧ (b = true → EL.length ≤ 20 ∧ FL.length ≤ 20 ∧ flen t ≤ 300 ∧ fine t 6 = true ∧ ∀ fs, fs ∈ FL → fs.length ≤ 300)
end Go.Proofs.Zap
