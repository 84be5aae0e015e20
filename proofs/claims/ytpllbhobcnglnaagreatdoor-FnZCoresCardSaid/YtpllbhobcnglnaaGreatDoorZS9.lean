/- a text of the claims over the seat; its order and aim: NOTES.md -/
import Derived.Test.YtpllbhobcnglnaaGreatDoorZT4
import Derived.Test.YtpllbhobcnglnaaGreatDoorZT9
import Derived.Laws.ResultCell
namespace Go.Proofs.Zap
open Go Go.Proofs Go.RowKit

set_option maxHeartbeats 1000000 in
theorem moment_zero (N a : Int) (zone : ByteArray) (w : World) : Calls Tryz.prog 64 #[.agg (mzA true N a zone)] w fun e w' => e = .returned (.agg #[.int .i64 0, .int .i32 0, .string ⟨#[]⟩, .int .i64 0]) ∧ Below w.heap.size w w' := by
  unfold mzA
  have hb : ∀ o, Blk ((w.alloc o).alloc (.cells #[.int .i64 0, .int .i32 0, .string ⟨#[]⟩, .int .i64 0] 112)) (w.heap.size + 1) 112 #[.int .i64 0, .int .i32 0, .string ⟨#[]⟩, .int .i64 0] := fun o => Blk.new2 w o 112 _
  have HB := Lib.hid hb
  clear hb
  go_enter Tryz.func64, Tryz.ntmps64
  go_wp2_with fail
  refine bodyPost_ret (results_cell_row rfl _ _ (w.heap.size + 1) 112 #[.int .i64 0, .int .i32 0, .string ⟨#[]⟩, .int .i64 0] (0, 0) _ rfl ?_ Tryz.underlying112 rfl (by kernel_rfl)) rfl ⟨rfl, ?_⟩
  · exact HB.out _
  · exact ((Below.refl _ _).alloc (Nat.le_refl _) _).alloc (by simp) _

theorem moment_some (zero : Bool) (N a : Int) (zone : ByteArray) (h0 : -9223372036854775808 ≤ N) (h1 : N ≤ 9223372036854775807) (w : World) :
    Calls Tryz.prog 64 #[.agg (mzA zero N a zone)] w fun e w' => (∃ x n z o, e = .returned (.agg #[.int .i64 x, .int .i32 n, .string z, .int .i64 o])) ∧ Below w.heap.size w w' := by
  cases zero
  · refine (moment_any N a zone h0 h1 w).mono ?_
    rintro e w' ⟨rfl, hb⟩
    exact ⟨⟨_, _, _, _, rfl⟩, hb⟩
  · refine (moment_zero N a zone w).mono ?_
    rintro e w' ⟨rfl, hb⟩
    exact ⟨⟨_, _, _, _, rfl⟩, hb⟩

/-- an entry as it is handed in -/
structure ZE where
  lv : Int
  zero : Bool
  nanos : Int
  offs : Int
  zone : ByteArray
  lg : ByteArray
  ms : ByteArray
  df : Bool
  file : ByteArray
  line : Int
  fn : ByteArray
  st : ByteArray
abbrev ZE.arr (z : ZE) : Array Value := #[.int .i64 z.lv, .bool z.zero, .int .i64 z.nanos, .int .i64 z.offs, .string z.zone, .string z.lg, .string z.ms, .bool z.df, .string z.file, .int .i64 z.line, .string z.fn, .string z.st]

/-- its cells in block X -/
abbrev ZES (w' : World) (X : Nat) (z : ZE) : Prop := w'.cell? ⟨X, 0, none⟩ = some (.int .i64 z.lv) ∧ w'.cell? ⟨X, 1, none⟩ = some (.bool z.zero) ∧ w'.cell? ⟨X, 2, none⟩ = some (.int .i64 z.nanos) ∧ w'.cell? ⟨X, 3, none⟩ = some (.int .i64 z.offs) ∧ w'.cell? ⟨X, 4, none⟩ = some (.string z.zone) ∧ w'.cell? ⟨X, 5, none⟩ = some (.string z.lg) ∧ w'.cell? ⟨X, 6, none⟩ = some (.string z.ms) ∧ w'.cell? ⟨X, 7, none⟩ = some (.bool z.df) ∧ w'.cell? ⟨X, 8, none⟩ = some (.string z.file) ∧ w'.cell? ⟨X, 9, none⟩ = some (.int .i64 z.line) ∧ w'.cell? ⟨X, 10, none⟩ = some (.string z.fn) ∧ w'.cell? ⟨X, 11, none⟩ = some (.string z.st)
theorem zeS {w' : World} {X : Nat} {z : ZE} (h : Blk w' X 77 z.arr) : ZES w' X z := ⟨h.cell 0, h.cell 1, h.cell 2, h.cell 3, h.cell 4, h.cell 5, h.cell 6, h.cell 7, h.cell 8, h.cell 9, h.cell 10, h.cell 11⟩

def ev0 : EV := ⟨0, 0, ⟨#[]⟩, 0, ⟨#[]⟩, ⟨#[]⟩, false, 0, ⟨#[]⟩, 0, ⟨#[]⟩, ⟨#[]⟩⟩

theorem ev0c {w' : World} {X : Nat} (h : Blk w' X 156 (ev0.arr 0)) : w'.cell? ⟨X, 0, none⟩ = some (.int .i8 0) ∧ w'.cell? ⟨X, 1, none⟩ = some (.int .i64 0) ∧ w'.cell? ⟨X, 2, none⟩ = some (.int .i32 0) ∧ w'.cell? ⟨X, 3, none⟩ = some (.string ⟨#[]⟩) ∧ w'.cell? ⟨X, 4, none⟩ = some (.int .i64 0) ∧ w'.cell? ⟨X, 5, none⟩ = some (.string ⟨#[]⟩) ∧ w'.cell? ⟨X, 6, none⟩ = some (.string ⟨#[]⟩) ∧ w'.cell? ⟨X, 7, none⟩ = some (.bool false) ∧ w'.cell? ⟨X, 8, none⟩ = some (.int .u64 0) ∧ w'.cell? ⟨X, 9, none⟩ = some (.string ⟨#[]⟩) ∧ w'.cell? ⟨X, 10, none⟩ = some (.int .i64 0) ∧ w'.cell? ⟨X, 11, none⟩ = some (.string ⟨#[]⟩) ∧ w'.cell? ⟨X, 12, none⟩ = some (.string ⟨#[]⟩) ∧ w'.frozen? ⟨X, 0, none⟩ = false ∧ w'.frozen? ⟨X, 1, none⟩ = false ∧ w'.frozen? ⟨X, 2, none⟩ = false ∧ w'.frozen? ⟨X, 3, none⟩ = false ∧ w'.frozen? ⟨X, 4, none⟩ = false ∧ w'.frozen? ⟨X, 5, none⟩ = false ∧ w'.frozen? ⟨X, 6, none⟩ = false ∧ w'.frozen? ⟨X, 7, none⟩ = false ∧ w'.frozen? ⟨X, 8, none⟩ = false ∧ w'.frozen? ⟨X, 9, none⟩ = false ∧ w'.frozen? ⟨X, 10, none⟩ = false ∧ w'.frozen? ⟨X, 11, none⟩ = false ∧ w'.frozen? ⟨X, 12, none⟩ = false := ⟨h.cell 0, h.cell 1, h.cell 2, h.cell 3, h.cell 4, h.cell 5, h.cell 6, h.cell 7, h.cell 8, h.cell 9, h.cell 10, h.cell 11, h.cell 12, h.frozen 0, h.frozen 1, h.frozen 2, h.frozen 3, h.frozen 4, h.frozen 5, h.frozen 6, h.frozen 7, h.frozen 8, h.frozen 9, h.frozen 10, h.frozen 11, h.frozen 12⟩

theorem sets13 (v0 v1 v2 v3 v4 v5 v6 v7 v8 v9 v10 v11 v12 u0 u1 u2 u3 u4 u5 u6 u7 u8 u9 u10 u11 u12 : Value) : (((((((((((((#[v0, v1, v2, v3, v4, v5, v6, v7, v8, v9, v10, v11, v12].setIfInBounds 0 u0).setIfInBounds 1 u1).setIfInBounds 2 u2).setIfInBounds 3 u3).setIfInBounds 4 u4).setIfInBounds 5 u5).setIfInBounds 6 u6).setIfInBounds 7 u7).setIfInBounds 8 u8).setIfInBounds 9 u9).setIfInBounds 10 u10).setIfInBounds 11 u11).setIfInBounds 12 u12) = #[u0, u1, u2, u3, u4, u5, u6, u7, u8, u9, u10, u11, u12] := by simp

set_option maxRecDepth 100000 in
set_option maxHeartbeats 8000000 in
theorem entryOf_any (z : ZE) (h0 : -9223372036854775808 ≤ z.nanos) (h1 : z.nanos ≤ 9223372036854775807) (w : World) : Calls Tryz.prog 84 #[.agg z.arr] w fun e w' => (∃ E : EV, e = .returned (.agg (E.arr (w8 z.lv)))) ∧ Below w.heap.size w w' := by
  have hX : Blk ((w.alloc (.cells z.arr 77)).alloc (.cells (ev0.arr 0) 156)) w.heap.size 77 z.arr := (Blk.new w 77 _).alloc _
  have hR : Blk ((w.alloc (.cells z.arr 77)).alloc (.cells (ev0.arr 0) 156)) (w.heap.size + 1) 156 (ev0.arr 0) := Blk.new2 w _ 156 _
  obtain ⟨W0, hW0⟩ : ∃ W0, W0 = ((w.alloc (.cells z.arr 77)).alloc (.cells (ev0.arr 0) 156)) := ⟨_, rfl⟩
  have hz0 : W0.heap.size = w.heap.size + 2 := by rw [hW0]; simp
  have hbw : Below w.heap.size w W0 := by rw [hW0]; exact ((Below.refl _ _).alloc (Nat.le_refl _) _).alloc (by simp) _
  rw [← hW0] at hX hR
  have hm := fun W => moment_some z.zero z.nanos z.offs z.zone h0 h1 W
  have e2 := wrap8 z.lv
  have hs0 := zeS hX
  have hkX : ∀ w', Below W0.heap.size W0.drew w' → Blk w' w.heap.size 77 z.arr ∧ Blk w' (w.heap.size + 1) 156 (ev0.arr 0) ∧ Below w.heap.size w w' := fun w' hb => ⟨hX.drew.below hb (by omega), hR.drew.below hb (by omega), hbw.drew.trans (hb.mono (by omega))⟩
  have HKX := Lib.hid hkX
  have HM := Lib.hid hm
  have HW0 := Lib.hid hW0
  have HS0 := Lib.hid hs0
  clear hX hR hW0 hz0 hbw hm hkX hs0
  unfold ev0 at *
  unfold ZE.arr EV.arr mzA at *
  go_enter Tryz.func84, Tryz.ntmps84
  go_wp2_with fail
  generalize hWW : World.alloc (w.alloc _) _ = W1
  obtain rfl : W1 = W0 := hWW.symm.trans HW0.out.symm
  clear hWW HW0
  obtain ⟨a0, a1, a2, a3, a4, a5, a6, a7, a8, a9, a10, a11⟩ := HS0.out
  go_region_held3 (fun w' => ZES w' w.heap.size z) (first | with_reducible exact HS0.out | with_reducible exact zeS HKB.out | with_reducible exact HSF.out | exact HS0.out) ((go_at_call 64; refine (HM.out _).mono ?_; rintro en w2 ⟨⟨mx, mn, mz, mo, rfl⟩, hb2⟩; have hkk := HKX.out w2 hb2; have hX2 := hkk.1; have hR2 := hkk.2.1; have hb3 := hkk.2.2; have HKB := Lib.hid hX2; have hRf := (((((((((((((hR2.set_ 0 (.int .i8 (w8 z.lv))).set_ 1 (.int .i64 mx)).set_ 2 (.int .i32 mn)).set_ 3 (.string mz)).set_ 4 (.int .i64 mo)).set_ 5 (.string z.lg)).set_ 6 (.string z.ms)).set_ 7 (.bool z.df)).set_ 8 (.int .u64 0)).set_ 9 (.string z.file)).set_ 10 (.int .i64 z.line)).set_ 11 (.string z.fn)).set_ 12 (.string z.st)); have hXf := (((((((((((((hX2.far (p := ⟨w.heap.size + 1, 0, none⟩) (by simp) (.int .i8 (w8 z.lv))).far (p := ⟨w.heap.size + 1, 1, none⟩) (by simp) (.int .i64 mx)).far (p := ⟨w.heap.size + 1, 2, none⟩) (by simp) (.int .i32 mn)).far (p := ⟨w.heap.size + 1, 3, none⟩) (by simp) (.string mz)).far (p := ⟨w.heap.size + 1, 4, none⟩) (by simp) (.int .i64 mo)).far (p := ⟨w.heap.size + 1, 5, none⟩) (by simp) (.string z.lg)).far (p := ⟨w.heap.size + 1, 6, none⟩) (by simp) (.string z.ms)).far (p := ⟨w.heap.size + 1, 7, none⟩) (by simp) (.bool z.df)).far (p := ⟨w.heap.size + 1, 8, none⟩) (by simp) (.int .u64 0)).far (p := ⟨w.heap.size + 1, 9, none⟩) (by simp) (.string z.file)).far (p := ⟨w.heap.size + 1, 10, none⟩) (by simp) (.int .i64 z.line)).far (p := ⟨w.heap.size + 1, 11, none⟩) (by simp) (.string z.fn)).far (p := ⟨w.heap.size + 1, 12, none⟩) (by simp) (.string z.st)); have hBf := (((((((((((((hb3.setCell (p := ⟨w.heap.size + 1, 0, none⟩) (by simp) (.int .i8 (w8 z.lv))).setCell (p := ⟨w.heap.size + 1, 1, none⟩) (by simp) (.int .i64 mx)).setCell (p := ⟨w.heap.size + 1, 2, none⟩) (by simp) (.int .i32 mn)).setCell (p := ⟨w.heap.size + 1, 3, none⟩) (by simp) (.string mz)).setCell (p := ⟨w.heap.size + 1, 4, none⟩) (by simp) (.int .i64 mo)).setCell (p := ⟨w.heap.size + 1, 5, none⟩) (by simp) (.string z.lg)).setCell (p := ⟨w.heap.size + 1, 6, none⟩) (by simp) (.string z.ms)).setCell (p := ⟨w.heap.size + 1, 7, none⟩) (by simp) (.bool z.df)).setCell (p := ⟨w.heap.size + 1, 8, none⟩) (by simp) (.int .u64 0)).setCell (p := ⟨w.heap.size + 1, 9, none⟩) (by simp) (.string z.file)).setCell (p := ⟨w.heap.size + 1, 10, none⟩) (by simp) (.int .i64 z.line)).setCell (p := ⟨w.heap.size + 1, 11, none⟩) (by simp) (.string z.fn)).setCell (p := ⟨w.heap.size + 1, 12, none⟩) (by simp) (.string z.st)); have hsf := zeS hXf; have HSF := Lib.hid hsf; have HRF := Lib.hid hRf; have HBF := Lib.hid hBf; obtain ⟨x0, x1, x2, x3, x4, x5, x6, x7, x8, x9, x10, x11, x12, f0, f1, f2, f3, f4, f5, f6, f7, f8, f9, f10, f11, f12⟩ := ev0c hR2; clear hkk hX2 hR2 hb3 hRf hXf hBf hsf hb2))
  all_goals
    clear HKB HSF HS0 HKX HM a0 a1 a2 a3 a4 a5 a6 a7 a8 a9 a10 a11 x0 f0 x1 f1 x2 f2 x3 f3 x4 f4 x5 f5 x6 f6 x7 f7 x8 f8 x9 f9 x10 f10 x11 f11 x12 f12 e2
    go_wp2_with fail
    have hr := HRF.out
    have hb := HBF.out
    rw [sets13] at hr
    clear HRF HBF
    revert hr hb
    generalize World.setCell _ _ _ = WF
    intro hr hb
    refine bodyPost_ret (results_cell_row rfl _ _ (w.heap.size + 1) 156 ((⟨mx, mn, mz, mo, z.lg, z.ms, z.df, 0, z.file, z.line, z.fn, z.st⟩ : EV).arr (w8 z.lv)) (0, 0) _ rfl hr Tryz.underlying156 rfl (by kernel_rfl)) rfl ⟨⟨_, rfl⟩, hb⟩
end Go.Proofs.Zap
