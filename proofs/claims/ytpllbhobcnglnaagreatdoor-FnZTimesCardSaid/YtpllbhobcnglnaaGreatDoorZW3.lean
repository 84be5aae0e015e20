/- a text of the claims over the seat; its order and aim: NOTES.md -/
import Derived.Test.YtpllbhobcnglnaaGreatDoorZW2
namespace Go.Proofs.Zap
open Go Go.Proofs Go.RowKit

set_option maxHeartbeats 400000 in
theorem safeAddString_any (E U base : Nat) (l : List UInt8) (s : ByteArray) (w : World) (hT : Tabs w) (hU13 : 13 ≤ U) (hb : Buf w base U l) (hl : l.length ≤ 100000) (hs : s.size ≤ 100000)
    (hE : w.cell? ⟨E, 1, none⟩ = some (.pointer (some ⟨U, 0, none⟩))) :
    Calls Tryz.prog 107 #[.pointer (some ⟨E, 0, none⟩), .string s] w fun e w' => e = .returned (.tuple #[]) ∧ Buf w' base U (l ++ esc s.data.toList) ∧ Keep base U w w' := by
  go_enter Tryz.func107, Tryz.ntmps107
  go_wp2_with fail
  refine (safeAppend_any U base l s w hT hU13 hb hl hs).mono ?_
  rintro e w' ⟨rfl, h1, h2⟩
  have H1 := Lib.hid h1
  have H2 := Lib.hid h2
  clear h1 h2
  go_wp2
  go_end0
  exact ⟨rfl, H1.out, H2.out⟩

set_option maxHeartbeats 400000 in
theorem safeAddByteString_any (E U base b cp : Nat) (l : List UInt8) (s : ByteArray) (w : World) (hT : Tabs w) (hU13 : 13 ≤ U) (hb : Buf w base U l) (hl : l.length ≤ 100000) (hs : s.size ≤ 100000)
    (hbb : b < base) (hbU : b ≠ U) (hcp : s.size ≤ cp) (hcpm : cp ≤ 9223372036854775807)
    (hcell : ∀ j, j < s.size → w.cell? ⟨b, j, none⟩ = some (.int .u8 (s.get! j).toNat))
    (hE : w.cell? ⟨E, 1, none⟩ = some (.pointer (some ⟨U, 0, none⟩))) :
    Calls Tryz.prog 109 #[.pointer (some ⟨E, 0, none⟩), .slice (some ⟨b, 0, none⟩) s.size cp] w fun e w' => e = .returned (.tuple #[]) ∧ Buf w' base U (l ++ esc s.data.toList) ∧ Keep base U w w' := by
  have HC := Lib.hid hcell
  clear hcell
  go_enter Tryz.func109, Tryz.ntmps109
  go_wp2_with fail
  refine (safeAppendB_any U base b cp l s w hT hU13 hb hl hs hbb hbU hcp hcpm HC.out).mono ?_
  rintro e w' ⟨rfl, h1, h2⟩
  have H1 := Lib.hid h1
  have H2 := Lib.hid h2
  clear h1 h2
  go_wp2
  go_end0
  exact ⟨rfl, H1.out, H2.out⟩

/-- the world behind the making of an encoder -/
def encW (tm du : Value) (w : World) : World :=
  ((w.alloc (.cells (cfgCells ⟨#[10]⟩ .nilFunc tm du .nilFunc).toArray 100)).alloc (.cells #[.slice none 0 0] 265)).alloc (.cells #[.pointer (some ⟨w.heap.size, 0, none⟩), .pointer (some ⟨w.heap.size + 1, 0, none⟩), .bool false, .int .i64 0] 183)

theorem encW_size (tm du : Value) (w : World) : (encW tm du w).heap.size = w.heap.size + 3 := by simp [encW]

theorem encW_below (tm du : Value) (w : World) : Below w.heap.size w (encW tm du w) :=
  (((Below.refl _ _).alloc (Nat.le_refl _) _).alloc (by simp) _).alloc (by simp; omega) _

theorem encW_cell (tm du : Value) (w : World) : (encW tm du w).cell? ⟨w.heap.size + 2, 1, none⟩ = some (.pointer (some ⟨w.heap.size + 1, 0, none⟩)) := by
  unfold encW
  rw [World.cell?_alloc_at _ _ _ _ (by simp)]; rfl

theorem encW_buf (tm du : Value) (w : World) : Buf (encW tm du w) (w.heap.size + 3) (w.heap.size + 1) [] := by
  refine ⟨by omega, by rw [encW_size]; omega, .slice none 0 0, ?_, World.ownsRow_nil _ _ _ _⟩
  unfold encW
  have h1 : w.heap.size + 1 < ((w.alloc (.cells (cfgCells ⟨#[10]⟩ .nilFunc tm du .nilFunc).toArray 100)).alloc (.cells #[.slice none 0 0] 265)).heap.size := by simp
  rw [Below.heap_alloc _ _ _ h1]
  have := heap_alloc_new (w.alloc (.cells (cfgCells ⟨#[10]⟩ .nilFunc tm du .nilFunc).toArray 100)) (.cells #[.slice none 0 0] 265)
  simpa using this

theorem newEnc' (tm du : Value) (w : World) :
    Calls Tryz.prog 95 #[.agg (cfgCells ⟨#[]⟩ .nilFunc tm du .nilFunc).toArray, .bool false] w fun e w' => e = .returned (.pointer (some ⟨w.heap.size + 2, 0, none⟩)) ∧ w' = encW tm du w :=
  newEnc tm du w

theorem keep_to_below {w0 w w' : World} {base U : Nat} (h : Below w0.heap.size w0 w) (hk : Keep base U w w') (hb : w0.heap.size ≤ base) (hU : w0.heap.size ≤ U) : Below w0.heap.size w0 w' :=
  h.trans ⟨hk.os, hk.tape, hk.output, hk.size, fun k hlt => hk.block k (by omega) (by omega)⟩

set_option maxHeartbeats 400000 in
set_option maxRecDepth 100000 in
theorem escape_any (s : ByteArray) (w : World) (hT : Tabs w) (hw : 13 ≤ w.heap.size) (hs : s.size ≤ 100000) :
    Calls Tryz.prog 60 #[.string s] w fun e w' => e = .returned (.string ⟨(esc s.data.toList).toArray⟩) ∧ Below w.heap.size w w' := by
  go_enter Tryz.func60, Tryz.ntmps60
  go_wp2_with fail
  refine (newEnc' .nilFunc .nilFunc w).mono ?_
  rintro e w1 ⟨rfl, hw1⟩
  have hbel : Below w.heap.size w w1 := by rw [hw1]; exact encW_below _ _ _
  have hE : w1.cell? ⟨w.heap.size + 2, 1, none⟩ = some (.pointer (some ⟨w.heap.size + 1, 0, none⟩)) := by rw [hw1]; exact encW_cell _ _ _
  have hB : Buf w1 (w.heap.size + 3) (w.heap.size + 1) [] := by rw [hw1]; exact encW_buf _ _ _
  have hT1 : Tabs w1 := hT.below hbel hw
  clear hw1
  go_wp2_with fail
  refine (safeAddString_any _ (w.heap.size + 1) (w.heap.size + 3) [] s w1 hT1 (by omega) hB (by simp) hs hE).mono ?_
  rintro e w2 ⟨rfl, hB2, hk2⟩
  have hE2 : w2.cell? ⟨w.heap.size + 2, 1, none⟩ = some (.pointer (some ⟨w.heap.size + 1, 0, none⟩)) := (hk2.cell (by omega) (by omega)).trans hE
  have HB := Lib.hid (keep_to_below hbel hk2 (by omega) (by omega))
  rw [List.nil_append] at hB2
  go_wp2_with fail
  refine (bufString_any _ _ _ _ hB2).mono ?_
  rintro e w3 ⟨rfl, rfl⟩
  go_wp2
  go_ret
  exact ⟨rfl, HB.out⟩

set_option maxHeartbeats 400000 in
set_option maxRecDepth 100000 in
theorem escapeBytes_any (b cp : Nat) (s : ByteArray) (w : World) (hT : Tabs w) (hw : 13 ≤ w.heap.size) (hs : s.size ≤ 100000)
    (hbb : b < w.heap.size) (hcp : s.size ≤ cp) (hcpm : cp ≤ 9223372036854775807)
    (hcell : ∀ j, j < s.size → w.cell? ⟨b, j, none⟩ = some (.int .u8 (s.get! j).toNat)) :
    Calls Tryz.prog 62 #[.slice (some ⟨b, 0, none⟩) s.size cp] w fun e w' => e = .returned (.string ⟨(esc s.data.toList).toArray⟩) ∧ Below w.heap.size w w' := by
  have HC := Lib.hid hcell
  clear hcell
  go_enter Tryz.func62, Tryz.ntmps62
  go_wp2_with fail
  refine (newEnc' .nilFunc .nilFunc w).mono ?_
  rintro e w1 ⟨rfl, hw1⟩
  have hbel : Below w.heap.size w w1 := by rw [hw1]; exact encW_below _ _ _
  have hE : w1.cell? ⟨w.heap.size + 2, 1, none⟩ = some (.pointer (some ⟨w.heap.size + 1, 0, none⟩)) := by rw [hw1]; exact encW_cell _ _ _
  have hB : Buf w1 (w.heap.size + 3) (w.heap.size + 1) [] := by rw [hw1]; exact encW_buf _ _ _
  have hT1 : Tabs w1 := hT.below hbel hw
  have HC1 := Lib.hid (fun j (hj : j < s.size) => (hbel.cell (p := ⟨b, j, none⟩) hbb).trans (HC.out j hj))
  clear hw1
  go_wp2_with fail
  refine (safeAddByteString_any _ (w.heap.size + 1) (w.heap.size + 3) b cp [] s w1 hT1 (by omega) hB (by simp) hs (by omega) (by omega) hcp hcpm HC1.out hE).mono ?_
  rintro e w2 ⟨rfl, hB2, hk2⟩
  have hE2 : w2.cell? ⟨w.heap.size + 2, 1, none⟩ = some (.pointer (some ⟨w.heap.size + 1, 0, none⟩)) := (hk2.cell (by omega) (by omega)).trans hE
  have HB := Lib.hid (keep_to_below hbel hk2 (by omega) (by omega))
  rw [List.nil_append] at hB2
  go_wp2_with fail
  refine (bufString_any _ _ _ _ hB2).mono ?_
  rintro e w3 ⟨rfl, rfl⟩
  go_wp2
  go_ret
  exact ⟨rfl, HB.out⟩

theorem zEscape_any (s : ByteArray) (w : World) (hT : Tabs w) (hw : 13 ≤ w.heap.size) (hs : s.size ≤ 100000) :
    Calls Tryz.prog 18 #[.string s] w fun e w' => e = .returned (.string ⟨(esc s.data.toList).toArray⟩) ∧ Below w.heap.size w w' := by
  go_enter Tryz.func18, Tryz.ntmps18
  go_wp2_with fail
  refine (escape_any s w hT hw hs).mono ?_
  rintro e w1 ⟨rfl, hb⟩
  go_wp2
  go_ret
  exact ⟨rfl, hb⟩

theorem zEscapeBytes_any (b cp : Nat) (s : ByteArray) (w : World) (hT : Tabs w) (hw : 13 ≤ w.heap.size) (hs : s.size ≤ 100000)
    (hbb : b < w.heap.size) (hcp : s.size ≤ cp) (hcpm : cp ≤ 9223372036854775807)
    (hcell : ∀ j, j < s.size → w.cell? ⟨b, j, none⟩ = some (.int .u8 (s.get! j).toNat)) :
    Calls Tryz.prog 20 #[.slice (some ⟨b, 0, none⟩) s.size cp] w fun e w' => e = .returned (.string ⟨(esc s.data.toList).toArray⟩) ∧ Below w.heap.size w w' := by
  have HC := Lib.hid hcell
  clear hcell
  go_enter Tryz.func20, Tryz.ntmps20
  go_wp2_with fail
  refine (escapeBytes_any b cp s w hT hw hs hbb hcp hcpm HC.out).mono ?_
  rintro e w1 ⟨rfl, hb⟩
  go_wp2
  go_ret
  exact ⟨rfl, hb⟩
end Go.Proofs.Zap
