/- a text of the claims over the seat; its order and aim: NOTES.md -/
import Derived.Test.YtpllbhobcnglnaaGreatDoorZP1
import Derived.Laws.EntriesVeiled
import Derived.Laws.CopyOwn
namespace Go.Proofs.Zap
open Go Go.Proofs Go.RowKit

def cfgIn (k0 k1 k2 k3 k4 k5 k6 : ByteArray) (b7 : Bool) (s8 : ByteArray) (i9 i10 i11 i12 i13 : Int) (s14 s15 : ByteArray) : Array Value :=
  #[.string k0, .string k1, .string k2, .string k3, .string k4, .string k5, .string k6, .bool b7, .string s8, .int .i64 i9, .int .i64 i10, .int .i64 i11, .int .i64 i12, .int .i64 i13, .string s14, .string s15]

set_option maxHeartbeats 12000000 in
set_option maxRecDepth 100000 in
theorem configD_any (k0 k1 k2 k3 k4 k5 k6 : ByteArray) (b7 : Bool) (s8 : ByteArray) (i9 i10 i11 i12 i13 : Int) (s14 s15 : ByteArray) (f : FuncId)
    (h9 : ∀ w, Calls Tryz.prog 96 #[.int .i64 i9] w fun e w' => e = .returned (.nilFunc) ∧ w' = w)
    (h10 : ∀ w, Calls Tryz.prog 97 #[.int .i64 i10, .string s14] w fun e w' => e = .returned (.nilFunc) ∧ w' = w)
    (h11 : ∀ w, Calls Tryz.prog 98 #[.int .i64 i11] w fun e w' => e = .returned (.func (.func f) #[] #[]) ∧ w' = w)
    (h12 : ∀ w, Calls Tryz.prog 99 #[.int .i64 i12] w fun e w' => e = .returned (.nilFunc) ∧ w' = w)
    (h13 : (i13 == 1) = false) (w : World) :
    Calls Tryz.prog 54 #[.agg (cfgIn k0 k1 k2 k3 k4 k5 k6 b7 s8 i9 i10 i11 i12 i13 s14 s15)] w fun e w' =>
      e = .returned (.agg #[.string k0, .string k1, .string k2, .string k3, .string k4, .string k5, .string k6, .bool b7, .string s8, .nilFunc, .nilFunc, .func (.func f) #[] #[], .nilFunc, .nilFunc, .string s15]) ∧ Below w.heap.size w w' := by
  have H9 := Lib.hid h9
  have H10 := Lib.hid h10
  have H11 := Lib.hid h11
  have H12 := Lib.hid h12
  clear h9 h10 h11 h12
  unfold cfgIn
  go_enter Tryz.func54, Tryz.ntmps54
  go_wp2_with fail
  have hC : ((w.alloc (.cells #[.string k0, .string k1, .string k2, .string k3, .string k4, .string k5, .string k6, .bool b7, .string s8, .int .i64 i9, .int .i64 i10, .int .i64 i11, .int .i64 i12, .int .i64 i13, .string s14, .string s15] 75)).alloc (.cells #[.string ⟨#[]⟩, .string ⟨#[]⟩, .string ⟨#[]⟩, .string ⟨#[]⟩, .string ⟨#[]⟩, .string ⟨#[]⟩, .string ⟨#[]⟩, .bool false, .string ⟨#[]⟩, .nilFunc, .nilFunc, .nilFunc, .nilFunc, .nilFunc, .string ⟨#[]⟩] 100)).heap[w.heap.size]? = some (.cells #[.string k0, .string k1, .string k2, .string k3, .string k4, .string k5, .string k6, .bool b7, .string s8, .int .i64 i9, .int .i64 i10, .int .i64 i11, .int .i64 i12, .int .i64 i13, .string s14, .string s15] 75 (0, 0)) := by
    change ((w.heap.push _).push _)[w.heap.size]? = _
    simp [Array.getElem?_push]
  have hZ : ((w.alloc (.cells #[.string k0, .string k1, .string k2, .string k3, .string k4, .string k5, .string k6, .bool b7, .string s8, .int .i64 i9, .int .i64 i10, .int .i64 i11, .int .i64 i12, .int .i64 i13, .string s14, .string s15] 75)).alloc (.cells #[.string ⟨#[]⟩, .string ⟨#[]⟩, .string ⟨#[]⟩, .string ⟨#[]⟩, .string ⟨#[]⟩, .string ⟨#[]⟩, .string ⟨#[]⟩, .bool false, .string ⟨#[]⟩, .nilFunc, .nilFunc, .nilFunc, .nilFunc, .nilFunc, .string ⟨#[]⟩] 100)).heap[w.heap.size + 1]? = some (.cells #[.string ⟨#[]⟩, .string ⟨#[]⟩, .string ⟨#[]⟩, .string ⟨#[]⟩, .string ⟨#[]⟩, .string ⟨#[]⟩, .string ⟨#[]⟩, .bool false, .string ⟨#[]⟩, .nilFunc, .nilFunc, .nilFunc, .nilFunc, .nilFunc, .string ⟨#[]⟩] 100 (0, 0)) := by
    change ((w.heap.push _).push _)[w.heap.size + 1]? = _
    rw [Array.getElem?_push]; simp
  have hb : Below w.heap.size w ((w.alloc (.cells #[.string k0, .string k1, .string k2, .string k3, .string k4, .string k5, .string k6, .bool b7, .string s8, .int .i64 i9, .int .i64 i10, .int .i64 i11, .int .i64 i12, .int .i64 i13, .string s14, .string s15] 75)).alloc (.cells #[.string ⟨#[]⟩, .string ⟨#[]⟩, .string ⟨#[]⟩, .string ⟨#[]⟩, .string ⟨#[]⟩, .string ⟨#[]⟩, .string ⟨#[]⟩, .bool false, .string ⟨#[]⟩, .nilFunc, .nilFunc, .nilFunc, .nilFunc, .nilFunc, .string ⟨#[]⟩] 100)) := by go_grown
  generalize ((w.alloc (.cells #[.string k0, .string k1, .string k2, .string k3, .string k4, .string k5, .string k6, .bool b7, .string s8, .int .i64 i9, .int .i64 i10, .int .i64 i11, .int .i64 i12, .int .i64 i13, .string s14, .string s15] 75)).alloc (.cells #[.string ⟨#[]⟩, .string ⟨#[]⟩, .string ⟨#[]⟩, .string ⟨#[]⟩, .string ⟨#[]⟩, .string ⟨#[]⟩, .string ⟨#[]⟩, .bool false, .string ⟨#[]⟩, .nilFunc, .nilFunc, .nilFunc, .nilFunc, .nilFunc, .string ⟨#[]⟩] 100)) = w1 at hC hZ hb ⊢
  have c0 : w1.cell? ⟨w.heap.size, 0, none⟩ = some (.string k0) := by simp [World.cell?, hC]
  have c1 : w1.cell? ⟨w.heap.size, 1, none⟩ = some (.string k1) := by simp [World.cell?, hC]
  have c2 : w1.cell? ⟨w.heap.size, 2, none⟩ = some (.string k2) := by simp [World.cell?, hC]
  have c3 : w1.cell? ⟨w.heap.size, 3, none⟩ = some (.string k3) := by simp [World.cell?, hC]
  have c4 : w1.cell? ⟨w.heap.size, 4, none⟩ = some (.string k4) := by simp [World.cell?, hC]
  have c5 : w1.cell? ⟨w.heap.size, 5, none⟩ = some (.string k5) := by simp [World.cell?, hC]
  have c6 : w1.cell? ⟨w.heap.size, 6, none⟩ = some (.string k6) := by simp [World.cell?, hC]
  have c7 : w1.cell? ⟨w.heap.size, 7, none⟩ = some (.bool b7) := by simp [World.cell?, hC]
  have c8 : w1.cell? ⟨w.heap.size, 8, none⟩ = some (.string s8) := by simp [World.cell?, hC]
  have c9 : w1.cell? ⟨w.heap.size, 9, none⟩ = some (.int .i64 i9) := by simp [World.cell?, hC]
  have c10 : w1.cell? ⟨w.heap.size, 10, none⟩ = some (.int .i64 i10) := by simp [World.cell?, hC]
  have c11 : w1.cell? ⟨w.heap.size, 11, none⟩ = some (.int .i64 i11) := by simp [World.cell?, hC]
  have c12 : w1.cell? ⟨w.heap.size, 12, none⟩ = some (.int .i64 i12) := by simp [World.cell?, hC]
  have c13 : w1.cell? ⟨w.heap.size, 13, none⟩ = some (.int .i64 i13) := by simp [World.cell?, hC]
  have c14 : w1.cell? ⟨w.heap.size, 14, none⟩ = some (.string s14) := by simp [World.cell?, hC]
  have c15 : w1.cell? ⟨w.heap.size, 15, none⟩ = some (.string s15) := by simp [World.cell?, hC]
  have HZ := Lib.hid hZ
  have HB := Lib.hid hb
  have hlt := lt_of_block hC
  clear hC hZ hb
  go_region_held3 (fun w' => w'.cell? ⟨w.heap.size, 0, none⟩ = some (.string k0) ∧ w'.cell? ⟨w.heap.size, 1, none⟩ = some (.string k1) ∧ w'.cell? ⟨w.heap.size, 2, none⟩ = some (.string k2) ∧ w'.cell? ⟨w.heap.size, 3, none⟩ = some (.string k3) ∧ w'.cell? ⟨w.heap.size, 4, none⟩ = some (.string k4) ∧ w'.cell? ⟨w.heap.size, 5, none⟩ = some (.string k5) ∧ w'.cell? ⟨w.heap.size, 6, none⟩ = some (.string k6) ∧ w'.cell? ⟨w.heap.size, 7, none⟩ = some (.bool b7) ∧ w'.cell? ⟨w.heap.size, 8, none⟩ = some (.string s8) ∧ w'.cell? ⟨w.heap.size, 9, none⟩ = some (.int .i64 i9) ∧ w'.cell? ⟨w.heap.size, 10, none⟩ = some (.int .i64 i10) ∧ w'.cell? ⟨w.heap.size, 11, none⟩ = some (.int .i64 i11) ∧ w'.cell? ⟨w.heap.size, 12, none⟩ = some (.int .i64 i12) ∧ w'.cell? ⟨w.heap.size, 13, none⟩ = some (.int .i64 i13) ∧ w'.cell? ⟨w.heap.size, 14, none⟩ = some (.string s14) ∧ w'.cell? ⟨w.heap.size, 15, none⟩ = some (.string s15)) (go_keep) (first | (go_at_call 96; refine (H9.out _).mono ?_; rintro e w' ⟨rfl, rfl⟩) | (go_at_call 97; refine (H10.out _).mono ?_; rintro e w' ⟨rfl, rfl⟩) | (go_at_call 98; refine (H11.out _).mono ?_; rintro e w' ⟨rfl, rfl⟩) | (go_at_call 99; refine (H12.out _).mono ?_; rintro e w' ⟨rfl, rfl⟩))
  all_goals
    have hX : ((w1.alloc (.cells #[.string k0, .string k1, .string k2, .string k3, .string k4, .string k5, .string k6, .bool b7, .string s8, .nilFunc, .nilFunc, .func (.func f) #[] #[], .nilFunc, .nilFunc, .string s15] 100)).drew).heap[w1.heap.size]? = some (.cells #[.string k0, .string k1, .string k2, .string k3, .string k4, .string k5, .string k6, .bool b7, .string s8, .nilFunc, .nilFunc, .func (.func f) #[] #[], .nilFunc, .nilFunc, .string s15] 100 (0, 0)) := heap_alloc_new w1 _
    have hZ2 : ((w1.alloc (.cells #[.string k0, .string k1, .string k2, .string k3, .string k4, .string k5, .string k6, .bool b7, .string s8, .nilFunc, .nilFunc, .func (.func f) #[] #[], .nilFunc, .nilFunc, .string s15] 100)).drew).heap[w.heap.size + 1]? = some (.cells #[.string ⟨#[]⟩, .string ⟨#[]⟩, .string ⟨#[]⟩, .string ⟨#[]⟩, .string ⟨#[]⟩, .string ⟨#[]⟩, .string ⟨#[]⟩, .bool false, .string ⟨#[]⟩, .nilFunc, .nilFunc, .nilFunc, .nilFunc, .nilFunc, .string ⟨#[]⟩] 100 (0, 0)) := (Below.heap_alloc w1 _ _ (lt_of_block HZ.out)).trans HZ.out
    have d13 : ((w1.alloc (.cells #[.string k0, .string k1, .string k2, .string k3, .string k4, .string k5, .string k6, .bool b7, .string s8, .nilFunc, .nilFunc, .func (.func f) #[] #[], .nilFunc, .nilFunc, .string s15] 100)).drew).cell? ⟨w.heap.size, 13, none⟩ = some (.int .i64 i13) := (World.cell?_of_block (w := w1) (Below.heap_alloc w1 _ _ hlt)).trans c13
    have hbb : Below w.heap.size w ((w1.alloc (.cells #[.string k0, .string k1, .string k2, .string k3, .string k4, .string k5, .string k6, .bool b7, .string s8, .nilFunc, .nilFunc, .func (.func f) #[] #[], .nilFunc, .nilFunc, .string s15] 100)).drew) := (HB.out.alloc HB.out.size _).drew
    generalize ((w1.alloc (.cells #[.string k0, .string k1, .string k2, .string k3, .string k4, .string k5, .string k6, .bool b7, .string s8, .nilFunc, .nilFunc, .func (.func f) #[] #[], .nilFunc, .nilFunc, .string s15] 100)).drew) = w2 at hX hZ2 d13 hbb ⊢
    clear c0 c1 c2 c3 c4 c5 c6 c7 c8 c9 c10 c11 c12 c13 c14 c15
    have HX := Lib.hid hX
    have HZ2 := Lib.hid hZ2
    have HBB := Lib.hid hbb
    clear hX hZ2 hbb
    go_wp2_with (first | (refine wpList_load_row (by rfl) 100 (.tmp 3) rfl w1.heap.size rfl 100 _ (0, 0) _ HX.out Tryz.underlying100 rfl (by kernel_rfl) ?_) | (refine wpList_store_row (by rfl) 100 (.tmp 2) (.tmp 43) rfl (w.heap.size + 1) #[.string k0, .string k1, .string k2, .string k3, .string k4, .string k5, .string k6, .bool b7, .string s8, .nilFunc, .nilFunc, .func (.func f) #[] #[], .nilFunc, .nilFunc, .string s15] rfl rfl 100 _ HZ2.out (by kernel_rfl) rfl (by simp [Value.oneCell']) ?_))
    refine bodyPost_ret (results_cell_row rfl _ _ (w.heap.size + 1) 100 #[.string k0, .string k1, .string k2, .string k3, .string k4, .string k5, .string k6, .bool b7, .string s8, .nilFunc, .nilFunc, .func (.func f) #[] #[], .nilFunc, .nilFunc, .string s15] (0, 0) _ rfl (setRow_heap _ _ _ _ 100 (0, 0) HZ2.out) Tryz.underlying100 rfl (by kernel_rfl)) rfl ⟨rfl, ?_⟩
    exact below_setRow HBB.out (by omega) _
end Go.Proofs.Zap
