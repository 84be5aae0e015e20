/- a text of the claims over the seat; its order and aim: NOTES.md -/
import Derived.Test.YtpllbhobcnglnaaGreatDoorZ2
import Derived.Deep.RegionHeld3
import Derived.OneCell
import Derived.Deep.RegionWith
import Derived.Handy
namespace Go.Proofs.Zap
open Go Go.Proofs Go.RowKit
set_option maxRecDepth 100000
theorem below_drewN {B : Nat} {a w : World} (h : Below B a w) (n : Nat) : Below B a (w.drewN n) := ⟨h.os, h.tape, h.output, by simpa using h.size, fun k hk => by simpa using h.block k hk⟩

theorem hnf148 (w : World) : (binOp .eql 90 (.func (.func 148) #[] #[]) .nilFunc).run Tryz.prog w = .ok (.bool false) w := by
  kernel_rfl
theorem hmk305 (w : World) : (Instr.makeSlice 305 (.int .i64 0) (.int .i64 2)).run Tryz.prog w = .ok (.slice (some ⟨w.heap.size, 0, none⟩) 0 2) (w.alloc (.cells #[.nilIface, .nilIface] 20)) := by
  kernel_rfl
set_option maxHeartbeats 4000000 in
theorem arr_any (A B : Nat) (s : ByteArray) (w : World) (hB : w.heap[B]? = some (.cells #[.slice (some ⟨A, 0, none⟩) 0 2] 307 (0, 0))) (hA : w.heap[A]? = some (.cells #[.nilIface, .nilIface] 20 (0, 0))) (hne : A ≠ B) :
    Calls Tryz.prog 390 #[.pointer (some ⟨B, 0, none⟩), .string s] w fun e w' => e = .returned (.tuple #[]) ∧
      w' = ((w.setCell ⟨A, 0, none⟩ (.iface 9 (.string s))).setCell ⟨B, 0, none⟩ (.slice (some ⟨A, 0, none⟩) 1 2)).alloc (.cells #[.iface 9 (.string s)] 20) := by
  have hc := cell_of_one hB
  have hf := free_of_one hB
  have hBs := lt_of_block hB
  have ha : w.cell? ⟨A, 0, none⟩ = some .nilIface := by simp [World.cell?, hA]
  have hfa : w.frozen? ⟨A, 0, none⟩ = false := by simp [World.frozen?, hA]
  have hAs := lt_of_block hA
  clear hA hB
  go_enter Tryz.func390, Tryz.ntmps390
  go_wp2_with fail
  go_end0
  exact ⟨rfl, rfl⟩

set_option maxHeartbeats 4000000 in
theorem lstring_any (w : World) : Calls Tryz.prog 182 #[.int .i8 0] w fun e w' => e = .returned (.string ⟨#[105, 110, 102, 111]⟩) ∧ w' = w := by
  go_enter Tryz.func182, Tryz.ntmps182
  go_wp2
  go_ret
  exact ⟨rfl, rfl⟩

set_option maxRecDepth 1000000 in
theorem nil303 (a : Addr) (w : World) : (nilAhead 589 303 (.pointer (some a)) "AppendString").run Tryz.prog w = .ok (some false) w := by kernel_rfl
set_option maxRecDepth 1000000 in
theorem meth303 (a : Addr) (w : World) : (method 589 303 (.pointer (some a)) "AppendString").run Tryz.prog w = .ok (390, .pointer (some a)) w := by kernel_rfl

set_option maxHeartbeats 4000000 in
theorem lower_any (A B : Nat) (w : World) (hB : w.heap[B]? = some (.cells #[.slice (some ⟨A, 0, none⟩) 0 2] 307 (0, 0))) (hA : w.heap[A]? = some (.cells #[.nilIface, .nilIface] 20 (0, 0))) (hne : A ≠ B) :
    Calls Tryz.prog 148 #[.int .i8 0, .iface 303 (.pointer (some ⟨B, 0, none⟩))] w fun e w' => e = .returned (.tuple #[]) ∧
      ∃ n, w' = (((w.drewN n).setCell ⟨A, 0, none⟩ (.iface 9 (.string ⟨#[105, 110, 102, 111]⟩))).setCell ⟨B, 0, none⟩ (.slice (some ⟨A, 0, none⟩) 1 2)).alloc (.cells #[.iface 9 (.string ⟨#[105, 110, 102, 111]⟩)] 20) := by
  have h1 := fun a w => nil303 a w
  have h2 := fun a w => meth303 a w
  go_enter Tryz.func148, Tryz.ntmps148
  go_wp2_with fail
  go_region_with (first | (go_at_call 182; refine (lstring_any _).mono ?_; rintro e w' ⟨rfl, rfl⟩) | (go_at_call 390; refine (arr_any A B _ _ ?_ ?_ hne).mono ?_; exact hB; exact hA; rintro e w' ⟨rfl, rfl⟩))
  all_goals
    go_wp2
    go_end0
    exact ⟨rfl, 1, rfl⟩

theorem ta9 (s : ByteArray) (w : World) : (Instr.typeAssert (.iface 9 (.string s)) 20 9 true).run Tryz.prog w = .ok (.tuple #[.string s, .bool true]) w := by kernel_rfl

set_option maxHeartbeats 4000000 in
theorem leveltext_any (w : World) :
    Calls Tryz.prog 59 #[.int .i64 0, .int .i64 1] w fun e w' => e = .returned (.string ⟨#[105, 110, 102, 111]⟩) ∧ Below w.heap.size w w' := by
  have h1 := fun w => hnf148 w
  have h2 := fun w => hmk305 w
  have h3 := fun s w => ta9 s w
  have hA : ((w.alloc (.cells #[.nilIface, .nilIface] 20)).alloc (.cells #[.slice (some ⟨w.heap.size, 0, none⟩) 0 2] 307)).heap[w.heap.size]? = some (.cells #[.nilIface, .nilIface] 20 (0, 0)) := by
    change ((w.heap.push _).push _)[w.heap.size]? = _
    simp [Array.getElem?_push]
  have hB : ((w.alloc (.cells #[.nilIface, .nilIface] 20)).alloc (.cells #[.slice (some ⟨w.heap.size, 0, none⟩) 0 2] 307)).heap[w.heap.size + 1]? = some (.cells #[.slice (some ⟨w.heap.size, 0, none⟩) 0 2] 307 (0, 0)) := by
    change ((w.heap.push _).push _)[w.heap.size + 1]? = _
    rw [Array.getElem?_push]; simp
  go_enter Tryz.func59, Tryz.ntmps59
  go_wp2_with (first | (go_at_call 148; refine (lower_any w.heap.size (w.heap.size + 1) _ hB hA (by omega)).mono ?_; rintro e w' ⟨rfl, n, rfl⟩) | go_in)
  go_ret
  refine ⟨rfl, ?_⟩
  go_grown
  exact below_drewN (by go_grown) _
end Go.Proofs.Zap
