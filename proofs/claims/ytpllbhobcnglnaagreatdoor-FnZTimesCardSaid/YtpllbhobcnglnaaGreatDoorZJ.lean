/- a text of the claims over the seat; its order and aim: NOTES.md -/
import Derived.Test.YtpllbhobcnglnaaGreatDoorZBase
namespace Go.Proofs.Zap
open Go Go.Proofs Go.RowKit

/-- block J holds a reader of s, at place 'at_' -/
def Jr (w : World) (J : Nat) (s : ByteArray) (at_ deep : Int) : Prop := w.heap[J]? = some (.cells #[.string s, .int .i64 at_, .int .i64 deep] 138 (0, 0))

theorem Jr.c0 {w : World} {J : Nat} {s : ByteArray} {a d : Int} (h : Jr w J s a d) : w.cell? ⟨J, 0, none⟩ = some (.string s) := by simp [World.cell?, show w.heap[J]? = _ from h]
theorem Jr.c1 {w : World} {J : Nat} {s : ByteArray} {a d : Int} (h : Jr w J s a d) : w.cell? ⟨J, 1, none⟩ = some (.int .i64 a) := by simp [World.cell?, show w.heap[J]? = _ from h]
theorem Jr.c2 {w : World} {J : Nat} {s : ByteArray} {a d : Int} (h : Jr w J s a d) : w.cell? ⟨J, 2, none⟩ = some (.int .i64 d) := by simp [World.cell?, show w.heap[J]? = _ from h]
theorem Jr.f {w : World} {J : Nat} {s : ByteArray} {a d : Int} (h : Jr w J s a d) (o : Nat) : w.frozen? ⟨J, o, none⟩ = false := by simp [World.frozen?, show w.heap[J]? = _ from h]
theorem Jr.lt {w : World} {J : Nat} {s : ByteArray} {a d : Int} (h : Jr w J s a d) : J < w.heap.size := (Array.getElem?_eq_some_iff.1 h).1

theorem Jr.set1 {w : World} {J : Nat} {s : ByteArray} {a d : Int} (h : Jr w J s a d) (b : Int) : Jr (w.setCell ⟨J, 1, none⟩ (.int .i64 b)) J s b d := by
  unfold Jr at *
  simp [World.setCell, Array.getElem?_modify, h]
theorem Jr.set2 {w : World} {J : Nat} {s : ByteArray} {a d : Int} (h : Jr w J s a d) (b : Int) : Jr (w.setCell ⟨J, 2, none⟩ (.int .i64 b)) J s a b := by
  unfold Jr at *
  simp [World.setCell, Array.getElem?_modify, h]
theorem Jr.drew {w : World} {J : Nat} {s : ByteArray} {a d : Int} (h : Jr w J s a d) (n : Nat) : Jr (w.drewN n) J s a d := by
  unfold Jr at *; simpa using h
theorem Jr.below {w w' : World} {J : Nat} {s : ByteArray} {a d : Int} (h : Jr w J s a d) (hb : Below w.heap.size w w') : Jr w' J s a d := (hb.block J h.lt).trans h

set_option maxHeartbeats 2000000 in
set_option maxRecDepth 100000 in
theorem blanks_end (J : Nat) (s : ByteArray) (d : Int) (w : World) (h : Jr w J s s.size d) (_hs : s.size ≤ 1000000) :
    Calls Tryz.prog 76 #[.pointer (some ⟨J, 0, none⟩)] w fun e w' => e = .returned (.tuple #[]) ∧ ∃ n, w' = w.drewN n := by
  have c0 := h.c0
  have c1 := h.c1
  have hd : decide ((s.size : Int) < (s.size : Int)) = false := by simp
  clear h
  go_enter Tryz.func76, Tryz.ntmps76
  go_wp2_with fail
  refine wp_loop_rounds 1 ?_
  rw [rounds_succ]
  go_wp2_with fail
  go_quiet (fail)
  go_wp2
  go_end0
  exact ⟨rfl, _, rfl⟩

set_option maxHeartbeats 2000000 in
set_option maxRecDepth 100000 in
theorem blanks_quote (J k : Nat) (s : ByteArray) (d : Int) (w : World) (h : Jr w J s k d) (hk : k < s.size) (_hs : s.size ≤ 1000000) (hq : s[k].toNat = 34) :
    Calls Tryz.prog 76 #[.pointer (some ⟨J, 0, none⟩)] w fun e w' => e = .returned (.tuple #[]) ∧ ∃ n, w' = w.drewN n := by
  have c0 := h.c0
  have c1 := h.c1
  have hd : decide ((k : Int) < (s.size : Int)) = true := by simpa using hk
  have hk' : (k : Int) < (s.size : Int) := by omega
  clear h
  go_enter Tryz.func76, Tryz.ntmps76
  go_wp2_with fail
  refine wp_loop_rounds 1 ?_
  rw [rounds_succ]
  go_wp2_with fail
  go_quiet (fail)
  go_wp2
  go_end0
  exact ⟨rfl, _, rfl⟩
end Go.Proofs.Zap
