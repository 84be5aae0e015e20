/- a text of the claims over the seat; its order and aim: NOTES.md -/
import Derived.Test.YtpllbhobcnglnaaGreatDoorZQ8
namespace Go.Proofs.Zap
open Go Go.Proofs Go.RowKit

/-- a method call on an interface value -/
def Inv (v : Value) (name : String) (args : List Value) (w : World) (post : Ending → World → Prop) : Prop :=
  ∃ t p f r o, v = .iface t p ∧ (nilAhead 589 t p name).run Tryz.prog w = .ok o w ∧ o ≠ some true ∧ (method 589 t p name).run Tryz.prog w = .ok (f, r) w ∧
    (∀ (A : Array Value) (W : World), (callFunc f A).run Tryz.prog W = .ok (.enter f A) W) ∧ Calls Tryz.prog f (r :: args).toArray w post

set_option maxRecDepth 1000000
theorem nlL (l : Int) (w : World) : (nilAhead 589 129 (.int .i8 l) "Enabled").run Tryz.prog w = .ok (some false) w := by kernel_rfl
theorem mtL (l : Int) (w : World) : (method 589 129 (.int .i8 l) "Enabled").run Tryz.prog w = .ok (261, .int .i8 l) w := by kernel_rfl
theorem nlN (w : World) : (nilAhead 589 318 (.agg #[]) "Enabled").run Tryz.prog w = .ok (some false) w := by kernel_rfl
theorem mtN (w : World) : (method 589 318 (.agg #[]) "Enabled").run Tryz.prog w = .ok (399, .agg #[]) w := by kernel_rfl
theorem nlT (a : Option Addr) (n c : Nat) (w : World) : (nilAhead 589 319 (.slice a n c) "Enabled").run Tryz.prog w = .ok (some false) w := by kernel_rfl
theorem mtT (a : Option Addr) (n c : Nat) (w : World) : (method 589 319 (.slice a n c) "Enabled").run Tryz.prog w = .ok (404, .slice a n c) w := by kernel_rfl
theorem nlI (a : Addr) (w : World) : (nilAhead 589 321 (.pointer (some a)) "Enabled").run Tryz.prog w = .ok (some false) w := by kernel_rfl
theorem mtI (a : Addr) (w : World) : (method 589 321 (.pointer (some a)) "Enabled").run Tryz.prog w = .ok (411, .pointer (some a)) w := by kernel_rfl
theorem nlZ (a : Addr) (w : World) : (nilAhead 589 324 (.pointer (some a)) "Enabled").run Tryz.prog w = .ok (some false) w := by kernel_rfl
theorem mtZ (a : Addr) (w : World) : (method 589 324 (.pointer (some a)) "Enabled").run Tryz.prog w = .ok (417, .pointer (some a)) w := by kernel_rfl
theorem nlF (a : Addr) (w : World) : (nilAhead 589 201 (.pointer (some a)) "Enabled").run Tryz.prog w = .ok none w := by kernel_rfl
theorem flF (L : Nat) (w : World) : (method 589 201 (.pointer (some ⟨L, 0, none⟩)) "Enabled").run Tryz.prog w = ((loadVar 203 ⟨L, 0, none⟩ >>= fun x => match x with
   | .iface t' v' => method 588 t' v' "Enabled" | .nilIface => runtimePanic .nilDeref | _ => stuck "method row: interface value expected")).run Tryz.prog w := by kernel_rfl
theorem mtL8 (l : Int) (w : World) : (method 588 129 (.int .i8 l) "Enabled").run Tryz.prog w = .ok (261, .int .i8 l) w := by kernel_rfl
theorem mtF (L : Nat) (l : Int) (w : World) (h : w.cell? ⟨L, 0, none⟩ = some (.iface 129 (.int .i8 l))) : (method 589 201 (.pointer (some ⟨L, 0, none⟩)) "Enabled").run Tryz.prog w = .ok (261, .int .i8 l) w := by
  rw [flF, Sem.run_bind]
  have : (loadVar 203 ⟨L, 0, none⟩).run Tryz.prog w = .ok (.iface 129 (.int .i8 l)) w := by simp [loadVar, h]
  rw [this]
  exact mtL8 l w

/-- a call that answers v, and the world as it was -/
theorem lvlEn (a l : Int) (w : World) : Calls Tryz.prog 261 #[.int .i8 a, .int .i8 l] w (Says w (.bool (decide (a ≤ l)))) := by
  go_enter Tryz.func261, Tryz.ntmps261
  go_wp2_with fail
  go_ret
  exact ⟨rfl, Below.refl _ _⟩
theorem nopEn (l : Int) (w : World) : Calls Tryz.prog 399 #[.agg #[], .int .i8 l] w (Says w (.bool false)) := by
  go_enter Tryz.func399, Tryz.ntmps399
  go_wp2_with fail
  go_ret
  exact ⟨rfl, (Below.refl _ _).alloc (Nat.le_refl _) _⟩
theorem incEn (I : Nat) (vc : Value) (a l : Int) (w : World) (hb : Blk w I 323 #[vc, .iface 129 (.int .i8 a)]) : Calls Tryz.prog 411 #[.pointer (some ⟨I, 0, none⟩), .int .i8 l] w (Says w (.bool (decide (a ≤ l)))) := by
  have c1 : w.cell? ⟨I, 1, none⟩ = some (.iface 129 (.int .i8 a)) := hb.cell 1
  have n1 := fun a w => nlL a w
  have n2 := fun a w => mtL a w
  clear hb
  go_enter Tryz.func411, Tryz.ntmps411
  go_wp2_with (go_at_call 261; refine (lvlEn a l _).mono ?_; rintro e w1 ⟨rfl, hb1⟩)
  go_ret
  exact ⟨rfl, hb1⟩
theorem lazEn (Z : Nat) (x vo y g : Value) (b : Bool) (l : Int) (w : World) (hb : Blk w Z 326 #[x, vo, y, g]) (hi : Inv vo "Enabled" [.int .i8 l] w (Says w (.bool b))) : Calls Tryz.prog 417 #[.pointer (some ⟨Z, 0, none⟩), .int .i8 l] w (Says w (.bool b)) := by
  obtain ⟨t, p, f, r, o, rfl, i1, i2, i3, i5, i4⟩ := hi
  have c1 : w.cell? ⟨Z, 1, none⟩ = some (.iface t p) := hb.cell 1
  have I4 := Lib.hid i4
  have io : o = none ∨ o = some false := by rcases o with _ | _ | _ <;> simp at i2 ⊢
  clear hb i4 i2
  rcases io with rfl | rfl
  all_goals
    go_enter Tryz.func417, Tryz.ntmps417
    go_wp2_with fail
    refine I4.out.mono ?_
    rintro e w1 ⟨rfl, hb1⟩
    go_wp2_with fail
    go_ret
    exact ⟨rfl, hb1⟩
end Go.Proofs.Zap
