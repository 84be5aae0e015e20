/- a text of the claims over the seat; its order and aim: NOTES.md -/
import Derived.Test.YtpllbhobcnglnaaGreatDoorZQ9
namespace Go.Proofs.Zap
open Go Go.Proofs Go.RowKit

set_option maxHeartbeats 2000000 in
theorem teeEn (T n cap : Nat) (vs : Nat → Value) (p : Nat → Bool) (l : Int) (w : World) (h2 : n ≤ cap) (h3 : cap ≤ 9223372036854775807) (hT : T < w.heap.size) (hc : ∀ i, i < n → w.cell? ⟨T, i, none⟩ = some (vs i))
    (hi : ∀ i, i < n → ∀ W, Below w.heap.size w W → Inv (vs i) "Enabled" [.int .i8 l] W (Says W (.bool (p i)))) :
    Calls Tryz.prog 404 #[.slice (some ⟨T, 0, none⟩) n cap, .int .i8 l] w (Says w (.bool (anyB n p))) := by
  have HC := Lib.hid hc
  have HI := Lib.hid hi
  have HB0 := Lib.hid (Below.refl w.heap.size w)
  clear hc hi
  go_enter Tryz.func404, Tryz.ntmps404
  go_wp2_with fail
  go_loopw [8] (fun i wr => ∃ j : Nat, i = .int .i64 j ∧ j ≤ n ∧ (∀ m, m < j → p m = false) ∧ Hid (Below w.heap.size w wr)) (fun i _ => n - (intOf i).toNat)
  case atStart => exact ⟨0, rfl, by omega, fun m hm => absurd hm (by omega), HB0⟩
  case round =>
    obtain ⟨j, rfl, hj, hall, hbl⟩ := hrel
    by_cases hlt : j < n
    · obtain ⟨t, q, f, r, o, ev, i1, i2, i3, i5, i4⟩ := HI.out j hlt wr hbl.out
      have c0 : wr.cell? ⟨T, j, none⟩ = some (.iface t q) := (World.cell?_of_block (w := w) (hbl.out.block T hT)).trans ((HC.out j hlt).trans (by rw [ev]))
      have q0 : (0 : Int) ≤ (j : Int) := Int.natCast_nonneg _
      have q1 : (j : Int) < (n : Int) := by omega
      have I4 := Lib.hid i4
      have io : o = none ∨ o = some false := by rcases o with _ | _ | _ <;> simp at i2 ⊢
      clear i4 i2 ev
      rcases io with rfl | rfl
      all_goals
        go_wp2_with fail
        refine I4.out.mono ?_
        rintro e w' ⟨rfl, hb'⟩
        have hsz := hbl.out.size
        have HB := Lib.hid (hbl.out.trans (hb'.mono hsz))
        clear hb' hbl c0 i1 i3
        rcases he : p j with _ | _
        · go_wp2_with fail
          go_roundw
          case rel => exact ⟨j + 1, by go_num, by omega, fun m hm => if e : m = j then e ▸ he else hall m (by omega), HB⟩
          case measure => simp [intOf]; omega
        · go_wp2_with fail
          go_ret
          exact ⟨congrArg (fun b => Ending.returned (.bool b)) (anyB_true.2 ⟨j, hlt, he⟩).symm, HB.out⟩
    · go_wp2_with fail
      go_ret
      exact ⟨congrArg (fun b => Ending.returned (.bool b)) (anyB_false.2 fun i hi => hall i (by omega)).symm, hbl.out⟩

theorem cf261 (A : Array Value) (W : World) : (callFunc 261 A).run Tryz.prog W = .ok (.enter 261 A) W := by kernel_rfl
theorem cf399 (A : Array Value) (W : World) : (callFunc 399 A).run Tryz.prog W = .ok (.enter 399 A) W := by kernel_rfl
theorem cf404 (A : Array Value) (W : World) : (callFunc 404 A).run Tryz.prog W = .ok (.enter 404 A) W := by kernel_rfl
theorem cf411 (A : Array Value) (W : World) : (callFunc 411 A).run Tryz.prog W = .ok (.enter 411 A) W := by kernel_rfl
theorem cf417 (A : Array Value) (W : World) : (callFunc 417 A).run Tryz.prog W = .ok (.enter 417 A) W := by kernel_rfl

/-- what a built core enables -/
theorem en_rep {ok : Prop} {Y : (Nat → Prop) → KT FC → Value → Prop} {N : Nat} (l : Int) (K : KT FC) : ∀ {S : Nat → Prop} {v : Value} {w : World}, RepG ok Y w N K S v → (∀ k, S k → k < w.heap.size) →
    Inv v "Enabled" [.int .i8 l] w (Says w (.bool (enK K l))) := by
  induction K generalizing ok Y with
  | leaf lvl num fs =>
    intro S v w h hS
    obtain ⟨L, g, rfl, h2, h3, h4, h5⟩ := h
    exact ⟨201, _, 261, .int .i8 lvl, none, rfl, nlF _ _, by simp, mtF L lvl w (h3.cell 0), cf261, lvlEn lvl l w⟩
  | nop =>
    intro S v w h hS
    subst h
    exact ⟨318, _, 399, .agg #[], some false, rfl, nlN _, by simp, mtN w, cf399, nopEn l w⟩
  | tee n kids ih =>
    intro S v w h hS
    obtain ⟨T, cap, Sk, vs, rfl, h2, h3, h4, h5⟩ := h
    refine ⟨319, _, 404, _, some false, rfl, nlT _ _ _ _, by simp, mtT _ _ _ w, cf404, ?_⟩
    exact teeEn T n cap vs (fun i => enK (kids i) l) l w h2 h3 (hS T h4) (fun i hi => (h5 i hi).2.2.2.1) fun i hi W hW => by
      obtain ⟨g1, g2, g3, g4, g5⟩ := h5 i hi
      have g6 := RepG.keep (Y' := fun _ _ _ => True) (w' := W) (fun _ _ _ _ _ => trivial) g5 fun k hk => hW.block k (hS k (g1 k hk))
      exact ih i g6 fun k hk => Nat.lt_of_lt_of_le (hS k (g1 k hk)) hW.size
  | incr lvl k ih =>
    intro S v w h hS
    obtain ⟨I, vc, S1, rfl, h2, h3, h4, h5, h6, h7⟩ := h
    exact ⟨321, _, 411, _, some false, rfl, nlI _ _, by simp, mtI _ w, cf411, incEn I vc lvl l w h3⟩
  | lazy k fs ih =>
    intro S v w h hS
    obtain ⟨h0, Z, vo, g, S1, SG, rfl, h2, h3, h4, h5, h6, h7, h8, h9, h10⟩ := h
    have hi := ih h8 fun j hj => hS j (h3 j hj)
    refine ⟨324, _, 417, _, some false, rfl, nlZ _ _, by simp, mtZ _ w, cf417, ?_⟩
    rcases h10 with h10 | ⟨vy, S2, g1, _⟩
    · exact lazEn Z _ _ _ _ _ l w h10 hi
    · exact lazEn Z _ _ _ _ _ l w g1 hi
end Go.Proofs.Zap
