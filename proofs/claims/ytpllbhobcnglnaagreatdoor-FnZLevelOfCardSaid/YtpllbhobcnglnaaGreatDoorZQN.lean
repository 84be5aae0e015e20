/- a text of the claims over the seat; its order and aim: NOTES.md -/
import Derived.Test.YtpllbhobcnglnaaGreatDoorZQM
import Derived.Stop.Asserts
namespace Go.Proofs.Zap
open Go Go.Proofs Go.RowKit

set_option maxRecDepth 1000000
theorem taF (a : Addr) (w : World) : (Instr.typeAssert (.iface 201 (.pointer (some a))) 203 214 true).run Tryz.prog w = .ok (.tuple #[.nilIface, .bool false]) w := Go.run_typeAssert_lacksB Tryz.underlying214 (by kernel_rfl) (by kernel_rfl) _ _ w
theorem taN (w : World) : (Instr.typeAssert (.iface 318 (.agg #[])) 203 214 true).run Tryz.prog w = .ok (.tuple #[.nilIface, .bool false]) w := Go.run_typeAssert_lacksB Tryz.underlying214 (by kernel_rfl) (by kernel_rfl) _ _ w
theorem taT (a : Option Addr) (n c : Nat) (w : World) : (Instr.typeAssert (.iface 319 (.slice a n c)) 203 214 true).run Tryz.prog w = .ok (.tuple #[.iface 319 (.slice a n c), .bool true]) w := by kernel_rfl
theorem taI (a : Addr) (w : World) : (Instr.typeAssert (.iface 321 (.pointer (some a))) 203 214 true).run Tryz.prog w = .ok (.tuple #[.iface 321 (.pointer (some a)), .bool true]) w := by kernel_rfl
theorem taZ (a : Addr) (w : World) : (Instr.typeAssert (.iface 324 (.pointer (some a))) 203 214 true).run Tryz.prog w = .ok (.tuple #[.nilIface, .bool false]) w := Go.run_typeAssert_lacksB Tryz.underlying214 (by kernel_rfl) (by kernel_rfl) _ _ w
theorem taL (l : Int) (w : World) : (Instr.typeAssert (.iface 129 (.int .i8 l)) 203 214 true).run Tryz.prog w = .ok (.tuple #[.nilIface, .bool false]) w := Go.run_typeAssert_lacksB Tryz.underlying214 (by kernel_rfl) (by kernel_rfl) _ _ w
theorem nlVT (a : Option Addr) (n c : Nat) (w : World) : (nilAhead 589 319 (.slice a n c) "Level").run Tryz.prog w = .ok (some false) w := by kernel_rfl
theorem mtVT (a : Option Addr) (n c : Nat) (w : World) : (method 589 319 (.slice a n c) "Level").run Tryz.prog w = .ok (405, .slice a n c) w := by kernel_rfl
theorem nlVI (a : Addr) (w : World) : (nilAhead 589 321 (.pointer (some a)) "Level").run Tryz.prog w = .ok (some false) w := by kernel_rfl
theorem mtVI (a : Addr) (w : World) : (method 589 321 (.pointer (some a)) "Level").run Tryz.prog w = .ok (412, .pointer (some a)) w := by kernel_rfl

set_option maxHeartbeats 2000000 in
theorem lv_loop (t : TypeId) (q : Value) (p : Int → Bool) (w : World) (hta : ∀ w, (Instr.typeAssert (.iface t q) 203 214 true).run Tryz.prog w = .ok (.tuple #[.nilIface, .bool false]) w) (hi : ∀ l W, Below w.heap.size w W → Inv (.iface t q) "Enabled" [.int .i8 l] W (Says W (.bool (p l)))) :
    Calls Tryz.prog 72 #[.iface t q] w (Says w (.int .i8 (leastOf p))) := by
  have HI := Lib.hid hi
  have HB0 := Lib.hid (Below.refl w.heap.size w)
  clear hi
  go_enter Tryz.func72, Tryz.ntmps72
  go_wp2_with fail
  go_loopw [5] (fun i wr => ∃ j : Int, i = .int .i8 j ∧ -1 ≤ j ∧ j ≤ 6 ∧ (∀ m, -1 ≤ m → m < j → p m = false) ∧ Hid (Below w.heap.size w wr)) (fun i _ => (6 - intOf i).toNat)
  case atStart => exact ⟨-1, rfl, by omega, by omega, fun m h0 h1 => by omega, HB0⟩
  case round =>
    obtain ⟨j, rfl, hj0, hj, hall, hbl⟩ := hrel
    by_cases hlt : j ≤ 5
    · obtain ⟨t2, q2, f, r, o, ev, i1, i2, i3, i5, i4⟩ := HI.out j wr hbl.out
      cases ev
      have hw : IntKind.i8.wrap (j + 1) = j + 1 := by rw [wrap8, w8_id (by omega) (by omega)]
      have I4 := Lib.hid i4
      have io : o = none ∨ o = some false := by rcases o with _ | _ | _ <;> simp at i2 ⊢
      clear i4 i2
      rcases io with rfl | rfl
      all_goals
        go_wp2_with fail
        refine I4.out.mono ?_
        rintro e w' ⟨rfl, hb'⟩
        have hsz := hbl.out.size
        have HB := Lib.hid (hbl.out.trans (hb'.mono hsz))
        clear hb' hbl i1 i3
        rcases he : p j with _ | _
        · go_wp2_with fail
          go_roundw
          case rel => exact ⟨j + 1, rfl, by omega, by omega, fun m h0 hm => if e : m = j then e ▸ he else hall m h0 (by omega), HB⟩
          case measure => simp [intOf]; omega
        · go_wp2_with fail
          go_ret
          refine ⟨?_, HB.out⟩
          have h1 : leastOf p ≤ j := leastOf_le hj0 hlt he
          have h2 : ¬ leastOf p < j := fun h => by
            have := leastOf_mem (p := p) (by omega)
            rw [hall _ (leastOf_bd p).1 h] at this
            cases this
          rw [show leastOf p = j by omega]; rfl
    · go_wp2_with fail
      go_ret
      refine ⟨?_, hbl.out⟩
      have h2 : ¬ leastOf p < 6 := fun h => by
        have := leastOf_mem (p := p) (by omega)
        rw [hall _ (leastOf_bd p).1 (by omega)] at this
        cases this
      rw [show leastOf p = 6 by have := leastOf_bd p; omega]; rfl

/-- the level of an increased core -/
theorem lv_inc (I : Nat) (vc : Value) (a : Int) (w : World) (hb : Blk w I 323 #[vc, .iface 129 (.int .i8 a)]) : Calls Tryz.prog 72 #[.iface 321 (.pointer (some ⟨I, 0, none⟩))] w (Says w (.int .i8 (leastOf fun l => decide (a ≤ l)))) := by
  have c1 : w.cell? ⟨I, 1, none⟩ = some (.iface 129 (.int .i8 a)) := hb.cell 1
  have t1 := fun a w => taI a w
  have n1 := fun a w => nlVI a w
  have n2 := fun a w => mtVI a w
  have hl := lv_loop 129 (.int .i8 a) (fun l => decide (a ≤ l)) w (taL a) (fun l W _ => ⟨129, _, 261, .int .i8 a, some false, rfl, nlL _ _, by simp, mtL a W, cf261, lvlEn a l W⟩)
  have HL := Lib.hid hl
  generalize leastOf (fun l => decide (a ≤ l)) = R at *
  clear hb hl
  go_enter Tryz.func72, Tryz.ntmps72
  go_wp2_with (go_at_call 412; go_enter Tryz.func412, Tryz.ntmps412; go_wp2_with (go_at_call 72; refine HL.out.mono ?_; rintro e w1 ⟨rfl, hb1⟩); go_ret)
  exact ⟨rfl, hb1⟩

def foldL (f : Nat → Int) (j : Nat) : Int := (List.range j).foldl (fun m i => if f i < m then f i else m) 5
theorem foldL_succ (f : Nat → Int) (j : Nat) : foldL f (j + 1) = if f j < foldL f j then f j else foldL f j := by
  unfold foldL; rw [List.range_succ, List.foldl_append, List.foldl_cons, List.foldl_nil]

set_option maxHeartbeats 2000000 in
theorem teeLv (T n cap : Nat) (vs : Nat → Value) (f : Nat → Int) (w : World) (h2 : n ≤ cap) (h3 : cap ≤ 9223372036854775807) (hT : T < w.heap.size) (hc : ∀ i, i < n → w.cell? ⟨T, i, none⟩ = some (vs i)) (hv : ∀ i, i < n → ∃ t p, vs i = .iface t p)
    (hi : ∀ i, i < n → ∀ W, Below w.heap.size w W → Calls Tryz.prog 72 #[vs i] W (Says W (.int .i8 (f i)))) :
    Calls Tryz.prog 405 #[.slice (some ⟨T, 0, none⟩) n cap] w (Says w (.int .i8 (foldL f n))) := by
  have HC := Lib.hid hc
  have HI := Lib.hid hi
  have HV := Lib.hid hv
  have HB0 := Lib.hid (Below.refl w.heap.size w)
  clear hc hi hv
  go_enter Tryz.func405, Tryz.ntmps405
  go_wp2_with fail
  go_loopw [3, 8] (fun x i wr => ∃ j : Nat, x = .int .i8 (foldL f j) ∧ i = .int .i64 j ∧ j ≤ n ∧ Hid (Below w.heap.size w wr)) (fun _ i _ => n - (intOf i).toNat)
  case atStart => exact ⟨0, rfl, rfl, by omega, HB0⟩
  case round =>
    obtain ⟨j, rfl, rfl, hj, hbl⟩ := hrel
    by_cases hlt : j < n
    · obtain ⟨t, q, ev⟩ := HV.out j hlt
      have c0 : wr.cell? ⟨T, j, none⟩ = some (.iface t q) := (World.cell?_of_block (w := w) (hbl.out.block T hT)).trans ((HC.out j hlt).trans (by rw [ev]))
      have hcall := HI.out j hlt wr hbl.out
      rw [ev] at hcall
      have q0 : (0 : Int) ≤ (j : Int) := Int.natCast_nonneg _
      have q1 : (j : Int) < (n : Int) := by omega
      have I4 := Lib.hid hcall
      clear hcall ev
      have hs := foldL_succ f j
      go_wp2_with fail
      refine I4.out.mono ?_
      rintro e w' ⟨rfl, hb'⟩
      have hsz := hbl.out.size
      have HB := Lib.hid (hbl.out.trans (hb'.mono hsz))
      clear hb' hbl c0 I4
      by_cases hlt2 : f j < foldL f j
      · rw [if_pos hlt2] at hs
        have HS := Lib.hid hs
        clear hs
        go_wp2_with fail
        go_roundw
        case rel => exact ⟨j + 1, by rw [HS.out], by go_num, by omega, HB⟩
        case measure => simp [intOf]; omega
      · rw [if_neg hlt2] at hs
        have HS := Lib.hid hs
        clear hs
        go_wp2_with fail
        go_roundw
        case rel => exact ⟨j + 1, by rw [HS.out], by go_num, by omega, HB⟩
        case measure => simp [intOf]; omega
    · have e : j = n := by omega
      subst e
      go_wp2_with fail
      go_ret
      exact ⟨rfl, hbl.out⟩

theorem tee72 (T n cap : Nat) (m : Int) (w : World) (h : Calls Tryz.prog 405 #[.slice (some ⟨T, 0, none⟩) n cap] w (Says w (.int .i8 m))) : Calls Tryz.prog 72 #[.iface 319 (.slice (some ⟨T, 0, none⟩) n cap)] w (Says w (.int .i8 m)) := by
  have t1 := fun a n c w => taT a n c w
  have n1 := fun a n c w => nlVT a n c w
  have n2 := fun a n c w => mtVT a n c w
  have HL := Lib.hid h
  clear h
  go_enter Tryz.func72, Tryz.ntmps72
  go_wp2_with (go_at_call 405; refine HL.out.mono ?_; rintro e w1 ⟨rfl, hb1⟩)
  go_ret
  exact ⟨rfl, hb1⟩

/-- LevelOf of a built core -/
theorem lv_any {N : Nat} (K : KT FC) : ∀ {ok : Prop} {Y : (Nat → Prop) → KT FC → Value → Prop} {S : Nat → Prop} {v : Value} {w : World}, RepG ok Y w N K S v → (∀ k, S k → k < w.heap.size) → Calls Tryz.prog 72 #[v] w (Says w (.int .i8 (lvK K))) := by
  induction K with
  | leaf lvl num fs =>
    intro ok Y S v w h hS
    have hh := h
    obtain ⟨L, g, rfl, h2, h3, h4, h5⟩ := h
    exact lv_loop 201 _ (enK (.leaf lvl num fs)) w (taF _) fun l W hW => en_rep l _ (RepG.keep (Y' := fun _ _ _ => True) (w' := W) (fun _ _ _ _ _ => trivial) hh fun k hk => hW.block k (hS k hk)) fun k hk => Nat.lt_of_lt_of_le (hS k hk) hW.size
  | nop =>
    intro ok Y S v w h hS
    obtain rfl := h
    exact lv_loop 318 _ (enK (.nop : KT FC)) w taN fun l W hW => en_rep (ok := True) (Y := fun _ _ _ => True) (N := N) (S := fun _ => False) l (.nop : KT FC) rfl fun k hk => hk.elim
  | tee n kids ih =>
    intro ok Y S v w h hS
    obtain ⟨T, cap, Sk, vs, rfl, h2, h3, h4, h5⟩ := h
    refine tee72 T n cap _ w ?_
    refine teeLv T n cap vs (fun i => lvK (kids i)) w h2 h3 (hS T h4) (fun i hi => (h5 i hi).2.2.2.1) (fun i hi => RepG.form (h5 i hi).2.2.2.2) fun i hi W hW => ?_
    obtain ⟨g1, g2, g3, g4, g5⟩ := h5 i hi
    exact ih i (RepG.keep (Y' := fun _ _ _ => True) (w' := W) (fun _ _ _ _ _ => trivial) g5 fun k hk => hW.block k (hS k (g1 k hk))) fun k hk => Nat.lt_of_lt_of_le (hS k (g1 k hk)) hW.size
  | incr lvl k ih =>
    intro ok Y S v w h hS
    obtain ⟨I, vc, S1, rfl, h2, h3, _⟩ := h
    exact lv_inc I vc lvl w h3
  | lazy k fs ih =>
    intro ok Y S v w h hS
    have hh := h
    obtain ⟨h0, Z, vo, g, S1, SG, rfl, _⟩ := h
    exact lv_loop 324 _ (enK (.lazy k fs)) w (taZ _) fun l W hW => en_rep l _ (RepG.keep (Y' := fun _ _ _ => True) (w' := W) (fun _ _ _ _ _ => trivial) hh fun k hk => hW.block k (hS k hk)) fun k hk => Nat.lt_of_lt_of_le (hS k hk) hW.size
end Go.Proofs.Zap
