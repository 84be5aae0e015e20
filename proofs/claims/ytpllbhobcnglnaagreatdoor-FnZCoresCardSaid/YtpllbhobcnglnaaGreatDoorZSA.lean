/- a text of the claims over the seat; its order and aim: NOTES.md -/
import Derived.Test.YtpllbhobcnglnaaGreatDoorZQM
import Derived.Stop.Asserts
import Derived.Test.YtpllbhobcnglnaaGreatDoorZS9
namespace Go.Proofs.Zap
open Go Go.Proofs Go.RowKit

set_option maxRecDepth 1000000
theorem taF (a : Addr) (w : World) : (Instr.typeAssert (.iface 201 (.pointer (some a))) 203 214 true).run Tryz.prog w = .ok (.tuple #[.nilIface, .bool false]) w := Go.run_typeAssert_lacksB Tryz.underlying214 (by kernel_rfl) (by kernel_rfl) _ _ w
theorem taN (w : World) : (Instr.typeAssert (.iface 318 (.agg #[])) 203 214 true).run Tryz.prog w = .ok (.tuple #[.nilIface, .bool false]) w := Go.run_typeAssert_lacksB Tryz.underlying214 (by kernel_rfl) (by kernel_rfl) _ _ w
theorem taT (a : Option Addr) (n c : Nat) (w : World) : (Instr.typeAssert (.iface 319 (.slice a n c)) 203 214 true).run Tryz.prog w = .ok (.tuple #[.iface 319 (.slice a n c), .bool true]) w := by kernel_rfl
theorem taI (a : Addr) (w : World) : (Instr.typeAssert (.iface 321 (.pointer (some a))) 203 214 true).run Tryz.prog w = .ok (.tuple #[.iface 321 (.pointer (some a)), .bool true]) w := by kernel_rfl
theorem taZ (a : Addr) (w : World) : (Instr.typeAssert (.iface 324 (.pointer (some a))) 203 214 true).run Tryz.prog w = .ok (.tuple #[.nilIface, .bool false]) w := Go.run_typeAssert_lacksB Tryz.underlying214 (by kernel_rfl) (by kernel_rfl) _ _ w
theorem taL (l : Int) (w : World) : (Instr.typeAssert (.iface 129 (.int .i8 l)) 203 214 true).run Tryz.prog w = .ok (.tuple #[.nilIface, .bool false]) w := Go.run_typeAssert_lacksB Tryz.underlying214 (by kernel_rfl) (by kernel_rfl) _ _ w
theorem nlVT (a : Option Addr) (n c : Nat) (w : World) : (nilAhead 589 319 (.slice a n c) "Level").run Tryz.prog w = .ok (some false) w := by kernel_rfl
theorem mtVT (a : Option Addr) (n c : Nat) (w : World) : (method 589 319 (.slice a n c) "Level").run Tryz.prog w = .ok (405, .slice a n c) w := by kernel_rfl
theorem nlVI (a : Addr) (w : World) : (nilAhead 589 321 (.pointer (some a)) "Level").run Tryz.prog w = .ok (some false) w := by kernel_rfl
theorem mtVI (a : Addr) (w : World) : (method 589 321 (.pointer (some a)) "Level").run Tryz.prog w = .ok (412, .pointer (some a)) w := by kernel_rfl

set_option maxHeartbeats 2000000 in
theorem lv_loop (t : TypeId) (q : Value) (p : Int → Bool) (w : World) (hta : ∀ w, (Instr.typeAssert (.iface t q) 203 214 true).run Tryz.prog w = .ok (.tuple #[.nilIface, .bool false]) w) (hi : ∀ l W, Below w.heap.size w W → Inv (.iface t q) "Enabled" [.int .i8 l] W (Says W (.bool (p l)))) :
    Calls Tryz.prog 72 #[.iface t q] w (Says w (.int .i8 (leastOf p))) := by
  have HI := Lib.hid hi
  have HB0 := Lib.hid (Below.refl w.heap.size w)
  clear hi
  go_enter Tryz.func72, Tryz.ntmps72
  go_wp2_with fail
  go_loopw [5] (fun i wr => ∃ j : Int, i = .int .i8 j ∧ -1 ≤ j ∧ j ≤ 6 ∧ (∀ m, -1 ≤ m → m < j → p m = false) ∧ Hid (Below w.heap.size w wr)) (fun i _ => (6 - intOf i).toNat)
  case atStart => exact ⟨-1, rfl, by omega, by omega, fun m h0 h1 => by omega, HB0⟩
  case round =>
    obtain ⟨j, rfl, hj0, hj, hall, hbl⟩ := hrel
    by_cases hlt : j ≤ 5
    · obtain ⟨t2, q2, f, r, o, ev, i1, i2, i3, i5, i4⟩ := HI.out j wr hbl.out
      cases ev
      have hw : IntKind.i8.wrap (j + 1) = j + 1 := by rw [wrap8, w8_id (by omega) (by omega)]
      have I4 := Lib.hid i4
      have io : o = none ∨ o = some false := by rcases o with _ | _ | _ <;> simp at i2 ⊢
      clear i4 i2
      rcases io with rfl | rfl
      all_goals
        go_wp2_with fail
        refine I4.out.mono ?_
        rintro e w' ⟨rfl, hb'⟩
        have hsz := hbl.out.size
        have HB := Lib.hid (hbl.out.trans (hb'.mono hsz))
        clear hb' hbl i1 i3
        rcases he : p j with _ | _
        · go_wp2_with fail
          go_roundw
          case rel => exact ⟨j + 1, rfl, by omega, by omega, fun m h0 hm => if e : m = j then e ▸ he else hall m h0 (by omega), HB⟩
          case measure => simp [intOf]; omega
        · go_wp2_with fail
          go_ret
          refine ⟨?_, HB.out⟩
          have h1 : leastOf p ≤ j := leastOf_le hj0 hlt he
          have h2 : ¬ leastOf p < j := fun h => by
            have := leastOf_mem (p := p) (by omega)
            rw [hall _ (leastOf_bd p).1 h] at this
            cases this
          rw [show leastOf p = j by omega]; rfl
    · go_wp2_with fail
      go_ret
      refine ⟨?_, hbl.out⟩
      have h2 : ¬ leastOf p < 6 := fun h => by
        have := leastOf_mem (p := p) (by omega)
        rw [hall _ (leastOf_bd p).1 (by omega)] at this
        cases this
      rw [show leastOf p = 6 by have := leastOf_bd p; omega]; rfl

/-- the level of an increased core -/
theorem lv_inc (I : Nat) (vc : Value) (a : Int) (w : World) (hb : Blk w I 323 #[vc, .iface 129 (.int .i8 a)]) : Calls Tryz.prog 72 #[.iface 321 (.pointer (some ⟨I, 0, none⟩))] w (Says w (.int .i8 (leastOf fun l => decide (a ≤ l)))) := by
  have c1 : w.cell? ⟨I, 1, none⟩ = some (.iface 129 (.int .i8 a)) := hb.cell 1
  have t1 := fun a w => taI a w
  have n1 := fun a w => nlVI a w
  have n2 := fun a w => mtVI a w
  have hl := lv_loop 129 (.int .i8 a) (fun l => decide (a ≤ l)) w (taL a) (fun l W _ => ⟨129, _, 261, .int .i8 a, some false, rfl, nlL _ _, by simp, mtL a W, cf261, lvlEn a l W⟩)
  have HL := Lib.hid hl
  generalize leastOf (fun l => decide (a ≤ l)) = R at *
  clear hb hl
  go_enter Tryz.func72, Tryz.ntmps72
  go_wp2_with (go_at_call 412; go_enter Tryz.func412, Tryz.ntmps412; go_wp2_with (go_at_call 72; refine HL.out.mono ?_; rintro e w1 ⟨rfl, hb1⟩); go_ret)
  exact ⟨rfl, hb1⟩

def foldL (f : Nat → Int) (j : Nat) : Int := (List.range j).foldl (fun m i => if f i < m then f i else m) 5
theorem foldL_succ (f : Nat → Int) (j : Nat) : foldL f (j + 1) = if f j < foldL f j then f j else foldL f j := by
  unfold foldL; rw [List.range_succ, List.foldl_append, List.foldl_cons, List.foldl_nil]

set_option maxHeartbeats 2000000 in
theorem teeLv (T n cap : Nat) (vs : Nat → Value) (f : Nat → Int) (w : World) (h2 : n ≤ cap) (h3 : cap ≤ 9223372036854775807) (hT : T < w.heap.size) (hc : ∀ i, i < n → w.cell? ⟨T, i, none⟩ = some (vs i)) (hv : ∀ i, i < n → ∃ t p, vs i = .iface t p)
    (hi : ∀ i, i < n → ∀ W, Below w.heap.size w W → Calls Tryz.prog 72 #[vs i] W (Says W (.int .i8 (f i)))) :
    Calls Tryz.prog 405 #[.slice (some ⟨T, 0, none⟩) n cap] w (Says w (.int .i8 (foldL f n))) := by
  have HC := Lib.hid hc
  have HI := Lib.hid hi
  have HV := Lib.hid hv
  have HB0 := Lib.hid (Below.refl w.heap.size w)
  clear hc hi hv
  go_enter Tryz.func405, Tryz.ntmps405
  go_wp2_with fail
  go_loopw [3, 8] (fun x i wr => ∃ j : Nat, x = .int .i8 (foldL f j) ∧ i = .int .i64 j ∧ j ≤ n ∧ Hid (Below w.heap.size w wr)) (fun _ i _ => n - (intOf i).toNat)
  case atStart => exact ⟨0, rfl, rfl, by omega, HB0⟩
  case round =>
    obtain ⟨j, rfl, rfl, hj, hbl⟩ := hrel
    by_cases hlt : j < n
    · obtain ⟨t, q, ev⟩ := HV.out j hlt
      have c0 : wr.cell? ⟨T, j, none⟩ = some (.iface t q) := (World.cell?_of_block (w := w) (hbl.out.block T hT)).trans ((HC.out j hlt).trans (by rw [ev]))
      have hcall := HI.out j hlt wr hbl.out
      rw [ev] at hcall
      have q0 : (0 : Int) ≤ (j : Int) := Int.natCast_nonneg _
      have q1 : (j : Int) < (n : Int) := by omega
      have I4 := Lib.hid hcall
      clear hcall ev
      have hs := foldL_succ f j
      go_wp2_with fail
      refine I4.out.mono ?_
      rintro e w' ⟨rfl, hb'⟩
      have hsz := hbl.out.size
      have HB := Lib.hid (hbl.out.trans (hb'.mono hsz))
      clear hb' hbl c0 I4
      by_cases hlt2 : f j < foldL f j
      · rw [if_pos hlt2] at hs
        have HS := Lib.hid hs
        clear hs
        go_wp2_with fail
        go_roundw
        case rel => exact ⟨j + 1, by rw [HS.out], by go_num, by omega, HB⟩
        case measure => simp [intOf]; omega
      · rw [if_neg hlt2] at hs
        have HS := Lib.hid hs
        clear hs
        go_wp2_with fail
        go_roundw
        case rel => exact ⟨j + 1, by rw [HS.out], by go_num, by omega, HB⟩
        case measure => simp [intOf]; omega
    · have e : j = n := by omega
      subst e
      go_wp2_with fail
      go_ret
      exact ⟨rfl, hbl.out⟩

theorem tee72 (T n cap : Nat) (m : Int) (w : World) (h : Calls Tryz.prog 405 #[.slice (some ⟨T, 0, none⟩) n cap] w (Says w (.int .i8 m))) : Calls Tryz.prog 72 #[.iface 319 (.slice (some ⟨T, 0, none⟩) n cap)] w (Says w (.int .i8 m)) := by
  have t1 := fun a n c w => taT a n c w
  have n1 := fun a n c w => nlVT a n c w
  have n2 := fun a n c w => mtVT a n c w
  have HL := Lib.hid h
  clear h
  go_enter Tryz.func72, Tryz.ntmps72
  go_wp2_with (go_at_call 405; refine HL.out.mono ?_; rintro e w1 ⟨rfl, hb1⟩)
  go_ret
  exact ⟨rfl, hb1⟩

/-- LevelOf of a built core -/
theorem lv_any {N : Nat} (K : KT FC) : ∀ {ok : Prop} {Y : (Nat → Prop) → KT FC → Value → Prop} {S : Nat → Prop} {v : Value} {w : World}, RepG ok Y w N K S v → (∀ k, S k → k < w.heap.size) → Calls Tryz.prog 72 #[v] w (Says w (.int .i8 (lvK K))) := by
  induction K with
  | leaf lvl num fs =>
    intro ok Y S v w h hS
    have hh := h
    obtain ⟨L, g, rfl, h2, h3, h4, h5⟩ := h
    exact lv_loop 201 _ (enK (.leaf lvl num fs)) w (taF _) fun l W hW => en_rep l _ (RepG.keep (Y' := fun _ _ _ => True) (w' := W) (fun _ _ _ _ _ => trivial) hh fun k hk => hW.block k (hS k hk)) fun k hk => Nat.lt_of_lt_of_le (hS k hk) hW.size
  | nop =>
    intro ok Y S v w h hS
    obtain rfl := h
    exact lv_loop 318 _ (enK (.nop : KT FC)) w taN fun l W hW => en_rep (ok := True) (Y := fun _ _ _ => True) (N := N) (S := fun _ => False) l (.nop : KT FC) rfl fun k hk => hk.elim
  | tee n kids ih =>
    intro ok Y S v w h hS
    obtain ⟨T, cap, Sk, vs, rfl, h2, h3, h4, h5⟩ := h
    refine tee72 T n cap _ w ?_
    refine teeLv T n cap vs (fun i => lvK (kids i)) w h2 h3 (hS T h4) (fun i hi => (h5 i hi).2.2.2.1) (fun i hi => RepG.form (h5 i hi).2.2.2.2) fun i hi W hW => ?_
    obtain ⟨g1, g2, g3, g4, g5⟩ := h5 i hi
    exact ih i (RepG.keep (Y' := fun _ _ _ => True) (w' := W) (fun _ _ _ _ _ => trivial) g5 fun k hk => hW.block k (hS k (g1 k hk))) fun k hk => Nat.lt_of_lt_of_le (hS k (g1 k hk)) hW.size
  | incr lvl k ih =>
    intro ok Y S v w h hS
    obtain ⟨I, vc, S1, rfl, h2, h3, _⟩ := h
    exact lv_inc I vc lvl w h3
  | lazy k fs ih =>
    intro ok Y S v w h hS
    have hh := h
    obtain ⟨h0, Z, vo, g, S1, SG, rfl, _⟩ := h
    exact lv_loop 324 _ (enK (.lazy k fs)) w (taZ _) fun l W hW => en_rep l _ (RepG.keep (Y' := fun _ _ _ => True) (w' := W) (fun _ _ _ _ _ => trivial) hh fun k hk => hW.block k (hS k hk)) fun k hk => Nat.lt_of_lt_of_le (hS k hk) hW.size
end Go.Proofs.Zap

namespace Go.Proofs.Zap
open Go Go.Proofs Go.RowKit

/-- what ZLevelOf answers -/
def LvP (t : CT FC) (w : World) (e : Ending) (w' : World) : Prop := Below w.heap.size w w' ∧ ((makes t = true ∧ e = .returned (.tuple #[.int .i64 (lvK (bld t 0)), .bool true])) ∨ (makes t = false ∧ e = .returned (.tuple #[.int .i64 0, .bool false])))

theorem lvK_bd (K : KT FC) : -1 ≤ lvK K ∧ lvK K ≤ 6 := by
  induction K with
  | leaf lvl num fs => exact leastOf_bd _
  | nop => exact ⟨by show (-1 : Int) ≤ 6; omega, by show (6 : Int) ≤ 6; omega⟩
  | incr lvl k ih => exact leastOf_bd _
  | lazy k fs ih => exact leastOf_bd _
  | tee n kids ih =>
    obtain ⟨f1, f2, f3⟩ := fold_min (fun i => lvK (kids i)) n 5
    change lvK (.tee n kids) ≤ 5 at f1
    change lvK (.tee n kids) = 5 ∨ ∃ i, i < n ∧ lvK (.tee n kids) = lvK (kids i) at f3
    rcases f3 with h | ⟨i, hi, h⟩
    · omega
    · have := ih i; omega

set_option maxHeartbeats 2000000 in
theorem zlevel_any (t : CT FC) (hf : fine t 6 = true) (v : Value) (B : Nat) (w : World) (hc : CAt w B t v) (hB : B ≤ w.heap.size) (hfl : flen t ≤ 300) (hct : cnt t ≤ 1000000) :
    Calls Tryz.prog 31 #[v] w (LvP t w) := by
  obtain ⟨xk, xl, xA, xn, xc, xfA, xfn, xfc, rfl⟩ := hc.form
  have hw := lvK_bd (bld t 0)
  have hcore := fun (W : World) (hW : Below w.heap.size w W) (N : Nat) (hN : w.heap.size ≤ N) (hb : Blk W N 128 #[.int .i64 0, .int .i64 (0 : Nat), .slice none 0 0]) => core_any t 6 hf _ B N 0 (.int .i64 0) (.slice none 0 0) W (hc.keep fun k hk => hW.block k (by omega)) (by omega) hb hfl (by omega)
  have HCO := Lib.hid hcore
  have hb0 : ∀ o1 o2 : Obj, Below w.heap.size w ((w.alloc o1).alloc o2) := fun o1 o2 => ((Below.refl _ _).alloc (Nat.le_refl _) _).alloc (by simp) _
  have HB0 := Lib.hid hb0
  have e1 : IntKind.i64.wrap (lvK (bld t 0)) = lvK (bld t 0) := wrap64_id (by omega) (by omega)
  clear hcore hb0 hc
  go_enter Tryz.func31, Tryz.ntmps31
  go_wp2_with fail
  refine (HCO.out _ (HB0.out _ _) (w.heap.size + 1) (by omega) (Blk.new2 w _ 128 _)).mono ?_
  rintro e w1 ⟨hk, ⟨hm, v, rfl, hnb, hr⟩ | ⟨hm, rfl, x, hnb⟩⟩
  · have hbl : Below w.heap.size w w1 := by
      have h0 := HB0.out (.cells #[.int .i64 xk, .int .i64 xl, .slice xA xn xc, .slice xfA xfn xfc] 41) (.cells #[.int .i64 0, .int .i64 0, .slice none 0 0] 128)
      exact ⟨hk.os.trans h0.os, hk.tape.trans h0.tape, hk.output.trans h0.output, Nat.le_trans h0.size hk.size, fun k hk1 => (hk.block k (Nat.lt_of_lt_of_le hk1 h0.size) (by omega)).trans (h0.block k hk1)⟩
    have hlv := lv_any (bld t 0) hr fun k hk1 => hk1.2
    obtain ⟨t1, p1, rfl⟩ := RepG.form hr
    have HLV := Lib.hid hlv
    have HBL := Lib.hid hbl
    have HM := Lib.hid hm
    clear hk hm hnb hr hlv hbl HCO HB0
    go_wp2_with fail
    refine HLV.out.mono ?_
    rintro e w2 ⟨rfl, hb2⟩
    have hs := HBL.out.size
    have HB2 := Lib.hid (HBL.out.trans (hb2.mono hs))
    clear hb2 HLV
    go_wp2_with fail
    go_ret2
    exact ⟨HB2.out, .inl ⟨HM.out, rfl⟩⟩
  · have hbl : Below w.heap.size w w1 := by
      have h0 := HB0.out (.cells #[.int .i64 xk, .int .i64 xl, .slice xA xn xc, .slice xfA xfn xfc] 41) (.cells #[.int .i64 0, .int .i64 0, .slice none 0 0] 128)
      exact ⟨hk.os.trans h0.os, hk.tape.trans h0.tape, hk.output.trans h0.output, Nat.le_trans h0.size hk.size, fun k hk1 => (hk.block k (Nat.lt_of_lt_of_le hk1 h0.size) (by omega)).trans (h0.block k hk1)⟩
    have HBL := Lib.hid hbl
    have HM := Lib.hid hm
    clear hk hm hnb hbl HCO HB0
    go_wp2_with fail
    go_ret2
    exact ⟨HBL.out, .inr ⟨HM.out, rfl⟩⟩

/-- few leaves -/
theorem cnt_le {F : Type} (t : CT F) : ∀ d, fine t d = true → cnt t ≤ 6 ^ d := by
  induction t with
  | no => intro d hf; exact absurd hf (by simp [fine])
  | mk kind lvl n kids fs ih =>
    intro d hf
    obtain ⟨k0, k5, hd, hn, h1, h0, hk⟩ := fine_parts hf
    simp only [cnt]
    have hp : 1 ≤ 6 ^ d := Nat.one_le_pow _ _ (by omega)
    split
    · exact hp
    · split
      · omega
      · have : ∀ m, m ≤ n → (sumN m fun i => cnt (kids i)) ≤ m * 6 ^ (d - 1) := by
          intro m
          induction m with
          | zero => intro _; simp [sumN]
          | succ m ihm =>
            intro hm
            have a := ihm (by omega)
            have b := ih m (d - 1) (hk m (by omega))
            simp only [sumN]
            rw [Nat.add_mul]
            omega
        have h2 := this n (Nat.le_refl _)
        have h3 : n * 6 ^ (d - 1) ≤ 6 * 6 ^ (d - 1) := Nat.mul_le_mul_right _ hn
        have h4 : 6 * 6 ^ (d - 1) = 6 ^ d := by
          obtain ⟨e, rfl⟩ : ∃ e, d = e + 1 := ⟨d - 1, by omega⟩
          rw [Nat.pow_succ]; simp; omega
        omega
end Go.Proofs.Zap

namespace Go.Proofs.Zap
open Go Go.Proofs Go.RowKit

/-- what a field's own slices hold -/
def Pz (w : World) (B : Nat) (c : FC) : Prop := BytesOk w B c.bytes ∧ (∃ d, FsOk w B d c.items) ∧ c.key.size ≤ 9223372036854775807 ∧ c.text.size ≤ 9223372036854775807 ∧ c.zone.size ≤ 9223372036854775807 ∧ c.fail.size ≤ 9223372036854775807
theorem Pz.fmd {w : World} {B : Nat} {c : FC} (h : Pz w B c) : (∃ a n m, c.bytes = .slice a n m) ∧ ∃ a n m, c.items = .slice a n m := by
  obtain ⟨⟨A, n, cap, h1, _⟩, ⟨d, h2⟩, _⟩ := h
  refine ⟨⟨_, _, _, h1⟩, ?_⟩
  cases d with
  | zero => exact h2.elim
  | succ d => obtain ⟨A2, n2, c2, e, _⟩ := h2; exact ⟨_, _, _, e⟩
theorem flok_pz {w : World} {B d : Nat} {fs : List FC} {v : Value} (h : FlOk w B d fs v) : ∀ c, c ∈ fs → Pz w B c := by
  intro c hc
  obtain ⟨A, cap, h1, h2, h3, h4, h5⟩ := h
  obtain ⟨b, o, e, hb, hcs⟩ := h5 (List.length_pos_of_mem hc)
  obtain ⟨i, hi⟩ := List.getElem?_of_mem hc
  obtain ⟨_, g2, g3, g4⟩ := hcs i c hi
  exact ⟨g2, ⟨_, g3⟩, g4⟩

theorem zl_pz {w : World} {B : Nat} (t : CT FC) : ∀ v, CAt w B t v → ∀ x, x ∈ zl t → ∀ c, c ∈ x.2 → Pz w B c := by
  induction t with
  | no => intro v h x hx; simp [zl] at hx
  | mk kind lvl n kids fs ih =>
    intro v h x hx c hc
    obtain ⟨A, cap, fv, _, _, _, _, ⟨d, hfl⟩, _, h6⟩ := h
    simp only [zl] at hx
    split at hx
    · simp at hx; subst hx; cases hc
    · split at hx
      · cases hx
      · obtain ⟨i, hi, hx⟩ := List.mem_flatMap.1 hx
        obtain ⟨y, hy, rfl⟩ := List.mem_map.1 hx
        have hi := List.mem_range.1 hi
        obtain ⟨b, o, _, _, hcs⟩ := h6 (by omega)
        obtain ⟨r0, r1, r2, r3, _, hk⟩ := hcs i hi
        dsimp only at hc
        split at hc
        · rcases List.mem_append.1 hc with hc | hc
          · exact ih i _ hk y hy c hc
          · exact flok_pz hfl c hc
        · exact ih i _ hk y hy c hc

theorem le_sumN (f : Nat → Nat) : ∀ {n i : Nat}, i < n → f i ≤ sumN n f
  | 0, _, h => by omega
  | n + 1, i, h => by
    simp only [sumN]
    by_cases e : i = n
    · subst e; omega
    · have := le_sumN f (n := n) (i := i) (by omega); omega
theorem zl_len (t : CT FC) : ∀ x, x ∈ zl t → x.2.length ≤ flen t := by
  induction t with
  | no => intro x hx; simp [zl] at hx
  | mk kind lvl n kids fs ih =>
    intro x hx
    simp only [zl] at hx
    split at hx
    · simp at hx; subst hx; simp
    · split at hx
      · cases hx
      · obtain ⟨i, hi, hx⟩ := List.mem_flatMap.1 hx
        obtain ⟨y, hy, rfl⟩ := List.mem_map.1 hx
        have hi := List.mem_range.1 hi
        have := ih i y hy
        have h2 := le_sumN (fun i => flen (kids i)) hi
        simp only [flen]
        split
        · rw [List.length_append]; omega
        · omega
theorem pick_mem {F : Type} (l : Int) : ∀ (L : List (List Int × List F)) (c : Nat) (x : Nat × List F), x ∈ pick c L l → ∃ y, y ∈ L ∧ x.2 = y.2
  | [], c, x, h => by simp [pick] at h
  | y :: L, c, x, h => by
    simp only [pick] at h
    split at h
    · rcases List.mem_cons.1 h with rfl | h
      · exact ⟨y, List.mem_cons_self .., rfl⟩
      · obtain ⟨z, hz, e⟩ := pick_mem l L _ x h; exact ⟨z, List.mem_cons_of_mem _ hz, e⟩
    · obtain ⟨z, hz, e⟩ := pick_mem l L _ x h; exact ⟨z, List.mem_cons_of_mem _ hz, e⟩
theorem pick_len {F : Type} (l : Int) : ∀ (L : List (List Int × List F)) (c : Nat), (pick c L l).length ≤ L.length
  | [], c => by simp [pick]
  | y :: L, c => by
    simp only [pick]
    have := pick_len l L (c + 1)
    split
    · simp; exact this
    · simp; omega

/-- the entries that are handed in -/
def ELk (w : World) (B : Nat) (EL : List ZE) (v : Value) : Prop :=
  ∃ A cap, v = .slice A EL.length cap ∧ EL.length ≤ cap ∧ cap ≤ 9223372036854775807 ∧ (A = none → EL.length = 0 ∧ cap = 0) ∧
    (0 < EL.length → ∃ b o, A = some ⟨b, o, none⟩ ∧ b < B ∧ ∀ i z, EL[i]? = some z → RowC w b (o + i * 12) z.arr ∧ -9223372036854775808 ≤ z.nanos ∧ z.nanos ≤ 9223372036854775807)
/-- the lists of fields -/
def FFk (w : World) (B : Nat) (FL : List (List FC)) (v : Value) : Prop :=
  ∃ A cap, v = .slice A FL.length cap ∧ FL.length ≤ cap ∧ cap ≤ 9223372036854775807 ∧ (A = none → FL.length = 0 ∧ cap = 0) ∧
    (0 < FL.length → ∃ b o, A = some ⟨b, o, none⟩ ∧ b < B ∧ ∀ i fs, FL[i]? = some fs → ∃ d fv, w.cell? ⟨b, o + i, none⟩ = some fv ∧ FlOk w B d fs fv)

theorem ELk.keep {w w' : World} {B : Nat} {EL : List ZE} {v : Value} (h : ELk w B EL v) (hk : ∀ k, k < B → w'.heap[k]? = w.heap[k]?) : ELk w' B EL v := by
  obtain ⟨A, cap, h1, h2, h3, h4, h5⟩ := h
  refine ⟨A, cap, h1, h2, h3, h4, fun hn => ?_⟩
  obtain ⟨b, o, e, hb, hc⟩ := h5 hn
  exact ⟨b, o, e, hb, fun i z hi => ⟨(hc i z hi).1.keep hb hk, (hc i z hi).2⟩⟩
theorem FFk.keep {w w' : World} {B : Nat} {FL : List (List FC)} {v : Value} (h : FFk w B FL v) (hk : ∀ k, k < B → w'.heap[k]? = w.heap[k]?) : FFk w' B FL v := by
  obtain ⟨A, cap, h1, h2, h3, h4, h5⟩ := h
  refine ⟨A, cap, h1, h2, h3, h4, fun hn => ?_⟩
  obtain ⟨b, o, e, hb, hc⟩ := h5 hn
  refine ⟨b, o, e, hb, fun i fs hi => ?_⟩
  obtain ⟨d, fv, g1, g2⟩ := hc i fs hi
  exact ⟨d, fv, (World.cell?_of_block (w := w) (hk b hb)).trans g1, g2.keep hk⟩

def lvAt (EL : List ZE) (i : Nat) : Int := w8 ((EL[i]?.map ZE.lv).getD 0)
def gsAt (FL : List (List FC)) (i : Nat) : List FC := (FL[i]?).getD []
/-- what has been seen behind j entries -/
def seenOf (t : CT FC) (EL : List ZE) (FL : List (List FC)) (j : Nat) : List (Nat × Nat × List FC) := (List.range j).flatMap fun i => noted i (gsAt FL i) (wrK (bld t 0) (lvAt EL i))
theorem seenOf_succ (t : CT FC) (EL : List ZE) (FL : List (List FC)) (j : Nat) : seenOf t EL FL (j + 1) = seenOf t EL FL j ++ noted j (gsAt FL j) (wrK (bld t 0) (lvAt EL j)) := by
  simp [seenOf, List.range_succ]
theorem wr_len (t : CT FC) (l : Int) (hf : fine t 6 = true) : (wrK (bld t 0) l).length ≤ 46656 := by
  rw [wr_bld l t 6 0 hf]
  have h1 := pick_len l (zl t) 0
  have h2 := len_zl t 6 hf
  have h3 := cnt_le t 6 hf
  omega
theorem seenOf_len (t : CT FC) (EL : List ZE) (FL : List (List FC)) (hf : fine t 6 = true) : ∀ j, (seenOf t EL FL j).length ≤ j * 46656
  | 0 => by simp [seenOf]
  | j + 1 => by
    rw [seenOf_succ, List.length_append]
    have := seenOf_len t EL FL hf j
    have h2 := wr_len t (lvAt EL j) hf
    simp only [noted, List.length_map]
    omega

/-- what stands in the middle of ZWrite -/
structure ZwI (w wr : World) (N : Nat) (lv : Value) (K : KT FC) (v : Value) (D : List (Nat × Nat × List FC)) : Prop where
  below : Below w.heap.size w wr
  hN : w.heap.size ≤ N
  st : ∃ (ent : Nat) (u : Value) (T S : Nat → Prop), Blk wr N 128 #[.int .i64 ent, lv, u] ∧ SeenO wr T u D ∧ RepR wr N K S v ∧ (∀ k, T k → N < k ∧ k < wr.heap.size) ∧ (∀ k, S k → N < k ∧ k < wr.heap.size) ∧ ∀ k, S k → ¬ T k
/-- and ahead of Check -/
structure Zw2 (w wr w4 : World) (N j : Nat) (lv : Value) (K : KT FC) (v f : Value) (gs : List FC) (D : List (Nat × Nat × List FC)) (u : Value) (T S SG : Nat → Prop) : Prop where
  below : Below w.heap.size w w4
  hN : w.heap.size ≤ N
  size : wr.heap.size ≤ w4.heap.size
  nlt : N < wr.heap.size
  nb : Blk w4 N 128 #[.int .i64 (j : Int), lv, u]
  seen : SeenO w4 T u D
  rep : RepR w4 N K S v
  fs : GFs w4 SG gs f
  t : ∀ k, T k → N < k ∧ k < wr.heap.size
  s : ∀ k, S k → N < k ∧ k < wr.heap.size
  st : ∀ k, S k → ¬ T k
  sg : ∀ k, SG k → wr.heap.size ≤ k ∧ k < w4.heap.size

theorem SeenO.keep {w w' : World} {T : Nat → Prop} {u : Value} {D : List (Nat × Nat × List FC)} (h : SeenO w T u D) (hk : ∀ k, T k → w'.heap[k]? = w.heap[k]?) : SeenO w' T u D := by
  obtain ⟨SL, h1, h2, h3, h4⟩ := h
  refine ⟨SL, h1, ⟨h2.1, ?_⟩, h3, fun x hx => ?_⟩
  · rcases h2.2 with h | ⟨g', cap', cur, he, hb, hg, r⟩
    · exact .inl h
    · exact .inr ⟨g', cap', cur, he, hb, (hk g' (h3 g' (by rw [he]; rfl))).trans hg, r⟩
  · obtain ⟨Si, a, b⟩ := h4 x hx
    exact ⟨Si, a.keep fun k hk' => hk k (b k hk').1, b⟩
theorem Zw2.drew {w wr w4 : World} {N j : Nat} {lv : Value} {K : KT FC} {v f : Value} {gs : List FC} {D : List (Nat × Nat × List FC)} {u : Value} {T S SG : Nat → Prop} (h : Zw2 w wr w4 N j lv K v f gs D u T S SG) : Zw2 w wr w4.drew N j lv K v f gs D u T S SG :=
  ⟨h.below.drew, h.hN, h.size, h.nlt, h.nb.drew, h.seen.drew, h.rep.keep fun _ _ => rfl, h.fs.keep fun _ _ => rfl, h.t, h.s, h.st, h.sg⟩
theorem Zw2.on {w wr w4 w5 : World} {N j : Nat} {lv : Value} {K : KT FC} {v f : Value} {gs : List FC} {D : List (Nat × Nat × List FC)} {u : Value} {T S SG : Nat → Prop} (h : Zw2 w wr w4 N j lv K v f gs D u T S SG) (hb : Below w4.heap.size w4 w5) : Zw2 w wr w5 N j lv K v f gs D u T S SG := by
  have z1 := h.below.size
  have z2 := hb.size
  have z3 := h.size
  have z4 := h.nb.lt
  exact ⟨h.below.trans (hb.mono z1), h.hN, by omega, h.nlt, h.nb.below hb z4, h.seen.keep fun k hk => hb.block k (by have := h.t k hk; omega), h.rep.keep fun k hk => hb.block k (by have := h.s k hk; omega), h.fs.keep fun k hk => hb.block k (h.sg k hk).2, h.t, h.s, h.st, fun k hk => ⟨(h.sg k hk).1, by have := (h.sg k hk).2; omega⟩⟩

theorem zw_start {w wr w3 : World} {N j ent : Nat} {lv : Value} {K : KT FC} {v f : Value} {gs : List FC} {D : List (Nat × Nat × List FC)} {u : Value} {T S SG : Nat → Prop} (hbl : Below w.heap.size w wr) (hN : w.heap.size ≤ N) (hnb : Blk wr N 128 #[.int .i64 ent, lv, u]) (hs : SeenO wr T u D) (hr : RepR wr N K S v)
    (ht : ∀ k, T k → N < k ∧ k < wr.heap.size) (hS : ∀ k, S k → N < k ∧ k < wr.heap.size) (hST : ∀ k, S k → ¬ T k) (hk : Kept (fun k => k = N) wr w3) (hnb3 : Blk w3 N 128 #[.int .i64 (j : Int), lv, u]) (hf : GFs w3 SG gs f) (hsg : ∀ k, SG k → wr.heap.size ≤ k ∧ k < w3.heap.size) :
    Zw2 w wr w3 N j lv K v f gs D u T S SG :=
  ⟨⟨hk.os.trans hbl.os, hk.tape.trans hbl.tape, hk.output.trans hbl.output, Nat.le_trans hbl.size hk.size, fun k h => (hk.block k (Nat.lt_of_lt_of_le h hbl.size) (by omega)).trans (hbl.block k h)⟩, hN, hk.size, hnb.lt, hnb3, hs.keep fun k h => hk.block k (ht k h).2 (by have := (ht k h).1; omega), hr.keep fun k h => hk.block k (hS k h).2 (by have := (hS k h).1; omega), hf, ht, hS, hST, hsg⟩

/-- behind Check -/
theorem zw_after {w wr w4 w5 : World} {N j : Nat} {lv : Value} {K : KT FC} {v f : Value} {gs : List FC} {D : List (Nat × Nat × List FC)} {u : Value} {T S SG : Nat → Prop} {E : EV} {l : Int} {p' : Option Addr} {Q' S' : Nat → Prop} {Ms : List Nat} (h : Zw2 w wr w4 N j lv K v f gs D u T S SG)
    (hce : CEo w5 Q' E l p' ([] ++ Ms)) (hr : RepR w5 N K S' v) (hs : ∀ k, S' k → S k ∨ NewB w4 w5 k) (hq : ∀ k, Q' k → False ∨ NewB w4 w5 k) (hsq : ∀ k, S' k → ¬ Q' k) (hk : Kept (fun k => S k ∨ False) w4 w5) (hl : Leaves w5 N S' Ms (wrK K l))
    (hm : ∀ d, d ∈ wrK K l → d.2.length + gs.length ≤ 1000000) (hD : D.length + (wrK K l).length ≤ 1000000) (hfm : ∀ d, d ∈ wrK K l → ∀ c, c ∈ d.2 ++ gs → (∃ a n m, c.bytes = .slice a n m) ∧ ∃ a n m, c.items = .slice a n m) :
    (p' = none ∧ ZwI w w5 N lv K v (D ++ noted j gs (wrK K l))) ∨ ∃ C, p' = some ⟨C, 0, none⟩ ∧ Calls Tryz.prog 85 #[.pointer (some ⟨C, 0, none⟩), f] w5 fun en w6 => en = .returned (.tuple #[]) ∧ ZwI w w6 N lv K v (D ++ noted j gs (wrK K l)) := by
  have z1 := h.below.size
  have z2 := hk.size
  have z3 := h.size
  have z4 := h.nb.lt
  have z5 := h.hN
  have z7 := h.nlt
  have hk2 : ∀ k, k < w4.heap.size → ¬ S k → w5.heap[k]? = w4.heap[k]? := fun k a b => hk.block k a fun e => e.elim b id
  have hb5 : Below w.heap.size w w5 := ⟨hk.os.trans h.below.os, hk.tape.trans h.below.tape, hk.output.trans h.below.output, by omega, fun k hkk => (hk2 k (by omega) fun e => by have := h.s k e; omega).trans (h.below.block k hkk)⟩
  have hn5 : Blk w5 N 128 #[.int .i64 (j : Int), lv, u] := (hk2 N z4 fun e => by have := h.s N e; omega).trans h.nb
  have hs5 : SeenO w5 T u D := h.seen.keep fun k e => hk2 k (by have := h.t k e; omega) fun e2 => h.st k e2 e
  have hS' : ∀ k, S' k → N < k ∧ k < w5.heap.size := fun k e => by
    rcases hs k e with e | e
    · have := h.s k e; omega
    · have e1 : w4.heap.size ≤ k := e.1; have e2 : k < w5.heap.size := e.2; omega
  have hS'T : ∀ k, S' k → ¬ T k := fun k e e2 => by
    rcases hs k e with e | e
    · exact h.st k e e2
    · have := h.t k e2; have e1 : w4.heap.size ≤ k := e.1; omega
  rcases hce with ⟨rfl, hm0⟩ | ⟨C, cu, rfl, q1, q2, q3, q4⟩
  · refine .inl ⟨rfl, ⟨hb5, z5, j, u, T, S', hn5, ?_, hr, fun k e => ⟨(h.t k e).1, by have := (h.t k e).2; omega⟩, hS', hS'T⟩⟩
    have e0 : wrK K l = [] := by
      have := hl.1
      simp at hm0
      rw [hm0] at this
      exact List.eq_nil_of_length_eq_zero this.symm
    rw [e0]
    simpa [noted] using hs5
  · refine .inr ⟨C, rfl, ?_⟩
    have hQ : ∀ k, Q' k → w4.heap.size ≤ k ∧ k < w5.heap.size := fun k e => (hq k e).elim (fun x => x.elim) fun x => x
    have hf5 : GFs w5 SG gs f := h.fs.keep fun k e => hk2 k (h.sg k e).2 fun e2 => by have := h.s k e2; have := h.sg k e; omega
    refine (ceWrite N C j lv f u cu gs Q' S' SG T D Ms (wrK K l) E l w5 q2 (by simpa using q3) q4 q1 hl hf5 hn5 hs5 (fun k e => by have := h.t k e; omega) (fun k e => (hS' k e).2) (fun k e => by have := h.sg k e; omega) (fun k e => (hQ k e).2)
      (fun e => by have := h.t N e; omega) (fun e => by have := hQ N e; omega) (fun e => by have := hS' N e; omega) (fun e => by have := h.sg N e; omega) (fun k e e2 => by have := hQ k e; have := h.t k e2; omega) hS'T (fun k e e2 => by have := h.sg k e; have := h.t k e2; omega) hsq (fun k e e2 => by have := h.sg k e; have := hQ k e2; omega) hm hD hfm).mono ?_
    rintro en w6 ⟨rfl, hk6, u6, T6, hn6, hs6, ht6⟩
    have z6 := hk6.size
    refine ⟨rfl, ⟨hk6.os.trans hb5.os, hk6.tape.trans hb5.tape, hk6.output.trans hb5.output, by omega, fun k hkk => (hk6.block k (by omega) fun e => ?_).trans (hb5.block k hkk)⟩, z5, j, u6, T6, S', hn6, hs6, hr.keep fun k e => hk6.block k (hS' k e).2 fun e2 => ?_, fun k e => ?_, fun k e => ⟨(hS' k e).1, by have := (hS' k e).2; omega⟩, fun k e e2 => ?_⟩
    · rcases e with e | e | e
      · have := h.t k e; omega
      · omega
      · have := hQ C q1; omega
    · rcases e2 with e2 | e2 | e2
      · exact hS'T k e e2
      · have := hS' k e; omega
      · exact hsq k e (e2 ▸ q1)
    · rcases ht6 k e with e | e
      · have := h.t k e; omega
      · have e1 : w5.heap.size ≤ k := e.1; have e2 : k < w6.heap.size := e.2; omega
    · rcases ht6 k e2 with e2 | e2
      · exact hS'T k e e2
      · have e1 : w5.heap.size ≤ k := e2.1; have := hS' k e; omega
end Go.Proofs.Zap
