/- a text of the claims over the seat; its order and aim: NOTES.md -/
import Derived.Test.YtpllbhobcnglnaaGreatDoorZQN
namespace Go.Proofs.Zap
open Go Go.Proofs Go.RowKit

/-- what ZLevelOf answers -/
def LvP (t : CT FC) (w : World) (e : Ending) (w' : World) : Prop := Below w.heap.size w w' ∧ ((makes t = true ∧ e = .returned (.tuple #[.int .i64 (lvK (bld t 0)), .bool true])) ∨ (makes t = false ∧ e = .returned (.tuple #[.int .i64 0, .bool false])))

theorem lvK_bd (K : KT FC) : -1 ≤ lvK K ∧ lvK K ≤ 6 := by
  induction K with
  | leaf lvl num fs => exact leastOf_bd _
  | nop => exact ⟨by show (-1 : Int) ≤ 6; omega, by show (6 : Int) ≤ 6; omega⟩
  | incr lvl k ih => exact leastOf_bd _
  | lazy k fs ih => exact leastOf_bd _
  | tee n kids ih =>
    obtain ⟨f1, f2, f3⟩ := fold_min (fun i => lvK (kids i)) n 5
    change lvK (.tee n kids) ≤ 5 at f1
    change lvK (.tee n kids) = 5 ∨ ∃ i, i < n ∧ lvK (.tee n kids) = lvK (kids i) at f3
    rcases f3 with h | ⟨i, hi, h⟩
    · omega
    · have := ih i; omega

set_option maxHeartbeats 2000000 in
theorem zlevel_any (t : CT FC) (hf : fine t 6 = true) (v : Value) (B : Nat) (w : World) (hc : CAt w B t v) (hB : B ≤ w.heap.size) (hfl : flen t ≤ 300) (hct : cnt t ≤ 1000000) :
    Calls Tryz.prog 31 #[v] w (LvP t w) := by
  obtain ⟨xk, xl, xA, xn, xc, xfA, xfn, xfc, rfl⟩ := hc.form
  have hw := lvK_bd (bld t 0)
  have hcore := fun (W : World) (hW : Below w.heap.size w W) (N : Nat) (hN : w.heap.size ≤ N) (hb : Blk W N 128 #[.int .i64 0, .int .i64 (0 : Nat), .slice none 0 0]) => core_any t 6 hf _ B N 0 (.int .i64 0) (.slice none 0 0) W (hc.keep fun k hk => hW.block k (by omega)) (by omega) hb hfl (by omega)
  have HCO := Lib.hid hcore
  have hb0 : ∀ o1 o2 : Obj, Below w.heap.size w ((w.alloc o1).alloc o2) := fun o1 o2 => ((Below.refl _ _).alloc (Nat.le_refl _) _).alloc (by simp) _
  have HB0 := Lib.hid hb0
  have e1 : IntKind.i64.wrap (lvK (bld t 0)) = lvK (bld t 0) := wrap64_id (by omega) (by omega)
  clear hcore hb0 hc
  go_enter Tryz.func31, Tryz.ntmps31
  go_wp2_with fail
  refine (HCO.out _ (HB0.out _ _) (w.heap.size + 1) (by omega) (Blk.new2 w _ 128 _)).mono ?_
  rintro e w1 ⟨hk, ⟨hm, v, rfl, hnb, hr⟩ | ⟨hm, rfl, x, hnb⟩⟩
  · have hbl : Below w.heap.size w w1 := by
      have h0 := HB0.out (.cells #[.int .i64 xk, .int .i64 xl, .slice xA xn xc, .slice xfA xfn xfc] 41) (.cells #[.int .i64 0, .int .i64 0, .slice none 0 0] 128)
      exact ⟨hk.os.trans h0.os, hk.tape.trans h0.tape, hk.output.trans h0.output, Nat.le_trans h0.size hk.size, fun k hk1 => (hk.block k (Nat.lt_of_lt_of_le hk1 h0.size) (by omega)).trans (h0.block k hk1)⟩
    have hlv := lv_any (bld t 0) hr fun k hk1 => hk1.2
    obtain ⟨t1, p1, rfl⟩ := RepG.form hr
    have HLV := Lib.hid hlv
    have HBL := Lib.hid hbl
    have HM := Lib.hid hm
    clear hk hm hnb hr hlv hbl HCO HB0
    go_wp2_with fail
    refine HLV.out.mono ?_
    rintro e w2 ⟨rfl, hb2⟩
    have hs := HBL.out.size
    have HB2 := Lib.hid (HBL.out.trans (hb2.mono hs))
    clear hb2 HLV
    go_wp2_with fail
    go_ret2
    exact ⟨HB2.out, .inl ⟨HM.out, rfl⟩⟩
  · have hbl : Below w.heap.size w w1 := by
      have h0 := HB0.out (.cells #[.int .i64 xk, .int .i64 xl, .slice xA xn xc, .slice xfA xfn xfc] 41) (.cells #[.int .i64 0, .int .i64 0, .slice none 0 0] 128)
      exact ⟨hk.os.trans h0.os, hk.tape.trans h0.tape, hk.output.trans h0.output, Nat.le_trans h0.size hk.size, fun k hk1 => (hk.block k (Nat.lt_of_lt_of_le hk1 h0.size) (by omega)).trans (h0.block k hk1)⟩
    have HBL := Lib.hid hbl
    have HM := Lib.hid hm
    clear hk hm hnb hbl HCO HB0
    go_wp2_with fail
    go_ret2
    exact ⟨HBL.out, .inr ⟨HM.out, rfl⟩⟩

/-- few leaves -/
theorem cnt_le {F : Type} (t : CT F) : ∀ d, fine t d = true → cnt t ≤ 6 ^ d := by
  induction t with
  | no => intro d hf; exact absurd hf (by simp [fine])
  | mk kind lvl n kids fs ih =>
    intro d hf
    obtain ⟨k0, k5, hd, hn, h1, h0, hk⟩ := fine_parts hf
    simp only [cnt]
    have hp : 1 ≤ 6 ^ d := Nat.one_le_pow _ _ (by omega)
    split
    · exact hp
    · split
      · omega
      · have : ∀ m, m ≤ n → (sumN m fun i => cnt (kids i)) ≤ m * 6 ^ (d - 1) := by
          intro m
          induction m with
          | zero => intro _; simp [sumN]
          | succ m ihm =>
            intro hm
            have a := ihm (by omega)
            have b := ih m (d - 1) (hk m (by omega))
            simp only [sumN]
            rw [Nat.add_mul]
            omega
        have h2 := this n (Nat.le_refl _)
        have h3 : n * 6 ^ (d - 1) ≤ 6 * 6 ^ (d - 1) := Nat.mul_le_mul_right _ hn
        have h4 : 6 * 6 ^ (d - 1) = 6 ^ d := by
          obtain ⟨e, rfl⟩ : ∃ e, d = e + 1 := ⟨d - 1, by omega⟩
          rw [Nat.pow_succ]; simp; omega
        omega
end Go.Proofs.Zap
