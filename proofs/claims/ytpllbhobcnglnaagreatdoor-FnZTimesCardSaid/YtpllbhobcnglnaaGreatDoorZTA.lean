/- a text of the claims over the seat; its order and aim: NOTES.md -/
import Derived.Test.YtpllbhobcnglnaaGreatDoorZT9
namespace Go.Proofs.Zap
open Go Go.Proofs Go.RowKit

section
variable (x n o : Int) (z : ByteArray) (w : World)
abbrev tA (x n : Int) (z : ByteArray) (o : Int) : Value := .agg #[.int .i64 x, .int .i32 n, .string z, .int .i64 o]
theorem sec_any : Calls Tryz.prog 208 #[tA x n z o] w fun e w' => e = .returned (.int .i64 x) ∧ Below w.heap.size w w' := by
  go_enter Tryz.func208, Tryz.ntmps208
  go_wp2
  go_ret
  exact ⟨rfl, (Below.refl _ _).alloc (Nat.le_refl _) _⟩
theorem nsec_any : Calls Tryz.prog 201 #[tA x n z o] w fun e w' => e = .returned (.int .i32 n) ∧ Below w.heap.size w w' := by
  go_enter Tryz.func201, Tryz.ntmps201
  go_wp2
  go_ret
  exact ⟨rfl, (Below.refl _ _).alloc (Nat.le_refl _) _⟩
theorem nano_any (h0 : 0 ≤ n) (h1 : n ≤ 999999999) : Calls Tryz.prog 224 #[tA x n z o] w fun e w' => e = .returned (.int .i64 n) ∧ Below w.heap.size w w' := by
  go_enter Tryz.func224, Tryz.ntmps224
  go_wp2_with fail
  refine (nsec_any x n o z _).mono ?_
  rintro e w1 ⟨rfl, hb⟩
  have HB := Lib.hid (((Below.refl _ w).alloc (Nat.le_refl _) (.cells #[.int .i64 x, .int .i32 n, .string z, .int .i64 o] 112)).trans (hb.mono (by simp)))
  clear hb
  go_wp2_with fail
  go_ret
  exact ⟨rfl, HB.out⟩
theorem unixSec_any (h0 : -9300000000 ≤ x - 62135596800) (h1 : x - 62135596800 ≤ 9300000000) : Calls Tryz.prog 200 #[tA x n z o] w fun e w' => e = .returned (.int .i64 (x - 62135596800)) ∧ Below w.heap.size w w' := by
  go_enter Tryz.func200, Tryz.ntmps200
  go_wp2_with fail
  refine (sec_any x n o z _).mono ?_
  rintro e w1 ⟨rfl, hb⟩
  have HB := Lib.hid (((Below.refl _ w).alloc (Nat.le_refl _) (.cells #[.int .i64 x, .int .i32 n, .string z, .int .i64 o] 112)).trans (hb.mono (by simp)))
  clear hb
  go_wp2_with fail
  go_ret
  exact ⟨rfl, HB.out⟩

abbrev Tst (w w' : World) (x n : Int) (z : ByteArray) (o : Int) (B : Nat) : Prop :=
  Hid (Below w.heap.size w w') ∧ w.heap.size ≤ w'.heap.size ∧ B < w'.heap.size ∧ w'.cell? ⟨B, 0, none⟩ = some (.int .i64 x) ∧ w'.cell? ⟨B, 1, none⟩ = some (.int .i32 n) ∧ w'.cell? ⟨B, 2, none⟩ = some (.string z) ∧ w'.cell? ⟨B, 3, none⟩ = some (.int .i64 o)
theorem tst_keep {w W W' : World} {x n : Int} {z : ByteArray} {o : Int} {B : Nat} (hb : Below W.heap.size W W') (k : Tst w W x n z o B) : Tst w W' x n z o B := by
  obtain ⟨k1, k2, k3, c0, c1, c2, c3⟩ := k
  have hs := hb.size
  have hc : ∀ b o, b < W.heap.size → W'.cell? ⟨b, o, none⟩ = W.cell? ⟨b, o, none⟩ := fun b o h => hb.cell (p := ⟨b, o, none⟩) h
  exact ⟨Lib.hid (k1.out.trans (hb.mono k2)), by omega, by omega, (hc _ _ k3).trans c0, (hc _ _ k3).trans c1, (hc _ _ k3).trans c2, (hc _ _ k3).trans c3⟩
theorem tst_new : Tst w (w.alloc (.cells #[.int .i64 x, .int .i32 n, .string z, .int .i64 o] 112)) x n z o w.heap.size := by
  have hB := Blk.new w 112 #[.int .i64 x, .int .i32 n, .string z, .int .i64 o]
  exact ⟨Lib.hid ((Below.refl _ _).alloc (Nat.le_refl _) _), by simp, by simp, hB.cell 0, hB.cell 1, hB.cell 2, hB.cell 3⟩
theorem tst_drew {w W : World} {x n : Int} {z : ByteArray} {o : Int} {B : Nat} (k : Tst w W x n z o B) : Tst w W.drew x n z o B := by
  obtain ⟨k1, k2, k3, c0, c1, c2, c3⟩ := k
  exact ⟨Lib.hid k1.out.drew, by simpa using k2, by simpa using k3, c0, c1, c2, c3⟩

set_option maxHeartbeats 1000000 in
theorem locabs_any (h0 : -9300000000 ≤ x - 62135596800) (h1 : x - 62135596800 ≤ 9300000000) (ho0 : -86400 < o) (ho1 : o < 86400) :
    Calls Tryz.prog 217 #[tA x n z o] w fun e w' => e = .returned (.tuple #[.string z, .int .i64 o, .int .u64 (x - 62135596800 + o + 9223372028741760000)]) ∧ Below w.heap.size w w' := by
  go_enter Tryz.func217, Tryz.ntmps217
  go_wp2_with fail
  have HK := Lib.hid (tst_drew (tst_new x n o z w))
  generalize w.alloc _ = w1 at HK ⊢
  have h200 := unixSec_any x n o z
  have H200 := Lib.hid h200
  clear h200
  go_region_held3 (fun w' => Tst w w' x n z o w.heap.size) (first | exact HK.out | (go_split_ands; exact tst_keep hb ⟨by assumption, by assumption, by assumption, by assumption, by assumption, by assumption, by assumption⟩)) (first | (go_at_call 200; (with_reducible refine (H200.out _ h0 h1).mono ?_); rintro e w' ⟨rfl, hb⟩))
  all_goals
    go_split_ands
    have hfin : Below w.heap.size w _ := Hid.out (by assumption)
    have HF := Lib.hid hfin
    clear hfin
    go_wp2_with fail
    go_ret3
    refine ⟨ret_eq ?_, HF.out⟩
    simp
    rw [IntWalk.i64_in (x - 62135596800 + o) (by omega), IntKind.wrap_i64, IntKind.wrap_u64]
    omega

set_option maxHeartbeats 1000000 in
theorem unixNano_any (N : Int) (hN0 : -9223372036854775808 ≤ N) (hN1 : N ≤ 9223372036854775807) :
    Calls Tryz.prog 187 #[.agg (tmA N z o)] w fun e w' => e = .returned (.int .i64 N) ∧ Below w.heap.size w w' := by
  unfold tmA
  have hx : ∃ x, N / 1000000000 + 62135596800 = x := ⟨_, rfl⟩
  obtain ⟨x, hx⟩ := hx
  have hn : ∃ n, N % 1000000000 = n := ⟨_, rfl⟩
  obtain ⟨n, hn⟩ := hn
  rw [hx, hn]
  have h0 : -9300000000 ≤ x - 62135596800 := by omega
  have h1 : x - 62135596800 ≤ 9300000000 := by omega
  have HX := Lib.hid (show N = (x - 62135596800) * 1000000000 + n by omega)
  have n0 : 0 ≤ n := by omega
  have n1 : n ≤ 999999999 := by omega
  clear hx hn
  go_enter Tryz.func187, Tryz.ntmps187
  go_wp2_with fail
  have HK := Lib.hid (tst_drew (tst_new x n o z w))
  generalize w.alloc _ = w1 at HK ⊢
  have h200 := unixSec_any x n o z
  have H200 := Lib.hid h200
  have h201 := nsec_any x n o z
  have H201 := Lib.hid h201
  clear h200 h201
  go_region_held3 (fun w' => Tst w w' x n z o w.heap.size) (first | exact HK.out | (go_split_ands; exact tst_keep hb ⟨by assumption, by assumption, by assumption, by assumption, by assumption, by assumption, by assumption⟩)) (first | (go_at_call 200; (with_reducible refine (H200.out _ h0 h1).mono ?_); rintro e w' ⟨rfl, hb⟩) | (go_at_call 201; (with_reducible refine (H201.out _).mono ?_); rintro e w' ⟨rfl, hb⟩))
  all_goals
    go_split_ands
    have hfin : Below w.heap.size w _ := Hid.out (by assumption)
    have HF := Lib.hid hfin
    clear hfin
    go_wp2_with fail
    go_ret
    refine ⟨ret_eq ?_, HF.out⟩
    rw [HX.out]
    apply int_eq
    simp only [IntKind.wrap_i64]
    have hN := HX.out
    omega
end

theorem frac35 (w : World) : Calls Tryz.prog 222 #[.int .i64 35, .int .i64 9, .int .i64 46] w fun e w' => e = .returned (.int .i64 589859) ∧ w' = w := by
  go_enter Tryz.func222, Tryz.ntmps222
  go_wp2
  go_ret
  exact ⟨ret_eq (int_eq (by decide +kernel)), rfl⟩
theorem frac34 (w : World) : Calls Tryz.prog 222 #[.int .i64 34, .int .i64 3, .int .i64 46] w fun e w' => e = .returned (.int .i64 196642) ∧ w' = w := by
  go_enter Tryz.func222, Tryz.ntmps222
  go_wp2
  go_ret
  exact ⟨ret_eq (int_eq (by decide +kernel)), rfl⟩
theorem dl35 (w : World) : Calls Tryz.prog 237 #[.int .i64 589859] w fun e w' => e = .returned (.int .i64 9) ∧ w' = w := by
  go_enter Tryz.func237, Tryz.ntmps237
  go_wp2
  go_ret
  exact ⟨ret_eq (int_eq (by decide +kernel)), rfl⟩
theorem dl34 (w : World) : Calls Tryz.prog 237 #[.int .i64 196642] w fun e w' => e = .returned (.int .i64 3) ∧ w' = w := by
  go_enter Tryz.func237, Tryz.ntmps237
  go_wp2
  go_ret
  exact ⟨ret_eq (int_eq (by decide +kernel)), rfl⟩
theorem sep35 (w : World) : Calls Tryz.prog 238 #[.int .i64 589859] w fun e w' => e = .returned (.int .u8 46) ∧ w' = w := by
  go_enter Tryz.func238, Tryz.ntmps238
  go_wp2
  go_ret
  exact ⟨rfl, rfl⟩
theorem sep34 (w : World) : Calls Tryz.prog 238 #[.int .i64 196642] w fun e w' => e = .returned (.int .u8 46) ∧ w' = w := by
  go_enter Tryz.func238, Tryz.ntmps238
  go_wp2
  go_ret
  exact ⟨rfl, rfl⟩

def slLen (v : Value) : Nat := match v with | .slice _ n _ => n | _ => 0
theorem snoc_of' {l : List UInt8} (h : l ≠ []) : ∃ m c, l = m ++ [c] := by
  rcases List.eq_nil_or_concat l with rfl | ⟨m, c, rfl⟩
  · exact absurd rfl h
  · exact ⟨m, c, by simp⟩

theorem Own.cut {w : World} {base : Nat} {a : Option Addr} {k cap : Nat} {l m : List UInt8} (h : Own w base (.slice a k cap) l) (hp : m <+: l) (hm : 1 ≤ m.length) : Own w base (.slice a m.length cap) m := by
  obtain ⟨t, rfl⟩ := hp
  refine ⟨by rw [bytesV_length, Nat.mul_one], ?_⟩
  rcases h.2 with ⟨_, h0⟩ | ⟨g, cap', cur, hv, hb, hh, hle, hmx, hcs, htk⟩
  · rw [List.length_append] at h0; omega
  · injection hv with e1 e2 e3
    subst e1 e3
    refine .inr ⟨g, cap, cur, rfl, hb, hh, by rw [List.length_append] at hle; omega, hmx, hcs, ?_⟩
    have := congrArg (List.take m.length) htk
    rw [List.take_take, bytesV_append, List.take_left' (by rw [bytesV_length])] at this
    rw [Nat.mul_one, ← this, List.length_append]
    congr 1
    omega

theorem Own.nn {w : World} {base : Nat} {v : Value} {l : List UInt8} (h : Own w base v l) (hl : 1 ≤ l.length) : ∃ g cap, v = .slice (some ⟨g, 0, none⟩) l.length cap ∧ base ≤ g ∧ l.length ≤ cap ∧ cap ≤ 9223372036854775807 ∧ ∀ k u, (bytesV l)[k]? = some u → w.cell? ⟨g, k, none⟩ = some u := by
  rcases h.2 with ⟨_, h0⟩ | ⟨g, cap, cur, rfl, hb, hh, hle, hmx, hcs, htk⟩
  · omega
  · refine ⟨g, cap, rfl, hb, hle, hmx, fun k u hu => ?_⟩
    have h2 := h.cells (g := g) rfl k u hu
    have : (⟨g, 0, none⟩ : Addr).add k = ⟨g, k, none⟩ := by unfold Addr.add; split <;> simp_all
    rwa [this] at h2

theorem bytesV_last (m : List UInt8) (c : UInt8) : (bytesV (m ++ [c]))[m.length]? = some (.int .u8 c.toNat) := by
  rw [bytesV_append, List.getElem?_append_right (by rw [bytesV_length]; exact Nat.le_refl _), bytesV_length, Nat.sub_self]
  rfl

set_option maxHeartbeats 2000000 in
set_option maxRecDepth 100000 in
theorem nanoT0 (v : Value) (w : World) : Calls Tryz.prog 223 #[v, .int .i64 0, .int .i64 589859] w fun e w' => e = .returned v ∧ w' = w := by
  have hb : (bits .and .i64 589859 65535 == 35) = true := by decide +kernel
  go_enter Tryz.func223, Tryz.ntmps223
  go_wp2_with (first | (go_at_call 237; refine (dl35 _).mono ?_; rintro e w' ⟨rfl, rfl⟩))
  go_ret
  exact ⟨rfl, rfl⟩

set_option maxHeartbeats 2000000 in
set_option maxRecDepth 100000 in
theorem nanoT (base : Nat) (v : Value) (l : List UInt8) (n : Nat) (hn0 : 0 < n) (hn : n ≤ 999999999) (w : World) (hown : Own w base v l) (hbase : base ≤ w.heap.size) (hl : l.length ≤ 90000) :
    Calls Tryz.prog 223 #[v, .int .i64 n, .int .i64 589859] w fun e w' => ∃ v', e = .returned v' ∧ Own w' base v' (l ++ 46 :: trim0 (digs 9 n)) ∧ BK base w w' := by
  have hb : (bits .and .i64 589859 65535 == 35) = true := by decide +kernel
  have hnz : ((n : Int) == 0) = false := by simp; omega
  have HO := Lib.hid hown
  clear hown
  go_enter Tryz.func223, Tryz.ntmps223
  go_wp2_with (first | (go_at_call 237; refine (dl35 _).mono ?_; rintro e w' ⟨rfl, rfl⟩) | (go_at_call 238; refine (sep35 _).mono ?_; rintro e w' ⟨rfl, rfl⟩) | (at_builtin; refine wpList_app rfl _ _ rfl base _ l rfl HO.out _ [46] rfl 1 rfl rfl (by omega) (by omega) ?_; intro v1 w1 ho1 hb1; have H1 := Lib.hid ho1; have HB1 := Lib.hid hb1; have hs1 := hb1.size; clear ho1 hb1))
  refine (ai9 base v1 (l ++ [46]) n hn w1 H1.out (by omega) (by simp; omega) (by simp)).mono ?_
  rintro e w2 ⟨v2, rfl, ho2, hb2⟩
  have H2 := Lib.hid ho2
  have HB2 := Lib.hid (HB1.out.trans hb2)
  have hl2 : (l ++ [46] ++ digs 9 n).length ≤ 100000 := by simp [digs_len]; omega
  clear ho2 hb2 H1
  go_wp2_with fail
  have htn := digs_trim 9 n hn0 (by omega)
  have htp : trim0 (l ++ [46] ++ digs 9 n) = l ++ [46] ++ trim0 (digs 9 n) := trim0_prefix _ _ htn
  have HTP := Lib.hid htp
  have HTN := Lib.hid htn
  clear htn htp
  go_loop [0] (fun dv => ∃ l' : List UInt8, Hid (Own w2 base dv l') ∧ Hid (trim0 l' = l ++ [46] ++ trim0 (digs 9 n)) ∧ l'.length ≤ 100000) (fun dv => slLen dv)
  case atStart => exact ⟨_, H2, Lib.hid HTP.out, hl2⟩
  case round =>
    obtain ⟨l', ho, ht, hll⟩ := hrel
    obtain ⟨m, c, rfl⟩ := snoc_of (l := l') (by rw [ht.out]; simp)
    obtain ⟨g, cap, rfl, hg, hle, hcm, hcl⟩ := ho.out.nn (by simp)
    have hcell := hcl m.length _ (bytesV_last m c)
    have elen : (m ++ [c]).length = m.length + 1 := by simp
    rw [elen] at ho hle hll ⊢
    clear hcl elen
    by_cases hc : c = 48
    · have hc1 : ((c.toNat : Int) == 48) = true := by rw [hc]; rfl
      have hm1 : 1 ≤ m.length := by
        have h2 := ht.out
        rw [hc, trim0_zero] at h2
        have h3 := trim0_le m
        rw [h2] at h3
        simp at h3
        omega
      have hown2 : Own w2 base (.slice (some ⟨g, 0, none⟩) m.length cap) m := ho.out.cut ⟨[c], rfl⟩ hm1
      have HW := Lib.hid hown2
      have HT2 := Lib.hid (show trim0 m = l ++ [46] ++ trim0 (digs 9 n) by rw [← ht.out, hc, trim0_zero])
      clear hown2 hc ht ho
      go_wp2_with fail
      go_round
      case rel => exact ⟨m, HW, HT2, by omega⟩
      case measure => simp [slLen]
    · have hc1 : ((c.toNat : Int) == 48) = false := by
        apply beq_eq_false_iff_ne.2
        intro h; exact hc (UInt8.toNat_inj.1 (by show c.toNat = 48; omega))
      have hfin : m ++ [c] = l ++ [46] ++ trim0 (digs 9 n) := by rw [← ht.out, trim0_stop m c hc]
      have hmem : c ∈ digs 9 n := by
        obtain ⟨m2, c2, h2⟩ := snoc_of' HTN.out
        have h3 := hfin
        rw [h2, ← List.append_assoc] at h3
        have h4 := List.append_inj_right' h3 rfl
        injection h4 with h4
        subst h4
        exact trim0_mem (by rw [h2]; simp)
      have hdp := digs_plain 9 n c hmem
      have hc2 : ((c.toNat : Int) == 46) = false := by
        apply beq_eq_false_iff_ne.2; omega
      have HFN := Lib.hid hfin
      clear hfin hmem hc ht
      go_wp2_with fail
      go_ret
      refine ⟨_, rfl, ?_, HB2.out⟩
      have h5 := ho.out
      rw [HFN.out] at h5
      rw [show l ++ 46 :: trim0 (digs 9 n) = l ++ [46] ++ trim0 (digs 9 n) by simp]
      exact h5

set_option maxHeartbeats 2000000 in
set_option maxRecDepth 100000 in
theorem nanoF (base : Nat) (v : Value) (l : List UInt8) (n : Nat) (hn : n ≤ 999999999) (w : World) (hown : Own w base v l) (hbase : base ≤ w.heap.size) (hl : l.length ≤ 90000) :
    Calls Tryz.prog 223 #[v, .int .i64 n, .int .i64 196642] w fun e w' => ∃ v', e = .returned v' ∧ Own w' base v' (l ++ 46 :: digs 3 (n / 1000000)) ∧ BK base w w' := by
  have hb : (bits .and .i64 196642 65535 == 35) = false := by decide +kernel
  have HO := Lib.hid hown
  clear hown
  go_enter Tryz.func223, Tryz.ntmps223
  go_wp2_with (first | (go_at_call 237; refine (dl34 _).mono ?_; rintro e w' ⟨rfl, rfl⟩) | (go_at_call 238; refine (sep34 _).mono ?_; rintro e w' ⟨rfl, rfl⟩) | (at_builtin; refine wpList_app rfl _ _ rfl base _ l rfl HO.out _ [46] rfl 1 rfl rfl (by omega) (by omega) ?_; intro v1 w1 ho1 hb1; have H1 := Lib.hid ho1; have HB1 := Lib.hid hb1; have hs1 := hb1.size; clear ho1 hb1))
  refine (ai9 base v1 (l ++ [46]) n hn w1 H1.out (by omega) (by simp; omega) (by simp)).mono ?_
  rintro e w2 ⟨v2, rfl, ho2, hb2⟩
  have HB2 := Lib.hid (HB1.out.trans hb2)
  obtain ⟨g, cap, rfl, hg, hle, hcm, _⟩ := ho2.nn (by simp; omega)
  have hpre : (l ++ 46 :: digs 3 (n / 1000000)) <+: (l ++ [46] ++ digs 9 n) := by
    refine ⟨[UInt8.ofNat (48 + n / 10 / 10 / 10 / 10 / 10 % 10), UInt8.ofNat (48 + n / 10 / 10 / 10 / 10 % 10), UInt8.ofNat (48 + n / 10 / 10 / 10 % 10), UInt8.ofNat (48 + n / 10 / 10 % 10), UInt8.ofNat (48 + n / 10 % 10), UInt8.ofNat (48 + n % 10)], ?_⟩
    have e1 : digs 9 n = digs 3 (n / 10 / 10 / 10 / 10 / 10 / 10) ++ [UInt8.ofNat (48 + n / 10 / 10 / 10 / 10 / 10 % 10), UInt8.ofNat (48 + n / 10 / 10 / 10 / 10 % 10), UInt8.ofNat (48 + n / 10 / 10 / 10 % 10), UInt8.ofNat (48 + n / 10 / 10 % 10), UInt8.ofNat (48 + n / 10 % 10), UInt8.ofNat (48 + n % 10)] := rfl
    rw [e1, show n / 10 / 10 / 10 / 10 / 10 / 10 = n / 1000000 by omega]
    simp
  have el : (l ++ [46] ++ digs 9 n).length = l.length + 10 := by simp [digs_len]
  have el2 : (l ++ 46 :: digs 3 (n / 1000000)).length = l.length + 4 := by simp [digs_len]
  have hcut := ho2.cut hpre (by rw [el2]; omega)
  rw [el2] at hcut
  rw [el] at hle ⊢
  have HC := Lib.hid hcut
  clear hcut ho2 hb2 H1 el hpre el2
  go_wp2_with fail
  all_goals
    go_ret
    refine ⟨_, rfl, ?_, HB2.out⟩
    have h5 := HC.out
    rw [show l.length + 4 = l.length + 10 - 9 + 3 by omega] at h5
    exact h5
end Go.Proofs.Zap
