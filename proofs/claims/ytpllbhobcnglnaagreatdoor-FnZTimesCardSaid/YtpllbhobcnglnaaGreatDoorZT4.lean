/- a text of the claims over the seat; its order and aim: NOTES.md -/
import Derived.Test.YtpllbhobcnglnaaGreatDoorZT3
import Derived.Test.YtpllbhobcnglnaaGreatDoorZBase
import Derived.ShutString
import Derived.Lib.AppendIntMem
namespace Go.Proofs.Zap
open Go Go.Proofs Go.RowKit

/-- a list of bytes as a string -/
abbrev str (l : List UInt8) : ByteArray := ⟨l.toArray⟩
theorem str_size (l : List UInt8) : (str l).size = l.length := by change l.toArray.size = _; simp
theorem str_append (a b : List UInt8) : str a ++ str b = str (a ++ b) := by
  apply ByteArray.ext; simp [ByteArray.data_append]

/-- at least so many digits -/
def pad (k : Nat) (l : List UInt8) : List UInt8 := List.replicate (k - l.length) 48 ++ l

theorem pad_step (k : Nat) (l : List UInt8) (h : l.length < k) : pad k (48 :: l) = pad k l := by
  unfold pad
  rw [List.length_cons, show k - l.length = (k - (l.length + 1)) + 1 by omega, List.replicate_succ', List.append_assoc]
  rfl
theorem pad_done (k : Nat) (l : List UInt8) (h : k ≤ l.length) : pad k l = l := by
  unfold pad; rw [show k - l.length = 0 by omega]; rfl

/-- the last k decimal digits -/
def digs : Nat → Nat → List UInt8
  | 0, _ => []
  | k + 1, n => digs k (n / 10) ++ [UInt8.ofNat (48 + n % 10)]
theorem digs_len : ∀ (k n : Nat), (digs k n).length = k
  | 0, _ => rfl
  | k + 1, n => by rw [digs, List.length_append, digs_len k]; rfl
theorem digs_zero : ∀ k : Nat, digs k 0 = List.replicate k 48
  | 0 => rfl
  | k + 1 => by rw [digs, Nat.zero_div, digs_zero k, List.replicate_succ']; rfl
theorem digs_plain : ∀ (k n : Nat), ∀ b ∈ digs k n, 48 ≤ b.toNat ∧ b.toNat ≤ 57
  | 0, _ => fun b hb => by cases hb
  | k + 1, n => fun b hb => by
    rw [digs, List.mem_append] at hb
    rcases hb with hb | hb
    · exact digs_plain k _ b hb
    · rw [List.mem_singleton] at hb
      subst hb
      rw [UInt8.toNat_ofNat']
      omega
theorem pad_snoc (k : Nat) (l : List UInt8) (x : UInt8) : pad (k + 1) (l ++ [x]) = pad k l ++ [x] := by
  unfold pad
  rw [List.length_append, List.length_singleton, show k + 1 - (l.length + 1) = k - l.length by omega, List.append_assoc]
theorem pad_digs : ∀ (k n : Nat), n < 10 ^ (k + 1) → pad (k + 1) (Lib.decDigits n) = digs (k + 1) n
  | 0, n => fun h => by
    have h10 : n < 10 := by simpa using h
    rw [Lib.decDigits_one h10, digs, digs, Nat.mod_eq_of_lt h10]; rfl
  | k + 1, n => fun h => by
    by_cases h10 : n < 10
    · rw [Lib.decDigits_one h10, digs, Nat.div_eq_of_lt h10, digs_zero, Nat.mod_eq_of_lt h10]; rfl
    · rw [Lib.decDigits, dif_neg h10, pad_snoc, digs, pad_digs k (n / 10) (by
        have : 10 ^ (k + 1 + 1) = 10 ^ (k + 1) * 10 := Nat.pow_succ ..
        omega)]
theorem dec_len (k n : Nat) (h : n < 10 ^ (k + 1)) : (Lib.decDigits n).length ≤ k + 1 := by
  have := congrArg List.length (pad_digs k n h)
  rw [digs_len] at this
  unfold pad at this
  rw [List.length_append] at this
  omega
theorem itoa_nat (n : Nat) : Lib.itoa n = Lib.decDigits n := by
  unfold Lib.itoa; rw [if_neg (by omega)]; simp

set_option maxHeartbeats 400000 in
theorem itoa_any (n : Int) (h0 : -9223372036854775808 ≤ n) (h1 : n ≤ 9223372036854775807) (w : World) (hT : Tabs w) (_h13 : 13 ≤ w.heap.size) :
    Calls Tryz.prog 115 #[.int .i64 n] w fun e w' => e = .returned (.string (str (Lib.itoa n))) ∧ Below w.heap.size w w' := by
  refine (Tryz.strconv_Itoa n h0 h1 w hT.2).mono ?_
  rintro e w' ⟨rfl, k, os, rfl⟩
  exact ⟨rfl, Lib.below_grow _ _ (Nat.le_refl _) _ _⟩

def strSize (v : Value) : Nat := match v with | .string s => s.size | _ => 0

set_option maxHeartbeats 800000 in
theorem padded_any (n : Int) (k : Nat) (hk : k ≤ 100) (h0 : -9223372036854775808 ≤ n) (h1 : n ≤ 9223372036854775807) (hl : (Lib.itoa n).length ≤ 100) (w : World) (hT : Tabs w) (h13 : 13 ≤ w.heap.size) :
    Calls Tryz.prog 67 #[.int .i64 n, .int .i64 k] w fun e w' => e = .returned (.string (str (pad k (Lib.itoa n)))) ∧ Below w.heap.size w w' := by
  go_enter Tryz.func67, Tryz.ntmps67
  go_wp2_with fail
  refine (itoa_any n h0 h1 _ hT h13).mono ?_
  rintro e w1 ⟨rfl, hb⟩
  have HB := Lib.hid hb
  clear hb
  go_wp2_with fail
  go_loop [5] (fun s => ∃ l : List UInt8, s = .string (str l) ∧ Hid (pad k l = pad k (Lib.itoa n)) ∧ l.length ≤ 200) (fun s => k - strSize s)
  case atStart => exact ⟨_, rfl, Lib.hid rfl, by omega⟩
  case round =>
    obtain ⟨l, rfl, hp, hll⟩ := hrel
    have hsz := str_size l
    have HS := Lib.hid hsz
    clear hsz
    by_cases hc : l.length < k
    · have hc2 : (str l).size < k := by rw [HS.out]; exact hc
      go_wp2_with fail
      refine ⟨⟨48 :: l, by rw [show (48 :: l) = [48] ++ l from rfl, ← str_append], Lib.hid (by rw [pad_step _ _ hc]; exact hp.out), by simp; omega⟩, ?_⟩
      have e : (⟨#[48]⟩ : ByteArray) ++ str l = str (48 :: l) := by rw [show (48 :: l) = [48] ++ l from rfl, ← str_append]
      rw [e]
      show k - (str (48 :: l)).size < k - (str l).size
      rw [str_size, str_size, List.length_cons]; omega
    · have hc2 : k ≤ (str l).size := by rw [HS.out]; omega
      go_wp2_with fail
      go_ret
      exact ⟨by rw [← hp.out, pad_done _ _ (by omega)]; rfl, HB.out⟩

theorem paddedN (n k : Nat) (hk : k ≤ 20) (h : n < 10 ^ (k + 1)) (hn : n ≤ 9223372036854775807) (w : World) (hT : Tabs w) (h13 : 13 ≤ w.heap.size) :
    Calls Tryz.prog 67 #[.int .i64 n, .int .i64 ((k + 1 : Nat) : Int)] w fun e w' => e = .returned (.string (str (digs (k + 1) n))) ∧ Below w.heap.size w w' := by
  have := padded_any n (k + 1) (by omega) (by omega) (by omega) (by rw [itoa_nat]; have := dec_len k n h; omega) w hT h13
  rwa [itoa_nat, pad_digs k n h] at this
theorem paddedI (x K : Int) (n k : Nat) (hx : x = n) (hK : K = (k : Int) + 1) (hk : k ≤ 20) (h : n < 10 ^ (k + 1)) (hn : n ≤ 9223372036854775807) (w : World) (hT : Tabs w) (h13 : 13 ≤ w.heap.size) :
    Calls Tryz.prog 67 #[.int .i64 x, .int .i64 K] w fun e w' => e = .returned (.string (str (digs (k + 1) n))) ∧ Below w.heap.size w w' := by
  subst hx hK
  exact paddedN n k hk h hn w hT h13
end Go.Proofs.Zap
