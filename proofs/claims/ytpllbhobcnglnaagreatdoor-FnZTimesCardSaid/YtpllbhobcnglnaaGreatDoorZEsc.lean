/- a text of the claims over the seat; its order and aim: NOTES.md -/
import Derived.Test.YtpllbhobcnglnaaGreatDoorZText
namespace Go.Proofs.Zap
open Go

/-- o is what was written of S: all ahead of place 'last'; the bytes from 'last' to i stand for themselves -/
def Rel (S o : List UInt8) (i last : Nat) : Prop := last ≤ i ∧ i ≤ S.length ∧ o ++ ((S.drop last).take (i - last) ++ esc (S.drop i)) = esc S

theorem Rel.start (S : List UInt8) : Rel S [] 0 0 := ⟨Nat.le_refl _, Nat.zero_le _, by simp⟩

theorem Rel.len {S o : List UInt8} {i last : Nat} (h : Rel S o i last) : o.length + (i - last) ≤ 6 * S.length := by
  obtain ⟨h1, h2, h3⟩ := h
  have := congrArg List.length h3
  have he := esc_len S.length S (Nat.le_refl _)
  simp only [List.length_append, List.length_drop, List.length_take] at this
  omega

theorem Rel.done {S o : List UInt8} {last : Nat} (h : Rel S o S.length last) : o ++ S.drop last = esc S := by
  obtain ⟨h1, h2, h3⟩ := h
  rw [List.drop_length, esc, List.append_nil, List.take_of_length_le (by simp)] at h3
  exact h3

theorem take_drop_more (S : List UInt8) (i last n : Nat) (h1 : last ≤ i) :
    (S.drop last).take (i + n - last) = (S.drop last).take (i - last) ++ (S.drop i).take n := by
  rw [show i + n - last = (i - last) + n by omega, List.take_add, List.drop_drop, show last + (i - last) = i by omega]

theorem Rel.skip {S o : List UInt8} {i last n : Nat} (h : Rel S o i last) (h1 : 1 ≤ n) (h2 : i + n ≤ S.length)
    (he : esc (S.drop i) = (S.drop i).take n ++ esc (S.drop (i + n))) : Rel S o (i + n) last := by
  obtain ⟨a, b, c⟩ := h
  refine ⟨by omega, h2, ?_⟩
  rw [take_drop_more S i last n a, ← c, he, List.append_assoc]

theorem Rel.flush {S o : List UInt8} {i last : Nat} {x : List UInt8} (h : Rel S o i last) (h2 : i + 1 ≤ S.length)
    (he : esc (S.drop i) = x ++ esc (S.drop (i + 1))) : Rel S (o ++ (S.drop last).take (i - last) ++ x) (i + 1) (i + 1) := by
  obtain ⟨a, b, c⟩ := h
  refine ⟨Nat.le_refl _, h2, ?_⟩
  rw [← c, he]
  simp

theorem drop_cons (S : List UInt8) (i : Nat) (h : i < S.length) : S.drop i = S[i] :: S.drop (i + 1) := List.drop_eq_getElem_cons h

theorem esc_good {S : List UInt8} {i : Nat} (h : i < S.length) (h128 : 128 ≤ S[i].toNat) (hg : good (S.drop i) = true) :
    esc (S.drop i) = (S.drop i).take (dec (S.drop i)).2 ++ esc (S.drop (i + (dec (S.drop i)).2)) := by
  rw [← List.drop_drop]
  rw [drop_cons S i h] at hg ⊢
  rw [esc, if_pos h128, if_pos hg]

theorem esc_bad {S : List UInt8} {i : Nat} (h : i < S.length) (h128 : 128 ≤ S[i].toNat) (hg : good (S.drop i) = false) :
    esc (S.drop i) = [92, 117, 102, 102, 102, 100] ++ esc (S.drop (i + 1)) := by
  rw [drop_cons S i h] at hg
  rw [drop_cons S i h, esc, if_pos h128, if_neg (by rw [hg]; decide)]

theorem esc_plain {S : List UInt8} {i : Nat} (h : i < S.length) (h128 : S[i].toNat < 128) (hp : plainB S[i] = true) :
    esc (S.drop i) = (S.drop i).take 1 ++ esc (S.drop (i + 1)) := by
  rw [drop_cons S i h, esc, if_neg (by omega), if_pos hp]; rfl

theorem esc_escB {S : List UInt8} {i : Nat} (h : i < S.length) (h128 : S[i].toNat < 128) (hp : plainB S[i] = false) :
    esc (S.drop i) = escByte S[i] ++ esc (S.drop (i + 1)) := by
  rw [drop_cons S i h, esc, if_neg (by omega), if_neg (by simp [hp])]

theorem good_eq (l : List UInt8) : good l = !((dec l).1 == 65533 && (dec l).2 == 1) := rfl
end Go.Proofs.Zap
