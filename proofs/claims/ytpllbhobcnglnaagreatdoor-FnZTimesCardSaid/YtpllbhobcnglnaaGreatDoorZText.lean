/- a text of the claims over the seat; its order and aim: NOTES.md -/
import Derived.Lib.DecodeN
import Derived.Lib.RuneBytes
namespace Go.Proofs.Zap
open Go

/-- the rune at the head of bytes, and how many bytes it has -/
def dec (l : List UInt8) : Nat × Nat := Lib.decodeN l.length (l.getD 0 0).toNat (l.getD 1 0).toNat (l.getD 2 0).toNat (l.getD 3 0).toNat

theorem decodeN_pos (n b0 b1 b2 b3 : Nat) : 1 ≤ (Lib.decodeN n b0 b1 b2 b3).2 := by
  unfold Lib.decodeN; repeat' split
  all_goals simp

theorem decodeN_le (n b0 b1 b2 b3 : Nat) (h : 1 ≤ n) : (Lib.decodeN n b0 b1 b2 b3).2 ≤ n := by
  unfold Lib.decodeN; repeat' split
  all_goals simp; try omega

theorem dec_pos (l : List UInt8) : 1 ≤ (dec l).2 := decodeN_pos _ _ _ _ _
theorem dec_le {l : List UInt8} (h : l ≠ []) : (dec l).2 ≤ l.length := decodeN_le _ _ _ _ _ (by cases l <;> simp_all)

/-- a rune is written so: not the mark of bytes that are none -/
def good (l : List UInt8) : Bool := !((dec l).1 == 65533 && (dec l).2 == 1)

theorem dec_ascii {b : UInt8} {t : List UInt8} (h : b.toNat < 128) : dec (b :: t) = (b.toNat, 1) := by
  unfold dec Lib.decodeN; simp [h]

theorem decodeN_bytes (n b0 b1 b2 b3 : Nat) (h : 128 ≤ b0) (hg : ¬ ((Lib.decodeN n b0 b1 b2 b3).1 = 65533 ∧ (Lib.decodeN n b0 b1 b2 b3).2 = 1)) :
    ((Lib.decodeN n b0 b1 b2 b3).2 = 2 ∧ 1 < n ∧ 128 ≤ b1 ∧ ∀ m c2 c3, 1 < m → Lib.decodeN m b0 b1 c2 c3 = Lib.decodeN n b0 b1 b2 b3) ∨
    ((Lib.decodeN n b0 b1 b2 b3).2 = 3 ∧ 2 < n ∧ 128 ≤ b1 ∧ 128 ≤ b2 ∧ ∀ m c3, 2 < m → Lib.decodeN m b0 b1 b2 c3 = Lib.decodeN n b0 b1 b2 b3) ∨
    ((Lib.decodeN n b0 b1 b2 b3).2 = 4 ∧ 3 < n ∧ 128 ≤ b1 ∧ 128 ≤ b2 ∧ 128 ≤ b3 ∧ ∀ m, 3 < m → Lib.decodeN m b0 b1 b2 b3 = Lib.decodeN n b0 b1 b2 b3) := by
  unfold Lib.decodeN at *
  rw [if_neg (by omega)] at *
  by_cases h2 : b0 / 32 = 6 ∧ 1 < n ∧ b1 / 64 = 2
  · rw [if_pos h2] at *
    split at hg
    · rename_i h3
      left
      refine ⟨by rw [if_pos h3], h2.2.1, by omega, fun m c2 c3 hm => ?_⟩
      rw [if_neg (by omega), if_pos ⟨h2.1, hm, h2.2.2⟩]
    · simp at hg
  · rw [if_neg h2] at *
    by_cases h3 : b0 / 16 = 14 ∧ (1 < n ∧ b1 / 64 = 2) ∧ (2 < n ∧ b2 / 64 = 2)
    · rw [if_pos h3] at *
      split at hg
      · rename_i h4
        right; left
        refine ⟨by rw [if_pos h4], h3.2.2.1, by omega, by omega, fun m c3 hm => ?_⟩
        rw [if_neg (by omega), if_neg (by omega), if_pos ⟨h3.1, ⟨by omega, h3.2.1.2⟩, ⟨hm, h3.2.2.2⟩⟩]
      · simp at hg
    · rw [if_neg h3] at *
      by_cases h4 : b0 / 8 = 30 ∧ (1 < n ∧ b1 / 64 = 2) ∧ (2 < n ∧ b2 / 64 = 2) ∧ (3 < n ∧ b3 / 64 = 2)
      · rw [if_pos h4] at *
        split at hg
        · rename_i h5
          right; right
          refine ⟨by rw [if_pos h5], h4.2.2.2.1, by omega, by omega, by omega, fun m hm => ?_⟩
          rw [if_neg (by omega), if_neg (by omega), if_neg (by omega), if_pos ⟨h4.1, ⟨by omega, h4.2.1.2⟩, ⟨by omega, h4.2.2.1.2⟩, ⟨hm, h4.2.2.2.2⟩⟩]
        · simp at hg
      · rw [if_neg h4] at hg; simp at hg

/-- a rune that is well written is read the same whatever stands behind it, and its bytes are no ASCII -/
theorem dec_prefix {b : UInt8} {t : List UInt8} (h : 128 ≤ b.toNat) (hg : good (b :: t) = true) (u : List UInt8) :
    dec ((b :: t).take (dec (b :: t)).2 ++ u) = dec (b :: t) ∧ (∀ c ∈ (b :: t).take (dec (b :: t)).2, 128 ≤ c.toNat) ∧ 2 ≤ (dec (b :: t)).2 ∧ (dec (b :: t)).2 ≤ (b :: t).length := by
  have hb := decodeN_bytes (b :: t).length b.toNat (t.getD 0 0).toNat (t.getD 1 0).toNat (t.getD 2 0).toNat h (by
    simp only [good, Bool.not_eq_true', Bool.and_eq_false_iff, beq_eq_false_iff_ne] at hg
    intro hh
    rcases hg with hg | hg
    · exact hg hh.1
    · exact hg hh.2)
  have e : dec (b :: t) = Lib.decodeN (b :: t).length b.toNat (t.getD 0 0).toNat (t.getD 1 0).toNat (t.getD 2 0).toNat := rfl
  rw [e]
  generalize hR : Lib.decodeN (b :: t).length b.toNat (t.getD 0 0).toNat (t.getD 1 0).toNat (t.getD 2 0).toNat = R at *
  rcases hb with ⟨h2, hn, k1, hm⟩ | ⟨h2, hn, k1, k2, hm⟩ | ⟨h2, hn, k1, k2, k3, hm⟩
  · obtain ⟨c1, t1, rfl⟩ : ∃ c1 t1, t = c1 :: t1 := by cases t with | nil => simp at hn | cons x y => exact ⟨_, _, rfl⟩
    rw [h2]
    simp at k1
    refine ⟨?_, by simp; omega, by omega, by omega⟩
    have := hm (2 + u.length) (u.getD 0 0).toNat (u.getD 1 0).toNat (by omega)
    rw [← this]
    simp [dec]
    congr 1; omega
  · obtain ⟨c1, c2, t1, rfl⟩ : ∃ c1 c2 t1, t = c1 :: c2 :: t1 := by
      match t, hn with
      | x :: y :: z, _ => exact ⟨_, _, _, rfl⟩
      | [x], hn => simp at hn
      | [], hn => simp at hn
    rw [h2]
    simp at k1 k2
    refine ⟨?_, by simp; omega, by omega, by omega⟩
    have := hm (3 + u.length) (u.getD 0 0).toNat (by omega)
    rw [← this]
    simp [dec]
    congr 1; omega
  · obtain ⟨c1, c2, c3, t1, rfl⟩ : ∃ c1 c2 c3 t1, t = c1 :: c2 :: c3 :: t1 := by
      match t, hn with
      | x :: y :: z :: r, _ => exact ⟨_, _, _, _, rfl⟩
      | [x, y], hn => simp at hn
      | [x], hn => simp at hn
      | [], hn => simp at hn
    rw [h2]
    simp at k1 k2 k3
    refine ⟨?_, by simp; omega, by omega, by omega⟩
    have := hm (4 + u.length) (by omega)
    rw [← this]
    simp [dec]
    congr 1; omega

/-! ### escaping, and reading what was escaped -/

def hexd (n : Nat) : UInt8 := if n < 10 then UInt8.ofNat (48 + n) else UInt8.ofNat (87 + n)

/-- one byte that does not stand for itself -/
def escByte (b : UInt8) : List UInt8 :=
  if b = 92 ∨ b = 34 then [92, b] else if b = 10 then [92, 110] else if b = 13 then [92, 114] else if b = 9 then [92, 116]
  else [92, 117, 48, 48, hexd (b.toNat / 16), hexd (b.toNat % 16)]

def plainB (b : UInt8) : Bool := decide (32 ≤ b.toNat) && b != 92 && b != 34

theorem drop_lt {α : Type} (b : α) (t : List α) (n : Nat) (h : 1 ≤ n) : ((b :: t).drop n).length < (b :: t).length := by
  simp; omega

def esc : List UInt8 → List UInt8
  | [] => []
  | b :: t =>
    if 128 ≤ b.toNat then
      if good (b :: t) = true then (b :: t).take (dec (b :: t)).2 ++ esc ((b :: t).drop (dec (b :: t)).2)
      else [92, 117, 102, 102, 102, 100] ++ esc t
    else if plainB b = true then b :: esc t else escByte b ++ esc t
termination_by l => l.length
decreasing_by
  · exact drop_lt _ _ _ (dec_pos _)
  · simp
  · simp
  · simp

/-- each byte that is no UTF-8 is told by the replacement character -/
def true8 : List UInt8 → List UInt8
  | [] => []
  | b :: t =>
    if good (b :: t) = true then (b :: t).take (dec (b :: t)).2 ++ true8 ((b :: t).drop (dec (b :: t)).2)
    else [239, 191, 189] ++ true8 t
termination_by l => l.length
decreasing_by
  · exact drop_lt _ _ _ (dec_pos _)
  · simp

/-- the value of a hexadecimal digit in small letters -/
def hexv (b : UInt8) : Option Nat := if 48 ≤ b.toNat ∧ b.toNat ≤ 57 then some (b.toNat - 48) else if 97 ≤ b.toNat ∧ b.toNat ≤ 102 then some (b.toNat - 87) else none

/-- what stands behind a backslash: the rune, and how many bytes; only what an escaper writes -/
def unesc : List UInt8 → Option (Nat × Nat)
  | [] => none
  | c :: t =>
    if c = 34 ∨ c = 92 then some (c.toNat, 1) else if c = 110 then some (10, 1) else if c = 114 then some (13, 1) else if c = 116 then some (9, 1)
    else if c = 117 then
      match t with
      | a :: b :: c :: d :: _ =>
        match hexv a, hexv b, hexv c, hexv d with
        | some a, some b, some c, some d =>
          if a * 4096 + b * 256 + c * 16 + d < 55296 ∨ 57343 < a * 4096 + b * 256 + c * 16 + d then some (a * 4096 + b * 256 + c * 16 + d, 5) else none
        | _, _, _, _ => none
      | _ => none
    else none

/-- a rune below 65536 that is no surrogate, as bytes -/
def runeB (r : Nat) : List UInt8 :=
  if r < 128 then [UInt8.ofNat r] else if r < 2048 then [UInt8.ofNat (192 + r / 64), UInt8.ofNat (128 + r % 64)]
  else [UInt8.ofNat (224 + r / 4096), UInt8.ofNat (128 + r / 64 % 64), UInt8.ofNat (128 + r % 64)]

/-- a text up to its quotation mark, and what stands behind it -/
def readT : List UInt8 → Option (List UInt8 × List UInt8)
  | [] => none
  | c :: t =>
    if c = 34 then some ([], t) else if c.toNat < 32 then none
    else if c = 92 then
      match unesc t with
      | none => none
      | some (r, k) => (readT (t.drop k)).map fun x => (runeB r ++ x.1, x.2)
    else if good (c :: t) = true then (readT ((c :: t).drop (dec (c :: t)).2)).map fun x => ((c :: t).take (dec (c :: t)).2 ++ x.1, x.2)
    else none
termination_by l => l.length
decreasing_by
  · simp; omega
  · exact drop_lt _ _ _ (dec_pos _)

theorem good_ascii {b : UInt8} {t : List UInt8} (h : b.toNat < 128) : good (b :: t) = true := by
  unfold good; rw [dec_ascii h]; simp; omega


theorem hexv_hexd : ∀ n : Fin 16, hexv (hexd n.val) = some n.val := by decide

theorem ne_of_toNat {b c : UInt8} (h : b.toNat ≠ c.toNat) : b ≠ c := fun e => h (by rw [e])

theorem esc_byte_read (b : UInt8) (h : b.toNat < 128) (hp : plainB b = false) (u : List UInt8) :
    ∃ e k, escByte b = 92 :: e ∧ unesc (e ++ u) = some (b.toNat, k) ∧ (e ++ u).drop k = u := by
  unfold escByte
  by_cases h1 : b = 92 ∨ b = 34
  · rw [if_pos h1]
    refine ⟨[b], 1, rfl, ?_, rfl⟩
    rcases h1 with rfl | rfl <;> rfl
  rw [if_neg h1]
  by_cases h2 : b = 10
  · subst h2; exact ⟨[110], 1, rfl, rfl, rfl⟩
  rw [if_neg h2]
  by_cases h3 : b = 13
  · subst h3; exact ⟨[114], 1, rfl, rfl, rfl⟩
  rw [if_neg h3]
  by_cases h4 : b = 9
  · subst h4; exact ⟨[116], 1, rfl, rfl, rfl⟩
  rw [if_neg h4]
  have e1 := hexv_hexd ⟨b.toNat / 16, by omega⟩
  have e2 := hexv_hexd ⟨b.toNat % 16, by omega⟩
  have e0 : hexv 48 = some 0 := by decide
  refine ⟨[117, 48, 48, hexd (b.toNat / 16), hexd (b.toNat % 16)], 5, rfl, ?_, rfl⟩
  simp only [List.cons_append, List.nil_append, unesc]
  rw [if_neg (by decide), if_neg (by decide), if_neg (by decide), if_neg (by decide), if_pos trivial]
  simp only at e1 e2
  simp only [e0, e1, e2]
  rw [if_pos (by omega)]
  simp; omega

theorem runeB_ascii {b : UInt8} (h : b.toNat < 128) : runeB b.toNat = [b] := by
  unfold runeB; rw [if_pos h]; simp

theorem runeB_bad : runeB 65533 = [239, 191, 189] := by
  unfold runeB; rw [if_neg (by omega), if_neg (by omega)]; decide

theorem unesc_bad (u : List UInt8) : unesc (117 :: 102 :: 102 :: 102 :: 100 :: u) = some (65533, 5) := by
  have e1 : hexv 102 = some 15 := by decide
  have e2 : hexv 100 = some 13 := by decide
  simp only [unesc]
  rw [if_neg (by decide), if_neg (by decide), if_neg (by decide), if_neg (by decide), if_pos trivial]
  simp only [e1, e2]
  rw [if_pos (by omega)]

/-- what was escaped is read as the text, each byte that is no UTF-8 told by the replacement character -/
theorem readT_esc : ∀ (n : Nat) (s : List UInt8), s.length ≤ n → ∀ u, readT (esc s ++ 34 :: u) = some (true8 s, u) := by
  intro n
  induction n with
  | zero =>
    intro s hs u
    have : s = [] := List.eq_nil_of_length_eq_zero (by omega)
    subst this
    rw [esc, true8, List.nil_append, readT, if_pos rfl]
  | succ n ih =>
    intro s hs u
    cases s with
    | nil => rw [esc, true8, List.nil_append, readT, if_pos rfl]
    | cons b t =>
      have hb := b.toNat_lt
      rw [esc, true8]
      by_cases h128 : 128 ≤ b.toNat
      · rw [if_pos h128]
        by_cases hg : good (b :: t) = true
        · rw [if_pos hg, if_pos hg]
          obtain ⟨hp, hall, h2, hle⟩ := dec_prefix h128 hg (esc ((b :: t).drop (dec (b :: t)).2) ++ 34 :: u)
          have hih := ih ((b :: t).drop (dec (b :: t)).2) (by simp only [List.length_drop]; omega) u
          generalize hk : (dec (b :: t)).2 = k at *
          obtain ⟨k', rfl⟩ : ∃ k', k = k' + 1 := ⟨k - 1, by omega⟩
          rw [List.append_assoc]
          simp only [List.take_succ_cons, List.cons_append] at hp hall ⊢
          rw [readT]
          have n34 : ¬ b = 34 := ne_of_toNat (by simp; omega)
          have n92 : ¬ b = 92 := ne_of_toNat (by simp; omega)
          have hgood : good (b :: (List.take k' t ++ (esc (List.drop (k' + 1) (b :: t)) ++ 34 :: u))) = true := by
            unfold good; rw [hp]; exact hg
          rw [if_neg n34, if_neg (by omega), if_neg n92, if_pos hgood, hp, hk]
          have hlen : (List.take k' t).length = k' := by simp only [List.length_take]; simp only [List.length_cons] at hle; omega
          have e1 : List.drop (k' + 1) (b :: (List.take k' t ++ (esc (List.drop (k' + 1) (b :: t)) ++ 34 :: u))) = esc (List.drop (k' + 1) (b :: t)) ++ 34 :: u := by
            rw [List.drop_succ_cons, List.drop_left' hlen]
          have e2 : List.take (k' + 1) (b :: (List.take k' t ++ (esc (List.drop (k' + 1) (b :: t)) ++ 34 :: u))) = b :: List.take k' t := by
            rw [List.take_succ_cons, List.take_left' hlen]
          rw [e1, e2, hih]
          rfl
        · rw [if_neg hg, if_neg hg, List.append_assoc]
          have hih := ih t (by simp only [List.length_cons] at hs; omega) u
          simp only [List.cons_append, List.nil_append]
          rw [readT, if_neg (by decide), if_neg (by decide), if_pos rfl]
          rw [unesc_bad]
          simp only [List.drop_succ_cons, List.drop_zero]
          rw [hih, runeB_bad]; rfl
      · rw [if_neg h128]
        have hga : good (b :: t) = true := good_ascii (by omega)
        have hda : dec (b :: t) = (b.toNat, 1) := dec_ascii (by omega)
        rw [if_pos hga, hda]
        simp only [List.take_succ_cons, List.take_zero, List.drop_succ_cons, List.drop_zero, List.cons_append, List.nil_append]
        have hih := ih t (by simp only [List.length_cons] at hs; omega) u
        by_cases hp : plainB b = true
        · rw [if_pos hp]
          simp only [List.cons_append]
          have hp' := hp
          simp only [plainB, Bool.and_eq_true, decide_eq_true_eq, bne_iff_ne, ne_eq] at hp'
          rw [readT, if_neg hp'.2, if_neg (by omega), if_neg hp'.1.2, if_pos (good_ascii (by omega)), dec_ascii (by omega)]
          simp only [List.take_succ_cons, List.take_zero, List.drop_succ_cons, List.drop_zero]
          rw [hih]; rfl
        · rw [if_neg hp, List.append_assoc]
          obtain ⟨e, k, he, hu, hd⟩ := esc_byte_read b (by omega) (by simpa using hp) (esc t ++ 34 :: u)
          rw [he]
          simp only [List.cons_append]
          rw [readT, if_neg (by decide), if_neg (by decide), if_pos rfl, hu]
          simp only
          rw [hd, hih, runeB_ascii (by omega)]; rfl

/-- letters that stand for themselves -/
theorem readT_plain : ∀ (s : List UInt8), (∀ b ∈ s, b.toNat < 128 ∧ plainB b = true) → ∀ u, readT (s ++ 34 :: u) = some (s, u)
  | [], _, u => by rw [List.nil_append, readT, if_pos rfl]
  | b :: t, h, u => by
    have hb := h b (List.mem_cons_self ..)
    have hp' := hb.2
    simp only [plainB, Bool.and_eq_true, decide_eq_true_eq, bne_iff_ne, ne_eq] at hp'
    simp only [List.cons_append]
    rw [readT, if_neg hp'.2, if_neg (by omega), if_neg hp'.1.2, if_pos (good_ascii hb.1), dec_ascii hb.1]
    simp only [List.take_succ_cons, List.take_zero, List.drop_succ_cons, List.drop_zero]
    rw [readT_plain t (fun c hc => h c (List.mem_cons_of_mem _ hc)) u]; rfl

theorem esc_len : ∀ (n : Nat) (s : List UInt8), s.length ≤ n → (esc s).length ≤ 6 * s.length := by
  intro n
  induction n with
  | zero => intro s hs; have : s = [] := List.eq_nil_of_length_eq_zero (by omega); subst this; simp [esc]
  | succ n ih =>
    intro s hs
    cases s with
    | nil => simp [esc]
    | cons b t =>
      rw [esc]
      have hih := ih t (by simp only [List.length_cons] at hs; omega)
      have hd := dec_pos (b :: t)
      have hl := dec_le (l := b :: t) (by simp)
      have hih2 := ih ((b :: t).drop (dec (b :: t)).2) (by simp only [List.length_drop]; omega)
      have he : (escByte b).length ≤ 6 := by unfold escByte; repeat' split
                                             all_goals simp
      split
      · split
        · simp only [List.length_append, List.length_take, List.length_drop] at *; omega
        · simp only [List.length_append, List.length_cons, List.length_nil] at *; omega
      · split
        · simp only [List.length_cons] at *; omega
        · simp only [List.length_append, List.length_cons] at *; omega
end Go.Proofs.Zap
