/- a text of the claims over the seat; its order and aim: NOTES.md -/
/- trailing noughts, in plain lists -/
namespace Go.Proofs.Zap

def trim0 (l : List UInt8) : List UInt8 := (l.reverse.dropWhile (· == 48)).reverse

theorem trim0_zero (l : List UInt8) : trim0 (l ++ [48]) = trim0 l := by
  unfold trim0; rw [List.reverse_append]; simp
theorem trim0_stop (l : List UInt8) (c : UInt8) (h : c ≠ 48) : trim0 (l ++ [c]) = l ++ [c] := by
  unfold trim0; rw [List.reverse_append]; simp [h]
theorem trim0_prefix (p l : List UInt8) (h : trim0 l ≠ []) : trim0 (p ++ l) = p ++ trim0 l := by
  unfold trim0 at *
  rw [List.reverse_append, List.dropWhile_append]
  have : (l.reverse.dropWhile (· == 48)).isEmpty = false := by
    cases h2 : l.reverse.dropWhile (· == 48) with
    | nil => rw [h2] at h; exact absurd rfl h
    | cons a b => rfl
  rw [this]
  simp
theorem trim0_some {l : List UInt8} {b : UInt8} (hb : b ∈ l) (h : b ≠ 48) : trim0 l ≠ [] := by
  intro e
  unfold trim0 at e
  have e2 : l.reverse.dropWhile (· == 48) = [] := by simpa using congrArg List.reverse e
  have key : ∀ (m : List UInt8), m.dropWhile (· == 48) = [] → ∀ x ∈ m, x = 48 := by
    intro m
    induction m with
    | nil => intro _ x hx; cases hx
    | cons y m ih =>
      intro hm x hx
      rw [List.dropWhile_cons] at hm
      split at hm
      · rename_i hy
        rcases List.mem_cons.1 hx with rfl | hx
        · simpa using hy
        · exact ih hm x hx
      · cases hm
  exact h (key _ e2 b (List.mem_reverse.2 hb))
theorem trim0_le (l : List UInt8) : (trim0 l).length ≤ l.length := by
  unfold trim0
  rw [List.length_reverse]
  have := (List.dropWhile_sublist (fun x : UInt8 => x == 48) (l := l.reverse)).length_le
  rwa [List.length_reverse] at this
theorem trim0_mem {l : List UInt8} {b : UInt8} (h : b ∈ trim0 l) : b ∈ l := by
  unfold trim0 at h
  rw [List.mem_reverse] at h
  exact List.mem_reverse.1 ((List.dropWhile_sublist _).subset h)
theorem snoc_of {l : List UInt8} (h : trim0 l ≠ []) : ∃ m c, l = m ++ [c] := by
  rcases List.eq_nil_or_concat l with rfl | ⟨m, c, rfl⟩
  · exact absurd rfl h
  · exact ⟨m, c, by simp⟩
end Go.Proofs.Zap
