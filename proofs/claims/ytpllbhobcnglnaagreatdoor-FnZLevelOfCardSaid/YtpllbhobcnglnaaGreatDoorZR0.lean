/- a text of the claims over the seat; its order and aim: NOTES.md -/
import Derived.Test.YtpllbhobcnglnaaGreatDoorZQ0
/- what the leaves of a core that is asked for write, in plain words: the list of leaves -/
namespace Go.Proofs.Zap

section
variable {F : Type}

/-- the leaves: what levels have to be for each, and its fields -/
def zl : CT F → List (List Int × List F)
  | .no => []
  | .mk kind lvl n kids fs =>
    if kind = 0 then [([w8 lvl], [])] else if kind = 5 then []
    else (List.range n).flatMap fun i => (zl (kids i)).map fun x => (if kind = 2 then x.1 ++ [w8 lvl] else x.1, if kind = 3 ∨ kind = 4 then x.2 ++ fs else x.2)

def onL (ls : List Int) (l : Int) : Bool := ls.all fun m => decide (m ≤ l)

/-- those leaves that a level turns on, numbered from c on -/
def pick : Nat → List (List Int × List F) → Int → List (Nat × List F)
  | _, [], _ => []
  | c, x :: r, l => if onL x.1 l then (c, x.2) :: pick (c + 1) r l else pick (c + 1) r l

theorem pick_append (l : Int) : ∀ (A B : List (List Int × List F)) (c : Nat), pick c (A ++ B) l = pick c A l ++ pick (c + A.length) B l
  | [], B, c => by simp [pick]
  | x :: A, B, c => by
    simp only [List.cons_append, pick, List.length_cons]
    rw [pick_append l A B (c + 1), show c + 1 + A.length = c + (A.length + 1) by omega]
    split <;> simp

theorem pick_fs (l : Int) (fs : List F) : ∀ (A : List (List Int × List F)) (c : Nat), pick c (A.map fun x => (x.1, x.2 ++ fs)) l = (pick c A l).map fun y => (y.1, y.2 ++ fs)
  | [], c => rfl
  | x :: A, c => by
    simp only [List.map_cons, pick]
    rw [pick_fs l fs A (c + 1)]
    split <;> simp

theorem pick_lvl (l v : Int) : ∀ (A : List (List Int × List F)) (c : Nat), pick c (A.map fun x => (x.1 ++ [v], x.2)) l = if v ≤ l then pick c A l else []
  | [], c => by simp [pick]
  | x :: A, c => by
    simp only [List.map_cons, pick]
    rw [pick_lvl l v A (c + 1)]
    by_cases h : v ≤ l <;> simp [onL, h]

theorem pick_flat (l : Int) (g : Nat → List (List Int × List F)) (c : Nat) : ∀ n : Nat,
    pick c ((List.range n).flatMap g) l = (List.range n).flatMap fun i => pick (c + sumN i fun j => (g j).length) (g i) l
  | 0 => rfl
  | n + 1 => by
    have hl : ∀ m, ((List.range m).flatMap g).length = sumN m fun j => (g j).length := by
      intro m
      induction m with
      | zero => rfl
      | succ m ih => rw [List.range_succ, List.flatMap_append, List.length_append, ih]; simp [sumN]
    rw [List.range_succ, List.flatMap_append, List.flatMap_append, pick_append, pick_flat l g c n, hl n]
    simp

theorem sumN_congr {f g : Nat → Nat} : ∀ {n : Nat}, (∀ i, i < n → f i = g i) → sumN n f = sumN n g
  | 0, _ => rfl
  | n + 1, h => by simp only [sumN]; rw [sumN_congr fun i hi => h i (by omega), h n (by omega)]

theorem len_zl (t : CT F) : ∀ d : Nat, fine t d = true → (zl t).length = cnt t := by
  induction t with
  | no => intro d hf; exact absurd hf (by simp [fine])
  | mk kind lvl n kids fs ih =>
    intro d hf
    obtain ⟨k0, k5, hd, hn, h1, h0, hk⟩ := fine_parts hf
    by_cases e0 : kind = 0
    · subst e0; simp [zl, cnt]
    by_cases e5 : kind = 5
    · subst e5; simp [zl, cnt]
    simp only [zl, cnt, e0, e5, if_false]
    have hl : ∀ m, m ≤ n → ((List.range m).flatMap fun i => (zl (kids i)).map fun x => (if kind = 2 then x.1 ++ [w8 lvl] else x.1, if kind = 3 ∨ kind = 4 then x.2 ++ fs else x.2)).length = sumN m fun i => cnt (kids i) := by
      intro m
      induction m with
      | zero => intro _; rfl
      | succ m ihm =>
        intro hm
        rw [List.range_succ, List.flatMap_append, List.length_append, ihm (by omega)]
        simp only [sumN, List.flatMap_cons, List.flatMap_nil, List.append_nil, List.length_map]
        rw [ih m _ (hk m (by omega))]
    exact hl n (Nat.le_refl _)

theorem flatMap_congr' {α β : Type} {l : List α} {f g : α → List β} (h : ∀ a ∈ l, f a = g a) : l.flatMap f = l.flatMap g := by
  rw [List.flatMap_def, List.flatMap_def]; congr 1; exact List.map_congr_left h

/-- what a built core writes is what its leaves write, picked by level -/
theorem wr_bld (l : Int) (t : CT F) : ∀ (d c : Nat), fine t d = true → wrK (bld t c) l = pick c (zl t) l := by
  induction t with
  | no => intro d c hf; exact absurd hf (by simp [fine])
  | mk kind lvl n kids fs ih =>
    intro d c hf
    obtain ⟨k0, k5, hd, hn, h1, h0, hk⟩ := fine_parts hf
    have hc : kind = 0 ∨ kind = 1 ∨ kind = 2 ∨ kind = 3 ∨ kind = 4 ∨ kind = 5 := by omega
    have one : n = 1 → ∀ g : Nat → List (List Int × List F), (List.range n).flatMap g = g 0 := fun h g => by subst h; simp [List.range_succ]
    rcases hc with rfl | rfl | rfl | rfl | rfl | rfl
    · simp [bld, wrK, zl, pick, onL]
    · simp only [zl]
      simp only [show ¬ ((1 : Int) = 0) by omega, show ¬ ((1 : Int) = 5) by omega, show ¬ ((1 : Int) = 2) by omega, show ¬ ((1 : Int) = 3) by omega, show ¬ ((1 : Int) = 4) by omega, if_false, or_self]
      rw [pick_flat]
      have hidm : ∀ i, (zl (kids i)).map (fun x => (x.1, x.2)) = zl (kids i) := fun i => by simp
      simp only [hidm]
      have hs : ∀ i, i ≤ n → (sumN i fun j => (zl (kids j)).length) = sumN i fun j => cnt (kids j) := fun i hi => sumN_congr fun j hj => len_zl (kids j) _ (hk j (by omega))
      simp only [bld]
      simp only [show ¬ ((1 : Int) = 0) by omega, show ¬ ((1 : Int) = 5) by omega, if_false, if_true]
      by_cases e0 : n = 0
      · subst e0; simp [wrK]
      by_cases e1 : n = 1
      · rw [if_neg e0, if_pos e1, ih 0 _ c (hk 0 (by omega))]
        subst e1
        simp [sumN, List.range_succ]
      rw [if_neg e0, if_neg e1]
      simp only [wrK]
      refine flatMap_congr' fun i hi => ?_
      have hi := List.mem_range.1 hi
      rw [ih i _ _ (hk i hi), hs i (by omega)]
    · have e1 := h1 (by omega)
      simp only [zl, bld]
      simp
      rw [one e1, pick_lvl]
      simp only [wrK]
      rw [ih 0 _ c (hk 0 (by omega))]
    · have e1 := h1 (by omega)
      simp only [zl, bld]
      simp
      rw [one e1, pick_fs, wrK_withF, ih 0 _ c (hk 0 (by omega))]
    · have e1 := h1 (by omega)
      simp only [zl, bld]
      simp
      rw [one e1, pick_fs]
      simp only [wrK]
      rw [← ih 0 _ c (hk 0 (by omega))]
      split
      · rfl
      · rename_i h
        rw [wrK_off _ l (by simpa using h)]; rfl
    · simp [zl, bld, wrK, pick]
end
end Go.Proofs.Zap
