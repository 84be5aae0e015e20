/- a text of the claims over the seat; its order and aim: NOTES.md -/
/- cores in plain words: the tree that is asked for, the tree that is built, what each enables and writes -/
namespace Go.Proofs.Zap

def w8 (x : Int) : Int := (x + 128) % 256 - 128
theorem w8_id {x : Int} (h0 : -128 ≤ x) (h1 : x ≤ 127) : w8 x = x := by unfold w8; omega
theorem w8_bd (x : Int) : -128 ≤ w8 x ∧ w8 x ≤ 127 := by unfold w8; omega

/-- a core as it is asked for -/
inductive CT (F : Type) where
  | no
  | mk (kind lvl : Int) (n : Nat) (kids : Nat → CT F) (fs : List F)

/-- a core as it is built -/
inductive KT (F : Type) where
  | leaf (lvl : Int) (num : Nat) (fs : List F)
  | nop
  | tee (n : Nat) (kids : Nat → KT F)
  | incr (lvl : Int) (k : KT F)
  | lazy (k : KT F) (fs : List F)

def anyB (n : Nat) (p : Nat → Bool) : Bool := (List.range n).any p
theorem anyB_true {n : Nat} {p : Nat → Bool} : anyB n p = true ↔ ∃ i, i < n ∧ p i = true := by simp [anyB]
theorem anyB_false {n : Nat} {p : Nat → Bool} : anyB n p = false ↔ ∀ i, i < n → p i = false := by simp [anyB]
theorem anyB_congr {n : Nat} {p q : Nat → Bool} (h : ∀ i, i < n → p i = q i) : anyB n p = anyB n q := by
  rcases hq : anyB n q with _ | _
  · exact anyB_false.2 fun i hi => (h i hi).trans (anyB_false.1 hq i hi)
  · obtain ⟨i, hi, hp⟩ := anyB_true.1 hq
    exact anyB_true.2 ⟨i, hi, (h i hi).trans hp⟩

/-- the least of the seven that a test lets in; 6: none -/
def leastOf (p : Int → Bool) : Int :=
  if p (-1) then -1 else if p 0 then 0 else if p 1 then 1 else if p 2 then 2 else if p 3 then 3 else if p 4 then 4 else if p 5 then 5 else 6
theorem leastOf_congr {p q : Int → Bool} (h : ∀ l, -1 ≤ l → l ≤ 5 → p l = q l) : leastOf p = leastOf q := by
  unfold leastOf
  rw [h (-1) (by omega) (by omega), h 0 (by omega) (by omega), h 1 (by omega) (by omega), h 2 (by omega) (by omega), h 3 (by omega) (by omega), h 4 (by omega) (by omega), h 5 (by omega) (by omega)]
theorem leastOf_bd (p : Int → Bool) : -1 ≤ leastOf p ∧ leastOf p ≤ 6 := by
  unfold leastOf
  repeat' split
  all_goals omega
theorem leastOf_le {p : Int → Bool} {l : Int} (h0 : -1 ≤ l) (h1 : l ≤ 5) (h : p l = true) : leastOf p ≤ l := by
  have hc : l = -1 ∨ l = 0 ∨ l = 1 ∨ l = 2 ∨ l = 3 ∨ l = 4 ∨ l = 5 := by omega
  unfold leastOf
  rcases hc with rfl | rfl | rfl | rfl | rfl | rfl | rfl <;> simp only [h, if_true] <;> (repeat' split) <;> omega
theorem leastOf_mem {p : Int → Bool} (h : leastOf p ≤ 5) : p (leastOf p) = true := by
  unfold leastOf at h ⊢
  repeat' split
  all_goals first | assumption | (exfalso; simp_all)

section
variable {F : Type}

def enK : KT F → Int → Bool
  | .leaf lvl _ _, l => decide (lvl ≤ l)
  | .nop, _ => false
  | .tee n kids, l => anyB n fun i => enK (kids i) l
  | .incr lvl _, l => decide (lvl ≤ l)
  | .lazy k _, l => enK k l

def withF : List F → KT F → KT F
  | fs, .leaf lvl num gs => .leaf lvl num (gs ++ fs)
  | _, .nop => .nop
  | fs, .tee n kids => .tee n fun i => withF fs (kids i)
  | fs, .incr lvl k => .incr lvl (withF fs k)
  | fs, .lazy k gs => withF (gs ++ fs) k

theorem enK_withF (k : KT F) : ∀ (fs : List F) (l : Int), enK (withF fs k) l = enK k l := by
  induction k with
  | leaf lvl num gs => intro fs l; rfl
  | nop => intro fs l; rfl
  | tee n kids ih => intro fs l; exact anyB_congr fun i _ => ih i fs l
  | incr lvl k ih => intro fs l; rfl
  | lazy k gs ih => intro fs l; exact ih (gs ++ fs) l

theorem withF_withF (k : KT F) : ∀ (gs fs : List F), withF fs (withF gs k) = withF (gs ++ fs) k := by
  induction k with
  | leaf lvl num hs => intro gs fs; simp [withF, List.append_assoc]
  | nop => intro gs fs; rfl
  | tee n kids ih => intro gs fs; simp only [withF]; congr 1; funext i; exact ih i gs fs
  | incr lvl k ih => intro gs fs; simp only [withF]; rw [ih]
  | lazy k hs ih => intro gs fs; simp only [withF]; rw [ih, List.append_assoc]

/-- what the leaves write of an entry of level l: each one's number and fields, in order -/
def wrK : KT F → Int → List (Nat × List F)
  | .leaf lvl num fs, l => if lvl ≤ l then [(num, fs)] else []
  | .nop, _ => []
  | .tee n kids, l => (List.range n).flatMap fun i => wrK (kids i) l
  | .incr lvl k, l => if lvl ≤ l then wrK k l else []
  | .lazy k fs, l => if enK k l then (wrK k l).map fun x => (x.1, x.2 ++ fs) else []

theorem wrK_off (k : KT F) : ∀ (l : Int), enK k l = false → wrK k l = [] := by
  induction k with
  | leaf lvl num gs => intro l h; simp [enK] at h; simp [wrK]; omega
  | nop => intro l _; rfl
  | tee n kids ih =>
    intro l h
    simp only [wrK]
    rw [List.flatMap_eq_nil_iff]
    intro i hi
    exact ih i l (anyB_false.1 h i (List.mem_range.1 hi))
  | incr lvl k ih => intro l h; simp [enK] at h; simp [wrK]; omega
  | lazy k fs ih => intro l h; simp only [enK] at h; simp [wrK, h]

theorem wrK_withF (k : KT F) : ∀ (fs : List F) (l : Int), wrK (withF fs k) l = (wrK k l).map fun x => (x.1, x.2 ++ fs) := by
  induction k with
  | leaf lvl num gs => intro fs l; simp only [withF, wrK]; split <;> rfl
  | nop => intro fs l; rfl
  | tee n kids ih =>
    intro fs l
    simp only [withF, wrK, List.map_flatMap]
    rw [List.flatMap_def, List.flatMap_def]
    congr 1
    exact List.map_congr_left fun i _ => ih i fs l
  | incr lvl k ih => intro fs l; simp only [withF, wrK]; split <;> simp [ih]
  | lazy k gs ih =>
    intro fs l
    simp only [withF, wrK]
    rw [ih]
    split
    · rw [List.map_map]; apply List.map_congr_left; intro x _; simp [List.append_assoc]
    · rename_i h
      rw [wrK_off k l (by simpa using h)]; rfl

/-- LevelOf -/
def lvK : KT F → Int
  | .leaf lvl num fs => leastOf (enK (.leaf lvl num fs))
  | .nop => 6
  | .tee n kids => (List.range n).foldl (fun m i => if lvK (kids i) < m then lvK (kids i) else m) 5
  | .incr lvl _ => leastOf fun l => decide (lvl ≤ l)
  | .lazy k _ => leastOf (enK k)

def teeK : KT F → Bool
  | .leaf .. => false
  | .nop => false
  | .tee _ _ => true
  | .incr _ k => teeK k
  | .lazy k _ => teeK k
theorem teeK_withF (k : KT F) : ∀ fs : List F, teeK (withF fs k) = teeK k := by
  induction k with
  | leaf => intro fs; rfl
  | nop => intro fs; rfl
  | tee => intro fs; rfl
  | incr lvl k ih => intro fs; exact ih fs
  | lazy k gs ih => intro fs; exact ih (gs ++ fs)

theorem fold_min (f : Nat → Int) : ∀ (n : Nat) (m : Int), (List.range n).foldl (fun m i => if f i < m then f i else m) m ≤ m ∧ (∀ i, i < n → (List.range n).foldl (fun m i => if f i < m then f i else m) m ≤ f i) ∧
    ((List.range n).foldl (fun m i => if f i < m then f i else m) m = m ∨ ∃ i, i < n ∧ (List.range n).foldl (fun m i => if f i < m then f i else m) m = f i)
  | 0, m => ⟨Int.le_refl _, fun i hi => absurd hi (by omega), .inl rfl⟩
  | n + 1, m => by
    obtain ⟨h1, h2, h3⟩ := fold_min f n m
    rw [List.range_succ, List.foldl_append, List.foldl_cons, List.foldl_nil]
    generalize (List.range n).foldl (fun m i => if f i < m then f i else m) m = r at *
    by_cases h : f n < r
    · rw [if_pos h]
      refine ⟨by omega, fun i hi => ?_, .inr ⟨n, by omega, rfl⟩⟩
      by_cases e : i = n
      · subst e; exact Int.le_refl _
      · have := h2 i (by omega); omega
    · rw [if_neg h]
      refine ⟨h1, fun i hi => ?_, ?_⟩
      · by_cases e : i = n
        · subst e; omega
        · exact h2 i (by omega)
      · rcases h3 with h3 | ⟨i, hi, h3⟩
        · exact .inl h3
        · exact .inr ⟨i, by omega, h3⟩

/-- a tee of two at least, wherever there is one -/
def okK : KT F → Prop
  | .leaf .. => True
  | .nop => True
  | .tee n kids => 2 ≤ n ∧ ∀ i, i < n → okK (kids i)
  | .incr _ k => okK k
  | .lazy k _ => okK k
theorem okK_withF (k : KT F) : ∀ fs : List F, okK k → okK (withF fs k) := by
  induction k with
  | leaf => intro fs _; trivial
  | nop => intro fs _; trivial
  | tee n kids ih => intro fs h; exact ⟨h.1, fun i hi => ih i fs (h.2 i hi)⟩
  | incr lvl k ih => intro fs h; exact ih fs h
  | lazy k gs ih => intro fs h; exact ih (gs ++ fs) h

theorem lvK_eq (k : KT F) : okK k → lvK k = leastOf (enK k) ∨ (leastOf (enK k) = 6 ∧ lvK k = 5 ∧ teeK k = true) := by
  induction k with
  | leaf => intro _; exact .inl rfl
  | nop => intro _; exact .inl rfl
  | incr => intro _; exact .inl rfl
  | lazy => intro _; exact .inl rfl
  | tee n kids ih =>
    intro hk
    have hb := leastOf_bd (enK (.tee n kids))
    obtain ⟨f1, f2, f3⟩ := fold_min (fun i => lvK (kids i)) n 5
    change lvK (.tee n kids) ≤ 5 at f1
    change ∀ i, i < n → lvK (.tee n kids) ≤ lvK (kids i) at f2
    change lvK (.tee n kids) = 5 ∨ ∃ i, i < n ∧ lvK (.tee n kids) = lvK (kids i) at f3
    have hge : ∀ i, i < n → leastOf (enK (.tee n kids)) ≤ leastOf (enK (kids i)) := fun i hi => by
      have hbi := leastOf_bd (enK (kids i))
      by_cases h6 : leastOf (enK (kids i)) ≤ 5
      · exact leastOf_le hbi.1 h6 (anyB_true.2 ⟨i, hi, leastOf_mem h6⟩)
      · omega
    by_cases h6 : leastOf (enK (.tee n kids)) ≤ 5
    · left
      obtain ⟨i, hi, he⟩ := anyB_true.1 (leastOf_mem h6)
      have hle := leastOf_le hb.1 h6 he
      have h2 := f2 i hi
      rcases ih i (hk.2 i hi) with e | ⟨e, _⟩
      · have hup : lvK (.tee n kids) ≤ leastOf (enK (.tee n kids)) := by omega
        have hlo : leastOf (enK (.tee n kids)) ≤ lvK (.tee n kids) := by
          rcases f3 with f3 | ⟨j, hj, f3⟩
          · omega
          · have := hge j hj
            rcases ih j (hk.2 j hj) with e2 | ⟨e2, e3, _⟩ <;> omega
        omega
      · omega
    · right
      refine ⟨by omega, ?_, rfl⟩
      rcases f3 with f3 | ⟨j, hj, f3⟩
      · exact f3
      · have := hge j hj
        have hbj := leastOf_bd (enK (kids j))
        rcases ih j (hk.2 j hj) with e2 | ⟨e2, e3, _⟩ <;> omega

/-- the tree asked for: what it enables -/
def en : CT F → Int → Bool
  | .no, _ => false
  | .mk kind lvl n kids _, l =>
    if kind = 0 ∨ kind = 2 then decide (w8 lvl ≤ w8 l) else if kind = 1 then anyB n fun i => en (kids i) l else if kind = 3 ∨ kind = 4 then en (kids 0) l else false
def makes : CT F → Bool
  | .no => true
  | .mk kind lvl n kids _ => (!anyB n fun i => !makes (kids i)) && !(kind == 2 && anyB 7 fun j => decide (w8 lvl ≤ (j : Int) - 1) && !en (kids 0) ((j : Int) - 1))
def fine : CT F → Nat → Bool
  | .no, _ => false
  | .mk kind _ n kids _, d =>
    let one := kind == 2 || kind == 3 || kind == 4
    !(decide (kind < 0) || decide (5 < kind) || d == 0 || decide (6 < n) || (one != (n == 1)) && kind != 1) && (!anyB n fun i => !fine (kids i) (d - 1)) && (one || kind == 1 || n == 0)
def hasTee : CT F → Bool
  | .no => false
  | .mk kind _ n kids _ => (anyB n fun i => hasTee (kids i)) || kind == 1 && decide (1 < n)
def sumN : Nat → (Nat → Nat) → Nat
  | 0, _ => 0
  | n + 1, f => sumN n f + f n
def cnt : CT F → Nat
  | .no => 0
  | .mk kind _ n kids _ => if kind = 0 then 1 else if kind = 5 then 0 else sumN n fun i => cnt (kids i)
def bld : CT F → Nat → KT F
  | .no, _ => .nop
  | .mk kind lvl n kids fs, c =>
    if kind = 0 then .leaf (w8 lvl) c []
    else if kind = 5 then .nop
    else if kind = 1 then (if n = 0 then .nop else if n = 1 then bld (kids 0) c else .tee n fun i => bld (kids i) (c + sumN i fun j => cnt (kids j)))
    else if kind = 2 then .incr (w8 lvl) (bld (kids 0) c)
    else if kind = 3 then withF fs (bld (kids 0) c)
    else .lazy (bld (kids 0) c) fs

theorem fine_parts {kind lvl : Int} {n : Nat} {kids : Nat → CT F} {fs : List F} {d : Nat} (h : fine (.mk kind lvl n kids fs) d = true) :
    0 ≤ kind ∧ kind ≤ 5 ∧ d ≠ 0 ∧ n ≤ 6 ∧ (kind = 2 ∨ kind = 3 ∨ kind = 4 → n = 1) ∧ (kind = 0 ∨ kind = 5 → n = 0) ∧ ∀ i, i < n → fine (kids i) (d - 1) = true := by
  simp only [fine, Bool.and_eq_true, Bool.not_eq_true', anyB_false, Bool.not_eq_false'] at h
  obtain ⟨⟨h1, h2⟩, h3⟩ := h
  have hc : kind < 0 ∨ 5 < kind ∨ kind = 0 ∨ kind = 1 ∨ kind = 2 ∨ kind = 3 ∨ kind = 4 ∨ kind = 5 := by omega
  rcases hc with hc | hc | rfl | rfl | rfl | rfl | rfl | rfl
  · simp [hc] at h1
  · simp [hc] at h1
  all_goals
    simp at h1 h3
    refine ⟨by omega, by omega, by omega, by omega, ?_, ?_, h2⟩ <;> intro hk <;> omega

theorem enK_bld (t : CT F) : ∀ (d c : Nat) (l : Int), fine t d = true → w8 l = l → enK (bld t c) l = en t l := by
  induction t with
  | no => intro d c l hf; exact absurd hf (by simp [fine])
  | mk kind lvl n kids fs ih =>
    intro d c l hf hl
    obtain ⟨k0, k5, hd, hn, h1, h0, hk⟩ := fine_parts hf
    have hc : kind = 0 ∨ kind = 1 ∨ kind = 2 ∨ kind = 3 ∨ kind = 4 ∨ kind = 5 := by omega
    rcases hc with rfl | rfl | rfl | rfl | rfl | rfl
    · simp [bld, en, enK, hl]
    · simp only [bld, en]
      simp
      by_cases e0 : n = 0
      · subst e0; simp [enK, anyB]
      · by_cases e1 : n = 1
        · subst e1
          simp
          rw [ih 0 _ c l (hk 0 (by omega)) hl]
          simp [anyB]
        · rw [if_neg e0, if_neg e1]
          exact anyB_congr fun i hi => ih i _ _ l (hk i hi) hl
    · simp [bld, en, enK, hl]
    · have := h1 (by omega); subst this
      simp [bld, en]
      rw [enK_withF]
      exact ih 0 _ _ l (hk 0 (by omega)) hl
    · have := h1 (by omega); subst this
      simp [bld, en, enK]
      exact ih 0 _ _ l (hk 0 (by omega)) hl
    · simp [bld, en, enK]

theorem okK_bld (t : CT F) : ∀ (d c : Nat), fine t d = true → okK (bld t c) := by
  induction t with
  | no => intro d c hf; exact absurd hf (by simp [fine])
  | mk kind lvl n kids fs ih =>
    intro d c hf
    obtain ⟨k0, k5, hd, hn, h1, h0, hk⟩ := fine_parts hf
    have hc : kind = 0 ∨ kind = 1 ∨ kind = 2 ∨ kind = 3 ∨ kind = 4 ∨ kind = 5 := by omega
    rcases hc with rfl | rfl | rfl | rfl | rfl | rfl
    · simp [bld, okK]
    · simp only [bld]
      simp
      by_cases e0 : n = 0
      · subst e0; simp [okK]
      · by_cases e1 : n = 1
        · subst e1
          simp
          exact ih 0 _ c (hk 0 (by omega))
        · rw [if_neg e0, if_neg e1]
          exact ⟨by omega, fun i hi => ih i _ _ (hk i hi)⟩
    · have := h1 (by omega); subst this
      simp [bld, okK]
      exact ih 0 _ _ (hk 0 (by omega))
    · have := h1 (by omega); subst this
      simp [bld]
      exact okK_withF _ _ (ih 0 _ _ (hk 0 (by omega)))
    · have := h1 (by omega); subst this
      simp [bld, okK]
      exact ih 0 _ _ (hk 0 (by omega))
    · simp [bld, okK]

theorem teeK_bld (t : CT F) : ∀ (d c : Nat), fine t d = true → teeK (bld t c) = true → hasTee t = true := by
  induction t with
  | no => intro d c hf; exact absurd hf (by simp [fine])
  | mk kind lvl n kids fs ih =>
    intro d c hf
    obtain ⟨k0, k5, hd, hn, h1, h0, hk⟩ := fine_parts hf
    have up : ∀ i, i < n → hasTee (kids i) = true → hasTee (.mk kind lvl n kids fs) = true := fun i hi h => by
      simp only [hasTee, Bool.or_eq_true]
      exact .inl (anyB_true.2 ⟨i, hi, h⟩)
    have hc : kind = 0 ∨ kind = 1 ∨ kind = 2 ∨ kind = 3 ∨ kind = 4 ∨ kind = 5 := by omega
    rcases hc with rfl | rfl | rfl | rfl | rfl | rfl
    · simp [bld, teeK]
    · simp only [bld]
      simp
      by_cases e0 : n = 0
      · subst e0; simp [teeK]
      · by_cases e1 : n = 1
        · subst e1
          simp
          exact fun h => up 0 (by omega) (ih 0 _ c (hk 0 (by omega)) h)
        · intro _
          simp [hasTee]
          exact .inr (by omega)
    · have := h1 (by omega); subst this
      simp [bld, teeK]
      exact fun h => up 0 (by omega) (ih 0 _ c (hk 0 (by omega)) h)
    · have := h1 (by omega); subst this
      simp [bld]
      rw [teeK_withF]
      exact fun h => up 0 (by omega) (ih 0 _ c (hk 0 (by omega)) h)
    · have := h1 (by omega); subst this
      simp [bld, teeK]
      exact fun h => up 0 (by omega) (ih 0 _ c (hk 0 (by omega)) h)
    · simp [bld, teeK]

/-- the law of the least level -/
theorem least_law (t : CT F) (d : Nat) (hf : fine t d = true) :
    lvK (bld t 0) = leastOf (en t) ∨ (leastOf (en t) = 6 ∧ hasTee t = true) := by
  have he : leastOf (enK (bld t 0)) = leastOf (en t) := leastOf_congr fun l h0 h1 => enK_bld t d 0 l hf (w8_id (by omega) (by omega))
  rcases lvK_eq _ (okK_bld t d 0 hf) with h | ⟨h, _, h2⟩
  · exact .inl (h.trans he)
  · exact .inr ⟨by rw [← he]; exact h, teeK_bld t d 0 hf h2⟩
end
end Go.Proofs.Zap
