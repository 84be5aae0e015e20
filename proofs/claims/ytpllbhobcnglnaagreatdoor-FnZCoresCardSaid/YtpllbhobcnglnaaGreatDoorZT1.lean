/- a text of the claims over the seat; its order and aim: NOTES.md -/
import Derived.WalkKit
import Derived.WalkLawsBesides
import Derived.WalkSpells
import Derived.Deep.QuietTactic
import Derived.BigQuiet
import Derived.Deep.RegionWith
import Derived.Lib.Hide
import Derived.Laws.BitsLemmas
import Derived.Test.YtpllbhobcnglnaaGreatDoorProg
/- cores in plain words: the tree that is asked for, the tree that is built, what each enables and writes -/
namespace Go.Proofs.Zap

def w8 (x : Int) : Int := (x + 128) % 256 - 128
theorem w8_id {x : Int} (h0 : -128 ≤ x) (h1 : x ≤ 127) : w8 x = x := by unfold w8; omega
theorem w8_bd (x : Int) : -128 ≤ w8 x ∧ w8 x ≤ 127 := by unfold w8; omega

/-- a core as it is asked for -/
inductive CT (F : Type) where
  | no
  | mk (kind lvl : Int) (n : Nat) (kids : Nat → CT F) (fs : List F)

/-- a core as it is built -/
inductive KT (F : Type) where
  | leaf (lvl : Int) (num : Nat) (fs : List F)
  | nop
  | tee (n : Nat) (kids : Nat → KT F)
  | incr (lvl : Int) (k : KT F)
  | lazy (k : KT F) (fs : List F)

def anyB (n : Nat) (p : Nat → Bool) : Bool := (List.range n).any p
theorem anyB_true {n : Nat} {p : Nat → Bool} : anyB n p = true ↔ ∃ i, i < n ∧ p i = true := by simp [anyB]
theorem anyB_false {n : Nat} {p : Nat → Bool} : anyB n p = false ↔ ∀ i, i < n → p i = false := by simp [anyB]
theorem anyB_congr {n : Nat} {p q : Nat → Bool} (h : ∀ i, i < n → p i = q i) : anyB n p = anyB n q := by
  rcases hq : anyB n q with _ | _
  · exact anyB_false.2 fun i hi => (h i hi).trans (anyB_false.1 hq i hi)
  · obtain ⟨i, hi, hp⟩ := anyB_true.1 hq
    exact anyB_true.2 ⟨i, hi, (h i hi).trans hp⟩

/-- the least of the seven that a test lets in; 6: none -/
def leastOf (p : Int → Bool) : Int :=
  if p (-1) then -1 else if p 0 then 0 else if p 1 then 1 else if p 2 then 2 else if p 3 then 3 else if p 4 then 4 else if p 5 then 5 else 6
theorem leastOf_congr {p q : Int → Bool} (h : ∀ l, -1 ≤ l → l ≤ 5 → p l = q l) : leastOf p = leastOf q := by
  unfold leastOf
  rw [h (-1) (by omega) (by omega), h 0 (by omega) (by omega), h 1 (by omega) (by omega), h 2 (by omega) (by omega), h 3 (by omega) (by omega), h 4 (by omega) (by omega), h 5 (by omega) (by omega)]
theorem leastOf_bd (p : Int → Bool) : -1 ≤ leastOf p ∧ leastOf p ≤ 6 := by
  unfold leastOf
  repeat' split
  all_goals omega
theorem leastOf_le {p : Int → Bool} {l : Int} (h0 : -1 ≤ l) (h1 : l ≤ 5) (h : p l = true) : leastOf p ≤ l := by
  have hc : l = -1 ∨ l = 0 ∨ l = 1 ∨ l = 2 ∨ l = 3 ∨ l = 4 ∨ l = 5 := by omega
  unfold leastOf
  rcases hc with rfl | rfl | rfl | rfl | rfl | rfl | rfl <;> simp only [h, if_true] <;> (repeat' split) <;> omega
theorem leastOf_mem {p : Int → Bool} (h : leastOf p ≤ 5) : p (leastOf p) = true := by
  unfold leastOf at h ⊢
  repeat' split
  all_goals first | assumption | (exfalso; simp_all)

section
variable {F : Type}

def enK : KT F → Int → Bool
  | .leaf lvl _ _, l => decide (lvl ≤ l)
  | .nop, _ => false
  | .tee n kids, l => anyB n fun i => enK (kids i) l
  | .incr lvl _, l => decide (lvl ≤ l)
  | .lazy k _, l => enK k l

def withF : List F → KT F → KT F
  | fs, .leaf lvl num gs => .leaf lvl num (gs ++ fs)
  | _, .nop => .nop
  | fs, .tee n kids => .tee n fun i => withF fs (kids i)
  | fs, .incr lvl k => .incr lvl (withF fs k)
  | fs, .lazy k gs => withF (gs ++ fs) k

theorem enK_withF (k : KT F) : ∀ (fs : List F) (l : Int), enK (withF fs k) l = enK k l := by
  induction k with
  | leaf lvl num gs => intro fs l; rfl
  | nop => intro fs l; rfl
  | tee n kids ih => intro fs l; exact anyB_congr fun i _ => ih i fs l
  | incr lvl k ih => intro fs l; rfl
  | lazy k gs ih => intro fs l; exact ih (gs ++ fs) l

theorem withF_withF (k : KT F) : ∀ (gs fs : List F), withF fs (withF gs k) = withF (gs ++ fs) k := by
  induction k with
  | leaf lvl num hs => intro gs fs; simp [withF, List.append_assoc]
  | nop => intro gs fs; rfl
  | tee n kids ih => intro gs fs; simp only [withF]; congr 1; funext i; exact ih i gs fs
  | incr lvl k ih => intro gs fs; simp only [withF]; rw [ih]
  | lazy k hs ih => intro gs fs; simp only [withF]; rw [ih, List.append_assoc]

/-- what the leaves write of an entry of level l: each one's number and fields, in order -/
def wrK : KT F → Int → List (Nat × List F)
  | .leaf lvl num fs, l => if lvl ≤ l then [(num, fs)] else []
  | .nop, _ => []
  | .tee n kids, l => (List.range n).flatMap fun i => wrK (kids i) l
  | .incr lvl k, l => if lvl ≤ l then wrK k l else []
  | .lazy k fs, l => if enK k l then (wrK k l).map fun x => (x.1, x.2 ++ fs) else []

theorem wrK_off (k : KT F) : ∀ (l : Int), enK k l = false → wrK k l = [] := by
  induction k with
  | leaf lvl num gs => intro l h; simp [enK] at h; simp [wrK]; omega
  | nop => intro l _; rfl
  | tee n kids ih =>
    intro l h
    simp only [wrK]
    rw [List.flatMap_eq_nil_iff]
    intro i hi
    exact ih i l (anyB_false.1 h i (List.mem_range.1 hi))
  | incr lvl k ih => intro l h; simp [enK] at h; simp [wrK]; omega
  | lazy k fs ih => intro l h; simp only [enK] at h; simp [wrK, h]

theorem wrK_withF (k : KT F) : ∀ (fs : List F) (l : Int), wrK (withF fs k) l = (wrK k l).map fun x => (x.1, x.2 ++ fs) := by
  induction k with
  | leaf lvl num gs => intro fs l; simp only [withF, wrK]; split <;> rfl
  | nop => intro fs l; rfl
  | tee n kids ih =>
    intro fs l
    simp only [withF, wrK, List.map_flatMap]
    rw [List.flatMap_def, List.flatMap_def]
    congr 1
    exact List.map_congr_left fun i _ => ih i fs l
  | incr lvl k ih => intro fs l; simp only [withF, wrK]; split <;> simp [ih]
  | lazy k gs ih =>
    intro fs l
    simp only [withF, wrK]
    rw [ih]
    split
    · rw [List.map_map]; apply List.map_congr_left; intro x _; simp [List.append_assoc]
    · rename_i h
      rw [wrK_off k l (by simpa using h)]; rfl

/-- LevelOf -/
def lvK : KT F → Int
  | .leaf lvl num fs => leastOf (enK (.leaf lvl num fs))
  | .nop => 6
  | .tee n kids => (List.range n).foldl (fun m i => if lvK (kids i) < m then lvK (kids i) else m) 5
  | .incr lvl _ => leastOf fun l => decide (lvl ≤ l)
  | .lazy k _ => leastOf (enK k)

def teeK : KT F → Bool
  | .leaf .. => false
  | .nop => false
  | .tee _ _ => true
  | .incr _ k => teeK k
  | .lazy k _ => teeK k
theorem teeK_withF (k : KT F) : ∀ fs : List F, teeK (withF fs k) = teeK k := by
  induction k with
  | leaf => intro fs; rfl
  | nop => intro fs; rfl
  | tee => intro fs; rfl
  | incr lvl k ih => intro fs; exact ih fs
  | lazy k gs ih => intro fs; exact ih (gs ++ fs)

theorem fold_min (f : Nat → Int) : ∀ (n : Nat) (m : Int), (List.range n).foldl (fun m i => if f i < m then f i else m) m ≤ m ∧ (∀ i, i < n → (List.range n).foldl (fun m i => if f i < m then f i else m) m ≤ f i) ∧
    ((List.range n).foldl (fun m i => if f i < m then f i else m) m = m ∨ ∃ i, i < n ∧ (List.range n).foldl (fun m i => if f i < m then f i else m) m = f i)
  | 0, m => ⟨Int.le_refl _, fun i hi => absurd hi (by omega), .inl rfl⟩
  | n + 1, m => by
    obtain ⟨h1, h2, h3⟩ := fold_min f n m
    rw [List.range_succ, List.foldl_append, List.foldl_cons, List.foldl_nil]
    generalize (List.range n).foldl (fun m i => if f i < m then f i else m) m = r at *
    by_cases h : f n < r
    · rw [if_pos h]
      refine ⟨by omega, fun i hi => ?_, .inr ⟨n, by omega, rfl⟩⟩
      by_cases e : i = n
      · subst e; exact Int.le_refl _
      · have := h2 i (by omega); omega
    · rw [if_neg h]
      refine ⟨h1, fun i hi => ?_, ?_⟩
      · by_cases e : i = n
        · subst e; omega
        · exact h2 i (by omega)
      · rcases h3 with h3 | ⟨i, hi, h3⟩
        · exact .inl h3
        · exact .inr ⟨i, by omega, h3⟩

/-- a tee of two at least, wherever there is one -/
def okK : KT F → Prop
  | .leaf .. => True
  | .nop => True
  | .tee n kids => 2 ≤ n ∧ ∀ i, i < n → okK (kids i)
  | .incr _ k => okK k
  | .lazy k _ => okK k
theorem okK_withF (k : KT F) : ∀ fs : List F, okK k → okK (withF fs k) := by
  induction k with
  | leaf => intro fs _; trivial
  | nop => intro fs _; trivial
  | tee n kids ih => intro fs h; exact ⟨h.1, fun i hi => ih i fs (h.2 i hi)⟩
  | incr lvl k ih => intro fs h; exact ih fs h
  | lazy k gs ih => intro fs h; exact ih (gs ++ fs) h

theorem lvK_eq (k : KT F) : okK k → lvK k = leastOf (enK k) ∨ (leastOf (enK k) = 6 ∧ lvK k = 5 ∧ teeK k = true) := by
  induction k with
  | leaf => intro _; exact .inl rfl
  | nop => intro _; exact .inl rfl
  | incr => intro _; exact .inl rfl
  | lazy => intro _; exact .inl rfl
  | tee n kids ih =>
    intro hk
    have hb := leastOf_bd (enK (.tee n kids))
    obtain ⟨f1, f2, f3⟩ := fold_min (fun i => lvK (kids i)) n 5
    change lvK (.tee n kids) ≤ 5 at f1
    change ∀ i, i < n → lvK (.tee n kids) ≤ lvK (kids i) at f2
    change lvK (.tee n kids) = 5 ∨ ∃ i, i < n ∧ lvK (.tee n kids) = lvK (kids i) at f3
    have hge : ∀ i, i < n → leastOf (enK (.tee n kids)) ≤ leastOf (enK (kids i)) := fun i hi => by
      have hbi := leastOf_bd (enK (kids i))
      by_cases h6 : leastOf (enK (kids i)) ≤ 5
      · exact leastOf_le hbi.1 h6 (anyB_true.2 ⟨i, hi, leastOf_mem h6⟩)
      · omega
    by_cases h6 : leastOf (enK (.tee n kids)) ≤ 5
    · left
      obtain ⟨i, hi, he⟩ := anyB_true.1 (leastOf_mem h6)
      have hle := leastOf_le hb.1 h6 he
      have h2 := f2 i hi
      rcases ih i (hk.2 i hi) with e | ⟨e, _⟩
      · have hup : lvK (.tee n kids) ≤ leastOf (enK (.tee n kids)) := by omega
        have hlo : leastOf (enK (.tee n kids)) ≤ lvK (.tee n kids) := by
          rcases f3 with f3 | ⟨j, hj, f3⟩
          · omega
          · have := hge j hj
            rcases ih j (hk.2 j hj) with e2 | ⟨e2, e3, _⟩ <;> omega
        omega
      · omega
    · right
      refine ⟨by omega, ?_, rfl⟩
      rcases f3 with f3 | ⟨j, hj, f3⟩
      · exact f3
      · have := hge j hj
        have hbj := leastOf_bd (enK (kids j))
        rcases ih j (hk.2 j hj) with e2 | ⟨e2, e3, _⟩ <;> omega

/-- the tree asked for: what it enables -/
def en : CT F → Int → Bool
  | .no, _ => false
  | .mk kind lvl n kids _, l =>
    if kind = 0 ∨ kind = 2 then decide (w8 lvl ≤ w8 l) else if kind = 1 then anyB n fun i => en (kids i) l else if kind = 3 ∨ kind = 4 then en (kids 0) l else false
def makes : CT F → Bool
  | .no => true
  | .mk kind lvl n kids _ => (!anyB n fun i => !makes (kids i)) && !(kind == 2 && anyB 7 fun j => decide (w8 lvl ≤ (j : Int) - 1) && !en (kids 0) ((j : Int) - 1))
def fine : CT F → Nat → Bool
  | .no, _ => false
  | .mk kind _ n kids _, d =>
    let one := kind == 2 || kind == 3 || kind == 4
    !(decide (kind < 0) || decide (5 < kind) || d == 0 || decide (6 < n) || (one != (n == 1)) && kind != 1) && (!anyB n fun i => !fine (kids i) (d - 1)) && (one || kind == 1 || n == 0)
def hasTee : CT F → Bool
  | .no => false
  | .mk kind _ n kids _ => (anyB n fun i => hasTee (kids i)) || kind == 1 && decide (1 < n)
def sumN : Nat → (Nat → Nat) → Nat
  | 0, _ => 0
  | n + 1, f => sumN n f + f n
def cnt : CT F → Nat
  | .no => 0
  | .mk kind _ n kids _ => if kind = 0 then 1 else if kind = 5 then 0 else sumN n fun i => cnt (kids i)
def bld : CT F → Nat → KT F
  | .no, _ => .nop
  | .mk kind lvl n kids fs, c =>
    if kind = 0 then .leaf (w8 lvl) c []
    else if kind = 5 then .nop
    else if kind = 1 then (if n = 0 then .nop else if n = 1 then bld (kids 0) c else .tee n fun i => bld (kids i) (c + sumN i fun j => cnt (kids j)))
    else if kind = 2 then .incr (w8 lvl) (bld (kids 0) c)
    else if kind = 3 then withF fs (bld (kids 0) c)
    else .lazy (bld (kids 0) c) fs

theorem fine_parts {kind lvl : Int} {n : Nat} {kids : Nat → CT F} {fs : List F} {d : Nat} (h : fine (.mk kind lvl n kids fs) d = true) :
    0 ≤ kind ∧ kind ≤ 5 ∧ d ≠ 0 ∧ n ≤ 6 ∧ (kind = 2 ∨ kind = 3 ∨ kind = 4 → n = 1) ∧ (kind = 0 ∨ kind = 5 → n = 0) ∧ ∀ i, i < n → fine (kids i) (d - 1) = true := by
  simp only [fine, Bool.and_eq_true, Bool.not_eq_true', anyB_false, Bool.not_eq_false'] at h
  obtain ⟨⟨h1, h2⟩, h3⟩ := h
  have hc : kind < 0 ∨ 5 < kind ∨ kind = 0 ∨ kind = 1 ∨ kind = 2 ∨ kind = 3 ∨ kind = 4 ∨ kind = 5 := by omega
  rcases hc with hc | hc | rfl | rfl | rfl | rfl | rfl | rfl
  · simp [hc] at h1
  · simp [hc] at h1
  all_goals
    simp at h1 h3
    refine ⟨by omega, by omega, by omega, by omega, ?_, ?_, h2⟩ <;> intro hk <;> omega

theorem enK_bld (t : CT F) : ∀ (d c : Nat) (l : Int), fine t d = true → w8 l = l → enK (bld t c) l = en t l := by
  induction t with
  | no => intro d c l hf; exact absurd hf (by simp [fine])
  | mk kind lvl n kids fs ih =>
    intro d c l hf hl
    obtain ⟨k0, k5, hd, hn, h1, h0, hk⟩ := fine_parts hf
    have hc : kind = 0 ∨ kind = 1 ∨ kind = 2 ∨ kind = 3 ∨ kind = 4 ∨ kind = 5 := by omega
    rcases hc with rfl | rfl | rfl | rfl | rfl | rfl
    · simp [bld, en, enK, hl]
    · simp only [bld, en]
      simp
      by_cases e0 : n = 0
      · subst e0; simp [enK, anyB]
      · by_cases e1 : n = 1
        · subst e1
          simp
          rw [ih 0 _ c l (hk 0 (by omega)) hl]
          simp [anyB]
        · rw [if_neg e0, if_neg e1]
          exact anyB_congr fun i hi => ih i _ _ l (hk i hi) hl
    · simp [bld, en, enK, hl]
    · have := h1 (by omega); subst this
      simp [bld, en]
      rw [enK_withF]
      exact ih 0 _ _ l (hk 0 (by omega)) hl
    · have := h1 (by omega); subst this
      simp [bld, en, enK]
      exact ih 0 _ _ l (hk 0 (by omega)) hl
    · simp [bld, en, enK]

theorem okK_bld (t : CT F) : ∀ (d c : Nat), fine t d = true → okK (bld t c) := by
  induction t with
  | no => intro d c hf; exact absurd hf (by simp [fine])
  | mk kind lvl n kids fs ih =>
    intro d c hf
    obtain ⟨k0, k5, hd, hn, h1, h0, hk⟩ := fine_parts hf
    have hc : kind = 0 ∨ kind = 1 ∨ kind = 2 ∨ kind = 3 ∨ kind = 4 ∨ kind = 5 := by omega
    rcases hc with rfl | rfl | rfl | rfl | rfl | rfl
    · simp [bld, okK]
    · simp only [bld]
      simp
      by_cases e0 : n = 0
      · subst e0; simp [okK]
      · by_cases e1 : n = 1
        · subst e1
          simp
          exact ih 0 _ c (hk 0 (by omega))
        · rw [if_neg e0, if_neg e1]
          exact ⟨by omega, fun i hi => ih i _ _ (hk i hi)⟩
    · have := h1 (by omega); subst this
      simp [bld, okK]
      exact ih 0 _ _ (hk 0 (by omega))
    · have := h1 (by omega); subst this
      simp [bld]
      exact okK_withF _ _ (ih 0 _ _ (hk 0 (by omega)))
    · have := h1 (by omega); subst this
      simp [bld, okK]
      exact ih 0 _ _ (hk 0 (by omega))
    · simp [bld, okK]

theorem teeK_bld (t : CT F) : ∀ (d c : Nat), fine t d = true → teeK (bld t c) = true → hasTee t = true := by
  induction t with
  | no => intro d c hf; exact absurd hf (by simp [fine])
  | mk kind lvl n kids fs ih =>
    intro d c hf
    obtain ⟨k0, k5, hd, hn, h1, h0, hk⟩ := fine_parts hf
    have up : ∀ i, i < n → hasTee (kids i) = true → hasTee (.mk kind lvl n kids fs) = true := fun i hi h => by
      simp only [hasTee, Bool.or_eq_true]
      exact .inl (anyB_true.2 ⟨i, hi, h⟩)
    have hc : kind = 0 ∨ kind = 1 ∨ kind = 2 ∨ kind = 3 ∨ kind = 4 ∨ kind = 5 := by omega
    rcases hc with rfl | rfl | rfl | rfl | rfl | rfl
    · simp [bld, teeK]
    · simp only [bld]
      simp
      by_cases e0 : n = 0
      · subst e0; simp [teeK]
      · by_cases e1 : n = 1
        · subst e1
          simp
          exact fun h => up 0 (by omega) (ih 0 _ c (hk 0 (by omega)) h)
        · intro _
          simp [hasTee]
          exact .inr (by omega)
    · have := h1 (by omega); subst this
      simp [bld, teeK]
      exact fun h => up 0 (by omega) (ih 0 _ c (hk 0 (by omega)) h)
    · have := h1 (by omega); subst this
      simp [bld]
      rw [teeK_withF]
      exact fun h => up 0 (by omega) (ih 0 _ c (hk 0 (by omega)) h)
    · have := h1 (by omega); subst this
      simp [bld, teeK]
      exact fun h => up 0 (by omega) (ih 0 _ c (hk 0 (by omega)) h)
    · simp [bld, teeK]

/-- the law of the least level -/
theorem least_law (t : CT F) (d : Nat) (hf : fine t d = true) :
    lvK (bld t 0) = leastOf (en t) ∨ (leastOf (en t) = 6 ∧ hasTee t = true) := by
  have he : leastOf (enK (bld t 0)) = leastOf (en t) := leastOf_congr fun l h0 h1 => enK_bld t d 0 l hf (w8_id (by omega) (by omega))
  rcases lvK_eq _ (okK_bld t d 0 hf) with h | ⟨h, _, h2⟩
  · exact .inl (h.trans he)
  · exact .inr ⟨by rw [← he]; exact h, teeK_bld t d 0 hf h2⟩
end
end Go.Proofs.Zap

/- the calendar in plain numbers: the library's way and the definition's way give one date -/
namespace Go.Proofs.Zap.Cal

/-- days from the beginning of the year 1 to that of year y -/
def zd (y : Int) : Int := 365 * (y - 1) + (y - 1) / 4 - (y - 1) / 100 + (y - 1) / 400
def mlen (y m : Int) : Int := if m = 4 ∨ m = 6 ∨ m = 9 ∨ m = 11 then 30 else if m = 2 then (if zd (y + 1) - zd y = 366 then 29 else 28) else 31
/-- days of year y ahead of month m -/
def cum (y m : Int) : Int :=
  if m ≤ 1 then 0 else if m = 2 then 31 else 31 + mlen y 2 + (153 * (m - 3) + 2) / 5

/-- n days behind the first of March of the year 0 -/
def cen (n : Int) : Int := (4 * n + 3) / 146097
def cday (n : Int) : Int := (4 * n + 3) % 146097 / 4
def cyr (n : Int) : Int := (4 * cday n + 3) / 1461
def ayd (n : Int) : Int := (4 * cday n + 3) % 1461 / 4
def jf (n : Int) : Int := if 306 ≤ ayd n then 1 else 0
def yearN (n : Int) : Int := 100 * cen n + cyr n + jf n
def monN (n : Int) : Int := (5 * ayd n + 461) / 153 - 12 * jf n
def dayN (n : Int) : Int := 1 + (5 * ayd n + 461) % 153 / 5

theorem cday_bd (n : Int) (_ : 0 ≤ n) : 0 ≤ cday n ∧ cday n ≤ 36524 := by unfold cday; omega
theorem cyr_bd (n : Int) (h : 0 ≤ n) : 0 ≤ cyr n ∧ cyr n ≤ 99 := by have := cday_bd n h; unfold cyr; omega
theorem ayd_bd (n : Int) (_ : 0 ≤ n) : 0 ≤ ayd n ∧ ayd n ≤ 365 := by unfold ayd; omega
theorem cen_bd (n : Int) (h : 0 ≤ n) (h2 : n ≤ 3000000) : 0 ≤ cen n ∧ cen n ≤ 100 := by unfold cen; omega
theorem n_of (n : Int) : n = 36524 * cen n + cen n / 4 + cday n := by unfold cen cday; omega
theorem cday_of (n : Int) : cday n = 365 * cyr n + cyr n / 4 + ayd n := by unfold cyr ayd; omega

theorem mlen2 (y : Int) : mlen y 2 = zd (y + 1) - zd y - 337 := by
  unfold mlen
  rw [if_neg (by omega), if_pos rfl]
  unfold zd
  split <;> omega
theorem mlen_bd (y m : Int) : 28 ≤ mlen y m ∧ mlen y m ≤ 31 := by
  unfold mlen; repeat' split
  all_goals omega

theorem cum_succ (y m : Int) (h1 : 1 ≤ m) (h2 : m ≤ 11) : cum y (m + 1) = cum y m + mlen y m := by
  by_cases e : m = 2
  · subst e
    simp [cum]
  · have : m = 1 ∨ m = 3 ∨ m = 4 ∨ m = 5 ∨ m = 6 ∨ m = 7 ∨ m = 8 ∨ m = 9 ∨ m = 10 ∨ m = 11 := by omega
    rcases this with rfl | rfl | rfl | rfl | rfl | rfl | rfl | rfl | rfl | rfl <;> simp [cum, mlen] <;> omega

theorem cum_mono (y a b : Int) (_ : 1 ≤ a) (h : a ≤ b) : cum y a ≤ cum y b := by
  have hb := mlen_bd y 2
  unfold cum
  repeat' split
  all_goals omega
theorem cum_step (y a b : Int) (h1 : 1 ≤ a) (h : a < b) (hb : b ≤ 12) : cum y a + mlen y a ≤ cum y b := by
  rw [← cum_succ y a h1 (by omega)]
  exact cum_mono y _ _ (by omega) (by omega)
theorem cum_bd (y m : Int) (h : m ≤ 12) : 0 ≤ cum y m ∧ cum y m ≤ 335 := by
  have hb := mlen_bd y 2
  have : mlen y 2 ≤ 29 := by
    unfold mlen; rw [if_neg (by omega), if_pos rfl]; split <;> omega
  unfold cum
  repeat' split
  all_goals omega

theorem year_len (y : Int) : cum y 12 + 31 = zd (y + 1) - zd y := by
  have := mlen2 y
  simp only [cum]
  omega

theorem zd_mono (a b : Int) (h : a ≤ b) : zd a ≤ zd b := by unfold zd; omega

/-- the year, and the day in it -/
theorem year_day (n : Int) (h : 306 ≤ n) (h2 : n ≤ 3000000) :
    (jf n = 1 ∧ 306 ≤ ayd n ∧ n - 306 = zd (yearN n) + (ayd n - 306)) ∨ (jf n = 0 ∧ ayd n < 306 ∧ n - 306 = zd (yearN n) + 31 + mlen (yearN n) 2 + ayd n) := by
  have hc := cen_bd n (by omega) h2
  have hy := cyr_bd n (by omega)
  have ha := ayd_bd n (by omega)
  have e1 := n_of n
  have e2 := cday_of n
  by_cases hj : 306 ≤ ayd n
  · left
    have hjf : jf n = 1 := by unfold jf; rw [if_pos hj]
    refine ⟨hjf, hj, ?_⟩
    unfold yearN zd
    rw [hjf]
    generalize cen n = c at *
    generalize cyr n = y at *
    generalize ayd n = a at *
    generalize cday n = k at *
    have q1 : (100 * c + y + 1 - 1) / 100 = c := by omega
    have q2 : (100 * c + y + 1 - 1) / 400 = c / 4 := by omega
    have q3 : (100 * c + y + 1 - 1) / 4 = 25 * c + y / 4 := by omega
    rw [q1, q2, q3]
    omega
  · right
    have hjf : jf n = 0 := by unfold jf; rw [if_neg hj]
    refine ⟨hjf, by omega, ?_⟩
    rw [mlen2]
    unfold yearN zd
    rw [hjf]
    generalize cen n = c at *
    generalize cyr n = y at *
    generalize ayd n = a at *
    generalize cday n = k at *
    have q1 : (100 * c + y + 0 + 1 - 1) / 100 = c := by omega
    have q2 : (100 * c + y + 0 + 1 - 1) / 400 = c / 4 := by omega
    have q3 : (100 * c + y + 0 + 1 - 1) / 4 = 25 * c + y / 4 := by omega
    rw [q1, q2, q3]
    omega

theorem md_tab (a : Int) (h0 : 0 ≤ a) (h1 : a ≤ 365) :
    let m := (5 * a + 461) / 153; let d := (5 * a + 461) % 153 / 5
    3 ≤ m ∧ m ≤ 14 ∧ 0 ≤ d ∧ (m ≤ 12 → a = (153 * (m - 3) + 2) / 5 + d) ∧ (m = 13 → a = 306 + d) ∧ (m = 14 → a = 337 + d) ∧ (306 ≤ a ↔ 13 ≤ m) ∧
      d < (if m = 4 ∨ m = 6 ∨ m = 9 ∨ m = 11 then 30 else if m = 14 then 29 else 31) := by
  have key : ∀ a : Fin 366, 
    let m := (5 * (a.val : Int) + 461) / 153; let d := (5 * (a.val : Int) + 461) % 153 / 5
    3 ≤ m ∧ m ≤ 14 ∧ 0 ≤ d ∧ (m ≤ 12 → (a.val : Int) = (153 * (m - 3) + 2) / 5 + d) ∧ (m = 13 → (a.val : Int) = 306 + d) ∧ (m = 14 → (a.val : Int) = 337 + d) ∧ (306 ≤ (a.val : Int) ↔ 13 ≤ m) ∧
      d < (if m = 4 ∨ m = 6 ∨ m = 9 ∨ m = 11 then 30 else if m = 14 then 29 else 31) := by decide +kernel
  have := key ⟨a.toNat, by omega⟩
  simpa [Int.toNat_of_nonneg h0] using this

theorem cday_end (n : Int) (hk : cday n = 36524) : cen n % 4 = 3 := by
  have e : 4 * n + 3 = 146097 * ((4 * n + 3) / 146097) + (4 * n + 3) % 146097 := (Int.mul_ediv_add_emod _ _).symm
  have hl : (4 * n + 3) % 146097 < 146097 := Int.emod_lt_of_pos _ (by omega)
  unfold cday at hk
  unfold cen
  generalize (4 * n + 3) / 146097 = q at *
  generalize (4 * n + 3) % 146097 = r at *
  omega

theorem cyr_end (n : Int) (ha : ayd n = 365) : cyr n % 4 = 3 := by
  have e : 4 * cday n + 3 = 1461 * ((4 * cday n + 3) / 1461) + (4 * cday n + 3) % 1461 := (Int.mul_ediv_add_emod _ _).symm
  have hl : (4 * cday n + 3) % 1461 < 1461 := Int.emod_lt_of_pos _ (by omega)
  unfold ayd at ha
  unfold cyr
  generalize (4 * cday n + 3) / 1461 = q at *
  generalize (4 * cday n + 3) % 1461 = r at *
  generalize cday n = k at *
  omega

theorem leap_of (n : Int) (h : 306 ≤ n) (h2 : n ≤ 3000000) (ha : ayd n = 365) :
    zd (100 * cen n + cyr n + 1 + 1) - zd (100 * cen n + cyr n + 1) = 366 := by
  have hy := cyr_bd n (by omega)
  have e2 := cday_of n
  have hr := cday_end n
  have hq := cyr_end n ha
  unfold zd
  generalize cen n = c at *
  generalize cyr n = y at *
  rw [ha] at e2
  generalize cday n = k at *
  clear ha h h2
  by_cases h99 : y = 99
  · subst h99
    have h3 := hr (by omega)
    clear hr e2 hq
    obtain ⟨j, rfl⟩ : ∃ j, c = 4 * j + 3 := ⟨c / 4, by omega⟩
    have q1 : (100 * (4 * j + 3) + 99 + 1 + 1 - 1) / 4 = 100 * j + 100 := by omega
    have q2 : (100 * (4 * j + 3) + 99 + 1 + 1 - 1) / 100 = 4 * j + 4 := by omega
    have q3 : (100 * (4 * j + 3) + 99 + 1 + 1 - 1) / 400 = j + 1 := by omega
    have q4 : (100 * (4 * j + 3) + 99 + 1 - 1) / 4 = 100 * j + 99 := by omega
    have q5 : (100 * (4 * j + 3) + 99 + 1 - 1) / 100 = 4 * j + 3 := by omega
    have q6 : (100 * (4 * j + 3) + 99 + 1 - 1) / 400 = j := by omega
    rw [q1, q2, q3, q4, q5, q6]
    omega
  · obtain ⟨j, rfl⟩ : ∃ j, y = 4 * j + 3 := ⟨y / 4, by omega⟩
    clear hr e2 hq
    have q1 : (100 * c + (4 * j + 3) + 1 + 1 - 1) / 100 = c := by omega
    have q2 : (100 * c + (4 * j + 3) + 1 - 1) / 100 = c := by omega
    have q3 : (100 * c + (4 * j + 3) + 1 + 1 - 1) / 400 = c / 4 := by omega
    have q4 : (100 * c + (4 * j + 3) + 1 - 1) / 400 = c / 4 := by omega
    have q5 : (100 * c + (4 * j + 3) + 1 + 1 - 1) / 4 = 25 * c + j + 1 := by omega
    have q6 : (100 * c + (4 * j + 3) + 1 - 1) / 4 = 25 * c + j := by omega
    rw [q1, q2, q3, q4, q5, q6]
    omega

/-- the library's date is the definition's -/
theorem date_ok (n : Int) (h : 306 ≤ n) (h2 : n ≤ 3000000) :
    1 ≤ monN n ∧ monN n ≤ 12 ∧ 1 ≤ dayN n ∧ dayN n ≤ mlen (yearN n) (monN n) ∧ n - 306 = zd (yearN n) + cum (yearN n) (monN n) + (dayN n - 1) := by
  have ha := ayd_bd n (by omega)
  have ht := md_tab (ayd n) ha.1 ha.2
  simp only at ht
  obtain ⟨t1, t2, t3, t4, t5, t6, t7, t8⟩ := ht
  rcases year_day n h h2 with ⟨hj, hge, he⟩ | ⟨hj, hlt, he⟩
  · have hm13 := t7.1 hge
    unfold monN dayN
    rw [hj]
    generalize (5 * ayd n + 461) / 153 = m at *
    generalize (5 * ayd n + 461) % 153 / 5 = d at *
    have hY : yearN n = 100 * cen n + cyr n + 1 := by unfold yearN; rw [hj]
    have hml : True := trivial
    generalize yearN n = y at *
    have : m = 13 ∨ m = 14 := by omega
    rcases this with rfl | rfl
    · have := t5 rfl
      simp at t8
      simp [cum, mlen]
      omega
    · have e6 := t6 rfl
      simp at t8
      refine ⟨by omega, by omega, by omega, ?_, by simp [cum]; omega⟩
      show 1 + d ≤ mlen y 2
      by_cases hd : d ≤ 27
      · have := (mlen_bd y 2).1; omega
      · have hd28 : d = 28 := by omega
        subst hd28
        rw [mlen2 y, hY]
        clear hml
        have hl := leap_of n h h2 (by omega)
        omega
  · have hm12 : ¬ 13 ≤ (5 * ayd n + 461) / 153 := fun hh => by have := t7.2 hh; omega
    unfold monN dayN
    rw [hj]
    generalize (5 * ayd n + 461) / 153 = m at *
    generalize (5 * ayd n + 461) % 153 / 5 = d at *
    generalize yearN n = y at *
    have e4 := t4 (by omega)
    refine ⟨by omega, by omega, by omega, ?_, ?_⟩
    · unfold mlen
      rw [if_neg (show ¬ m = 14 by omega)] at t8
      simp only [Int.mul_zero, Int.sub_zero]
      rw [if_neg (show ¬ m = 2 by omega)]
      split at t8
      · rw [if_pos (by omega)]; omega
      · rw [if_neg (by omega)]; omega
    · unfold cum
      rw [if_neg (by omega), if_neg (by omega)]
      omega
theorem year_bd (y d : Int) (h0 : 600000 ≤ d) (h1 : d ≤ 830000) (hz : zd y ≤ d) (hz2 : d < zd (y + 1)) : 1600 ≤ y ∧ y ≤ 2300 := by
  constructor
  · apply Int.not_lt.1
    intro h
    have := zd_mono (y + 1) 1600 (by omega)
    have e : zd 1600 = 584022 := by decide
    omega
  · apply Int.not_lt.1
    intro h
    have := zd_mono 2301 y (by omega)
    have e : zd 2301 = 840057 := by decide
    omega
theorem split_hi (k : Int) (h0 : 0 ≤ k) (h1 : k ≤ 36524) : 2939745 * (4 * k + 3) / 4294967296 = (4 * k + 3) / 1461 := by
  have e : 4 * k + 3 = 1461 * ((4 * k + 3) / 1461) + (4 * k + 3) % 1461 := (Int.mul_ediv_add_emod _ _).symm
  have hl : (4 * k + 3) % 1461 < 1461 := Int.emod_lt_of_pos _ (by omega)
  have hl0 : 0 ≤ (4 * k + 3) % 1461 := Int.emod_nonneg _ (by omega)
  generalize (4 * k + 3) / 1461 = q at *
  generalize (4 * k + 3) % 1461 = r at *
  omega
theorem split_lo (k : Int) (h0 : 0 ≤ k) (h1 : k ≤ 36524) : 2939745 * (4 * k + 3) % 4294967296 / 2939745 = (4 * k + 3) % 1461 := by
  have e : 4 * k + 3 = 1461 * ((4 * k + 3) / 1461) + (4 * k + 3) % 1461 := (Int.mul_ediv_add_emod _ _).symm
  have hl : (4 * k + 3) % 1461 < 1461 := Int.emod_lt_of_pos _ (by omega)
  have hl0 : 0 ≤ (4 * k + 3) % 1461 := Int.emod_nonneg _ (by omega)
  generalize (4 * k + 3) / 1461 = q at *
  generalize (4 * k + 3) % 1461 = r at *
  have e2 : 2939745 * (4 * k + 3) % 4294967296 = 149 * q + 2939745 * r := by omega
  rw [e2]
  omega
theorem month_bits (a : Int) (h0 : 0 ≤ a) (h1 : a ≤ 365) : (2141 * a + 197913) / 65536 = (5 * a + 461) / 153 ∧ (2141 * a + 197913) % 65536 / 2141 = (5 * a + 461) % 153 / 5 := by
  have key : ∀ a : Fin 366, (2141 * (a.val : Int) + 197913) / 65536 = (5 * (a.val : Int) + 461) / 153 ∧ (2141 * (a.val : Int) + 197913) % 65536 / 2141 = (5 * (a.val : Int) + 461) % 153 / 5 := by decide +kernel
  have := key ⟨a.toNat, by omega⟩
  simpa [Int.toNat_of_nonneg h0] using this
theorem or3 (x : Nat) : x ||| 3 = x / 4 * 4 + 3 := by
  apply Nat.eq_of_testBit_eq
  intro i
  have : x / 4 * 4 + 3 = 2 ^ 2 * (x / 4) + 3 := by omega
  rw [this, Nat.testBit_or, Nat.testBit_two_pow_mul_add _ (by omega)]
  by_cases hi : i < 2
  · rw [if_pos hi]
    have : i = 0 ∨ i = 1 := by omega
    rcases this with rfl | rfl <;> simp [Nat.testBit]
  · rw [if_neg hi]
    have h3 : Nat.testBit 3 i = false := Nat.testBit_lt_two_pow (Nat.lt_of_lt_of_le (by omega : 3 < 2 ^ 2) (Nat.pow_le_pow_right (by omega) (by omega)))
    rw [h3, Bool.or_false, show x / 4 = x >>> 2 by rw [Nat.shiftRight_eq_div_pow], Nat.testBit_shiftRight]
    congr 1; omega
end Go.Proofs.Zap.Cal

namespace Go.Proofs.Zap
open Go Go.Proofs Go.RowKit

theorem wraps_u32' (n : Int) (h₀ : 0 ≤ n) (h₁ : n < 2 ^ 32) : IntKind.u32.wrap n = n := by rw [IntKind.wrap_u32]; omega

theorem ret_eq {a b : Value} (h : a = b) : Ending.returned a = .returned b := by rw [h]
theorem int_eq {k : IntKind} {a b : Int} (h : a = b) : Value.int k a = .int k b := by rw [h]

theorem mul32_any (x y : Int) (hx0 : 0 ≤ x) (hx : x ≤ 4294967295) (hy0 : 0 ≤ y) (hy : y ≤ 4294967295) (w : World) :
    Calls Tryz.prog 243 #[.int .u32 x, .int .u32 y] w fun e w' => e = .returned (.tuple #[.int .u32 (x * y / 4294967296), .int .u32 (x * y % 4294967296)]) ∧ w' = w := by
  have h1 : 0 ≤ x * y := Int.mul_nonneg hx0 hy0
  have h2 : x * y ≤ 4294967295 * 4294967295 := Int.mul_le_mul hx hy hy0 (by omega)
  have H : Hid (IntKind.u64.wrap (x * y) = x * y) := IntWalk.u64_in _ ⟨h1, by omega⟩
  go_enter Tryz.func243, Tryz.ntmps243
  go_wp2
  go_ret2
  refine ⟨ret_eq ?_, rfl⟩
  simp only [Array.getD_eq_getD_getElem?]
  simp

theorem janFeb_any (a : Int) (w : World) :
    Calls Tryz.prog 233 #[.int .i64 a] w fun e w' => e = .returned (.int .i64 (if 306 ≤ a then 1 else 0)) ∧ w' = w := by
  by_cases h : 306 ≤ a
  · rw [if_pos h]
    go_enter Tryz.func233, Tryz.ntmps233
    go_wp2
    go_ret
    exact ⟨rfl, rfl⟩
  · rw [if_neg h]
    go_enter Tryz.func233, Tryz.ntmps233
    go_wp2
    go_ret
    exact ⟨rfl, rfl⟩

theorem ydsplit_any (a : Int) (h0 : 0 ≤ a) (h1 : a ≤ 365) (w : World) :
    Calls Tryz.prog 232 #[.int .i64 a] w fun e w' => e = .returned (.tuple #[.int .i64 ((5 * a + 461) / 153), .int .i64 (1 + (5 * a + 461) % 153 / 5)]) ∧ w' = w := by
  have hb := Cal.month_bits a h0 h1
  have hm : bits .and .u32 (2141 * a + 197913) 65535 = (2141 * a + 197913) % 65536 := by
    have h := bits_mask .u32 32 (by decide) wraps_u32' 16 (by decide) (2141 * a + 197913) (by omega) (by omega)
    have e : ((2 : Int) ^ 16 - 1) = 65535 := by decide
    have e2 : ((2 : Int) ^ 16) = 65536 := by decide
    rwa [e, e2] at h
  have HM := Lib.hid hm
  have HB := Lib.hid hb
  clear hb hm
  go_enter Tryz.func232, Tryz.ntmps232
  go_wp2
  go_ret2
  refine ⟨ret_eq ?_, rfl⟩
  have h1 := HM.out
  have h2 := HB.out
  simp
  rw [h1, Int.tdiv_eq_ediv_of_nonneg (by omega)]
  omega

set_option maxHeartbeats 400000 in
theorem split_any (n : Int) (h0 : 306 ≤ n) (h1 : n ≤ 3000000) (w : World) :
    Calls Tryz.prog 231 #[.int .u64 (106751990353932 + n)] w fun e w' => e = .returned (.tuple #[.int .u64 (2922770224 + Cal.cen n), .int .i64 (Cal.cyr n), .int .i64 (Cal.ayd n)]) ∧ w' = w := by
  have hk := Cal.cday_bd n (by omega)
  have e1 : (4 * (106751990353932 + n) + 3) / 146097 = 2922770224 + Cal.cen n := by unfold Cal.cen; omega
  have e2 : (4 * (106751990353932 + n) + 3) % 146097 = (4 * n + 3) % 146097 := by omega
  have e3 : bits .or .u32 ((4 * (106751990353932 + n) + 3) % 146097) 3 = 4 * Cal.cday n + 3 := by
    rw [e2]
    have hx0 : 0 ≤ (4 * n + 3) % 146097 := Int.emod_nonneg _ (by omega)
    have hx1 : (4 * n + 3) % 146097 < 146097 := Int.emod_lt_of_pos _ (by omega)
    have hcd : Cal.cday n = (4 * n + 3) % 146097 / 4 := rfl
    rw [hcd]
    obtain ⟨x, hx⟩ := Int.eq_ofNat_of_zero_le hx0
    rw [hx] at hx1 ⊢
    rw [show (3 : Int) = ((3 : Nat) : Int) from rfl, (bits_nat .u32 32 (by decide) wraps_u32' x 3 (by omega) (by omega)).2, Cal.or3]
    omega
  have e4 : 2939745 * (4 * Cal.cday n + 3) / 4294967296 = Cal.cyr n := Cal.split_hi _ hk.1 hk.2
  have e5 : 2939745 * (4 * Cal.cday n + 3) % 4294967296 / 2939745 / 4 = Cal.ayd n := by rw [Cal.split_lo _ hk.1 hk.2]; rfl
  have hm := mul32_any 2939745 (bits .or .u32 ((4 * (106751990353932 + n) + 3) % 146097) 3) (by omega) (by omega) (by rw [e3]; omega) (by rw [e3]; omega) w
  have hp : 0 ≤ 2939745 * (4 * Cal.cday n + 3) % 4294967296 := Int.emod_nonneg _ (by omega)
  have hy := Cal.cyr_bd n (by omega)
  have HM := Lib.hid hm
  have H1 := Lib.hid e1
  have H3 := Lib.hid e3
  have H4 := Lib.hid e4
  have H5 := Lib.hid e5
  clear e1 e2 e3 e4 e5 hm
  go_enter Tryz.func231, Tryz.ntmps231
  go_wp2_with fail
  refine HM.out.mono ?_
  rw [H3.out, H4.out]
  rintro e w' ⟨rfl, rfl⟩
  go_wp2_with fail
  go_ret3
  refine ⟨ret_eq ?_, rfl⟩
  have g1 := H1.out
  have g5 := H5.out
  have q : Cal.cyr n % 4294967296 = Cal.cyr n := by omega
  simp
  exact ⟨g1, g5⟩

theorem year_any (c y j : Int) (h0 : 0 ≤ c) (h1 : c ≤ 1000) (hy0 : 0 ≤ y) (hy1 : y ≤ 1000) (hj0 : 0 ≤ j) (hj1 : j ≤ 1000) (w : World) :
    Calls Tryz.prog 234 #[.int .u64 (2922770224 + c), .int .i64 y, .int .i64 j] w fun e w' => e = .returned (.int .i64 (100 * c + y + j)) ∧ w' = w := by
  go_enter Tryz.func234, Tryz.ntmps234
  go_wp2
  go_ret
  refine ⟨ret_eq ?_, rfl⟩
  simp
  omega

theorem month_any (m j : Int) (h0 : 0 ≤ m) (h1 : m ≤ 20) (hj0 : 0 ≤ j) (hj1 : j ≤ 1) (w : World) :
    Calls Tryz.prog 235 #[.int .i64 m, .int .i64 j] w fun e w' => e = .returned (.int .i64 (m - 12 * j)) ∧ w' = w := by
  go_enter Tryz.func235, Tryz.ntmps235
  go_wp2
  go_ret
  refine ⟨ret_eq ?_, rfl⟩
  simp
  omega

theorem jf_eq (n : Int) : (if 306 ≤ Cal.ayd n then (1 : Int) else 0) = Cal.jf n := rfl

set_option maxHeartbeats 400000 in
theorem date_any (n : Int) (h0 : 306 ≤ n) (h1 : n ≤ 3000000) (w : World) :
    Calls Tryz.prog 219 #[.int .u64 (106751990353932 + n)] w fun e w' => e = .returned (.tuple #[.int .i64 (Cal.yearN n), .int .i64 (Cal.monN n), .int .i64 (Cal.dayN n)]) ∧ w' = w := by
  have hc := Cal.cen_bd n (by omega) h1
  have hy := Cal.cyr_bd n (by omega)
  have ha := Cal.ayd_bd n (by omega)
  have hj : 0 ≤ Cal.jf n ∧ Cal.jf n ≤ 1 := by unfold Cal.jf; split <;> omega
  go_enter Tryz.func219, Tryz.ntmps219
  go_wp2_with fail
  refine (split_any n h0 h1 _).mono ?_
  rintro e w' ⟨rfl, rfl⟩
  go_wp2_with fail
  refine (ydsplit_any _ ha.1 ha.2 _).mono ?_
  rintro e w' ⟨rfl, rfl⟩
  go_wp2_with fail
  refine (janFeb_any _ _).mono ?_
  rw [jf_eq]
  rintro e w' ⟨rfl, rfl⟩
  go_wp2_with fail
  refine (year_any _ _ _ hc.1 (by omega) hy.1 (by omega) hj.1 (by omega) _).mono ?_
  rintro e w' ⟨rfl, rfl⟩
  go_wp2_with fail
  refine (month_any _ _ (by omega) (by omega) hj.1 hj.2 _).mono ?_
  rintro e w' ⟨rfl, rfl⟩
  go_wp2_with fail
  go_ret3
  exact ⟨rfl, rfl⟩

theorem days_any (a : Int) (h0 : 0 ≤ a) (h1 : a ≤ 18446744073709551615) (w : World) :
    Calls Tryz.prog 218 #[.int .u64 a] w fun e w' => e = .returned (.int .u64 (a / 86400)) ∧ w' = w := by
  go_enter Tryz.func218, Tryz.ntmps218
  go_wp2
  go_ret
  exact ⟨rfl, rfl⟩

theorem clock_any (a : Int) (h0 : 0 ≤ a) (h1 : a ≤ 18446744073709551615) (w : World) :
    Calls Tryz.prog 221 #[.int .u64 a] w fun e w' => e = .returned (.tuple #[.int .i64 (a % 86400 / 3600), .int .i64 (a % 86400 / 60 % 60), .int .i64 (a % 60)]) ∧ w' = w := by
  have hm0 : 0 ≤ a % 86400 := Int.emod_nonneg _ (by omega)
  have hm1 : a % 86400 < 86400 := Int.emod_lt_of_pos _ (by omega)
  go_enter Tryz.func221, Tryz.ntmps221
  go_wp2
  go_ret3
  refine ⟨ret_eq ?_, rfl⟩
  simp
  omega
end Go.Proofs.Zap
