/- a text of the claims over the seat; its order and aim: NOTES.md -/
import Derived.Test.YtpllbhobcnglnaaGreatDoorZQC
import Derived.Deep.DeepAppendRoom
import Derived.LoopN
namespace Go.Proofs.Zap
open Go Go.Proofs Go.RowKit

theorem crows_get : ∀ (fs : List FC) (j : Nat) (u : Value), (crows fs)[j]? = some u → ∃ i r c, j = i * 5 + r ∧ fs[i]? = some c ∧ (CR c)[r]? = some u
  | [], j, u, h => by simp [crows] at h
  | c :: fs, j, u, h => by
    have e : crows (c :: fs) = (CR c).toList ++ crows fs := rfl
    have l : (CR c).toList.length = 5 := rfl
    rw [e, List.getElem?_append] at h
    split at h
    · exact ⟨0, j, c, by omega, rfl, by simpa using h⟩
    · obtain ⟨i, r, c2, h1, h2, h3⟩ := crows_get fs _ u h
      exact ⟨i + 1, r, c2, by omega, by simpa using h2, h3⟩
theorem crows_len (fs : List FC) : (crows fs).length = fs.length * 5 := by
  induction fs with
  | nil => rfl
  | cons c fs ih => rw [show crows (c :: fs) = (CR c).toList ++ crows fs from rfl, List.length_append, ih, show (CR c).toList.length = 5 from rfl, List.length_cons]; omega
theorem crows_append (fs gs : List FC) : crows (fs ++ gs) = crows fs ++ crows gs := by simp [crows]
theorem crows_at : ∀ (fs : List FC) (i r : Nat) (c : FC) (v : Value), fs[i]? = some c → (CR c)[r]? = some v → (crows fs)[i * 5 + r]? = some v
  | [], i, r, c, v, h, _ => by simp at h
  | c0 :: fs, i, r, c, v, h, hv => by
    have e : crows (c0 :: fs) = (CR c0).toList ++ crows fs := rfl
    have l : (CR c0).toList.length = 5 := rfl
    have hr : r < 5 := by
      have := (Array.getElem?_eq_some_iff.1 hv).1
      simpa [CR] using this
    rw [e, List.getElem?_append]
    cases i with
    | zero =>
      simp at h; subst h
      rw [if_pos (by omega)]
      simpa using hv
    | succ i =>
      rw [if_neg (by omega), l, show (i + 1) * 5 + r - 5 = i * 5 + r by omega]
      exact crows_at fs i r c v (by simpa using h) hv

theorem add_off (b o j : Nat) : (⟨b, o, none⟩ : Addr).add j = ⟨b, o + j, none⟩ := by unfold Addr.add; split <;> simp_all

theorem gfs_of_own {w : World} {base : Nat} {v : Value} {fs : List FC} (h : w.ownsRow base 176 5 v fs.length (crows fs)) : GFs w (fun k => base ≤ k ∧ k < w.heap.size) fs v := by
  rcases h.2 with ⟨rfl, hn⟩ | ⟨g, cap, cur, rfl, hb, hg, hnc, hcm, hcs, htake⟩
  · exact ⟨none, 0, by rw [hn], by omega, by omega, fun _ => ⟨hn, rfl⟩, fun h => by omega⟩
  · refine ⟨_, cap, rfl, hnc, by unfold maxLen at hcm; omega, fun h => (by cases h), fun hpos => ⟨g, 0, rfl, ⟨hb, (Array.getElem?_eq_some_iff.1 hg).1⟩, fun i c hi j v hj => ?_⟩⟩
    have h2 := crows_at fs i j c v hi hj
    rw [← htake] at h2
    rw [cell_of_row w g _ cur 176 (0, 0) hg]
    rw [List.getElem?_take] at h2
    split at h2
    · simpa using h2
    · cases h2

/-- carried fields, as a slice in new blocks -/
theorem carried_gfs (B d : Nat) (fs : List FC) (v : Value) (w : World) (hf : FlOk w B d fs v) (hB : B ≤ w.heap.size) :
    Calls Tryz.prog 83 #[v] w fun e w' => ∃ v', e = .returned v' ∧ GFs w' (fun k => w.heap.size ≤ k ∧ k < w'.heap.size) fs v' ∧ Below w.heap.size w w' := by
  have hn : fs.length ≤ 765000000000 := by obtain ⟨A, cap, _, _, _, ⟨_, h⟩, _⟩ := hf; exact h
  refine (carried_any B d fs v w hf hB hn).mono ?_
  rintro e w' ⟨v', rfl, h1, h2⟩
  exact ⟨v', rfl, gfs_of_own h1, h2⟩

/-- an append of carried fields onto a row with room -/
theorem app149 (w : World) (base g n cap : Nat) (xs : List Value) (hown : w.ownsRow base 176 5 (.slice (some ⟨g, 0, none⟩) n cap) n xs) (S : Nat → Prop) (fs : List FC) (X : Value) (hX : GFs w S fs X) (hroom : n + fs.length ≤ cap) (ty : TypeId) :
    ∃ w', (Builtin.append_ #[149, 149] ty #[.slice (some ⟨g, 0, none⟩) n cap, X]).run Tryz.prog w = .ok (.slice (some ⟨g, 0, none⟩) (n + fs.length) cap) w' ∧
      w'.ownsRow base 176 5 (.slice (some ⟨g, 0, none⟩) (n + fs.length) cap) (n + fs.length) (xs ++ crows fs) ∧ w.grownBy w' (some g) := by
  obtain ⟨i, z, hi, hz, hsz, hby, hzs⟩ := row149.i
  obtain ⟨A, c, rfl, h2, h3, h4, h5⟩ := hX
  rcases A with _ | a
  · obtain ⟨h0, rfl⟩ := h4 rfl
    have e : fs = [] := List.length_eq_zero_iff.1 h0
    subst e
    refine ⟨w, ?_, by simpa [crows] using hown, ⟨rfl, rfl, rfl, Nat.le_refl _, fun _ _ _ => rfl⟩⟩
    simp at hroom
    simp [Builtin.append_, run_underlying u149, sizeOf, typeInfo, hi, Builtin.lenOf, hroom, run_firstCells_none, storeCells]
  · by_cases hp : 0 < fs.length
    · obtain ⟨b, o, e, hb, hc⟩ := h5 hp
      cases e
      exact run_append_own_spare w base 149 ty 176 i 5 u149 hi hsz g n cap xs hown ⟨b, o, none⟩ fs.length c (crows fs) (crows_len fs)
        (fun j u hu => by
          obtain ⟨i2, r, c2, rfl, hi2, hr⟩ := crows_get fs j u hu
          rw [add_off, ← Nat.add_assoc]
          exact hc i2 c2 hi2 r u hr)
        (fun u hu => by
          simp only [crows, List.mem_flatMap] at hu
          obtain ⟨c2, _, hu⟩ := hu
          simp [CR] at hu
          rcases hu with rfl | rfl | rfl | rfl | rfl <;> rfl)
        hroom
    · have h0 : fs.length = 0 := by omega
      have e : fs = [] := List.length_eq_zero_iff.1 h0
      subst e
      exact run_append_own_spare w base 149 ty 176 i 5 u149 hi hsz g n cap xs hown a 0 c [] rfl (fun j u hu => by simp at hu) (fun u hu => by simp at hu) hroom

/-- an append of nothing onto nothing -/
theorem app149nil (w : World) (S : Nat → Prop) (X : Value) (hX : GFs w S [] X) (ty : TypeId) :
    (Builtin.append_ #[149, 149] ty #[.slice none 0 0, X]).run Tryz.prog w = .ok (.slice none 0 0) w := by
  obtain ⟨i, z, hi, hz, hsz, hby, hzs⟩ := row149.i
  obtain ⟨A, c, rfl, h2, h3, h4, h5⟩ := hX
  rcases A with _ | a
  · obtain ⟨h0, rfl⟩ := h4 rfl
    simp [Builtin.append_, run_underlying u149, sizeOf, typeInfo, hi, Builtin.lenOf, run_firstCells_none]
  · have hf := run_firstCells_some (P := Tryz.prog) w i.size 0 a 0 c [] (by simp) (fun j u hu => by simp at hu)
    simp [Builtin.append_, run_underlying u149, sizeOf, typeInfo, hi, Builtin.lenOf, hf]
end Go.Proofs.Zap
