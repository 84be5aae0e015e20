/- a text of the claims over the seat; its order and aim: NOTES.md -/
import Derived.Test.YtpllbhobcnglnaaGreatDoorZJ4
import Derived.Lib.RuneBytes
namespace Go.Proofs.Zap
open Go Go.Proofs Go.RowKit

theorem readT_cases {c : UInt8} {u t rest : List UInt8} (h : readT (c :: u) = some (t, rest)) :
    (c.toNat = 34 ∧ t = [] ∧ rest = u) ∨
    (c.toNat = 92 ∧ ∃ r n t3, unesc u = some (r, n) ∧ readT (u.drop n) = some (t3, rest) ∧ t = runeB r ++ t3) ∨
    (32 ≤ c.toNat ∧ c.toNat ≠ 34 ∧ c.toNat ≠ 92 ∧ good (c :: u) = true ∧ ∃ t3, readT ((c :: u).drop (dec (c :: u)).2) = some (t3, rest) ∧ t = (c :: u).take (dec (c :: u)).2 ++ t3) := by
  rw [readT] at h
  by_cases h1 : c = 34
  · rw [if_pos h1] at h
    simp only [Option.some.injEq, Prod.mk.injEq] at h
    subst h1
    exact .inl ⟨rfl, h.1.symm, h.2.symm⟩
  rw [if_neg h1] at h
  by_cases h2 : c.toNat < 32
  · rw [if_pos h2] at h; cases h
  rw [if_neg h2] at h
  by_cases h3 : c = 92
  · rw [if_pos h3] at h
    subst h3
    right; left
    refine ⟨rfl, ?_⟩
    cases hu : unesc u with
    | none => rw [hu] at h; cases h
    | some x =>
      obtain ⟨r, n⟩ := x
      rw [hu] at h
      simp only at h
      cases hr : readT (u.drop n) with
      | none => rw [hr] at h; cases h
      | some y =>
        rw [hr] at h
        simp only [Option.map_some, Option.some.injEq, Prod.mk.injEq] at h
        exact ⟨r, n, y.1, rfl, by rw [hr, ← h.2], h.1.symm⟩
  rw [if_neg h3] at h
  by_cases h4 : good (c :: u) = true
  · rw [if_pos h4] at h
    right; right
    refine ⟨by omega, fun e => h1 (UInt8.toNat_inj.1 e), fun e => h3 (UInt8.toNat_inj.1 e), h4, ?_⟩
    cases hr : readT ((c :: u).drop (dec (c :: u)).2) with
    | none => rw [hr] at h; cases h
    | some y =>
      rw [hr] at h
      simp only [Option.map_some, Option.some.injEq, Prod.mk.injEq] at h
      exact ⟨y.1, by rw [← h.2], h.1.symm⟩
  · rw [if_neg h4] at h; cases h

theorem unesc_small {t : List UInt8} {r n : Nat} (h : unesc t = some (r, n)) : 1 ≤ n ∧ (r < 55296 ∨ 57343 < r) ∧ r < 65536 ∧ n ≤ t.length := by
  cases t with
  | nil => cases h
  | cons c u =>
    rcases unesc_cases h with ⟨_, rfl, rfl⟩ | ⟨_, rfl, rfl⟩ | ⟨_, rfl, rfl⟩ | ⟨_, rfl, rfl⟩ | ⟨_, rfl, rfl⟩ | ⟨_, rfl, g, hg, _, hl, hv, hr⟩
    iterate 5 (simp)
    have := hval_lt g hg 4
    refine ⟨by omega, hr, ?_, by simp only [List.length_cons]; omega⟩
    rw [← hv]; omega

theorem runeCells_eq {r : Nat} (h1 : r < 55296 ∨ 57343 < r) (h2 : r < 65536) : Lib.runeCells (r : Int) = bytesV (runeB r) := by
  have n8 : ∀ x : Nat, x < 256 → ((UInt8.ofNat x).toNat : Int) = (x : Int) := fun x hx => by simp; omega
  unfold Lib.runeCells runeB bytesV
  by_cases a : r < 128
  · rw [if_pos a, Lib.encodeRuneZ_one (by omega) (by omega)]; simp; omega
  rw [if_neg a]
  by_cases b : r < 2048
  · rw [if_pos b, Lib.encodeRuneZ_two (by omega) (by omega)]
    simp only [List.map_cons, List.map_nil]
    rw [n8 _ (by omega), n8 _ (by omega)]
    simp only [Int.natCast_add, Int.natCast_ediv, Int.natCast_emod]; rfl
  · rw [if_neg b, Lib.encodeRuneZ_three (by omega)]
    simp only [List.map_cons, List.map_nil]
    rw [n8 _ (by omega), n8 _ (by omega), n8 _ (by omega)]
    simp only [Int.natCast_add, Int.natCast_ediv, Int.natCast_emod]; rfl

/-- the place at which a reader is -/
def atOf (w : World) (J : Nat) : Nat := match w.cell? ⟨J, 1, none⟩ with | some (.int _ n) => n.toNat | _ => 0
theorem Jr.at {w : World} {J : Nat} {s : ByteArray} {a d : Int} (h : Jr w J s a d) : atOf w J = a.toNat := by unfold atOf; rw [h.c1]

theorem ownsRow_keep {w w' : World} {base J : Nat} {v : Value} {n : Nat} {xs : List Value} {e : TypeId} {s : Nat} (h : w.ownsRow base e s v n xs) (hb : Keep w.heap.size J w w') (hJ : J < base) :
    w'.ownsRow base e s v n xs := by
  refine ⟨h.1, ?_⟩
  rcases h.2 with h2 | ⟨g, cap, cur, hv, hg, hh, r⟩
  · exact .inl h2
  · exact .inr ⟨g, cap, cur, hv, hg, (hb.block g (Array.getElem?_eq_some_iff.1 hh).1 (by omega)).trans hh, r⟩
end Go.Proofs.Zap
