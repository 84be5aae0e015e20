/- a text of the claims over the seat; its order and aim: NOTES.md -/
import Derived.Test.YtpllbhobcnglnaaGreatDoorZJ3
namespace Go.Proofs.Zap
open Go Go.Proofs Go.RowKit

theorem drop_get (s : ByteArray) (k : Nat) (hk : k < s.size) : s.data.toList.drop k = s[k] :: s.data.toList.drop (k + 1) :=
  List.drop_eq_getElem_cons (by rw [Array.length_toList]; exact hk)

theorem get!_drop (s : ByteArray) (k i : Nat) : s.get! (k + i) = (s.data.toList.drop k).getD i 0 := by
  rw [get!_list, List.getD_eq_getElem?_getD, List.getD_eq_getElem?_getD, List.getElem?_drop]

/-- what 'unesc' says of a backslash's second letter, taken apart -/
theorem unesc_cases {c : UInt8} {t : List UInt8} {r n : Nat} (h : unesc (c :: t) = some (r, n)) :
    (c.toNat = 34 ∧ r = 34 ∧ n = 1) ∨ (c.toNat = 92 ∧ r = 92 ∧ n = 1) ∨ (c.toNat = 110 ∧ r = 10 ∧ n = 1) ∨ (c.toNat = 114 ∧ r = 13 ∧ n = 1) ∨ (c.toNat = 116 ∧ r = 9 ∧ n = 1) ∨
    (c.toNat = 117 ∧ n = 5 ∧ ∃ g : Nat → Nat, (∀ i, g i < 16) ∧ (∀ i, i < 4 → hexv (t.getD i 0) = some (g i)) ∧ 4 ≤ t.length ∧ hval g 4 = r ∧ (r < 55296 ∨ 57343 < r)) := by
  simp only [unesc] at h
  by_cases h1 : c = 34 ∨ c = 92
  · rw [if_pos h1] at h
    simp only [Option.some.injEq, Prod.mk.injEq] at h
    rcases h1 with rfl | rfl
    · left; exact ⟨rfl, h.1.symm, h.2.symm⟩
    · right; left; exact ⟨rfl, h.1.symm, h.2.symm⟩
  rw [if_neg h1] at h
  by_cases h2 : c = 110
  · rw [if_pos h2] at h; simp only [Option.some.injEq, Prod.mk.injEq] at h; subst h2
    exact .inr (.inr (.inl ⟨rfl, h.1.symm, h.2.symm⟩))
  rw [if_neg h2] at h
  by_cases h3 : c = 114
  · rw [if_pos h3] at h; simp only [Option.some.injEq, Prod.mk.injEq] at h; subst h3
    exact .inr (.inr (.inr (.inl ⟨rfl, h.1.symm, h.2.symm⟩)))
  rw [if_neg h3] at h
  by_cases h4 : c = 116
  · rw [if_pos h4] at h; simp only [Option.some.injEq, Prod.mk.injEq] at h; subst h4
    exact .inr (.inr (.inr (.inr (.inl ⟨rfl, h.1.symm, h.2.symm⟩))))
  rw [if_neg h4] at h
  by_cases h5 : c = 117
  · rw [if_pos h5] at h; subst h5
    refine .inr (.inr (.inr (.inr (.inr ⟨rfl, ?_⟩))))
    match t, h with
    | a :: b :: c :: d :: u, h =>
      simp only at h
      cases ha : hexv a with
      | none => rw [ha] at h; cases h
      | some a' =>
      cases hb : hexv b with
      | none => rw [ha, hb] at h; cases h
      | some b' =>
      cases hc : hexv c with
      | none => rw [ha, hb, hc] at h; cases h
      | some c' =>
      cases hd : hexv d with
      | none => rw [ha, hb, hc, hd] at h; cases h
      | some d' =>
        rw [ha, hb, hc, hd] at h
        simp only at h
        split at h
        · rename_i hr
          simp only [Option.some.injEq, Prod.mk.injEq] at h
          refine ⟨h.2.symm, fun i => if i = 0 then a' else if i = 1 then b' else if i = 2 then c' else d', ?_, ?_, by simp, ?_, ?_⟩
          · intro i; have := hexv_lt ha; have := hexv_lt hb; have := hexv_lt hc; have := hexv_lt hd
            simp only; repeat' split
            all_goals omega
          · intro i hi
            match i, hi with
            | 0, _ => simpa using ha
            | 1, _ => simpa using hb
            | 2, _ => simpa using hc
            | 3, _ => simpa using hd
          · rw [← h.1]; simp only [hval]; simp; omega
          · rw [← h.1]; exact hr
        · cases h
    | [], h => cases h
    | [_], h => cases h
    | [_, _], h => cases h
    | [_, _, _], h => cases h
  · rw [if_neg h5] at h; cases h

set_option maxHeartbeats 8000000 in
set_option maxRecDepth 100000 in
theorem unescaped_any (J k r n : Nat) (s : ByteArray) (d : Int) (w : World) (h : Jr w J s k d) (hs : s.size ≤ 1000000)
    (hu : unesc (s.data.toList.drop k) = some (r, n)) :
    Calls Tryz.prog 179 #[.pointer (some ⟨J, 0, none⟩)] w fun e w' => e = .returned (.tuple #[.int .i32 r, .bool true]) ∧ Jr w' J s ((k + n : Nat) : Int) d ∧ Keep w.heap.size J w w' := by
  have c0 := h.c0
  have c1 := h.c1
  have f1 := h.f 1
  have hk : k < s.size := by
    apply Nat.lt_of_not_le; intro hge
    rw [List.drop_of_length_le (by rw [Array.length_toList]; exact hge)] at hu; cases hu
  have hd : decide ((s.size : Int) ≤ (k : Int)) = false := by simp; omega
  have hkn : (k : Int) < (s.size : Int) := by omega
  have hl : (s.data.toList.drop (k + 1)).length = s.size - (k + 1) := by rw [List.length_drop, Array.length_toList]; rfl
  have hg1 : ∀ i, (s.data.toList.drop (k + 1)).getD i 0 = s.get! (k + 1 + i) := fun i => (get!_drop s (k + 1) i).symm
  rw [drop_get s k hk] at hu
  have HJ := Lib.hid h
  have HG1 := Lib.hid hg1
  clear hg1
  have close : ∀ nq, Jr ((w.drewN nq).setCell ⟨J, 1, none⟩ (.int .i64 ((k : Int) + 1))) J s ((k + 1 : Nat) : Int) d ∧ Keep w.heap.size J w ((w.drewN nq).setCell ⟨J, 1, none⟩ (.int .i64 ((k : Int) + 1))) :=
    fun nq => ⟨by rw [show ((k + 1 : Nat) : Int) = (k : Int) + 1 by omega]; exact (HJ.out.drew _).set1 _, keep1 _ _ _ _ _⟩
  have CL := Lib.hid close
  clear close h
  rcases unesc_cases hu with ⟨hc, rfl, rfl⟩ | ⟨hc, rfl, rfl⟩ | ⟨hc, rfl, rfl⟩ | ⟨hc, rfl, rfl⟩ | ⟨hc, rfl, rfl⟩ | ⟨hc, rfl, g, hg16, hgx, hlen, hval4, hr⟩
  iterate 5
    · clear hu
      go_enter Tryz.func179, Tryz.ntmps179
      go_wp2_with fail
      go_quiet (fail)
      go_wp2_with fail
      go_quiet (fail)
      go_wp2_with fail
      go_ret2
      exact ⟨rfl, CL.out _⟩
  · clear hu
    have HGX := Lib.hid hgx
    have HG16 := Lib.hid hg16
    have HV := Lib.hid hval4
    clear hgx hg16 hval4
    go_enter Tryz.func179, Tryz.ntmps179
    go_wp2_with fail
    go_quiet (fail)
    go_wp2_with fail
    go_quiet (fail)
    go_wp2_with fail
    refine (hex_any J (k + 1) s d g _ (CL.out _).1 (by omega) hs (fun i hi => by rw [← HG1.out]; exact HGX.out i hi) HG16.out).mono ?_
    rintro e w1 ⟨rfl, hj1, hk1⟩
    rw [HV.out]
    have HJ1 := Lib.hid hj1
    have HK1 := Lib.hid ((CL.out _).2.trans (hk1.mono (by simp [World.setCell])))
    clear hj1 hk1
    rcases hr with hr | hr
    · go_wp2_with fail
      go_ret2
      exact ⟨rfl, HJ1.out, HK1.out⟩
    · go_wp2_with fail
      go_ret2
      exact ⟨rfl, HJ1.out, HK1.out⟩
end Go.Proofs.Zap
