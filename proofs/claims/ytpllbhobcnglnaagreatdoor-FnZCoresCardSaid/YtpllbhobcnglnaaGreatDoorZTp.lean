/- a text of the claims over the seat; its order and aim: NOTES.md -/
import Derived.Test.YtpllbhobcnglnaaGreatDoorZT4
import Derived.Deep.RegionHeld3
namespace Go.Proofs.Zap
open Go Go.Proofs Go.RowKit

def zoneB (a : Int) (sep : List UInt8) : List UInt8 :=
  if a = 0 then [90] else (if a < 0 then 45 else 43) :: (digs 2 (a.natAbs / 3600) ++ (sep ++ digs 2 (a.natAbs / 60 % 60)))

theorem str3 (a b c : List UInt8) : str a ++ str b ++ str c = str (a ++ (b ++ c)) := by rw [str_append, str_append, List.append_assoc]

theorem digs_le (k n : Nat) : (digs k n).length ≤ k := Nat.le_of_eq (digs_len k n)

set_option maxRecDepth 100000 in
set_option maxHeartbeats 800000 in
theorem zone_any (a : Int) (sep : List UInt8) (hsep : sep.length ≤ 10) (h0 : -86400 < a) (h1 : a < 86400) (w : World) (hT : Tabs w) (h13 : 13 ≤ w.heap.size) :
    Calls Tryz.prog 68 #[.int .i64 a, .string (str sep)] w fun e w' => e = .returned (.string (str (zoneB a sep))) ∧ Below w.heap.size w w' := by
  by_cases hz : a = 0
  · subst hz
    go_enter Tryz.func68, Tryz.ntmps68
    go_wp2_with fail
    go_ret
    exact ⟨rfl, Below.refl _ _⟩
  by_cases hn : a < 0
  · obtain ⟨n, rfl⟩ : ∃ n : Nat, a = -(n : Int) := ⟨a.natAbs, by omega⟩
    have hzz : (-(n : Int) == 0) = false := by simp; omega
    have hr : zoneB (-(n : Int)) sep = [45] ++ (digs 2 (n / 3600) ++ (sep ++ digs 2 (n / 60 % 60))) := by
      unfold zoneB; rw [if_neg hz, if_pos hn, Int.natAbs_neg, Int.natAbs_natCast]; rfl
    rw [hr]
    clear hr
    have l1 := digs_le 2 (n / 3600)
    have l2 := digs_le 2 (n / 60 % 60)
    go_enter Tryz.func68, Tryz.ntmps68
    go_wp2_with fail
    refine (paddedI _ _ (n / 3600) 1 (by omega) (by omega) (by omega) (by omega) (by omega) w hT h13).mono ?_
    rintro e w1 ⟨rfl, hb1⟩
    have hs1 := hb1.size
    have HB1 := Lib.hid hb1
    clear hb1
    go_wp2_with fail
    refine (paddedI _ _ (n / 60 % 60) 1 (by omega) (by omega) (by omega) (by omega) (by omega) w1 (hT.below HB1.out h13) (by omega)).mono ?_
    rintro e w2 ⟨rfl, hb2⟩
    have HB2 := Lib.hid (HB1.out.trans (hb2.mono hs1))
    clear hb2
    go_wp2_with fail
    go_ret
    refine ⟨?_, HB2.out⟩
    apply ret_eq
    show Value.string (str [45] ++ str _ ++ str sep ++ str _) = _
    simp only [str_append, List.append_assoc]
    rfl
  · obtain ⟨n, rfl⟩ : ∃ n : Nat, a = (n : Int) := ⟨a.natAbs, by omega⟩
    have hzz : ((n : Int) == 0) = false := by simp; omega
    have hr : zoneB (n : Int) sep = [43] ++ (digs 2 (n / 3600) ++ (sep ++ digs 2 (n / 60 % 60))) := by
      unfold zoneB; rw [if_neg hz, if_neg hn, Int.natAbs_natCast]; rfl
    rw [hr]
    clear hr
    have l1 := digs_le 2 (n / 3600)
    have l2 := digs_le 2 (n / 60 % 60)
    go_enter Tryz.func68, Tryz.ntmps68
    go_wp2_with fail
    refine (paddedI _ _ (n / 3600) 1 (by omega) (by omega) (by omega) (by omega) (by omega) w hT h13).mono ?_
    rintro e w1 ⟨rfl, hb1⟩
    have hs1 := hb1.size
    have HB1 := Lib.hid hb1
    clear hb1
    go_wp2_with fail
    refine (paddedI _ _ (n / 60 % 60) 1 (by omega) (by omega) (by omega) (by omega) (by omega) w1 (hT.below HB1.out h13) (by omega)).mono ?_
    rintro e w2 ⟨rfl, hb2⟩
    have HB2 := Lib.hid (HB1.out.trans (hb2.mono hs1))
    clear hb2
    go_wp2_with fail
    go_ret
    refine ⟨?_, HB2.out⟩
    apply ret_eq
    show Value.string (str [43] ++ str _ ++ str sep ++ str _) = _
    simp only [str_append, List.append_assoc]
    rfl

def clockB (y m d h mi s : Nat) : List UInt8 :=
  digs 4 y ++ ([45] ++ (digs 2 m ++ ([45] ++ (digs 2 d ++ ([84] ++ (digs 2 h ++ ([58] ++ (digs 2 mi ++ ([58] ++ digs 2 s)))))))))

theorem pad4 (y : Nat) (hy : y < 10000) (w : World) (hT : Tabs w) (h13 : 13 ≤ w.heap.size) :
    Calls Tryz.prog 67 #[.int .i64 y, .int .i64 4] w fun e w' => e = .returned (.string (str (digs 4 y))) ∧ Below w.heap.size w w' :=
  paddedI _ _ y 3 rfl (by omega) (by omega) (by omega) (by omega) w hT h13
theorem pad2 (y : Nat) (hy : y < 100) (w : World) (hT : Tabs w) (h13 : 13 ≤ w.heap.size) :
    Calls Tryz.prog 67 #[.int .i64 y, .int .i64 2] w fun e w' => e = .returned (.string (str (digs 2 y))) ∧ Below w.heap.size w w' :=
  paddedI _ _ y 1 rfl (by omega) (by omega) (by omega) (by omega) w hT h13

/-- what a region keeps: the library's tables, the words of a block of six numbers, and all that lay below -/
abbrev Clk (w : World) (B : Nat) (y m d h mi s : Int) (w' : World) : Prop :=
  Hid (Tabs w') ∧ Hid (Below w.heap.size w w') ∧ 13 ≤ w'.heap.size ∧ B < w'.heap.size ∧ w.heap.size ≤ w'.heap.size ∧
  w'.cell? ⟨B, 0, none⟩ = some (.int .i64 y) ∧ w'.cell? ⟨B, 1, none⟩ = some (.int .i64 m) ∧ w'.cell? ⟨B, 2, none⟩ = some (.int .i64 d) ∧ w'.cell? ⟨B, 3, none⟩ = some (.int .i64 h) ∧ w'.cell? ⟨B, 4, none⟩ = some (.int .i64 mi) ∧ w'.cell? ⟨B, 5, none⟩ = some (.int .i64 s)
theorem clk_keep {w : World} {B : Nat} {y m d h mi s : Int} {W W' : World} (hb : Below W.heap.size W W') (k : Clk w B y m d h mi s W) : Clk w B y m d h mi s W' := by
  obtain ⟨k1, k2, k3, k4, k5, c0, c1, c2, c3, c4, c5⟩ := k
  have hs := hb.size
  exact ⟨Lib.hid (k1.out.below hb k3), Lib.hid (k2.out.trans (hb.mono k5)), by omega, by omega, by omega, (hb.cell (p := ⟨B, 0, none⟩) k4).trans c0, (hb.cell (p := ⟨B, 1, none⟩) k4).trans c1, (hb.cell (p := ⟨B, 2, none⟩) k4).trans c2, (hb.cell (p := ⟨B, 3, none⟩) k4).trans c3, (hb.cell (p := ⟨B, 4, none⟩) k4).trans c4, (hb.cell (p := ⟨B, 5, none⟩) k4).trans c5⟩

theorem cat_run (x y : List UInt8) (z : ByteArray) (hz : z = str y) (h : x.length + y.length ≤ 1000000) (w : World) : (Op.stringOp .add (str x) z).run Tryz.prog w = .ok (.string (str (x ++ y))) w := by
  subst hz
  rw [run_string_add_sum w _ _ (by rw [str_size, str_size]; omega), str_append]

set_option maxHeartbeats 4000000 in
set_option maxRecDepth 100000 in
theorem zclock_any (y m d h mi s : Nat) (n : Int) (hy : y < 10000) (hm : m < 100) (hd : d < 100) (hh : h < 100) (hmi : mi < 100) (hs : s < 100) (w : World) (hT : Tabs w) (h13 : 13 ≤ w.heap.size) :
    Calls Tryz.prog 66 #[.agg (mom y m d h mi s n)] w fun e w' => e = .returned (.string (str (clockB y m d h mi s))) ∧ Below w.heap.size w w' := by
  have l0 := digs_le 4 y
  have l1 := digs_le 2 m
  have l2 := digs_le 2 d
  have l3 := digs_le 2 h
  have l4 := digs_le 2 mi
  have l5 := digs_le 2 s
  have k0 := cat_run (digs 4 y) ([45]) ⟨#[45]⟩ rfl (by simp [digs_len])
  obtain ⟨C0, hC0⟩ : ∃ C : ByteArray, C = str (digs 4 y ++ [45]) := ⟨_, rfl⟩
  rw [← hC0] at k0
  have k1 := cat_run (digs 4 y ++ [45]) (digs 2 m) (str (digs 2 m)) rfl (by simp [digs_len])
  obtain ⟨C1, hC1⟩ : ∃ C : ByteArray, C = str (digs 4 y ++ [45] ++ digs 2 m) := ⟨_, rfl⟩
  rw [← hC1] at k1
  rw [← hC0] at k1
  have k2 := cat_run (digs 4 y ++ [45] ++ digs 2 m) ([45]) ⟨#[45]⟩ rfl (by simp [digs_len])
  obtain ⟨C2, hC2⟩ : ∃ C : ByteArray, C = str (digs 4 y ++ [45] ++ digs 2 m ++ [45]) := ⟨_, rfl⟩
  rw [← hC2] at k2
  rw [← hC1] at k2
  have k3 := cat_run (digs 4 y ++ [45] ++ digs 2 m ++ [45]) (digs 2 d) (str (digs 2 d)) rfl (by simp [digs_len])
  obtain ⟨C3, hC3⟩ : ∃ C : ByteArray, C = str (digs 4 y ++ [45] ++ digs 2 m ++ [45] ++ digs 2 d) := ⟨_, rfl⟩
  rw [← hC3] at k3
  rw [← hC2] at k3
  have k4 := cat_run (digs 4 y ++ [45] ++ digs 2 m ++ [45] ++ digs 2 d) ([84]) ⟨#[84]⟩ rfl (by simp [digs_len])
  obtain ⟨C4, hC4⟩ : ∃ C : ByteArray, C = str (digs 4 y ++ [45] ++ digs 2 m ++ [45] ++ digs 2 d ++ [84]) := ⟨_, rfl⟩
  rw [← hC4] at k4
  rw [← hC3] at k4
  have k5 := cat_run (digs 4 y ++ [45] ++ digs 2 m ++ [45] ++ digs 2 d ++ [84]) (digs 2 h) (str (digs 2 h)) rfl (by simp [digs_len])
  obtain ⟨C5, hC5⟩ : ∃ C : ByteArray, C = str (digs 4 y ++ [45] ++ digs 2 m ++ [45] ++ digs 2 d ++ [84] ++ digs 2 h) := ⟨_, rfl⟩
  rw [← hC5] at k5
  rw [← hC4] at k5
  have k6 := cat_run (digs 4 y ++ [45] ++ digs 2 m ++ [45] ++ digs 2 d ++ [84] ++ digs 2 h) ([58]) ⟨#[58]⟩ rfl (by simp [digs_len])
  obtain ⟨C6, hC6⟩ : ∃ C : ByteArray, C = str (digs 4 y ++ [45] ++ digs 2 m ++ [45] ++ digs 2 d ++ [84] ++ digs 2 h ++ [58]) := ⟨_, rfl⟩
  rw [← hC6] at k6
  rw [← hC5] at k6
  have k7 := cat_run (digs 4 y ++ [45] ++ digs 2 m ++ [45] ++ digs 2 d ++ [84] ++ digs 2 h ++ [58]) (digs 2 mi) (str (digs 2 mi)) rfl (by simp [digs_len])
  obtain ⟨C7, hC7⟩ : ∃ C : ByteArray, C = str (digs 4 y ++ [45] ++ digs 2 m ++ [45] ++ digs 2 d ++ [84] ++ digs 2 h ++ [58] ++ digs 2 mi) := ⟨_, rfl⟩
  rw [← hC7] at k7
  rw [← hC6] at k7
  have k8 := cat_run (digs 4 y ++ [45] ++ digs 2 m ++ [45] ++ digs 2 d ++ [84] ++ digs 2 h ++ [58] ++ digs 2 mi) ([58]) ⟨#[58]⟩ rfl (by simp [digs_len])
  obtain ⟨C8, hC8⟩ : ∃ C : ByteArray, C = str (digs 4 y ++ [45] ++ digs 2 m ++ [45] ++ digs 2 d ++ [84] ++ digs 2 h ++ [58] ++ digs 2 mi ++ [58]) := ⟨_, rfl⟩
  rw [← hC8] at k8
  rw [← hC7] at k8
  have k9 := cat_run (digs 4 y ++ [45] ++ digs 2 m ++ [45] ++ digs 2 d ++ [84] ++ digs 2 h ++ [58] ++ digs 2 mi ++ [58]) (digs 2 s) (str (digs 2 s)) rfl (by simp [digs_len])
  obtain ⟨C9, hC9⟩ : ∃ C : ByteArray, C = str (digs 4 y ++ [45] ++ digs 2 m ++ [45] ++ digs 2 d ++ [84] ++ digs 2 h ++ [58] ++ digs 2 mi ++ [58] ++ digs 2 s) := ⟨_, rfl⟩
  rw [← hC9] at k9
  rw [← hC8] at k9
  have HC := Lib.hid hC9
  clear hC0 hC1 hC2 hC3 hC4 hC5 hC6 hC7 hC8 hC9
  unfold mom
  go_enter Tryz.func66, Tryz.ntmps66
  go_wp2_with fail
  have hB := Blk.new w 115 (mom y m d h mi s n)
  have hbel : Below w.heap.size w (w.alloc (.cells (mom y m d h mi s n) 115)) := (Below.refl _ _).alloc (Nat.le_refl _) _
  have hsz : w.heap.size < (w.alloc (.cells (mom y m d h mi s n) 115)).heap.size := by simp
  unfold mom at hB hbel hsz
  generalize w.alloc _ = w1 at hB hbel hsz ⊢
  have hk : Clk w w.heap.size y m d h mi s w1.drew := by
    have c0 := hB.cell 0
    have c1 := hB.cell 1
    have c2 := hB.cell 2
    have c3 := hB.cell 3
    have c4 := hB.cell 4
    have c5 := hB.cell 5
    simp at c0 c1 c2 c3 c4 c5
    exact ⟨Lib.hid ((hT.below hbel h13).below (Below.refl _ _).drew (Nat.le_refl _)), Lib.hid hbel.drew, by simp; omega, by simp; omega, by simp; omega, c0, c1, c2, c3, c4, c5⟩
  have HK := Lib.hid hk
  clear hB hbel hsz hk hT h13
  go_region_held3 (Clk w w.heap.size y m d h mi s) (first | exact HK.out | (go_split_ands; exact clk_keep hb ⟨by assumption, by assumption, by assumption, by assumption, by assumption, by assumption, by assumption, by assumption, by assumption, by assumption, by assumption⟩)) (first | (go_at_call 67; go_split_ands; (with_reducible refine (pad4 _ hy _ ?_ ?_).mono ?_); exact Hid.out (by assumption); assumption; rintro e w' ⟨rfl, hb⟩) | (go_at_call 67; go_split_ands; (with_reducible refine (pad2 _ ?_ _ ?_ ?_).mono ?_); assumption; exact Hid.out (by assumption); assumption; rintro e w' ⟨rfl, hb⟩))
  go_split_ands
  have hfin : Below w.heap.size w _ := Hid.out (by assumption)
  have HF := Lib.hid hfin
  clear hfin
  go_wp2_with fail
  go_ret
  refine ⟨ret_eq ?_, HF.out⟩
  show Value.string C9 = _
  rw [HC.out]
  simp [clockB, List.append_assoc]
end Go.Proofs.Zap

/- trailing noughts, in plain lists -/
namespace Go.Proofs.Zap

def trim0 (l : List UInt8) : List UInt8 := (l.reverse.dropWhile (· == 48)).reverse

theorem trim0_zero (l : List UInt8) : trim0 (l ++ [48]) = trim0 l := by
  unfold trim0; rw [List.reverse_append]; simp
theorem trim0_stop (l : List UInt8) (c : UInt8) (h : c ≠ 48) : trim0 (l ++ [c]) = l ++ [c] := by
  unfold trim0; rw [List.reverse_append]; simp [h]
theorem trim0_prefix (p l : List UInt8) (h : trim0 l ≠ []) : trim0 (p ++ l) = p ++ trim0 l := by
  unfold trim0 at *
  rw [List.reverse_append, List.dropWhile_append]
  have : (l.reverse.dropWhile (· == 48)).isEmpty = false := by
    cases h2 : l.reverse.dropWhile (· == 48) with
    | nil => rw [h2] at h; exact absurd rfl h
    | cons a b => rfl
  rw [this]
  simp
theorem trim0_some {l : List UInt8} {b : UInt8} (hb : b ∈ l) (h : b ≠ 48) : trim0 l ≠ [] := by
  intro e
  unfold trim0 at e
  have e2 : l.reverse.dropWhile (· == 48) = [] := by simpa using congrArg List.reverse e
  have key : ∀ (m : List UInt8), m.dropWhile (· == 48) = [] → ∀ x ∈ m, x = 48 := by
    intro m
    induction m with
    | nil => intro _ x hx; cases hx
    | cons y m ih =>
      intro hm x hx
      rw [List.dropWhile_cons] at hm
      split at hm
      · rename_i hy
        rcases List.mem_cons.1 hx with rfl | hx
        · simpa using hy
        · exact ih hm x hx
      · cases hm
  exact h (key _ e2 b (List.mem_reverse.2 hb))
theorem trim0_le (l : List UInt8) : (trim0 l).length ≤ l.length := by
  unfold trim0
  rw [List.length_reverse]
  have := (List.dropWhile_sublist (fun x : UInt8 => x == 48) (l := l.reverse)).length_le
  rwa [List.length_reverse] at this
theorem trim0_mem {l : List UInt8} {b : UInt8} (h : b ∈ trim0 l) : b ∈ l := by
  unfold trim0 at h
  rw [List.mem_reverse] at h
  exact List.mem_reverse.1 ((List.dropWhile_sublist _).subset h)
theorem snoc_of {l : List UInt8} (h : trim0 l ≠ []) : ∃ m c, l = m ++ [c] := by
  rcases List.eq_nil_or_concat l with rfl | ⟨m, c, rfl⟩
  · exact absurd rfl h
  · exact ⟨m, c, by simp⟩
end Go.Proofs.Zap
