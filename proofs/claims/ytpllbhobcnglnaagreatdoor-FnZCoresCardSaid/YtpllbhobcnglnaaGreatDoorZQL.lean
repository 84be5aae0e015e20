/- a text of the claims over the seat; its order and aim: NOTES.md -/
import Derived.Test.YtpllbhobcnglnaaGreatDoorZQI
import Derived.Maps.AppendAt
import Derived.Test.YtpllbhobcnglnaaGreatDoorZT1
namespace Go.Proofs.Zap
open Go Go.Proofs Go.RowKit

theorem wpList_app1at {t e : TypeId} {size bytes : Nat} (R : RowT t e size bytes) {ops : Array Oper} {rest : List Oper} {o : Oper} {a : Act} {Q : Exit → Act → World → Prop} (w : World) (hgd : o.guard = none) (s x : Operand)
    (ho : o.op = .call { callee := .builtin .append, args := #[s, x], argTypes := #[t, t] })
    (base : Nat) (v : Value) (n : Nat) (xs : List Value) (hs : a.eval s = v) (hown : w.ownsRow base e size v n xs)
    (g : Nat) (cs : Array Value) (hx : a.eval x = .slice (some ⟨g, 0, none⟩) 1 1) (hg : w.heap[g]? = some (.cells cs e (0, 0))) (hl : cs.size = size) (h1 : ∀ u ∈ cs.toList, u.oneCell' = true)
    (h63 : n + 1 ≤ maxLen) (hbytes : (n + 1) * bytes ≤ 140737488355328) (hbase : base ≤ w.heap.size)
    (h : ∀ v' w', w'.ownsRow base e size v' (n + 1) (xs ++ cs.toList) → w.grownBy w' v.ownBlock → (v'.ownBlock = v.ownBlock ∨ v'.ownBlock = some w.heap.size) → wpList Tryz.prog ops Q rest (a.put o.dst v') w') : wpList Tryz.prog ops Q (o :: rest) a w := by
  obtain ⟨i, z, hi, hz, hsz, hby, hzs⟩ := R.i
  refine wpList_append_own_at w hgd s x t ho base e i z size bytes R.u hi hz hsz hby hzs R.pos v n xs hs hown ⟨g, 0, none⟩ 1 1 cs.toList hx (by simp [hl]) ?_ h1 h63 hbytes hbase fun v' w' h2 h3 _ h4 => h v' w' h2 h3 h4
  intro j u hu
  have hadd : (⟨g, 0, none⟩ : Addr).add j = ⟨g, j, none⟩ := by unfold Addr.add; split <;> simp_all
  rw [hadd, cell_of_row w g j cs e (0, 0) hg]
  simpa using hu

theorem u207 : Tryz.prog.underlying 207 = some (.slice 123) := by kernel_rfl
theorem row207 : RowT 207 123 1 16 := rowT_of u207 z123 s123 y123 rfl (by decide)
end Go.Proofs.Zap

namespace Go.Proofs.Zap
open Go Go.Proofs Go.RowKit

/-- a core as coreOf builds it -/
def RepU (w : World) (N : Nat) (K : KT FC) (S : Nat → Prop) (v : Value) : Prop := RepG True (fun _ _ _ => False) w N K S v
theorem RepU.keep {w w' : World} {N : Nat} {K : KT FC} {S : Nat → Prop} {v : Value} (h : RepU w N K S v) (hk : ∀ k, S k → w'.heap[k]? = w.heap[k]?) : RepU w' N K S v := RepG.keep (fun _ _ _ _ h => h) h hk
theorem RepF.toU {w : World} {N : Nat} {K : KT FC} {S : Nat → Prop} {v : Value} (h : RepF w N K S v) : RepU w N K S v := RepG.weaken (fun h => h.elim) (fun _ _ _ h => h) h

/-- where the leaves of kid i begin -/
def offN {F : Type} (c : Nat) (kids : Nat → CT F) (i : Nat) : Nat := c + sumN i fun j => cnt (kids j)
theorem offN_succ {F : Type} (c : Nat) (kids : Nat → CT F) (i : Nat) : offN c kids (i + 1) = offN c kids i + cnt (kids i) := by simp [offN, sumN]; omega

/-- what coreOf answers -/
def CoP (w : World) (N : Nat) (t : CT FC) (c : Nat) (e0 s0 : Value) (e : Ending) (w' : World) : Prop :=
  Kept (fun k => k = N) w w' ∧ ((makes t = true ∧ ∃ v, e = .returned (.tuple #[v, .bool true]) ∧ Blk w' N 128 #[e0, .int .i64 ((c + cnt t : Nat) : Int), s0] ∧ RepU w' N (bld t c) (NewB w w') v) ∨
    (makes t = false ∧ e = .returned (.tuple #[.nilIface, .bool false]) ∧ ∃ x : Int, Blk w' N 128 #[e0, .int .i64 x, s0]))

def vlist (vs : Nat → Value) (n : Nat) : List Value := (List.range n).map vs
theorem vlist_succ (vs : Nat → Value) (n : Nat) : vlist vs (n + 1) = vlist vs n ++ [vs n] := by simp [vlist, List.range_succ]
theorem vlist_congr {vs vs' : Nat → Value} {n : Nat} (h : ∀ i, i < n → vs i = vs' i) : vlist vs n = vlist vs' n := List.map_congr_left fun i hi => h i (List.mem_range.1 hi)
theorem vlist_get (vs : Nat → Value) (n i : Nat) (h : i < n) : (vlist vs n)[i]? = some (vs i) := by simp [vlist, h]

/-- what stands in the middle of coreOf's loop: X is the core's copy, u the kids that are built -/
structure CoI (w wr : World) (N n j c : Nat) (kids : Nat → CT FC) (xs : Array Value) (e0 s0 : Value) (u : Value) : Prop where
  kept : Kept (fun k => k = N) w wr
  x : Blk wr w.heap.size 41 xs
  nb : Blk wr N 128 #[e0, .int .i64 ((offN c kids j : Nat) : Int), s0]
  made : ∀ i, i < j → makes (kids i) = true
  own : ∃ (vs : Nat → Value) (Sk : Nat → Nat → Prop), wr.ownsRow (w.heap.size + 1) 123 1 u j (vlist vs j) ∧ ∀ i, i < j → RepU wr N (bld (kids i) (offN c kids i)) (Sk i) (vs i) ∧ (∀ k, Sk i k → w.heap.size < k ∧ k < wr.heap.size) ∧
    (∀ k, Sk i k → u.ownBlock ≠ some k) ∧ ∀ i2, i2 < j → i2 ≠ i → ∀ k, Sk i k → ¬ Sk i2 k

theorem CoI.own_alloc {w wr : World} {N n j c : Nat} {kids : Nat → CT FC} {xs : Array Value} {e0 s0 u : Value} (h : CoI w wr N n j c kids xs e0 s0 u) (hN : N < w.heap.size) {W w' : World} (hW : Below wr.heap.size wr W) (hk : Kept (fun k => k = N) W w') :
    ∃ vs, w'.ownsRow (w.heap.size + 1) 123 1 u j (vlist vs j) ∧ w.heap.size + 1 ≤ w'.heap.size := by
  obtain ⟨vs, Sk, h1, _⟩ := h.own
  have hx := h.x.lt
  have hs1 := hW.size
  have hs2 := hk.size
  refine ⟨vs, ?_, by omega⟩
  have hg1 : wr.grownBy w' (some N) := ⟨hk.os.trans hW.os, hk.tape.trans hW.tape, hk.output.trans hW.output, by omega, fun k hk1 hne => (hk.block k (by omega) fun e => hne (by rw [e])).trans (hW.block k hk1)⟩
  refine h1.kept hg1 ?_
  rcases hu : u.ownBlock with _ | g
  · exact .inl rfl
  · refine .inr fun e => ?_
    have := (h1.lt g hu).1
    injection e with e
    omega

theorem CoI.step {w wr : World} {N n j c : Nat} {kids : Nat → CT FC} {xs : Array Value} {e0 s0 u : Value} (h : CoI w wr N n j c kids xs e0 s0 u) (hN : N < w.heap.size) {W w' w1 w2 : World} {v u' : Value} {vs0 : Nat → Value}
    (hW : Below wr.heap.size wr W) (hWs : wr.heap.size ≤ W.heap.size) (hk : Kept (fun k => k = N) W w') (hm : makes (kids j) = true) (hnb : Blk w' N 128 #[e0, .int .i64 ((offN c kids j + cnt (kids j) : Nat) : Int), s0]) (hr : RepU w' N (bld (kids j) (offN c kids j)) (NewB W w') v)
    (h1 : w1 = w'.alloc (.cells #[v] 123)) (hown0 : w'.ownsRow (w.heap.size + 1) 123 1 u j (vlist vs0 j))
    (hown : w2.ownsRow (w.heap.size + 1) 123 1 u' (j + 1) (vlist vs0 j ++ [v])) (hg : w1.grownBy w2 u.ownBlock) (hat : u'.ownBlock = u.ownBlock ∨ u'.ownBlock = some w1.heap.size) :
    CoI w w2 N n (j + 1) c kids xs e0 s0 u' := by
  obtain ⟨vs, Sk, o1, o2⟩ := h.own
  have hxl := h.x.lt
  have s1 := hW.size
  have s2 := hk.size
  have s3 : w1.heap.size = w'.heap.size + 1 := by rw [h1]; simp
  have s4 := hg.size
  have hub : ∀ g, u.ownBlock = some g → w.heap.size + 1 ≤ g ∧ g < wr.heap.size := fun g hg => by
    obtain ⟨a, b⟩ := o1.lt g hg; exact ⟨a, b⟩
  have k1 : ∀ k, k < w'.heap.size → u.ownBlock ≠ some k → w2.heap[k]? = w'.heap[k]? := fun k hk1 hne => (hg.block k (by omega) fun e => hne e.symm).trans (by rw [h1]; exact heap_alloc_old w' _ hk1)
  have k2 : ∀ k, k < wr.heap.size → k ≠ N → u.ownBlock ≠ some k → w2.heap[k]? = wr.heap[k]? := fun k a b d => (k1 k (by omega) d).trans ((hk.block k (by omega) b).trans (hW.block k a))
  have hvs : ∀ i, i < j → vs0 i = vs i := fun i hi => by
    have e : vlist vs0 j = vlist vs j := by
      rcases hown0.2 with ⟨rfl, rfl⟩ | ⟨g, cap, cur, rfl, _, hgg, _, _, _, ht⟩
      · rfl
      · rcases o1.2 with ⟨e, _⟩ | ⟨g2, cap2, cur2, e, _, hgg2, _, _, _, ht2⟩
        · cases e
        · cases e
          have hb := hub g rfl
          have : w'.heap[g]? = wr.heap[g]? := (hk.block g (by omega) (by omega)).trans (hW.block g (by omega))
          rw [this, hgg2] at hgg
          cases hgg
          rw [← ht, ← ht2]
    have := congrArg (fun l => l[i]?) e
    simp only [vlist_get _ _ _ hi] at this
    injection this
  refine ⟨?_, ?_, ?_, fun i hi => ?_, ?_⟩
  · exact ⟨hg.os.trans ((by rw [h1]; exact hk.os : w1.os = W.os).trans (hW.os.trans h.kept.os)), hg.tape.trans ((by rw [h1]; exact hk.tape : w1.tape = W.tape).trans (hW.tape.trans h.kept.tape)), hg.output.trans ((by rw [h1]; exact hk.output : w1.output = W.output).trans (hW.output.trans h.kept.output)),
      by have := h.kept.size; omega, fun k hk1 hne => (k2 k (by omega) hne fun e => by have := (hub k e).1; omega).trans (h.kept.block k hk1 hne)⟩
  · exact (k2 _ hxl (by omega) fun e => by have := (hub _ e).1; omega).trans h.x
  · rw [offN_succ]
    exact (k1 N (by have := h.kept.size; omega) fun e => by have := (hub N e).1; omega).trans hnb
  · by_cases e : i = j
    · exact e ▸ hm
    · exact h.made i (by omega)
  · refine ⟨fun i => if i = j then v else vs i, fun i => if i = j then NewB W w' else Sk i, ?_, fun i hi => ?_⟩
    · rw [vlist_succ, if_pos rfl, vlist_congr (vs' := vs0) fun i hi => by rw [if_neg (by omega), hvs i hi]]
      exact hown
    · have hu' : ∀ k, k < w'.heap.size → u.ownBlock ≠ some k → u'.ownBlock ≠ some k := fun k a b e => by
        rcases hat with h | h
        · exact b (h ▸ e)
        · rw [h] at e; injection e with e; omega
      by_cases e : i = j
      · subst e
        simp only [if_true]
        refine ⟨hr.keep fun k hk1 => k1 k hk1.2 fun e => by have := (hub k e).2; have := hk1.1; omega, fun k hk1 => ⟨by have := hk1.1; omega, by have := hk1.2; omega⟩, fun k hk1 => hu' k hk1.2 fun e => by have := (hub k e).2; have := hk1.1; omega, fun i2 hi2 hne k hk1 => ?_⟩
        rw [if_neg hne]
        intro hk2
        have := ((o2 i2 (by omega)).2.1 k hk2).2
        have := hk1.1
        omega
      · obtain ⟨a1, a2, a3, a4⟩ := o2 i (by omega)
        simp only [if_neg e]
        refine ⟨a1.keep fun k hk1 => k2 k (a2 k hk1).2 (by have := (a2 k hk1).1; omega) (a3 k hk1), fun k hk1 => ⟨(a2 k hk1).1, by have := (a2 k hk1).2; omega⟩, fun k hk1 => hu' k (by have := (a2 k hk1).2; omega) (a3 k hk1), fun i2 hi2 hne k hk1 => ?_⟩
        by_cases e2 : i2 = j
        · rw [if_pos e2]
          intro hk2
          have := (a2 k hk1).2
          have := hk2.1
          omega
        · rw [if_neg e2]
          exact a4 i2 (by omega) hne k hk1

/-- the kids' slice, read at i -/
theorem CoI.cell {w wr : World} {N n j c : Nat} {kids : Nat → CT FC} {xs : Array Value} {e0 s0 u : Value} (h : CoI w wr N n j c kids xs e0 s0 u) (hj : 0 < j) :
    ∃ (g cap : Nat) (vs : Nat → Value) (Sk : Nat → Nat → Prop), u = .slice (some ⟨g, 0, none⟩) j cap ∧ j ≤ cap ∧ cap ≤ maxLen ∧ w.heap.size < g ∧ g < wr.heap.size ∧ (∀ i, i < j → wr.cell? ⟨g, i, none⟩ = some (vs i)) ∧
      ∀ i, i < j → RepU wr N (bld (kids i) (offN c kids i)) (Sk i) (vs i) ∧ (∀ k, Sk i k → w.heap.size < k ∧ k < wr.heap.size) ∧ ¬ Sk i g ∧ ∀ i2, i2 < j → i2 ≠ i → ∀ k, Sk i k → ¬ Sk i2 k := by
  obtain ⟨vs, Sk, o1, o2⟩ := h.own
  rcases o1.2 with ⟨_, e⟩ | ⟨g, cap, cur, rfl, hb, hg, hnc, hcm, hcs, ht⟩
  · omega
  · refine ⟨g, cap, vs, Sk, rfl, hnc, hcm, by omega, (Array.getElem?_eq_some_iff.1 hg).1, fun i hi => ?_, fun i hi => ?_⟩
    · rw [cell_of_row wr g i cur 123 (0, 0) hg]
      have := vlist_get vs j i hi
      rw [← ht, List.getElem?_take] at this
      split at this
      · simpa using this
      · cases this
    · obtain ⟨a1, a2, a3, a4⟩ := o2 i hi
      exact ⟨a1, a2, fun h => a3 g h rfl, a4⟩
end Go.Proofs.Zap

/- what the leaves of a core that is asked for write, in plain words: the list of leaves -/
namespace Go.Proofs.Zap

section
variable {F : Type}

/-- the leaves: what levels have to be for each, and its fields -/
def zl : CT F → List (List Int × List F)
  | .no => []
  | .mk kind lvl n kids fs =>
    if kind = 0 then [([w8 lvl], [])] else if kind = 5 then []
    else (List.range n).flatMap fun i => (zl (kids i)).map fun x => (if kind = 2 then x.1 ++ [w8 lvl] else x.1, if kind = 3 ∨ kind = 4 then x.2 ++ fs else x.2)

def onL (ls : List Int) (l : Int) : Bool := ls.all fun m => decide (m ≤ l)

/-- those leaves that a level turns on, numbered from c on -/
def pick : Nat → List (List Int × List F) → Int → List (Nat × List F)
  | _, [], _ => []
  | c, x :: r, l => if onL x.1 l then (c, x.2) :: pick (c + 1) r l else pick (c + 1) r l

theorem pick_append (l : Int) : ∀ (A B : List (List Int × List F)) (c : Nat), pick c (A ++ B) l = pick c A l ++ pick (c + A.length) B l
  | [], B, c => by simp [pick]
  | x :: A, B, c => by
    simp only [List.cons_append, pick, List.length_cons]
    rw [pick_append l A B (c + 1), show c + 1 + A.length = c + (A.length + 1) by omega]
    split <;> simp

theorem pick_fs (l : Int) (fs : List F) : ∀ (A : List (List Int × List F)) (c : Nat), pick c (A.map fun x => (x.1, x.2 ++ fs)) l = (pick c A l).map fun y => (y.1, y.2 ++ fs)
  | [], c => rfl
  | x :: A, c => by
    simp only [List.map_cons, pick]
    rw [pick_fs l fs A (c + 1)]
    split <;> simp

theorem pick_lvl (l v : Int) : ∀ (A : List (List Int × List F)) (c : Nat), pick c (A.map fun x => (x.1 ++ [v], x.2)) l = if v ≤ l then pick c A l else []
  | [], c => by simp [pick]
  | x :: A, c => by
    simp only [List.map_cons, pick]
    rw [pick_lvl l v A (c + 1)]
    by_cases h : v ≤ l <;> simp [onL, h]

theorem pick_flat (l : Int) (g : Nat → List (List Int × List F)) (c : Nat) : ∀ n : Nat,
    pick c ((List.range n).flatMap g) l = (List.range n).flatMap fun i => pick (c + sumN i fun j => (g j).length) (g i) l
  | 0 => rfl
  | n + 1 => by
    have hl : ∀ m, ((List.range m).flatMap g).length = sumN m fun j => (g j).length := by
      intro m
      induction m with
      | zero => rfl
      | succ m ih => rw [List.range_succ, List.flatMap_append, List.length_append, ih]; simp [sumN]
    rw [List.range_succ, List.flatMap_append, List.flatMap_append, pick_append, pick_flat l g c n, hl n]
    simp

theorem sumN_congr {f g : Nat → Nat} : ∀ {n : Nat}, (∀ i, i < n → f i = g i) → sumN n f = sumN n g
  | 0, _ => rfl
  | n + 1, h => by simp only [sumN]; rw [sumN_congr fun i hi => h i (by omega), h n (by omega)]

theorem len_zl (t : CT F) : ∀ d : Nat, fine t d = true → (zl t).length = cnt t := by
  induction t with
  | no => intro d hf; exact absurd hf (by simp [fine])
  | mk kind lvl n kids fs ih =>
    intro d hf
    obtain ⟨k0, k5, hd, hn, h1, h0, hk⟩ := fine_parts hf
    by_cases e0 : kind = 0
    · subst e0; simp [zl, cnt]
    by_cases e5 : kind = 5
    · subst e5; simp [zl, cnt]
    simp only [zl, cnt, e0, e5, if_false]
    have hl : ∀ m, m ≤ n → ((List.range m).flatMap fun i => (zl (kids i)).map fun x => (if kind = 2 then x.1 ++ [w8 lvl] else x.1, if kind = 3 ∨ kind = 4 then x.2 ++ fs else x.2)).length = sumN m fun i => cnt (kids i) := by
      intro m
      induction m with
      | zero => intro _; rfl
      | succ m ihm =>
        intro hm
        rw [List.range_succ, List.flatMap_append, List.length_append, ihm (by omega)]
        simp only [sumN, List.flatMap_cons, List.flatMap_nil, List.append_nil, List.length_map]
        rw [ih m _ (hk m (by omega))]
    exact hl n (Nat.le_refl _)

theorem flatMap_congr' {α β : Type} {l : List α} {f g : α → List β} (h : ∀ a ∈ l, f a = g a) : l.flatMap f = l.flatMap g := by
  rw [List.flatMap_def, List.flatMap_def]; congr 1; exact List.map_congr_left h

/-- what a built core writes is what its leaves write, picked by level -/
theorem wr_bld (l : Int) (t : CT F) : ∀ (d c : Nat), fine t d = true → wrK (bld t c) l = pick c (zl t) l := by
  induction t with
  | no => intro d c hf; exact absurd hf (by simp [fine])
  | mk kind lvl n kids fs ih =>
    intro d c hf
    obtain ⟨k0, k5, hd, hn, h1, h0, hk⟩ := fine_parts hf
    have hc : kind = 0 ∨ kind = 1 ∨ kind = 2 ∨ kind = 3 ∨ kind = 4 ∨ kind = 5 := by omega
    have one : n = 1 → ∀ g : Nat → List (List Int × List F), (List.range n).flatMap g = g 0 := fun h g => by subst h; simp [List.range_succ]
    rcases hc with rfl | rfl | rfl | rfl | rfl | rfl
    · simp [bld, wrK, zl, pick, onL]
    · simp only [zl]
      simp only [show ¬ ((1 : Int) = 0) by omega, show ¬ ((1 : Int) = 5) by omega, show ¬ ((1 : Int) = 2) by omega, show ¬ ((1 : Int) = 3) by omega, show ¬ ((1 : Int) = 4) by omega, if_false, or_self]
      rw [pick_flat]
      have hidm : ∀ i, (zl (kids i)).map (fun x => (x.1, x.2)) = zl (kids i) := fun i => by simp
      simp only [hidm]
      have hs : ∀ i, i ≤ n → (sumN i fun j => (zl (kids j)).length) = sumN i fun j => cnt (kids j) := fun i hi => sumN_congr fun j hj => len_zl (kids j) _ (hk j (by omega))
      simp only [bld]
      simp only [show ¬ ((1 : Int) = 0) by omega, show ¬ ((1 : Int) = 5) by omega, if_false, if_true]
      by_cases e0 : n = 0
      · subst e0; simp [wrK]
      by_cases e1 : n = 1
      · rw [if_neg e0, if_pos e1, ih 0 _ c (hk 0 (by omega))]
        subst e1
        simp [sumN, List.range_succ]
      rw [if_neg e0, if_neg e1]
      simp only [wrK]
      refine flatMap_congr' fun i hi => ?_
      have hi := List.mem_range.1 hi
      rw [ih i _ _ (hk i hi), hs i (by omega)]
    · have e1 := h1 (by omega)
      simp only [zl, bld]
      simp
      rw [one e1, pick_lvl]
      simp only [wrK]
      rw [ih 0 _ c (hk 0 (by omega))]
    · have e1 := h1 (by omega)
      simp only [zl, bld]
      simp
      rw [one e1, pick_fs, wrK_withF, ih 0 _ c (hk 0 (by omega))]
    · have e1 := h1 (by omega)
      simp only [zl, bld]
      simp
      rw [one e1, pick_fs]
      simp only [wrK]
      rw [← ih 0 _ c (hk 0 (by omega))]
      split
      · rfl
      · rename_i h
        rw [wrK_off _ l (by simpa using h)]; rfl
    · simp [zl, bld, wrK, pick]
end
end Go.Proofs.Zap

namespace Go.Proofs.Zap
open Go Go.Proofs Go.RowKit

theorem sumN_le {f : Nat → Nat} : ∀ {n i : Nat}, i < n → f i ≤ sumN n f
  | 0, i, h => by omega
  | n + 1, i, h => by
    simp only [sumN]
    by_cases e : i = n
    · subst e; omega
    · have := sumN_le (f := f) (show i < n by omega); omega
theorem sumN_mono {f : Nat → Nat} : ∀ {n i : Nat}, i ≤ n → sumN i f ≤ sumN n f
  | 0, i, h => by obtain rfl : i = 0 := by omega
                  exact Nat.le_refl _
  | n + 1, i, h => by
    by_cases e : i = n + 1
    · subst e; exact Nat.le_refl _
    · have := sumN_mono (f := f) (show i ≤ n by omega); simp only [sumN]; omega

theorem fl_bld (t : CT FC) : ∀ (d c : Nat), fine t d = true → fl (bld t c) (flen t) := by
  induction t with
  | no => intro d c hf; exact absurd hf (by simp [fine])
  | mk kind lvl n kids fs ih =>
    intro d c hf
    obtain ⟨k0, k5, hd, hn, h1, h0, hk⟩ := fine_parts hf
    have hle : ∀ i, i < n → flen (kids i) + fs.length ≤ flen (.mk kind lvl n kids fs) := fun i hi => by
      have := sumN_le (f := fun i => flen (kids i)) hi
      simp only [flen]; omega
    have hc : kind = 0 ∨ kind = 1 ∨ kind = 2 ∨ kind = 3 ∨ kind = 4 ∨ kind = 5 := by omega
    rcases hc with rfl | rfl | rfl | rfl | rfl | rfl
    · simp [bld, fl]
    · simp only [bld]
      simp
      by_cases e0 : n = 0
      · subst e0; simp [fl]
      · by_cases e1 : n = 1
        · subst e1
          simp
          exact fl_mono (ih 0 _ c (hk 0 (by omega))) (by have := hle 0 (by omega); omega)
        · rw [if_neg e0, if_neg e1]
          exact ⟨hn, fun i hi => fl_mono (ih i _ _ (hk i hi)) (by have := hle i hi; omega)⟩
    · have e := h1 (by omega); subst e
      simp [bld, fl]
      exact fl_mono (ih 0 _ _ (hk 0 (by omega))) (by have := hle 0 (by omega); omega)
    · have e := h1 (by omega); subst e
      simp [bld]
      exact fl_mono (fl_withF (ih 0 _ c (hk 0 (by omega)))) (hle 0 (by omega))
    · have e := h1 (by omega); subst e
      simp [bld, fl]
      have := hle 0 (by omega)
      exact ⟨by omega, fl_mono (ih 0 _ _ (hk 0 (by omega))) (by omega)⟩
    · simp [bld, fl]

/-- the two cells that a leaf's making reads -/
abbrev TwoS (w' : World) (X N : Nat) (a b : Value) : Prop := w'.cell? ⟨X, 1, none⟩ = some a ∧ w'.cell? ⟨N, 1, none⟩ = some b

set_option maxHeartbeats 4000000 in
theorem core_leaf (lvl : Int) (n : Nat) (A : Option Addr) (cap : Nat) (kids : Nat → CT FC) (fs : List FC) (fv : Value) (d N c : Nat) (e0 s0 : Value) (w : World) (hf : fine (.mk 0 lvl n kids fs) d = true) (hfv : ∃ fA fn fc, fv = .slice fA fn fc)
    (hN : Blk w N 128 #[e0, .int .i64 c, s0]) (hc : c ≤ 1000000) :
    Calls Tryz.prog 71 #[.agg #[.int .i64 0, .int .i64 lvl, .slice A n cap, fv], .pointer (some ⟨N, 0, none⟩)] w (CoP w N (.mk 0 lvl n kids fs) c e0 s0) := by
  obtain ⟨fA, fn, fc, rfl⟩ := hfv
  have hNl := hN.lt
  have b2 := w8_bd lvl
  have e2 := wrap8 lvl
  have hw1 : wrap64 ((c : Int) + 1) = (c : Int) + 1 := by unfold wrap64; omega
  have hw2 : IntKind.i64.wrap (c : Int) = (c : Int) := wrap64_id (by omega) (by omega)
  have hX := Blk.new w 41 #[.int .i64 0, .int .i64 lvl, .slice A n cap, .slice fA fn fc]
  have hN1 := hN.alloc (.cells #[.int .i64 0, .int .i64 lvl, .slice A n cap, .slice fA fn fc] 41)
  have cN : (w.alloc (.cells #[.int .i64 0, .int .i64 lvl, .slice A n cap, .slice fA fn fc] 41)).cell? ⟨N, 1, none⟩ = some (.int .i64 c) := hN1.cell 1
  have cF : (w.alloc (.cells #[.int .i64 0, .int .i64 lvl, .slice A n cap, .slice fA fn fc] 41)).frozen? ⟨N, 1, none⟩ = false := hN1.frozen 1
  have hsz : (w.setCell ⟨N, 1, none⟩ (.int .i64 ((c : Int) + 1))).heap.size = w.heap.size := by simp [World.setCell]
  have hN2 : Blk ((w.setCell ⟨N, 1, none⟩ (.int .i64 ((c : Int) + 1))).alloc (.cells #[.int .i64 0, .int .i64 lvl, .slice A n cap, .slice fA fn fc] 41)) N 128 #[e0, .int .i64 ((c : Int) + 1), s0] := by
    have := (hN.set_ 1 (.int .i64 ((c : Int) + 1))).alloc (.cells #[.int .i64 0, .int .i64 lvl, .slice A n cap, .slice fA fn fc] 41)
    simpa using this
  have hX2 : Blk ((w.setCell ⟨N, 1, none⟩ (.int .i64 ((c : Int) + 1))).alloc (.cells #[.int .i64 0, .int .i64 lvl, .slice A n cap, .slice fA fn fc] 41)) w.heap.size 41 #[.int .i64 0, .int .i64 lvl, .slice A n cap, .slice fA fn fc] := by
    have := Blk.new (w.setCell ⟨N, 1, none⟩ (.int .i64 ((c : Int) + 1))) 41 #[.int .i64 0, .int .i64 lvl, .slice A n cap, .slice fA fn fc]
    rwa [hsz] at this
  have hk2 : Kept (fun k => k = N) w ((w.setCell ⟨N, 1, none⟩ (.int .i64 ((c : Int) + 1))).alloc (.cells #[.int .i64 0, .int .i64 lvl, .slice A n cap, .slice fA fn fc] 41)) := (Kept.set1 w N 1 _).alloc _
  have hs2 : ((w.setCell ⟨N, 1, none⟩ (.int .i64 ((c : Int) + 1))).alloc (.cells #[.int .i64 0, .int .i64 lvl, .slice A n cap, .slice fA fn fc] 41)).heap.size = w.heap.size + 1 := by simp [hsz]
  have HS2 : TwoS ((w.setCell ⟨N, 1, none⟩ (.int .i64 ((c : Int) + 1))).alloc (.cells #[.int .i64 0, .int .i64 lvl, .slice A n cap, .slice fA fn fc] 41)) w.heap.size N (.int .i64 lvl) (.int .i64 ((c : Int) + 1)) := ⟨hX2.cell 1, hN2.cell 1⟩
  have hX3 := fun o => hX2.alloc o
  have hN3 := fun o => hN2.alloc o
  have hb5 : ∀ cs, Blk (((w.setCell ⟨N, 1, none⟩ (.int .i64 ((c : Int) + 1))).alloc (.cells #[.int .i64 0, .int .i64 lvl, .slice A n cap, .slice fA fn fc] 41)).alloc (.cells cs 205)).drew (w.heap.size + 1) 205 cs := fun cs => by
    have := Blk.new ((w.setCell ⟨N, 1, none⟩ (.int .i64 ((c : Int) + 1))).alloc (.cells #[.int .i64 0, .int .i64 lvl, .slice A n cap, .slice fA fn fc] 41)) 205 cs
    rw [hs2] at this
    exact this
  have HB5 := Lib.hid hb5
  have HX3 := Lib.hid hX3
  have HN3 := Lib.hid hN3
  have HN2 := Lib.hid hN2
  have HK2 := Lib.hid hk2
  have HS2' := Lib.hid HS2
  have hmk : makes (.mk 0 lvl n kids fs) = true := by
    obtain ⟨_, _, _, _, _, h0, _⟩ := fine_parts hf
    have e := h0 (by omega)
    subst e
    simp [makes, anyB]
  have HMK := Lib.hid hmk
  clear hX hN1 hX2 hN2 hk2 hX3 hN3 HS2 hmk hN hb5
  go_enter Tryz.func71, Tryz.ntmps71
  go_wp2_with fail
  go_region_held3 (fun w' => TwoS w' w.heap.size N (.int .i64 lvl) (.int .i64 ((c : Int) + 1))) (first | exact HS2'.out | exact ⟨(HX3.out _).cell 1, (HN3.out _).cell 1⟩) (fail)
  all_goals
    go_wp2_with fail
    go_ret2
    refine ⟨(HK2.out.alloc _).trans (Kept.drewN _ 1), .inl ⟨HMK.out, _, rfl, (HN3.out _), ?_⟩⟩
    simp only [bld, if_true]
    refine ⟨_, _, rfl, ⟨by omega, by simp⟩, HB5.out _, ⟨none, 0, rfl, Nat.le_refl _, by omega, fun _ => ⟨rfl, rfl⟩, fun h => by simp at h⟩, b2.1, b2.2⟩
end Go.Proofs.Zap
