/- a text of the claims over the seat; its order and aim: NOTES.md -/
import Derived.Test.YtpllbhobcnglnaaGreatDoorZS5
namespace Go.Proofs.Zap
open Go Go.Proofs Go.RowKit

/-- a slice of fields as they are, their block in S -/
def VFs (w : World) (S : Nat → Prop) (fs : List FC) (v : Value) : Prop :=
  ∃ A cap, v = .slice A fs.length cap ∧ fs.length ≤ cap ∧ cap ≤ 9223372036854775807 ∧ (A = none → fs.length = 0 ∧ cap = 0) ∧
    (0 < fs.length → ∃ b o, A = some ⟨b, o, none⟩ ∧ S b ∧ ∀ i c, fs[i]? = some c → RowC w b (o + i * 15) c.arr)
theorem VFs.keep {w w' : World} {S : Nat → Prop} {fs : List FC} {v : Value} (h : VFs w S fs v) (hk : ∀ k, S k → w'.heap[k]? = w.heap[k]?) : VFs w' S fs v := by
  obtain ⟨A, cap, h1, h2, h3, h4, h5⟩ := h
  refine ⟨A, cap, h1, h2, h3, h4, fun hn => ?_⟩
  obtain ⟨b, o, e, hb, hc⟩ := h5 hn
  exact ⟨b, o, e, hb, fun i c hi j v hj => (World.cell?_of_block (w := w) (hk b hb)).trans (hc i c hi j v hj)⟩
theorem VFs.mono {w : World} {S S' : Nat → Prop} {fs : List FC} {v : Value} (h : VFs w S fs v) (hs : ∀ k, S k → S' k) : VFs w S' fs v := by
  obtain ⟨A, cap, h1, h2, h3, h4, h5⟩ := h
  refine ⟨A, cap, h1, h2, h3, h4, fun hn => ?_⟩
  obtain ⟨b, o, e, hb, hc⟩ := h5 hn
  exact ⟨b, o, e, hs b hb, hc⟩

/-- the cells of fields, one behind the other -/
def vrows (fs : List FC) : List Value := fs.flatMap fun c => c.arr.toList
theorem vrows_len (fs : List FC) : (vrows fs).length = fs.length * 15 := by
  induction fs with
  | nil => rfl
  | cons c fs ih => rw [show vrows (c :: fs) = c.arr.toList ++ vrows fs from rfl, List.length_append, ih, show c.arr.toList.length = 15 from rfl, List.length_cons]; omega
theorem vrows_append (fs gs : List FC) : vrows (fs ++ gs) = vrows fs ++ vrows gs := by simp [vrows]
theorem vrows_get : ∀ (fs : List FC) (j : Nat) (u : Value), (vrows fs)[j]? = some u → ∃ i r c, j = i * 15 + r ∧ fs[i]? = some c ∧ c.arr[r]? = some u
  | [], j, u, h => by simp [vrows] at h
  | c :: fs, j, u, h => by
    have e : vrows (c :: fs) = c.arr.toList ++ vrows fs := rfl
    have l : c.arr.toList.length = 15 := rfl
    rw [e, List.getElem?_append] at h
    split at h
    · exact ⟨0, j, c, by omega, rfl, by simpa using h⟩
    · obtain ⟨i, r, c2, h1, h2, h3⟩ := vrows_get fs _ u h
      exact ⟨i + 1, r, c2, by omega, by simpa using h2, h3⟩
theorem vrows_at : ∀ (fs : List FC) (i r : Nat) (c : FC) (v : Value), fs[i]? = some c → c.arr[r]? = some v → (vrows fs)[i * 15 + r]? = some v
  | [], i, r, c, v, h, _ => by simp at h
  | c0 :: fs, i, r, c, v, h, hv => by
    have e : vrows (c0 :: fs) = c0.arr.toList ++ vrows fs := rfl
    have l : c0.arr.toList.length = 15 := rfl
    have hr : r < 15 := by
      have := (Array.getElem?_eq_some_iff.1 hv).1
      simpa [FC.arr] using this
    rw [e, List.getElem?_append]
    cases i with
    | zero =>
      simp at h; subst h
      rw [if_pos (by omega)]
      simpa using hv
    | succ i =>
      rw [if_neg (by omega), l, show (i + 1) * 15 + r - 15 = i * 15 + r by omega]
      exact vrows_at fs i r c v (by simpa using h) hv
theorem vfs_of_own {w : World} {base : Nat} {v : Value} {fs : List FC} (h : w.ownsRow base 135 15 v fs.length (vrows fs)) : VFs w (fun k => v.ownBlock = some k) fs v := by
  rcases h.2 with ⟨rfl, hn⟩ | ⟨g, cap, cur, rfl, hb, hg, hnc, hcm, hcs, htake⟩
  · exact ⟨none, 0, by rw [hn], by omega, by omega, fun _ => ⟨hn, rfl⟩, fun h => by omega⟩
  · refine ⟨_, cap, rfl, hnc, by unfold maxLen at hcm; omega, fun h => (by cases h), fun hpos => ⟨g, 0, rfl, rfl, fun i c hi j v hj => ?_⟩⟩
    have h2 := vrows_at fs i j c v hi hj
    rw [← htake] at h2
    rw [cell_of_row w g _ cur 135 (0, 0) hg]
    rw [List.getElem?_take] at h2
    split at h2
    · simpa using h2
    · cases h2

theorem u39 : Tryz.prog.underlying 39 = some (.slice 135) := Tryz.underlying39
theorem z135 : (Tryz.prog.info? 135).map (·.zero) = some (some (.agg #[.int .i64 0, .string ⟨#[]⟩, .int .i64 0, .int .i64 0, .int .u64 0, .int .u64 0, .int .u64 0, .string ⟨#[]⟩, .slice none 0 0, .bool false, .int .i64 0, .int .i64 0, .string ⟨#[]⟩, .slice none 0 0, .string ⟨#[]⟩])) := by kernel_rfl
theorem s135 : (Tryz.prog.info? 135).map (·.size) = some 15 := by kernel_rfl
theorem b135 : (Tryz.prog.info? 135).map (·.bytes) = some 184 := by kernel_rfl
theorem row39 : RowT 39 135 15 184 := rowT_of u39 z135 s135 b135 rfl (by decide)
theorem u67 : Tryz.prog.underlying 67 = some (.slice 72) := by kernel_rfl
theorem z72 : (Tryz.prog.info? 72).map (·.zero) = some (some (.agg #[.int .i64 0, .int .i64 0, .slice none 0 0])) := by kernel_rfl
theorem s72 : (Tryz.prog.info? 72).map (·.size) = some 3 := by kernel_rfl
theorem b72 : (Tryz.prog.info? 72).map (·.bytes) = some 40 := by kernel_rfl
theorem row67 : RowT 67 72 3 40 := rowT_of u67 z72 s72 b72 rfl (by decide)

theorem own_drew {w : World} {base : Nat} {e : TypeId} {size n : Nat} {v : Value} {xs : List Value} (h : w.ownsRow base e size v n xs) : w.drew.ownsRow base e size v n xs := h
/-- an append of one row, as a step of a region that draws its order -/
theorem step_app1 {t e : TypeId} {size bytes : Nat} (R : RowT t e size bytes) {ops : Array Oper} {o : Oper} {a : Act} {w : World} {K : Act → World → Prop} {Q : Exit → Act → World → Prop} {E : Prop} (hgd : o.guard = none) (s x : Operand)
    (ho : o.op = .call { callee := .builtin .append, args := #[s, x], argTypes := #[t, t] })
    (base : Nat) (v : Value) (n : Nat) (xs : List Value) (hs : a.eval s = v) (hown : w.ownsRow base e size v n xs)
    (g : Nat) (cs : Array Value) (hx : a.eval x = .slice (some ⟨g, 0, none⟩) 1 1) (hg : w.heap[g]? = some (.cells cs e (0, 0))) (hl : cs.size = size) (h1 : ∀ u ∈ cs.toList, u.oneCell' = true)
    (h63 : n + 1 ≤ maxLen) (hbytes : (n + 1) * bytes ≤ 140737488355328) (hbase : base ≤ w.heap.size)
    (hK : ∀ v' w', w'.ownsRow base e size v' (n + 1) (xs ++ cs.toList) → w.grownBy w' v.ownBlock → (v'.ownBlock = v.ownBlock ∨ v'.ownBlock = some w.heap.size) → K (a.put o.dst v') w') :
    if Region.wanted o (yielded ops a.tmps) = true then Oper.wp Tryz.prog o a w K Q else E := by
  have hw : Region.wanted o (yielded ops a.tmps) = true := by simp [Region.wanted, hgd]
  rw [if_pos hw]
  obtain ⟨i, z, hi, hz, hsz, hby, hzs⟩ := R.i
  have hnews : ∀ j u, cs.toList[j]? = some u → w.cell? ((⟨g, 0, none⟩ : Addr).add j) = some u := fun j u hu => by
    have hadd : (⟨g, 0, none⟩ : Addr).add j = ⟨g, j, none⟩ := by unfold Addr.add; split <;> simp_all
    rw [hadd, cell_of_row w g j cs e (0, 0) hg]
    simpa using hu
  obtain ⟨v', w', hr, h2, h3, _, h5⟩ := run_append_own_at (P := Tryz.prog) w base t o.type e i z size bytes R.u hi hz hsz hby hzs R.pos v n xs hown ⟨g, 0, none⟩ 1 1 cs.toList (by simp [hl]) hnews h1 h63 hbytes hbase
  unfold Oper.wp
  simp [execOp, ho, resolve, invoke, builtin, hs, hx, hr, Result.andThen]
  exact hK v' w' h2 h3 h5

/-- the slices of the fields of a carried field are slices -/
theorem fc_forms {w : World} {B d : Nat} {c : FC} (h1 : BytesOk w B c.bytes) (h2 : FsOk w B d c.items) : (∃ a n m, c.bytes = .slice a n m) ∧ ∃ a n m, c.items = .slice a n m := by
  obtain ⟨a, n, m, e, _⟩ := h1
  cases d with
  | zero => exact h2.elim
  | succ d =>
    obtain ⟨a2, n2, m2, e2, _⟩ := h2
    exact ⟨⟨a, n, m, e⟩, a2, n2, m2, e2⟩

set_option maxRecDepth 100000 in
theorem ta135 (v : Value) (w : World) : (Instr.typeAssert (.iface 135 v) 20 135 false).run Tryz.prog w = .ok v w := by kernel_rfl
end Go.Proofs.Zap
