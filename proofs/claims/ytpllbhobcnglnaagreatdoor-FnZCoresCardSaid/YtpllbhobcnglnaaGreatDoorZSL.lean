/- a text of the claims over the seat; its order and aim: NOTES.md -/
import Derived.Test.YtpllbhobcnglnaaGreatDoorZ2
import Derived.Laws.OwnMore
import Derived.Deep.RegionLaw
/- rows that are appended to rows: what zLeaves and ZWritten do -/
namespace Go.Proofs.Zap
open Go Go.Proofs Go.RowKit

/-- a slice whose rows are to be appended -/
def Src (w : World) (size : Nat) (X : Value) (m : Nat) (news : List Value) : Prop :=
  news.length = m * size ∧ (∀ u, u ∈ news → u.oneCell' = true) ∧ ((X = .slice none 0 0 ∧ m = 0) ∨ ∃ ad c, X = .slice (some ad) m c ∧ ∀ j u, news[j]? = some u → w.cell? (ad.add j) = some u)

/-- append of any such slice to a row of one's own -/
theorem app_any {t e : TypeId} {size bytes : Nat} (R : RowT t e size bytes) (ty : TypeId) (w : World) (base : Nat) (v : Value) (n : Nat) (xs : List Value) (hown : w.ownsRow base e size v n xs) (X : Value) (m : Nat) (news : List Value) (hX : Src w size X m news)
    (h63 : n + m ≤ maxLen) (hbytes : (n + m) * bytes ≤ 140737488355328) (hbase : base ≤ w.heap.size) :
    ∃ v' w', (Builtin.append_ #[t, t] ty #[v, X]).run Tryz.prog w = .ok v' w' ∧ w'.ownsRow base e size v' (n + m) (xs ++ news) ∧ w.grownBy w' v.ownBlock ∧ (v'.ownBlock = v.ownBlock ∨ v'.ownBlock = some w.heap.size) := by
  obtain ⟨i, z, hi, hz, hsz, hby, hzs⟩ := R.i
  obtain ⟨hl, h1, hx⟩ := hX
  rcases hx with ⟨rfl, rfl⟩ | ⟨ad, c, rfl, hc⟩
  · have e0 : news = [] := List.eq_nil_of_length_eq_zero (by simpa using hl)
    subst e0
    refine ⟨v, w, run_append_owned_none w base t ty e i size R.u hi v n xs hown, by simpa using hown, ⟨rfl, rfl, rfl, Nat.le_refl _, fun _ _ _ => rfl⟩, .inl rfl⟩
  · obtain ⟨v', w', hr, h2, h3, _, h5⟩ := run_append_own_at (P := Tryz.prog) w base t ty e i z size bytes R.u hi hz hsz hby hzs R.pos v n xs hown ad m c news hl hc h1 h63 hbytes hbase
    exact ⟨v', w', hr, h2, h3, h5⟩

/-- the same as a step of a drawn region -/
theorem step_appN {t e : TypeId} {size bytes : Nat} (R : RowT t e size bytes) {ops : Array Oper} {o : Oper} {a : Act} {w : World} {K : Act → World → Prop} {Q : Exit → Act → World → Prop} {E : Prop} (hgd : o.guard = none) (s x : Operand)
    (ho : o.op = .call { callee := .builtin .append, args := #[s, x], argTypes := #[t, t] })
    (base : Nat) (v : Value) (n : Nat) (xs : List Value) (hs : a.eval s = v) (hown : w.ownsRow base e size v n xs)
    (X : Value) (m : Nat) (news : List Value) (hx : a.eval x = X) (hX : Src w size X m news)
    (h63 : n + m ≤ maxLen) (hbytes : (n + m) * bytes ≤ 140737488355328) (hbase : base ≤ w.heap.size)
    (hK : ∀ v' w', w'.ownsRow base e size v' (n + m) (xs ++ news) → w.grownBy w' v.ownBlock → (v'.ownBlock = v.ownBlock ∨ v'.ownBlock = some w.heap.size) → K (a.put o.dst v') w') :
    if Region.wanted o (yielded ops a.tmps) = true then Oper.wp Tryz.prog o a w K Q else E := by
  have hw : Region.wanted o (yielded ops a.tmps) = true := by simp [Region.wanted, hgd]
  rw [if_pos hw]
  obtain ⟨v', w', hr, h2, h3, h5⟩ := app_any R o.type w base v n xs hown X m news hX h63 hbytes hbase
  unfold Oper.wp
  simp [execOp, ho, resolve, invoke, builtin, hs, hx, hr, Result.andThen]
  exact hK v' w' h2 h3 h5

/-- and of a plain one -/
theorem wpList_appN {t e : TypeId} {size bytes : Nat} (R : RowT t e size bytes) {ops : Array Oper} {rest : List Oper} {o : Oper} {a : Act} {w : World} {Q : Exit → Act → World → Prop} (hgd : o.guard = none) (s x : Operand)
    (ho : o.op = .call { callee := .builtin .append, args := #[s, x], argTypes := #[t, t] })
    (base : Nat) (v : Value) (n : Nat) (xs : List Value) (hs : a.eval s = v) (hown : w.ownsRow base e size v n xs)
    (X : Value) (m : Nat) (news : List Value) (hx : a.eval x = X) (hX : Src w size X m news)
    (h63 : n + m ≤ maxLen) (hbytes : (n + m) * bytes ≤ 140737488355328) (hbase : base ≤ w.heap.size)
    (h : ∀ v' w', w'.ownsRow base e size v' (n + m) (xs ++ news) → w.grownBy w' v.ownBlock → (v'.ownBlock = v.ownBlock ∨ v'.ownBlock = some w.heap.size) → wpList Tryz.prog ops Q rest (a.put o.dst v') w') :
    wpList Tryz.prog ops Q (o :: rest) a w := by
  refine wpList_plain hgd fun K hK => ?_
  obtain ⟨v', w', hr, h2, h3, h5⟩ := app_any R o.type w base v n xs hown X m news hX h63 hbytes hbase
  unfold Oper.wp execOp
  simp only [ho, resolve, invoke, builtin, Sem.run_bind, Sem.run_pure, Result.andThen_ok, List.map_toArray, List.map_cons, List.map_nil, hs, hx, hr]
  exact hK _ _ (h v' w' h2 h3 h5)

theorem u161 : Tryz.prog.underlying 161 = some (.slice 3) := by kernel_rfl
theorem z3 : (Tryz.prog.info? 3).map (·.zero) = some (some (.int .i64 0)) := by kernel_rfl
theorem s3 : (Tryz.prog.info? 3).map (·.size) = some 1 := by kernel_rfl
theorem b3 : (Tryz.prog.info? 3).map (·.bytes) = some 8 := by kernel_rfl
theorem row161 : RowT 161 3 1 8 := rowT_of u161 z3 s3 b3 rfl (by decide)
theorem u159 : Tryz.prog.underlying 159 = some (.slice 163) := by kernel_rfl
theorem z163 : (Tryz.prog.info? 163).map (·.zero) = some (some (.agg #[.slice none 0 0, .slice none 0 0])) := by kernel_rfl
theorem s163 : (Tryz.prog.info? 163).map (·.size) = some 2 := by kernel_rfl
theorem b163 : (Tryz.prog.info? 163).map (·.bytes) = some 48 := by kernel_rfl
theorem row159 : RowT 159 163 2 48 := rowT_of u159 z163 s163 b163 rfl (by decide)

/-- a slice of integers, its block in S -/
def IVs (w : World) (S : Nat → Prop) (ls : List Int) (v : Value) : Prop :=
  ∃ A cap, v = .slice A ls.length cap ∧ ls.length ≤ cap ∧ cap ≤ 9223372036854775807 ∧ (A = none → ls.length = 0 ∧ cap = 0) ∧
    (0 < ls.length → ∃ b o, A = some ⟨b, o, none⟩ ∧ S b ∧ ∀ i x, ls[i]? = some x → w.cell? ⟨b, o + i, none⟩ = some (.int .i64 x))
def ivs (ls : List Int) : List Value := ls.map fun x => .int .i64 x
theorem IVs.keep {w w' : World} {S : Nat → Prop} {ls : List Int} {v : Value} (h : IVs w S ls v) (hk : ∀ k, S k → w'.heap[k]? = w.heap[k]?) : IVs w' S ls v := by
  obtain ⟨A, cap, h1, h2, h3, h4, h5⟩ := h
  refine ⟨A, cap, h1, h2, h3, h4, fun hn => ?_⟩
  obtain ⟨b, o, e, hb, hc⟩ := h5 hn
  exact ⟨b, o, e, hb, fun i x hi => (World.cell?_of_block (w := w) (hk b hb)).trans (hc i x hi)⟩
theorem IVs.mono {w : World} {S S' : Nat → Prop} {ls : List Int} {v : Value} (h : IVs w S ls v) (hs : ∀ k, S k → S' k) : IVs w S' ls v := by
  obtain ⟨A, cap, h1, h2, h3, h4, h5⟩ := h
  refine ⟨A, cap, h1, h2, h3, h4, fun hn => ?_⟩
  obtain ⟨b, o, e, hb, hc⟩ := h5 hn
  exact ⟨b, o, e, hs b hb, hc⟩
theorem IVs.src {w : World} {S : Nat → Prop} {ls : List Int} {v : Value} (h : IVs w S ls v) : Src w 1 v ls.length (ivs ls) := by
  obtain ⟨A, cap, rfl, h2, h3, h4, h5⟩ := h
  refine ⟨by simp [ivs], fun u hu => ?_, ?_⟩
  · obtain ⟨x, _, rfl⟩ := List.mem_map.1 hu; rfl
  · rcases A with _ | ad
    · obtain ⟨h0, rfl⟩ := h4 rfl
      exact .inl ⟨by rw [h0], h0⟩
    · refine .inr ⟨ad, cap, rfl, fun j u hu => ?_⟩
      have hj : 0 < ls.length := by
        have := (List.getElem?_eq_some_iff.1 hu).1
        simp [ivs] at this; omega
      obtain ⟨b, o, e, hb, hc⟩ := h5 hj
      cases e
      rw [add_off]
      simp only [ivs, List.getElem?_map, Option.map_eq_some_iff] at hu
      obtain ⟨x, hx, rfl⟩ := hu
      exact hc j x hx
theorem ivs_of_own {w : World} {base : Nat} {v : Value} {ls : List Int} (h : w.ownsRow base 3 1 v ls.length (ivs ls)) : IVs w (fun k => v.ownBlock = some k) ls v := by
  rcases h.2 with ⟨rfl, hn⟩ | ⟨g, cap, cur, rfl, hb, hg, hnc, hcm, hcs, htake⟩
  · exact ⟨none, 0, by rw [hn], by omega, by omega, fun _ => ⟨hn, rfl⟩, fun h => by omega⟩
  · refine ⟨_, cap, rfl, hnc, by unfold maxLen at hcm; omega, fun h => (by cases h), fun hpos => ⟨g, 0, rfl, rfl, fun i x hi => ?_⟩⟩
    have h2 : (ivs ls)[i]? = some (.int .i64 x) := by simp [ivs, hi]
    rw [← htake] at h2
    rw [cell_of_row w g _ cur 3 (0, 0) hg]
    rw [List.getElem?_take] at h2
    split at h2
    · simpa using h2
    · cases h2
theorem VFs.src {w : World} {S : Nat → Prop} {fs : List FC} {v : Value} (h : VFs w S fs v) (hfm : ∀ c, c ∈ fs → (∃ a n m, c.bytes = .slice a n m) ∧ ∃ a n m, c.items = .slice a n m) : Src w 15 v fs.length (vrows fs) := by
  obtain ⟨A, cap, rfl, h2, h3, h4, h5⟩ := h
  refine ⟨vrows_len fs, fun u hu => ?_, ?_⟩
  · obtain ⟨c, hc, hu⟩ := List.mem_flatMap.1 hu
    obtain ⟨⟨a, n, m, e1⟩, a2, n2, m2, e2⟩ := hfm c hc
    simp [FC.arr, e1, e2] at hu
    rcases hu with rfl | rfl | rfl | rfl | rfl | rfl | rfl | rfl | rfl | rfl | rfl | rfl | rfl | rfl | rfl <;> rfl
  · rcases A with _ | ad
    · obtain ⟨h0, rfl⟩ := h4 rfl
      exact .inl ⟨by rw [h0], h0⟩
    · refine .inr ⟨ad, cap, rfl, fun j u hu => ?_⟩
      obtain ⟨i, r, c, rfl, hi, hr⟩ := vrows_get fs j u hu
      have hj : 0 < fs.length := by
        have := (List.getElem?_eq_some_iff.1 hi).1
        omega
      obtain ⟨b, o, e, hb, hc⟩ := h5 hj
      cases e
      rw [add_off, ← Nat.add_assoc]
      exact hc i c hi r u hr
theorem FlOk.vfs {w : World} {B d : Nat} {fs : List FC} {v : Value} (h : FlOk w B d fs v) : VFs w (fun k => k < B) fs v := by
  obtain ⟨A, cap, h1, h2, h3, ⟨h4, _⟩, h5⟩ := h
  refine ⟨A, cap, h1, h2, h3, h4, fun hn => ?_⟩
  obtain ⟨b, o, e, hb, hc⟩ := h5 hn
  exact ⟨b, o, e, hb, fun i c hi => (hc i c hi).1⟩

/-- leaves in memory -/
def lrows (R : List (List Int × List FC × Value × Value)) : List Value := R.flatMap fun x => [x.2.2.1, x.2.2.2]
def LvO (w : World) (T : Nat → Prop) (u : Value) (L : List (List Int × List FC)) : Prop :=
  ∃ R : List (List Int × List FC × Value × Value), R.map (fun x => (x.1, x.2.1)) = L ∧ w.ownsRow 0 163 2 u R.length (lrows R) ∧ (∀ k, u.ownBlock = some k → T k) ∧
    ∀ x, x ∈ R → ∃ Si, IVs w Si x.1 x.2.2.1 ∧ VFs w Si x.2.1 x.2.2.2 ∧ ∀ k, Si k → T k ∧ u.ownBlock ≠ some k
theorem LvO.keep {w w' : World} {T : Nat → Prop} {u : Value} {L : List (List Int × List FC)} (h : LvO w T u L) (hk : ∀ k, T k → w'.heap[k]? = w.heap[k]?) : LvO w' T u L := by
  obtain ⟨R, h1, h2, h3, h4⟩ := h
  refine ⟨R, h1, ⟨h2.1, ?_⟩, h3, fun x hx => ?_⟩
  · rcases h2.2 with h | ⟨g', cap', cur, he, hb, hg, r⟩
    · exact .inl h
    · exact .inr ⟨g', cap', cur, he, hb, (hk g' (h3 g' (by rw [he]; rfl))).trans hg, r⟩
  · obtain ⟨Si, a, b, c⟩ := h4 x hx
    exact ⟨Si, a.keep fun k h => hk k (c k h).1, b.keep fun k h => hk k (c k h).1, c⟩
end Go.Proofs.Zap

namespace Go.Proofs.Zap
open Go Go.Proofs Go.RowKit

/-- what zLeaves answers -/
def ZlP (t : CT FC) (w : World) (e : Ending) (w' : World) : Prop :=
  ∃ u T, e = .returned u ∧ LvO w' T u (zl t) ∧ (∀ k, T k → NewB w w' k) ∧ Below w.heap.size w w'

/-- one leaf more -/
theorem lvo_add {w w2 : World} {T Si : Nat → Prop} {u u' iv fv : Value} {R : List (List Int × List FC × Value × Value)} {ls : List Int} {fs : List FC} (h2 : ∀ k, u.ownBlock = some k → T k) (h3 : ∀ x, x ∈ R → ∃ Si, IVs w Si x.1 x.2.2.1 ∧ VFs w Si x.2.1 x.2.2.2 ∧ ∀ k, Si k → T k ∧ u.ownBlock ≠ some k)
    (hT : ∀ k, T k → k < w.heap.size) (hi : IVs w Si ls iv) (hf : VFs w Si fs fv) (hSi : ∀ k, Si k → k < w.heap.size ∧ u.ownBlock ≠ some k) (hown : w2.ownsRow 0 163 2 u' (R.length + 1) (lrows R ++ [iv, fv])) (hgr : w.grownBy w2 u.ownBlock) (hat : u'.ownBlock = u.ownBlock ∨ u'.ownBlock = some w.heap.size) :
    LvO w2 (fun k => T k ∨ Si k ∨ NewB w w2 k) u' (R.map (fun x => (x.1, x.2.1)) ++ [(ls, fs)]) := by
  have hne : ∀ k, k < w.heap.size → u.ownBlock ≠ some k → u'.ownBlock ≠ some k := fun k hk hn e => by
    rcases hat with h | h
    · exact hn (h ▸ e)
    · rw [h] at e; injection e with e; omega
  refine ⟨R ++ [(ls, fs, iv, fv)], by simp, ?_, fun k hk => ?_, fun x hx => ?_⟩
  · rw [List.length_append, show lrows (R ++ [(ls, fs, iv, fv)]) = lrows R ++ [iv, fv] by simp [lrows]]
    exact hown
  · rcases hat with h | h
    · exact .inl (h2 k (h ▸ hk))
    · rw [h] at hk; injection hk with hk
      have hl := (hown.lt k (by rw [h, hk])).2
      exact .inr (.inr ⟨by omega, hl⟩)
  · rcases List.mem_append.1 hx with hx | hx
    · obtain ⟨Sj, a, b, c⟩ := h3 x hx
      have hk : ∀ k, Sj k → w2.heap[k]? = w.heap[k]? := fun k h => hgr.block k (hT k (c k h).1) fun e => (c k h).2 e.symm
      exact ⟨Sj, a.keep hk, b.keep hk, fun k h => ⟨.inl (c k h).1, hne k (hT k (c k h).1) (c k h).2⟩⟩
    · simp at hx
      subst hx
      have hk : ∀ k, Si k → w2.heap[k]? = w.heap[k]? := fun k h => hgr.block k (hSi k h).1 fun e => (hSi k h).2 e.symm
      exact ⟨Si, hi.keep hk, hf.keep hk, fun k h => ⟨.inr (.inl h), hne k (hSi k h).1 (hSi k h).2⟩⟩

theorem LvO.nil (w : World) : LvO w (fun _ => False) (.slice none 0 0) [] := by
  refine ⟨[], rfl, World.ownsRow_nil _ _ _ _, ?_, ?_⟩
  · intro k hk; cases hk
  · intro x hx; cases hx

set_option maxHeartbeats 4000000 in
theorem leaves_nop (lvl : Int) (n : Nat) (A : Option Addr) (cap : Nat) (kids : Nat → CT FC) (fs : List FC) (fA : Option Addr) (fn fc : Nat) (w : World) :
    Calls Tryz.prog 86 #[.agg #[.int .i64 5, .int .i64 lvl, .slice A n cap, .slice fA fn fc]] w (ZlP (.mk 5 lvl n kids fs) w) := by
  have hz : zl (.mk 5 lvl n kids fs) = [] := by simp [zl]
  have HZ := Lib.hid hz
  clear hz
  go_enter Tryz.func86, Tryz.ntmps86
  go_wp2_with fail
  go_ret
  exact ⟨_, fun _ => False, rfl, by rw [HZ.out]; exact LvO.nil _, fun k hk => hk.elim, (Below.refl _ _).alloc (Nat.le_refl _) _⟩

set_option maxHeartbeats 4000000 in
theorem leaves_leaf (lvl : Int) (n : Nat) (A : Option Addr) (cap : Nat) (kids : Nat → CT FC) (fs : List FC) (fA : Option Addr) (fn fc : Nat) (w : World) :
    Calls Tryz.prog 86 #[.agg #[.int .i64 0, .int .i64 lvl, .slice A n cap, .slice fA fn fc]] w (ZlP (.mk 0 lvl n kids fs) w) := by
  have hz : zl (.mk 0 lvl n kids fs) = [([w8 lvl], [])] := by simp [zl]
  have HZ := Lib.hid hz
  have e2 := wrap8 lvl
  have e3 : IntKind.i64.wrap (w8 lvl) = w8 lvl := wrap64_id (by unfold w8; omega) (by unfold w8; omega)
  clear hz
  go_enter Tryz.func86, Tryz.ntmps86
  go_wp2_with fail
  go_ret
  generalize (Obj.cells #[Value.int IntKind.i64 0, Value.int IntKind.i64 lvl, Value.slice A n cap, Value.slice fA fn fc] 41) = oo
  have h1 := World.ownsRow_lit (base := 0) (e := 163) (size := 2) ((w.alloc oo).alloc (.cells #[.int .i64 (w8 lvl)] 3)) #[.slice (some ⟨w.heap.size + 1, 0, none⟩) 1 1, .slice none 0 0] 1 (by omega) (by unfold maxLen; omega) rfl
  have h2 : IVs (((w.alloc oo).alloc (.cells #[.int .i64 (w8 lvl)] 3)).alloc (.cells #[.slice (some ⟨w.heap.size + 1, 0, none⟩) 1 1, .slice none 0 0] 163)) (fun k => k = w.heap.size + 1) [w8 lvl] (.slice (some ⟨w.heap.size + 1, 0, none⟩) 1 1) := by
    refine ⟨_, 1, rfl, Nat.le_refl _, by omega, fun h => (by cases h), fun _ => ⟨_, 0, rfl, rfl, fun i x hi => ?_⟩⟩
    rcases i with _ | i
    · simp at hi
      subst hi
      exact ((Blk.new2 w oo 3 #[.int .i64 (w8 lvl)]).alloc _).cell 0
    · simp at hi
  have hs : ((w.alloc oo).alloc (.cells #[.int .i64 (w8 lvl)] 3)).heap.size = w.heap.size + 1 + 1 := by simp
  rw [hs] at h1
  refine ⟨_, fun k => k = w.heap.size + 1 ∨ k = w.heap.size + 1 + 1, rfl, ?_, ?_, ?_⟩
  · rw [HZ.out]
    refine ⟨[([w8 lvl], [], .slice (some ⟨w.heap.size + 1, 0, none⟩) 1 1, .slice none 0 0)], rfl, h1, ?_, ?_⟩
    · intro k hk
      injection hk with hk
      exact .inr hk.symm
    · intro x hx
      simp at hx
      subst hx
      refine ⟨fun k => k = w.heap.size + 1, h2, ⟨none, 0, rfl, by simp, by omega, fun _ => ⟨rfl, rfl⟩, fun h => by simp at h⟩, fun k hk => ⟨.inl hk, fun e => ?_⟩⟩
      injection e with e
      have e1 : w.heap.size + 1 + 1 = k := e
      have e2 : k = w.heap.size + 1 := hk
      omega
  · intro k hk
    refine ⟨by omega, ?_⟩
    simp
    omega
  · exact (((Below.refl _ _).alloc (Nat.le_refl _) _).alloc (by simp) _).alloc (by simp; omega) _
end Go.Proofs.Zap

namespace Go.Proofs.Zap
open Go Go.Proofs Go.RowKit

/-- what a node does to its kids' leaves -/
def lmap (kind lvl : Int) (fs : List FC) (x : List Int × List FC) : List Int × List FC := (if kind = 2 then x.1 ++ [w8 lvl] else x.1, if kind = 3 ∨ kind = 4 then x.2 ++ fs else x.2)
def zpart (kind lvl : Int) (fs : List FC) (kids : Nat → CT FC) (j : Nat) : List (List Int × List FC) := (List.range j).flatMap fun i => (zl (kids i)).map (lmap kind lvl fs)
theorem zpart_succ (kind lvl : Int) (fs : List FC) (kids : Nat → CT FC) (j : Nat) : zpart kind lvl fs kids (j + 1) = zpart kind lvl fs kids j ++ (zl (kids j)).map (lmap kind lvl fs) := by simp [zpart, List.range_succ]
theorem zl_mk (kind lvl : Int) (n : Nat) (kids : Nat → CT FC) (fs : List FC) (h0 : kind ≠ 0) (h5 : kind ≠ 5) : zl (.mk kind lvl n kids fs) = zpart kind lvl fs kids n := by
  simp only [zl, h0, h5, if_false]; rfl
theorem map_take_succ {α β : Type} (f : α → β) (L : List α) (k : Nat) (x : α) (h : L[k]? = some x) : (L.take (k + 1)).map f = (L.take k).map f ++ [f x] := by
  rw [List.take_add_one, h]; simp

/-- the outer loop -/
structure ZoI (w wr : World) (xs : Array Value) (T : Nat → Prop) (u : Value) (L : List (List Int × List FC)) : Prop where
  below : Below w.heap.size w wr
  x : Blk wr w.heap.size 41 xs
  out : LvO wr T u L
  t : ∀ k, T k → w.heap.size < k ∧ k < wr.heap.size
/-- the inner loop: the kid's leaves are kept -/
structure ZiI (w wr : World) (xs : Array Value) (T T2 : Nat → Prop) (u ku : Value) (L LK : List (List Int × List FC)) : Prop where
  o : ZoI w wr xs T u L
  kid : LvO wr T2 ku LK
  t2 : ∀ k, T2 k → w.heap.size < k ∧ k < wr.heap.size
  tt : ∀ k, T2 k → ¬ T k

theorem LvO.form {w : World} {T : Nat → Prop} {u : Value} {L : List (List Int × List FC)} (h : LvO w T u L) : ∃ A c, u = .slice A L.length c := by
  obtain ⟨R, h1, h2, h3, h4⟩ := h
  obtain ⟨A, c, e⟩ := ownsRow_shape h2
  exact ⟨A, c, by rw [e, ← h1]; simp⟩
theorem lrows_at : ∀ (R : List (List Int × List FC × Value × Value)) (j : Nat) (x : List Int × List FC × Value × Value), R[j]? = some x → (lrows R)[j * 2]? = some x.2.2.1 ∧ (lrows R)[j * 2 + 1]? = some x.2.2.2
  | [], j, x, h => by simp at h
  | y :: R, 0, x, h => by simp at h; subst h; exact ⟨rfl, rfl⟩
  | y :: R, j + 1, x, h => by
    have := lrows_at R j x (by simpa using h)
    have e : lrows (y :: R) = [y.2.2.1, y.2.2.2] ++ lrows R := rfl
    rw [e]
    rw [show (j + 1) * 2 = j * 2 + 2 by omega, show j * 2 + 2 + 1 = (j * 2 + 1) + 2 by omega]
    exact this
/-- the leaf at an index -/
theorem lvo_at {w : World} {T : Nat → Prop} {u : Value} {L : List (List Int × List FC)} (h : LvO w T u L) {j : Nat} {x : List Int × List FC} (hx : L[j]? = some x) :
    ∃ g cap iA ic fA fc, u = .slice (some ⟨g, 0, none⟩) L.length cap ∧ L.length ≤ cap ∧ T g ∧ w.cell? ⟨g, j * 2, none⟩ = some (.slice iA x.1.length ic) ∧ w.cell? ⟨g, j * 2 + 1, none⟩ = some (.slice fA x.2.length fc) ∧
      ∃ Si, IVs w Si x.1 (.slice iA x.1.length ic) ∧ VFs w Si x.2 (.slice fA x.2.length fc) ∧ ∀ k, Si k → T k := by
  obtain ⟨R, rfl, h2, h3, h4⟩ := h
  rw [List.getElem?_map, Option.map_eq_some_iff] at hx
  obtain ⟨y, hy, rfl⟩ := hx
  obtain ⟨Si, hv, hf, hs⟩ := h4 y (List.mem_of_getElem? hy)
  have hlt := (List.getElem?_eq_some_iff.1 hy).1
  rcases h2.2 with ⟨rfl, hn⟩ | ⟨g, cap, cur, rfl, hb, hg, hnc, _⟩
  · omega
  · obtain ⟨r0, r1⟩ := lrows_at R j y hy
    have hcell : ∀ q v, (lrows R)[q]? = some v → w.cell? ⟨g, q, none⟩ = some v := fun q v hq => by
      have := h2.cells (g := g) rfl q v hq
      rw [add_off] at this
      simpa using this
    obtain ⟨iA, ic, ei, _⟩ := id hv
    obtain ⟨fA, fc, ef, _⟩ := id hf
    refine ⟨g, cap, iA, ic, fA, fc, by simp, by simpa using hnc, h3 g rfl, ?_, ?_, Si, ei ▸ hv, ef ▸ hf, fun k hk => (hs k hk).1⟩
    · rw [← ei]; exact hcell _ _ r0
    · rw [← ef]; exact hcell _ _ r1
/-- a fresh empty slice -/
theorem own_empty (w : World) (e : TypeId) (size : Nat) : (w.alloc (.cells #[] e)).ownsRow w.heap.size e size (.slice (some ⟨w.heap.size, 0, none⟩) 0 0) 0 [] :=
  World.ownsRow_lit (base := w.heap.size) (e := e) (size := size) w #[] 0 (Nat.le_refl _) (by unfold maxLen; omega) (by simp)
theorem LvO.cells {w w' : World} {T : Nat → Prop} {u : Value} {L : List (List Int × List FC)} (h : LvO w T u L) (hT : ∀ k, T k → k < w.heap.size) (hb : Below w.heap.size w w') : LvO w' T u L := h.keep fun k hk => hb.block k (hT k hk)
theorem Src.keepB {w w' : World} {size m : Nat} {X : Value} {news : List Value} {S : Nat → Prop} (h : Src w size X m news) (hs : ∀ ad c, X = .slice (some ad) m c → 0 < news.length → S ad.block) (hk : ∀ k, S k → w'.heap[k]? = w.heap[k]?) : Src w' size X m news := by
  obtain ⟨h1, h2, h3⟩ := h
  refine ⟨h1, h2, ?_⟩
  rcases h3 with h | ⟨ad, c, rfl, hc⟩
  · exact .inl h
  · refine .inr ⟨ad, c, rfl, fun j u hu => ?_⟩
    have hn : 0 < news.length := by have := (List.getElem?_eq_some_iff.1 hu).1; omega
    have hb : (ad.add j).block = ad.block := by rw [Addr.add]; first | rfl | (split <;> rfl)
    exact (World.cell?_of_block (w := w) (a := ad.add j) (by rw [hb]; exact hk _ (hs ad c rfl hn))).trans (hc j u hu)
end Go.Proofs.Zap

/- plain part of zLeaves' inner round: what stands behind each of its appends -/
namespace Go.Proofs.Zap
open Go Go.Proofs Go.RowKit

theorem own_keep {w w' : World} {base : Nat} {e : TypeId} {size n : Nat} {v : Value} {xs : List Value} (h : w.ownsRow base e size v n xs) (hk : ∀ k cs, Blk w k e cs → w'.heap[k]? = w.heap[k]?) : w'.ownsRow base e size v n xs := by
  refine ⟨h.1, ?_⟩
  rcases h.2 with h | ⟨g, cap, cur, he, hb, hg, r⟩
  · exact .inl h
  · exact .inr ⟨g, cap, cur, he, hb, (hk g cur hg).trans hg, r⟩
theorem own_base {w : World} {base base' : Nat} {e : TypeId} {size n : Nat} {v : Value} {xs : List Value} (h : w.ownsRow base e size v n xs) (hb : base' ≤ base) : w.ownsRow base' e size v n xs := by
  refine ⟨h.1, ?_⟩
  rcases h.2 with h | ⟨g, cap, cur, he, hb', hg, r⟩
  · exact .inl h
  · exact .inr ⟨g, cap, cur, he, Nat.le_trans hb hb', hg, r⟩
/-- the block of an own row, if there is one, is of that type -/
theorem own_blk {w : World} {base : Nat} {e : TypeId} {size n : Nat} {v : Value} {xs : List Value} (h : w.ownsRow base e size v n xs) {k : Nat} (hk : v.ownBlock = some k) : ∃ cs, Blk w k e cs ∧ base ≤ k := by
  rcases h.2 with ⟨rfl, _⟩ | ⟨g, cap, cur, rfl, hb, hg, r⟩
  · cases hk
  · injection hk with hk
    subst hk
    exact ⟨cur, hg, hb⟩
/-- blocks of another type are kept while an own row grows -/
theorem blk_grown {w w' : World} {base : Nat} {e t : TypeId} {size n : Nat} {u : Value} {ys : List Value} {g : Nat} {cs : Array Value} (hB : Blk w g t cs) (hu : w.ownsRow base e size u n ys) (hgr : w.grownBy w' u.ownBlock) (hne : t ≠ e) : Blk w' g t cs := by
  refine (hgr.block g hB.lt fun h => ?_).trans hB
  obtain ⟨cs2, hb, _⟩ := own_blk hu h.symm
  exact hne (hB.uniq hb).1
theorem own_grown {w w' : World} {base base' : Nat} {e t : TypeId} {size size' n m : Nat} {u v : Value} {xs ys : List Value} (hv : w.ownsRow base' t size' v m xs) (hu : w.ownsRow base e size u n ys) (hgr : w.grownBy w' u.ownBlock) (hne : t ≠ e) : w'.ownsRow base' t size' v m xs :=
  own_keep hv fun _ _ hB => (blk_grown hB hu hgr hne).trans hB.symm
theorem own_set {w : World} {base : Nat} {e t : TypeId} {size n : Nat} {v : Value} {xs : List Value} {g i : Nat} {cs : Array Value} {x : Value} (hv : w.ownsRow base e size v n xs) (hB : Blk w g t cs) (hne : t ≠ e) : (w.setCell ⟨g, i, none⟩ x).ownsRow base e size v n xs :=
  own_keep hv fun k _ hk => Below.heap_setCell w ⟨g, i, none⟩ x k fun h => hne ((show Blk w k t cs from h ▸ hB).uniq hk).1
theorem own_fresh {w : World} {b base : Nat} (e : TypeId) (size : Nat) (h : b = w.heap.size) (hb : base ≤ b) : (w.alloc (.cells #[] e)).ownsRow base e size (.slice (some ⟨b, 0, none⟩) 0 0) 0 [] := by
  subst h; exact own_base (own_empty w e size) hb
theorem grown_below {w0 w w' : World} {B : Nat} {v : Value} {e : TypeId} {size n : Nat} {xs : List Value} (h : Below B w0 w) (hv : w.ownsRow B e size v n xs) (hz : B ≤ w.heap.size) (hgr : w.grownBy w' v.ownBlock) : Below B w0 w' :=
  h.trans ⟨hgr.os, hgr.tape, hgr.output, hgr.size, fun k hk => hgr.block k (by omega) fun e => by
    obtain ⟨_, _, hb⟩ := own_blk hv e.symm
    omega⟩

/-- what stands behind the drawn region: x's cells hold copies of a leaf's two slices -/
structure Mid14 (wr W : World) (b : Nat) (xi xf : Value) (ls : List Int) (fs : List FC) : Prop where
  below : Below wr.heap.size wr W
  hb : wr.heap.size ≤ b
  blk : Blk W b 163 #[xi, xf]
  iv : W.ownsRow wr.heap.size 3 1 xi ls.length (ivs ls)
  fv : W.ownsRow wr.heap.size 135 15 xf fs.length (vrows fs)
theorem Mid14.size {wr W : World} {b : Nat} {xi xf : Value} {ls : List Int} {fs : List FC} (h : Mid14 wr W b xi xf ls fs) : wr.heap.size ≤ W.heap.size := h.below.size
theorem ivs_append (a b : List Int) : ivs (a ++ b) = ivs a ++ ivs b := by simp [ivs]
/-- the levels grow -/
theorem Mid14.levels {wr W W' w2 : World} {b : Nat} {xi xf xi' : Value} {ls ms : List Int} {fs : List FC} (h : Mid14 wr W b xi xf ls fs) (hW : Below W.heap.size W W') (hgr : W'.grownBy w2 xi.ownBlock) (hown : w2.ownsRow wr.heap.size 3 1 xi' (ls.length + ms.length) (ivs ls ++ ivs ms)) :
    Mid14 wr (w2.setCell ⟨b, 0, none⟩ xi') b xi' xf (ls ++ ms) fs := by
  have k1 : ∀ k t cs, Blk W k t cs → W'.heap[k]? = W.heap[k]? := fun k t cs hB => hW.block k hB.lt
  have i1 := own_keep h.iv fun k cs hB => k1 k _ cs hB
  have f1 := own_keep h.fv fun k cs hB => k1 k _ cs hB
  have b1 : Blk W' b 163 #[xi, xf] := (k1 _ _ _ h.blk).trans h.blk
  have b2 := blk_grown b1 i1 hgr (by decide)
  have f2 := own_grown f1 i1 hgr (by decide)
  have z1 := h.below.size
  have z2 := hW.size
  have hb2 : Below wr.heap.size wr w2 := grown_below (h.below.trans (hW.mono z1)) i1 (by omega) hgr
  refine ⟨?_, h.hb, ?_, ?_, own_set f2 b2 (by decide)⟩
  · exact ⟨hb2.os, hb2.tape, hb2.output, by have := hb2.size; simpa [World.setCell] using this, fun k hk => (Below.heap_setCell w2 ⟨b, 0, none⟩ xi' k (by have := h.hb; show k ≠ b; omega)).trans (hb2.block k hk)⟩
  · have := b2.set_ 0 xi'; simpa using this
  · rw [List.length_append, ivs_append]; exact own_set hown b2 (by decide)
/-- the fields grow -/
theorem Mid14.fields {wr W W' w2 : World} {b : Nat} {xi xf xf' : Value} {ls : List Int} {fs gs : List FC} (h : Mid14 wr W b xi xf ls fs) (hW : Below W.heap.size W W') (hgr : W'.grownBy w2 xf.ownBlock) (hown : w2.ownsRow wr.heap.size 135 15 xf' (fs.length + gs.length) (vrows fs ++ vrows gs)) :
    Mid14 wr (w2.setCell ⟨b, 1, none⟩ xf') b xi xf' ls (fs ++ gs) := by
  have k1 : ∀ k t cs, Blk W k t cs → W'.heap[k]? = W.heap[k]? := fun k t cs hB => hW.block k hB.lt
  have i1 := own_keep h.iv fun k cs hB => k1 k _ cs hB
  have f1 := own_keep h.fv fun k cs hB => k1 k _ cs hB
  have b1 : Blk W' b 163 #[xi, xf] := (k1 _ _ _ h.blk).trans h.blk
  have b2 := blk_grown b1 f1 hgr (by decide)
  have i2 := own_grown i1 f1 hgr (by decide)
  have z1 := h.below.size
  have z2 := hW.size
  have hb2 : Below wr.heap.size wr w2 := grown_below (h.below.trans (hW.mono z1)) f1 (by omega) hgr
  refine ⟨?_, h.hb, ?_, own_set i2 b2 (by decide), ?_⟩
  · exact ⟨hb2.os, hb2.tape, hb2.output, by have := hb2.size; simpa [World.setCell] using this, fun k hk => (Below.heap_setCell w2 ⟨b, 1, none⟩ xf' k (by have := h.hb; show k ≠ b; omega)).trans (hb2.block k hk)⟩
  · have := b2.set_ 1 xf'; simpa using this
  · rw [List.length_append, vrows_append]; exact own_set hown b2 (by decide)
/-- the end of an inner round: the leaf is put behind the others -/
theorem zi_step {w wr W w2 : World} {xs : Array Value} {T T2 : Nat → Prop} {u ku u' xi xf : Value} {b : Nat} {L LK : List (List Int × List FC)} {R : List (List Int × List FC × Value × Value)} {ls : List Int} {fs : List FC} (h : ZiI w wr xs T T2 u ku L LK) (hR1 : R.map (fun x => (x.1, x.2.1)) = L) (hR3 : ∀ k, u.ownBlock = some k → T k)
    (hR4 : ∀ x, x ∈ R → ∃ Si, IVs wr Si x.1 x.2.2.1 ∧ VFs wr Si x.2.1 x.2.2.2 ∧ ∀ k, Si k → T k ∧ u.ownBlock ≠ some k) (hM : Mid14 wr W b xi xf ls fs) (hown : w2.ownsRow 0 163 2 u' (R.length + 1) (lrows R ++ [xi, xf])) (hgr : (W.alloc (.cells #[xi, xf] 163)).grownBy w2 u.ownBlock)
    (hat : u'.ownBlock = u.ownBlock ∨ u'.ownBlock = some (W.alloc (.cells #[xi, xf] 163)).heap.size) : ∃ T', ZiI w w2 xs T' T2 u' ku (L ++ [(ls, fs)]) LK := by
  have z0 := h.o.below.size
  have zx := h.o.x.lt
  have z1 := hM.below.size
  have hz : (W.alloc (.cells #[xi, xf] 163)).heap.size = W.heap.size + 1 := by simp
  have z2 : W.heap.size + 1 ≤ w2.heap.size := by have := hgr.size; omega
  have kW : ∀ k, k < wr.heap.size → (W.alloc (.cells #[xi, xf] 163)).heap[k]? = wr.heap[k]? := fun k hk => (heap_alloc_old W _ (by omega)).trans (hM.below.block k hk)
  have hT : ∀ k, T k → w.heap.size < k ∧ k < wr.heap.size := h.o.t
  have k2 : ∀ k, k < wr.heap.size → ¬ T k → w2.heap[k]? = wr.heap[k]? := fun k hk hn => (hgr.block k (by omega) fun e => hn (hR3 k e.symm)).trans (kW k hk)
  have i1 : IVs (W.alloc (.cells #[xi, xf] 163)) (fun k => wr.heap.size ≤ k ∧ k < W.heap.size) ls xi := ((ivs_of_own hM.iv).mono fun k hk => by
    obtain ⟨cs, a, c⟩ := own_blk hM.iv hk
    exact ⟨c, a.lt⟩).keep fun k hk => heap_alloc_old W _ hk.2
  have f1 : VFs (W.alloc (.cells #[xi, xf] 163)) (fun k => wr.heap.size ≤ k ∧ k < W.heap.size) fs xf := ((vfs_of_own hM.fv).mono fun k hk => by
    obtain ⟨cs, a, c⟩ := own_blk hM.fv hk
    exact ⟨c, a.lt⟩).keep fun k hk => heap_alloc_old W _ hk.2
  have hl := lvo_add (w := W.alloc (.cells #[xi, xf] 163)) (T := T) (R := R) (ls := ls) (fs := fs) hR3 (fun x hx => by
    obtain ⟨Si, a, b, c⟩ := hR4 x hx
    exact ⟨Si, a.keep fun k hk => kW k (hT k (c k hk).1).2, b.keep fun k hk => kW k (hT k (c k hk).1).2, c⟩) (fun k hk => by have := (hT k hk).2; omega) i1 f1 (fun k hk => ⟨by omega, fun e => by have := (hT k (hR3 k e)).2; omega⟩) hown hgr hat
  rw [hR1] at hl
  refine ⟨_, ⟨⟨?_, ?_, hl, fun k hk => ?_⟩, h.kid.keep fun k hk => k2 k (h.t2 k hk).2 (h.tt k hk), fun k hk => ⟨(h.t2 k hk).1, by have := (h.t2 k hk).2; omega⟩, fun k hk hk' => ?_⟩⟩
  · refine h.o.below.trans ⟨hgr.os.trans hM.below.os, hgr.tape.trans hM.below.tape, hgr.output.trans hM.below.output, by omega, fun k hk => k2 k (by omega) fun e => by have := (hT k e).1; omega⟩
  · exact (k2 _ h.o.x.lt fun e => by have := (hT _ e).1; omega).trans h.o.x
  · rcases hk with hk | hk | hk
    · have := hT k hk; omega
    · have := hk.1; have := hk.2; omega
    · have e1 : W.heap.size + 1 ≤ k := by have := hk.1; omega
      have e2 : k < w2.heap.size := hk.2
      omega
  · rcases hk' with hk' | hk' | hk'
    · exact h.tt k hk hk'
    · have := (h.t2 k hk).2; have := hk'.1; omega
    · have e1 : W.heap.size + 1 ≤ k := by have := hk'.1; omega
      have := (h.t2 k hk).2; omega

/-- what the drawn region's loads read, in every world of its walk -/
abbrev S14 (wr : World) (g m : Nat) (A B : Value) (W : World) : Prop := (W.cell? ⟨g, m * 2, none⟩ = some A ∧ W.cell? ⟨g, m * 2 + 1, none⟩ = some B) ∧ Below wr.heap.size wr W
theorem S14.of {wr W : World} {g m : Nat} {A B : Value} (h : wr.cell? ⟨g, m * 2, none⟩ = some A ∧ wr.cell? ⟨g, m * 2 + 1, none⟩ = some B) (hg : g < wr.heap.size) (hb : Below wr.heap.size wr W) : S14 wr g m A B W :=
  ⟨⟨(World.cell?_of_block (w := wr) (a := ⟨g, m * 2, none⟩) (hb.block g hg)).trans h.1, (World.cell?_of_block (w := wr) (a := ⟨g, m * 2 + 1, none⟩) (hb.block g hg)).trans h.2⟩, hb⟩
theorem below_allocB {B : Nat} {w W : World} (h : Below B w W) (hz : B ≤ w.heap.size) (o : Obj) : Below B w (W.alloc o) := h.alloc (Nat.le_trans hz h.size) o
theorem below_setB {B : Nat} {w W : World} {b i : Nat} {v : Value} (h : Below B w W) (hb : B ≤ b) : Below B w (W.setCell ⟨b, i, none⟩ v) :=
  ⟨h.os, h.tape, h.output, by have := h.size; simpa [World.setCell] using this, fun k hk => (Below.heap_setCell W ⟨b, i, none⟩ v k (by show k ≠ b; omega)).trans (h.block k hk)⟩
theorem size_alloc (w : World) (o : Obj) : (w.alloc o).heap.size = w.heap.size + 1 := by simp
theorem zero_cells {w : World} {b : Nat} (h : Blk w b 163 #[.slice none 0 0, .slice none 0 0]) : w.cell? ⟨b, 0, none⟩ = some (.slice none 0 0) ∧ w.cell? ⟨b, 1, none⟩ = some (.slice none 0 0) ∧ w.frozen? ⟨b, 0, none⟩ = false ∧ w.frozen? ⟨b, 1, none⟩ = false := ⟨h.cell 0, h.cell 1, h.frozen 0, h.frozen 1⟩
theorem own_keepT {w w' : World} {base : Nat} {e : TypeId} {size n : Nat} {v : Value} {xs : List Value} (h : w.ownsRow base e size v n xs) (hk : ∀ t b cs, t ≠ 135 → Blk w b t cs → Blk w' b t cs) (he : e ≠ 135) : w'.ownsRow base e size v n xs :=
  own_keep h fun k cs hB => (hk e k cs he hB).trans hB.symm
theorem own_keepU {w w' : World} {base : Nat} {e : TypeId} {size n : Nat} {v : Value} {xs : List Value} (h : w.ownsRow base e size v n xs) (hk : ∀ t b cs, t ≠ 3 → Blk w b t cs → Blk w' b t cs) (he : e ≠ 3) : w'.ownsRow base e size v n xs :=
  own_keep h fun k cs hB => (hk e k cs he hB).trans hB.symm
/-- an append onto a fresh empty slice, in a drawn region -/
theorem step14 {t e : TypeId} {size bytes : Nat} (R : RowT t e size bytes) {ops : Array Oper} {o : Oper} {a : Act} {w : World} {K : Act → World → Prop} {Q : Exit → Act → World → Prop} {E : Prop} (wr : World) (hgd : o.guard = none) (s x : Operand)
    (ho : o.op = .call { callee := .builtin .append, args := #[s, x], argTypes := #[t, t] })
    (hown : w.ownsRow wr.heap.size e size (a.eval s) 0 [])
    (m : Nat) (news : List Value) (hX : ∀ W, Below wr.heap.size wr W → Src W size (a.eval x) m news) (hB : Below wr.heap.size wr w)
    (h63 : m ≤ maxLen) (hbytes : m * bytes ≤ 140737488355328)
    (hK : ∀ A c w', w'.ownsRow wr.heap.size e size (.slice A m c) m news → Below wr.heap.size wr w' → (∀ t' b cs, t' ≠ e → Blk w b t' cs → Blk w' b t' cs) → K (a.put o.dst (.slice A m c)) w') :
    if Region.wanted o (yielded ops a.tmps) = true then Oper.wp Tryz.prog o a w K Q else E := by
  refine step_appN R hgd s x ho wr.heap.size _ 0 [] rfl hown _ m news rfl (hX w hB) (by omega) (by simpa using hbytes) hB.size fun v' w' h2 hgr _ => ?_
  rw [Nat.zero_add, List.nil_append] at h2
  obtain ⟨A, c, rfl⟩ := ownsRow_shape h2
  exact hK A c w' h2 (grown_below hB hown hB.size hgr) fun t' b cs hne hb => blk_grown hb hown hgr hne
/-- the drawn region's end, whatever its order -/
def M14 (a : Act) (wr : World) (ls : List Int) (fs : List FC) (a' : Act) (w' : World) : Prop :=
  ∃ (b : Nat) (A6 : Option Addr) (c6 : Nat) (A13 : Option Addr) (c13 : Nat) (d40 d41 d42 d43 d44 d45 d46 d47 d48 d49 d50 d51 d52 d53 d54 : Value), a' = ((((((((((((((((a.put (some 7) (.pointer (some ⟨b, 0, none⟩))).put (some 40) d40).put (some 41) d41).put (some 42) d42).put (some 43) d43).put (some 44) d44).put (some 45) d45).put (some 46) d46).put (some 47) d47).put (some 48) d48).put (some 49) d49).put (some 50) d50).put (some 51) d51).put (some 52) d52).put (some 53) d53).put (some 54) d54) ∧ Mid14 wr w' b (.slice A6 ls.length c6) (.slice A13 fs.length c13) ls fs
theorem wp_via14 {c : Code} {Q : Exit → Act → World → Prop} {a : Act} {w : World} (wr : World) (ls : List Int) (fs : List FC) (h1 : c.wp Tryz.prog (fun e a' w' => e = .normal ∧ M14 a wr ls fs a' w') a w)
    (h2 : ∀ (b : Nat) (A6 : Option Addr) (c6 : Nat) (A13 : Option Addr) (c13 : Nat) (d40 d41 d42 d43 d44 d45 d46 d47 d48 d49 d50 d51 d52 d53 d54 : Value) (W : World), Mid14 wr W b (.slice A6 ls.length c6) (.slice A13 fs.length c13) ls fs → Q .normal ((((((((((((((((a.put (some 7) (.pointer (some ⟨b, 0, none⟩))).put (some 40) d40).put (some 41) d41).put (some 42) d42).put (some 43) d43).put (some 44) d44).put (some 45) d45).put (some 46) d46).put (some 47) d47).put (some 48) d48).put (some 49) d49).put (some 50) d50).put (some 51) d51).put (some 52) d52).put (some 53) d53).put (some 54) d54) W) : c.wp Tryz.prog Q a w :=
  Code.wp_mono (fun e a' w' h => by
    obtain ⟨rfl, b, A6, c6, A13, c13, d40, d41, d42, d43, d44, d45, d46, d47, d48, d49, d50, d51, d52, d53, d54, rfl, hm⟩ := h
    exact h2 b A6 c6 A13 c13 d40 d41 d42 d43 d44 d45 d46 d47 d48 d49 d50 d51 d52 d53 d54 w' hm) h1
theorem mid_end {wr W : World} {b : Nat} {xi xf z0 z1 : Value} {ls : List Int} {fs : List FC} (h : Below wr.heap.size wr W) (hb : wr.heap.size ≤ b) (hB : Blk W b 163 #[z0, z1]) (hi : W.ownsRow wr.heap.size 3 1 xi ls.length (ivs ls)) (hf : W.ownsRow wr.heap.size 135 15 xf fs.length (vrows fs)) : Mid14 wr ((W.setCell ⟨b, 0, none⟩ xi).setCell ⟨b, 1, none⟩ xf) b xi xf ls fs := by
  have b1 : Blk (W.setCell ⟨b, 0, none⟩ xi) b 163 #[xi, z1] := by have := hB.set_ 0 xi; simpa using this
  have b2 : Blk ((W.setCell ⟨b, 0, none⟩ xi).setCell ⟨b, 1, none⟩ xf) b 163 #[xi, xf] := by have := b1.set_ 1 xf; simpa using this
  exact ⟨below_setB (below_setB h hb) hb, hb, b2, own_set (own_set hi hB (by decide)) b1 (by decide), own_set (own_set hf hB (by decide)) b1 (by decide)⟩

theorem zl_lv (t : CT FC) : ∀ (d : Nat), fine t d = true → ∀ x, x ∈ zl t → x.1.length ≤ d := by
  induction t with
  | no => intro d _ x hx; simp [zl] at hx
  | mk kind lvl n kids fs ih =>
    intro d hf x hx
    obtain ⟨k0, k5, hd, hn, h1, h0, hk⟩ := fine_parts hf
    simp only [zl] at hx
    split at hx
    · simp at hx; subst hx; simp; omega
    · split at hx
      · cases hx
      · obtain ⟨i, hi, hx⟩ := List.mem_flatMap.1 hx
        obtain ⟨y, hy, rfl⟩ := List.mem_map.1 hx
        have hi := List.mem_range.1 hi
        have := ih i (d - 1) (hk i hi) y hy
        dsimp only
        split
        · rw [List.length_append]; simp; omega
        · omega
theorem zpart_len (kind lvl : Int) (fs : List FC) (kids : Nat → CT FC) (d n : Nat) (hd : d ≤ 6) (hk : ∀ i, i < n → fine (kids i) d = true) : ∀ j, j ≤ n → (zpart kind lvl fs kids j).length ≤ j * 46656
  | 0, _ => by simp [zpart]
  | j + 1, h => by
    rw [zpart_succ, List.length_append, List.length_map]
    have h0 := zpart_len kind lvl fs kids d n hd hk j (by omega)
    have h1 := len_zl (kids j) d (hk j (by omega))
    have h2 := cnt_le (kids j) d (hk j (by omega))
    have h3 : 6 ^ d ≤ 6 ^ 6 := Nat.pow_le_pow_right (by omega) hd
    omega
theorem src_fresh {W : World} {e : TypeId} {cs : Array Value} {size m : Nat} (h : cs.size = m * size) (h1 : ∀ u, u ∈ cs.toList → u.oneCell' = true) : Src (W.alloc (.cells cs e)) size (.slice (some ⟨W.heap.size, 0, none⟩) m m) m cs.toList := by
  refine ⟨by simpa using h, h1, .inr ⟨_, _, rfl, fun j u hu => ?_⟩⟩
  rw [add_off]
  have := (Blk.new W e cs).cell j
  rw [Nat.zero_add]
  rw [this]
  simpa using hu
end Go.Proofs.Zap
