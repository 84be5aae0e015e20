/- a text of the claims over the seat; its order and aim: NOTES.md -/
import Derived.Test.YtpllbhobcnglnaaGreatDoorZQ9
import Derived.Lib.AppendZeros
import Derived.Laws.AppendOwn
namespace Go.Proofs.Zap
open Go Go.Proofs Go.RowKit

set_option maxHeartbeats 2000000 in
theorem teeEn (T n cap : Nat) (vs : Nat → Value) (p : Nat → Bool) (l : Int) (w : World) (h2 : n ≤ cap) (h3 : cap ≤ 9223372036854775807) (hT : T < w.heap.size) (hc : ∀ i, i < n → w.cell? ⟨T, i, none⟩ = some (vs i))
    (hi : ∀ i, i < n → ∀ W, Below w.heap.size w W → Inv (vs i) "Enabled" [.int .i8 l] W (Says W (.bool (p i)))) :
    Calls Tryz.prog 404 #[.slice (some ⟨T, 0, none⟩) n cap, .int .i8 l] w (Says w (.bool (anyB n p))) := by
  have HC := Lib.hid hc
  have HI := Lib.hid hi
  have HB0 := Lib.hid (Below.refl w.heap.size w)
  clear hc hi
  go_enter Tryz.func404, Tryz.ntmps404
  go_wp2_with fail
  go_loopw [8] (fun i wr => ∃ j : Nat, i = .int .i64 j ∧ j ≤ n ∧ (∀ m, m < j → p m = false) ∧ Hid (Below w.heap.size w wr)) (fun i _ => n - (intOf i).toNat)
  case atStart => exact ⟨0, rfl, by omega, fun m hm => absurd hm (by omega), HB0⟩
  case round =>
    obtain ⟨j, rfl, hj, hall, hbl⟩ := hrel
    by_cases hlt : j < n
    · obtain ⟨t, q, f, r, o, ev, i1, i2, i3, i5, i4⟩ := HI.out j hlt wr hbl.out
      have c0 : wr.cell? ⟨T, j, none⟩ = some (.iface t q) := (World.cell?_of_block (w := w) (hbl.out.block T hT)).trans ((HC.out j hlt).trans (by rw [ev]))
      have q0 : (0 : Int) ≤ (j : Int) := Int.natCast_nonneg _
      have q1 : (j : Int) < (n : Int) := by omega
      have I4 := Lib.hid i4
      have io : o = none ∨ o = some false := by rcases o with _ | _ | _ <;> simp at i2 ⊢
      clear i4 i2 ev
      rcases io with rfl | rfl
      all_goals
        go_wp2_with fail
        refine I4.out.mono ?_
        rintro e w' ⟨rfl, hb'⟩
        have hsz := hbl.out.size
        have HB := Lib.hid (hbl.out.trans (hb'.mono hsz))
        clear hb' hbl c0 i1 i3
        rcases he : p j with _ | _
        · go_wp2_with fail
          go_roundw
          case rel => exact ⟨j + 1, by go_num, by omega, fun m hm => if e : m = j then e ▸ he else hall m (by omega), HB⟩
          case measure => simp [intOf]; omega
        · go_wp2_with fail
          go_ret
          exact ⟨congrArg (fun b => Ending.returned (.bool b)) (anyB_true.2 ⟨j, hlt, he⟩).symm, HB.out⟩
    · go_wp2_with fail
      go_ret
      exact ⟨congrArg (fun b => Ending.returned (.bool b)) (anyB_false.2 fun i hi => hall i (by omega)).symm, hbl.out⟩

theorem cf261 (A : Array Value) (W : World) : (callFunc 261 A).run Tryz.prog W = .ok (.enter 261 A) W := by kernel_rfl
theorem cf399 (A : Array Value) (W : World) : (callFunc 399 A).run Tryz.prog W = .ok (.enter 399 A) W := by kernel_rfl
theorem cf404 (A : Array Value) (W : World) : (callFunc 404 A).run Tryz.prog W = .ok (.enter 404 A) W := by kernel_rfl
theorem cf411 (A : Array Value) (W : World) : (callFunc 411 A).run Tryz.prog W = .ok (.enter 411 A) W := by kernel_rfl
theorem cf417 (A : Array Value) (W : World) : (callFunc 417 A).run Tryz.prog W = .ok (.enter 417 A) W := by kernel_rfl

/-- what a built core enables -/
theorem en_rep {ok : Prop} {Y : (Nat → Prop) → KT FC → Value → Prop} {N : Nat} (l : Int) (K : KT FC) : ∀ {S : Nat → Prop} {v : Value} {w : World}, RepG ok Y w N K S v → (∀ k, S k → k < w.heap.size) →
    Inv v "Enabled" [.int .i8 l] w (Says w (.bool (enK K l))) := by
  induction K generalizing ok Y with
  | leaf lvl num fs =>
    intro S v w h hS
    obtain ⟨L, g, rfl, h2, h3, h4, h5⟩ := h
    exact ⟨201, _, 261, .int .i8 lvl, none, rfl, nlF _ _, by simp, mtF L lvl w (h3.cell 0), cf261, lvlEn lvl l w⟩
  | nop =>
    intro S v w h hS
    subst h
    exact ⟨318, _, 399, .agg #[], some false, rfl, nlN _, by simp, mtN w, cf399, nopEn l w⟩
  | tee n kids ih =>
    intro S v w h hS
    obtain ⟨T, cap, Sk, vs, rfl, h2, h3, h4, h5⟩ := h
    refine ⟨319, _, 404, _, some false, rfl, nlT _ _ _ _, by simp, mtT _ _ _ w, cf404, ?_⟩
    exact teeEn T n cap vs (fun i => enK (kids i) l) l w h2 h3 (hS T h4) (fun i hi => (h5 i hi).2.2.2.1) fun i hi W hW => by
      obtain ⟨g1, g2, g3, g4, g5⟩ := h5 i hi
      have g6 := RepG.keep (Y' := fun _ _ _ => True) (w' := W) (fun _ _ _ _ _ => trivial) g5 fun k hk => hW.block k (hS k (g1 k hk))
      exact ih i g6 fun k hk => Nat.lt_of_lt_of_le (hS k (g1 k hk)) hW.size
  | incr lvl k ih =>
    intro S v w h hS
    obtain ⟨I, vc, S1, rfl, h2, h3, h4, h5, h6, h7⟩ := h
    exact ⟨321, _, 411, _, some false, rfl, nlI _ _, by simp, mtI _ w, cf411, incEn I vc lvl l w h3⟩
  | lazy k fs ih =>
    intro S v w h hS
    obtain ⟨h0, Z, vo, g, S1, SG, rfl, h2, h3, h4, h5, h6, h7, h8, h9, h10⟩ := h
    have hi := ih h8 fun j hj => hS j (h3 j hj)
    refine ⟨324, _, 417, _, some false, rfl, nlZ _ _, by simp, mtZ _ w, cf417, ?_⟩
    rcases h10 with h10 | ⟨vy, S2, g1, _⟩
    · exact lazEn Z _ _ _ _ _ l w h10 hi
    · exact lazEn Z _ _ _ _ _ l w g1 hi
end Go.Proofs.Zap

namespace Go.Proofs.Zap
open Go Go.Proofs Go.RowKit

theorem u149 : Tryz.prog.underlying 149 = some (.slice 176) := by kernel_rfl
theorem u3 : Tryz.prog.underlying 3 = some (.int .i64) := by kernel_rfl
theorem z176 : (Tryz.prog.info? 176).map (·.zero) = some (some (.agg #[.string ⟨#[]⟩, .int .u8 0, .int .i64 0, .string ⟨#[]⟩, .nilIface])) := by kernel_rfl
theorem s176 : (Tryz.prog.info? 176).map (·.size) = some 5 := by kernel_rfl
theorem y176 : (Tryz.prog.info? 176).map (·.bytes) = some 64 := by kernel_rfl

/-- so many rows of zero fields -/
def zRows (n : Nat) : Array Value := Builtin.zeroCells (Value.agg #[.string ⟨#[]⟩, .int .u8 0, .int .i64 0, .string ⟨#[]⟩, .nilIface]).cells n

/-- what Grow answers of nothing and n -/
def Grew (n : Nat) (w : World) (e : Ending) (w' : World) : Prop :=
  (n = 0 ∧ e = .returned (.slice none 0 0) ∧ w' = w) ∨ (0 < n ∧ ∃ cap, n ≤ cap ∧ cap ≤ maxLen ∧ e = .returned (.slice (some ⟨w.heap.size, 0, none⟩) 0 cap) ∧ w' = (w.alloc (.cells (zRows n ++ zRows (cap - n)) 176)).drew)

theorem append176 (n : Nat) (w : World) (h0 : 0 < n) (h48 : n * 64 ≤ 281474976710656) : ∃ cap, n ≤ cap ∧ cap ≤ maxLen ∧ cap = grownCap w n 0 176 ∧
    (Builtin.append_ #[149, 3] 149 #[.slice none 0 0, .int .i64 n]).run Tryz.prog w = .ok (.slice (some ⟨w.heap.size, 0, none⟩) n cap) (w.drew.alloc (.cells (zRows n ++ zRows (cap - n)) 176)) := by
  obtain ⟨i, hi, hz⟩ := Option.map_eq_some_iff.1 z176
  have hs : i.size = 5 := by have := s176; rw [hi] at this; simpa using this
  have hb : i.bytes = 64 := by have := y176; rw [hi] at this; simpa using this
  exact ⟨grownCap w n 0 176, grownCap_ge w n 0 176, grownCap_le_maxLen w n 0 176 (by unfold maxLen; omega), rfl, Lib.run_append_nil_zeros w 149 3 149 176 i _ .i64 .i64 u149 u3 hi hz n h0 (by omega) (by omega) (by rw [hb]; exact h48)⟩

set_option maxRecDepth 100000 in
set_option maxHeartbeats 1000000 in
theorem grow_any (n : Nat) (w : World) (h48 : n * 64 ≤ 281474976710656) : Calls Tryz.prog 374 #[.slice none 0 0, .int .i64 n] w (Grew n w) := by
  by_cases h0 : n = 0
  · subst h0
    go_enter Tryz.func374, Tryz.ntmps374
    go_wp2_with fail
    go_ret
    exact .inl ⟨rfl, rfl, rfl⟩
  · obtain ⟨cap, hc1, hcm, hce, hap⟩ := append176 n w (by omega) h48
    have hn0 : (0 : Int) < (n : Int) := by omega
    have hw : IntKind.i64.wrap (n : Int) = n := wrap64_id (by omega) (by omega)
    have HAP := Lib.hid hap
    have HCM := Lib.hid hcm
    clear hap h48 hce hcm
    go_enter Tryz.func374, Tryz.ntmps374
    go_wp2_with (at_builtin; refine Lib.wpList_append_run _ rfl _ _ _ _ rfl _ _ rfl rfl _ _ HAP.out ?_)
    go_ret
    exact .inr ⟨by omega, cap, hc1, HCM.out, rfl, rfl⟩
end Go.Proofs.Zap

namespace Go.Proofs.Zap
open Go Go.Proofs Go.RowKit

/-- what a slice type's row is -/
structure RowT (t e : TypeId) (size bytes : Nat) : Prop where
  u : Tryz.prog.underlying t = some (.slice e)
  i : ∃ i z, Tryz.prog.info? e = some i ∧ i.zero = some z ∧ i.size = size ∧ i.bytes = bytes ∧ z.cells.size = size
  pos : 0 < size

theorem rowT_of {t e : TypeId} {size bytes : Nat} {z : Value} (u : Tryz.prog.underlying t = some (.slice e)) (hz : (Tryz.prog.info? e).map (·.zero) = some (some z)) (hs : (Tryz.prog.info? e).map (·.size) = some size) (hb : (Tryz.prog.info? e).map (·.bytes) = some bytes)
    (hzs : z.cells.size = size) (pos : 0 < size) : RowT t e size bytes := by
  refine ⟨u, ?_, pos⟩
  obtain ⟨i, hi, hz⟩ := Option.map_eq_some_iff.1 hz
  rw [hi] at hs hb
  exact ⟨i, z, hi, hz, by simpa using hs, by simpa using hb, hzs⟩

theorem row149 : RowT 149 176 5 64 := rowT_of u149 z176 s176 y176 rfl (by decide)

theorem wpList_app1 {t e : TypeId} {size bytes : Nat} (R : RowT t e size bytes) {ops : Array Oper} {rest : List Oper} {o : Oper} {a : Act} {Q : Exit → Act → World → Prop} (w : World) (hgd : o.guard = none) (s x : Operand)
    (ho : o.op = .call { callee := .builtin .append, args := #[s, x], argTypes := #[t, t] })
    (base : Nat) (v : Value) (n : Nat) (xs : List Value) (hs : a.eval s = v) (hown : w.ownsRow base e size v n xs)
    (g : Nat) (cs : Array Value) (hx : a.eval x = .slice (some ⟨g, 0, none⟩) 1 1) (hg : w.heap[g]? = some (.cells cs e (0, 0))) (hl : cs.size = size) (h1 : ∀ u ∈ cs.toList, u.oneCell' = true)
    (h63 : n + 1 ≤ maxLen) (hbytes : (n + 1) * bytes ≤ 140737488355328) (hbase : base ≤ w.heap.size)
    (h : ∀ v' w', w'.ownsRow base e size v' (n + 1) (xs ++ cs.toList) → w.grownBy w' v.ownBlock → wpList Tryz.prog ops Q rest (a.put o.dst v') w') : wpList Tryz.prog ops Q (o :: rest) a w := by
  obtain ⟨i, z, hi, hz, hsz, hby, hzs⟩ := R.i
  refine wpList_append_own w hgd s x t ho base e i z size bytes R.u hi hz hsz hby hzs R.pos v n xs hs hown ⟨g, 0, none⟩ 1 1 cs.toList hx (by simp [hl]) ?_ h1 h63 hbytes hbase fun v' w' h2 h3 _ => h v' w' h2 h3
  intro j u hu
  have hadd : (⟨g, 0, none⟩ : Addr).add j = ⟨g, j, none⟩ := by unfold Addr.add; split <;> simp_all
  rw [hadd, cell_of_row w g j cs e (0, 0) hg]
  simpa using hu

theorem below_own {w0 w w' : World} {e : TypeId} {size n : Nat} {v : Value} {xs : List Value} (hb : Below w0.heap.size w0 w) (ho : w.ownsRow w0.heap.size e size v n xs) (hg : w.grownBy w' v.ownBlock) : Below w0.heap.size w0 w' :=
  ⟨hg.os.trans hb.os, hg.tape.trans hb.tape, hg.output.trans hb.output, Nat.le_trans hb.size hg.size, fun k hk => (hg.block k (Nat.lt_of_lt_of_le hk hb.size) fun e => by have := (ho.lt k e.symm).1; omega).trans (hb.block k hk)⟩

theorem row_new1 (w : World) (cs : Array Value) (t : TypeId) : (w.alloc (.cells cs t)).heap[w.heap.size]? = some (.cells cs t (0, 0)) := heap_alloc_new w _
theorem row_new2 (w : World) (o : Obj) (cs : Array Value) (t : TypeId) : ((w.alloc o).alloc (.cells cs t)).heap[w.heap.size + 1]? = some (.cells cs t (0, 0)) := by
  have := heap_alloc_new (w.alloc o) (.cells cs t)
  simpa using this

/-- a slice that a call made: its rows in a new block -/
theorem ownsRow_shape {w : World} {base : Nat} {e : TypeId} {size n : Nat} {v : Value} {xs : List Value} (h : w.ownsRow base e size v n xs) : ∃ a cap, v = .slice a n cap := by
  rcases h.2 with ⟨rfl, rfl⟩ | ⟨g, cap, cur, rfl, _⟩
  · exact ⟨none, 0, rfl⟩
  · exact ⟨_, cap, rfl⟩
end Go.Proofs.Zap
