/- a text of the claims over the seat; its order and aim: NOTES.md -/
import Derived.Test.YtpllbhobcnglnaaGreatDoorZQB
import Derived.Laws.AppendOwn
namespace Go.Proofs.Zap
open Go Go.Proofs Go.RowKit

/-- what a slice type's row is -/
structure RowT (t e : TypeId) (size bytes : Nat) : Prop where
  u : Tryz.prog.underlying t = some (.slice e)
  i : ∃ i z, Tryz.prog.info? e = some i ∧ i.zero = some z ∧ i.size = size ∧ i.bytes = bytes ∧ z.cells.size = size
  pos : 0 < size

theorem rowT_of {t e : TypeId} {size bytes : Nat} {z : Value} (u : Tryz.prog.underlying t = some (.slice e)) (hz : (Tryz.prog.info? e).map (·.zero) = some (some z)) (hs : (Tryz.prog.info? e).map (·.size) = some size) (hb : (Tryz.prog.info? e).map (·.bytes) = some bytes)
    (hzs : z.cells.size = size) (pos : 0 < size) : RowT t e size bytes := by
  refine ⟨u, ?_, pos⟩
  obtain ⟨i, hi, hz⟩ := Option.map_eq_some_iff.1 hz
  rw [hi] at hs hb
  exact ⟨i, z, hi, hz, by simpa using hs, by simpa using hb, hzs⟩

theorem row149 : RowT 149 176 5 64 := rowT_of u149 z176 s176 y176 rfl (by decide)

theorem wpList_app1 {t e : TypeId} {size bytes : Nat} (R : RowT t e size bytes) {ops : Array Oper} {rest : List Oper} {o : Oper} {a : Act} {Q : Exit → Act → World → Prop} (w : World) (hgd : o.guard = none) (s x : Operand)
    (ho : o.op = .call { callee := .builtin .append, args := #[s, x], argTypes := #[t, t] })
    (base : Nat) (v : Value) (n : Nat) (xs : List Value) (hs : a.eval s = v) (hown : w.ownsRow base e size v n xs)
    (g : Nat) (cs : Array Value) (hx : a.eval x = .slice (some ⟨g, 0, none⟩) 1 1) (hg : w.heap[g]? = some (.cells cs e (0, 0))) (hl : cs.size = size) (h1 : ∀ u ∈ cs.toList, u.oneCell' = true)
    (h63 : n + 1 ≤ maxLen) (hbytes : (n + 1) * bytes ≤ 140737488355328) (hbase : base ≤ w.heap.size)
    (h : ∀ v' w', w'.ownsRow base e size v' (n + 1) (xs ++ cs.toList) → w.grownBy w' v.ownBlock → wpList Tryz.prog ops Q rest (a.put o.dst v') w') : wpList Tryz.prog ops Q (o :: rest) a w := by
  obtain ⟨i, z, hi, hz, hsz, hby, hzs⟩ := R.i
  refine wpList_append_own w hgd s x t ho base e i z size bytes R.u hi hz hsz hby hzs R.pos v n xs hs hown ⟨g, 0, none⟩ 1 1 cs.toList hx (by simp [hl]) ?_ h1 h63 hbytes hbase fun v' w' h2 h3 _ => h v' w' h2 h3
  intro j u hu
  have hadd : (⟨g, 0, none⟩ : Addr).add j = ⟨g, j, none⟩ := by unfold Addr.add; split <;> simp_all
  rw [hadd, cell_of_row w g j cs e (0, 0) hg]
  simpa using hu

theorem below_own {w0 w w' : World} {e : TypeId} {size n : Nat} {v : Value} {xs : List Value} (hb : Below w0.heap.size w0 w) (ho : w.ownsRow w0.heap.size e size v n xs) (hg : w.grownBy w' v.ownBlock) : Below w0.heap.size w0 w' :=
  ⟨hg.os.trans hb.os, hg.tape.trans hb.tape, hg.output.trans hb.output, Nat.le_trans hb.size hg.size, fun k hk => (hg.block k (Nat.lt_of_lt_of_le hk hb.size) fun e => by have := (ho.lt k e.symm).1; omega).trans (hb.block k hk)⟩

theorem row_new1 (w : World) (cs : Array Value) (t : TypeId) : (w.alloc (.cells cs t)).heap[w.heap.size]? = some (.cells cs t (0, 0)) := heap_alloc_new w _
theorem row_new2 (w : World) (o : Obj) (cs : Array Value) (t : TypeId) : ((w.alloc o).alloc (.cells cs t)).heap[w.heap.size + 1]? = some (.cells cs t (0, 0)) := by
  have := heap_alloc_new (w.alloc o) (.cells cs t)
  simpa using this

/-- a slice that a call made: its rows in a new block -/
theorem ownsRow_shape {w : World} {base : Nat} {e : TypeId} {size n : Nat} {v : Value} {xs : List Value} (h : w.ownsRow base e size v n xs) : ∃ a cap, v = .slice a n cap := by
  rcases h.2 with ⟨rfl, rfl⟩ | ⟨g, cap, cur, rfl, _⟩
  · exact ⟨none, 0, rfl⟩
  · exact ⟨_, cap, rfl⟩
end Go.Proofs.Zap
