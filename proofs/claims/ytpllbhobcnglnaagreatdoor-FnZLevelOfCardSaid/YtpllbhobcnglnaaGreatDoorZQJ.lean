/- a text of the claims over the seat; its order and aim: NOTES.md -/
import Derived.Test.YtpllbhobcnglnaaGreatDoorZQI
import Derived.Maps.AppendAt
namespace Go.Proofs.Zap
open Go Go.Proofs Go.RowKit

theorem wpList_app1at {t e : TypeId} {size bytes : Nat} (R : RowT t e size bytes) {ops : Array Oper} {rest : List Oper} {o : Oper} {a : Act} {Q : Exit → Act → World → Prop} (w : World) (hgd : o.guard = none) (s x : Operand)
    (ho : o.op = .call { callee := .builtin .append, args := #[s, x], argTypes := #[t, t] })
    (base : Nat) (v : Value) (n : Nat) (xs : List Value) (hs : a.eval s = v) (hown : w.ownsRow base e size v n xs)
    (g : Nat) (cs : Array Value) (hx : a.eval x = .slice (some ⟨g, 0, none⟩) 1 1) (hg : w.heap[g]? = some (.cells cs e (0, 0))) (hl : cs.size = size) (h1 : ∀ u ∈ cs.toList, u.oneCell' = true)
    (h63 : n + 1 ≤ maxLen) (hbytes : (n + 1) * bytes ≤ 140737488355328) (hbase : base ≤ w.heap.size)
    (h : ∀ v' w', w'.ownsRow base e size v' (n + 1) (xs ++ cs.toList) → w.grownBy w' v.ownBlock → (v'.ownBlock = v.ownBlock ∨ v'.ownBlock = some w.heap.size) → wpList Tryz.prog ops Q rest (a.put o.dst v') w') : wpList Tryz.prog ops Q (o :: rest) a w := by
  obtain ⟨i, z, hi, hz, hsz, hby, hzs⟩ := R.i
  refine wpList_append_own_at w hgd s x t ho base e i z size bytes R.u hi hz hsz hby hzs R.pos v n xs hs hown ⟨g, 0, none⟩ 1 1 cs.toList hx (by simp [hl]) ?_ h1 h63 hbytes hbase fun v' w' h2 h3 _ h4 => h v' w' h2 h3 h4
  intro j u hu
  have hadd : (⟨g, 0, none⟩ : Addr).add j = ⟨g, j, none⟩ := by unfold Addr.add; split <;> simp_all
  rw [hadd, cell_of_row w g j cs e (0, 0) hg]
  simpa using hu

theorem u207 : Tryz.prog.underlying 207 = some (.slice 123) := by kernel_rfl
theorem row207 : RowT 207 123 1 16 := rowT_of u207 z123 s123 y123 rfl (by decide)
end Go.Proofs.Zap
