/- a text of the claims over the seat; its order and aim: NOTES.md -/
import Derived.Test.YtpllbhobcnglnaaGreatDoorZT6
namespace Go.Proofs.Zap
open Go Go.Proofs Go.RowKit

/-- below base all is as it was, and every block that is no row of bytes -/
structure BK (base : Nat) (w w' : World) : Prop where
  below : Below base w w'
  other : ∀ g t cs, t ≠ 5 → Blk w g t cs → Blk w' g t cs

theorem BK.refl (base : Nat) (w : World) : BK base w w := ⟨Below.refl _ _, fun _ _ _ _ h => h⟩
theorem BK.trans {base : Nat} {a b c : World} (h : BK base a b) (k : BK base b c) : BK base a c :=
  ⟨h.below.trans k.below, fun g t cs ht hb => k.other g t cs ht (h.other g t cs ht hb)⟩
theorem BK.of_below {base : Nat} {w w' : World} (h : Below w.heap.size w w') (hb : base ≤ w.heap.size) : BK base w w' :=
  ⟨h.mono hb, fun _ _ _ _ hg => hg.below h hg.lt⟩
theorem BK.alloc (base : Nat) (w : World) (o : Obj) (hb : base ≤ w.heap.size) : BK base w (w.alloc o) := BK.of_below ((Below.refl _ _).alloc (Nat.le_refl _) _) hb
theorem BK.grown {base : Nat} {w w' : World} {v : Value} {n : Nat} {xs : List Value} (hown : w.ownsRow base 5 1 v n xs) (hg : w.grownBy w' v.ownBlock) (hb : base ≤ w.heap.size) : BK base w w' := by
  refine ⟨(Below.refl base w).grown hg hb (own_ge hown), fun g t cs ht h => ?_⟩
  refine (hg.block g h.lt ?_).trans h
  intro e
  rcases hown.2 with ⟨rfl, _⟩ | ⟨g', cap, cur, rfl, _, hh, _⟩
  · cases e
  · have e2 : g = g' := by simpa [Value.ownBlock] using e
    subst e2
    exact ht (Blk.uniq (show Blk w g 5 cur from hh) h).1.symm
theorem BK.size {base : Nat} {w w' : World} (h : BK base w w') : w.heap.size ≤ w'.heap.size := h.below.size

abbrev Own (w : World) (base : Nat) (v : Value) (l : List UInt8) : Prop := w.ownsRow base 5 1 v l.length (bytesV l)

theorem bytesV_one {l : List UInt8} : ∀ u ∈ bytesV l, u.oneCell' = true := by
  intro u hu
  unfold bytesV at hu
  obtain ⟨b, _, rfl⟩ := List.mem_map.1 hu
  rfl

/-- append of bytes that a literal slice holds -/
theorem wpList_app {ops : Array Oper} {rest : List Oper} {o : Oper} {a : Act} {Q : Exit → Act → World → Prop} {w0 : World} (hgd : o.guard = none) (s x : Operand)
    (ho : o.op = .call { callee := .builtin .append, args := #[s, x], argTypes := #[31, 31] }) (base : Nat) (v : Value) (l : List UInt8) (hs : a.eval s = v) (hown : Own w0 base v l)
    (cs : Array Value) (news : List UInt8) (hcs : cs = (bytesV news).toArray) (m : Nat) (hm : news.length = m) (hx : a.eval x = .slice (some ⟨w0.heap.size, 0, none⟩) m m)
    (hl : l.length + m ≤ 1000000000) (hbase : base ≤ w0.heap.size)
    (h : ∀ v' w', Own w' base v' (l ++ news) → BK base w0 w' → wpList Tryz.prog ops Q rest (a.put o.dst v') w') : wpList Tryz.prog ops Q (o :: rest) a (w0.alloc (.cells cs 5)) := by
  obtain ⟨i0, hi, hz0, hz1, hz2⟩ := info_parts Tz.info5
  have hB : Blk (w0.alloc (.cells cs 5)) w0.heap.size 5 cs := Blk.new _ _ _
  refine wpList_append_own _ hgd s x 31 ho base 5 i0 (.int .u8 0) 1 1 Tryz.underlying31 hi hz0 hz1 hz2 rfl (by decide) v l.length (bytesV l) hs (hown.alloc _) ⟨w0.heap.size, 0, none⟩ m m (bytesV news) hx
    (by rw [bytesV_length, hm]; omega) ?_ bytesV_one (by unfold maxLen; omega) (by omega) (by simp; omega) ?_
  · intro j u hj
    subst hcs
    have : (⟨w0.heap.size, 0, none⟩ : Addr).add j = ⟨w0.heap.size, j, none⟩ := by unfold Addr.add; split <;> simp_all
    rw [this, hB.cell]
    simpa using hj
  · intro v' w' hown' hg _
    refine h v' w' ?_ ((BK.alloc base w0 _ hbase).trans (BK.grown (hown.alloc _) hg (by simp; omega)))
    show w'.ownsRow base 5 1 v' (l ++ news).length (bytesV (l ++ news))
    rw [bytesV_append, List.length_append, hm]; exact hown'

theorem utod_any (u : Int) (h0 : 0 ≤ u) (h1 : u ≤ 9) (w : World) : Calls Tryz.prog 236 #[.int .u64 u] w fun e w' => e = .returned (.int .u8 (48 + u)) ∧ w' = w := by
  go_enter Tryz.func236, Tryz.ntmps236
  go_wp2
  go_ret
  exact ⟨rfl, rfl⟩

theorem dig_cell (n : Nat) (h : n < 10) : Value.int .u8 (48 + (n : Int)) = Value.int .u8 ((UInt8.ofNat (48 + n)).toNat : Int) := by
  rw [UInt8.toNat_ofNat']; apply int_eq; omega

theorem cells2 (n : Nat) (h : n < 100) : #[Value.int .u8 (48 + (n : Int) / 10), Value.int .u8 (48 + (n : Int) % 10)] = (bytesV (digs 2 n)).toArray := by
  have e : digs 2 n = [UInt8.ofNat (48 + n / 10 % 10), UInt8.ofNat (48 + n % 10)] := rfl
  rw [e]
  show _ = #[Value.int .u8 _, Value.int .u8 _]
  rw [← dig_cell _ (by omega), ← dig_cell _ (by omega), Nat.mod_eq_of_lt (show n / 10 < 10 by omega)]
  rfl
theorem cells4 (n : Nat) (h : n < 10000) : #[Value.int .u8 (48 + (n : Int) / 1000), Value.int .u8 (48 + (n : Int) / 100 % 10), Value.int .u8 (48 + (n : Int) / 10 % 10), Value.int .u8 (48 + (n : Int) % 10)] = (bytesV (digs 4 n)).toArray := by
  have e : digs 4 n = [UInt8.ofNat (48 + n / 10 / 10 / 10 % 10), UInt8.ofNat (48 + n / 10 / 10 % 10), UInt8.ofNat (48 + n / 10 % 10), UInt8.ofNat (48 + n % 10)] := rfl
  rw [e]
  show _ = #[Value.int .u8 _, Value.int .u8 _, Value.int .u8 _, Value.int .u8 _]
  rw [← dig_cell _ (by omega), ← dig_cell _ (by omega), ← dig_cell _ (by omega), ← dig_cell _ (by omega)]
  have a1 : (n : Int) / 1000 = ((n / 10 / 10 / 10 % 10 : Nat) : Int) := by omega
  have a2 : (n : Int) / 100 % 10 = ((n / 10 / 10 % 10 : Nat) : Int) := by omega
  rw [a1, a2]
  rfl

set_option maxHeartbeats 1000000 in
set_option maxRecDepth 100000 in
theorem ai2 (base : Nat) (v : Value) (l : List UInt8) (n : Nat) (hn : n < 100) (w : World) (hown : Own w base v l) (hbase : base ≤ w.heap.size) (hl : l.length ≤ 100000) :
    Calls Tryz.prog 220 #[v, .int .i64 n, .int .i64 2] w fun e w' => ∃ v', e = .returned v' ∧ Own w' base v' (l ++ digs 2 n) ∧ BK base w w' := by
  have HO := Lib.hid hown
  have HC := Lib.hid (cells2 n hn)
  clear hown
  go_enter Tryz.func220, Tryz.ntmps220
  go_wp2_with (first | (go_at_call 236; refine (utod_any _ (by omega) (by omega) _).mono ?_; rintro e w' ⟨rfl, rfl⟩) | (at_builtin; refine wpList_app rfl _ _ rfl base _ l rfl HO.out _ (digs 2 n) HC.out 2 rfl rfl (by omega) hbase ?_; intro v1 w1 ho1 hb1; have H1 := Lib.hid ho1; have HB1 := Lib.hid hb1; clear ho1 hb1))
  go_ret
  exact ⟨v1, rfl, H1.out, HB1.out⟩

set_option maxHeartbeats 1000000 in
set_option maxRecDepth 100000 in
theorem ai4 (base : Nat) (v : Value) (l : List UInt8) (n : Nat) (hn : n < 10000) (w : World) (hown : Own w base v l) (hbase : base ≤ w.heap.size) (hl : l.length ≤ 100000) :
    Calls Tryz.prog 220 #[v, .int .i64 n, .int .i64 4] w fun e w' => ∃ v', e = .returned v' ∧ Own w' base v' (l ++ digs 4 n) ∧ BK base w w' := by
  have HO := Lib.hid hown
  have HC := Lib.hid (cells4 n hn)
  clear hown
  go_enter Tryz.func220, Tryz.ntmps220
  go_wp2_with (first | (go_at_call 236; refine (utod_any _ (by omega) (by omega) _).mono ?_; rintro e w' ⟨rfl, rfl⟩) | (at_builtin; refine wpList_app rfl _ _ rfl base _ l rfl HO.out _ (digs 4 n) HC.out 4 rfl rfl (by omega) hbase ?_; intro v1 w1 ho1 hb1; have H1 := Lib.hid ho1; have HB1 := Lib.hid hb1; clear ho1 hb1))
  go_ret
  exact ⟨v1, rfl, H1.out, HB1.out⟩
end Go.Proofs.Zap
