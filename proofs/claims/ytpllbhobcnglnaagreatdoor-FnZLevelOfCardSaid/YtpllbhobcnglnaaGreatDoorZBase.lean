/- a text of the claims over the seat; its order and aim: NOTES.md -/
import Derived.WalkKit
import Derived.WalkLawsBesides
import Derived.WalkSpells
import Derived.Deep.QuietTactic
import Derived.BigQuiet
import Derived.StillTailTactics
import Derived.Lib.AppendStr
import Derived.Lib.Hide
import Derived.Test.YtpllbhobcnglnaaGreatDoorProg
import Derived.Test.YtpllbhobcnglnaaGreatDoorShelf
import Derived.Lib.IndexBytes
namespace Go.Proofs.Zap
open Go Go.Proofs Go.RowKit

/-- bytes as cells -/
def bytesV (l : List UInt8) : List Value := l.map fun b => Value.int .u8 b.toNat

theorem bytesV_length (l : List UInt8) : (bytesV l).length = l.length := by simp [bytesV]
theorem bytesV_append (l m : List UInt8) : bytesV (l ++ m) = bytesV l ++ bytesV m := by simp [bytesV]
theorem bytesV_str (s : ByteArray) : Lib.strCells s = bytesV s.data.toList := rfl

/-- block U holds a buffer whose bytes are l; they lie in a row of its own, from block base on -/
def Buf (w : World) (base U : Nat) (l : List UInt8) : Prop :=
  U < base ∧ base ≤ w.heap.size ∧ ∃ v, w.heap[U]? = some (.cells #[v] 265 (0, 0)) ∧ w.ownsRow base 5 1 v l.length (bytesV l)

/-- below base nothing but block U may have changed -/
structure Keep (base U : Nat) (w w' : World) : Prop where
  os : w'.os = w.os
  tape : w'.tape = w.tape
  output : w'.output = w.output
  size : w.heap.size ≤ w'.heap.size
  block : ∀ k, k < base → k ≠ U → w'.heap[k]? = w.heap[k]?

theorem Keep.refl (base U : Nat) (w : World) : Keep base U w w := ⟨rfl, rfl, rfl, Nat.le_refl _, fun _ _ _ => rfl⟩
theorem Keep.trans {base U : Nat} {a b c : World} (h : Keep base U a b) (k : Keep base U b c) : Keep base U a c :=
  ⟨k.os.trans h.os, k.tape.trans h.tape, k.output.trans h.output, Nat.le_trans h.size k.size, fun i hi hu => (k.block i hi hu).trans (h.block i hi hu)⟩
theorem Keep.cell {base U : Nat} {w w' : World} (h : Keep base U w w') {b o : Nat} (hb : b < base) (hu : b ≠ U) : w'.cell? ⟨b, o, none⟩ = w.cell? ⟨b, o, none⟩ :=
  World.cell?_of_block (w := w) (h.block b hb hu)
theorem Keep.frozen {base U : Nat} {w w' : World} (h : Keep base U w w') {b o : Nat} (hb : b < base) (hu : b ≠ U) : w'.frozen? ⟨b, o, none⟩ = w.frozen? ⟨b, o, none⟩ :=
  World.frozen?_of_block (w := w) (h.block b hb hu)

theorem Tz.info5 : (Tryz.prog.info? 5).map (fun i => (i.zero, i.size, i.bytes)) = some (some (.int .u8 0), 1, 1) := by kernel_rfl

theorem ownsRow_form {w : World} {base : Nat} {v : Value} {n : Nat} {xs : List Value} {e : TypeId} {s : Nat} (h : w.ownsRow base e s v n xs) :
    (∃ a c, v = .slice a n c) := by
  rcases h.2 with ⟨rfl, rfl⟩ | ⟨g, cap, cur, rfl, _⟩
  · exact ⟨_, _, rfl⟩
  · exact ⟨_, _, rfl⟩

/-- the new slice is laid into the buffer -/
theorem Buf.store {w w1 : World} {base U : Nat} {v v' : Value} {l : List UInt8} (hU : U < base) (hB : base ≤ w.heap.size)
    (hv : w.heap[U]? = some (.cells #[v] 265 (0, 0))) (hb : Below base w w1) (hown : w1.ownsRow base 5 1 v' l.length (bytesV l)) :
    Buf (w1.setCell ⟨U, 0, none⟩ v') base U l ∧ Keep base U w (w1.setCell ⟨U, 0, none⟩ v') := by
  have e : w1.heap[U]? = some (.cells #[v] 265 (0, 0)) := (hb.block U hU).trans hv
  have hs := hb.size
  refine ⟨⟨hU, by simp [World.setCell]; omega, v', ?_, ownsRow_setCell_below hown (by simpa using hU) v'⟩, ?_⟩
  · simp [World.setCell, Array.getElem?_modify, e]
  · refine ⟨hb.os, hb.tape, hb.output, by simp [World.setCell]; omega, fun k hk hne => ?_⟩
    rw [Below.heap_setCell _ _ _ _ (by simpa using hne)]
    exact hb.block k hk

theorem own_ge {w : World} {base : Nat} {v : Value} {n : Nat} {xs : List Value} {e : TypeId} {s : Nat} (h : w.ownsRow base e s v n xs) : ∀ k, v.ownBlock = some k → base ≤ k :=
  fun k hk => (h.lt k hk).1

set_option maxHeartbeats 400000 in
theorem appendByte_any (U base : Nat) (l : List UInt8) (c : UInt8) (w : World) (hb : Buf w base U l) (hl : l.length < 1000000000) :
    Calls Tryz.prog 196 #[.pointer (some ⟨U, 0, none⟩), .int .u8 c.toNat] w fun e w' => e = .returned (.tuple #[]) ∧ Buf w' base U (l ++ [c]) ∧ Keep base U w w' := by
  obtain ⟨hU, hB, v, hv, hown⟩ := hb
  obtain ⟨i0, hi, hz0, hz1, hz2⟩ := info_parts Tz.info5
  obtain ⟨a, cp, rfl⟩ := ownsRow_form hown
  have hc : w.cell? ⟨U, 0, none⟩ = some (.slice a l.length cp) := by simp [World.cell?, hv]
  have hf : w.frozen? ⟨U, 0, none⟩ = false := by simp [World.frozen?, hv]
  have hUs : U < w.heap.size := by omega
  go_enter Tryz.func196, Tryz.ntmps196
  go_wp2_with (at_builtin; refine wpList_append_own _ rfl (.tmp 8) (.tmp 10) 31 rfl base 5 i0 (.int .u8 0) 1 1 Tryz.underlying31 hi hz0 hz1 hz2 rfl (by decide) _ _ _ rfl (hown.alloc _) ⟨w.heap.size, 0, none⟩ 1 1 [.int .u8 c.toNat] rfl rfl ?c1 ?c2 ?c3 ?c4 ?c5 ?_)
  case c1 => exact cell_one_new _ _ _
  case c2 => simp [Value.oneCell']
  case c3 => unfold maxLen; omega
  case c4 => omega
  case c5 => simp; omega
  intro v' w1 hown1 hg _
  have hbel : Below base w w1 := ((Below.refl base w).alloc hB _).grown hg (by simp; omega) (own_ge hown)
  obtain ⟨a', cp', rfl⟩ := ownsRow_form hown1
  have hc1 : w1.cell? ⟨U, 0, none⟩ = some (.slice a l.length cp) := (hbel.cell (p := ⟨U, 0, none⟩) hU).trans hc
  have hf1 : w1.frozen? ⟨U, 0, none⟩ = false := (hbel.frozen (p := ⟨U, 0, none⟩) hU).trans hf
  have hown2 : w1.ownsRow base 5 1 (.slice a' (l.length + 1) cp') (l ++ [c]).length (bytesV (l ++ [c])) := by
    rw [bytesV_append, List.length_append]; exact hown1
  have H := Lib.hid (Buf.store hU hB hv hbel hown2)
  clear hown hown1 hown2 hg hbel hv hi hz0 hz1 hz2
  go_wp2
  go_end0
  exact ⟨rfl, H.out⟩

set_option maxHeartbeats 400000 in
theorem appendString_any (U base : Nat) (l : List UInt8) (s : ByteArray) (w : World) (hb : Buf w base U l) (hl : l.length + s.size < 1000000000) :
    Calls Tryz.prog 172 #[.pointer (some ⟨U, 0, none⟩), .string s] w fun e w' => e = .returned (.tuple #[]) ∧ Buf w' base U (l ++ s.data.toList) ∧ Keep base U w w' := by
  obtain ⟨hU, hB, v, hv, hown⟩ := hb
  obtain ⟨i0, hi, hz0, hz1, hz2⟩ := info_parts Tz.info5
  obtain ⟨a, cp, rfl⟩ := ownsRow_form hown
  have hc : w.cell? ⟨U, 0, none⟩ = some (.slice a l.length cp) := by simp [World.cell?, hv]
  have hf : w.frozen? ⟨U, 0, none⟩ = false := by simp [World.frozen?, hv]
  have hUs : U < w.heap.size := by omega
  go_enter Tryz.func172, Tryz.ntmps172
  go_wp2_with (at_builtin; refine Lib.wpList_append_own_string _ rfl (.tmp 8) (.tmp 9) 31 9 rfl base 5 i0 Tryz.underlying31 Tryz.underlying9 hi hz0 hz1 hz2 _ _ _ rfl hown s rfl ?c3 ?c4 hB ?_)
  case c3 => unfold maxLen; omega
  case c4 => omega
  intro v' w1 hown1 hg _
  have hbel : Below base w w1 := (Below.refl base w).grown hg hB (own_ge hown)
  obtain ⟨a', cp', rfl⟩ := ownsRow_form hown1
  have hc1 : w1.cell? ⟨U, 0, none⟩ = some (.slice a l.length cp) := (hbel.cell (p := ⟨U, 0, none⟩) hU).trans hc
  have hf1 : w1.frozen? ⟨U, 0, none⟩ = false := (hbel.frozen (p := ⟨U, 0, none⟩) hU).trans hf
  have hown2 : w1.ownsRow base 5 1 (.slice a' (l.length + s.size) cp') (l ++ s.data.toList).length (bytesV (l ++ s.data.toList)) := by
    rw [bytesV_append, List.length_append]; exact hown1
  have H := Lib.hid (Buf.store hU hB hv hbel hown2)
  clear hown hown1 hown2 hg hbel hv hi hz0 hz1 hz2
  go_wp2
  go_end0
  exact ⟨rfl, H.out⟩

theorem Keep.below {base U : Nat} {w w' : World} (h : Below w.heap.size w w') (hb : base ≤ w.heap.size) : Keep base U w w' :=
  ⟨h.os, h.tape, h.output, h.size, fun k hk _ => h.block k (by omega)⟩

theorem ownsRow_below {w w' : World} {base : Nat} {v : Value} {n : Nat} {xs : List Value} {e : TypeId} {s : Nat} (h : w.ownsRow base e s v n xs) (hb : Below w.heap.size w w') :
    w'.ownsRow base e s v n xs := by
  refine ⟨h.1, ?_⟩
  rcases h.2 with h2 | ⟨g, cap, cur, hv, hg, hh, r⟩
  · exact .inl h2
  · exact .inr ⟨g, cap, cur, hv, hg, (hb.block g (Array.getElem?_eq_some_iff.1 hh).1).trans hh, r⟩

theorem Buf.below {w w' : World} {base U : Nat} {l : List UInt8} (h : Buf w base U l) (hb : Below w.heap.size w w') : Buf w' base U l := by
  obtain ⟨hU, hB, v, hv, hown⟩ := h
  exact ⟨hU, Nat.le_trans hB hb.size, v, (hb.block U (by omega)).trans hv, ownsRow_below hown hb⟩

/-- the tables of the library, as their initialisers lay them -/
def Tabs (w : World) : Prop := Lib.Utf8Tabs 2 3 w ∧ Lib.TabIs Tryz.prog w "internal/strconv.uint64pow10" .u64 Lib.pow10Tab

theorem Tz.global1 : Tryz.prog.globalNamed "internal/strconv.uint64pow10" = some 1 := by kernel_rfl

theorem Tabs.mono {w w' : World} (h : Tabs w) (hk : ∀ k, k < 13 → w'.heap[k]? = w.heap[k]?) : Tabs w' := by
  obtain ⟨⟨h1, h2⟩, h3⟩ := h
  have e2 : ∀ o, w'.cell? ⟨2, o, none⟩ = w.cell? ⟨2, o, none⟩ := fun o => World.cell?_of_block (w := w) (hk 2 (by omega))
  have e3 : ∀ o, w'.cell? ⟨3, o, none⟩ = w.cell? ⟨3, o, none⟩ := fun o => World.cell?_of_block (w := w) (hk 3 (by omega))
  refine ⟨⟨fun c hc => (e2 c).trans (h1 c hc), fun i hi => ⟨(e3 _).trans (h2 i hi).1, (e3 _).trans (h2 i hi).2⟩⟩, ?_⟩
  unfold Lib.TabIs World.var? at *
  rw [Tz.global1] at *
  simpa [hk 1 (by omega)] using h3

theorem Tabs.keep {base U : Nat} {w w' : World} (h : Tabs w) (hk : Keep base U w w') (hU : 13 ≤ U) (hb : U < base) : Tabs w' :=
  h.mono fun k hlt => hk.block k (by omega) (by omega)

theorem Tabs.below {B : Nat} {w w' : World} (h : Tabs w) (hk : Below B w w') (hB : 13 ≤ B) : Tabs w' :=
  h.mono fun k hlt => hk.block k (by omega)
end Go.Proofs.Zap
