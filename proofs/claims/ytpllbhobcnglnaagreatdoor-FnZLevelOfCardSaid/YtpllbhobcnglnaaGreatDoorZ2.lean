/- a text of the claims over the seat; its order and aim: NOTES.md -/
import Derived.Test.YtpllbhobcnglnaaGreatDoorZBase
namespace Go.Proofs.Zap
open Go Go.Proofs Go.RowKit

/-- 'string(b)' of a row of its own -/
theorem conv_owned {w : World} {base : Nat} {v : Value} {l : List UInt8} (h : w.ownsRow base 5 1 v l.length (bytesV l)) :
    (convert 31 9 v).run Tryz.prog w = .ok (.string ⟨l.toArray⟩) w := by
  rcases h.2 with ⟨rfl, h0⟩ | ⟨g, cap, cur, rfl, _, hg, hn, _, hcs, htake⟩
  · have : l = [] := List.eq_nil_of_length_eq_zero h0
    subst this
    exact run_convert_bytes_nil w 31 5 Tryz.underlying31 Tryz.underlying5 0 0 9 Tryz.underlying9
  · refine run_convert_bytes_back w 31 9 5 ⟨g, 0, none⟩ cap l Tryz.underlying31 Tryz.underlying5 Tryz.underlying9 fun j hj => ?_
    have := h.cells (g := g) rfl j (.int .u8 (l[j].toNat : Int)) (by simp [bytesV, List.getElem?_eq_getElem hj])
    exact this

set_option maxHeartbeats 400000 in
theorem bufString_any (U base : Nat) (l : List UInt8) (w : World) (hb : Buf w base U l) :
    Calls Tryz.prog 90 #[.pointer (some ⟨U, 0, none⟩)] w fun e w' => e = .returned (.string ⟨l.toArray⟩) ∧ w = w' := by
  obtain ⟨hU, hB, v, hv, hown⟩ := hb
  have hconv := conv_owned hown
  obtain ⟨a, cp, rfl⟩ := ownsRow_form hown
  have hc : w.cell? ⟨U, 0, none⟩ = some (.slice a l.length cp) := by simp [World.cell?, hv]
  go_enter Tryz.func90, Tryz.ntmps90
  clear hown hv
  go_wp2
  go_ret
  exact ⟨rfl, rfl⟩

set_option maxHeartbeats 400000 in
theorem bufGet (w : World) :
    Calls Tryz.prog 147 #[] w fun e w' => e = .returned (.pointer (some ⟨w.heap.size, 0, none⟩)) ∧ w' = w.alloc (.cells #[.slice none 0 0] 265) := by
  go_enter Tryz.func147, Tryz.ntmps147
  go_wp2
  go_ret
  exact ⟨rfl, rfl⟩

/-- the cells of a configuration that has nothing but encoders of levels, times, durations, callers -/
def cfgCells (ending : ByteArray) (lv tm du ca : Value) : List Value :=
  [.string ⟨#[]⟩, .string ⟨#[]⟩, .string ⟨#[]⟩, .string ⟨#[]⟩, .string ⟨#[]⟩, .string ⟨#[]⟩, .string ⟨#[]⟩, .bool false, .string ending, lv, tm, du, ca, .nilFunc, .string ⟨#[]⟩]

set_option maxHeartbeats 1000000 in
set_option maxRecDepth 100000 in
theorem newEnc (tm du : Value) (w : World) :
    Calls Tryz.prog 95 #[.agg (cfgCells ⟨#[]⟩ .nilFunc tm du .nilFunc).toArray, .bool false] w fun e w' => e = .returned (.pointer (some ⟨w.heap.size + 2, 0, none⟩)) ∧
      w' = ((w.alloc (.cells (cfgCells ⟨#[10]⟩ .nilFunc tm du .nilFunc).toArray 100)).alloc (.cells #[.slice none 0 0] 265)).alloc (.cells #[.pointer (some ⟨w.heap.size, 0, none⟩), .pointer (some ⟨w.heap.size + 1, 0, none⟩), .bool false, .int .i64 0] 183) := by
  unfold cfgCells
  go_enter Tryz.func95, Tryz.ntmps95
  go_wp2_with (go_at_call 147; refine (bufGet _).mono ?_; rintro e w' ⟨rfl, rfl⟩)
  go_ret
  exact ⟨rfl, rfl⟩

set_option maxHeartbeats 400000 in
theorem appendBytes_any (U base : Nat) (l : List UInt8) (ad : Addr) (c : Nat) (x : List UInt8) (w : World) (hb : Buf w base U l) (hl : l.length + x.length < 1000000000)
    (hx : ∀ j u, (bytesV x)[j]? = some u → w.cell? (ad.add j) = some u) :
    Calls Tryz.prog 174 #[.pointer (some ⟨U, 0, none⟩), .slice (some ad) x.length c] w fun e w' => e = .returned (.tuple #[]) ∧ Buf w' base U (l ++ x) ∧ Keep base U w w' := by
  obtain ⟨hU, hB, v, hv, hown⟩ := hb
  obtain ⟨i0, hi, hz0, hz1, hz2⟩ := info_parts Tz.info5
  obtain ⟨a, cp, rfl⟩ := ownsRow_form hown
  have hc : w.cell? ⟨U, 0, none⟩ = some (.slice a l.length cp) := by simp [World.cell?, hv]
  have hf : w.frozen? ⟨U, 0, none⟩ = false := by simp [World.frozen?, hv]
  have hUs : U < w.heap.size := by omega
  have HX := Lib.hid hx
  clear hx
  go_enter Tryz.func174, Tryz.ntmps174
  go_wp2_with (at_builtin; refine wpList_append_own _ rfl (.tmp 8) (.tmp 9) 31 rfl base 5 i0 (.int .u8 0) 1 1 Tryz.underlying31 hi hz0 hz1 hz2 rfl (by decide) _ _ _ rfl hown ad x.length c (bytesV x) rfl ?c0 HX.out ?c2 ?c3 ?c4 ?c5 ?_)
  case c0 => rw [bytesV_length, Nat.mul_one]
  case c2 => intro u hu; simp only [bytesV, List.mem_map] at hu; obtain ⟨b, _, rfl⟩ := hu; rfl
  case c3 => unfold maxLen; omega
  case c4 => omega
  case c5 => exact hB
  intro v' w1 hown1 hg _
  have hbel : Below base w w1 := (Below.refl base w).grown hg hB (own_ge hown)
  obtain ⟨a', cp', rfl⟩ := ownsRow_form hown1
  have hc1 : w1.cell? ⟨U, 0, none⟩ = some (.slice a l.length cp) := (hbel.cell (p := ⟨U, 0, none⟩) hU).trans hc
  have hf1 : w1.frozen? ⟨U, 0, none⟩ = false := (hbel.frozen (p := ⟨U, 0, none⟩) hU).trans hf
  have hown2 : w1.ownsRow base 5 1 (.slice a' (l.length + x.length) cp') (l ++ x).length (bytesV (l ++ x)) := by
    rw [bytesV_append, List.length_append]; exact hown1
  have H := Lib.hid (Buf.store hU hB hv hbel hown2)
  clear hown hown1 hown2 hg hbel hv hi hz0 hz1 hz2
  go_wp2
  go_end0
  exact ⟨rfl, H.out⟩
end Go.Proofs.Zap
