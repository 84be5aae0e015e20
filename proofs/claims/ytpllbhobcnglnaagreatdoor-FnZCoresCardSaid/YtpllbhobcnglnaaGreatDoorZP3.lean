/- a text of the claims over the seat; its order and aim: NOTES.md -/
import Derived.Test.YtpllbhobcnglnaaGreatDoorZP1
namespace Go.Proofs.Zap
open Go Go.Proofs Go.RowKit

/-- the one table that whole numbers are written by -/
def PTab (w : World) : Prop := Lib.TabIs Tryz.prog w "internal/strconv.uint64pow10" .u64 Lib.pow10Tab
theorem PTab.mono {w w' : World} (h : PTab w) (hk : ∀ k, k < 13 → w'.heap[k]? = w.heap[k]?) : PTab w' := by
  unfold PTab Lib.TabIs World.var? at *
  rw [Tz.global1] at *
  simpa [hk 1 (by omega)] using h
theorem PTab.below {B : Nat} {w w' : World} (h : PTab w) (hk : Below B w w') (hB : 13 ≤ B) : PTab w' := h.mono fun k hlt => hk.block k (by omega)
theorem PTab.pow {w : World} (h : PTab w) {B : Nat} (hB : 13 ≤ B) : Lib.TabBelow Tryz.prog B w "internal/strconv.uint64pow10" .u64 Lib.pow10Tab := fun _ hb => h.below hb hB

set_option maxHeartbeats 400000 in
theorem bufAppendInt_any (U base : Nat) (l : List UInt8) (n : Int) (h0 : -9223372036854775808 ≤ n) (h1 : n ≤ 9223372036854775807) (w : World) (hb : Buf w base U l) (hl : l.length < 1000000000) (hT : PTab w) (h13 : 13 ≤ base) :
    Calls Tryz.prog 206 #[.pointer (some ⟨U, 0, none⟩), .int .i64 n] w fun e w' => e = .returned (.tuple #[]) ∧ Buf w' base U (l ++ Lib.itoa n) ∧ Keep base U w w' := by
  obtain ⟨hU, hB, v, hv, hown⟩ := hb
  obtain ⟨a, cp, rfl⟩ := ownsRow_form hown
  have hc : w.cell? ⟨U, 0, none⟩ = some (.slice a l.length cp) := by simp [World.cell?, hv]
  have hf : w.frozen? ⟨U, 0, none⟩ = false := by simp [World.frozen?, hv]
  have hUs : U < w.heap.size := by omega
  have HO := Lib.hid hown
  have HV := Lib.hid hv
  clear hown hv
  go_enter Tryz.func206, Tryz.ntmps206
  go_wp2_with fail
  refine (Tryz.strconv_AppendInt_10 base l.length n h0 h1 _ (bytesV l) w HO.out hB (by omega) (hT.pow h13)).mono ?_
  rintro e w1 ⟨v', rfl, hown1, hbel, _⟩
  obtain ⟨a', cp', rfl⟩ := ownsRow_form hown1
  have hc1 : w1.cell? ⟨U, 0, none⟩ = some (.slice a l.length cp) := (hbel.cell (p := ⟨U, 0, none⟩) hU).trans hc
  have hf1 : w1.frozen? ⟨U, 0, none⟩ = false := (hbel.frozen (p := ⟨U, 0, none⟩) hU).trans hf
  have hown2 : w1.ownsRow base 5 1 (.slice a' (l.length + (Lib.itoa n).length) cp') (l ++ Lib.itoa n).length (bytesV (l ++ Lib.itoa n)) := by
    rw [bytesV_append, List.length_append]; exact hown1
  have H := Lib.hid (Buf.store hU hB HV.out hbel hown2)
  clear hown1 hown2 hbel
  go_wp2
  go_end0
  exact ⟨rfl, H.out⟩

/-- the encoder E: its configuration lies in block C, its buffer in block U -/
def EncAt (w : World) (E C U : Nat) : Prop := w.heap[E]? = some (.cells #[.pointer (some ⟨C, 0, none⟩), .pointer (some ⟨U, 0, none⟩), .bool false, .int .i64 0] 183 (0, 0))

theorem EncAt.c0 {w : World} {E C U : Nat} (h : EncAt w E C U) : w.cell? ⟨E, 0, none⟩ = some (.pointer (some ⟨C, 0, none⟩)) := by simp [World.cell?, show w.heap[E]? = _ from h]
theorem EncAt.c1 {w : World} {E C U : Nat} (h : EncAt w E C U) : w.cell? ⟨E, 1, none⟩ = some (.pointer (some ⟨U, 0, none⟩)) := by simp [World.cell?, show w.heap[E]? = _ from h]
theorem EncAt.c2 {w : World} {E C U : Nat} (h : EncAt w E C U) : w.cell? ⟨E, 2, none⟩ = some (.bool false) := by simp [World.cell?, show w.heap[E]? = _ from h]
theorem EncAt.keep {w w' : World} {E C U base : Nat} (h : EncAt w E C U) (hk : Keep base U w w') (hE : E < base) (hne : E ≠ U) : EncAt w' E C U := (hk.block E hE hne).trans h

theorem Buf.len {w : World} {base U : Nat} {l : List UInt8} (h : Buf w base U l) : ∃ a c, w.cell? ⟨U, 0, none⟩ = some (.slice a l.length c) := by
  obtain ⟨hU, hB, v, hv, hown⟩ := h
  obtain ⟨a, cp, rfl⟩ := ownsRow_form hown
  exact ⟨a, cp, by simp [World.cell?, hv]⟩

set_option maxHeartbeats 400000 in
theorem sep_nil (E C U base : Nat) (w : World) (he : EncAt w E C U) (hb : Buf w base U []) :
    Calls Tryz.prog 316 #[.pointer (some ⟨E, 0, none⟩)] w fun e w' => e = .returned (.tuple #[]) ∧ w' = w := by
  have e1 := he.c1
  obtain ⟨a, c, hc⟩ := hb.len
  clear he hb
  go_enter Tryz.func316, Tryz.ntmps316
  go_wp2
  first | go_end0 | refine bodyPost_ret (results_none rfl _ _ _) rfl ?_
  exact ⟨rfl, rfl⟩

set_option maxHeartbeats 400000 in
theorem encInt_any (E C U base : Nat) (n : Int) (h0 : -9223372036854775808 ≤ n) (h1 : n ≤ 9223372036854775807) (w : World) (he : EncAt w E C U) (hb : Buf w base U []) (hT : PTab w) (h13 : 13 ≤ base) :
    Calls Tryz.prog 301 #[.pointer (some ⟨E, 0, none⟩), .int .i64 n] w fun e w' => e = .returned (.tuple #[]) ∧ Buf w' base U (Lib.itoa n) ∧ Keep base U w w' := by
  have e1 := he.c1
  have HE := Lib.hid he
  have HB := Lib.hid hb
  clear he hb
  go_enter Tryz.func301, Tryz.ntmps301
  go_wp2_with (first | (go_at_call 316; refine (sep_nil E C U base _ HE.out HB.out).mono ?_; rintro e w' ⟨rfl, rfl⟩))
  refine (bufAppendInt_any U base [] n h0 h1 _ HB.out (by simp) hT h13).mono ?_
  rintro e w1 ⟨rfl, hb1, hk⟩
  have H := Lib.hid (And.intro hb1 hk)
  clear hb1 hk
  go_wp2
  go_end0
  exact ⟨rfl, H.out⟩

set_option maxRecDepth 1000000 in
theorem nil179I (a : Addr) (w : World) : (nilAhead 589 179 (.pointer (some a)) "AppendInt64").run Tryz.prog w = .ok (some false) w := by kernel_rfl
set_option maxRecDepth 1000000 in
theorem meth179I (a : Addr) (w : World) : (method 589 179 (.pointer (some a)) "AppendInt64").run Tryz.prog w = .ok (301, .pointer (some a)) w := by kernel_rfl
set_option maxRecDepth 1000000 in
theorem nil179D (a : Addr) (w : World) : (nilAhead 589 179 (.pointer (some a)) "AppendDuration").run Tryz.prog w = .ok (some false) w := by kernel_rfl
set_option maxRecDepth 1000000 in
theorem meth179D (a : Addr) (w : World) : (method 589 179 (.pointer (some a)) "AppendDuration").run Tryz.prog w = .ok (295, .pointer (some a)) w := by kernel_rfl
theorem neq160 (w : World) : (binOp .neq 94 (.func (.func 160) #[] #[]) .nilFunc).run Tryz.prog w = .ok (.bool true) w := by kernel_rfl

set_option maxHeartbeats 800000 in
theorem nanos_any (E C U base : Nat) (n : Int) (h0 : -9223372036854775808 ≤ n) (h1 : n ≤ 9223372036854775807) (w : World) (he : EncAt w E C U) (hb : Buf w base U []) (hT : PTab w) (h13 : 13 ≤ base) :
    Calls Tryz.prog 160 #[.int .i64 n, .iface 179 (.pointer (some ⟨E, 0, none⟩))] w fun e w' => e = .returned (.tuple #[]) ∧ Buf w' base U (Lib.itoa n) ∧ Keep base U w w' := by
  have HE := Lib.hid he
  have HB := Lib.hid hb
  clear he hb
  have n1 := fun a w => nil179I a w
  have n2 := fun a w => meth179I a w
  go_enter Tryz.func160, Tryz.ntmps160
  go_wp2_with (go_at_call 301; refine (encInt_any E C U base n h0 h1 _ HE.out HB.out hT h13).mono ?_; rintro e w1 ⟨rfl, hb1, hk⟩; have H := Lib.hid (And.intro hb1 hk); clear hb1 hk)
  go_end0
  exact ⟨rfl, H.out⟩

set_option maxHeartbeats 800000 in
set_option maxRecDepth 100000 in
theorem encDur_any (E C U base : Nat) (n : Int) (h0 : -9223372036854775808 ≤ n) (h1 : n ≤ 9223372036854775807) (w : World) (he : EncAt w E C U) (hb : Buf w base U []) (hT : PTab w) (h13 : 13 ≤ base) (hE : E < base) (hne : E ≠ U)
    (hc : w.cell? ⟨C, 11, none⟩ = some (.func (.func 160) #[] #[])) (hlen : 0 < (Lib.itoa n).length) :
    Calls Tryz.prog 295 #[.pointer (some ⟨E, 0, none⟩), .int .i64 n] w fun e w' => e = .returned (.tuple #[]) ∧ Buf w' base U (Lib.itoa n) ∧ Keep base U w w' := by
  have e0 := he.c0
  have e1 := he.c1
  obtain ⟨a, c, hu⟩ := hb.len
  have HE := Lib.hid he
  have HB := Lib.hid hb
  clear he hb
  have n3 := fun w => neq160 w
  go_enter Tryz.func295, Tryz.ntmps295
  go_wp2_with (first | (go_at_call 160; refine (nanos_any E C U base n h0 h1 _ HE.out HB.out hT h13).mono ?_; rintro e w1 ⟨rfl, hb1, hk⟩; obtain ⟨a1, c1, hu1⟩ := hb1.len; have he1 := (HE.out.keep hk hE hne).c1; have H := Lib.hid (And.intro hb1 hk); clear hb1 hk) | go_in)
  go_end0
  exact ⟨rfl, H.out⟩

set_option maxHeartbeats 800000 in
set_option maxRecDepth 100000 in
theorem durClosure_any (D E C U base : Nat) (n : Int) (h0 : -9223372036854775808 ≤ n) (h1 : n ≤ 9223372036854775807) (w : World) (he : EncAt w E C U) (hb : Buf w base U []) (hT : PTab w) (h13 : 13 ≤ base) (hE : E < base) (hne : E ≠ U)
    (hc : w.cell? ⟨C, 11, none⟩ = some (.func (.func 160) #[] #[])) (hlen : 0 < (Lib.itoa n).length) (hD : w.cell? ⟨D, 0, none⟩ = some (.int .i64 n)) :
    Calls Tryz.prog 55 #[.iface 179 (.pointer (some ⟨E, 0, none⟩)), .pointer (some ⟨D, 0, none⟩)] w fun e w' => e = .returned (.tuple #[]) ∧ Buf w' base U (Lib.itoa n) ∧ Keep base U w w' := by
  have HE := Lib.hid he
  have HB := Lib.hid hb
  clear he hb
  have n1 := fun a w => nil179D a w
  have n2 := fun a w => meth179D a w
  go_enter Tryz.func55, Tryz.ntmps55
  go_wp2_with (go_at_call 295; refine (encDur_any E C U base n h0 h1 _ HE.out HB.out hT h13 hE hne hc hlen).mono ?_; rintro e w1 ⟨rfl, hb1, hk⟩; have H := Lib.hid (And.intro hb1 hk); clear hb1 hk)
  go_end0
  exact ⟨rfl, H.out⟩

set_option maxHeartbeats 2000000 in
set_option maxRecDepth 100000 in
theorem valueDur_any (D : Nat) (n : Int) (h0 : -9223372036854775808 ≤ n) (h1 : n ≤ 9223372036854775807) (w : World) (hT : PTab w) (h13 : 13 ≤ w.heap.size) (hlen : 0 < (Lib.itoa n).length)
    (hD : w.cell? ⟨D, 0, none⟩ = some (.int .i64 n)) (hDs : D < w.heap.size) :
    Calls Tryz.prog 53 #[.agg (cfgCells ⟨#[]⟩ .nilFunc .nilFunc (.func (.func 160) #[] #[]) .nilFunc).toArray, .func (.func 55) #[] #[.pointer (some ⟨D, 0, none⟩)]] w fun e w' =>
      e = .returned (.string ⟨(Lib.itoa n).toArray⟩) ∧ Below w.heap.size w w' := by
  unfold cfgCells
  go_enter Tryz.func53, Tryz.ntmps53
  go_wp2_with fail
  refine (newEnc .nilFunc (.func (.func 160) #[] #[]) _).mono ?_
  rintro e w1 ⟨rfl, hw1⟩
  have hbel : Below w.heap.size w w1 := by rw [hw1]; go_grown
  have hs1 : w1.heap.size = w.heap.size + 4 := by rw [hw1]; simp
  have hE : EncAt w1 (w.heap.size + 3) (w.heap.size + 1) (w.heap.size + 2) := by
    rw [hw1]; unfold EncAt
    change (Array.push _ _)[_]? = _
    rw [Array.getElem?_push]; simp
  have hU : w1.heap[w.heap.size + 2]? = some (.cells #[.slice none 0 0] 265 (0, 0)) := by
    rw [hw1]
    change (Array.push (Array.push _ _) _)[_]? = _
    rw [Array.getElem?_push, Array.getElem?_push]; simp
  have hC : w1.cell? ⟨w.heap.size + 1, 11, none⟩ = some (.func (.func 160) #[] #[]) := by
    have : w1.heap[w.heap.size + 1]? = some (.cells (cfgCells ⟨#[10]⟩ .nilFunc .nilFunc (.func (.func 160) #[] #[]) .nilFunc).toArray 100 (0, 0)) := by
      rw [hw1]
      change (Array.push (Array.push (Array.push _ _) _) _)[_]? = _
      rw [Array.getElem?_push, Array.getElem?_push, Array.getElem?_push]; simp
    simp [World.cell?, this, cfgCells]
  have hB : Buf w1 (w.heap.size + 4) (w.heap.size + 2) [] := ⟨by omega, by omega, _, hU, World.ownsRow_nil _ _ _ _⟩
  have hD1 : w1.cell? ⟨D, 0, none⟩ = some (.int .i64 n) := (hbel.cell (p := ⟨D, 0, none⟩) hDs).trans hD
  have hT1 : PTab w1 := hT.below hbel h13
  have HE := Lib.hid hE
  have HB := Lib.hid hB
  have HBEL := Lib.hid hbel
  clear hw1 hE hB hU hbel
  go_wp2_with fail
  refine (durClosure_any D (w.heap.size + 3) (w.heap.size + 1) (w.heap.size + 2) (w.heap.size + 4) n h0 h1 w1 HE.out HB.out hT1 (by omega) (by omega) (by omega) hC hlen hD1).mono ?_
  rintro e w2 ⟨rfl, hb2, hk2⟩
  have e2 := (HE.out.keep hk2 (by omega) (by omega)).c1
  have HB2 := Lib.hid hb2
  have HK2 := Lib.hid (show Below w.heap.size w1 w2 from ⟨hk2.os, hk2.tape, hk2.output, hk2.size, fun k hk => hk2.block k (by omega) (by omega)⟩)
  clear hb2 hk2
  go_wp2_with (go_at_call 90; refine (bufString_any (w.heap.size + 2) (w.heap.size + 4) _ _ HB2.out).mono ?_; rintro e w' ⟨rfl, rfl⟩)
  go_ret
  exact ⟨rfl, HBEL.out.trans HK2.out⟩
end Go.Proofs.Zap
