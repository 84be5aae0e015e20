/- a text of the claims over the seat; its order and aim: NOTES.md -/
import Derived.Test.YtpllbhobcnglnaaGreatDoorZJ7
namespace Go.Proofs.Zap
open Go Go.Proofs Go.RowKit

set_option maxHeartbeats 8000000 in
set_option maxRecDepth 100000 in
theorem jread_any (s : ByteArray) (t : List UInt8) (w : World) (hT : Tabs w) (hw : 13 ≤ w.heap.size) (hs : s.size ≤ 1000000) (ht : t.length ≤ 1000000)
    (h0 : 0 < s.size) (hq : s[0].toNat = 34) (hr : readT (s.data.toList.drop 1) = some (t, [])) :
    Calls Tryz.prog 36 #[.string s] w fun e w' => e = .returned (.tuple #[.agg #[.int .i64 4, .string ⟨t.toArray⟩, .slice none 0 0, .slice none 0 0], .bool true]) ∧ Below w.heap.size w w' := by
  have HR := Lib.hid hr
  clear hr
  go_enter Tryz.func36, Tryz.ntmps36
  go_wp2_with fail
  have hb : Below w.heap.size w ((w.alloc (.cells #[.int .i64 0, .string ⟨#[]⟩, .slice none 0 0, .slice none 0 0] 56)).alloc (.cells #[.string s, .int .i64 0, .int .i64 0] 138)) :=
    ((Below.refl _ w).alloc (Nat.le_refl _) _).alloc (by simp) _
  have hj : Jr ((w.alloc (.cells #[.int .i64 0, .string ⟨#[]⟩, .slice none 0 0, .slice none 0 0] 56)).alloc (.cells #[.string s, .int .i64 0, .int .i64 0] 138)) (w.heap.size + 1) s ((0 : Nat) : Int) 0 := by
    change ((w.heap.push _).push _)[w.heap.size + 1]? = _
    rw [Array.getElem?_push]; simp
  have hz : ((w.alloc (.cells #[.int .i64 0, .string ⟨#[]⟩, .slice none 0 0, .slice none 0 0] 56)).alloc (.cells #[.string s, .int .i64 0, .int .i64 0] 138)).heap[w.heap.size]? = some (.cells #[.int .i64 0, .string ⟨#[]⟩, .slice none 0 0, .slice none 0 0] 56 (0, 0)) := by
    change ((w.heap.push _).push _)[w.heap.size]? = _
    simp [Array.getElem?_push]
  have hsz : ((w.alloc (.cells #[.int .i64 0, .string ⟨#[]⟩, .slice none 0 0, .slice none 0 0] 56)).alloc (.cells #[.string s, .int .i64 0, .int .i64 0] 138)).heap.size = w.heap.size + 2 := by simp
  generalize ((w.alloc (.cells #[.int .i64 0, .string ⟨#[]⟩, .slice none 0 0, .slice none 0 0] 56)).alloc (.cells #[.string s, .int .i64 0, .int .i64 0] 138)) = w1 at hb hj hz hsz ⊢
  have hT1 : Tabs w1 := hT.below hb hw
  refine (value_any (w.heap.size + 1) 0 s t [] w1 hj hT1 (by omega) hs ht h0 hq HR.out).mono ?_
  rintro e w2 ⟨rfl, ⟨p, hjp, hrest, hps⟩, hk⟩
  have hpe : p = s.size := by
    have := congrArg List.length hrest
    rw [List.length_drop, Array.length_toList] at this
    have e : s.data.size = s.size := rfl
    simp at this; omega
  subst hpe
  have hk2 : w2.heap[w.heap.size]? = _ := (hk.block w.heap.size (by omega) (by omega)).trans hz
  have hb2 : Below w.heap.size w w2 := ⟨hk.os.trans hb.os, hk.tape.trans hb.tape, hk.output.trans hb.output, Nat.le_trans hb.size hk.size, fun k hk' => (hk.block k (by omega) (by omega)).trans (hb.block k hk')⟩
  have hsz2 : w.heap.size + 2 ≤ w2.heap.size := by have := hk.size; omega
  have HJ := Lib.hid hjp
  have HB := Lib.hid hb2
  have HK := Lib.hid hk2
  clear hk2 hrest hjp hk hz hj hb hb2 hT1 hsz
  go_wp2_with fail
  have hj3 : Jr (w2.alloc (.cells #[.int .i64 4, .string ⟨t.toArray⟩, .slice none 0 0, .slice none 0 0] 56)) (w.heap.size + 1) s (s.size : Int) 0 := HJ.out.below ((Below.refl _ w2).alloc (Nat.le_refl _) _)
  have hz3 : (w2.alloc (.cells #[.int .i64 4, .string ⟨t.toArray⟩, .slice none 0 0, .slice none 0 0] 56)).heap[w.heap.size]? = _ := (Below.heap_alloc w2 _ _ (by omega)).trans HK.out
  have hv3 : (w2.alloc (.cells #[.int .i64 4, .string ⟨t.toArray⟩, .slice none 0 0, .slice none 0 0] 56)).heap[w2.heap.size]? = _ := heap_alloc_new w2 _
  have hb3 : Below w.heap.size w (w2.alloc (.cells #[.int .i64 4, .string ⟨t.toArray⟩, .slice none 0 0, .slice none 0 0] 56)) := HB.out.alloc (by omega) _
  generalize w2.alloc (.cells #[.int .i64 4, .string ⟨t.toArray⟩, .slice none 0 0, .slice none 0 0] 56) = w3 at hj3 hz3 hv3 hb3 ⊢
  refine (blanks_end (w.heap.size + 1) s 0 w3 hj3 hs).mono ?_
  rintro e w4 ⟨rfl, n4, hw4⟩
  have hj4 : Jr w4 (w.heap.size + 1) s (s.size : Int) 0 := by rw [hw4]; exact hj3.drew _
  have hz4 : w4.heap[w.heap.size]? = some (.cells #[.int .i64 0, .string ⟨#[]⟩, .slice none 0 0, .slice none 0 0] 56 (0, 0)) := by rw [hw4]; simpa using hz3
  have hv4 : w4.heap[w2.heap.size]? = some (.cells #[.int .i64 4, .string ⟨t.toArray⟩, .slice none 0 0, .slice none 0 0] 56 (0, 0)) := by rw [hw4]; simpa using hv3
  have hb4 : Below w.heap.size w w4 := by rw [hw4]; exact hb3.trans ⟨rfl, rfl, rfl, by simp, fun _ _ => by simp⟩
  clear hj3 hz3 hv3 hb3 hw4
  have c1 := hj4.c1
  have z0 : w4.cell? ⟨w.heap.size, 0, none⟩ = some (.int .i64 0) := by simp [World.cell?, hz4]
  have z1 : w4.cell? ⟨w.heap.size, 1, none⟩ = some (.string ⟨#[]⟩) := by simp [World.cell?, hz4]
  have z2 : w4.cell? ⟨w.heap.size, 2, none⟩ = some (.slice none 0 0) := by simp [World.cell?, hz4]
  have z3 : w4.cell? ⟨w.heap.size, 3, none⟩ = some (.slice none 0 0) := by simp [World.cell?, hz4]
  have g : ∀ o, w4.frozen? ⟨w.heap.size, o, none⟩ = false := by intro o; simp [World.frozen?, hz4]
  have v0 : w4.cell? ⟨w2.heap.size, 0, none⟩ = some (.int .i64 4) := by simp [World.cell?, hv4]
  have v1 : w4.cell? ⟨w2.heap.size, 1, none⟩ = some (.string ⟨t.toArray⟩) := by simp [World.cell?, hv4]
  have v2 : w4.cell? ⟨w2.heap.size, 2, none⟩ = some (.slice none 0 0) := by simp [World.cell?, hv4]
  have v3 : w4.cell? ⟨w2.heap.size, 3, none⟩ = some (.slice none 0 0) := by simp [World.cell?, hv4]
  have HZ := Lib.hid hz4
  have HB4 := Lib.hid hb4
  clear hz4 hv4 hj4 hb4
  go_wp2_with fail
  go_region
  go_wp2_with fail
  refine bodyPost_ret (results_row_tmp rfl _ _ w.heap.size 56 #[.int .i64 4, .string ⟨t.toArray⟩, .slice none 0 0, .slice none 0 0] (0, 0) _ rfl ?_ Tryz.underlying56 rfl (by kernel_rfl)) rfl ⟨rfl, ?_⟩
  · have hz := HZ.out
    change (World.setCell _ _ _).heap[w.heap.size]? = _
    simp [World.setCell, Array.getElem?_modify, hz]
  · exact HB4.out.trans ⟨rfl, rfl, rfl, by simp [World.setCell], fun k hk => by
      change (World.setCell _ _ _).heap[k]? = _
      rw [Below.heap_setCell _ _ _ _ (by simp; omega), Below.heap_setCell _ _ _ _ (by simp; omega), Below.heap_setCell _ _ _ _ (by simp; omega), Below.heap_setCell _ _ _ _ (by simp; omega)]⟩

set_option maxHeartbeats 8000000 in
set_option maxRecDepth 100000 in
theorem zquoted_any (s z : ByteArray) (w : World) (hT : Tabs w) (hw : 13 ≤ w.heap.size) (hs : s.size ≤ 1000000) (ht : z.size ≤ 1000000)
    (h0 : 0 < s.size) (hq : s[0].toNat = 34) (hr : readT (s.data.toList.drop 1) = some (z.data.toList, [])) :
    Calls Tryz.prog 15 #[.string s, .string z] w fun e w' => e = .returned (.bool true) ∧ Below w.heap.size w w' := by
  have HR := Lib.hid hr
  clear hr
  go_enter Tryz.func15, Tryz.ntmps15
  go_wp2_with fail
  refine (jread_any s z.data.toList w hT hw hs (by rw [Array.length_toList]; exact ht) h0 hq HR.out).mono ?_
  rintro e w1 ⟨rfl, hb⟩
  have hz : (⟨z.data.toList.toArray⟩ : ByteArray) = z := by simp
  rw [hz]
  have hsz : w.heap.size ≤ w1.heap.size := hb.size
  have HB := Lib.hid hb
  clear hb
  go_wp2
  go_ret
  exact ⟨by simp, HB.out.alloc hsz _⟩
end Go.Proofs.Zap
