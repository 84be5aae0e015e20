/- a text of the claims over the seat; its order and aim: NOTES.md -/
import Derived.Test.YtpllbhobcnglnaaGreatDoorZTC
namespace Go.Proofs.Zap
open Go Go.Proofs Go.RowKit

theorem neqF154 (w : World) : (binOp .neq 92 (.func (.func 154) #[] #[]) .nilFunc).run Tryz.prog w = .ok (.bool true) w := by kernel_rfl
theorem neqF155 (w : World) : (binOp .neq 92 (.func (.func 155) #[] #[]) .nilFunc).run Tryz.prog w = .ok (.bool true) w := by kernel_rfl
theorem neqF156 (w : World) : (binOp .neq 92 (.func (.func 156) #[] #[]) .nilFunc).run Tryz.prog w = .ok (.bool true) w := by kernel_rfl
theorem neqF157 (w : World) : (binOp .neq 92 (.func (.func 157) #[] #[]) .nilFunc).run Tryz.prog w = .ok (.bool true) w := by kernel_rfl

set_option maxHeartbeats 2000000 in
set_option maxRecDepth 100000 in
theorem encTime154 (G : World → Prop) (hGc : Closed13 G) (N a : Int) (zone : ByteArray) (post : List UInt8) (hd : DoorOK G 154 (tmA N zone a) post) (hp : 0 < post.length)
    (E C U : Nat) (w : World) (hG : G w) (he : EncAt w E C U) (hb : Blk w U 265 #[.slice none 0 0]) (h13 : 13 ≤ U) (hE : E < w.heap.size) (hne : E ≠ U) (hc : w.cell? ⟨C, 10, none⟩ = some (.func (.func 154) #[] #[])) (hC : C < w.heap.size) :
    Calls Tryz.prog 305 #[.pointer (some ⟨E, 0, none⟩), .agg (tmA N zone a)] w fun e w' => e = .returned (.tuple #[]) ∧ Buf w' w.heap.size U post ∧ Keep w.heap.size U w w' := by
  have hU := hb.lt
  have hbel : Below w.heap.size w (w.alloc (.cells (tmA N zone a) 112)) := (Below.refl _ _).alloc (Nat.le_refl _) _
  have he1 : EncAt (w.alloc (.cells (tmA N zone a) 112)) E C U := (hbel.block E hE).trans he
  have HT := Lib.hid (hd E C U (w.alloc (.cells (tmA N zone a) 112)) (below_G hGc hbel (by omega) hG) he1 (hb.alloc _) h13 (by simp; omega) hne)
  have c0 : (w.alloc (.cells (tmA N zone a) 112)).cell? ⟨E, 0, none⟩ = some (.pointer (some ⟨C, 0, none⟩)) := he1.c0
  have c1 : (w.alloc (.cells (tmA N zone a) 112)).cell? ⟨E, 1, none⟩ = some (.pointer (some ⟨U, 0, none⟩)) := he1.c1
  have cf : (w.alloc (.cells (tmA N zone a) 112)).cell? ⟨C, 10, none⟩ = some (.func (.func 154) #[] #[]) := (hbel.cell (p := ⟨C, 10, none⟩) hC).trans hc
  have cu : (w.alloc (.cells (tmA N zone a) 112)).cell? ⟨U, 0, none⟩ = some (.slice none 0 0) := (hb.alloc _).cell 0
  have HBEL := Lib.hid hbel
  have HE1 := Lib.hid he1
  have hbox : Blk (w.alloc (.cells (tmA N zone a) 112)) w.heap.size 112 (tmA N zone a) := Blk.new _ _ _
  have x0 : (w.alloc (.cells (tmA N zone a) 112)).cell? ⟨w.heap.size, 0, none⟩ = some (.int .i64 (N / 1000000000 + 62135596800)) := hbox.cell 0
  have x1 : (w.alloc (.cells (tmA N zone a) 112)).cell? ⟨w.heap.size, 1, none⟩ = some (.int .i32 (N % 1000000000)) := hbox.cell 1
  have x2 : (w.alloc (.cells (tmA N zone a) 112)).cell? ⟨w.heap.size, 2, none⟩ = some (.string zone) := hbox.cell 2
  have x3 : (w.alloc (.cells (tmA N zone a) 112)).cell? ⟨w.heap.size, 3, none⟩ = some (.int .i64 a) := hbox.cell 3
  clear hd hG he hb hbel he1 hc hbox
  unfold tmA at *
  go_enter Tryz.func305, Tryz.ntmps305
  go_wp2_with fail
  generalize w.alloc _ = w5 at *
  have hS5 : w.heap.size ≤ w5.heap.size := HBEL.out.size
  have hneq := fun w => neqF154 w
  go_wp2_with (first | (go_at_call 154; refine HT.out.mono ?_; rintro e w6 ⟨rfl, hb6, hk6⟩; obtain ⟨a6, c6, hu6⟩ := hb6.len; have he6 := (HE1.out.keep hk6 (by omega) hne).c1; have HB6 := Lib.hid hb6; have HK6 := Lib.hid hk6; clear hb6 hk6) | go_in)
  have hfin : Keep w.heap.size U w w6 := (⟨HBEL.out.os, HBEL.out.tape, HBEL.out.output, HBEL.out.size, fun k hk _ => HBEL.out.block k hk⟩ : Keep w.heap.size U w w5).trans (HK6.out.mono hS5)
  have hbf := HB6.out.low hS5 hU
  have H := Lib.hid (And.intro hbf hfin)
  clear hbf hfin
  first | go_end0 | refine bodyPost_ret (results_none rfl _ _ _) rfl ?_
  exact ⟨rfl, H.out⟩

set_option maxHeartbeats 2000000 in
set_option maxRecDepth 100000 in
theorem encTime155 (G : World → Prop) (hGc : Closed13 G) (N a : Int) (zone : ByteArray) (post : List UInt8) (hd : DoorOK G 155 (tmA N zone a) post) (hp : 0 < post.length)
    (E C U : Nat) (w : World) (hG : G w) (he : EncAt w E C U) (hb : Blk w U 265 #[.slice none 0 0]) (h13 : 13 ≤ U) (hE : E < w.heap.size) (hne : E ≠ U) (hc : w.cell? ⟨C, 10, none⟩ = some (.func (.func 155) #[] #[])) (hC : C < w.heap.size) :
    Calls Tryz.prog 305 #[.pointer (some ⟨E, 0, none⟩), .agg (tmA N zone a)] w fun e w' => e = .returned (.tuple #[]) ∧ Buf w' w.heap.size U post ∧ Keep w.heap.size U w w' := by
  have hU := hb.lt
  have hbel : Below w.heap.size w (w.alloc (.cells (tmA N zone a) 112)) := (Below.refl _ _).alloc (Nat.le_refl _) _
  have he1 : EncAt (w.alloc (.cells (tmA N zone a) 112)) E C U := (hbel.block E hE).trans he
  have HT := Lib.hid (hd E C U (w.alloc (.cells (tmA N zone a) 112)) (below_G hGc hbel (by omega) hG) he1 (hb.alloc _) h13 (by simp; omega) hne)
  have c0 : (w.alloc (.cells (tmA N zone a) 112)).cell? ⟨E, 0, none⟩ = some (.pointer (some ⟨C, 0, none⟩)) := he1.c0
  have c1 : (w.alloc (.cells (tmA N zone a) 112)).cell? ⟨E, 1, none⟩ = some (.pointer (some ⟨U, 0, none⟩)) := he1.c1
  have cf : (w.alloc (.cells (tmA N zone a) 112)).cell? ⟨C, 10, none⟩ = some (.func (.func 155) #[] #[]) := (hbel.cell (p := ⟨C, 10, none⟩) hC).trans hc
  have cu : (w.alloc (.cells (tmA N zone a) 112)).cell? ⟨U, 0, none⟩ = some (.slice none 0 0) := (hb.alloc _).cell 0
  have HBEL := Lib.hid hbel
  have HE1 := Lib.hid he1
  have hbox : Blk (w.alloc (.cells (tmA N zone a) 112)) w.heap.size 112 (tmA N zone a) := Blk.new _ _ _
  have x0 : (w.alloc (.cells (tmA N zone a) 112)).cell? ⟨w.heap.size, 0, none⟩ = some (.int .i64 (N / 1000000000 + 62135596800)) := hbox.cell 0
  have x1 : (w.alloc (.cells (tmA N zone a) 112)).cell? ⟨w.heap.size, 1, none⟩ = some (.int .i32 (N % 1000000000)) := hbox.cell 1
  have x2 : (w.alloc (.cells (tmA N zone a) 112)).cell? ⟨w.heap.size, 2, none⟩ = some (.string zone) := hbox.cell 2
  have x3 : (w.alloc (.cells (tmA N zone a) 112)).cell? ⟨w.heap.size, 3, none⟩ = some (.int .i64 a) := hbox.cell 3
  clear hd hG he hb hbel he1 hc hbox
  unfold tmA at *
  go_enter Tryz.func305, Tryz.ntmps305
  go_wp2_with fail
  generalize w.alloc _ = w5 at *
  have hS5 : w.heap.size ≤ w5.heap.size := HBEL.out.size
  have hneq := fun w => neqF155 w
  go_wp2_with (first | (go_at_call 155; refine HT.out.mono ?_; rintro e w6 ⟨rfl, hb6, hk6⟩; obtain ⟨a6, c6, hu6⟩ := hb6.len; have he6 := (HE1.out.keep hk6 (by omega) hne).c1; have HB6 := Lib.hid hb6; have HK6 := Lib.hid hk6; clear hb6 hk6) | go_in)
  have hfin : Keep w.heap.size U w w6 := (⟨HBEL.out.os, HBEL.out.tape, HBEL.out.output, HBEL.out.size, fun k hk _ => HBEL.out.block k hk⟩ : Keep w.heap.size U w w5).trans (HK6.out.mono hS5)
  have hbf := HB6.out.low hS5 hU
  have H := Lib.hid (And.intro hbf hfin)
  clear hbf hfin
  first | go_end0 | refine bodyPost_ret (results_none rfl _ _ _) rfl ?_
  exact ⟨rfl, H.out⟩

set_option maxHeartbeats 2000000 in
set_option maxRecDepth 100000 in
theorem encTime156 (G : World → Prop) (hGc : Closed13 G) (N a : Int) (zone : ByteArray) (post : List UInt8) (hd : DoorOK G 156 (tmA N zone a) post) (hp : 0 < post.length)
    (E C U : Nat) (w : World) (hG : G w) (he : EncAt w E C U) (hb : Blk w U 265 #[.slice none 0 0]) (h13 : 13 ≤ U) (hE : E < w.heap.size) (hne : E ≠ U) (hc : w.cell? ⟨C, 10, none⟩ = some (.func (.func 156) #[] #[])) (hC : C < w.heap.size) :
    Calls Tryz.prog 305 #[.pointer (some ⟨E, 0, none⟩), .agg (tmA N zone a)] w fun e w' => e = .returned (.tuple #[]) ∧ Buf w' w.heap.size U post ∧ Keep w.heap.size U w w' := by
  have hU := hb.lt
  have hbel : Below w.heap.size w (w.alloc (.cells (tmA N zone a) 112)) := (Below.refl _ _).alloc (Nat.le_refl _) _
  have he1 : EncAt (w.alloc (.cells (tmA N zone a) 112)) E C U := (hbel.block E hE).trans he
  have HT := Lib.hid (hd E C U (w.alloc (.cells (tmA N zone a) 112)) (below_G hGc hbel (by omega) hG) he1 (hb.alloc _) h13 (by simp; omega) hne)
  have c0 : (w.alloc (.cells (tmA N zone a) 112)).cell? ⟨E, 0, none⟩ = some (.pointer (some ⟨C, 0, none⟩)) := he1.c0
  have c1 : (w.alloc (.cells (tmA N zone a) 112)).cell? ⟨E, 1, none⟩ = some (.pointer (some ⟨U, 0, none⟩)) := he1.c1
  have cf : (w.alloc (.cells (tmA N zone a) 112)).cell? ⟨C, 10, none⟩ = some (.func (.func 156) #[] #[]) := (hbel.cell (p := ⟨C, 10, none⟩) hC).trans hc
  have cu : (w.alloc (.cells (tmA N zone a) 112)).cell? ⟨U, 0, none⟩ = some (.slice none 0 0) := (hb.alloc _).cell 0
  have HBEL := Lib.hid hbel
  have HE1 := Lib.hid he1
  have hbox : Blk (w.alloc (.cells (tmA N zone a) 112)) w.heap.size 112 (tmA N zone a) := Blk.new _ _ _
  have x0 : (w.alloc (.cells (tmA N zone a) 112)).cell? ⟨w.heap.size, 0, none⟩ = some (.int .i64 (N / 1000000000 + 62135596800)) := hbox.cell 0
  have x1 : (w.alloc (.cells (tmA N zone a) 112)).cell? ⟨w.heap.size, 1, none⟩ = some (.int .i32 (N % 1000000000)) := hbox.cell 1
  have x2 : (w.alloc (.cells (tmA N zone a) 112)).cell? ⟨w.heap.size, 2, none⟩ = some (.string zone) := hbox.cell 2
  have x3 : (w.alloc (.cells (tmA N zone a) 112)).cell? ⟨w.heap.size, 3, none⟩ = some (.int .i64 a) := hbox.cell 3
  clear hd hG he hb hbel he1 hc hbox
  unfold tmA at *
  go_enter Tryz.func305, Tryz.ntmps305
  go_wp2_with fail
  generalize w.alloc _ = w5 at *
  have hS5 : w.heap.size ≤ w5.heap.size := HBEL.out.size
  have hneq := fun w => neqF156 w
  go_wp2_with (first | (go_at_call 156; refine HT.out.mono ?_; rintro e w6 ⟨rfl, hb6, hk6⟩; obtain ⟨a6, c6, hu6⟩ := hb6.len; have he6 := (HE1.out.keep hk6 (by omega) hne).c1; have HB6 := Lib.hid hb6; have HK6 := Lib.hid hk6; clear hb6 hk6) | go_in)
  have hfin : Keep w.heap.size U w w6 := (⟨HBEL.out.os, HBEL.out.tape, HBEL.out.output, HBEL.out.size, fun k hk _ => HBEL.out.block k hk⟩ : Keep w.heap.size U w w5).trans (HK6.out.mono hS5)
  have hbf := HB6.out.low hS5 hU
  have H := Lib.hid (And.intro hbf hfin)
  clear hbf hfin
  first | go_end0 | refine bodyPost_ret (results_none rfl _ _ _) rfl ?_
  exact ⟨rfl, H.out⟩

set_option maxHeartbeats 2000000 in
set_option maxRecDepth 100000 in
theorem encTime157 (G : World → Prop) (hGc : Closed13 G) (N a : Int) (zone : ByteArray) (post : List UInt8) (hd : DoorOK G 157 (tmA N zone a) post) (hp : 0 < post.length)
    (E C U : Nat) (w : World) (hG : G w) (he : EncAt w E C U) (hb : Blk w U 265 #[.slice none 0 0]) (h13 : 13 ≤ U) (hE : E < w.heap.size) (hne : E ≠ U) (hc : w.cell? ⟨C, 10, none⟩ = some (.func (.func 157) #[] #[])) (hC : C < w.heap.size) :
    Calls Tryz.prog 305 #[.pointer (some ⟨E, 0, none⟩), .agg (tmA N zone a)] w fun e w' => e = .returned (.tuple #[]) ∧ Buf w' w.heap.size U post ∧ Keep w.heap.size U w w' := by
  have hU := hb.lt
  have hbel : Below w.heap.size w (w.alloc (.cells (tmA N zone a) 112)) := (Below.refl _ _).alloc (Nat.le_refl _) _
  have he1 : EncAt (w.alloc (.cells (tmA N zone a) 112)) E C U := (hbel.block E hE).trans he
  have HT := Lib.hid (hd E C U (w.alloc (.cells (tmA N zone a) 112)) (below_G hGc hbel (by omega) hG) he1 (hb.alloc _) h13 (by simp; omega) hne)
  have c0 : (w.alloc (.cells (tmA N zone a) 112)).cell? ⟨E, 0, none⟩ = some (.pointer (some ⟨C, 0, none⟩)) := he1.c0
  have c1 : (w.alloc (.cells (tmA N zone a) 112)).cell? ⟨E, 1, none⟩ = some (.pointer (some ⟨U, 0, none⟩)) := he1.c1
  have cf : (w.alloc (.cells (tmA N zone a) 112)).cell? ⟨C, 10, none⟩ = some (.func (.func 157) #[] #[]) := (hbel.cell (p := ⟨C, 10, none⟩) hC).trans hc
  have cu : (w.alloc (.cells (tmA N zone a) 112)).cell? ⟨U, 0, none⟩ = some (.slice none 0 0) := (hb.alloc _).cell 0
  have HBEL := Lib.hid hbel
  have HE1 := Lib.hid he1
  have hbox : Blk (w.alloc (.cells (tmA N zone a) 112)) w.heap.size 112 (tmA N zone a) := Blk.new _ _ _
  have x0 : (w.alloc (.cells (tmA N zone a) 112)).cell? ⟨w.heap.size, 0, none⟩ = some (.int .i64 (N / 1000000000 + 62135596800)) := hbox.cell 0
  have x1 : (w.alloc (.cells (tmA N zone a) 112)).cell? ⟨w.heap.size, 1, none⟩ = some (.int .i32 (N % 1000000000)) := hbox.cell 1
  have x2 : (w.alloc (.cells (tmA N zone a) 112)).cell? ⟨w.heap.size, 2, none⟩ = some (.string zone) := hbox.cell 2
  have x3 : (w.alloc (.cells (tmA N zone a) 112)).cell? ⟨w.heap.size, 3, none⟩ = some (.int .i64 a) := hbox.cell 3
  clear hd hG he hb hbel he1 hc hbox
  unfold tmA at *
  go_enter Tryz.func305, Tryz.ntmps305
  go_wp2_with fail
  generalize w.alloc _ = w5 at *
  have hS5 : w.heap.size ≤ w5.heap.size := HBEL.out.size
  have hneq := fun w => neqF157 w
  go_wp2_with (first | (go_at_call 157; refine HT.out.mono ?_; rintro e w6 ⟨rfl, hb6, hk6⟩; obtain ⟨a6, c6, hu6⟩ := hb6.len; have he6 := (HE1.out.keep hk6 (by omega) hne).c1; have HB6 := Lib.hid hb6; have HK6 := Lib.hid hk6; clear hb6 hk6) | go_in)
  have hfin : Keep w.heap.size U w w6 := (⟨HBEL.out.os, HBEL.out.tape, HBEL.out.output, HBEL.out.size, fun k hk _ => HBEL.out.block k hk⟩ : Keep w.heap.size U w w5).trans (HK6.out.mono hS5)
  have hbf := HB6.out.low hS5 hU
  have H := Lib.hid (And.intro hbf hfin)
  clear hbf hfin
  first | go_end0 | refine bodyPost_ret (results_none rfl _ _ _) rfl ?_
  exact ⟨rfl, H.out⟩

end Go.Proofs.Zap
