/- a text of the claims over the seat; its order and aim: NOTES.md -/
import Derived.Test.YtpllbhobcnglnaaGreatDoorZTD
import Derived.Test.YtpllbhobcnglnaaGreatDoorZTE
namespace Go.Proofs.Zap
open Go Go.Proofs Go.RowKit

set_option maxRecDepth 1000000 in
theorem nil179T (a : Addr) (w : World) : (nilAhead 589 179 (.pointer (some a)) "AppendTime").run Tryz.prog w = .ok (some false) w := by kernel_rfl
set_option maxRecDepth 1000000 in
theorem meth179T (a : Addr) (w : World) : (method 589 179 (.pointer (some a)) "AppendTime").run Tryz.prog w = .ok (305, .pointer (some a)) w := by kernel_rfl

theorem enc97_3 (s : ByteArray) (w : World) : Calls Tryz.prog 97 #[.int .i64 3, .string s] w fun e w' => e = .returned (.func (.func 154) #[] #[]) ∧ w' = w := by
  go_enter Tryz.func97, Tryz.ntmps97
  go_wp2
  go_ret
  exact ⟨rfl, rfl⟩
theorem enc97_4 (s : ByteArray) (w : World) : Calls Tryz.prog 97 #[.int .i64 4, .string s] w fun e w' => e = .returned (.func (.func 155) #[] #[]) ∧ w' = w := by
  go_enter Tryz.func97, Tryz.ntmps97
  go_wp2
  go_ret
  exact ⟨rfl, rfl⟩
theorem enc97_5 (s : ByteArray) (w : World) : Calls Tryz.prog 97 #[.int .i64 5, .string s] w fun e w' => e = .returned (.func (.func 156) #[] #[]) ∧ w' = w := by
  go_enter Tryz.func97, Tryz.ntmps97
  go_wp2
  go_ret
  exact ⟨rfl, rfl⟩
theorem enc97_6 (s : ByteArray) (w : World) : Calls Tryz.prog 97 #[.int .i64 6, .string s] w fun e w' => e = .returned (.func (.func 157) #[] #[]) ∧ w' = w := by
  go_enter Tryz.func97, Tryz.ntmps97
  go_wp2
  go_ret
  exact ⟨rfl, rfl⟩
theorem enc98_0 (w : World) : Calls Tryz.prog 98 #[.int .i64 0] w fun e w' => e = .returned .nilFunc ∧ w' = w := by
  go_enter Tryz.func98, Tryz.ntmps98
  go_wp2
  go_ret
  exact ⟨rfl, rfl⟩

set_option maxHeartbeats 2000000 in
set_option maxRecDepth 100000 in
theorem clo154 (G : World → Prop) (hGc : Closed13 G) (N a : Int) (zone : ByteArray) (hN0 : -9223372036854775808 ≤ N) (hN1 : N ≤ 9223372036854775807) (post : List UInt8) (hd : DoorOK G 154 (tmA N zone a) post) (hp : 0 < post.length)
    (D E C U : Nat) (w : World) (hG : G w) (he : EncAt w E C U) (hb : Blk w U 265 #[.slice none 0 0]) (h13 : 13 ≤ U) (hE : E < w.heap.size) (hne : E ≠ U) (hc : w.cell? ⟨C, 10, none⟩ = some (.func (.func 154) #[] #[])) (hC : C < w.heap.size) (hD : Blk w D 34 (mzA false N a zone)) :
    Calls Tryz.prog 63 #[.iface 179 (.pointer (some ⟨E, 0, none⟩)), .pointer (some ⟨D, 0, none⟩)] w fun e w' => e = .returned (.tuple #[]) ∧ Buf w' w.heap.size U post ∧ Keep w.heap.size U w w' := by
  have hU := hb.lt
  have HT := Lib.hid (fun w6 (h : G w6) => encTime154 G hGc N a zone post hd hp E C U w6 h)
  have HM := Lib.hid (moment_any N a zone hN0 hN1)
  have x0 : w.cell? ⟨D, 0, none⟩ = some (.bool false) := hD.cell 0
  have x1 : w.cell? ⟨D, 1, none⟩ = some (.int .i64 N) := hD.cell 1
  have x2 : w.cell? ⟨D, 2, none⟩ = some (.int .i64 a) := hD.cell 2
  have x3 : w.cell? ⟨D, 3, none⟩ = some (.string zone) := hD.cell 3
  have n1 := fun a w => nil179T a w
  have n2 := fun a w => meth179T a w
  have HG := Lib.hid hG
  have HE := Lib.hid he
  have HB := Lib.hid hb
  have HC := Lib.hid hc
  clear hd hG he hb hc hD
  unfold tmA mzA at *
  go_enter Tryz.func63, Tryz.ntmps63
  go_wp2_with fail
  go_region_with (first | (go_at_call 64; refine (HM.out _).mono ?_; rintro e w6 ⟨rfl, hb6⟩; have hs6 : w.heap.size ≤ w6.heap.size := hb6.size; have HB6 := Lib.hid (show Below w.heap.size w.drew w6 from hb6); clear hb6) | (go_at_call 305; refine (HT.out _ (below_G hGc HB6.out (by omega) (hGc w w.drew (fun _ _ => rfl) HG.out)) ((HB6.out.block E hE).trans HE.out) (HB.out.drew.below HB6.out hU) h13 (by omega) hne ((HB6.out.cell (p := ⟨C, 10, none⟩) hC).trans HC.out) (by omega)).mono ?_; rintro e w7 ⟨rfl, hb7, hk7⟩; have HB7 := Lib.hid hb7; have HK7 := Lib.hid hk7; clear hb7 hk7))
  all_goals
    have k1 : Keep w.heap.size U w w6 := ⟨HB6.out.os, HB6.out.tape, HB6.out.output, hs6, fun k hk _ => HB6.out.block k hk⟩
    have H := Lib.hid (And.intro (HB7.out.low hs6 hU) (k1.trans (HK7.out.mono hs6)))
    clear k1 x0 x1 x2 x3
    go_wp2_with fail
    first | go_end0 | refine bodyPost_ret (results_none rfl _ _ _) rfl ?_
    exact ⟨rfl, H.out⟩

set_option maxHeartbeats 2000000 in
set_option maxRecDepth 100000 in
theorem val154 (G : World → Prop) (hGc : Closed13 G) (N a : Int) (zone : ByteArray) (hN0 : -9223372036854775808 ≤ N) (hN1 : N ≤ 9223372036854775807) (post : List UInt8) (hd : DoorOK G 154 (tmA N zone a) post) (hp : 0 < post.length)
    (D : Nat) (w : World) (hG : G w) (h13 : 13 ≤ w.heap.size) (hD : Blk w D 34 (mzA false N a zone)) :
    Calls Tryz.prog 53 #[.agg (cfgCells ⟨#[]⟩ .nilFunc (.func (.func 154) #[] #[]) .nilFunc .nilFunc).toArray, .func (.func 63) #[] #[.pointer (some ⟨D, 0, none⟩)]] w fun e w' =>
      e = .returned (.string ⟨post.toArray⟩) ∧ Below w.heap.size w w' := by
  unfold cfgCells
  go_enter Tryz.func53, Tryz.ntmps53
  go_wp2_with fail
  refine (newEnc (.func (.func 154) #[] #[]) .nilFunc _).mono ?_
  rintro e w1 ⟨rfl, hw1⟩
  have hbel : Below w.heap.size w w1 := by rw [hw1]; go_grown
  have hs1 : w1.heap.size = w.heap.size + 4 := by rw [hw1]; simp
  have hE : EncAt w1 (w.heap.size + 3) (w.heap.size + 1) (w.heap.size + 2) := by
    rw [hw1]; unfold EncAt
    change (Array.push _ _)[_]? = _
    rw [Array.getElem?_push]; simp
  have hU : Blk w1 (w.heap.size + 2) 265 #[.slice none 0 0] := by
    rw [hw1]
    change (Array.push (Array.push _ _) _)[_]? = _
    rw [Array.getElem?_push, Array.getElem?_push]; simp
  have hC : w1.cell? ⟨w.heap.size + 1, 10, none⟩ = some (.func (.func 154) #[] #[]) := by
    have : w1.heap[w.heap.size + 1]? = some (.cells (cfgCells ⟨#[10]⟩ .nilFunc (.func (.func 154) #[] #[]) .nilFunc .nilFunc).toArray 100 (0, 0)) := by
      rw [hw1]
      change (Array.push (Array.push (Array.push _ _) _) _)[_]? = _
      rw [Array.getElem?_push, Array.getElem?_push, Array.getElem?_push]; simp
    simp [World.cell?, this, cfgCells]
  have hD1 := hD.below hbel hD.lt
  have hG1 := below_G hGc hbel h13 hG
  have HE := Lib.hid hE
  have HU := Lib.hid hU
  have HBEL := Lib.hid hbel
  have HD1 := Lib.hid hD1
  clear hw1 hE hU hbel hD hD1
  go_wp2_with fail
  refine (clo154 G hGc N a zone hN0 hN1 post hd hp D (w.heap.size + 3) (w.heap.size + 1) (w.heap.size + 2) w1 hG1 HE.out HU.out (by omega) (by omega) (by omega) hC (by omega) HD1.out).mono ?_
  rintro e w2 ⟨rfl, hb2, hk2⟩
  have e2 := (HE.out.keep hk2 (by omega) (by omega)).c1
  have HB2 := Lib.hid hb2
  have HK2 := Lib.hid (show Below w.heap.size w1 w2 from ⟨hk2.os, hk2.tape, hk2.output, hk2.size, fun k hk => hk2.block k (by omega) (by omega)⟩)
  clear hb2 hk2
  go_wp2_with (go_at_call 90; refine (bufString_any (w.heap.size + 2) w1.heap.size _ _ HB2.out).mono ?_; rintro e w' ⟨rfl, rfl⟩)
  go_ret
  exact ⟨rfl, HBEL.out.trans HK2.out⟩

set_option maxHeartbeats 2000000 in
set_option maxRecDepth 100000 in
theorem text154 (G : World → Prop) (hGc : Closed13 G) (N a : Int) (zone : ByteArray) (hN0 : -9223372036854775808 ≤ N) (hN1 : N ≤ 9223372036854775807) (post : List UInt8) (hd : DoorOK G 154 (tmA N zone a) post) (hp : 0 < post.length)
    (w : World) (hG : G w) (h13 : 13 ≤ w.heap.size) :
    Calls Tryz.prog 22 #[.agg (mzA false N a zone), .int .i64 3, .string ⟨#[]⟩] w fun e w' => e = .returned (.string ⟨post.toArray⟩) ∧ Below w.heap.size w w' := by
  have HV := Lib.hid (fun w6 (h : G w6) => val154 G hGc N a zone hN0 hN1 post hd hp w.heap.size w6 h)
  unfold mzA at *
  go_enter Tryz.func22, Tryz.ntmps22
  go_wp2_with fail
  refine (configT_any ⟨#[]⟩ ⟨#[]⟩ ⟨#[]⟩ ⟨#[]⟩ ⟨#[]⟩ ⟨#[]⟩ ⟨#[]⟩ false ⟨#[]⟩ 0 3 0 0 0 ⟨#[]⟩ ⟨#[]⟩ 154 enc96_0 (enc97_3 _) enc98_0 enc99_0 rfl _).mono ?_
  rintro e w1 ⟨rfl, hb1⟩
  have hD : Blk (w.alloc (.cells #[.bool false, .int .i64 N, .int .i64 a, .string zone] 34)) w.heap.size 34 #[.bool false, .int .i64 N, .int .i64 a, .string zone] := Blk.new _ _ _
  have hD1 := hD.below hb1 hD.lt
  have hs1 : w.heap.size < w1.heap.size := by have := hb1.size; simp at this; omega
  have hbel : Below w.heap.size w w1 := ((Below.refl _ w).alloc (Nat.le_refl _) _).trans (hb1.mono (by simp))
  have HB := Lib.hid hbel
  have HD := Lib.hid hD1
  clear hb1 hbel hD hD1
  go_wp2_with fail
  refine (HV.out w1 (below_G hGc HB.out h13 hG) (by omega) HD.out).mono ?_
  rintro e w2 ⟨rfl, hb2⟩
  have HB2 := Lib.hid (HB.out.trans (hb2.mono (by omega)))
  clear hb2
  go_wp2_with fail
  go_ret
  exact ⟨rfl, HB2.out⟩

set_option maxHeartbeats 2000000 in
set_option maxRecDepth 100000 in
theorem clo155 (G : World → Prop) (hGc : Closed13 G) (N a : Int) (zone : ByteArray) (hN0 : -9223372036854775808 ≤ N) (hN1 : N ≤ 9223372036854775807) (post : List UInt8) (hd : DoorOK G 155 (tmA N zone a) post) (hp : 0 < post.length)
    (D E C U : Nat) (w : World) (hG : G w) (he : EncAt w E C U) (hb : Blk w U 265 #[.slice none 0 0]) (h13 : 13 ≤ U) (hE : E < w.heap.size) (hne : E ≠ U) (hc : w.cell? ⟨C, 10, none⟩ = some (.func (.func 155) #[] #[])) (hC : C < w.heap.size) (hD : Blk w D 34 (mzA false N a zone)) :
    Calls Tryz.prog 63 #[.iface 179 (.pointer (some ⟨E, 0, none⟩)), .pointer (some ⟨D, 0, none⟩)] w fun e w' => e = .returned (.tuple #[]) ∧ Buf w' w.heap.size U post ∧ Keep w.heap.size U w w' := by
  have hU := hb.lt
  have HT := Lib.hid (fun w6 (h : G w6) => encTime155 G hGc N a zone post hd hp E C U w6 h)
  have HM := Lib.hid (moment_any N a zone hN0 hN1)
  have x0 : w.cell? ⟨D, 0, none⟩ = some (.bool false) := hD.cell 0
  have x1 : w.cell? ⟨D, 1, none⟩ = some (.int .i64 N) := hD.cell 1
  have x2 : w.cell? ⟨D, 2, none⟩ = some (.int .i64 a) := hD.cell 2
  have x3 : w.cell? ⟨D, 3, none⟩ = some (.string zone) := hD.cell 3
  have n1 := fun a w => nil179T a w
  have n2 := fun a w => meth179T a w
  have HG := Lib.hid hG
  have HE := Lib.hid he
  have HB := Lib.hid hb
  have HC := Lib.hid hc
  clear hd hG he hb hc hD
  unfold tmA mzA at *
  go_enter Tryz.func63, Tryz.ntmps63
  go_wp2_with fail
  go_region_with (first | (go_at_call 64; refine (HM.out _).mono ?_; rintro e w6 ⟨rfl, hb6⟩; have hs6 : w.heap.size ≤ w6.heap.size := hb6.size; have HB6 := Lib.hid (show Below w.heap.size w.drew w6 from hb6); clear hb6) | (go_at_call 305; refine (HT.out _ (below_G hGc HB6.out (by omega) (hGc w w.drew (fun _ _ => rfl) HG.out)) ((HB6.out.block E hE).trans HE.out) (HB.out.drew.below HB6.out hU) h13 (by omega) hne ((HB6.out.cell (p := ⟨C, 10, none⟩) hC).trans HC.out) (by omega)).mono ?_; rintro e w7 ⟨rfl, hb7, hk7⟩; have HB7 := Lib.hid hb7; have HK7 := Lib.hid hk7; clear hb7 hk7))
  all_goals
    have k1 : Keep w.heap.size U w w6 := ⟨HB6.out.os, HB6.out.tape, HB6.out.output, hs6, fun k hk _ => HB6.out.block k hk⟩
    have H := Lib.hid (And.intro (HB7.out.low hs6 hU) (k1.trans (HK7.out.mono hs6)))
    clear k1 x0 x1 x2 x3
    go_wp2_with fail
    first | go_end0 | refine bodyPost_ret (results_none rfl _ _ _) rfl ?_
    exact ⟨rfl, H.out⟩

set_option maxHeartbeats 2000000 in
set_option maxRecDepth 100000 in
theorem val155 (G : World → Prop) (hGc : Closed13 G) (N a : Int) (zone : ByteArray) (hN0 : -9223372036854775808 ≤ N) (hN1 : N ≤ 9223372036854775807) (post : List UInt8) (hd : DoorOK G 155 (tmA N zone a) post) (hp : 0 < post.length)
    (D : Nat) (w : World) (hG : G w) (h13 : 13 ≤ w.heap.size) (hD : Blk w D 34 (mzA false N a zone)) :
    Calls Tryz.prog 53 #[.agg (cfgCells ⟨#[]⟩ .nilFunc (.func (.func 155) #[] #[]) .nilFunc .nilFunc).toArray, .func (.func 63) #[] #[.pointer (some ⟨D, 0, none⟩)]] w fun e w' =>
      e = .returned (.string ⟨post.toArray⟩) ∧ Below w.heap.size w w' := by
  unfold cfgCells
  go_enter Tryz.func53, Tryz.ntmps53
  go_wp2_with fail
  refine (newEnc (.func (.func 155) #[] #[]) .nilFunc _).mono ?_
  rintro e w1 ⟨rfl, hw1⟩
  have hbel : Below w.heap.size w w1 := by rw [hw1]; go_grown
  have hs1 : w1.heap.size = w.heap.size + 4 := by rw [hw1]; simp
  have hE : EncAt w1 (w.heap.size + 3) (w.heap.size + 1) (w.heap.size + 2) := by
    rw [hw1]; unfold EncAt
    change (Array.push _ _)[_]? = _
    rw [Array.getElem?_push]; simp
  have hU : Blk w1 (w.heap.size + 2) 265 #[.slice none 0 0] := by
    rw [hw1]
    change (Array.push (Array.push _ _) _)[_]? = _
    rw [Array.getElem?_push, Array.getElem?_push]; simp
  have hC : w1.cell? ⟨w.heap.size + 1, 10, none⟩ = some (.func (.func 155) #[] #[]) := by
    have : w1.heap[w.heap.size + 1]? = some (.cells (cfgCells ⟨#[10]⟩ .nilFunc (.func (.func 155) #[] #[]) .nilFunc .nilFunc).toArray 100 (0, 0)) := by
      rw [hw1]
      change (Array.push (Array.push (Array.push _ _) _) _)[_]? = _
      rw [Array.getElem?_push, Array.getElem?_push, Array.getElem?_push]; simp
    simp [World.cell?, this, cfgCells]
  have hD1 := hD.below hbel hD.lt
  have hG1 := below_G hGc hbel h13 hG
  have HE := Lib.hid hE
  have HU := Lib.hid hU
  have HBEL := Lib.hid hbel
  have HD1 := Lib.hid hD1
  clear hw1 hE hU hbel hD hD1
  go_wp2_with fail
  refine (clo155 G hGc N a zone hN0 hN1 post hd hp D (w.heap.size + 3) (w.heap.size + 1) (w.heap.size + 2) w1 hG1 HE.out HU.out (by omega) (by omega) (by omega) hC (by omega) HD1.out).mono ?_
  rintro e w2 ⟨rfl, hb2, hk2⟩
  have e2 := (HE.out.keep hk2 (by omega) (by omega)).c1
  have HB2 := Lib.hid hb2
  have HK2 := Lib.hid (show Below w.heap.size w1 w2 from ⟨hk2.os, hk2.tape, hk2.output, hk2.size, fun k hk => hk2.block k (by omega) (by omega)⟩)
  clear hb2 hk2
  go_wp2_with (go_at_call 90; refine (bufString_any (w.heap.size + 2) w1.heap.size _ _ HB2.out).mono ?_; rintro e w' ⟨rfl, rfl⟩)
  go_ret
  exact ⟨rfl, HBEL.out.trans HK2.out⟩

set_option maxHeartbeats 2000000 in
set_option maxRecDepth 100000 in
theorem text155 (G : World → Prop) (hGc : Closed13 G) (N a : Int) (zone : ByteArray) (hN0 : -9223372036854775808 ≤ N) (hN1 : N ≤ 9223372036854775807) (post : List UInt8) (hd : DoorOK G 155 (tmA N zone a) post) (hp : 0 < post.length)
    (w : World) (hG : G w) (h13 : 13 ≤ w.heap.size) :
    Calls Tryz.prog 22 #[.agg (mzA false N a zone), .int .i64 4, .string ⟨#[]⟩] w fun e w' => e = .returned (.string ⟨post.toArray⟩) ∧ Below w.heap.size w w' := by
  have HV := Lib.hid (fun w6 (h : G w6) => val155 G hGc N a zone hN0 hN1 post hd hp w.heap.size w6 h)
  unfold mzA at *
  go_enter Tryz.func22, Tryz.ntmps22
  go_wp2_with fail
  refine (configT_any ⟨#[]⟩ ⟨#[]⟩ ⟨#[]⟩ ⟨#[]⟩ ⟨#[]⟩ ⟨#[]⟩ ⟨#[]⟩ false ⟨#[]⟩ 0 4 0 0 0 ⟨#[]⟩ ⟨#[]⟩ 155 enc96_0 (enc97_4 _) enc98_0 enc99_0 rfl _).mono ?_
  rintro e w1 ⟨rfl, hb1⟩
  have hD : Blk (w.alloc (.cells #[.bool false, .int .i64 N, .int .i64 a, .string zone] 34)) w.heap.size 34 #[.bool false, .int .i64 N, .int .i64 a, .string zone] := Blk.new _ _ _
  have hD1 := hD.below hb1 hD.lt
  have hs1 : w.heap.size < w1.heap.size := by have := hb1.size; simp at this; omega
  have hbel : Below w.heap.size w w1 := ((Below.refl _ w).alloc (Nat.le_refl _) _).trans (hb1.mono (by simp))
  have HB := Lib.hid hbel
  have HD := Lib.hid hD1
  clear hb1 hbel hD hD1
  go_wp2_with fail
  refine (HV.out w1 (below_G hGc HB.out h13 hG) (by omega) HD.out).mono ?_
  rintro e w2 ⟨rfl, hb2⟩
  have HB2 := Lib.hid (HB.out.trans (hb2.mono (by omega)))
  clear hb2
  go_wp2_with fail
  go_ret
  exact ⟨rfl, HB2.out⟩

set_option maxHeartbeats 2000000 in
set_option maxRecDepth 100000 in
theorem clo156 (G : World → Prop) (hGc : Closed13 G) (N a : Int) (zone : ByteArray) (hN0 : -9223372036854775808 ≤ N) (hN1 : N ≤ 9223372036854775807) (post : List UInt8) (hd : DoorOK G 156 (tmA N zone a) post) (hp : 0 < post.length)
    (D E C U : Nat) (w : World) (hG : G w) (he : EncAt w E C U) (hb : Blk w U 265 #[.slice none 0 0]) (h13 : 13 ≤ U) (hE : E < w.heap.size) (hne : E ≠ U) (hc : w.cell? ⟨C, 10, none⟩ = some (.func (.func 156) #[] #[])) (hC : C < w.heap.size) (hD : Blk w D 34 (mzA false N a zone)) :
    Calls Tryz.prog 63 #[.iface 179 (.pointer (some ⟨E, 0, none⟩)), .pointer (some ⟨D, 0, none⟩)] w fun e w' => e = .returned (.tuple #[]) ∧ Buf w' w.heap.size U post ∧ Keep w.heap.size U w w' := by
  have hU := hb.lt
  have HT := Lib.hid (fun w6 (h : G w6) => encTime156 G hGc N a zone post hd hp E C U w6 h)
  have HM := Lib.hid (moment_any N a zone hN0 hN1)
  have x0 : w.cell? ⟨D, 0, none⟩ = some (.bool false) := hD.cell 0
  have x1 : w.cell? ⟨D, 1, none⟩ = some (.int .i64 N) := hD.cell 1
  have x2 : w.cell? ⟨D, 2, none⟩ = some (.int .i64 a) := hD.cell 2
  have x3 : w.cell? ⟨D, 3, none⟩ = some (.string zone) := hD.cell 3
  have n1 := fun a w => nil179T a w
  have n2 := fun a w => meth179T a w
  have HG := Lib.hid hG
  have HE := Lib.hid he
  have HB := Lib.hid hb
  have HC := Lib.hid hc
  clear hd hG he hb hc hD
  unfold tmA mzA at *
  go_enter Tryz.func63, Tryz.ntmps63
  go_wp2_with fail
  go_region_with (first | (go_at_call 64; refine (HM.out _).mono ?_; rintro e w6 ⟨rfl, hb6⟩; have hs6 : w.heap.size ≤ w6.heap.size := hb6.size; have HB6 := Lib.hid (show Below w.heap.size w.drew w6 from hb6); clear hb6) | (go_at_call 305; refine (HT.out _ (below_G hGc HB6.out (by omega) (hGc w w.drew (fun _ _ => rfl) HG.out)) ((HB6.out.block E hE).trans HE.out) (HB.out.drew.below HB6.out hU) h13 (by omega) hne ((HB6.out.cell (p := ⟨C, 10, none⟩) hC).trans HC.out) (by omega)).mono ?_; rintro e w7 ⟨rfl, hb7, hk7⟩; have HB7 := Lib.hid hb7; have HK7 := Lib.hid hk7; clear hb7 hk7))
  all_goals
    have k1 : Keep w.heap.size U w w6 := ⟨HB6.out.os, HB6.out.tape, HB6.out.output, hs6, fun k hk _ => HB6.out.block k hk⟩
    have H := Lib.hid (And.intro (HB7.out.low hs6 hU) (k1.trans (HK7.out.mono hs6)))
    clear k1 x0 x1 x2 x3
    go_wp2_with fail
    first | go_end0 | refine bodyPost_ret (results_none rfl _ _ _) rfl ?_
    exact ⟨rfl, H.out⟩

set_option maxHeartbeats 2000000 in
set_option maxRecDepth 100000 in
theorem val156 (G : World → Prop) (hGc : Closed13 G) (N a : Int) (zone : ByteArray) (hN0 : -9223372036854775808 ≤ N) (hN1 : N ≤ 9223372036854775807) (post : List UInt8) (hd : DoorOK G 156 (tmA N zone a) post) (hp : 0 < post.length)
    (D : Nat) (w : World) (hG : G w) (h13 : 13 ≤ w.heap.size) (hD : Blk w D 34 (mzA false N a zone)) :
    Calls Tryz.prog 53 #[.agg (cfgCells ⟨#[]⟩ .nilFunc (.func (.func 156) #[] #[]) .nilFunc .nilFunc).toArray, .func (.func 63) #[] #[.pointer (some ⟨D, 0, none⟩)]] w fun e w' =>
      e = .returned (.string ⟨post.toArray⟩) ∧ Below w.heap.size w w' := by
  unfold cfgCells
  go_enter Tryz.func53, Tryz.ntmps53
  go_wp2_with fail
  refine (newEnc (.func (.func 156) #[] #[]) .nilFunc _).mono ?_
  rintro e w1 ⟨rfl, hw1⟩
  have hbel : Below w.heap.size w w1 := by rw [hw1]; go_grown
  have hs1 : w1.heap.size = w.heap.size + 4 := by rw [hw1]; simp
  have hE : EncAt w1 (w.heap.size + 3) (w.heap.size + 1) (w.heap.size + 2) := by
    rw [hw1]; unfold EncAt
    change (Array.push _ _)[_]? = _
    rw [Array.getElem?_push]; simp
  have hU : Blk w1 (w.heap.size + 2) 265 #[.slice none 0 0] := by
    rw [hw1]
    change (Array.push (Array.push _ _) _)[_]? = _
    rw [Array.getElem?_push, Array.getElem?_push]; simp
  have hC : w1.cell? ⟨w.heap.size + 1, 10, none⟩ = some (.func (.func 156) #[] #[]) := by
    have : w1.heap[w.heap.size + 1]? = some (.cells (cfgCells ⟨#[10]⟩ .nilFunc (.func (.func 156) #[] #[]) .nilFunc .nilFunc).toArray 100 (0, 0)) := by
      rw [hw1]
      change (Array.push (Array.push (Array.push _ _) _) _)[_]? = _
      rw [Array.getElem?_push, Array.getElem?_push, Array.getElem?_push]; simp
    simp [World.cell?, this, cfgCells]
  have hD1 := hD.below hbel hD.lt
  have hG1 := below_G hGc hbel h13 hG
  have HE := Lib.hid hE
  have HU := Lib.hid hU
  have HBEL := Lib.hid hbel
  have HD1 := Lib.hid hD1
  clear hw1 hE hU hbel hD hD1
  go_wp2_with fail
  refine (clo156 G hGc N a zone hN0 hN1 post hd hp D (w.heap.size + 3) (w.heap.size + 1) (w.heap.size + 2) w1 hG1 HE.out HU.out (by omega) (by omega) (by omega) hC (by omega) HD1.out).mono ?_
  rintro e w2 ⟨rfl, hb2, hk2⟩
  have e2 := (HE.out.keep hk2 (by omega) (by omega)).c1
  have HB2 := Lib.hid hb2
  have HK2 := Lib.hid (show Below w.heap.size w1 w2 from ⟨hk2.os, hk2.tape, hk2.output, hk2.size, fun k hk => hk2.block k (by omega) (by omega)⟩)
  clear hb2 hk2
  go_wp2_with (go_at_call 90; refine (bufString_any (w.heap.size + 2) w1.heap.size _ _ HB2.out).mono ?_; rintro e w' ⟨rfl, rfl⟩)
  go_ret
  exact ⟨rfl, HBEL.out.trans HK2.out⟩

set_option maxHeartbeats 2000000 in
set_option maxRecDepth 100000 in
theorem text156 (G : World → Prop) (hGc : Closed13 G) (N a : Int) (zone : ByteArray) (hN0 : -9223372036854775808 ≤ N) (hN1 : N ≤ 9223372036854775807) (post : List UInt8) (hd : DoorOK G 156 (tmA N zone a) post) (hp : 0 < post.length)
    (w : World) (hG : G w) (h13 : 13 ≤ w.heap.size) :
    Calls Tryz.prog 22 #[.agg (mzA false N a zone), .int .i64 5, .string ⟨#[]⟩] w fun e w' => e = .returned (.string ⟨post.toArray⟩) ∧ Below w.heap.size w w' := by
  have HV := Lib.hid (fun w6 (h : G w6) => val156 G hGc N a zone hN0 hN1 post hd hp w.heap.size w6 h)
  unfold mzA at *
  go_enter Tryz.func22, Tryz.ntmps22
  go_wp2_with fail
  refine (configT_any ⟨#[]⟩ ⟨#[]⟩ ⟨#[]⟩ ⟨#[]⟩ ⟨#[]⟩ ⟨#[]⟩ ⟨#[]⟩ false ⟨#[]⟩ 0 5 0 0 0 ⟨#[]⟩ ⟨#[]⟩ 156 enc96_0 (enc97_5 _) enc98_0 enc99_0 rfl _).mono ?_
  rintro e w1 ⟨rfl, hb1⟩
  have hD : Blk (w.alloc (.cells #[.bool false, .int .i64 N, .int .i64 a, .string zone] 34)) w.heap.size 34 #[.bool false, .int .i64 N, .int .i64 a, .string zone] := Blk.new _ _ _
  have hD1 := hD.below hb1 hD.lt
  have hs1 : w.heap.size < w1.heap.size := by have := hb1.size; simp at this; omega
  have hbel : Below w.heap.size w w1 := ((Below.refl _ w).alloc (Nat.le_refl _) _).trans (hb1.mono (by simp))
  have HB := Lib.hid hbel
  have HD := Lib.hid hD1
  clear hb1 hbel hD hD1
  go_wp2_with fail
  refine (HV.out w1 (below_G hGc HB.out h13 hG) (by omega) HD.out).mono ?_
  rintro e w2 ⟨rfl, hb2⟩
  have HB2 := Lib.hid (HB.out.trans (hb2.mono (by omega)))
  clear hb2
  go_wp2_with fail
  go_ret
  exact ⟨rfl, HB2.out⟩

set_option maxHeartbeats 2000000 in
set_option maxRecDepth 100000 in
theorem clo157 (G : World → Prop) (hGc : Closed13 G) (N a : Int) (zone : ByteArray) (hN0 : -9223372036854775808 ≤ N) (hN1 : N ≤ 9223372036854775807) (post : List UInt8) (hd : DoorOK G 157 (tmA N zone a) post) (hp : 0 < post.length)
    (D E C U : Nat) (w : World) (hG : G w) (he : EncAt w E C U) (hb : Blk w U 265 #[.slice none 0 0]) (h13 : 13 ≤ U) (hE : E < w.heap.size) (hne : E ≠ U) (hc : w.cell? ⟨C, 10, none⟩ = some (.func (.func 157) #[] #[])) (hC : C < w.heap.size) (hD : Blk w D 34 (mzA false N a zone)) :
    Calls Tryz.prog 63 #[.iface 179 (.pointer (some ⟨E, 0, none⟩)), .pointer (some ⟨D, 0, none⟩)] w fun e w' => e = .returned (.tuple #[]) ∧ Buf w' w.heap.size U post ∧ Keep w.heap.size U w w' := by
  have hU := hb.lt
  have HT := Lib.hid (fun w6 (h : G w6) => encTime157 G hGc N a zone post hd hp E C U w6 h)
  have HM := Lib.hid (moment_any N a zone hN0 hN1)
  have x0 : w.cell? ⟨D, 0, none⟩ = some (.bool false) := hD.cell 0
  have x1 : w.cell? ⟨D, 1, none⟩ = some (.int .i64 N) := hD.cell 1
  have x2 : w.cell? ⟨D, 2, none⟩ = some (.int .i64 a) := hD.cell 2
  have x3 : w.cell? ⟨D, 3, none⟩ = some (.string zone) := hD.cell 3
  have n1 := fun a w => nil179T a w
  have n2 := fun a w => meth179T a w
  have HG := Lib.hid hG
  have HE := Lib.hid he
  have HB := Lib.hid hb
  have HC := Lib.hid hc
  clear hd hG he hb hc hD
  unfold tmA mzA at *
  go_enter Tryz.func63, Tryz.ntmps63
  go_wp2_with fail
  go_region_with (first | (go_at_call 64; refine (HM.out _).mono ?_; rintro e w6 ⟨rfl, hb6⟩; have hs6 : w.heap.size ≤ w6.heap.size := hb6.size; have HB6 := Lib.hid (show Below w.heap.size w.drew w6 from hb6); clear hb6) | (go_at_call 305; refine (HT.out _ (below_G hGc HB6.out (by omega) (hGc w w.drew (fun _ _ => rfl) HG.out)) ((HB6.out.block E hE).trans HE.out) (HB.out.drew.below HB6.out hU) h13 (by omega) hne ((HB6.out.cell (p := ⟨C, 10, none⟩) hC).trans HC.out) (by omega)).mono ?_; rintro e w7 ⟨rfl, hb7, hk7⟩; have HB7 := Lib.hid hb7; have HK7 := Lib.hid hk7; clear hb7 hk7))
  all_goals
    have k1 : Keep w.heap.size U w w6 := ⟨HB6.out.os, HB6.out.tape, HB6.out.output, hs6, fun k hk _ => HB6.out.block k hk⟩
    have H := Lib.hid (And.intro (HB7.out.low hs6 hU) (k1.trans (HK7.out.mono hs6)))
    clear k1 x0 x1 x2 x3
    go_wp2_with fail
    first | go_end0 | refine bodyPost_ret (results_none rfl _ _ _) rfl ?_
    exact ⟨rfl, H.out⟩

set_option maxHeartbeats 2000000 in
set_option maxRecDepth 100000 in
theorem val157 (G : World → Prop) (hGc : Closed13 G) (N a : Int) (zone : ByteArray) (hN0 : -9223372036854775808 ≤ N) (hN1 : N ≤ 9223372036854775807) (post : List UInt8) (hd : DoorOK G 157 (tmA N zone a) post) (hp : 0 < post.length)
    (D : Nat) (w : World) (hG : G w) (h13 : 13 ≤ w.heap.size) (hD : Blk w D 34 (mzA false N a zone)) :
    Calls Tryz.prog 53 #[.agg (cfgCells ⟨#[]⟩ .nilFunc (.func (.func 157) #[] #[]) .nilFunc .nilFunc).toArray, .func (.func 63) #[] #[.pointer (some ⟨D, 0, none⟩)]] w fun e w' =>
      e = .returned (.string ⟨post.toArray⟩) ∧ Below w.heap.size w w' := by
  unfold cfgCells
  go_enter Tryz.func53, Tryz.ntmps53
  go_wp2_with fail
  refine (newEnc (.func (.func 157) #[] #[]) .nilFunc _).mono ?_
  rintro e w1 ⟨rfl, hw1⟩
  have hbel : Below w.heap.size w w1 := by rw [hw1]; go_grown
  have hs1 : w1.heap.size = w.heap.size + 4 := by rw [hw1]; simp
  have hE : EncAt w1 (w.heap.size + 3) (w.heap.size + 1) (w.heap.size + 2) := by
    rw [hw1]; unfold EncAt
    change (Array.push _ _)[_]? = _
    rw [Array.getElem?_push]; simp
  have hU : Blk w1 (w.heap.size + 2) 265 #[.slice none 0 0] := by
    rw [hw1]
    change (Array.push (Array.push _ _) _)[_]? = _
    rw [Array.getElem?_push, Array.getElem?_push]; simp
  have hC : w1.cell? ⟨w.heap.size + 1, 10, none⟩ = some (.func (.func 157) #[] #[]) := by
    have : w1.heap[w.heap.size + 1]? = some (.cells (cfgCells ⟨#[10]⟩ .nilFunc (.func (.func 157) #[] #[]) .nilFunc .nilFunc).toArray 100 (0, 0)) := by
      rw [hw1]
      change (Array.push (Array.push (Array.push _ _) _) _)[_]? = _
      rw [Array.getElem?_push, Array.getElem?_push, Array.getElem?_push]; simp
    simp [World.cell?, this, cfgCells]
  have hD1 := hD.below hbel hD.lt
  have hG1 := below_G hGc hbel h13 hG
  have HE := Lib.hid hE
  have HU := Lib.hid hU
  have HBEL := Lib.hid hbel
  have HD1 := Lib.hid hD1
  clear hw1 hE hU hbel hD hD1
  go_wp2_with fail
  refine (clo157 G hGc N a zone hN0 hN1 post hd hp D (w.heap.size + 3) (w.heap.size + 1) (w.heap.size + 2) w1 hG1 HE.out HU.out (by omega) (by omega) (by omega) hC (by omega) HD1.out).mono ?_
  rintro e w2 ⟨rfl, hb2, hk2⟩
  have e2 := (HE.out.keep hk2 (by omega) (by omega)).c1
  have HB2 := Lib.hid hb2
  have HK2 := Lib.hid (show Below w.heap.size w1 w2 from ⟨hk2.os, hk2.tape, hk2.output, hk2.size, fun k hk => hk2.block k (by omega) (by omega)⟩)
  clear hb2 hk2
  go_wp2_with (go_at_call 90; refine (bufString_any (w.heap.size + 2) w1.heap.size _ _ HB2.out).mono ?_; rintro e w' ⟨rfl, rfl⟩)
  go_ret
  exact ⟨rfl, HBEL.out.trans HK2.out⟩

set_option maxHeartbeats 2000000 in
set_option maxRecDepth 100000 in
theorem text157 (G : World → Prop) (hGc : Closed13 G) (N a : Int) (zone : ByteArray) (hN0 : -9223372036854775808 ≤ N) (hN1 : N ≤ 9223372036854775807) (post : List UInt8) (hd : DoorOK G 157 (tmA N zone a) post) (hp : 0 < post.length)
    (w : World) (hG : G w) (h13 : 13 ≤ w.heap.size) :
    Calls Tryz.prog 22 #[.agg (mzA false N a zone), .int .i64 6, .string ⟨#[]⟩] w fun e w' => e = .returned (.string ⟨post.toArray⟩) ∧ Below w.heap.size w w' := by
  have HV := Lib.hid (fun w6 (h : G w6) => val157 G hGc N a zone hN0 hN1 post hd hp w.heap.size w6 h)
  unfold mzA at *
  go_enter Tryz.func22, Tryz.ntmps22
  go_wp2_with fail
  refine (configT_any ⟨#[]⟩ ⟨#[]⟩ ⟨#[]⟩ ⟨#[]⟩ ⟨#[]⟩ ⟨#[]⟩ ⟨#[]⟩ false ⟨#[]⟩ 0 6 0 0 0 ⟨#[]⟩ ⟨#[]⟩ 157 enc96_0 (enc97_6 _) enc98_0 enc99_0 rfl _).mono ?_
  rintro e w1 ⟨rfl, hb1⟩
  have hD : Blk (w.alloc (.cells #[.bool false, .int .i64 N, .int .i64 a, .string zone] 34)) w.heap.size 34 #[.bool false, .int .i64 N, .int .i64 a, .string zone] := Blk.new _ _ _
  have hD1 := hD.below hb1 hD.lt
  have hs1 : w.heap.size < w1.heap.size := by have := hb1.size; simp at this; omega
  have hbel : Below w.heap.size w w1 := ((Below.refl _ w).alloc (Nat.le_refl _) _).trans (hb1.mono (by simp))
  have HB := Lib.hid hbel
  have HD := Lib.hid hD1
  clear hb1 hbel hD hD1
  go_wp2_with fail
  refine (HV.out w1 (below_G hGc HB.out h13 hG) (by omega) HD.out).mono ?_
  rintro e w2 ⟨rfl, hb2⟩
  have HB2 := Lib.hid (HB.out.trans (hb2.mono (by omega)))
  clear hb2
  go_wp2_with fail
  go_ret
  exact ⟨rfl, HB2.out⟩

end Go.Proofs.Zap
