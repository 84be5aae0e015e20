/- a text of the claims over the seat; its order and aim: NOTES.md -/
import Derived.Test.YtpllbhobcnglnaaGreatDoorZTB
import Derived.Test.YtpllbhobcnglnaaGreatDoorZA4
namespace Go.Proofs.Zap
open Go Go.Proofs Go.RowKit

abbrev layRfc : ByteArray := ⟨#[50, 48, 48, 54, 45, 48, 49, 45, 48, 50, 84, 49, 53, 58, 48, 52, 58, 48, 53, 90, 48, 55, 58, 48, 48]⟩
abbrev layNano : ByteArray := ⟨#[50, 48, 48, 54, 45, 48, 49, 45, 48, 50, 84, 49, 53, 58, 48, 52, 58, 48, 53, 46, 57, 57, 57, 57, 57, 57, 57, 57, 57, 90, 48, 55, 58, 48, 48]⟩
abbrev layIso : ByteArray := ⟨#[50, 48, 48, 54, 45, 48, 49, 45, 48, 50, 84, 49, 53, 58, 48, 52, 58, 48, 53, 46, 48, 48, 48, 90, 48, 55, 48, 48]⟩

/-- what AppendFormat appends of a moment by a layout, in worlds of a kind -/
def FmtOK (G : World → Prop) (lay : ByteArray) (N a : Int) (zone : ByteArray) (out : List UInt8) : Prop :=
  ∀ (base : Nat) (v : Value) (l : List UInt8) (w : World), G w → Own w base v l → base ≤ w.heap.size → l.length ≤ 1000 →
    Calls Tryz.prog 209 #[.agg (tmA N zone a), v, .string lay] w fun e w' => ∃ v', e = .returned v' ∧ Own w' base v' (l ++ out) ∧ BK base w w'

set_option maxHeartbeats 2000000 in
set_option maxRecDepth 100000 in
theorem fmt_rfc (G : World → Prop) (N a : Int) (zone : ByteArray) (h0 : -9223372036854775808 ≤ N) (h1 : N ≤ 9223372036854775807) (ha0 : -86400 < a) (ha1 : a < 86400) (hm60 : a % 60 = 0) :
    FmtOK G layRfc N a zone (rfcB N a [] [58]) := by
  intro base v l w _ hown hbase hl
  have HR := Lib.hid (rfc_any false base v l N a zone h0 h1 ha0 ha1 hm60)
  have HO := Lib.hid hown
  clear hown h0 h1 ha0 ha1 hm60
  unfold tmA at *
  go_enter Tryz.func209, Tryz.ntmps209
  go_wp2_with fail
  refine (HR.out _ (ownsRow_below HO.out ((Below.refl _ _).alloc (Nat.le_refl _) _)) (by simp; omega) hl).mono ?_
  rintro e w1 ⟨v1, rfl, ho, hb⟩
  have HO1 := Lib.hid ho
  have HB1 := Lib.hid ((BK.alloc base w (.cells (tmA N zone a) 112) hbase).trans hb)
  clear ho hb
  go_wp2_with fail
  go_ret
  exact ⟨_, rfl, HO1.out, HB1.out⟩

set_option maxHeartbeats 2000000 in
set_option maxRecDepth 100000 in
theorem fmt_nano (G : World → Prop) (N a : Int) (zone : ByteArray) (h0 : -9223372036854775808 ≤ N) (h1 : N ≤ 9223372036854775807) (ha0 : -86400 < a) (ha1 : a < 86400) (hm60 : a % 60 = 0) :
    FmtOK G layNano N a zone (rfcB N a (fracB (nN N)) [58]) := by
  intro base v l w _ hown hbase hl
  have HR := Lib.hid (rfc_any true base v l N a zone h0 h1 ha0 ha1 hm60)
  have HO := Lib.hid hown
  clear hown h0 h1 ha0 ha1 hm60
  unfold tmA at *
  go_enter Tryz.func209, Tryz.ntmps209
  go_wp2_with fail
  refine (HR.out _ (ownsRow_below HO.out ((Below.refl _ _).alloc (Nat.le_refl _) _)) (by simp; omega) hl).mono ?_
  rintro e w1 ⟨v1, rfl, ho, hb⟩
  have HO1 := Lib.hid ho
  have HB1 := Lib.hid ((BK.alloc base w (.cells (tmA N zone a) 112) hbase).trans hb)
  clear ho hb
  go_wp2_with fail
  go_ret
  exact ⟨_, rfl, HO1.out, HB1.out⟩

theorem Keep.of_BK {base U : Nat} {w w' : World} (h : BK base w w') : Keep base U w w' := ⟨h.below.os, h.below.tape, h.below.output, h.below.size, fun k hk _ => h.below.block k hk⟩

set_option maxHeartbeats 2000000 in
set_option maxRecDepth 100000 in
theorem bufTime_any (G : World → Prop) (hGc : ∀ w w', (∀ k, k < 13 → w'.heap[k]? = w.heap[k]?) → G w → G w') (lay : ByteArray) (N a : Int) (zone : ByteArray) (out : List UInt8) (hf : FmtOK G lay N a zone out) (U base : Nat) (hU13 : 13 ≤ U) (l : List UInt8) (w : World) (hG : G w) (hb : Buf w base U l) (hl : l.length ≤ 1000) :
    Calls Tryz.prog 263 #[.pointer (some ⟨U, 0, none⟩), .agg (tmA N zone a), .string lay] w fun e w' => e = .returned (.tuple #[]) ∧ Buf w' base U (l ++ out) ∧ Keep base U w w' := by
  obtain ⟨hU, hB, v, hv, hown⟩ := hb
  obtain ⟨ad, cp, rfl⟩ := ownsRow_form hown
  have hUs : U < w.heap.size := by omega
  have hUb : U ≠ w.heap.size := by omega
  have HF := Lib.hid hf
  clear hf
  have hfd : G (w.alloc (.cells (tmA N zone a) 112)).drew := hGc w _ (fun k hk => Below.heap_alloc w _ k (by omega)) hG
  have hown2 := ownsRow_below hown (((Below.refl _ _).alloc (Nat.le_refl _) (.cells (tmA N zone a) 112)).drew)
  have hv2 : Blk (w.alloc (.cells (tmA N zone a) 112)).drew U 265 #[.slice ad l.length cp] := ((show Blk w U 265 _ from hv).alloc _).drew
  have hbk0 : BK base w (w.alloc (.cells (tmA N zone a) 112)).drew := BK.of_below (((Below.refl _ _).alloc (Nat.le_refl _) (.cells (tmA N zone a) 112)).drew) hB
  have hsz : base ≤ (w.alloc (.cells (tmA N zone a) 112)).drew.heap.size := by simp; omega
  have HC := Lib.hid (HF.out base _ l _ hfd hown2 hsz hl)
  have HV := Lib.hid hv2
  have HK := Lib.hid hbk0
  have hc : (w.alloc (.cells (tmA N zone a) 112)).cell? ⟨U, 0, none⟩ = some (.slice ad l.length cp) := hv2.cell 0
  have hfz : (w.alloc (.cells (tmA N zone a) 112)).frozen? ⟨U, 0, none⟩ = false := hv2.frozen 0
  have hbox : Blk (w.alloc (.cells (tmA N zone a) 112)) w.heap.size 112 (tmA N zone a) := Blk.new _ _ _
  have hx0 : (w.alloc (.cells (tmA N zone a) 112)).cell? ⟨w.heap.size, 0, none⟩ = some (.int .i64 (N / 1000000000 + 62135596800)) := hbox.cell 0
  have hx1 : (w.alloc (.cells (tmA N zone a) 112)).cell? ⟨w.heap.size, 1, none⟩ = some (.int .i32 (N % 1000000000)) := hbox.cell 1
  have hx2 : (w.alloc (.cells (tmA N zone a) 112)).cell? ⟨w.heap.size, 2, none⟩ = some (.string zone) := hbox.cell 2
  have hx3 : (w.alloc (.cells (tmA N zone a) 112)).cell? ⟨w.heap.size, 3, none⟩ = some (.int .i64 a) := hbox.cell 3
  unfold tmA at hx0 hx1 hx2 hx3
  clear hfd hown hown2 hv hv2 hbk0 HF hbox
  unfold tmA at HC HV HK hc hfz hsz ⊢
  go_enter Tryz.func263, Tryz.ntmps263
  go_wp2_with fail
  generalize w.alloc _ = w5 at *
  go_region_with (go_at_call 209; refine HC.out.mono ?_; rintro e w6 ⟨v6, rfl, ho6, hb6⟩; have hv6 := hb6.other U 265 _ (by decide) HV.out; have c6 : w6.cell? ⟨U, 0, none⟩ = some (.slice ad l.length cp) := hv6.cell 0; have f6 := hv6.frozen 0; obtain ⟨a6, cp6, rfl⟩ := ownsRow_form ho6; have HO6 := Lib.hid ho6; have HB6 := Lib.hid (HK.out.trans hb6); have HV6 := Lib.hid hv6; clear ho6 hb6 hv6)
  all_goals
    have hbuf : Buf (w6.setCell ⟨U, 0, none⟩ (.slice a6 (l ++ out).length cp6)) base U (l ++ out) :=
      ⟨hU, by have := HB6.out.size; simp [World.setCell]; omega, _, HV6.out.set_ 0 _, ownsRow_setCell_below HO6.out (by simpa using hU) _⟩
    have hkp : Keep base U w (w6.setCell ⟨U, 0, none⟩ (.slice a6 (l ++ out).length cp6)) := by
      have hb := HB6.out.below
      refine ⟨hb.os, hb.tape, hb.output, by have := hb.size; simp [World.setCell]; omega, fun k hk hne => ?_⟩
      rw [Below.heap_setCell _ _ _ _ (by simpa using hne)]
      exact hb.block k hk
    rw [List.length_append] at hbuf hkp
    have H := Lib.hid (And.intro hbuf hkp)
    clear hbuf hkp HO6 HB6 HV6 c6 f6
    go_end0
    exact ⟨rfl, H.out⟩

/-- the closing of a kind of worlds under all that leaves the first 13 blocks alone -/
abbrev Closed13 (G : World → Prop) : Prop := ∀ w w' : World, (∀ k, k < 13 → w'.heap[k]? = w.heap[k]?) → G w → G w'

theorem Buf.drew' {w : World} {base U : Nat} {l : List UInt8} (h : Buf w base U l) : Buf w.drew base U l := by
  have := h.below ((Below.refl w.heap.size w).drew)
  exact this
theorem Buf.low {w : World} {base base' U : Nat} {l : List UInt8} (h : Buf w base' U l) (hb : base ≤ base') (hU : U < base) : Buf w base U l := by
  obtain ⟨_, hB, v, hv, hown⟩ := h
  refine ⟨hU, by omega, v, hv, hown.1, ?_⟩
  rcases hown.2 with h0 | ⟨g, cap, cur, e1, e2, e3⟩
  · exact .inl h0
  · exact .inr ⟨g, cap, cur, e1, by omega, e3⟩
theorem keep_G {G : World → Prop} (hGc : Closed13 G) {base U : Nat} {w w' : World} (hk : Keep base U w w') (h13 : 13 ≤ U) (hU : U < base) (h : G w) : G w' :=
  hGc w w' (fun k hk2 => hk.block k (by omega) (by omega)) h
theorem below_G {G : World → Prop} (hGc : Closed13 G) {B : Nat} {w w' : World} (hk : Below B w w') (h13 : 13 ≤ B) (h : G w) : G w' :=
  hGc w w' (fun k hk2 => hk.block k (by omega)) h

set_option maxHeartbeats 2000000 in
set_option maxRecDepth 100000 in
theorem encLayout_any (G : World → Prop) (hGc : Closed13 G) (lay : ByteArray) (N a : Int) (zone : ByteArray) (out : List UInt8) (hf : FmtOK G lay N a zone out) (E C U : Nat) (w : World) (hG : G w) (he : EncAt w E C U) (hb : Blk w U 265 #[.slice none 0 0]) (h13 : 13 ≤ U) (hE : E < w.heap.size) (hne : E ≠ U) (ho : out.length ≤ 900) :
    Calls Tryz.prog 306 #[.pointer (some ⟨E, 0, none⟩), .agg (tmA N zone a), .string lay] w fun e w' => e = .returned (.tuple #[]) ∧ Buf w' w.heap.size U (34 :: (out ++ [34])) ∧ Keep w.heap.size U w w' := by
  have hU := hb.lt
  have hbel : Below w.heap.size w (w.alloc (.cells (tmA N zone a) 112)) := (Below.refl _ _).alloc (Nat.le_refl _) _
  have hbox : Blk (w.alloc (.cells (tmA N zone a) 112)) w.heap.size 112 (tmA N zone a) := Blk.new _ _ _
  have hb0 : Buf (w.alloc (.cells (tmA N zone a) 112)) (w.heap.size + 1) U [] := ⟨by omega, by simp, _, hb.alloc _, World.ownsRow_nil _ _ _ _⟩
  have he0 : EncAt (w.alloc (.cells (tmA N zone a) 112)) E C U := (hbel.block E hE).trans he
  have hG0 := below_G hGc hbel (by omega) hG
  have HBEL := Lib.hid hbel
  have HF := Lib.hid hf
  have HBOX := Lib.hid hbox
  have HB0 := Lib.hid hb0
  have HE0 := Lib.hid he0
  have HG0 := Lib.hid hG0
  have c1 : (w.alloc (.cells (tmA N zone a) 112)).cell? ⟨E, 1, none⟩ = some (.pointer (some ⟨U, 0, none⟩)) := he0.c1
  clear hbel hbox hb0 he0 hG0 hf hb he hG
  unfold tmA at HBEL HBOX HB0 HE0 HG0 c1 ⊢
  go_enter Tryz.func306, Tryz.ntmps306
  go_wp2_with fail
  generalize hw1 : w.alloc _ = w1 at HBEL HBOX HB0 HE0 HG0 c1 ⊢
  have hs1 : w1.heap.size = w.heap.size + 1 := by rw [← hw1]; simp
  clear hw1
  have HS1 := Lib.hid hs1
  clear hs1
  refine (sep_nil E C U _ w1 HE0.out HB0.out).mono ?_
  rintro e w' ⟨rfl, rfl⟩
  go_wp2_with fail
  refine (appendByteN 34 U (w.heap.size + 1) [] 34 rfl _ HB0.out (by simp)).mono ?_
  rintro e w2 ⟨rfl, hb2, hk2⟩
  have he2 := HE0.out.keep hk2 (by omega) hne
  have hG2 := keep_G hGc hk2 h13 (by omega) HG0.out
  have hbox2 : Blk w2 w.heap.size 112 _ := HBOX.out.same (hk2.block _ (by omega) (by omega))
  have d1 := he2.c1
  have x0 : w2.cell? ⟨w.heap.size, 0, none⟩ = some (.int .i64 (N / 1000000000 + 62135596800)) := hbox2.cell 0
  have x1 : w2.cell? ⟨w.heap.size, 1, none⟩ = some (.int .i32 (N % 1000000000)) := hbox2.cell 1
  have x2 : w2.cell? ⟨w.heap.size, 2, none⟩ = some (.string zone) := hbox2.cell 2
  have x3 : w2.cell? ⟨w.heap.size, 3, none⟩ = some (.int .i64 a) := hbox2.cell 3
  have HB2 := Lib.hid hb2.drew'
  have HG2 := Lib.hid (hGc w2 w2.drew (fun _ _ => rfl) hG2)
  have HE2 := Lib.hid he2
  have HK2 := Lib.hid hk2
  have HT := Lib.hid (bufTime_any G hGc lay N a zone out HF.out U (w.heap.size + 1) h13 ([] ++ [34]) w2.drew HG2.out HB2.out (by simp))
  unfold tmA at HT
  clear hb2 hk2 he2 hG2 hbox2 HBOX HB0 HG0 c1
  go_wp2_with fail
  go_region_with (go_at_call 263; refine HT.out.mono ?_; rintro e w3 ⟨rfl, hb3, hk3⟩; have he3 : EncAt w3 E C U := (hk3.block E (by omega) hne).trans HE2.out; have d3 := he3.c1; have HB3 := Lib.hid hb3; have HK3 := Lib.hid hk3; clear hb3 hk3 he3)
  all_goals
    clear x0 x1 x2 x3 HT
    go_wp2_with fail
    refine (appendByteN 34 U (w.heap.size + 1) ([] ++ [34] ++ out) 34 rfl _ HB3.out (by simp; omega)).mono ?_
    rintro e w4 ⟨rfl, hb4, hk4⟩
    have hsz := HS1.out
    have hfin : Keep w.heap.size U w w4 := by
      have k1 : Keep w.heap.size U w w' := ⟨HBEL.out.os, HBEL.out.tape, HBEL.out.output, HBEL.out.size, fun k hk _ => HBEL.out.block k hk⟩
      have k2 : Keep w.heap.size U w' w2 := HK2.out.mono (by omega)
      have k3 : Keep w.heap.size U w2 w3 := ⟨HK3.out.os, HK3.out.tape, HK3.out.output, HK3.out.size, fun k hk hn => HK3.out.block k (by omega) hn⟩
      exact ((k1.trans k2).trans k3).trans (hk4.mono (by omega))
    have hbf := hb4.low (base := w.heap.size) (by omega) hU
    have H := Lib.hid (And.intro hbf hfin)
    clear hb4 hk4 hsz hfin hbf HB3 HK3
    go_wp2_with fail
    first | go_end0 | refine bodyPost_ret (results_none rfl _ _ _) rfl ?_
    refine ⟨rfl, ?_, H.out.2⟩
    have h1 := H.out.1
    rw [show ([] : List UInt8) ++ [34] ++ out ++ [34] = 34 :: (out ++ [34]) by simp] at h1
    exact h1

set_option maxRecDepth 1000000 in
theorem ta352 (E : Nat) (w : World) : (Instr.typeAssert (.iface 179 (.pointer (some ⟨E, 0, none⟩))) 298 352 true).run Tryz.prog w = .ok (.tuple #[.iface 179 (.pointer (some ⟨E, 0, none⟩)), .bool true]) w := by kernel_rfl
set_option maxRecDepth 1000000 in
theorem nil179L (a : Addr) (w : World) : (nilAhead 589 179 (.pointer (some a)) "AppendTimeLayout").run Tryz.prog w = .ok (some false) w := by kernel_rfl
set_option maxRecDepth 1000000 in
theorem meth179L (a : Addr) (w : World) : (method 589 179 (.pointer (some a)) "AppendTimeLayout").run Tryz.prog w = .ok (306, .pointer (some a)) w := by kernel_rfl

/-- what a door of AppendTime writes: from an empty buffer of the call's own -/
def DoorOK (G : World → Prop) (f : FuncId) (tm : Array Value) (post : List UInt8) : Prop :=
  ∀ (E C U : Nat) (w : World), G w → EncAt w E C U → Blk w U 265 #[.slice none 0 0] → 13 ≤ U → E < w.heap.size → E ≠ U →
    Calls Tryz.prog f #[.agg tm, .iface 179 (.pointer (some ⟨E, 0, none⟩))] w fun e w' => e = .returned (.tuple #[]) ∧ Buf w' w.heap.size U post ∧ Keep w.heap.size U w w'

set_option maxHeartbeats 2000000 in
set_option maxRecDepth 100000 in
theorem layout_any (G : World → Prop) (hGc : Closed13 G) (lay : ByteArray) (N a : Int) (zone : ByteArray) (out : List UInt8) (hf : FmtOK G lay N a zone out) (E C U : Nat) (w : World) (hG : G w) (he : EncAt w E C U) (hb : Blk w U 265 #[.slice none 0 0]) (h13 : 13 ≤ U) (hE : E < w.heap.size) (hne : E ≠ U) (ho : out.length ≤ 900) :
    Calls Tryz.prog 188 #[.agg (tmA N zone a), .string lay, .iface 179 (.pointer (some ⟨E, 0, none⟩))] w fun e w' => e = .returned (.tuple #[]) ∧ Buf w' w.heap.size U (34 :: (out ++ [34])) ∧ Keep w.heap.size U w w' := by
  have hU := hb.lt
  have hbel : Below w.heap.size w (w.alloc (.cells (tmA N zone a) 112)) := (Below.refl _ _).alloc (Nat.le_refl _) _
  have HT := Lib.hid (encLayout_any G hGc lay N a zone out hf E C U (w.alloc (.cells (tmA N zone a) 112)) (below_G hGc hbel (by omega) hG) ((hbel.block E hE).trans he) (hb.alloc _) h13 (by simp; omega) hne ho)
  have HBEL := Lib.hid hbel
  have n1 := fun E w => ta352 E w
  have n2 := fun a w => nil179L a w
  have n3 := fun a w => meth179L a w
  clear hf hG he hb hbel
  unfold tmA at HT HBEL ⊢
  go_enter Tryz.func188, Tryz.ntmps188
  go_wp2_with (go_at_call 306; refine HT.out.mono ?_; rintro e w1 ⟨rfl, hb1, hk1⟩; have HB1 := Lib.hid hb1; have HK1 := Lib.hid hk1; clear hb1 hk1)
  have hsz : w.heap.size ≤ (w.alloc (.cells #[.int .i64 (N / 1000000000 + 62135596800), .int .i32 (N % 1000000000), .string zone, .int .i64 a] 112)).heap.size := by simp
  have hfin : Keep w.heap.size U w w1 := (⟨HBEL.out.os, HBEL.out.tape, HBEL.out.output, HBEL.out.size, fun k hk _ => HBEL.out.block k hk⟩ : Keep w.heap.size U w _).trans (HK1.out.mono hsz)
  have hbf := HB1.out.low hsz hU
  have H := Lib.hid (And.intro hbf hfin)
  clear hbf hfin
  first | go_end0 | refine bodyPost_ret (results_none rfl _ _ _) rfl ?_
  exact ⟨rfl, H.out⟩

set_option maxHeartbeats 2000000 in
set_option maxRecDepth 100000 in
theorem door_iso (G : World → Prop) (hGc : Closed13 G) (N a : Int) (zone : ByteArray) (out : List UInt8) (hf : FmtOK G layIso N a zone out) (ho : out.length ≤ 900) : DoorOK G 155 (tmA N zone a) (34 :: (out ++ [34])) := by
  intro E C U w hG he hb h13 hE hne
  have hU := hb.lt
  have hbel : Below w.heap.size w (w.alloc (.cells (tmA N zone a) 112)) := (Below.refl _ _).alloc (Nat.le_refl _) _
  have HT := Lib.hid (layout_any G hGc layIso N a zone out hf E C U (w.alloc (.cells (tmA N zone a) 112)) (below_G hGc hbel (by omega) hG) ((hbel.block E hE).trans he) (hb.alloc _) h13 (by simp; omega) hne ho)
  have HBEL := Lib.hid hbel
  clear hf hG he hb hbel
  unfold tmA at HT HBEL ⊢
  go_enter Tryz.func155, Tryz.ntmps155
  go_wp2_with fail
  refine HT.out.mono ?_
  rintro e w1 ⟨rfl, hb1, hk1⟩
  have hsz : w.heap.size ≤ (w.alloc (.cells #[.int .i64 (N / 1000000000 + 62135596800), .int .i32 (N % 1000000000), .string zone, .int .i64 a] 112)).heap.size := by simp
  have hfin : Keep w.heap.size U w w1 := (⟨HBEL.out.os, HBEL.out.tape, HBEL.out.output, HBEL.out.size, fun k hk _ => HBEL.out.block k hk⟩ : Keep w.heap.size U w _).trans (hk1.mono hsz)
  have hbf := hb1.low hsz hU
  have H := Lib.hid (And.intro hbf hfin)
  clear hbf hfin hb1 hk1 hsz
  go_wp2_with fail
  first | go_end0 | refine bodyPost_ret (results_none rfl _ _ _) rfl ?_
  exact ⟨rfl, H.out⟩

set_option maxHeartbeats 2000000 in
set_option maxRecDepth 100000 in
theorem door_rfc (G : World → Prop) (hGc : Closed13 G) (N a : Int) (zone : ByteArray) (out : List UInt8) (hf : FmtOK G layRfc N a zone out) (ho : out.length ≤ 900) : DoorOK G 156 (tmA N zone a) (34 :: (out ++ [34])) := by
  intro E C U w hG he hb h13 hE hne
  have hU := hb.lt
  have hbel : Below w.heap.size w (w.alloc (.cells (tmA N zone a) 112)) := (Below.refl _ _).alloc (Nat.le_refl _) _
  have HT := Lib.hid (layout_any G hGc layRfc N a zone out hf E C U (w.alloc (.cells (tmA N zone a) 112)) (below_G hGc hbel (by omega) hG) ((hbel.block E hE).trans he) (hb.alloc _) h13 (by simp; omega) hne ho)
  have HBEL := Lib.hid hbel
  clear hf hG he hb hbel
  unfold tmA at HT HBEL ⊢
  go_enter Tryz.func156, Tryz.ntmps156
  go_wp2_with fail
  refine HT.out.mono ?_
  rintro e w1 ⟨rfl, hb1, hk1⟩
  have hsz : w.heap.size ≤ (w.alloc (.cells #[.int .i64 (N / 1000000000 + 62135596800), .int .i32 (N % 1000000000), .string zone, .int .i64 a] 112)).heap.size := by simp
  have hfin : Keep w.heap.size U w w1 := (⟨HBEL.out.os, HBEL.out.tape, HBEL.out.output, HBEL.out.size, fun k hk _ => HBEL.out.block k hk⟩ : Keep w.heap.size U w _).trans (hk1.mono hsz)
  have hbf := hb1.low hsz hU
  have H := Lib.hid (And.intro hbf hfin)
  clear hbf hfin hb1 hk1 hsz
  go_wp2_with fail
  first | go_end0 | refine bodyPost_ret (results_none rfl _ _ _) rfl ?_
  exact ⟨rfl, H.out⟩

set_option maxHeartbeats 2000000 in
set_option maxRecDepth 100000 in
theorem door_nano (G : World → Prop) (hGc : Closed13 G) (N a : Int) (zone : ByteArray) (out : List UInt8) (hf : FmtOK G layNano N a zone out) (ho : out.length ≤ 900) : DoorOK G 157 (tmA N zone a) (34 :: (out ++ [34])) := by
  intro E C U w hG he hb h13 hE hne
  have hU := hb.lt
  have hbel : Below w.heap.size w (w.alloc (.cells (tmA N zone a) 112)) := (Below.refl _ _).alloc (Nat.le_refl _) _
  have HT := Lib.hid (layout_any G hGc layNano N a zone out hf E C U (w.alloc (.cells (tmA N zone a) 112)) (below_G hGc hbel (by omega) hG) ((hbel.block E hE).trans he) (hb.alloc _) h13 (by simp; omega) hne ho)
  have HBEL := Lib.hid hbel
  clear hf hG he hb hbel
  unfold tmA at HT HBEL ⊢
  go_enter Tryz.func157, Tryz.ntmps157
  go_wp2_with fail
  refine HT.out.mono ?_
  rintro e w1 ⟨rfl, hb1, hk1⟩
  have hsz : w.heap.size ≤ (w.alloc (.cells #[.int .i64 (N / 1000000000 + 62135596800), .int .i32 (N % 1000000000), .string zone, .int .i64 a] 112)).heap.size := by simp
  have hfin : Keep w.heap.size U w w1 := (⟨HBEL.out.os, HBEL.out.tape, HBEL.out.output, HBEL.out.size, fun k hk _ => HBEL.out.block k hk⟩ : Keep w.heap.size U w _).trans (hk1.mono hsz)
  have hbf := hb1.low hsz hU
  have H := Lib.hid (And.intro hbf hfin)
  clear hbf hfin hb1 hk1 hsz
  go_wp2_with fail
  first | go_end0 | refine bodyPost_ret (results_none rfl _ _ _) rfl ?_
  exact ⟨rfl, H.out⟩

set_option maxHeartbeats 2000000 in
set_option maxRecDepth 100000 in
theorem door_nanos (G : World → Prop) (hGc : Closed13 G) (hGT : ∀ w, G w → Tabs w) (N a : Int) (zone : ByteArray) (h0 : -9223372036854775808 ≤ N) (h1 : N ≤ 9223372036854775807) : DoorOK G 154 (tmA N zone a) (Lib.itoa N) := by
  intro E C U w hG he hb h13 hE hne
  have hU := hb.lt
  have hbel : Below w.heap.size w (w.alloc (.cells (tmA N zone a) 112)) := (Below.refl _ _).alloc (Nat.le_refl _) _
  have HN := Lib.hid (unixNano_any a zone · N h0 h1)
  have hbox : Blk (w.alloc (.cells (tmA N zone a) 112)) w.heap.size 112 (tmA N zone a) := Blk.new _ _ _
  have x0 : (w.alloc (.cells (tmA N zone a) 112)).cell? ⟨w.heap.size, 0, none⟩ = some (.int .i64 (N / 1000000000 + 62135596800)) := hbox.cell 0
  have x1 : (w.alloc (.cells (tmA N zone a) 112)).cell? ⟨w.heap.size, 1, none⟩ = some (.int .i32 (N % 1000000000)) := hbox.cell 1
  have x2 : (w.alloc (.cells (tmA N zone a) 112)).cell? ⟨w.heap.size, 2, none⟩ = some (.string zone) := hbox.cell 2
  have x3 : (w.alloc (.cells (tmA N zone a) 112)).cell? ⟨w.heap.size, 3, none⟩ = some (.int .i64 a) := hbox.cell 3
  have hG1 := below_G hGc hbel (by omega) hG
  have HG := Lib.hid (hGT _ hG1)
  have HE := Lib.hid (show EncAt (w.alloc (.cells (tmA N zone a) 112)) E C U from (hbel.block E hE).trans he)
  have HBK := Lib.hid (hb.alloc (.cells (tmA N zone a) 112))
  have HBEL := Lib.hid hbel
  have n1 := fun a w => nil179I a w
  have n2 := fun a w => meth179I a w
  clear hG he hb hbel hbox hG1
  unfold tmA at *
  go_enter Tryz.func154, Tryz.ntmps154
  go_wp2_with fail
  generalize w.alloc _ = w5 at *
  have hS5 : w.heap.size ≤ w5.heap.size := HBEL.out.size
  go_region_with (first | (go_at_call 187; refine (HN.out _).mono ?_; rintro e w6 ⟨rfl, hb6⟩; have hs6 : w5.heap.size ≤ w6.heap.size := hb6.size; have HB6 := Lib.hid (show Below w5.heap.size w5.drew w6 from hb6); clear hb6) | (go_at_call 301; refine (encInt_any E C U w.heap.size N h0 h1 _ ((HB6.out.block E (by omega)).trans HE.out) ⟨hU, by omega, _, HBK.out.drew.below HB6.out (by have := HBK.out.lt; omega), World.ownsRow_nil _ _ _ _⟩ ((HG.out.below ((Below.refl _ _).drew) (by omega)).below HB6.out (by omega)) (by omega)).mono ?_; rintro e w7 ⟨rfl, hb7, hk7⟩; have HB7 := Lib.hid hb7; have HK7 := Lib.hid hk7; clear hb7 hk7))
  all_goals
    have k1 : Keep w.heap.size U w w5 := ⟨HBEL.out.os, HBEL.out.tape, HBEL.out.output, HBEL.out.size, fun k hk _ => HBEL.out.block k hk⟩
    have k2 : Keep w.heap.size U w5 w6 := ⟨HB6.out.os, HB6.out.tape, HB6.out.output, hs6, fun k hk _ => HB6.out.block k (by omega)⟩
    have H := Lib.hid (And.intro HB7.out ((k1.trans k2).trans HK7.out))
    clear k1 k2 x0 x1 x2 x3
    go_wp2_with fail
    first | go_end0 | refine bodyPost_ret (results_none rfl _ _ _) rfl ?_
    exact ⟨rfl, H.out⟩
end Go.Proofs.Zap
