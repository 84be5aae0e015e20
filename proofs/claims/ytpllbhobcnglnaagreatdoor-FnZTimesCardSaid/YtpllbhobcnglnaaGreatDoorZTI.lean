/- a text of the claims over the seat; its order and aim: NOTES.md -/
import Derived.Test.YtpllbhobcnglnaaGreatDoorZTH
namespace Go.Proofs.Zap
open Go Go.Proofs Go.RowKit

/-- the table of two-digit codes -/
def StdT (w : World) : Prop := ∃ cs, Blk w 7 399 cs ∧ cs[0]? = some (.int .i64 260) ∧ cs[1]? = some (.int .i64 265) ∧ cs[3]? = some (.int .i64 1040) ∧ cs[4]? = some (.int .i64 1042)
theorem BK.drewN (base : Nat) (w : World) (n : Nat) : BK base w (w.drewN n) := ⟨⟨rfl, rfl, rfl, Nat.le_refl _, fun _ _ => rfl⟩, fun _ _ _ _ h => h⟩
theorem StdT.bk {base : Nat} {w w' : World} (h : StdT w) (hb : BK base w w') : StdT w' := by
  obtain ⟨cs, h0, h1⟩ := h
  exact ⟨cs, hb.other 7 399 cs (by decide) h0, h1⟩

/-- append of a string's bytes -/
theorem wpList_appS {ops : Array Oper} {rest : List Oper} {o : Oper} {a : Act} {Q : Exit → Act → World → Prop} {w0 : World} (hgd : o.guard = none) (s x : Operand)
    (ho : o.op = .call { callee := .builtin .append, args := #[s, x], argTypes := #[31, 9] }) (base : Nat) (v : Value) (l : List UInt8) (hs : a.eval s = v) (hown : Own w0 base v l)
    (p : ByteArray) (hx : a.eval x = .string p) (hl : l.length + p.size ≤ 1000000000) (hbase : base ≤ w0.heap.size)
    (h : ∀ v' w', Own w' base v' (l ++ p.data.toList) → BK base w0 w' → wpList Tryz.prog ops Q rest (a.put o.dst v') w') : wpList Tryz.prog ops Q (o :: rest) a w0 := by
  obtain ⟨i0, hi, hz0, hz1, hz2⟩ := info_parts Tz.info5
  refine Lib.wpList_append_own_string _ hgd s x 31 9 ho base 5 i0 Tryz.underlying31 Tryz.underlying9 hi hz0 hz1 hz2 _ _ _ hs hown p hx (by unfold maxLen; omega) (by omega) hbase ?_
  intro v' w' hown' hg _
  refine h v' w' ?_ (BK.grown hown hg hbase)
  show w'.ownsRow base 5 1 v' (l ++ p.data.toList).length (bytesV (l ++ p.data.toList))
  rw [bytesV_append, List.length_append]; exact hown'

def lay1 : ByteArray := ⟨#[45, 48, 49, 45, 48, 50, 84, 49, 53, 58, 48, 52, 58, 48, 53, 46, 48, 48, 48, 90, 48, 55, 48, 48]⟩
def lay2 : ByteArray := ⟨#[45, 48, 50, 84, 49, 53, 58, 48, 52, 58, 48, 53, 46, 48, 48, 48, 90, 48, 55, 48, 48]⟩
def lay3 : ByteArray := ⟨#[84, 49, 53, 58, 48, 52, 58, 48, 53, 46, 48, 48, 48, 90, 48, 55, 48, 48]⟩
def lay4 : ByteArray := ⟨#[58, 48, 52, 58, 48, 53, 46, 48, 48, 48, 90, 48, 55, 48, 48]⟩
def lay5 : ByteArray := ⟨#[58, 48, 53, 46, 48, 48, 48, 90, 48, 55, 48, 48]⟩
def lay6 : ByteArray := ⟨#[46, 48, 48, 48, 90, 48, 55, 48, 48]⟩
def lay7 : ByteArray := ⟨#[90, 48, 55, 48, 48]⟩

theorem ck1 (w : World) : Calls Tryz.prog 225 #[.string layIso] w fun e w' => e = .returned (.tuple #[.string ⟨#[]⟩, .int .i64 275, .string lay1]) ∧ ∃ n, w' = w.drewN n := by
  have := nsA layIso (by decide +kernel) (by decide +kernel) (fun _ => rfl) (by decide +kernel) w
  rwa [show layIso.extract 4 layIso.size = lay1 by decide +kernel] at this
theorem ck2 (w : World) (h : StdT w) : Calls Tryz.prog 225 #[.string lay1] w fun e w' => e = .returned (.tuple #[.string ⟨#[45]⟩, .int .i64 260, .string lay2]) ∧ ∃ n, w' = w.drewN n := by
  obtain ⟨cs, hb, h0, h1, h3, h4⟩ := h
  have := nsBm lay1 (by decide +kernel) (by decide +kernel) (fun _ => rfl) (fun _ => rfl) 49 (by omega) (by omega) (fun _ => rfl) (by decide +kernel) (by decide +kernel) (by decide +kernel) (by decide +kernel) (by decide +kernel) 260 w ((hb.cell 0).trans h0)
  rwa [show lay1.extract 3 lay1.size = lay2 by decide +kernel, show lay1.extract 0 1 = ⟨#[45]⟩ by decide +kernel] at this
theorem ck3 (w : World) (h : StdT w) : Calls Tryz.prog 225 #[.string lay2] w fun e w' => e = .returned (.tuple #[.string ⟨#[45]⟩, .int .i64 265, .string lay3]) ∧ ∃ n, w' = w.drewN n := by
  obtain ⟨cs, hb, h0, h1, h3, h4⟩ := h
  have := nsBm lay2 (by decide +kernel) (by decide +kernel) (fun _ => rfl) (fun _ => rfl) 50 (by omega) (by omega) (fun _ => rfl) (by decide +kernel) (by decide +kernel) (by decide +kernel) (by decide +kernel) (by decide +kernel) 265 w ((hb.cell 1).trans h1)
  rwa [show lay2.extract 3 lay2.size = lay3 by decide +kernel, show lay2.extract 0 1 = ⟨#[45]⟩ by decide +kernel] at this
theorem ck4 (w : World) : Calls Tryz.prog 225 #[.string lay3] w fun e w' => e = .returned (.tuple #[.string ⟨#[84]⟩, .int .i64 1036, .string lay4]) ∧ ∃ n, w' = w.drewN n := by
  have := nsT lay3 (by decide +kernel) (by decide +kernel) (fun _ => rfl) (fun _ => rfl) (fun _ => rfl) w
  rwa [show lay3.extract 3 lay3.size = lay4 by decide +kernel, show lay3.extract 0 1 = ⟨#[84]⟩ by decide +kernel] at this
theorem ck5 (w : World) (h : StdT w) : Calls Tryz.prog 225 #[.string lay4] w fun e w' => e = .returned (.tuple #[.string ⟨#[58]⟩, .int .i64 1040, .string lay5]) ∧ ∃ n, w' = w.drewN n := by
  obtain ⟨cs, hb, h0, h1, h3, h4⟩ := h
  have := nsBc lay4 (by decide +kernel) (by decide +kernel) (fun _ => rfl) (fun _ => rfl) 52 (by omega) (by omega) (fun _ => rfl) 1040 w ((hb.cell 3).trans h3)
  rwa [show lay4.extract 3 lay4.size = lay5 by decide +kernel, show lay4.extract 0 1 = ⟨#[58]⟩ by decide +kernel] at this
theorem ck6 (w : World) (h : StdT w) : Calls Tryz.prog 225 #[.string lay5] w fun e w' => e = .returned (.tuple #[.string ⟨#[58]⟩, .int .i64 1042, .string lay6]) ∧ ∃ n, w' = w.drewN n := by
  obtain ⟨cs, hb, h0, h1, h3, h4⟩ := h
  have := nsBc lay5 (by decide +kernel) (by decide +kernel) (fun _ => rfl) (fun _ => rfl) 53 (by omega) (by omega) (fun _ => rfl) 1042 w ((hb.cell 4).trans h4)
  rwa [show lay5.extract 3 lay5.size = lay6 by decide +kernel, show lay5.extract 0 1 = ⟨#[58]⟩ by decide +kernel] at this
theorem ck7 (w : World) : Calls Tryz.prog 225 #[.string lay6] w fun e w' => e = .returned (.tuple #[.string ⟨#[]⟩, .int .i64 196642, .string lay7]) ∧ ∃ n, w' = w.drewN n := by
  have := nsD lay6 (by decide +kernel) (by decide +kernel) (fun _ => rfl) (fun _ => rfl) (fun _ => rfl) (fun _ => rfl) (fun _ => rfl) w
  rwa [show lay6.extract 4 lay6.size = lay7 by decide +kernel] at this
theorem ck8 (w : World) : Calls Tryz.prog 225 #[.string lay7] w fun e w' => e = .returned (.tuple #[.string ⟨#[]⟩, .int .i64 24, .string ⟨#[]⟩]) ∧ ∃ n, w' = w.drewN n :=
  nsZ lay7 (by decide +kernel) (fun _ => rfl) (by decide +kernel) w

set_option maxHeartbeats 8000000 in
set_option maxRecDepth 100000 in
theorem isoF_any (base : Nat) (v : Value) (l : List UInt8) (N a : Int) (zone : ByteArray) (h0 : -9223372036854775808 ≤ N) (h1 : N ≤ 9223372036854775807) (ha0 : -86400 < a) (ha1 : a < 86400) (hm60 : a % 60 = 0)
    (w : World) (hS : StdT w) (hown : Own w base v l) (hbase : base ≤ w.heap.size) (hl : l.length ≤ 1000) :
    Calls Tryz.prog 215 #[.agg (tmA N zone a), v, .string layIso] w fun e w' => ∃ v', e = .returned v' ∧ Own w' base v' (l ++ rfcB N a (milB (nN N)) []) ∧ BK base w w' := by
  obtain ⟨⟨e1, e2, e3, e4, e5, e6, e7⟩, b1, b2, b3, b4, b5, b6, b7, b8, b9, b10⟩ := mom_nat N a h0 h1 ha0 ha1
  have hdn := dn_bd N a h0 h1 ha0 ha1
  have hdate := date_any (dn N a) (by omega) (by omega)
  rw [e1, e2, e3] at hdate
  have hlocd := locabs_any (N / 1000000000 + 62135596800) (N % 1000000000) a zone
  have hx : N / 1000000000 + 62135596800 - 62135596800 = N / 1000000000 := by omega
  rw [hx] at hlocd
  have habs := abs_days N a
  have hclk := clock_any (N / 1000000000 + a + 9223372028741760000) (by omega) (by omega)
  have q1 : (N / 1000000000 + a + 9223372028741760000) % 86400 / 3600 = hN N a := by rw [← e4]; omega
  have q2 : (N / 1000000000 + a + 9223372028741760000) % 86400 / 60 % 60 = miN N a := by rw [← e5]; omega
  have q3 : (N / 1000000000 + a + 9223372028741760000) % 60 = sN N a := by rw [← e6]; omega
  rw [q1, q2, q3] at hclk
  have hdays := days_any (N / 1000000000 + a + 9223372028741760000) (by omega) (by omega)
  rw [habs] at hdays
  have hnano := nano_any (N / 1000000000 + 62135596800) (N % 1000000000) a zone
  rw [e7] at hnano hlocd
  have HDATE := Lib.hid hdate
  have HLOC := Lib.hid hlocd
  have HCLK := Lib.hid hclk
  have HDAYS := Lib.hid hdays
  have HNANO := Lib.hid hnano
  have hS0 : -9223372037 ≤ N / 1000000000 := by omega
  have hS1 : N / 1000000000 ≤ 9223372036 := by omega
  unfold tmA
  rw [e7]
  generalize N / 1000000000 = S at *
  clear e1 e2 e3 e4 e5 e6 e7 hdate hlocd hx habs hclk q1 q2 q3 hdays hnano hdn
  have HO := Lib.hid hown
  have HS := Lib.hid hS
  clear hown hS
  go_enter Tryz.func215, Tryz.ntmps215
  go_wp2_with fail
  refine (HLOC.out _ (by omega) (by omega) ha0 ha1).mono ?_
  rintro e w1 ⟨rfl, hb1⟩
  have hB : Blk (w.alloc (.cells #[.int .i64 (S + 62135596800), .int .i32 (nN N), .string zone, .int .i64 a] 112)) w.heap.size 112 #[.int .i64 (S + 62135596800), .int .i32 (nN N), .string zone, .int .i64 a] := Blk.new _ _ _
  have HBX := Lib.hid (hB.below hb1 (by simp))
  have HBK := Lib.hid ((BK.alloc base w (.cells #[.int .i64 (S + 62135596800), .int .i32 (nN N), .string zone, .int .i64 a] 112) hbase).trans (BK.of_below hb1 (by simp; omega)))
  have HO1 := Lib.hid (ownsRow_below (ownsRow_below HO.out ((Below.refl _ _).alloc (Nat.le_refl _) (.cells #[.int .i64 (S + 62135596800), .int .i32 (nN N), .string zone, .int .i64 a] 112))) hb1)
  clear hb1 hB HO
  have hs := HBK.out.size
  go_wp2_with fail
  refine (HDAYS.out _).mono ?_
  rintro e w' ⟨rfl, rfl⟩
  have hbw : base ≤ w'.heap.size := by omega
  have HST := Lib.hid (HS.out.bk HBK.out)
  have HC10 := Lib.hid (BK.refl base w')
  have hs10 := HC10.out.size
  have HO10 : Hid (Own w' base v l) := HO1
  clear HO1 hs HS
  go_wp2_with fail
  have f275_256 : bits .and .i64 275 256 = 256 := by decide +kernel
  have f275_512 : bits .and .i64 275 512 = 0 := by decide +kernel
  have f275_1024 : bits .and .i64 275 1024 = 0 := by decide +kernel
  have f275_65535 : bits .and .i64 275 65535 = 275 := by decide +kernel
  have f260_256 : bits .and .i64 260 256 = 256 := by decide +kernel
  have f260_512 : bits .and .i64 260 512 = 0 := by decide +kernel
  have f260_1024 : bits .and .i64 260 1024 = 0 := by decide +kernel
  have f260_65535 : bits .and .i64 260 65535 = 260 := by decide +kernel
  have f265_256 : bits .and .i64 265 256 = 256 := by decide +kernel
  have f265_512 : bits .and .i64 265 512 = 0 := by decide +kernel
  have f265_1024 : bits .and .i64 265 1024 = 0 := by decide +kernel
  have f265_65535 : bits .and .i64 265 65535 = 265 := by decide +kernel
  have f1036_256 : bits .and .i64 1036 256 = 0 := by decide +kernel
  have f1036_512 : bits .and .i64 1036 512 = 0 := by decide +kernel
  have f1036_1024 : bits .and .i64 1036 1024 = 1024 := by decide +kernel
  have f1036_65535 : bits .and .i64 1036 65535 = 1036 := by decide +kernel
  have f1040_256 : bits .and .i64 1040 256 = 0 := by decide +kernel
  have f1040_512 : bits .and .i64 1040 512 = 0 := by decide +kernel
  have f1040_1024 : bits .and .i64 1040 1024 = 1024 := by decide +kernel
  have f1040_65535 : bits .and .i64 1040 65535 = 1040 := by decide +kernel
  have f1042_256 : bits .and .i64 1042 256 = 0 := by decide +kernel
  have f1042_512 : bits .and .i64 1042 512 = 0 := by decide +kernel
  have f1042_1024 : bits .and .i64 1042 1024 = 1024 := by decide +kernel
  have f1042_65535 : bits .and .i64 1042 65535 = 1042 := by decide +kernel
  have f196642_256 : bits .and .i64 196642 256 = 0 := by decide +kernel
  have f196642_512 : bits .and .i64 196642 512 = 0 := by decide +kernel
  have f196642_1024 : bits .and .i64 196642 1024 = 0 := by decide +kernel
  have f196642_65535 : bits .and .i64 196642 65535 = 34 := by decide +kernel
  have f24_256 : bits .and .i64 24 256 = 0 := by decide +kernel
  have f24_512 : bits .and .i64 24 512 = 0 := by decide +kernel
  have f24_1024 : bits .and .i64 24 1024 = 0 := by decide +kernel
  have f24_65535 : bits .and .i64 24 65535 = 24 := by decide +kernel
  have le1 : (!lay1.toList.isEmpty) = true := by decide +kernel
  have le2 : (!lay2.toList.isEmpty) = true := by decide +kernel
  have le3 : (!lay3.toList.isEmpty) = true := by decide +kernel
  have le4 : (!lay4.toList.isEmpty) = true := by decide +kernel
  have le5 : (!lay5.toList.isEmpty) = true := by decide +kernel
  have le6 : (!lay6.toList.isEmpty) = true := by decide +kernel
  have le7 : (!lay7.toList.isEmpty) = true := by decide +kernel
  refine wp_loop_rounds 9 ?_
  rw [rounds_succ]
  go_wp2_with fail
  refine (ck1 _).mono ?_
  rintro e w11 ⟨rfl, nn, hw11⟩
  have HO11 : Hid (Own w11 base v (l)) := by rw [hw11]; exact HO10
  have HC11 : Hid (BK base w' w11) := Lib.hid (HC10.out.trans (hw11 ▸ BK.drewN base _ nn))
  have hs11 := HC11.out.size
  clear HO10 HC10 hs10 hw11
  go_wp2_with fail
  refine (HDATE.out _).mono ?_
  rintro e wd ⟨rfl, rfl⟩
  go_wp2_with fail
  refine (ai4 base _ _ (yN N a) (by omega) _ HO11.out (by omega) (by first | omega | (simp; omega) | (simp [digs_len]; omega))).mono ?_
  rintro e w12 ⟨v12, rfl, ho, hb⟩
  have HO12 := Lib.hid ho
  have HC12 := Lib.hid (HC11.out.trans hb)
  have hs12 := HC12.out.size
  clear ho hb HO11 HC11 hs11
  go_wp2_with fail
  rw [rounds_succ]
  go_wp2_with fail
  refine (ck2 _ (HST.out.bk HC12.out)).mono ?_
  rintro e w13 ⟨rfl, nn, hw13⟩
  have HO13 : Hid (Own w13 base v12 (l ++ digs 4 (yN N a))) := by rw [hw13]; exact HO12
  have HC13 : Hid (BK base w' w13) := Lib.hid (HC12.out.trans (hw13 ▸ BK.drewN base _ nn))
  have hs13 := HC13.out.size
  clear HO12 HC12 hs12 hw13
  go_wp2_with (at_builtin; refine wpList_appS rfl _ _ rfl base _ _ rfl HO13.out ⟨#[45]⟩ rfl (by have e1 : (⟨#[45]⟩ : ByteArray).size = 1 := rfl; have e2 : (⟨#[84]⟩ : ByteArray).size = 1 := rfl; have e3 : (⟨#[58]⟩ : ByteArray).size = 1 := rfl; first | omega | (simp; omega) | (simp [digs_len]; omega)) (by omega) ?_; intro v14 w14 ho hb; have HO14 := Lib.hid ho; have HC14 := Lib.hid (HC13.out.trans hb); have hs14 := HC14.out.size; clear ho hb HO13 HC13 hs13)
  refine (ai2 base _ _ (moN N a) (by omega) _ HO14.out (by omega) (by first | omega | (simp; omega) | (simp [digs_len]; omega))).mono ?_
  rintro e w15 ⟨v15, rfl, ho, hb⟩
  have HO15 := Lib.hid ho
  have HC15 := Lib.hid (HC14.out.trans hb)
  have hs15 := HC15.out.size
  clear ho hb HO14 HC14 hs14
  go_wp2_with fail
  rw [rounds_succ]
  go_wp2_with fail
  refine (ck3 _ (HST.out.bk HC15.out)).mono ?_
  rintro e w16 ⟨rfl, nn, hw16⟩
  have HO16 : Hid (Own w16 base v15 (l ++ digs 4 (yN N a) ++ (⟨#[45]⟩ : ByteArray).data.toList ++ digs 2 (moN N a))) := by rw [hw16]; exact HO15
  have HC16 : Hid (BK base w' w16) := Lib.hid (HC15.out.trans (hw16 ▸ BK.drewN base _ nn))
  have hs16 := HC16.out.size
  clear HO15 HC15 hs15 hw16
  go_wp2_with (at_builtin; refine wpList_appS rfl _ _ rfl base _ _ rfl HO16.out ⟨#[45]⟩ rfl (by have e1 : (⟨#[45]⟩ : ByteArray).size = 1 := rfl; have e2 : (⟨#[84]⟩ : ByteArray).size = 1 := rfl; have e3 : (⟨#[58]⟩ : ByteArray).size = 1 := rfl; first | omega | (simp; omega) | (simp [digs_len]; omega)) (by omega) ?_; intro v17 w17 ho hb; have HO17 := Lib.hid ho; have HC17 := Lib.hid (HC16.out.trans hb); have hs17 := HC17.out.size; clear ho hb HO16 HC16 hs16)
  refine (ai2 base _ _ (daN N a) (by omega) _ HO17.out (by omega) (by first | omega | (simp; omega) | (simp [digs_len]; omega))).mono ?_
  rintro e w18 ⟨v18, rfl, ho, hb⟩
  have HO18 := Lib.hid ho
  have HC18 := Lib.hid (HC17.out.trans hb)
  have hs18 := HC18.out.size
  clear ho hb HO17 HC17 hs17
  go_wp2_with fail
  rw [rounds_succ]
  go_wp2_with fail
  refine (ck4 _).mono ?_
  rintro e w19 ⟨rfl, nn, hw19⟩
  have HO19 : Hid (Own w19 base v18 (l ++ digs 4 (yN N a) ++ (⟨#[45]⟩ : ByteArray).data.toList ++ digs 2 (moN N a) ++ (⟨#[45]⟩ : ByteArray).data.toList ++ digs 2 (daN N a))) := by rw [hw19]; exact HO18
  have HC19 : Hid (BK base w' w19) := Lib.hid (HC18.out.trans (hw19 ▸ BK.drewN base _ nn))
  have hs19 := HC19.out.size
  clear HO18 HC18 hs18 hw19
  go_wp2_with (at_builtin; refine wpList_appS rfl _ _ rfl base _ _ rfl HO19.out ⟨#[84]⟩ rfl (by have e1 : (⟨#[45]⟩ : ByteArray).size = 1 := rfl; have e2 : (⟨#[84]⟩ : ByteArray).size = 1 := rfl; have e3 : (⟨#[58]⟩ : ByteArray).size = 1 := rfl; first | omega | (simp; omega) | (simp [digs_len]; omega)) (by omega) ?_; intro v20 w20 ho hb; have HO20 := Lib.hid ho; have HC20 := Lib.hid (HC19.out.trans hb); have hs20 := HC20.out.size; clear ho hb HO19 HC19 hs19)
  refine (HCLK.out _).mono ?_
  rintro e wc ⟨rfl, rfl⟩
  go_wp2_with fail
  refine (ai2 base _ _ (hN N a) (by omega) _ HO20.out (by omega) (by first | omega | (simp; omega) | (simp [digs_len]; omega))).mono ?_
  rintro e w21 ⟨v21, rfl, ho, hb⟩
  have HO21 := Lib.hid ho
  have HC21 := Lib.hid (HC20.out.trans hb)
  have hs21 := HC21.out.size
  clear ho hb HO20 HC20 hs20
  go_wp2_with fail
  rw [rounds_succ]
  go_wp2_with fail
  refine (ck5 _ (HST.out.bk HC21.out)).mono ?_
  rintro e w22 ⟨rfl, nn, hw22⟩
  have HO22 : Hid (Own w22 base v21 (l ++ digs 4 (yN N a) ++ (⟨#[45]⟩ : ByteArray).data.toList ++ digs 2 (moN N a) ++ (⟨#[45]⟩ : ByteArray).data.toList ++ digs 2 (daN N a) ++ (⟨#[84]⟩ : ByteArray).data.toList ++ digs 2 (hN N a))) := by rw [hw22]; exact HO21
  have HC22 : Hid (BK base w' w22) := Lib.hid (HC21.out.trans (hw22 ▸ BK.drewN base _ nn))
  have hs22 := HC22.out.size
  clear HO21 HC21 hs21 hw22
  go_wp2_with (at_builtin; refine wpList_appS rfl _ _ rfl base _ _ rfl HO22.out ⟨#[58]⟩ rfl (by have e1 : (⟨#[45]⟩ : ByteArray).size = 1 := rfl; have e2 : (⟨#[84]⟩ : ByteArray).size = 1 := rfl; have e3 : (⟨#[58]⟩ : ByteArray).size = 1 := rfl; first | omega | (simp; omega) | (simp [digs_len]; omega)) (by omega) ?_; intro v23 w23 ho hb; have HO23 := Lib.hid ho; have HC23 := Lib.hid (HC22.out.trans hb); have hs23 := HC23.out.size; clear ho hb HO22 HC22 hs22)
  refine (ai2 base _ _ (miN N a) (by omega) _ HO23.out (by omega) (by first | omega | (simp; omega) | (simp [digs_len]; omega))).mono ?_
  rintro e w24 ⟨v24, rfl, ho, hb⟩
  have HO24 := Lib.hid ho
  have HC24 := Lib.hid (HC23.out.trans hb)
  have hs24 := HC24.out.size
  clear ho hb HO23 HC23 hs23
  go_wp2_with fail
  rw [rounds_succ]
  go_wp2_with fail
  refine (ck6 _ (HST.out.bk HC24.out)).mono ?_
  rintro e w25 ⟨rfl, nn, hw25⟩
  have HO25 : Hid (Own w25 base v24 (l ++ digs 4 (yN N a) ++ (⟨#[45]⟩ : ByteArray).data.toList ++ digs 2 (moN N a) ++ (⟨#[45]⟩ : ByteArray).data.toList ++ digs 2 (daN N a) ++ (⟨#[84]⟩ : ByteArray).data.toList ++ digs 2 (hN N a) ++ (⟨#[58]⟩ : ByteArray).data.toList ++ digs 2 (miN N a))) := by rw [hw25]; exact HO24
  have HC25 : Hid (BK base w' w25) := Lib.hid (HC24.out.trans (hw25 ▸ BK.drewN base _ nn))
  have hs25 := HC25.out.size
  clear HO24 HC24 hs24 hw25
  go_wp2_with (at_builtin; refine wpList_appS rfl _ _ rfl base _ _ rfl HO25.out ⟨#[58]⟩ rfl (by have e1 : (⟨#[45]⟩ : ByteArray).size = 1 := rfl; have e2 : (⟨#[84]⟩ : ByteArray).size = 1 := rfl; have e3 : (⟨#[58]⟩ : ByteArray).size = 1 := rfl; first | omega | (simp; omega) | (simp [digs_len]; omega)) (by omega) ?_; intro v26 w26 ho hb; have HO26 := Lib.hid ho; have HC26 := Lib.hid (HC25.out.trans hb); have hs26 := HC26.out.size; clear ho hb HO25 HC25 hs25)
  refine (ai2 base _ _ (sN N a) (by omega) _ HO26.out (by omega) (by first | omega | (simp; omega) | (simp [digs_len]; omega))).mono ?_
  rintro e w27 ⟨v27, rfl, ho, hb⟩
  have HO27 := Lib.hid ho
  have HC27 := Lib.hid (HC26.out.trans hb)
  have hs27 := HC27.out.size
  clear ho hb HO26 HC26 hs26
  have ecl : l ++ digs 4 (yN N a) ++ (⟨#[45]⟩ : ByteArray).data.toList ++ digs 2 (moN N a) ++ (⟨#[45]⟩ : ByteArray).data.toList ++ digs 2 (daN N a) ++ (⟨#[84]⟩ : ByteArray).data.toList ++ digs 2 (hN N a) ++ (⟨#[58]⟩ : ByteArray).data.toList ++ digs 2 (miN N a) ++ (⟨#[58]⟩ : ByteArray).data.toList ++ digs 2 (sN N a) = l ++ clkB N a := by simp [clkB, clockB]
  rw [ecl] at HO27
  have hcl := clkB_len N a
  have hcl2 : (l ++ clkB N a).length ≤ 1100 := by simp [hcl]; omega
  clear ecl hcl HLOC HDATE HCLK HDAYS
  obtain ⟨LL, hLL⟩ : ∃ LL, LL = l ++ clkB N a := ⟨_, rfl⟩
  rw [← hLL] at HO27 hcl2
  have HLL := Lib.hid hLL
  clear hLL
  go_wp2_with fail
  rw [rounds_succ]
  go_wp2_with fail
  refine (ck7 _).mono ?_
  rintro e w28 ⟨rfl, nn, hw28⟩
  have HO28 : Hid (Own w28 base v27 (LL)) := by rw [hw28]; exact HO27
  have HC28 : Hid (BK base w' w28) := Lib.hid (HC27.out.trans (hw28 ▸ BK.drewN base _ nn))
  have hs28 := HC28.out.size
  clear HO27 HC27 hs27 hw28
  have HB5 := Lib.hid (HC28.out.other _ 112 _ (by decide) HBX.out)
  go_wp2_with (first | (refine wpList_load_row (by rfl) 112 (.tmp 3) rfl w.heap.size rfl 112 _ (0, 0) _ HB5.out Tryz.underlying112 rfl (by kernel_rfl) ?_))
  refine (HNANO.out _ (by omega) (by omega)).mono ?_
  rintro e w30 ⟨rfl, hb30⟩
  have HC30 := Lib.hid (HC28.out.trans (BK.of_below hb30 (by omega)))
  have hs30 := HC30.out.size
  have HO30 := Lib.hid (ownsRow_below HO28.out hb30)
  clear hb30 HB5 HC28 HO28 hs28
  go_wp2_with fail
  refine (nanoF base _ _ (nN N) b10 _ HO30.out (by omega) (by omega)).mono ?_
  rintro e w40 ⟨v40, rfl, ho, hb⟩
  obtain ⟨LLF, hLF⟩ : ∃ LLF, LLF = LL ++ 46 :: digs 3 (nN N / 1000000) := ⟨_, rfl⟩
  rw [← hLF] at ho
  have hcl3 : LLF.length ≤ 1200 := by rw [hLF]; simp [digs_len]; omega
  have HLF := Lib.hid (show LLF = l ++ clkB N a ++ milB (nN N) by rw [hLF, HLL.out]; rfl)
  have HO40 := Lib.hid ho
  have HC40 := Lib.hid (HC30.out.trans hb)
  have hs40 := HC40.out.size
  clear hLF HLL HO30 HC30 hs30 ho hb hcl2 HNANO
  go_wp2_with fail
  rw [rounds_succ]
  go_wp2_with fail
  refine (ck8 _).mono ?_
  rintro e w41 ⟨rfl, nn, hw41⟩
  have HO41 : Hid (Own w41 base v40 (LLF)) := by rw [hw41]; exact HO40
  have HC41 : Hid (BK base w' w41) := Lib.hid (HC40.out.trans (hw41 ▸ BK.drewN base _ nn))
  have hs41 := HC41.out.size
  clear HO40 HC40 hs40 hw41
  rcases (show a = 0 ∨ a < 0 ∨ 0 < a by omega) with ha | ha | ha
  · have HZ := Lib.hid (show zoneB a [] = [90] by unfold zoneB; rw [if_pos ha])
    have hz0 : (a == 0) = true := by simp [ha]
    clear ha
    go_wp2_with (at_builtin; refine wpList_app rfl _ _ rfl base _ _ rfl HO41.out _ [90] rfl 1 rfl rfl (by first | omega | (simp; omega) | (simp [digs_len]; omega)) (by omega) ?_; intro v42 w42 ho hb; have HO42 := Lib.hid ho; have HC42 := Lib.hid (HC41.out.trans hb); have hs42 := HC42.out.size; clear ho hb HO41 HC41 hs41)
    rw [rounds_succ]
    go_wp2_with fail
    have h7 : LLF ++ [90] = l ++ rfcB N a (milB (nN N)) [] := by rw [HLF.out, rfcB, HZ.out]; simp
    rw [h7] at HO42
    clear h7
    go_ret
    refine ⟨_, rfl, ?_, HBK.out.trans HC42.out⟩
    exact HO42.out
  · obtain ⟨n, hn⟩ : ∃ n : Nat, a = -(n : Int) := ⟨a.natAbs, by omega⟩
    have HZ := Lib.hid (show zoneB a [] = 45 :: (digs 2 (n / 3600) ++ ([] ++ digs 2 (n / 60 % 60))) by
      unfold zoneB; rw [if_neg (by omega), if_pos ha, hn, Int.natAbs_neg, Int.natAbs_natCast])
    have hz0 : (a == 0) = false := by simp; omega
    have hq : a.tdiv 60 = -((n / 60 : Nat) : Int) := by rw [hn, Int.neg_tdiv, Int.tdiv_eq_ediv_of_nonneg (by omega)]; omega
    have hq2 : (-((n / 60 : Nat) : Int)) < 0 := by omega
    have hn2 : n < 86400 := by omega
    clear hn ha
    go_wp2_with (at_builtin; refine wpList_app rfl _ _ rfl base _ _ rfl HO41.out _ [45] rfl 1 rfl rfl (by first | omega | (simp; omega) | (simp [digs_len]; omega)) (by omega) ?_; intro v42 w42 ho hb; have HO42 := Lib.hid ho; have HC42 := Lib.hid (HC41.out.trans hb); have hs42 := HC42.out.size; clear ho hb HO41 HC41 hs41)
    refine (ai2I base _ _ _ (n / 3600) (by omega) (by omega) _ HO42.out (by omega) (by first | omega | (simp; omega) | (simp [digs_len]; omega))).mono ?_
    rintro e w43 ⟨v43, rfl, ho, hb⟩
    have HO43 := Lib.hid ho
    have HC43 := Lib.hid (HC42.out.trans hb)
    have hs43 := HC43.out.size
    clear ho hb HO42 HC42 hs42
    go_wp2_with fail
    refine (ai2I base _ _ _ (n / 60 % 60) (by omega) (by omega) _ HO43.out (by omega) (by first | omega | (simp; omega) | (simp [digs_len]; omega))).mono ?_
    rintro e w44 ⟨v44, rfl, ho, hb⟩
    have HO44 := Lib.hid ho
    have HC44 := Lib.hid (HC43.out.trans hb)
    have hs44 := HC44.out.size
    clear ho hb HO43 HC43 hs43
    go_wp2_with fail
    rw [rounds_succ]
    go_wp2_with fail
    have h7 : LLF ++ [45] ++ digs 2 (n / 3600) ++ digs 2 (n / 60 % 60) = l ++ rfcB N a (milB (nN N)) [] := by rw [HLF.out, rfcB, HZ.out]; simp
    rw [h7] at HO44
    clear h7
    go_ret
    refine ⟨_, rfl, ?_, HBK.out.trans HC44.out⟩
    exact HO44.out
  · obtain ⟨n, hn⟩ : ∃ n : Nat, a = (n : Int) := ⟨a.natAbs, by omega⟩
    have HZ := Lib.hid (show zoneB a [] = 43 :: (digs 2 (n / 3600) ++ ([] ++ digs 2 (n / 60 % 60))) by
      unfold zoneB; rw [if_neg (by omega), if_neg (by omega), hn, Int.natAbs_natCast])
    have hz0 : (a == 0) = false := by simp; omega
    have hq : a.tdiv 60 = ((n / 60 : Nat) : Int) := by rw [hn, Int.tdiv_eq_ediv_of_nonneg (by omega)]; omega
    have hq1 : a / 60 = ((n / 60 : Nat) : Int) := by omega
    have hq2 : (0 : Int) ≤ ((n / 60 : Nat) : Int) := by omega
    have hn2 : n < 86400 := by omega
    clear hn
    go_wp2_with (at_builtin; refine wpList_app rfl _ _ rfl base _ _ rfl HO41.out _ [43] rfl 1 rfl rfl (by first | omega | (simp; omega) | (simp [digs_len]; omega)) (by omega) ?_; intro v42 w42 ho hb; have HO42 := Lib.hid ho; have HC42 := Lib.hid (HC41.out.trans hb); have hs42 := HC42.out.size; clear ho hb HO41 HC41 hs41)
    refine (ai2I base _ _ _ (n / 3600) (by omega) (by omega) _ HO42.out (by omega) (by first | omega | (simp; omega) | (simp [digs_len]; omega))).mono ?_
    rintro e w43 ⟨v43, rfl, ho, hb⟩
    have HO43 := Lib.hid ho
    have HC43 := Lib.hid (HC42.out.trans hb)
    have hs43 := HC43.out.size
    clear ho hb HO42 HC42 hs42
    go_wp2_with fail
    refine (ai2I base _ _ _ (n / 60 % 60) (by omega) (by omega) _ HO43.out (by omega) (by first | omega | (simp; omega) | (simp [digs_len]; omega))).mono ?_
    rintro e w44 ⟨v44, rfl, ho, hb⟩
    have HO44 := Lib.hid ho
    have HC44 := Lib.hid (HC43.out.trans hb)
    have hs44 := HC44.out.size
    clear ho hb HO43 HC43 hs43
    go_wp2_with fail
    rw [rounds_succ]
    go_wp2_with fail
    have h7 : LLF ++ [43] ++ digs 2 (n / 3600) ++ digs 2 (n / 60 % 60) = l ++ rfcB N a (milB (nN N)) [] := by rw [HLF.out, rfcB, HZ.out]; simp
    rw [h7] at HO44
    clear h7
    go_ret
    refine ⟨_, rfl, ?_, HBK.out.trans HC44.out⟩
    exact HO44.out
end Go.Proofs.Zap
