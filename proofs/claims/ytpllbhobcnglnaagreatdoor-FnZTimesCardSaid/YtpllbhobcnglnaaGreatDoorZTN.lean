/- a text of the claims over the seat; its order and aim: NOTES.md -/
import Derived.Test.YtpllbhobcnglnaaGreatDoorZTK
import Derived.Test.YtpllbhobcnglnaaGreatDoorZC1
import Derived.Lib.SmallJoins
import Derived.ChangeArms
namespace Go.Proofs.YtpllbhobcnglnaaGreatDoor
open Go Go.ChangeShapes Go.WideShapes Go.ChangeAt Go.RowKit Go.Shelf Go.Lib Go.Proofs.Zap Go.Joins Go.Deep

def laidZ : List (String × DataW Unit) := Rows.fnZTimesRow.laid

set_option maxRecDepth 100000 in
theorem std_eq : (Rows.laid_given_example_pub_chandler_pub_ztime_std0x : DataW Unit) = tabData .i64 [260, 265, 1038, 1040, 1042, 276] := by kernel_rfl

set_option maxRecDepth 100000 in
theorem tabsZ_of_laid {W : World} (hL : laidMet Tryz.prog laidZ W) : Tabs W := by
  have h2 : VarReads Tryz.prog W "unicode/utf8.first" firstData := Pinned.utf8First_eq ▸ (Lib.laidMet.reads hL (by simp [laidZ, Rows.fnZTimesRow, Rows.laid_unicode_utf8_first]))
  have h3 : VarReads Tryz.prog W "unicode/utf8.acceptRanges" acceptData := acc_eq ▸ (Lib.laidMet.reads hL (by simp [laidZ, Rows.fnZTimesRow]))
  have h1 : VarReads Tryz.prog W "internal/strconv.uint64pow10" (tabData .u64 Lib.pow10Tab) := pow_eq ▸ (Lib.laidMet.reads hL (by simp [laidZ, Rows.fnZTimesRow]))
  exact ⟨utf8Tabs_of_reads Tryz.lays260 u8x h2 h3, tabIs_of_reads (g := 1) (t := 300) (e := 47) (by kernel_rfl) (by kernel_rfl) Tryz.underlying300 Tryz.underlying47 (by kernel_rfl) (by kernel_rfl) h1⟩

theorem row7 : ((begin Tryz.prog (fun _ _ => 0) default).world.heap[7]?.bind Obj.row?).map (·.2) = some 399 := by kernel_rfl
theorem globals7 : 7 < Tryz.prog.globals.size := by
  have : decide (7 < Tryz.prog.globals.size) = true := by kernel_rfl
  exact of_decide_eq_true this
theorem named7 : Tryz.prog.globalNamed "given.example/pub-chandler/pub/ztime.std0x" = some 7 := by kernel_rfl

set_option maxRecDepth 100000 in
theorem stdT_of_laid {W : World} (hL : laidMet Tryz.prog laidZ W) (hS : W.ShapedOpen Tryz.prog) : StdT W := by
  have h1 : VarReads Tryz.prog W "given.example/pub-chandler/pub/ztime.std0x" (tabData .i64 [260, 265, 1038, 1040, 1042, 276]) := std_eq ▸ (Lib.laidMet.reads hL (by simp [laidZ, Rows.fnZTimesRow]))
  have h2 := tabIs_of_reads (g := 7) (t := 399) (e := 3) (n := 6) named7 (by kernel_rfl) Tryz.underlying399 Tryz.underlying3 (by kernel_rfl) (by kernel_rfl) h1
  obtain ⟨⟨zero, t⟩, hz, ht⟩ := Option.map_eq_some_iff.1 row7
  obtain ⟨cs, hh, _⟩ := hS.1 7 zero t globals7 hz
  simp only at ht
  subst ht
  refine ⟨cs, hh, ?_⟩
  unfold TabIs World.var? at h2
  rw [named7] at h2
  simp only [Option.bind_some, hh] at h2
  injection h2 with h2
  subst h2
  exact ⟨rfl, rfl, rfl, rfl⟩

theorem hone34 : oneCellFields Tryz.prog #[{ name := "Zero", type := 4, offset := 0, embedded := false, tag := "", pkgPath := "", byteOffset := 0 }, { name := "Nanos", type := 2, offset := 1, embedded := false, tag := "", pkgPath := "", byteOffset := 8 }, { name := "Offset", type := 3, offset := 2, embedded := false, tag := "", pkgPath := "", byteOffset := 16 }, { name := "Zone", type := 9, offset := 3, embedded := false, tag := "", pkgPath := "", byteOffset := 24 }] = true := by kernel_rfl
theorem cells34 : Tryz.prog.cellsOf 34 = 4 := by kernel_rfl

set_option maxRecDepth 100000 in
set_option maxHeartbeats 4000000 in
theorem liftedZ (os : Os) (started : os.Started) (H : Type) (enc : TypeId × Value → H) :
    ReturnsInHanded {} Tryz.checked os 6 .any (fun w args => (Rows.fnZTimesSpec.pre enc Tryz.prog Tryz.f6 [] false w args ∧ laidMetH Tryz.prog laidZ w) ∧ sizedMet enc Tryz.prog Tryz.f6 (OpenSpec.ofChange Rows.fnZTimesSpec) false w args)
      (Rows.fnZTimesSpec.post enc Tryz.prog Tryz.f6 false true false false) := by
  refine change_shaped (C := Tryz.checked) (X := fun w _ => laidMetH Tryz.prog laidZ w) (fun _ _ _ hh h => h.of_heap hh) own started (by kernel_rfl) Tryz.func6
    (ChangeSpec.witness_shaped (enc := enc) (C := Tryz.checked) (os := os) (X := fun w _ => laidMetH Tryz.prog laidZ w) false (World.laidAll Tryz.prog os laidZ) #[.agg #[.bool false, .int .i64 0, .int .i64 0, .string ⟨#[]⟩]] 8 (World.laidAll_os _ _ _)
      (World.shaped_of_ZipB (by kernel_rfl) (by kernel_rfl)) (by kernel_rfl) (by kernel_rfl) (by kernel_rfl)
      (by rw [MakeChecks.laidMetH_plain _ _ _ (by kernel_rfl)]; exact laidMet_laidAll _ (by kernel_rfl) (by kernel_rfl))) ?_
  intro W base args ds gs before hval0 hW hsh hL
  have hval : ∀ (j : Nat) t v, Tryz.f6.params[j]? = some t → args[j]? = some v → Value.okWide Tryz.prog W .any base t v := hval0
  have hW' := hW
  obtain ⟨p, q, hA0, hV, rfl, _, _⟩ := hW
  have hA : DataW.TrodAll enc Tryz.prog W 0 (fun _ => true) true Tryz.f6.params.toList args.toList ds p := hA0
  rw [Tryz.params6] at hA hval
  obtain ⟨v0, d0, rfl, rfl, h0⟩ := trodAll_one hA
  obtain ⟨x0, x1, x2, x3, y0, y1, y2, y3, n, rfl, rfl, hp, t0, t1, t2, t3⟩ := open_agg4 Tryz.underlying34 hone34 cells34 (hval 0 34 v0 rfl rfl) h0
  obtain ⟨zero, e0, rfl⟩ := DataW.trod_bool Tryz.underlying4 t0
  obtain ⟨N, e1, rfl, wN⟩ := DataW.trod_int Tryz.underlying2 t1
  obtain ⟨a, e2, rfl, wa⟩ := DataW.trod_int Tryz.underlying3 t2
  obtain ⟨zone, e3, rfl, wz⟩ := DataW.trod_string Tryz.underlying9 t3
  obtain rfl := (List.cons.inj e0).1
  obtain rfl := (List.cons.inj e1).1
  obtain rfl := (List.cons.inj e2).1
  obtain rfl := (List.cons.inj e3).1
  rw [MakeChecks.laidMetH_plain _ _ _ (by kernel_rfl)] at hL
  have hT := tabsZ_of_laid hL
  have hS := stdT_of_laid hL hsh
  obtain ⟨g1, g2, g3, rfl⟩ : ∃ g1 g2 g3, gs = [g1, g2, g3] := by
    have hV2 := hV
    rcases gs with _ | ⟨g1, _ | ⟨g2, _ | ⟨g3, _ | ⟨g4, gr⟩⟩⟩⟩
    · exact hV2.elim
    · obtain ⟨_, _, _, _, _, _, _, _, _, _, hs, _⟩ := hV2; exact hs.elim
    · obtain ⟨_, _, _, _, _, _, _, _, _, _, hs, _⟩ := hV2
      obtain ⟨_, _, _, _, _, _, _, _, _, _, hs, _⟩ := hs; exact hs.elim
    · exact ⟨_, _, _, rfl⟩
    · obtain ⟨_, _, _, _, _, _, _, _, _, _, hs, _⟩ := hV2
      obtain ⟨_, _, _, _, _, _, _, _, _, _, hs, _⟩ := hs
      obtain ⟨_, _, _, _, _, _, _, _, _, _, hs, _⟩ := hs; exact hs.elim
  have bN : -9223372036854775808 ≤ N ∧ N ≤ 9223372036854775807 := by
    have w2 := wN
    simp [Lit.wf, IntKind.min, IntKind.max, IntKind.signed, IntKind.bits] at w2
    exact w2
  refine (times_any zero N a zone wz bN.1 bN.2 W ⟨hT, hS⟩ (shape13 hsh)).mono fun e W' ⟨he, hb⟩ => ?_
  subst he
  refine ⟨_, rfl, _, _, _, [], [], q, hW', trodAll_mk1 (shut_bool Tryz.underlying4 _), trodAll_mk1 ?_, hb.trodVars laidOut (by kernel_rfl) hV, hb.frame _, fun h => by cases h⟩
  exact shut_agg4 Tryz.underlying34 hone34 cells34 (v0 := .bool zero) (v1 := .int .i64 N) (v2 := .int .i64 a) (v3 := .string zone)
    (y0 := (.lit (.bool zero), [])) (y1 := (.lit (.int .i64 N), [])) (y2 := (.lit (.int .i64 a), [])) (y3 := (.lit (.string zone.data.toList), []))
    (shut_bool Tryz.underlying4 zero) (shut_int Tryz.underlying2 wN) (shut_int Tryz.underlying3 wa) (ChangeMaps.shut_string Tryz.underlying9 wz)
end Go.Proofs.YtpllbhobcnglnaaGreatDoor
