/- a text of the claims over the seat; its order and aim: NOTES.md -/
import Derived.Test.YtpllbhobcnglnaaGreatDoorZC1
namespace Go.Proofs.YtpllbhobcnglnaaGreatDoor
open Go Go.ChangeShapes Go.WideShapes Go.ChangeAt Go.RowKit Go.Shelf Go.Lib Go.Proofs.Zap

def laidT : List (String × DataW Unit) := Rows.fnZTextsRow.laid

set_option maxRecDepth 100000 in
theorem tabs_of_laid {W : World} (hL : laidMet Tryz.prog laidT W) : Tabs W := by
  have h2 : VarReads Tryz.prog W "unicode/utf8.first" firstData := Pinned.utf8First_eq ▸ (Lib.laidMet.reads hL (by simp [laidT, Rows.fnZTextsRow, Rows.laid_unicode_utf8_first]))
  have h3 : VarReads Tryz.prog W "unicode/utf8.acceptRanges" acceptData := acc_eq ▸ (Lib.laidMet.reads hL (by simp [laidT, Rows.fnZTextsRow]))
  have h1 : VarReads Tryz.prog W "internal/strconv.uint64pow10" (tabData .u64 Lib.pow10Tab) := pow_eq ▸ (Lib.laidMet.reads hL (by simp [laidT, Rows.fnZTextsRow]))
  exact ⟨utf8Tabs_of_reads Tryz.lays260 u8x h2 h3, tabIs_of_reads (g := 1) (t := 300) (e := 47) (by kernel_rfl) (by kernel_rfl) Tryz.underlying300 Tryz.underlying47 (by kernel_rfl) (by kernel_rfl) h1⟩

set_option maxRecDepth 100000 in
set_option maxHeartbeats 4000000 in
theorem lifted (os : Os) (started : os.Started) (H : Type) (enc : TypeId × Value → H) :
    ReturnsInHanded {} Tryz.checked os 4 .any (fun w args => (Rows.fnZTextsSpec.pre enc Tryz.prog Tryz.f4 [] false w args ∧ laidMetH Tryz.prog laidT w) ∧ sizedMet enc Tryz.prog Tryz.f4 (OpenSpec.ofChange Rows.fnZTextsSpec) false w args)
      (Rows.fnZTextsSpec.post enc Tryz.prog Tryz.f4 false true false false) := by
  refine change_shaped (C := Tryz.checked) (X := fun w _ => laidMetH Tryz.prog laidT w) (fun _ _ _ hh h => h.of_heap hh) own started (by kernel_rfl) Tryz.func4
    (ChangeSpec.witness_shaped (enc := enc) (C := Tryz.checked) (os := os) (X := fun w _ => laidMetH Tryz.prog laidT w) false (World.laidAll Tryz.prog os laidT) #[.string ⟨#[]⟩] 8 (World.laidAll_os _ _ _)
      (World.shaped_of_ZipB (by kernel_rfl) (by kernel_rfl)) (by kernel_rfl) (by kernel_rfl) (by kernel_rfl)
      (by rw [MakeChecks.laidMetH_plain _ _ _ (by kernel_rfl)]; exact laidMet_laidAll _ (by kernel_rfl) (by kernel_rfl))) ?_
  intro W base args ds gs before hval0 hW hsh hL
  have hval : ∀ (j : Nat) t v, Tryz.f4.params[j]? = some t → args[j]? = some v → Value.okWide Tryz.prog W .any base t v := hval0
  have hW' := hW
  obtain ⟨p, q, hA0, hV, rfl, _, _⟩ := hW
  have hA : DataW.TrodAll enc Tryz.prog W 0 (fun _ => true) true Tryz.f4.params.toList args.toList ds p := hA0
  rw [Tryz.params4] at hA hval
  obtain ⟨v0, d0, rfl, rfl, h0⟩ := trodAll_one hA
  obtain ⟨s, rfl, rfl, rfl, ws⟩ := ChangeMaps.open_string Tryz.underlying9 (hval 0 9 v0 rfl rfl) h0
  rw [MakeChecks.laidMetH_plain _ _ _ (by kernel_rfl)] at hL
  have hT := tabs_of_laid hL
  obtain ⟨g1, g2, g3, rfl⟩ : ∃ g1 g2 g3, gs = [g1, g2, g3] := by
    have hV2 := hV
    rcases gs with _ | ⟨g1, _ | ⟨g2, _ | ⟨g3, _ | ⟨g4, gr⟩⟩⟩⟩
    · exact hV2.elim
    · obtain ⟨_, _, _, _, _, _, _, _, _, _, hs, _⟩ := hV2; exact hs.elim
    · obtain ⟨_, _, _, _, _, _, _, _, _, _, hs, _⟩ := hV2
      obtain ⟨_, _, _, _, _, _, _, _, _, _, hs, _⟩ := hs; exact hs.elim
    · exact ⟨_, _, _, rfl⟩
    · obtain ⟨_, _, _, _, _, _, _, _, _, _, hs, _⟩ := hV2
      obtain ⟨_, _, _, _, _, _, _, _, _, _, hs, _⟩ := hs
      obtain ⟨_, _, _, _, _, _, _, _, _, _, hs, _⟩ := hs; exact hs.elim
  refine (texts_any s W hT (shape13 hsh) ws).mono fun e W' ⟨he, hb⟩ => ?_
  subst he
  exact ⟨_, rfl, _, _, _, [], [], q, hW', trodAll_mk1 (shut_bool Tryz.underlying4 _), trodAll_mk1 (ChangeMaps.shut_string Tryz.underlying9 ws), hb.trodVars laidOut (by kernel_rfl) hV, hb.frame _, fun h => by cases h⟩

end Go.Proofs.YtpllbhobcnglnaaGreatDoor
