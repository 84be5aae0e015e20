/- a text of the claims over the seat; its order and aim: NOTES.md -/
import Derived.Test.YtpllbhobcnglnaaGreatDoorZSI
import Derived.Test.YtpllbhobcnglnaaGreatDoorZSO
import Derived.Test.YtpllbhobcnglnaaGreatDoorZSP
import Derived.Test.YtpllbhobcnglnaaGreatDoorZQS
namespace Go.Proofs.YtpllbhobcnglnaaGreatDoor
open Go Go.ChangeShapes Go.WideShapes Go.ChangeAt Go.RowKit Go.Shelf Go.Lib Go.Proofs.Zap Go.Joins Go.Deep

def laidC : List (String × DataW Unit) := Rows.fnZCoresRow.laid

set_option maxRecDepth 100000 in
theorem ptab_of_laidC {W : World} (hL : laidMet Tryz.prog laidC W) : PTab W := by
  have h1 : VarReads Tryz.prog W "internal/strconv.uint64pow10" (tabData .u64 Lib.pow10Tab) := pow_eq ▸ (Lib.laidMet.reads hL (by simp [laidC, Rows.fnZCoresRow]))
  exact tabIs_of_reads (g := 1) (t := 300) (e := 47) (by kernel_rfl) (by kernel_rfl) Tryz.underlying300 Tryz.underlying47 (by kernel_rfl) (by kernel_rfl) h1
theorem rows63 : 63 < Tryz.prog.types.size := by
  have : decide (63 < Tryz.prog.types.size) = true := by kernel_rfl
  exact of_decide_eq_true this
theorem rows64 : 64 < Tryz.prog.types.size := by
  have : decide (64 < Tryz.prog.types.size) = true := by kernel_rfl
  exact of_decide_eq_true this

set_option maxRecDepth 100000 in
set_option maxHeartbeats 4000000 in
theorem liftedC (os : Os) (started : os.Started) (H : Type) (enc : TypeId × Value → H) :
    ReturnsInHanded {} Tryz.checked os 9 .any (fun w args => (Rows.fnZCoresSpec.pre enc Tryz.prog Tryz.f9 [] false w args ∧ laidMetH Tryz.prog laidC w) ∧ sizedMet enc Tryz.prog Tryz.f9 (OpenSpec.ofChange Rows.fnZCoresSpec) false w args)
      (Rows.fnZCoresSpec.post enc Tryz.prog Tryz.f9 false true false false) := by
  refine change_sized_shaped (C := Tryz.checked) (X := fun w _ => laidMetH Tryz.prog laidC w) (fun _ _ _ hh h => h.of_heap hh) own started (by kernel_rfl) Tryz.func9
    (ChangeSpec.witness_shaped (enc := enc) (C := Tryz.checked) (os := os) (X := fun w _ => laidMetH Tryz.prog laidC w) false (World.laidAll Tryz.prog os laidC) #[.agg #[.int .i64 0, .int .i64 0, .slice none 0 0, .slice none 0 0], .slice none 0 0, .slice none 0 0] 8 (World.laidAll_os _ _ _)
      (World.shaped_of_ZipB (by kernel_rfl) (by kernel_rfl)) (by kernel_rfl) (by kernel_rfl) (by kernel_rfl)
      (by rw [MakeChecks.laidMetH_plain _ _ _ (by kernel_rfl)]; exact laidMet_laidAll _ (by kernel_rfl) (by kernel_rfl))) ?_
  intro W base args ds gs before hval0 hW hwt hsh hL
  have hval : ∀ (j : Nat) t v, Tryz.f9.params[j]? = some t → args[j]? = some v → Value.okWide Tryz.prog W .any base t v := hval0
  have hW' := hW
  obtain ⟨p, q, hA0, hV, rfl, hlt0, _⟩ := hW
  have hA : DataW.TrodAll enc Tryz.prog W 0 (fun _ => true) true Tryz.f9.params.toList args.toList ds p := hA0
  have hwt9 : ∀ n ∈ DataW.weightsEach Tryz.prog (Tryz.f9.params.toList ++ (OpenSpec.ofChange Rows.fnZCoresSpec).bare.plain.varTypes Tryz.prog) (ds ++ gs), n ≤ reachBytes := hwt
  rw [Tryz.params9] at hA hval hwt9
  obtain ⟨v0, v1, v2, d0, d1, d2, p0, p1, p2, rfl, rfl, rfl, h0, h1, h2⟩ := trodAll_three hA
  have h0k := h0
  have h1k := h1
  have h2k := h2
  have hw0 : WOk 41 d0 := fun n hn => hwt9 n (DataW.weights_mem_each (j := 0) (t := 41) (d := d0) (by simp) (by simp) n hn)
  have hw1 : WOk 63 d1 := fun n hn => hwt9 n (DataW.weights_mem_each (j := 1) (t := 63) (d := d1) (by simp) (by simp) n hn)
  have hw2 : WOk 64 d2 := fun n hn => hwt9 n (DataW.weights_mem_each (j := 2) (t := 64) (d := d2) (by simp) (by simp) n hn)
  obtain ⟨cs, rfl, hsz⟩ := okWide_struct Tryz.underlying41 (hval 0 41 v0 rfl rfl)
  rw [c41] at hsz
  obtain ⟨fuel, hf⟩ := h0
  have hf' : DataW.trod enc Tryz.prog W 0 (fun _ => true) true fuel 41 cs.toList = some (d0, p0) := hf
  obtain ⟨t, hcat⟩ := cat_in (enc := enc) fuel cs.toList (d0, p0) (by simpa using hsz) hf' hw0
  rw [show cs.toList.toArray = cs by simp] at hcat
  obtain ⟨a1, n1, m1, rfl⟩ := okWide_slice Tryz.underlying63 (hval 1 63 v1 rfl rfl)
  obtain ⟨a2, n2, m2, rfl⟩ := okWide_slice Tryz.underlying64 (hval 2 64 v2 rfl rfl)
  obtain ⟨fu1, hf1⟩ := h1
  obtain ⟨fu2, hf2⟩ := h2
  have hf1' : DataW.trod enc Tryz.prog W 0 (fun _ => true) true fu1 63 [.slice a1 n1 m1] = some (d1, p1) := hf1
  have hf2' : DataW.trod enc Tryz.prog W 0 (fun _ => true) true fu2 64 [.slice a2 n2 m2] = some (d2, p2) := hf2
  obtain ⟨EL, hEL⟩ := el_in hf1' hw1
  obtain ⟨FL, hFL⟩ := ff_in hf2' hw2
  rw [MakeChecks.laidMetH_plain _ _ _ (by kernel_rfl)] at hL
  have hT := ptab_of_laidC hL
  obtain ⟨g1, g2, g3, rfl⟩ : ∃ g1 g2 g3, gs = [g1, g2, g3] := by
    have hV2 := hV
    rcases gs with _ | ⟨g1, _ | ⟨g2, _ | ⟨g3, _ | ⟨g4, gr⟩⟩⟩⟩
    · exact hV2.elim
    · obtain ⟨_, _, _, _, _, _, _, _, _, _, hs, _⟩ := hV2; exact hs.elim
    · obtain ⟨_, _, _, _, _, _, _, _, _, _, hs, _⟩ := hV2
      obtain ⟨_, _, _, _, _, _, _, _, _, _, hs, _⟩ := hs; exact hs.elim
    · exact ⟨_, _, _, rfl⟩
    · obtain ⟨_, _, _, _, _, _, _, _, _, _, hs, _⟩ := hV2
      obtain ⟨_, _, _, _, _, _, _, _, _, _, hs, _⟩ := hs
      obtain ⟨_, _, _, _, _, _, _, _, _, _, hs, _⟩ := hs; exact hs.elim
  refine (cores_any written_any t (.agg cs) _ _ EL FL W.heap.size W hcat hEL hFL (Nat.le_refl _) hT (shape13 hsh)).mono fun e W' ⟨he, hb⟩ => ?_
  subst he
  refine ⟨_, rfl, _, _, _, [], p0 ++ p1 ++ p2, q, hW', trodAll_mk1 (shut_bool Tryz.underlying4 _), ?_, hb.trodVars laidOut (by kernel_rfl) hV, hb.frame _, fun h => by cases h⟩
  rw [List.append_assoc]
  refine trodAll_mk3 ?_ ?_ ?_
  · exact Below.trod laidOut (by kernel_rfl) rows41 h0k hb (fun x hx => hW'.lt x (List.mem_append_left _ (List.mem_append_left _ (List.mem_append_left _ hx))))
  · exact Below.trod laidOut (by kernel_rfl) rows63 h1k hb (fun x hx => hW'.lt x (List.mem_append_left _ (List.mem_append_left _ (List.mem_append_right _ hx))))
  · exact Below.trod laidOut (by kernel_rfl) rows64 h2k hb (fun x hx => hW'.lt x (List.mem_append_left _ (List.mem_append_right _ hx)))
end Go.Proofs.YtpllbhobcnglnaaGreatDoor
