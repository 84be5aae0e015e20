/- Proved: the law FnZCores answers true for every core, every list of entries and every list of fields (cores_holds : Rows.FnZCoresCardSaid). Conditions: those of the given statement, none besides. -/
import Derived.Test.YtpllbhobcnglnaaGreatDoorZSU
namespace Go.Proofs.YtpllbhobcnglnaaGreatDoor
open Go Go.ChangeShapes Go.WideShapes Go.ChangeAt Go.RowKit Go.Shelf Go.Lib Go.Proofs.Zap

theorem cores_holds : Rows.FnZCoresCardSaid :=
  Claim7.holds_tied_plain_at .later [] [.data, .data, .data, .data, .data, .data] true (true, "cb4bdb1da3b3cf9eae59bef25aee2c92e4fcea086305c3da1c56fa1ae66cda44") true
    cores_said (fun _ h => by cases h) (by as_aux_lemma => kernel_rfl) (fun _ h => by cases h) fnZCores_row_tie rfl ⟨rfl, rfl⟩ (by as_aux_lemma => kernel_rfl) rfl
    (fun f fn hf hfn => by
      obtain rfl : f = 9 := Option.some.inj (cores_named.symm.trans hf) |>.symm
      obtain rfl : fn = Tryz.f9 := (Option.some.inj (Tryz.func9.symm.trans hfn)).symm
      exact ⟨by as_aux_lemma => kernel_rfl, fun j t ht => by
        rw [Tryz.params9] at ht
        have hm : t ∈ [41, 63, 64] := by simpa using Array.mem_of_getElem? ht
        have hall : ([41, 63, 64].all fun u => !Tryz.prog.wantsStandIn u) = true := by as_aux_lemma => kernel_rfl
        exact (show Tryz.prog.wantsStandIn t = false by simpa using List.all_eq_true.1 hall t hm)⟩)
    (by as_aux_lemma => kernel_rfl)
#print axioms cores_holds
end Go.Proofs.YtpllbhobcnglnaaGreatDoor
