/- a text of the claims over the seat; its order and aim: NOTES.md -/
import Derived.Test.YtpllbhobcnglnaaGreatDoorZQP
import Derived.Test.YtpllbhobcnglnaaGreatDoorZSP
import Derived.Test.YtpllbhobcnglnaaGreatDoorTie
import Derived.Test.YtpllbhobcnglnaaGreatDoorCards
import Derived.ProofKit
import Derived.Lay
import Derived.LaidOnce
import Derived.OpenVars
import Derived.PinnedBridge
import Derived.Lib.LaidU8
import Derived.SevenTiedAt
import Derived.ChangeMaps5
import Derived.Lib.SmallJoins
import Derived.ChangeArms
import Derived.Carry
import Derived.Handed
namespace Go.Proofs.YtpllbhobcnglnaaGreatDoor
open Go Go.ChangeShapes Go.WideShapes Go.ChangeAt Go.RowKit Go.Shelf Go.Lib Go.Proofs.Zap Go.Joins Go.Deep

theorem own : ownKnob Tryz.prog.godebug = none := by kernel_rfl
theorem laidOut : laidOutB Tryz.prog = true := by kernel_rfl
set_option maxRecDepth 100000 in
theorem pow_eq : (Rows.laid_internal_strconv_uint64pow10 : DataW Unit) = tabData .u64 Lib.pow10Tab := by kernel_rfl
theorem tabIs_of_reads {P : Program} {W : World} {name : String} {k : IntKind} {zs : List Int} {g : Nat} {t e : TypeId} {n : Nat}
    (hg : P.globalNamed name = some g) (hty : (P.globals[g]?).map (·.type) = some t) (ht : P.underlying t = some (.array n e)) (he : P.underlying e = some (.int k)) (hce : P.cellsOf e = 1) (hct : P.cellsOf t = n)
    (h : VarReads P W name (tabData k zs)) : TabIs P W name k zs := by
  obtain ⟨g', t', cs, fuel, p, hg', ht', hvar, hd⟩ := h
  obtain rfl := Option.some.inj (hg.symm.trans hg')
  obtain rfl := Option.some.inj (hty.symm.trans ht')
  unfold TabIs
  rw [hvar, ← cells_of_tab ht he hce hct hd]

/-- as the guide's 'returnsInHanded_of_change_and', and the shape of the world is handed on -/
theorem change_sized_shaped {H : Type} {enc : TypeId × Value → H} {a : Assume} {C : Checked} {os : Os} {f : FuncId} {fn : Func} {s : ChangeSpec} {conds : List PathCond} {apart fresh handsOn again : Bool} {X : World → Array Value → Prop}
    (hX : ∀ (w w' : World) (args : Array Value), w.heap = w'.heap → X w args → X w' args)
    (own : ownKnob C.prog.godebug = none) (started : os.Started) (noInit : C.prog.inits.idxOf? f = none) (hfn : C.prog.funcs[f]? = some fn)
    (witness : ∃ (w : World) (tape : Tape) (i : Input), w.os = os ∧ (w.forCall tape i).Shaped C.prog ∧ i.vars = [] ∧ Input.okWide C.prog (w.forCall tape i) .any w.heap.size f i ∧
      ((s.pre enc C.prog fn conds apart (w.forCall tape i).memory i.args ∧ X (w.forCall tape i).memory i.args) ∧ sizedMet enc C.prog fn (OpenSpec.ofChange s) apart (w.forCall tape i).memory i.args) ∧ a.holds C.prog (lone (Frame.enter C.prog f i.args .normal) [] (w.forCall tape i)))
    (contract : ∀ (W : World) (base : Nat) (args : Array Value) (ds gs : List (DataW H)) (before : List MemPlace),
      (∀ (j : Nat) t v, fn.params[j]? = some t → args[j]? = some v → Value.okWide C.prog W .any base t v) →
      DataW.Whole enc C.prog fn.params.toList s.vars apart W args.toList ds gs before →
      (∀ n ∈ DataW.weightsEach C.prog (fn.params.toList ++ (OpenSpec.ofChange s).bare.plain.varTypes C.prog) (ds ++ gs), n ≤ reachBytes) →
      W.ShapedOpen C.prog → X W args →
      Calls C.prog f args W fun e W' => ∃ v, e = .returned v ∧ s.post enc C.prog fn apart fresh handsOn again W args v W') :
    ReturnsInHanded a C os f .any (fun w args => (s.pre enc C.prog fn conds apart w args ∧ X w args) ∧ sizedMet enc C.prog fn (OpenSpec.ofChange s) apart w args) (s.post enc C.prog fn apart fresh handsOn again) := by
  refine returnsInHanded_of_calls own started noInit witness ?_
  intro w tape i _ hsh _ hok hpre _
  obtain ⟨_, _, _, fn', hfn', _, _, _, _, hval⟩ := hok
  have e : fn' = fn := Option.some.inj (hfn'.symm.trans hfn)
  subst e
  obtain ⟨⟨⟨ds, gs, before, hw, _⟩, hx⟩, hz⟩ := hpre
  have hw' := DataW.Whole.of_heap (w' := w.forCall tape i) (by rfl) hw
  refine (contract (w.forCall tape i) w.heap.size i.args ds gs before hval hw' (fun n hn => by simpa using List.all_eq_true.1 (hz.weights hw) n hn) hsh (hX _ _ _ (by rfl) hx)).mono fun e W' ⟨v, he, hp⟩ => ?_
  subst he
  exact ChangeSpec.post_blind hp

theorem row12 : (((begin Tryz.prog (fun _ _ => 0) default).world.heap[12]?).bind Obj.row?).isSome = true := by kernel_rfl
theorem globals13 : 12 < Tryz.prog.globals.size := by
  have : decide (12 < Tryz.prog.globals.size) = true := by kernel_rfl
  exact of_decide_eq_true this
theorem shape13 {W : World} (h : W.ShapedOpen Tryz.prog) : 13 ≤ W.heap.size := by
  obtain ⟨⟨zero, t⟩, h0⟩ := Option.isSome_iff_exists.1 row12
  obtain ⟨cs, hh, _⟩ := h.1 12 zero t globals13 h0
  have := (Array.getElem?_eq_some_iff.1 hh).1
  omega
theorem rows41 : 41 < Tryz.prog.types.size := by
  have : decide (41 < Tryz.prog.types.size) = true := by kernel_rfl
  exact of_decide_eq_true this

def laidV : List (String × DataW Unit) := Rows.fnZLevelOfRow.laid

set_option maxRecDepth 100000 in
theorem ptab_of_laid {W : World} (hL : laidMet Tryz.prog laidV W) : PTab W := by
  have h1 : VarReads Tryz.prog W "internal/strconv.uint64pow10" (tabData .u64 Lib.pow10Tab) := pow_eq ▸ (Lib.laidMet.reads hL (by simp [laidV, Rows.fnZLevelOfRow]))
  exact tabIs_of_reads (g := 1) (t := 300) (e := 47) (by kernel_rfl) (by kernel_rfl) Tryz.underlying300 Tryz.underlying47 (by kernel_rfl) (by kernel_rfl) h1

set_option maxRecDepth 100000 in
set_option maxHeartbeats 4000000 in
theorem liftedV (os : Os) (started : os.Started) (H : Type) (enc : TypeId × Value → H) :
    ReturnsInHanded {} Tryz.checked os 7 .any (fun w args => (Rows.fnZLevelOfSpec.pre enc Tryz.prog Tryz.f7 [] false w args ∧ laidMetH Tryz.prog laidV w) ∧ sizedMet enc Tryz.prog Tryz.f7 (OpenSpec.ofChange Rows.fnZLevelOfSpec) false w args)
      (Rows.fnZLevelOfSpec.post enc Tryz.prog Tryz.f7 false true false false) := by
  refine change_sized_shaped (C := Tryz.checked) (X := fun w _ => laidMetH Tryz.prog laidV w) (fun _ _ _ hh h => h.of_heap hh) own started (by kernel_rfl) Tryz.func7
    (ChangeSpec.witness_shaped (enc := enc) (C := Tryz.checked) (os := os) (X := fun w _ => laidMetH Tryz.prog laidV w) false (World.laidAll Tryz.prog os laidV) #[.agg #[.int .i64 0, .int .i64 0, .slice none 0 0, .slice none 0 0]] 8 (World.laidAll_os _ _ _)
      (World.shaped_of_ZipB (by kernel_rfl) (by kernel_rfl)) (by kernel_rfl) (by kernel_rfl) (by kernel_rfl)
      (by rw [MakeChecks.laidMetH_plain _ _ _ (by kernel_rfl)]; exact laidMet_laidAll _ (by kernel_rfl) (by kernel_rfl))) ?_
  intro W base args ds gs before hval0 hW hwt hsh hL
  have hval : ∀ (j : Nat) t v, Tryz.f7.params[j]? = some t → args[j]? = some v → Value.okWide Tryz.prog W .any base t v := hval0
  have hW' := hW
  obtain ⟨p, q, hA0, hV, rfl, hlt0, _⟩ := hW
  have hA : DataW.TrodAll enc Tryz.prog W 0 (fun _ => true) true Tryz.f7.params.toList args.toList ds p := hA0
  have hwt7 : ∀ n ∈ DataW.weightsEach Tryz.prog (Tryz.f7.params.toList ++ (OpenSpec.ofChange Rows.fnZLevelOfSpec).bare.plain.varTypes Tryz.prog) (ds ++ gs), n ≤ reachBytes := hwt
  rw [Tryz.params7] at hA hval hwt7
  obtain ⟨v0, d0, rfl, rfl, h0⟩ := trodAll_one hA
  have h0k := h0
  have hw0 : WOk 41 d0 := fun n hn => hwt7 n (DataW.weights_mem_each (j := 0) (t := 41) (d := d0) (by simp) (by simp) n hn)
  obtain ⟨cs, rfl, hsz⟩ := okWide_struct Tryz.underlying41 (hval 0 41 v0 rfl rfl)
  rw [c41] at hsz
  obtain ⟨fuel, hf⟩ := h0
  have hf' : DataW.trod enc Tryz.prog W 0 (fun _ => true) true fuel 41 cs.toList = some (d0, p) := hf
  obtain ⟨t, hcat⟩ := cat_in (enc := enc) fuel cs.toList (d0, p) (by simpa using hsz) hf' hw0
  rw [show cs.toList.toArray = cs by simp] at hcat
  rw [MakeChecks.laidMetH_plain _ _ _ (by kernel_rfl)] at hL
  have hT := ptab_of_laid hL
  obtain ⟨g1, g2, g3, rfl⟩ : ∃ g1 g2 g3, gs = [g1, g2, g3] := by
    have hV2 := hV
    rcases gs with _ | ⟨g1, _ | ⟨g2, _ | ⟨g3, _ | ⟨g4, gr⟩⟩⟩⟩
    · exact hV2.elim
    · obtain ⟨_, _, _, _, _, _, _, _, _, _, hs, _⟩ := hV2; exact hs.elim
    · obtain ⟨_, _, _, _, _, _, _, _, _, _, hs, _⟩ := hV2
      obtain ⟨_, _, _, _, _, _, _, _, _, _, hs, _⟩ := hs; exact hs.elim
    · exact ⟨_, _, _, rfl⟩
    · obtain ⟨_, _, _, _, _, _, _, _, _, _, hs, _⟩ := hV2
      obtain ⟨_, _, _, _, _, _, _, _, _, _, hs, _⟩ := hs
      obtain ⟨_, _, _, _, _, _, _, _, _, _, hs, _⟩ := hs; exact hs.elim
  refine (levelOf_any t (.agg cs) W.heap.size W hcat (Nat.le_refl _) hT (shape13 hsh)).mono fun e W' ⟨he, hb⟩ => ?_
  subst he
  refine ⟨_, rfl, _, _, _, [], p, q, hW', trodAll_mk1 (shut_bool Tryz.underlying4 _), trodAll_mk1 ?_, hb.trodVars laidOut (by kernel_rfl) hV, hb.frame _, fun h => by cases h⟩
  exact Below.trod laidOut (by kernel_rfl) rows41 h0k hb (fun x hx => hW'.lt x (List.mem_append_left _ hx))
end Go.Proofs.YtpllbhobcnglnaaGreatDoor
