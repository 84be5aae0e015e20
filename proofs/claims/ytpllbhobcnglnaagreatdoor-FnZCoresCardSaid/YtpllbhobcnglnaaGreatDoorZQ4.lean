/- a text of the claims over the seat; its order and aim: NOTES.md -/
import Derived.Test.YtpllbhobcnglnaaGreatDoorZT1
import Derived.Test.YtpllbhobcnglnaaGreatDoorZQ1
namespace Go.Proofs.Zap
open Go Go.Proofs Go.RowKit

/-- a slice that holds these fields -/
def FlOk (w : World) (B : Nat) (d : Nat) (fs : List FC) (v : Value) : Prop :=
  ∃ A cap, v = .slice A fs.length cap ∧ fs.length ≤ cap ∧ cap ≤ 9223372036854775807 ∧ ((A = none → fs.length = 0 ∧ cap = 0) ∧ fs.length ≤ 765000000000) ∧
    (0 < fs.length → ∃ b o, A = some ⟨b, o, none⟩ ∧ b < B ∧ ∀ i c, fs[i]? = some c → RowC w b (o + i * 15) c.arr ∧ BytesOk w B c.bytes ∧ FsOk w B d c.items ∧
      (c.key.size ≤ 9223372036854775807 ∧ c.text.size ≤ 9223372036854775807 ∧ c.zone.size ≤ 9223372036854775807 ∧ c.fail.size ≤ 9223372036854775807))
theorem FlOk.keep {w w' : World} {B d : Nat} {fs : List FC} {v : Value} (h : FlOk w B d fs v) (hk : ∀ k, k < B → w'.heap[k]? = w.heap[k]?) : FlOk w' B d fs v := by
  obtain ⟨A, cap, h1, h2, h3, h4, h5⟩ := h
  refine ⟨A, cap, h1, h2, h3, h4, fun hn => ?_⟩
  obtain ⟨b, o, e, hb, hc⟩ := h5 hn
  refine ⟨b, o, e, hb, fun i c hi => ?_⟩
  obtain ⟨g1, g2, g3, g4⟩ := hc i c hi
  exact ⟨g1.keep hb hk, g2.keep hk, FsOk.keep hk g3, g4⟩
theorem FlOk.fs {w : World} {B d : Nat} {fs : List FC} {v : Value} (h : FlOk w B d fs v) : FsOk w B (d + 1) v := by
  obtain ⟨A, cap, h1, h2, h3, h4, h5⟩ := h
  refine ⟨A, fs.length, cap, h1, h2, h3, h4, fun hn => ?_⟩
  obtain ⟨b, o, e, hb, hc⟩ := h5 hn
  refine ⟨b, o, e, hb, fun i hi => ⟨fs[i], ?_⟩⟩
  exact hc i _ (by simp [hi])

theorem FlOk.len {w : World} {B d : Nat} {fs : List FC} {v : Value} (h : FlOk w B d fs v) : lenV v = fs.length := by
  obtain ⟨A, cap, h1, _⟩ := h; rw [h1]; rfl

/-- the fields of all of a core -/
def flen {F : Type} : CT F → Nat
  | .no => 0
  | .mk _ _ n kids fs => fs.length + sumN n fun i => flen (kids i)

/-- the cells of a core that is asked for -/
def CAt (w : World) (B : Nat) : CT FC → Value → Prop
  | .no, _ => False
  | .mk kind lvl n kids fs, v => ∃ A cap fv, v = .agg #[.int .i64 kind, .int .i64 lvl, .slice A n cap, fv] ∧ n ≤ cap ∧ cap ≤ 9223372036854775807 ∧ (A = none → n = 0 ∧ cap = 0) ∧ (∃ d, FlOk w B d fs fv) ∧
      (-9223372036854775808 ≤ kind ∧ kind ≤ 9223372036854775807 ∧ -9223372036854775808 ≤ lvl ∧ lvl ≤ 9223372036854775807) ∧
      (0 < n → ∃ b o, A = some ⟨b, o, none⟩ ∧ b < B ∧ ∀ i, i < n → ∃ r0 r1 r2 r3, RowC w b (o + i * 4) #[r0, r1, r2, r3] ∧ CAt w B (kids i) (.agg #[r0, r1, r2, r3]))
theorem CAt.keep {w w' : World} {B : Nat} (hk : ∀ k, k < B → w'.heap[k]? = w.heap[k]?) : ∀ {t : CT FC} {v : Value}, CAt w B t v → CAt w' B t v := by
  intro t
  induction t with
  | no => intro v h; exact h.elim
  | mk kind lvl n kids fs ih =>
    intro v h
    obtain ⟨A, cap, fv, h1, h2, h3, h4, ⟨d, h5⟩, hbd, h6⟩ := h
    refine ⟨A, cap, fv, h1, h2, h3, h4, ⟨d, h5.keep hk⟩, hbd, fun hn => ?_⟩
    obtain ⟨b, o, e, hb, hc⟩ := h6 hn
    refine ⟨b, o, e, hb, fun i hi => ?_⟩
    obtain ⟨r0, r1, r2, r3, g1, g2⟩ := hc i hi
    exact ⟨r0, r1, r2, r3, g1.keep hb hk, ih i g2⟩

/-- a call that answers v and changes nothing old -/
abbrev Says (w : World) (v : Value) (e : Ending) (w' : World) : Prop := e = .returned v ∧ Below w.heap.size w w'

theorem wrap8 (x : Int) : IntKind.i8.wrap x = w8 x := by unfold w8; simp [IntKind.wrap, IntKind.bits, IntKind.signed]; omega

end Go.Proofs.Zap

namespace Go.Proofs.Zap
open Go Go.Proofs Go.RowKit

theorem wrap64_id {x : Int} (h0 : -9223372036854775808 ≤ x) (h1 : x ≤ 9223372036854775807) : IntKind.i64.wrap x = x := IntWalk.i64_in _ ⟨h0, h1⟩

set_option maxHeartbeats 2000000 in
theorem en_any (t : CT FC) : ∀ (d : Nat), fine t d = true → ∀ (v : Value) (l : Int) (B : Nat) (w : World), CAt w B t v → B ≤ w.heap.size →
    Calls Tryz.prog 70 #[v, .int .i64 l] w (Says w (.bool (en t l))) := by
  induction t with
  | no => intro d hf; exact absurd hf (by simp [fine])
  | mk kind lvl n kids fs ih =>
    intro d hf v l B w hc hB
    obtain ⟨k0, k5, hd, hn, h1, h0, hk⟩ := fine_parts hf
    obtain ⟨A, cap, fv, rfl, h2, h3, h4, h5, hbd, h6⟩ := hc
    clear hbd h5 h4 hf
    have H6 := Lib.hid h6
    have hw8l : w8 (w8 l) = w8 l := w8_id (w8_bd l).1 (w8_bd l).2
    clear h6
    have hcs : kind = 0 ∨ kind = 1 ∨ kind = 2 ∨ kind = 3 ∨ kind = 4 ∨ kind = 5 := by omega
    rcases hcs with rfl | rfl | rfl | rfl | rfl | rfl
    · simp only [en]
      simp
      clear h1 h0
      have e1 := wrap8 l
      have e2 := wrap8 lvl
      have b1 := w8_bd l
      have b2 := w8_bd lvl
      generalize w8 l = L at *
      generalize w8 lvl = LV at *
      have e3 : IntKind.i64.wrap L = L := wrap64_id (by omega) (by omega)
      have e4 : IntKind.i64.wrap LV = LV := wrap64_id (by omega) (by omega)
      go_enter Tryz.func70, Tryz.ntmps70
      go_wp2_with fail
      go_ret
      exact ⟨rfl, (Below.refl _ _).alloc (Nat.le_refl _) _⟩
    · simp only [en]
      simp
      clear h1 h0 hw8l
      go_enter Tryz.func70, Tryz.ntmps70
      go_wp2_with fail
      have hXc : (w.alloc (.cells #[.int .i64 1, .int .i64 lvl, .slice A n cap, fv] 41)).cell? ⟨w.heap.size, 2, none⟩ = some (.slice A n cap) := (Blk.new w 41 #[.int .i64 1, .int .i64 lvl, .slice A n cap, fv]).cell 2
      have HB0 := Lib.hid ((Below.refl w.heap.size w).alloc (Nat.le_refl _) (.cells #[.int .i64 1, .int .i64 lvl, .slice A n cap, fv] 41))
      go_loopw [5] (fun i wr => ∃ j : Nat, i = .int .i64 j ∧ j ≤ n ∧ (∀ m, m < j → en (kids m) l = false) ∧ wr.cell? ⟨w.heap.size, 2, none⟩ = some (.slice A n cap) ∧ Hid (Below w.heap.size w wr)) (fun i _ => n - (intOf i).toNat)
      case atStart => exact ⟨0, rfl, by omega, fun m hm => absurd hm (by omega), hXc, HB0⟩
      case round =>
        obtain ⟨j, rfl, hj, hall, hxc, hbl⟩ := hrel
        by_cases hlt : j < n
        · obtain ⟨b, o, rfl, hb, hcs⟩ := H6.out (by omega)
          obtain ⟨r0, r1, r2, r3, hrow, hcat⟩ := hcs j hlt
          have kb : ∀ k, k < B → wr.heap[k]? = w.heap[k]? := fun k hk => hbl.out.block k (by omega)
          have hrow' := hrow.keep hb kb
          have hcat' := hcat.keep kb
          have c0 : wr.cell? ⟨b, o + j * 4, none⟩ = some r0 := hrow' 0 _ rfl
          have c1 : wr.cell? ⟨b, o + j * 4 + 1, none⟩ = some r1 := hrow' 1 _ rfl
          have c2 : wr.cell? ⟨b, o + j * 4 + 2, none⟩ = some r2 := hrow' 2 _ rfl
          have c3 : wr.cell? ⟨b, o + j * 4 + 3, none⟩ = some r3 := hrow' 3 _ rfl
          have q0 : (0 : Int) ≤ (j : Int) := Int.natCast_nonneg _
          have q1 : (j : Int) < (n : Int) := by omega
          have hcall := ih j (d - 1) (hk j hlt) _ l B wr hcat' (by have := hbl.out.size; omega)
          have HC := Lib.hid hcall
          clear hcall hcat hcat' hrow hrow' hcs kb
          go_wp2_with fail
          refine HC.out.mono ?_
          rintro e w' ⟨rfl, hb'⟩
          have hsz := hbl.out.size
          have hxw : w.heap.size < wr.heap.size := World.block_lt_of_cell? wr _ hxc
          have hxc' : w'.cell? ⟨w.heap.size, 2, none⟩ = some (.slice (some ⟨b, o, none⟩) n cap) := (World.cell?_of_block (w := wr) (hb'.block _ hxw)).trans hxc
          have HB := Lib.hid (hbl.out.trans (hb'.mono hsz))
          clear hb' hbl c0 c1 c2 c3 hxc
          rcases he : en (kids j) l with _ | _
          · go_wp2_with fail
            go_roundw
            case rel => exact ⟨j + 1, by go_num, by omega, fun m hm => if e : m = j then e ▸ he else hall m (by omega), hxc', HB⟩
            case measure => simp [intOf]; omega
          · go_wp2_with fail
            go_ret
            exact ⟨congrArg (fun b => Ending.returned (.bool b)) (anyB_true.2 ⟨j, hlt, he⟩).symm, HB.out⟩
        · go_wp2_with fail
          go_ret
          exact ⟨congrArg (fun b => Ending.returned (.bool b)) (anyB_false.2 fun i hi => hall i (by omega)).symm, hbl.out⟩
    · simp only [en]
      simp
      clear h1 h0
      have e1 := wrap8 l
      have e2 := wrap8 lvl
      have b1 := w8_bd l
      have b2 := w8_bd lvl
      generalize w8 l = L at *
      generalize w8 lvl = LV at *
      have e3 : IntKind.i64.wrap L = L := wrap64_id (by omega) (by omega)
      have e4 : IntKind.i64.wrap LV = LV := wrap64_id (by omega) (by omega)
      go_enter Tryz.func70, Tryz.ntmps70
      go_wp2_with fail
      go_ret
      exact ⟨rfl, (Below.refl _ _).alloc (Nat.le_refl _) _⟩
    all_goals
      try (
        have hn1 := h1 (by omega)
        subst hn1
        simp only [en]
        simp
        clear h1 h0 hw8l
        obtain ⟨b, o, rfl, hb, hcs⟩ := H6.out (by omega)
        obtain ⟨r0, r1, r2, r3, hrow, hcat⟩ := hcs 0 (by omega)
        simp at hrow
        have hb2 : b < w.heap.size := by omega
        have hcc : ∀ (W : World) , (∀ k, k < B → W.heap[k]? = w.heap[k]?) → B ≤ W.heap.size → Calls Tryz.prog 70 #[.agg #[r0, r1, r2, r3], .int .i64 l] W (Says W (.bool (en (kids 0) l))) :=
          fun W hW hBW => ih 0 (d - 1) (hk 0 (by omega)) _ l B W (hcat.keep hW) hBW
        have HCC := Lib.hid hcc
        have c0 : w.cell? ⟨b, o, none⟩ = some r0 := hrow 0 _ rfl
        have c1 : w.cell? ⟨b, o + 1, none⟩ = some r1 := hrow 1 _ rfl
        have c2 : w.cell? ⟨b, o + 2, none⟩ = some r2 := hrow 2 _ rfl
        have c3 : w.cell? ⟨b, o + 3, none⟩ = some r3 := hrow 3 _ rfl
        clear hcc hcat hrow hcs
        go_enter Tryz.func70, Tryz.ntmps70
        go_wp2_with fail
        refine (HCC.out _ (fun k hk => ((Below.refl w.heap.size w).alloc (Nat.le_refl _) _).block k (by omega)) (by simp; omega)).mono ?_
        rintro e w' ⟨rfl, hb'⟩
        go_wp2_with fail
        go_ret
        exact ⟨rfl, ((Below.refl _ _).alloc (Nat.le_refl _) _).trans (hb'.mono (by simp))⟩
        done)
    simp only [en]
    simp
    clear h1 h0 hw8l
    go_enter Tryz.func70, Tryz.ntmps70
    go_wp2_with fail
    go_ret
    exact ⟨rfl, (Below.refl _ _).alloc (Nat.le_refl _) _⟩
end Go.Proofs.Zap

namespace Go.Proofs.Zap
open Go Go.Proofs Go.RowKit

/-- the first test of fine, and its last -/
def headF (kind : Int) (n d : Nat) : Bool :=
  let one := kind == 2 || kind == 3 || kind == 4
  decide (kind < 0) || decide (5 < kind) || d == 0 || decide (6 < n) || (one != (n == 1)) && kind != 1
def tailF (kind : Int) (n : Nat) : Bool := kind == 2 || kind == 3 || kind == 4 || kind == 1 || n == 0
theorem fine_eq (kind lvl : Int) (n : Nat) (kids : Nat → CT FC) (fs : List FC) (d : Nat) : fine (.mk kind lvl n kids fs) d = (!headF kind n d && (!anyB n fun i => !fine (kids i) (d - 1)) && tailF kind n) := rfl

set_option maxHeartbeats 2000000 in
theorem least_any (t : CT FC) (d : Nat) (hf : fine t d = true) (v : Value) (B : Nat) (w : World) (hc : CAt w B t v) (hB : B ≤ w.heap.size) :
    Calls Tryz.prog 30 #[v] w (Says w (.int .i64 (leastOf (en t)))) := by
  rcases t with _ | ⟨kind, lvl, n, kids, fs⟩
  · exact hc.elim
  have hcall := fun (l : Int) (W : World) (hk : ∀ k, k < B → W.heap[k]? = w.heap[k]?) (hBW : B ≤ W.heap.size) => en_any _ d hf v l B W (hc.keep hk) hBW
  have HC := Lib.hid hcall
  obtain ⟨A, cap, fv, rfl, h2, h3, h4, h5, hbd, h6⟩ := hc
  clear h2 h3 h4 h5 hbd h6 hcall
  generalize en (.mk kind lvl n kids fs) = p at *
  have hX := Blk.new w 41 #[.int .i64 kind, .int .i64 lvl, .slice A n cap, fv]
  have HB0 := Lib.hid ((Below.refl w.heap.size w).alloc (Nat.le_refl _) (.cells #[.int .i64 kind, .int .i64 lvl, .slice A n cap, fv] 41))
  have HX := Lib.hid hX
  clear hX
  go_enter Tryz.func30, Tryz.ntmps30
  go_wp2_with fail
  go_loopw [3] (fun i wr => ∃ j : Int, i = .int .i64 j ∧ -1 ≤ j ∧ j ≤ 6 ∧ (∀ m, -1 ≤ m → m < j → p m = false) ∧ Hid (Blk wr w.heap.size 41 #[.int .i64 kind, .int .i64 lvl, .slice A n cap, fv]) ∧ Hid (Below w.heap.size w wr)) (fun i _ => (6 - intOf i).toNat)
  case atStart => exact ⟨-1, rfl, by omega, by omega, fun m h0 h1 => by omega, HX, HB0⟩
  case round =>
    obtain ⟨j, rfl, hj0, hj, hall, hx, hbl⟩ := hrel
    by_cases hlt : j ≤ 5
    · have kb : ∀ k, k < B → wr.heap[k]? = w.heap[k]? := fun k hk => hbl.out.block k (by omega)
      have hcall := HC.out j wr kb (by have := hbl.out.size; omega)
      have HC2 := Lib.hid hcall
      have c0 : wr.cell? ⟨w.heap.size, 0, none⟩ = some (.int .i64 kind) := hx.out.cell 0
      have c1 : wr.cell? ⟨w.heap.size, 1, none⟩ = some (.int .i64 lvl) := hx.out.cell 1
      have c2 : wr.cell? ⟨w.heap.size, 2, none⟩ = some (.slice A n cap) := hx.out.cell 2
      have c3 : wr.cell? ⟨w.heap.size, 3, none⟩ = some fv := hx.out.cell 3
      clear hcall
      go_wp2_with fail
      refine HC2.out.mono ?_
      rintro e w' ⟨rfl, hb'⟩
      have hsz := hbl.out.size
      have HB := Lib.hid (hbl.out.trans (hb'.mono hsz))
      have HX2 := Lib.hid (hx.out.below hb' hx.out.lt)
      clear hb' hbl c0 c1 c2 c3 hx
      rcases he : p j with _ | _
      · go_wp2_with fail
        go_roundw
        case rel => exact ⟨j + 1, by go_num, by omega, by omega, fun m h0 hm => if e : m = j then e ▸ he else hall m h0 (by omega), HX2, HB⟩
        case measure => simp [intOf]; omega
      · go_wp2_with fail
        go_ret
        refine ⟨?_, HB.out⟩
        have h1 : leastOf p ≤ j := leastOf_le hj0 hlt he
        have h2 : ¬ leastOf p < j := fun h => by
          have := leastOf_mem (p := p) (by omega)
          rw [hall _ (leastOf_bd p).1 h] at this
          cases this
        rw [show leastOf p = j by omega]; rfl
    · go_wp2_with fail
      go_ret
      refine ⟨?_, hbl.out⟩
      have h2 : ¬ leastOf p < 6 := fun h => by
        have := leastOf_mem (p := p) (by omega)
        rw [hall _ (leastOf_bd p).1 (by omega)] at this
        cases this
      rw [show leastOf p = 6 by have := leastOf_bd p; omega]; rfl

/-- a call that answers some bool and changes nothing old -/
def SaysB (w : World) (e : Ending) (w' : World) : Prop := ∃ b : Bool, e = .returned (.bool b) ∧ Below w.heap.size w w'

set_option maxHeartbeats 2000000 in
theorem fits9_any (t : CT FC) (v : Value) (B : Nat) (w : World) (hc : CAt w B t v) (_hB : B ≤ w.heap.size) :
    Calls Tryz.prog 26 #[v] w (SaysB w) := by
  rcases t with _ | ⟨kind, lvl, n, kids, fs⟩
  · exact hc.elim
  obtain ⟨A, cap, fv, rfl, h2, h3, h4, ⟨d, ⟨A2, cap2, rfl, g2, g3, _⟩⟩, hbd, h6⟩ := hc
  clear h6 h4 hbd
  by_cases e1 : 2147483647 < (n : Int)
  · go_enter Tryz.func26, Tryz.ntmps26
    go_wp2_with fail
    go_ret
    exact ⟨false, rfl, (Below.refl _ _).alloc (Nat.le_refl _) _⟩
  · by_cases e2 : 2147483647 < (fs.length : Int)
    · go_enter Tryz.func26, Tryz.ntmps26
      go_wp2_with fail
      go_ret
      exact ⟨false, rfl, (Below.refl _ _).alloc (Nat.le_refl _) _⟩
    · go_enter Tryz.func26, Tryz.ntmps26
      go_wp2_with fail
      go_ret
      exact ⟨true, rfl, (Below.refl _ _).alloc (Nat.le_refl _) _⟩

set_option maxHeartbeats 4000000 in
theorem tee_any (t : CT FC) : ∀ (d : Nat), fine t d = true → ∀ (v : Value) (B : Nat) (w : World), CAt w B t v → B ≤ w.heap.size →
    Calls Tryz.prog 32 #[v] w (Says w (.bool (hasTee t))) := by
  induction t with
  | no => intro d hf; exact absurd hf (by simp [fine])
  | mk kind lvl n kids fs ih =>
    intro d hf v B w hc hB
    obtain ⟨k0, k5, hd, hn, h1, h0, hk⟩ := fine_parts hf
    obtain ⟨A, cap, fv, rfl, h2, h3, h4, h5, hbd, h6⟩ := hc
    clear hbd h5 h4 hf h1 h0
    have H6 := Lib.hid h6
    clear h6
    have hX := Blk.new w 41 #[.int .i64 kind, .int .i64 lvl, .slice A n cap, fv]
    have hX0 : (w.alloc (.cells #[.int .i64 kind, .int .i64 lvl, .slice A n cap, fv] 41)).cell? ⟨w.heap.size, 0, none⟩ = some (.int .i64 kind) := hX.cell 0
    have hX2 : (w.alloc (.cells #[.int .i64 kind, .int .i64 lvl, .slice A n cap, fv] 41)).cell? ⟨w.heap.size, 2, none⟩ = some (.slice A n cap) := hX.cell 2
    have HB0 := Lib.hid ((Below.refl w.heap.size w).alloc (Nat.le_refl _) (.cells #[.int .i64 kind, .int .i64 lvl, .slice A n cap, fv] 41))
    clear hX
    go_enter Tryz.func32, Tryz.ntmps32
    go_wp2_with fail
    go_loopw [3] (fun i wr => ∃ j : Nat, i = .int .i64 j ∧ j ≤ n ∧ (∀ m, m < j → hasTee (kids m) = false) ∧ wr.cell? ⟨w.heap.size, 0, none⟩ = some (.int .i64 kind) ∧ wr.cell? ⟨w.heap.size, 2, none⟩ = some (.slice A n cap) ∧ Hid (Below w.heap.size w wr)) (fun i _ => n - (intOf i).toNat)
    case atStart => exact ⟨0, rfl, by omega, fun m hm => absurd hm (by omega), hX0, hX2, HB0⟩
    case round =>
      obtain ⟨j, rfl, hj, hall, hx0, hx2, hbl⟩ := hrel
      by_cases hlt : j < n
      · obtain ⟨b, o, rfl, hb, hcs⟩ := H6.out (by omega)
        obtain ⟨r0, r1, r2, r3, hrow, hcat⟩ := hcs j hlt
        have kb : ∀ k, k < B → wr.heap[k]? = w.heap[k]? := fun k hk => hbl.out.block k (by omega)
        have hrow' := hrow.keep hb kb
        have hcat' := hcat.keep kb
        have c0 : wr.cell? ⟨b, o + j * 4, none⟩ = some r0 := hrow' 0 _ rfl
        have c1 : wr.cell? ⟨b, o + j * 4 + 1, none⟩ = some r1 := hrow' 1 _ rfl
        have c2 : wr.cell? ⟨b, o + j * 4 + 2, none⟩ = some r2 := hrow' 2 _ rfl
        have c3 : wr.cell? ⟨b, o + j * 4 + 3, none⟩ = some r3 := hrow' 3 _ rfl
        have q0 : (0 : Int) ≤ (j : Int) := Int.natCast_nonneg _
        have q1 : (j : Int) < (n : Int) := by omega
        have hcall := ih j (d - 1) (hk j hlt) _ B wr hcat' (by have := hbl.out.size; omega)
        have HC := Lib.hid hcall
        clear hcall hcat hcat' hrow hrow' hcs kb
        go_wp2_with fail
        refine HC.out.mono ?_
        rintro e w' ⟨rfl, hb'⟩
        have hsz := hbl.out.size
        have hxw : w.heap.size < wr.heap.size := World.block_lt_of_cell? wr _ hx2
        have hx0' : w'.cell? ⟨w.heap.size, 0, none⟩ = some (.int .i64 kind) := (World.cell?_of_block (w := wr) (hb'.block _ hxw)).trans hx0
        have hx2' : w'.cell? ⟨w.heap.size, 2, none⟩ = some (.slice (some ⟨b, o, none⟩) n cap) := (World.cell?_of_block (w := wr) (hb'.block _ hxw)).trans hx2
        have HB := Lib.hid (hbl.out.trans (hb'.mono hsz))
        clear hb' hbl c0 c1 c2 c3 hx0 hx2
        rcases he : hasTee (kids j) with _ | _
        · go_wp2_with fail
          go_roundw
          case rel => exact ⟨j + 1, by go_num, by omega, fun m hm => if e : m = j then e ▸ he else hall m (by omega), hx0', hx2', HB⟩
          case measure => simp [intOf]; omega
        · go_wp2_with fail
          go_ret
          have : hasTee (.mk kind lvl n kids fs) = true := by
            simp only [hasTee]; rw [anyB_true.2 ⟨j, hlt, he⟩]; rfl
          exact ⟨by rw [this]; rfl, HB.out⟩
      · have hno : (anyB n fun i => hasTee (kids i)) = false := anyB_false.2 fun i hi => hall i (by omega)
        have hv : hasTee (.mk kind lvl n kids fs) = (kind == 1 && decide (1 < n)) := by
          simp only [hasTee]; rw [hno]; rfl
        by_cases ek : kind = 1
        · subst ek
          by_cases en1 : 1 < (n : Int)
          · have hv2 : hasTee (.mk 1 lvl n kids fs) = true := by rw [hv]; simp; omega
            have HV2 := Lib.hid hv2
            clear hv hv2
            go_wp2_with fail
            go_ret
            exact ⟨congrArg (fun b => Ending.returned (.bool b)) HV2.out.symm, hbl.out⟩
          · have hv2 : hasTee (.mk 1 lvl n kids fs) = false := by rw [hv]; simp; omega
            have HV2 := Lib.hid hv2
            clear hv hv2
            go_wp2_with fail
            go_ret
            exact ⟨congrArg (fun b => Ending.returned (.bool b)) HV2.out.symm, hbl.out⟩
        · have ekb : (kind == 1) = false := by simp [ek]
          have hv2 : hasTee (.mk kind lvl n kids fs) = false := by rw [hv, ekb]; rfl
          have HV2 := Lib.hid hv2
          clear hv hv2
          go_wp2_with fail
          go_ret
          exact ⟨congrArg (fun b => Ending.returned (.bool b)) HV2.out.symm, hbl.out⟩
end Go.Proofs.Zap
