/- a text of the claims over the seat; its order and aim: NOTES.md -/
import Derived.Test.YtpllbhobcnglnaaGreatDoorZQ0
import Derived.Test.YtpllbhobcnglnaaGreatDoorZQ1
namespace Go.Proofs.Zap
open Go Go.Proofs Go.RowKit

/-- a slice that holds these fields -/
def FlOk (w : World) (B : Nat) (d : Nat) (fs : List FC) (v : Value) : Prop :=
  ∃ A cap, v = .slice A fs.length cap ∧ fs.length ≤ cap ∧ cap ≤ 9223372036854775807 ∧ ((A = none → fs.length = 0 ∧ cap = 0) ∧ fs.length ≤ 765000000000) ∧
    (0 < fs.length → ∃ b o, A = some ⟨b, o, none⟩ ∧ b < B ∧ ∀ i c, fs[i]? = some c → RowC w b (o + i * 15) c.arr ∧ BytesOk w B c.bytes ∧ FsOk w B d c.items ∧
      (c.key.size ≤ 9223372036854775807 ∧ c.text.size ≤ 9223372036854775807 ∧ c.zone.size ≤ 9223372036854775807 ∧ c.fail.size ≤ 9223372036854775807))
theorem FlOk.keep {w w' : World} {B d : Nat} {fs : List FC} {v : Value} (h : FlOk w B d fs v) (hk : ∀ k, k < B → w'.heap[k]? = w.heap[k]?) : FlOk w' B d fs v := by
  obtain ⟨A, cap, h1, h2, h3, h4, h5⟩ := h
  refine ⟨A, cap, h1, h2, h3, h4, fun hn => ?_⟩
  obtain ⟨b, o, e, hb, hc⟩ := h5 hn
  refine ⟨b, o, e, hb, fun i c hi => ?_⟩
  obtain ⟨g1, g2, g3, g4⟩ := hc i c hi
  exact ⟨g1.keep hb hk, g2.keep hk, FsOk.keep hk g3, g4⟩
theorem FlOk.fs {w : World} {B d : Nat} {fs : List FC} {v : Value} (h : FlOk w B d fs v) : FsOk w B (d + 1) v := by
  obtain ⟨A, cap, h1, h2, h3, h4, h5⟩ := h
  refine ⟨A, fs.length, cap, h1, h2, h3, h4, fun hn => ?_⟩
  obtain ⟨b, o, e, hb, hc⟩ := h5 hn
  refine ⟨b, o, e, hb, fun i hi => ⟨fs[i], ?_⟩⟩
  exact hc i _ (by simp [hi])

theorem FlOk.len {w : World} {B d : Nat} {fs : List FC} {v : Value} (h : FlOk w B d fs v) : lenV v = fs.length := by
  obtain ⟨A, cap, h1, _⟩ := h; rw [h1]; rfl

/-- the fields of all of a core -/
def flen {F : Type} : CT F → Nat
  | .no => 0
  | .mk _ _ n kids fs => fs.length + sumN n fun i => flen (kids i)

/-- the cells of a core that is asked for -/
def CAt (w : World) (B : Nat) : CT FC → Value → Prop
  | .no, _ => False
  | .mk kind lvl n kids fs, v => ∃ A cap fv, v = .agg #[.int .i64 kind, .int .i64 lvl, .slice A n cap, fv] ∧ n ≤ cap ∧ cap ≤ 9223372036854775807 ∧ (A = none → n = 0 ∧ cap = 0) ∧ (∃ d, FlOk w B d fs fv) ∧
      (-9223372036854775808 ≤ kind ∧ kind ≤ 9223372036854775807 ∧ -9223372036854775808 ≤ lvl ∧ lvl ≤ 9223372036854775807) ∧
      (0 < n → ∃ b o, A = some ⟨b, o, none⟩ ∧ b < B ∧ ∀ i, i < n → ∃ r0 r1 r2 r3, RowC w b (o + i * 4) #[r0, r1, r2, r3] ∧ CAt w B (kids i) (.agg #[r0, r1, r2, r3]))
theorem CAt.keep {w w' : World} {B : Nat} (hk : ∀ k, k < B → w'.heap[k]? = w.heap[k]?) : ∀ {t : CT FC} {v : Value}, CAt w B t v → CAt w' B t v := by
  intro t
  induction t with
  | no => intro v h; exact h.elim
  | mk kind lvl n kids fs ih =>
    intro v h
    obtain ⟨A, cap, fv, h1, h2, h3, h4, ⟨d, h5⟩, hbd, h6⟩ := h
    refine ⟨A, cap, fv, h1, h2, h3, h4, ⟨d, h5.keep hk⟩, hbd, fun hn => ?_⟩
    obtain ⟨b, o, e, hb, hc⟩ := h6 hn
    refine ⟨b, o, e, hb, fun i hi => ?_⟩
    obtain ⟨r0, r1, r2, r3, g1, g2⟩ := hc i hi
    exact ⟨r0, r1, r2, r3, g1.keep hb hk, ih i g2⟩

/-- a call that answers v and changes nothing old -/
abbrev Says (w : World) (v : Value) (e : Ending) (w' : World) : Prop := e = .returned v ∧ Below w.heap.size w w'

theorem wrap8 (x : Int) : IntKind.i8.wrap x = w8 x := by unfold w8; simp [IntKind.wrap, IntKind.bits, IntKind.signed]; omega
