/- a text of the claims over the seat; its order and aim: NOTES.md -/
import Derived.Test.YtpllbhobcnglnaaGreatDoorZQ7
namespace Go.Proofs.Zap
open Go Go.Proofs Go.RowKit

/-- a field as it is carried: a row of five cells -/
def CR (c : FC) : Array Value := #[.string c.key, .int .u8 27, .int .i64 0, .string ⟨#[]⟩, .iface 135 (.agg c.arr)]

/-- a slice of carried fields, its block in S -/
def GFs (w : World) (S : Nat → Prop) (fs : List FC) (v : Value) : Prop :=
  ∃ A cap, v = .slice A fs.length cap ∧ fs.length ≤ cap ∧ cap ≤ 9223372036854775807 ∧ (A = none → fs.length = 0 ∧ cap = 0) ∧
    (0 < fs.length → ∃ b o, A = some ⟨b, o, none⟩ ∧ S b ∧ ∀ i c, fs[i]? = some c → RowC w b (o + i * 5) (CR c))
theorem GFs.keep {w w' : World} {S : Nat → Prop} {fs : List FC} {v : Value} (h : GFs w S fs v) (hk : ∀ k, S k → w'.heap[k]? = w.heap[k]?) : GFs w' S fs v := by
  obtain ⟨A, cap, h1, h2, h3, h4, h5⟩ := h
  refine ⟨A, cap, h1, h2, h3, h4, fun hn => ?_⟩
  obtain ⟨b, o, e, hb, hc⟩ := h5 hn
  exact ⟨b, o, e, hb, fun i c hi j v hj => (World.cell?_of_block (w := w) (hk b hb)).trans (hc i c hi j v hj)⟩
theorem GFs.mono {w : World} {S S' : Nat → Prop} {fs : List FC} {v : Value} (h : GFs w S fs v) (hs : ∀ k, S k → S' k) : GFs w S' fs v := by
  obtain ⟨A, cap, h1, h2, h3, h4, h5⟩ := h
  refine ⟨A, cap, h1, h2, h3, h4, fun hn => ?_⟩
  obtain ⟨b, o, e, hb, hc⟩ := h5 hn
  exact ⟨b, o, e, hs b hb, hc⟩

/-- a built core in memory: its blocks in S, the notes at N -/
def RepG (ok : Prop) (Y : (Nat → Prop) → KT FC → Value → Prop) (w : World) (N : Nat) : KT FC → (Nat → Prop) → Value → Prop
  | .leaf lvl num fs, S, v => ∃ L g, v = .iface 201 (.pointer (some ⟨L, 0, none⟩)) ∧ S L ∧ Blk w L 205 #[.iface 129 (.int .i8 lvl), .int .i64 num, g, .pointer (some ⟨N, 0, none⟩)] ∧ GFs w S fs g ∧ -128 ≤ lvl ∧ lvl ≤ 127
  | .nop, _, v => v = .iface 318 (.agg #[])
  | .tee n kids, S, v => ∃ T cap, ∃ Sk : Nat → Nat → Prop, ∃ vs : Nat → Value, v = .iface 319 (.slice (some ⟨T, 0, none⟩) n cap) ∧ n ≤ cap ∧ cap ≤ 9223372036854775807 ∧ S T ∧
      (∀ i, i < n → (∀ k, Sk i k → S k) ∧ ¬ Sk i T ∧ (∀ j, j < n → j ≠ i → ∀ k, Sk i k → ¬ Sk j k) ∧ w.cell? ⟨T, i, none⟩ = some (vs i) ∧ RepG ok Y w N (kids i) (Sk i) (vs i))
  | .incr lvl k, S, v => ∃ I vc, ∃ S1 : Nat → Prop, v = .iface 321 (.pointer (some ⟨I, 0, none⟩)) ∧ S I ∧ Blk w I 323 #[vc, .iface 129 (.int .i8 lvl)] ∧ (∀ j, S1 j → S j) ∧ ¬ S1 I ∧ RepG ok Y w N k S1 vc ∧ -128 ≤ lvl ∧ lvl ≤ 127
  | .lazy k fs, S, v => ok ∧ ∃ Z vo g, ∃ S1 SG : Nat → Prop, v = .iface 324 (.pointer (some ⟨Z, 0, none⟩)) ∧ S Z ∧ (∀ j, S1 j → S j) ∧ (∀ j, SG j → S j) ∧ ¬ S1 Z ∧ ¬ SG Z ∧ (∀ j, SG j → ¬ S1 j) ∧ RepG ok Y w N k S1 vo ∧ GFs w SG fs g ∧
      (Blk w Z 326 #[.nilIface, vo, .bool false, g] ∨ ∃ vy, ∃ S2 : Nat → Prop, Blk w Z 326 #[vy, vo, .bool true, g] ∧ (∀ j, S2 j → S j) ∧ ¬ S2 Z ∧ (∀ j, S2 j → ¬ S1 j) ∧ Y S2 (withF fs k) vy)

def RepF (w : World) (N : Nat) (K : KT FC) (S : Nat → Prop) (v : Value) : Prop := RepG False (fun _ _ _ => False) w N K S v
def Rep (w : World) (N : Nat) (K : KT FC) (S : Nat → Prop) (v : Value) : Prop := RepG True (fun S2 K2 v2 => RepF w N K2 S2 v2) w N K S v

theorem RepG.keep {ok : Prop} {Y Y' : (Nat → Prop) → KT FC → Value → Prop} {w w' : World} {N : Nat} {K : KT FC} : ∀ {S : Nat → Prop} {v : Value}, (hY : ∀ S2 K2 v2, (∀ k, S2 k → S k) → Y S2 K2 v2 → Y' S2 K2 v2) → RepG ok Y w N K S v → (∀ k, S k → w'.heap[k]? = w.heap[k]?) → RepG ok Y' w' N K S v := by
  induction K with
  | leaf lvl num fs =>
    intro S v hY h hk
    obtain ⟨L, g, h1, h2, h3, h4, h5⟩ := h
    exact ⟨L, g, h1, h2, (hk L h2).trans h3, h4.keep hk, h5⟩
  | nop => intro S v hY h hk; exact h
  | tee n kids ih =>
    intro S v hY h hk
    obtain ⟨T, cap, Sk, vs, h1, h2, h3, h4, h5⟩ := h
    refine ⟨T, cap, Sk, vs, h1, h2, h3, h4, fun i hi => ?_⟩
    obtain ⟨g1, g2, g3, g4, g5⟩ := h5 i hi
    exact ⟨g1, g2, g3, (World.cell?_of_block (w := w) (hk T h4)).trans g4, ih i (fun S2 K2 v2 hs hy => hY S2 K2 v2 (fun k h => g1 k (hs k h)) hy) g5 fun k hk2 => hk k (g1 k hk2)⟩
  | incr lvl k ih =>
    intro S v hY h hk
    obtain ⟨I, vc, S1, h1, h2, h3, h4, h5, h6, h7⟩ := h
    exact ⟨I, vc, S1, h1, h2, (hk I h2).trans h3, h4, h5, ih (fun S2 K2 v2 hs hy => hY S2 K2 v2 (fun k h => h4 k (hs k h)) hy) h6 fun k hk2 => hk k (h4 k hk2), h7⟩
  | lazy k fs ih =>
    intro S v hY h hk
    obtain ⟨h0, Z, vo, g, S1, SG, h1, h2, h3, h4, h5, h6, h7, h8, h9, h10⟩ := h
    refine ⟨h0, Z, vo, g, S1, SG, h1, h2, h3, h4, h5, h6, h7, ih (fun S2 K2 v2 hs hy => hY S2 K2 v2 (fun k h => h3 k (hs k h)) hy) h8 fun k hk2 => hk k (h3 k hk2), h9.keep fun k hk2 => hk k (h4 k hk2), ?_⟩
    rcases h10 with h10 | ⟨vy, S2, g1, g2, g3, g4, g5⟩
    · exact .inl ((hk Z h2).trans h10)
    · exact .inr ⟨vy, S2, (hk Z h2).trans g1, g2, g3, g4, hY S2 _ vy g2 g5⟩
theorem RepF.keep {w w' : World} {N : Nat} {K : KT FC} {S : Nat → Prop} {v : Value} (h : RepF w N K S v) (hk : ∀ k, S k → w'.heap[k]? = w.heap[k]?) : RepF w' N K S v :=
  RepG.keep (fun _ _ _ _ h => h) h hk
theorem Rep.keep {w w' : World} {N : Nat} {K : KT FC} {S : Nat → Prop} {v : Value} (h : Rep w N K S v) (hk : ∀ k, S k → w'.heap[k]? = w.heap[k]?) : Rep w' N K S v :=
  RepG.keep (fun _ _ _ hs h => RepF.keep h fun k hk2 => hk k (hs k hk2)) h hk
theorem RepG.weaken {ok ok' : Prop} {Y Y' : (Nat → Prop) → KT FC → Value → Prop} (hok : ok → ok') (hY : ∀ S2 K2 v2, Y S2 K2 v2 → Y' S2 K2 v2) {w : World} {N : Nat} {K : KT FC} : ∀ {S : Nat → Prop} {v : Value}, RepG ok Y w N K S v → RepG ok' Y' w N K S v := by
  induction K with
  | leaf lvl num fs => intro S v h; exact h
  | nop => intro S v h; exact h
  | tee n kids ih =>
    intro S v h
    obtain ⟨T, cap, Sk, vs, h1, h2, h3, h4, h5⟩ := h
    refine ⟨T, cap, Sk, vs, h1, h2, h3, h4, fun i hi => ?_⟩
    obtain ⟨g1, g2, g3, g4, g5⟩ := h5 i hi
    exact ⟨g1, g2, g3, g4, ih i g5⟩
  | incr lvl k ih =>
    intro S v h
    obtain ⟨I, vc, S1, h1, h2, h3, h4, h5, h6, h7⟩ := h
    exact ⟨I, vc, S1, h1, h2, h3, h4, h5, ih h6, h7⟩
  | lazy k fs ih =>
    intro S v h
    obtain ⟨h0, Z, vo, g, S1, SG, h1, h2, h3, h4, h5, h6, h7, h8, h9, h10⟩ := h
    refine ⟨hok h0, Z, vo, g, S1, SG, h1, h2, h3, h4, h5, h6, h7, ih h8, h9, ?_⟩
    rcases h10 with h10 | ⟨vy, S2, g1, g2, g3, g4, g5⟩
    · exact .inl h10
    · exact .inr ⟨vy, S2, g1, g2, g3, g4, hY _ _ _ g5⟩
theorem RepF.rep {w : World} {N : Nat} {K : KT FC} {S : Nat → Prop} {v : Value} (h : RepF w N K S v) : Rep w N K S v :=
  RepG.weaken (fun h => h.elim) (fun _ _ _ h => h.elim) h
end Go.Proofs.Zap
