/- a text of the claims over the seat; its order and aim: NOTES.md -/
import Derived.Test.YtpllbhobcnglnaaGreatDoorZT1
import Derived.Test.YtpllbhobcnglnaaGreatDoorZK
import Derived.Deep.RegionHeld3
import Derived.Deep.RegionWith
import Derived.Deep.Slices
import Derived.Deep.Fields
import Derived.ChangeArms
import Derived.ChangeSame
namespace Go.Proofs.Zap
open Go Go.Proofs Go.RowKit

/-- a field's cells -/
structure FC where
  kind : Int
  key : ByteArray
  width : Int
  int : Int
  uint : Int
  re : Int
  im : Int
  text : ByteArray
  bytes : Value
  zero : Bool
  nanos : Int
  offs : Int
  zone : ByteArray
  items : Value
  fail : ByteArray

def FC.arr (c : FC) : Array Value := #[.int .i64 c.kind, .string c.key, .int .i64 c.width, .int .i64 c.int, .int .u64 c.uint, .int .u64 c.re, .int .u64 c.im, .string c.text, c.bytes, .bool c.zero, .int .i64 c.nanos, .int .i64 c.offs, .string c.zone, c.items, .string c.fail]

/-- cells in a row -/
def RowC (w : World) (b o : Nat) (cs : Array Value) : Prop := ∀ j v, cs[j]? = some v → w.cell? ⟨b, o + j, none⟩ = some v

/-- a slice that holds bytes -/
def BytesOk (w : World) (B : Nat) (v : Value) : Prop :=
  ∃ A n cap, v = .slice A n cap ∧ n ≤ cap ∧ cap ≤ 9223372036854775807 ∧ (A = none → n = 0 ∧ cap = 0) ∧ (0 < n → ∃ b o, A = some ⟨b, o, none⟩ ∧ b < B ∧ ∀ i, i < n → ∃ x : UInt8, w.cell? ⟨b, o + i, none⟩ = some (.int .u8 x.toNat))

/-- a slice that holds fields, so many levels deep -/
def FsOk (w : World) (B : Nat) : Nat → Value → Prop
  | 0, _ => False
  | d + 1, v => ∃ A n cap, v = .slice A n cap ∧ n ≤ cap ∧ cap ≤ 9223372036854775807 ∧ ((A = none → n = 0 ∧ cap = 0) ∧ n ≤ 765000000000) ∧
      (0 < n → ∃ b o, A = some ⟨b, o, none⟩ ∧ b < B ∧ ∀ i, i < n → ∃ c : FC, RowC w b (o + i * 15) c.arr ∧ BytesOk w B c.bytes ∧ FsOk w B d c.items ∧
        (c.key.size ≤ 9223372036854775807 ∧ c.text.size ≤ 9223372036854775807 ∧ c.zone.size ≤ 9223372036854775807 ∧ c.fail.size ≤ 9223372036854775807))

theorem RowC.keep {w w' : World} {b o B : Nat} {cs : Array Value} (h : RowC w b o cs) (hb : b < B) (hk : ∀ k, k < B → w'.heap[k]? = w.heap[k]?) : RowC w' b o cs :=
  fun j v hj => (World.cell?_of_block (w := w) (hk b hb)).trans (h j v hj)
theorem BytesOk.keep {w w' : World} {B : Nat} {v : Value} (h : BytesOk w B v) (hk : ∀ k, k < B → w'.heap[k]? = w.heap[k]?) : BytesOk w' B v := by
  obtain ⟨A, n, cap, h1, h2, h3, h4, h5⟩ := h
  refine ⟨A, n, cap, h1, h2, h3, h4, fun hn => ?_⟩
  obtain ⟨b, o, e, hb, hc⟩ := h5 hn
  exact ⟨b, o, e, hb, fun i hi => let ⟨x, hx⟩ := hc i hi; ⟨x, (World.cell?_of_block (w := w) (hk b hb)).trans hx⟩⟩
theorem FsOk.keep {w w' : World} {B : Nat} (hk : ∀ k, k < B → w'.heap[k]? = w.heap[k]?) : ∀ {d : Nat} {v : Value}, FsOk w B d v → FsOk w' B d v
  | 0, _, h => h.elim
  | d + 1, v, h => by
    obtain ⟨A, n, cap, h1, h2, h3, h4, h5⟩ := h
    refine ⟨A, n, cap, h1, h2, h3, h4, fun hn => ?_⟩
    obtain ⟨b, o, e, hb, hc⟩ := h5 hn
    refine ⟨b, o, e, hb, fun i hi => ?_⟩
    obtain ⟨c, g1, g2, g3, g4⟩ := hc i hi
    exact ⟨c, g1.keep hb hk, g2.keep hk, FsOk.keep hk g3, g4⟩

/-- only these blocks may have changed -/
structure Kept (S : Nat → Prop) (w w' : World) : Prop where
  os : w'.os = w.os
  tape : w'.tape = w.tape
  output : w'.output = w.output
  size : w.heap.size ≤ w'.heap.size
  block : ∀ k, k < w.heap.size → ¬ S k → w'.heap[k]? = w.heap[k]?
theorem Kept.refl (S : Nat → Prop) (w : World) : Kept S w w := ⟨rfl, rfl, rfl, Nat.le_refl _, fun _ _ _ => rfl⟩
theorem Kept.trans {S : Nat → Prop} {a b c : World} (h : Kept S a b) (k : Kept S b c) : Kept S a c :=
  ⟨k.os.trans h.os, k.tape.trans h.tape, k.output.trans h.output, Nat.le_trans h.size k.size, fun i hi hs => (k.block i (Nat.lt_of_lt_of_le hi h.size) hs).trans (h.block i hi hs)⟩
theorem Kept.of_below {S : Nat → Prop} {w w' : World} (h : Below w.heap.size w w') : Kept S w w' := ⟨h.os, h.tape, h.output, h.size, fun k hk _ => h.block k hk⟩
theorem Kept.set {S : Nat → Prop} (w : World) {p : Addr} (hp : S p.block) (v : Value) : Kept S w (w.setCell p v) :=
  ⟨rfl, rfl, rfl, by simp [World.setCell], fun k hk hs => Below.heap_setCell w p v k (fun e => hs (e ▸ hp))⟩
theorem Kept.set1 (w : World) (F i : Nat) (v : Value) : Kept (fun k => k = F) w (w.setCell ⟨F, i, none⟩ v) := Kept.set (S := fun k => k = F) w (p := ⟨F, i, none⟩) rfl v
theorem Kept.drewN {S : Nat → Prop} (w : World) (n : Nat) : Kept S w (w.drewN n) := ⟨rfl, rfl, rfl, Nat.le_refl _, fun _ _ _ => rfl⟩

/-- how many elements a slice has -/
def lenV : Value → Nat
  | .slice _ n _ => n
  | _ => 0

/-- a call that answers some bool, and leaves some number in block F: false: it has grown by n at least, to 300 at most -/
def Counts (w : World) (F n : Nat) (x : Int) (e : Ending) (w' : World) : Prop :=
  ∃ (b : Bool) (x' : Int), e = .returned (.bool b) ∧ Blk w' F 3 #[.int .i64 x'] ∧ Kept (fun k => k = F) w w' ∧ (b = false → 0 ≤ x → x ≤ 300 → x + n ≤ x' ∧ x' ≤ 300)

theorem FsOk.drew' {w : World} {B d : Nat} {v : Value} (h : FsOk w B d v) : FsOk w.drew B d v := FsOk.keep (w := w) (w' := w.drew) (fun _ _ => rfl) h

/-- the cells that a round reads -/
abbrev Zc (w' : World) (b o : Nat) (c : FC) (bA : Option Addr) (bn bcap : Nat) : Prop :=
  w'.cell? ⟨b, o + 1, none⟩ = some (.string c.key) ∧ w'.cell? ⟨b, o + 7, none⟩ = some (.string c.text) ∧ w'.cell? ⟨b, o + 8, none⟩ = some (.slice bA bn bcap) ∧ w'.cell? ⟨b, o + 13, none⟩ = some c.items ∧ w'.cell? ⟨b, o + 14, none⟩ = some (.string c.fail)
theorem Zc.keep {w w' : World} {b o : Nat} {c : FC} {bA : Option Addr} {bn bcap : Nat} (h : Zc w b o c bA bn bcap) (hk : ∀ o', w'.cell? ⟨b, o', none⟩ = w.cell? ⟨b, o', none⟩) : Zc w' b o c bA bn bcap :=
  ⟨(hk _).trans h.1, (hk _).trans h.2.1, (hk _).trans h.2.2.1, (hk _).trans h.2.2.2.1, (hk _).trans h.2.2.2.2⟩

set_option maxHeartbeats 4000000 in
theorem zcount_any (F B : Nat) : ∀ (k : Nat), k ≤ 1000 → ∀ (d : Nat) (v : Value) (x : Int) (w : World), FsOk w B d v → B ≤ F → B ≤ w.heap.size → Blk w F 3 #[.int .i64 x] →
    Calls Tryz.prog 82 #[v, .int .i64 k, .pointer (some ⟨F, 0, none⟩)] w (Counts w F (lenV v) x) := by
  intro k
  induction k with
  | zero =>
    intro hk1000 d v x w hf hBF hBw hF
    cases d with
    | zero => exact hf.elim
    | succ d =>
      obtain ⟨A, n, cap, rfl, h2, h3, h4, h5⟩ := hf
      have hc := hF.cell 0
      have hfz := hF.frozen 0
      simp at hc
      have hF2 := fun y => hF.set_ 0 (.int .i64 y)
      simp at hF2
      have HF2 := Lib.hid hF2
      clear hF hF2 h5 h4
      go_enter Tryz.func82, Tryz.ntmps82
      go_wp2_with fail
      go_ret
      exact ⟨true, _, rfl, HF2.out _, Kept.set1 w F 0 _, fun h => by cases h⟩
  | succ k ih =>
    intro hk1000 d v x w hf hBF hBw hF
    cases d with
    | zero => exact hf.elim
    | succ d =>
      obtain ⟨A, n, cap, rfl, h2, h3, ⟨h4, hM⟩, h5⟩ := hf
      have hc := hF.cell 0
      have hfz := hF.frozen 0
      simp at hc
      have hF2 := hF.set_ 0 (.int .i64 (wrap64 (x + n)))
      simp at hF2
      have hk0 : Kept (fun k => k = F) w (w.setCell ⟨F, 0, none⟩ (.int .i64 (wrap64 (x + n)))) := Kept.set1 w F 0 _
      have HF2 := Lib.hid hF2
      have HK0 := Lib.hid hk0
      have H5 := Lib.hid h5
      have hz : (((k + 1 : Nat) : Int) == 0) = false := by simp; omega
      have hwn : 0 ≤ x → x ≤ 300 → wrap64 (x + n) = x + n := fun h0 h1 => by unfold wrap64; omega
      have HWN := Lib.hid hwn
      clear hF hF2 h5 h4 hk0 hM hwn
      by_cases hy : 300 < wrap64 (x + n)
      · go_enter Tryz.func82, Tryz.ntmps82
        go_wp2_with fail
        go_ret
        exact ⟨true, _, rfl, HF2.out, HK0.out, fun h => by cases h⟩
      · have hq0 : 0 ≤ x → x ≤ 300 → x + n ≤ wrap64 (x + n) ∧ wrap64 (x + n) ≤ 300 := fun h0 h1 => by
          have := HWN.out h0 h1; omega
        have HQ0 := Lib.hid hq0
        clear hq0 HWN
        go_enter Tryz.func82, Tryz.ntmps82
        go_wp2_with fail
        go_loopw [7] (fun i wr => ∃ (j : Nat) (y : Int), i = .int .i64 j ∧ j ≤ n ∧ Hid (0 ≤ x → x ≤ 300 → x + n ≤ y ∧ y ≤ 300) ∧ Hid (Blk wr F 3 #[.int .i64 y]) ∧ Hid (Kept (fun k => k = F) w wr)) (fun i _ => n - (intOf i).toNat)
        case atStart => exact ⟨0, _, rfl, by omega, HQ0, HF2, HK0⟩
        case round =>
          obtain ⟨j, y, rfl, hj, hQ, hB, hK⟩ := hrel
          by_cases hlt : j < n
          · obtain ⟨b, o, rfl, hb, hcs⟩ := H5.out (by omega)
            obtain ⟨c, hrow, hby, hit, b1, b2, b3, b4⟩ := hcs j hlt
            obtain ⟨bA, bn, bcap, hbe, hbl, hbm, _, _⟩ := hby
            have c1 : w.cell? ⟨b, o + j * 15 + 1, none⟩ = some (.string c.key) := hrow 1 _ rfl
            have c7 : w.cell? ⟨b, o + j * 15 + 7, none⟩ = some (.string c.text) := hrow 7 _ rfl
            have c8 : w.cell? ⟨b, o + j * 15 + 8, none⟩ = some c.bytes := hrow 8 _ rfl
            have c13 : w.cell? ⟨b, o + j * 15 + 13, none⟩ = some c.items := hrow 13 _ rfl
            have c14 : w.cell? ⟨b, o + j * 15 + 14, none⟩ = some (.string c.fail) := hrow 14 _ rfl
            rw [hbe] at c8
            obtain ⟨s1, e1⟩ : ∃ s1, IntKind.i64.wrap ((c.key.size : Int) + (c.text.size : Int)) = s1 := ⟨_, rfl⟩
            obtain ⟨s2, e2⟩ : ∃ s2, IntKind.i64.wrap (s1 + (bn : Int)) = s2 := ⟨_, rfl⟩
            obtain ⟨s3, e3⟩ : ∃ s3, IntKind.i64.wrap (s2 + (c.fail.size : Int)) = s3 := ⟨_, rfl⟩
            have q0 : (0 : Int) ≤ (j : Int) := Int.natCast_nonneg _
            have q1 : (j : Int) < (n : Int) := by omega
            have hbF : b ≠ F := by omega
            have hs := hK.out.size
            have hbw : b < w.heap.size := by
              have := World.block_lt_of_cell? w _ c1
              exact this
            have kc : ∀ o', wr.cell? ⟨b, o', none⟩ = w.cell? ⟨b, o', none⟩ := fun o' => World.cell?_of_block (w := w) (hK.out.block b hbw hbF)
            have d1 := (kc _).trans c1
            have d7 := (kc _).trans c7
            have d8 := (kc _).trans c8
            have d13 := (kc _).trans c13
            have d14 := (kc _).trans c14
            have hit2 := hit.keep (w' := wr) (B := B) (fun k hk => by
              exact hK.out.block k (by omega) (by omega))
            have HIT := Lib.hid hit2
            clear c1 c7 c8 c13 c14 kc hrow hcs hbe hit hit2
            by_cases hg : 2000 < s3
            · have hgd : decide ((2000 : Int) < s3) = true := by simpa using hg
              go_wp2_with fail
              go_quiet (fail)
              go_wp2_with fail
              go_ret
              exact ⟨true, y, rfl, hB.out.drewN _, hK.out.trans (Kept.drewN _ _), fun h => by cases h⟩
            · have hgd : decide ((2000 : Int) < s3) = false := by simpa using hg
              have hcl : ∀ W : World, W.heap = wr.heap → Calls Tryz.prog 82 #[c.items, .int .i64 k, .pointer (some ⟨F, 0, none⟩)] W (Counts W F (lenV c.items) y) := fun W hW =>
                ih (by omega) d c.items y W (HIT.out.keep fun k _ => by rw [hW]) hBF (by rw [hW]; omega) (by have := hB.out; unfold Blk at this ⊢; rw [hW]; exact this)
              have HCL := Lib.hid hcl
              have hks : IntKind.i64.wrap (k : Int) = (k : Int) := IntWalk.i64_in _ (by omega)
              have HKd := Lib.hid (hK.out.trans (Kept.drewN _ 1))
              have hbr : b < wr.heap.size := by omega
              have hs0 : Zc wr.drew b (o + j * 15) c bA bn bcap := ⟨d1, d7, d8, d13, d14⟩
              have HS := Lib.hid hs0
              have hkp : ∀ w', Kept (fun k => k = F) wr.drew w' → Zc w' b (o + j * 15) c bA bn bcap := fun w' hk => hs0.keep fun o' => World.cell?_of_block (w := wr.drew) (hk.block b hbr hbF)
              have HKP := Lib.hid hkp
              clear HIT hcl hB hs0 hkp
              go_wp2_with fail
              go_region_held3 (fun w' => Zc w' b (o + j * 15) c bA bn bcap) (first | exact HS.out | exact HKP.out _ hk') ((go_at_call 82; (refine (HCL.out _ ?_).mono ?_); rfl; rintro e w' ⟨bb, x', rfl, hb', hk', hq'⟩))
              all_goals
                have HY2 := Lib.hid hb'
                have HKQ := Lib.hid (Kept.trans HKd.out hk')
                have HQ2 := Lib.hid hq'
                clear HCL HKd HKP HS hb' hk' hq' d1 d7 d8 d13 d14
                cases bb
                · have HQ3 : Hid (0 ≤ x → x ≤ 300 → x + n ≤ x' ∧ x' ≤ 300) := Lib.hid fun h0 h1 => by
                    have g1 := hQ.out h0 h1
                    have g2 := HQ2.out rfl (by omega) (by omega)
                    omega
                  go_wp2_with fail
                  go_roundw
                  case rel => exact ⟨j + 1, x', by go_num, by omega, HQ3, HY2, HKQ⟩
                  case measure => simp [intOf]; omega
                · go_wp2_with fail
                  go_ret
                  exact ⟨true, x', rfl, HY2.out, HKQ.out, fun h => by cases h⟩
          · go_wp2_with fail
            go_ret
            exact ⟨false, y, rfl, hB.out, hK.out, fun _ => hQ.out⟩
end Go.Proofs.Zap
