/- a text of the claims over the seat; its order and aim: NOTES.md -/
import Derived.Test.YtpllbhobcnglnaaGreatDoorZQH
namespace Go.Proofs.Zap
open Go Go.Proofs Go.RowKit

/-- an error, made anew -/
theorem err178 (s : ByteArray) (w : World) : Calls Tryz.prog 178 #[.string s] w fun e w' => (∃ t p, e = .returned (.iface t p)) ∧ Below w.heap.size w w' := by
  go_enter Tryz.func178, Tryz.ntmps178
  go_wp2_with fail
  go_ret
  exact ⟨⟨_, _, rfl⟩, (Below.refl _ _).alloc (Nat.le_refl _) _⟩

theorem nop116 (w : World) : Calls Tryz.prog 116 #[] w fun e w' => e = .returned (.iface 318 (.agg #[])) ∧ w' = w := by
  go_enter Tryz.func116, Tryz.ntmps116
  go_wp2_with fail
  go_ret
  exact ⟨rfl, rfl⟩

theorem lazy119 (t : TypeId) (p : Value) (gA : Option Addr) (n gc : Nat) (w : World) : Calls Tryz.prog 119 #[.iface t p, .slice gA n gc] w fun e w' => e = .returned (.iface 324 (.pointer (some ⟨w.heap.size, 0, none⟩))) ∧ w' = w.alloc (.cells #[.nilIface, .iface t p, .bool false, .slice gA n gc] 326) := by
  go_enter Tryz.func119, Tryz.ntmps119
  go_wp2_with fail
  go_ret
  exact ⟨rfl, rfl⟩

/-- may a core be increased to a level? -/
def incOk (p : Int → Bool) (a : Int) : Bool := !(anyB 7 fun j => decide (a ≤ (j : Int) - 1) && !p ((j : Int) - 1))
theorem incOk_no {p : Int → Bool} {a l : Int} (h0 : -1 ≤ l) (h1 : l ≤ 5) (hp : p l = false) (ha : a ≤ l) : incOk p a = false := by
  unfold incOk
  rw [anyB_true.2 ⟨(l + 1).toNat, by omega, by rw [show (((l + 1).toNat : Nat) : Int) - 1 = l by omega, hp]; simpa using ha⟩]; rfl
theorem incOk_yes {p : Int → Bool} {a : Int} (h : ∀ l, -1 ≤ l → l ≤ 5 → p l = false → ¬ a ≤ l) : incOk p a = true := by
  unfold incOk
  rw [anyB_false.2 fun i hi => ?_]; · rfl
  rcases hp : p ((i : Int) - 1) with _ | _
  · have := h _ (by omega) (by omega) hp
    simpa using this
  · simp

def Incd (w : World) (b : Bool) (a : Int) (v : Value) (e : Ending) (w' : World) : Prop :=
  Below w.heap.size w w' ∧ ((b = false ∧ ∃ x, e = .returned (.tuple #[.nilIface, x]) ∧ ∃ t p, x = .iface t p) ∨
    (b = true ∧ ∃ I, e = .returned (.tuple #[.iface 321 (.pointer (some ⟨I, 0, none⟩)), .nilIface]) ∧ w.heap.size ≤ I ∧ Blk w' I 323 #[v, .iface 129 (.int .i8 a)]))

set_option maxHeartbeats 2000000 in
theorem inc_any (p : Int → Bool) (a : Int) (t : TypeId) (q : Value) (w : World) (hi : ∀ l W, Below w.heap.size w W → Inv (.iface t q) "Enabled" [.int .i8 l] W (Says W (.bool (p l)))) :
    Calls Tryz.prog 118 #[.iface t q, .iface 129 (.int .i8 a)] w (Incd w (incOk p a) a (.iface t q)) := by
  have HI := Lib.hid hi
  have HB0 := Lib.hid (Below.refl w.heap.size w)
  clear hi
  go_enter Tryz.func118, Tryz.ntmps118
  go_wp2_with fail
  go_loopw [6] (fun i wr => ∃ l : Int, i = .int .i8 l ∧ -2 ≤ l ∧ l ≤ 5 ∧ (∀ m, l < m → m ≤ 5 → p m = false → m < a) ∧ Hid (Below w.heap.size w wr)) (fun i _ => (intOf i + 2).toNat)
  case atStart => exact ⟨5, rfl, by omega, by omega, fun m h0 h1 => by omega, HB0⟩
  case round =>
    obtain ⟨l, rfl, hl0, hl1, hall, hbl⟩ := hrel
    by_cases hlt : -1 ≤ l
    · obtain ⟨t2, q2, f, r, o, ev, i1, i2, i3, i5, i4⟩ := HI.out l wr hbl.out
      cases ev
      have hw : IntKind.i8.wrap (l - 1) = l - 1 := by rw [wrap8, w8_id (by omega) (by omega)]
      have n1 := fun l w => nlL l w
      have n2 := fun l w => mtL l w
      have I4 := Lib.hid i4
      have io : o = none ∨ o = some false := by rcases o with _ | _ | _ <;> simp at i2 ⊢
      clear i4 i2
      rcases io with rfl | rfl
      all_goals
        go_wp2_with fail
        refine I4.out.mono ?_
        rintro e w' ⟨rfl, hb'⟩
        have hsz := hbl.out.size
        have HB := Lib.hid (hbl.out.trans (hb'.mono hsz))
        clear hb' hbl i1 i3
        rcases hp : p l with _ | _
        · go_wp2_with fail
          refine (lvlEn a l _).mono ?_
          rintro e w2 ⟨rfl, hb2⟩
          have hsz2 := HB.out.size
          have HB2 := Lib.hid (HB.out.trans (hb2.mono hsz2))
          clear hb2
          by_cases hal : a ≤ l
          · have hd : decide (a ≤ l) = true := by simpa using hal
            go_wp2_with fail
            refine (err178 _ _).mono ?_
            rintro e w3 ⟨⟨t3, p3, rfl⟩, hb3⟩
            have hsz3 := HB2.out.size
            have HB3 := Lib.hid (HB2.out.trans (hb3.mono hsz3))
            clear hb3
            go_wp2_with fail
            go_ret2
            exact ⟨HB3.out, .inl ⟨incOk_no hlt hl1 hp hal, _, rfl, _, _, rfl⟩⟩
          · have hd : decide (a ≤ l) = false := by simpa using hal
            go_wp2_with fail
            go_roundw
            case rel => exact ⟨l - 1, rfl, by omega, by omega, fun m h0 h1 hm => if e : m = l then e ▸ (Int.not_le.1 (by simpa using hd)) else hall m (by omega) h1 hm, HB2⟩
            case measure => simp [intOf]; omega
        · go_wp2_with fail
          go_roundw
          case rel => exact ⟨l - 1, rfl, by omega, by omega, fun m h0 h1 hm => if e : m = l then absurd hm (by rw [e, hp]; decide) else hall m (by omega) h1 hm, HB⟩
          case measure => simp [intOf]; omega
    · go_wp2_with fail
      go_ret2
      have hsz := hbl.out.size
      exact ⟨hbl.out.alloc hsz _, .inr ⟨incOk_yes fun m h0 h1 hm => by have := hall m (by omega) h1 hm; omega, _, rfl, hsz, Blk.new wr 323 _⟩⟩
end Go.Proofs.Zap
