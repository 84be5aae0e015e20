/- a text of the claims over the seat; its order and aim: NOTES.md -/
import Derived.Test.YtpllbhobcnglnaaGreatDoorZQC0
namespace Go.Proofs.Zap
open Go Go.Proofs Go.RowKit

theorem FlOk.bd {w : World} {B d : Nat} {fs : List FC} {v : Value} (h : FlOk w B d fs v) : ∃ A cap, v = .slice A fs.length cap := by
  obtain ⟨A, cap, h1, _⟩ := h; exact ⟨A, cap, h1⟩

def crows (fs : List FC) : List Value := fs.flatMap fun c => (CR c).toList

set_option maxHeartbeats 4000000 in
set_option maxRecDepth 100000 in
theorem carried_any (B d : Nat) (fs : List FC) (v : Value) (w : World) (hf : FlOk w B d fs v) (hB : B ≤ w.heap.size) (hn : fs.length ≤ 765000000000) :
    Calls Tryz.prog 83 #[v] w fun e w' => ∃ v', e = .returned v' ∧ w'.ownsRow w.heap.size 176 5 v' fs.length (crows fs) ∧ Below w.heap.size w w' := by
  obtain ⟨A, cap, rfl, h2, h3, h4, h5⟩ := hf
  generalize hnn : fs.length = n at *
  have HNN := Lib.hid hnn
  have H5 := Lib.hid h5
  have HN := Lib.hid hn
  have hO0 : w.ownsRow w.heap.size 176 5 (.slice none 0 0) 0 (crows (fs.take 0)) := ⟨by simp [crows], .inl ⟨rfl, rfl⟩⟩
  have HO0 := Lib.hid hO0
  have HB0 := Lib.hid (Below.refl w.heap.size w)
  clear h5 hn hO0 h4 hnn
  go_enter Tryz.func83, Tryz.ntmps83
  go_wp2_with fail
  go_loopw [3, 8] (fun s i wr => ∃ j : Nat, i = .int .i64 j ∧ j ≤ n ∧ Hid (wr.ownsRow w.heap.size 176 5 s j (crows (fs.take j))) ∧ Hid (Below w.heap.size w wr)) (fun _ i _ => n - (intOf i).toNat)
  case atStart => exact ⟨0, rfl, by omega, HO0, HB0⟩
  case round =>
    obtain ⟨j, rfl, hj, hO, hbl⟩ := hrel
    by_cases hlt : j < n
    · obtain ⟨b, o, rfl, hb, hcs⟩ := H5.out (by omega)
      have hjl : j < fs.length := by have := HNN.out; omega
      have g1 := (hcs j (fs[j]'hjl) (by simp [hjl])).1
      obtain ⟨bA, bn, bc, hbe⟩ : ∃ bA bn bc, (fs[j]'hjl).bytes = .slice bA bn bc := by
        obtain ⟨x, y, z, e, _⟩ := (hcs j (fs[j]'hjl) (by simp [hjl])).2.1
        exact ⟨x, y, z, e⟩
      obtain ⟨iA, im, ic, hie⟩ : ∃ iA im ic, (fs[j]'hjl).items = .slice iA im ic := by
        have := (hcs j (fs[j]'hjl) (by simp [hjl])).2.2.1
        cases d with
        | zero => exact this.elim
        | succ d => obtain ⟨x, y, z, e, _⟩ := this; exact ⟨x, y, z, e⟩
      have kb : ∀ k, k < B → wr.heap[k]? = w.heap[k]? := fun k hk => hbl.out.block k (by omega)
      have g := g1.keep hb kb
      have q0 : (0 : Int) ≤ (j : Int) := Int.natCast_nonneg _
      have q1 : (j : Int) < (n : Int) := by omega
      obtain ⟨c, hc⟩ : ∃ c, c = fs[j]'hjl := ⟨_, rfl⟩
      rw [← hc] at g hbe hie
      have c0 : wr.cell? ⟨b, o + j * 15, none⟩ = some (.int .i64 c.kind) := g 0 _ rfl
      have c1 : wr.cell? ⟨b, o + j * 15 + 1, none⟩ = some (.string c.key) := g 1 _ rfl
      have c2 : wr.cell? ⟨b, o + j * 15 + 2, none⟩ = some (.int .i64 c.width) := g 2 _ rfl
      have c3 : wr.cell? ⟨b, o + j * 15 + 3, none⟩ = some (.int .i64 c.int) := g 3 _ rfl
      have c4 : wr.cell? ⟨b, o + j * 15 + 4, none⟩ = some (.int .u64 c.uint) := g 4 _ rfl
      have c5 : wr.cell? ⟨b, o + j * 15 + 5, none⟩ = some (.int .u64 c.re) := g 5 _ rfl
      have c6 : wr.cell? ⟨b, o + j * 15 + 6, none⟩ = some (.int .u64 c.im) := g 6 _ rfl
      have c7 : wr.cell? ⟨b, o + j * 15 + 7, none⟩ = some (.string c.text) := g 7 _ rfl
      have c8 : wr.cell? ⟨b, o + j * 15 + 8, none⟩ = some c.bytes := g 8 _ rfl
      have c9 : wr.cell? ⟨b, o + j * 15 + 9, none⟩ = some (.bool c.zero) := g 9 _ rfl
      have c10 : wr.cell? ⟨b, o + j * 15 + 10, none⟩ = some (.int .i64 c.nanos) := g 10 _ rfl
      have c11 : wr.cell? ⟨b, o + j * 15 + 11, none⟩ = some (.int .i64 c.offs) := g 11 _ rfl
      have c12 : wr.cell? ⟨b, o + j * 15 + 12, none⟩ = some (.string c.zone) := g 12 _ rfl
      have c13 : wr.cell? ⟨b, o + j * 15 + 13, none⟩ = some c.items := g 13 _ rfl
      have c14 : wr.cell? ⟨b, o + j * 15 + 14, none⟩ = some (.string c.fail) := g 14 _ rfl
      rw [hbe] at c8
      rw [hie] at c13
      have HCJ := Lib.hid hc
      have HBE := Lib.hid hbe
      have HIE := Lib.hid hie
      clear hbe hie
      clear hcs g1 g kb hc
      have hform : ∃ a cp, u3 = .slice a j cp := by
        rcases hO.out.2 with ⟨e1, e2⟩ | ⟨g, cp, cur, e1, _⟩
        · exact ⟨none, 0, by rw [e1, e2]⟩
        · exact ⟨_, cp, e1⟩
      obtain ⟨ra, rcp, rfl⟩ := hform
      go_wp2_with (at_builtin; refine wpList_app1 row149 _ ?x1 (.tmp 12) (.tmp 18) ?x2 w.heap.size ?v j (crows (fs.take j)) ?hs ?own (wr.heap.size + 1) ?cs ?hx ?nh ?hl ?h1 ?n63 ?nb ?nbase ?_)
      case x1 => rfl
      case x2 => rfl
      case hs => rfl
      case hx => rfl
      case own => exact (hO.out.alloc _).alloc _
      case nh => exact row_new2 _ _ _ _
      case hl => rfl
      case h1 =>
        intro u hu
        simp at hu
        rcases hu with rfl | rfl | rfl | rfl | rfl <;> rfl
      case n63 => have := HN.out; unfold maxLen; omega
      case nb => have := HN.out; omega
      case nbase => have := hbl.out.size; simp; omega
      intro v' w1 hown1 hgr1
      have hbl1 : Below w.heap.size w w1 := below_own ((hbl.out.alloc hbl.out.size _).alloc (by have := hbl.out.size; simp; omega) _) ((hO.out.alloc _).alloc _) hgr1
      have hcr : crows (fs.take (j + 1)) = crows (fs.take j) ++ (CR c).toList := by
        have hc := HCJ.out
        have e : fs.take (j + 1) = fs.take j ++ [c] := by rw [List.take_add_one, hc]; simp [hjl]
        rw [e]; simp [crows]
      have hown2 : w1.ownsRow w.heap.size 176 5 v' (j + 1) (crows (fs.take (j + 1))) := by
        rw [hcr]
        have h1 := HBE.out
        have h2 := HIE.out
        simp only [CR, FC.arr, h1, h2]
        exact hown1
      have HO1 := Lib.hid hown2
      have HB1 := Lib.hid hbl1
      clear hown1 hgr1 hbl1 hcr hown2 c0 c1 c2 c3 c4 c5 c6 c7 c8 c9 c10 c11 c12 c13 c14 hbl hO HBE HIE HCJ
      go_wp2_with fail
      go_roundw
      case rel => exact ⟨j + 1, by go_num, by omega, HO1, HB1⟩
      case measure => simp [intOf]; omega
    · have e : j = n := by omega
      subst e
      have hO2 := hO.out
      rw [List.take_of_length_le (by have := HNN.out; omega)] at hO2
      have HO2 := Lib.hid hO2
      clear hO hO2
      go_wp2_with fail
      go_ret
      exact ⟨_, rfl, HO2.out, hbl.out⟩
end Go.Proofs.Zap
