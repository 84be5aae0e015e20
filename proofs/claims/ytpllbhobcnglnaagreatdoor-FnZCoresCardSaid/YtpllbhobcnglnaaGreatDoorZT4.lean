/- a text of the claims over the seat; its order and aim: NOTES.md -/
import Derived.Test.YtpllbhobcnglnaaGreatDoorZS7
import Derived.WalkKit
import Derived.WalkLawsBesides
import Derived.WalkSpells
import Derived.Deep.QuietTactic
import Derived.BigQuiet
import Derived.StillTailTactics
import Derived.Lib.AppendStr
import Derived.Lib.Hide
import Derived.Test.YtpllbhobcnglnaaGreatDoorProg
import Derived.Test.YtpllbhobcnglnaaGreatDoorShelf
import Derived.Lib.IndexBytes
import Derived.Test.YtpllbhobcnglnaaGreatDoorZT3
import Derived.ShutString
import Derived.Lib.AppendIntMem
namespace Go.Proofs.Zap
open Go Go.Proofs Go.RowKit

set_option maxRecDepth 1000000
theorem nlRL (a : Addr) (w : World) : (nilAhead 589 201 (.pointer (some a)) "Write").run Tryz.prog w = .ok (some false) w := by kernel_rfl
theorem mtRL (a : Addr) (w : World) : (method 589 201 (.pointer (some a)) "Write").run Tryz.prog w = .ok (370, .pointer (some a)) w := by kernel_rfl
theorem cf370 (A : Array Value) (W : World) : (callFunc 370 A).run Tryz.prog W = .ok (.enter 370 A) W := by kernel_rfl

/-- a checked entry that is being written -/
abbrev EV.ceD (e : EV) (l : Int) (u : Value) : Array Value := #[.int .i8 l, .int .i64 e.x, .int .i32 e.n, .string e.z, .int .i64 e.o, .string e.lg, .string e.ms, .bool e.df, .int .u64 e.pc, .string e.f, .int .i64 e.ln, .string e.fn, .string e.st, .bool true, .nilIface, u, .slice none 0 0]

theorem SeenO.drew {w : World} {T : Nat → Prop} {u : Value} {L : List (Nat × Nat × List FC)} (h : SeenO w T u L) : SeenO w.drew T u L := h
/-- what one entry adds to what is seen -/
def noted (ent : Nat) (gs : List FC) (ds : List (Nat × List FC)) : List (Nat × Nat × List FC) := ds.map fun d => (d.1, ent, d.2 ++ gs)

/-- what stands in the middle of a checked entry's Write -/
structure CwI (w wr : World) (N C j ent : Nat) (lv cu : Value) (e : EV) (l : Int) (T : Nat → Prop) (gs : List FC) (D : List (Nat × Nat × List FC)) (ds : List (Nat × List FC)) : Prop where
  kept : Kept (fun k => T k ∨ k = N ∨ k = C) w wr
  c : Blk wr C 257 (e.ceD l cu)
  x : Blk wr w.heap.size 156 (e.arr l)
  st : ∃ u' T', Blk wr N 128 #[.int .i64 ent, lv, u'] ∧ SeenO wr T' u' (D ++ noted ent gs (ds.take j)) ∧ ∀ k, T' k → T k ∨ (w.heap.size < k ∧ k < wr.heap.size)

theorem CwI.step {w wr w' : World} {N C j ent : Nat} {lv cu : Value} {e : EV} {l : Int} {T T' T2 : Nat → Prop} {gs : List FC} {D : List (Nat × Nat × List FC)} {ds : List (Nat × List FC)} {d : Nat × List FC} {u2 : Value} (hd : ds[j]? = some d)
    (hkept : Kept (fun k => T k ∨ k = N ∨ k = C) w wr) (hc : Blk wr C 257 (e.ceD l cu)) (hx : Blk wr w.heap.size 156 (e.arr l)) (hT' : ∀ k, T' k → T k ∨ (w.heap.size < k ∧ k < wr.heap.size)) (hT : ∀ k, T k → k < w.heap.size) (hTC : ¬ T C) (hCN : C ≠ N) (hNw : N < w.heap.size) (hCw : C < w.heap.size)
    (hN2 : Blk w' N 128 #[.int .i64 ent, lv, u2]) (hs2 : SeenO w' T2 u2 ((D ++ noted ent gs (ds.take j)) ++ [(d.1, ent, d.2 ++ gs)])) (ht2 : ∀ k, T2 k → T' k ∨ NewB wr w' k) (hk2 : Kept (fun k => T' k ∨ k = N) wr w') : CwI w w' N C (j + 1) ent lv cu e l T gs D ds := by
  have hz := hk2.size
  have hxl := hx.lt
  have ht : ds.take (j + 1) = ds.take j ++ [d] := by rw [List.take_add_one, hd]; rfl
  refine ⟨⟨hk2.os.trans hkept.os, hk2.tape.trans hkept.tape, hk2.output.trans hkept.output, by have := hkept.size; omega, fun k hk hns => (hk2.block k (by omega) fun h => ?_).trans (hkept.block k hk hns)⟩, (hk2.block C (by omega) fun h => ?_).trans hc, (hk2.block _ hxl fun h => ?_).trans hx, u2, T2, hN2, ?_, fun k hk => ?_⟩
  · rcases h with h | h
    · rcases hT' k h with h | h
      · exact hns (.inl h)
      · omega
    · exact hns (.inr (.inl h))
  · rcases h with h | h
    · rcases hT' C h with h | h
      · exact hTC h
      · omega
    · exact hCN h
  · rcases h with h | h
    · rcases hT' _ h with h | h
      · have := hT _ h; omega
      · omega
    · omega
  · rw [ht]
    have : noted ent gs (ds.take j ++ [d]) = noted ent gs (ds.take j) ++ [(d.1, ent, d.2 ++ gs)] := by simp [noted]
    rw [this, ← List.append_assoc]
    exact hs2
  · rcases ht2 k hk with h | h
    · exact (hT' k h).imp id fun h => ⟨h.1, by omega⟩
    · exact .inr ⟨by have := h.1; omega, h.2⟩

/-- what a checked entry's Write leaves -/
def CwP (w : World) (N C ent : Nat) (lv : Value) (T : Nat → Prop) (D : List (Nat × Nat × List FC)) (en : Ending) (w' : World) : Prop :=
  en = .returned (.tuple #[]) ∧ Kept (fun k => T k ∨ k = N ∨ k = C) w w' ∧ ∃ u' T', Blk w' N 128 #[.int .i64 ent, lv, u'] ∧ SeenO w' T' u' D ∧ ∀ k, T' k → T k ∨ NewB w w' k

set_option maxHeartbeats 8000000 in
theorem ceWrite (N C ent : Nat) (lv f u cu : Value) (gs : List FC) (Q S SG T : Nat → Prop) (D : List (Nat × Nat × List FC)) (Ms : List Nat) (ds : List (Nat × List FC)) (e : EV) (l : Int) (w : World)
    (hC : Blk w C 257 (e.ce l cu)) (hco : w.ownsRow 0 123 1 cu Ms.length (Ms.map leafV)) (hcq : ∀ k, cu.ownBlock = some k → Q k ∧ k ≠ C) (hQC : Q C) (hM : Leaves w N S Ms ds) (hf : GFs w SG gs f) (hN : Blk w N 128 #[.int .i64 ent, lv, u]) (hu : SeenO w T u D)
    (hT : ∀ k, T k → k < w.heap.size) (hS : ∀ k, S k → k < w.heap.size) (hSG : ∀ k, SG k → k < w.heap.size) (hQ : ∀ k, Q k → k < w.heap.size) (hTN : ¬ T N) (hQN : ¬ Q N) (hSN : ¬ S N) (hGN : ¬ SG N) (hQT : ∀ k, Q k → ¬ T k) (hST : ∀ k, S k → ¬ T k) (hGT : ∀ k, SG k → ¬ T k) (hSQ : ∀ k, S k → ¬ Q k) (hGQ : ∀ k, SG k → ¬ Q k)
    (hm : ∀ d, d ∈ ds → d.2.length + gs.length ≤ 1000000) (hD : D.length + ds.length ≤ 1000000) (hfm : ∀ d, d ∈ ds → ∀ c, c ∈ d.2 ++ gs → (∃ a n m, c.bytes = .slice a n m) ∧ ∃ a n m, c.items = .slice a n m) :
    Calls Tryz.prog 85 #[.pointer (some ⟨C, 0, none⟩), f] w (CwP w N C ent lv T (D ++ noted ent gs ds)) := by
  have hNw := hN.lt
  have hCw := hC.lt
  have hCN : C ≠ N := fun e => hQN (e ▸ hQC)
  obtain ⟨ca, cc, rfl⟩ := ownsRow_shape hco
  have hCd : Blk (w.setCell ⟨C, 13, none⟩ (.bool true)) C 257 (e.ceD l (.slice ca Ms.length cc)) := by
    have := hC.set_ 13 (.bool true); simpa using this
  have hfar : ∀ k, k ≠ C → (w.setCell ⟨C, 13, none⟩ (.bool true)).heap[k]? = w.heap[k]? := fun k hne => Below.heap_setCell w ⟨C, 13, none⟩ (.bool true) k hne
  have hszs : (w.setCell ⟨C, 13, none⟩ (.bool true)).heap.size = w.heap.size := by simp [World.setCell]
  have hcx : Blk ((w.setCell ⟨C, 13, none⟩ (.bool true)).alloc (.cells (e.arr l) 156)) w.heap.size 156 (e.arr l) := by
    have := Blk.new (w.setCell ⟨C, 13, none⟩ (.bool true)) 156 (e.arr l); rwa [hszs] at this
  have hseen : SeenO ((w.setCell ⟨C, 13, none⟩ (.bool true)).alloc (.cells (e.arr l) 156)) T u D := by
    obtain ⟨SL, h1, h2, h3, h4⟩ := hu
    have hk : ∀ k, T k → ((w.setCell ⟨C, 13, none⟩ (.bool true)).alloc (.cells (e.arr l) 156)).heap[k]? = w.heap[k]? := fun k hk => (heap_alloc_old _ _ (by rw [hszs]; exact hT k hk)).trans (hfar k fun e => hQT C hQC (e ▸ hk))
    refine ⟨SL, h1, ⟨h2.1, ?_⟩, h3, fun x hx => ?_⟩
    · rcases h2.2 with h | ⟨g', cap', cur, he, hb, hg, r⟩
      · exact .inl h
      · exact .inr ⟨g', cap', cur, he, hb, (hk g' (h3 g' (by rw [he]; rfl))).trans hg, r⟩
    · obtain ⟨Si, a, b⟩ := h4 x hx
      exact ⟨Si, a.keep fun k hk' => hk k (b k hk').1, b⟩
  have hci : CwI w ((w.setCell ⟨C, 13, none⟩ (.bool true)).alloc (.cells (e.arr l) 156)) N C 0 ent lv (.slice ca Ms.length cc) e l T gs D ds :=
    ⟨(⟨rfl, rfl, rfl, by rw [hszs]; exact Nat.le_refl _, fun k hk hns => hfar k fun e => hns (.inr (.inr e))⟩ : Kept (fun k => T k ∨ k = N ∨ k = C) w (w.setCell ⟨C, 13, none⟩ (.bool true))).alloc _, hCd.alloc _, hcx, u, T, Blk.alloc (w := w.setCell ⟨C, 13, none⟩ (.bool true)) ((hfar N (fun e => hCN e.symm)).trans hN) _, by simpa [noted] using hseen, fun k hk => .inl hk⟩
  have HCI := Lib.hid hci
  have c0 : w.cell? ⟨C, 0, none⟩ = some (.int .i8 l) := hC.cell 0
  have c1 : w.cell? ⟨C, 1, none⟩ = some (.int .i64 e.x) := hC.cell 1
  have c2 : w.cell? ⟨C, 2, none⟩ = some (.int .i32 e.n) := hC.cell 2
  have c3 : w.cell? ⟨C, 3, none⟩ = some (.string e.z) := hC.cell 3
  have c4 : w.cell? ⟨C, 4, none⟩ = some (.int .i64 e.o) := hC.cell 4
  have c5 : w.cell? ⟨C, 5, none⟩ = some (.string e.lg) := hC.cell 5
  have c6 : w.cell? ⟨C, 6, none⟩ = some (.string e.ms) := hC.cell 6
  have c7 : w.cell? ⟨C, 7, none⟩ = some (.bool e.df) := hC.cell 7
  have c8 : w.cell? ⟨C, 8, none⟩ = some (.int .u64 e.pc) := hC.cell 8
  have c9 : w.cell? ⟨C, 9, none⟩ = some (.string e.f) := hC.cell 9
  have c10 : w.cell? ⟨C, 10, none⟩ = some (.int .i64 e.ln) := hC.cell 10
  have c11 : w.cell? ⟨C, 11, none⟩ = some (.string e.fn) := hC.cell 11
  have c12 : w.cell? ⟨C, 12, none⟩ = some (.string e.st) := hC.cell 12
  have c13 : w.cell? ⟨C, 13, none⟩ = some (.bool false) := hC.cell 13
  have cf : w.frozen? ⟨C, 13, none⟩ = false := hC.frozen 13
  have d4 : ∀ o, ((w.setCell ⟨C, 13, none⟩ (.bool true)).alloc o).cell? ⟨C, 16, none⟩ = some (.slice none 0 0) := fun o => (hCd.alloc o).cell 16
  have d3 : ∀ o, ((w.setCell ⟨C, 13, none⟩ (.bool true)).alloc o).cell? ⟨C, 15, none⟩ = some (.slice ca Ms.length cc) := fun o => (hCd.alloc o).cell 15
  have HCO := Lib.hid hco
  have HCQ := Lib.hid hcq
  have HM := Lib.hid hM
  have HF := Lib.hid hf
  obtain ⟨fA, fc, rfl, -⟩ := hf
  have HT := Lib.hid hT
  have HSS := Lib.hid hS
  have HSG := Lib.hid hSG
  have HQ := Lib.hid hQ
  have HQT := Lib.hid hQT
  have HST := Lib.hid hST
  have HGT := Lib.hid hGT
  have HSQ := Lib.hid hSQ
  have HGQ := Lib.hid hGQ
  have HMM := Lib.hid hm
  have HFM := Lib.hid hfm
  have HDD := Lib.hid hD
  have HLEN := Lib.hid hM.1
  generalize hnn : Ms.length = n at *
  have HNN := Lib.hid hnn
  clear hC hco hcq hM hN hu hT hS hSG hQ hQT hST hGT hSQ hGQ hm hfm hD hCd hfar hszs hcx hseen hci hnn
  unfold EV.arr at *
  go_enter Tryz.func85, Tryz.ntmps85
  go_wp2_with fail
  refine wp_loop_rounds 1 ?_
  rw [rounds_succ]
  go_wp2_with fail
  go_loopw [48] (fun i wr => ∃ j : Nat, i = .int .i64 j ∧ j ≤ n ∧ Hid (CwI w wr N C j ent lv (.slice ca n cc) e l T gs D ds)) (fun i _ => n - (intOf i).toNat)
  case atStart => exact ⟨0, rfl, by omega, HCI⟩
  case round =>
    obtain ⟨j, rfl, hj, hci⟩ := hrel
    by_cases hlt : j < n
    · obtain ⟨L, hL⟩ : ∃ L, Ms[j]? = some L := ⟨Ms[j]'(by have := HNN.out; omega), by simp⟩
      obtain ⟨d, hd⟩ : ∃ d, ds[j]? = some d := ⟨ds[j]'(by have := HLEN.out; omega), by simp⟩
      obtain ⟨hSL, lvl, g, hLb, hg⟩ := HM.out.2 j L d hL hd
      obtain ⟨u', T', hN', hsn, hT'⟩ := hci.out.st
      have hxl := hci.out.x.lt
      have hwz := hci.out.kept.size
      have hSk : ∀ k, S k → wr.heap[k]? = w.heap[k]? := fun k hk => hci.out.kept.block k (HSS.out k hk) fun h => h.elim (HST.out k hk) fun h => h.elim (fun e => hSN (e ▸ hk)) fun e => HSQ.out k hk (e ▸ hQC)
      have hGk : ∀ k, SG k → wr.heap[k]? = w.heap[k]? := fun k hk => hci.out.kept.block k (HSG.out k hk) fun h => h.elim (HGT.out k hk) fun h => h.elim (fun e => hGN (e ▸ hk)) fun e => HGQ.out k hk (e ▸ hQC)
      have hLw := HSS.out L hSL
      -- the cores' row
      obtain ⟨ck, hck, hckc⟩ : ∃ ck, ca = some ⟨ck, 0, none⟩ ∧ wr.cell? ⟨ck, j, none⟩ = some (leafV L) := by
        rcases HCO.out.2 with ⟨e1, e2⟩ | ⟨g', cap', cur, he, hb, hg', hnc, hcm, hcs, htk⟩
        · omega
        · injection he with he1 he2 he3
          refine ⟨g', he1, ?_⟩
          have hq := HCQ.out g' (by rw [he1]; rfl)
          have hk : wr.heap[g']? = w.heap[g']? := hci.out.kept.block g' (HQ.out g' hq.1) fun h => h.elim (HQT.out g' hq.1) fun h => h.elim (fun e => hQN (e ▸ hq.1)) hq.2
          rw [World.cell?_of_block (w := w) (a := ⟨g', j, none⟩) hk, cell_of_row w g' j cur 123 (0, 0) hg']
          have h2 : (Ms.map leafV)[j]? = some (leafV L) := by simp [hL]
          rw [← htk, List.getElem?_take] at h2
          split at h2
          · simpa using h2
          · cases h2
      subst hck
      have hTw : ∀ k, T' k → k < wr.heap.size ∧ k ≠ w.heap.size := fun k hk => by
        rcases hT' k hk with h | h
        · have := HT.out k h; omega
        · omega
      have hT'N : ¬ T' N := fun h => by
        rcases hT' N h with h | h
        · exact hTN h
        · omega
      have hT'L : ¬ T' L := fun h => by
        rcases hT' L h with h | h
        · exact HST.out L hSL h
        · omega
      have hdm := List.mem_of_getElem? hd
      have hlen : (D ++ noted ent gs (ds.take j)).length ≤ 1000000 := by
        have := HDD.out
        simp only [List.length_append, noted, List.length_map, List.length_take]
        omega
      have hcall := leafWrite N L d.1 ent (.iface 129 (.int .i8 lvl)) lv g (.slice fA gs.length fc) u' d.2 gs S SG T' (D ++ noted ent gs (ds.take j)) e l wr.drew ((hSk L hSL).trans hLb) ((hg.keep hSk).keep fun _ _ => rfl) ((HF.out.keep hGk).keep fun _ _ => rfl) hN' (SeenO.drew hsn)
        (fun k hk => (hTw k hk).1) (fun k hk => by show k < wr.heap.size; have := HSS.out k hk; omega) (fun k hk => by show k < wr.heap.size; have := HSG.out k hk; omega) hT'N hT'L (fun e => hSN (e ▸ hSL)) (HMM.out d hdm) hlen (HFM.out d hdm)
      have hinv : (nilAhead 589 201 (.pointer (some ⟨L, 0, none⟩)) "Write").run Tryz.prog wr.drew = .ok (some false) wr.drew := nlRL _ _
      have hmet : (method 589 201 (.pointer (some ⟨L, 0, none⟩)) "Write").run Tryz.prog wr.drew = .ok (370, .pointer (some ⟨L, 0, none⟩)) wr.drew := mtRL _ _
      have hinv0 := nlRL ⟨L, 0, none⟩ wr
      have hmet0 := mtRL ⟨L, 0, none⟩ wr
      have hcf := cf370
      unfold leafV at hckc
      have q0 : (0 : Int) ≤ (j : Int) := Int.natCast_nonneg _
      have q1 : (j : Int) < (n : Int) := by omega
      have hnb : n ≤ 1000000 := by have := HDD.out; have := HLEN.out; omega
      have hw64 : wrap64 ((j : Int) + 1) = (j : Int) + 1 := by unfold wrap64; omega
      have y15 : wr.cell? ⟨C, 15, none⟩ = some (.slice (some ⟨ck, 0, none⟩) n cc) := hci.out.c.cell 15
      obtain ⟨y0, y1, y2, y3, y4, y5, y6, y7, y8, y9, y10, y11, y12⟩ := entS hci.out.x
      have HE1 : Hid (EntS wr w.heap.size e l) := Lib.hid ⟨y0, y1, y2, y3, y4, y5, y6, y7, y8, y9, y10, y11, y12⟩
      have hstep := fun (w' : World) (u2 : Value) (T2 : Nat → Prop) (hN2 : Blk w' N 128 #[.int .i64 ent, lv, u2]) (hs2 : SeenO w' T2 u2 ((D ++ noted ent gs (ds.take j)) ++ [(d.1, ent, d.2 ++ gs)])) (ht2 : ∀ k, T2 k → T' k ∨ NewB wr w' k) (hk2 : Kept (fun k => T' k ∨ k = N) wr w') =>
        CwI.step hd hci.out.kept hci.out.c hci.out.x hT' HT.out (HQT.out C hQC) hCN hNw hCw hN2 hs2 ht2 hk2
      have hcells : ∀ w', Kept (fun k => T' k ∨ k = N) wr w' → (w'.cell? ⟨C, 15, none⟩ = some (.slice (some ⟨ck, 0, none⟩) n cc) ∧ w'.cell? ⟨ck, j, none⟩ = some (.iface 201 (.pointer (some ⟨L, 0, none⟩)))) ∧ EntS w' w.heap.size e l := fun w' hk => by
        have hqk := HCQ.out ck rfl
        refine ⟨⟨Blk.cell ((hk.block C (by omega) fun h => h.elim (fun h => ?_) hCN).trans hci.out.c) 15, (World.cell?_of_block (w := wr) (a := ⟨ck, j, none⟩) (hk.block ck (by have := HQ.out ck hqk.1; omega) fun h => h.elim (fun h => ?_) (fun e => hQN (e ▸ hqk.1)))).trans hckc⟩, entS ((hk.block _ hxl fun h => h.elim (fun h => (hTw _ h).2 rfl) (by omega)).trans hci.out.x)⟩
        · rcases hT' C h with h | h
          · exact HQT.out C hQC h
          · omega
        · rcases hT' ck h with h | h
          · exact HQT.out ck hqk.1 h
          · have := HQ.out ck hqk.1; omega
      have HCALL := Lib.hid hcall
      have HSTEP := Lib.hid hstep
      have HCELLS := Lib.hid hcells
      clear hcall hstep hcells hSk hGk hg hLb hsn hN' hT' hTw hT'N hT'L hlen hdm
      go_wp2_with fail
      go_region_held3 (fun w' => w'.cell? ⟨C, 15, none⟩ = some (.slice (some ⟨ck, 0, none⟩) n cc) ∧ w'.cell? ⟨ck, j, none⟩ = some (.iface 201 (.pointer (some ⟨L, 0, none⟩))) ∧ EntS w' w.heap.size e l) (first | exact ⟨y15, hckc, HE1.out⟩ | exact ⟨HCS.out.1.1, HCS.out.1.2, HCS.out.2⟩) ((go_at_call 370; refine HCALL.out.mono ?_; rintro en w2 ⟨rfl, u2, T2, b1, b2, b3, b4⟩; have HST2 := Lib.hid (HSTEP.out w2 u2 T2 b1 b2 b3 b4.ofDrew); have HCS := Lib.hid (HCELLS.out w2 b4.ofDrew); clear b1 b2 b3 b4))
      all_goals
        clear HCALL HSTEP HCELLS HCS y0 y1 y2 y3 y4 y5 y6 y7 y8 y9 y10 y11 y12 y15 hckc hinv hmet hinv0 hmet0 hci
        go_wp2_with fail
        go_roundw
        case rel => exact ⟨j + 1, by go_num, by omega, HST2⟩
        case measure => simp [intOf]; omega
    · have ej : j = n := by omega
      subst ej
      have y14 : wr.cell? ⟨C, 14, none⟩ = some .nilIface := hci.out.c.cell 14
      go_wp2_with fail
      first | go_end0 | refine bodyPost_ret (results_none rfl _ _ _) rfl ?_
      obtain ⟨u', T', hN', hsn, hT'⟩ := hci.out.st
      rw [List.take_of_length_le (by have := HLEN.out; omega)] at hsn
      exact ⟨rfl, hci.out.kept, u', T', hN', hsn, fun k hk => (hT' k hk).imp id fun h => ⟨by omega, h.2⟩⟩
end Go.Proofs.Zap

namespace Go.Proofs.Zap
open Go Go.Proofs Go.RowKit

/-- bytes as cells -/
def bytesV (l : List UInt8) : List Value := l.map fun b => Value.int .u8 b.toNat

theorem bytesV_length (l : List UInt8) : (bytesV l).length = l.length := by simp [bytesV]
theorem bytesV_append (l m : List UInt8) : bytesV (l ++ m) = bytesV l ++ bytesV m := by simp [bytesV]
theorem bytesV_str (s : ByteArray) : Lib.strCells s = bytesV s.data.toList := rfl

/-- block U holds a buffer whose bytes are l; they lie in a row of its own, from block base on -/
def Buf (w : World) (base U : Nat) (l : List UInt8) : Prop :=
  U < base ∧ base ≤ w.heap.size ∧ ∃ v, w.heap[U]? = some (.cells #[v] 265 (0, 0)) ∧ w.ownsRow base 5 1 v l.length (bytesV l)

/-- below base nothing but block U may have changed -/
structure Keep (base U : Nat) (w w' : World) : Prop where
  os : w'.os = w.os
  tape : w'.tape = w.tape
  output : w'.output = w.output
  size : w.heap.size ≤ w'.heap.size
  block : ∀ k, k < base → k ≠ U → w'.heap[k]? = w.heap[k]?

theorem Keep.refl (base U : Nat) (w : World) : Keep base U w w := ⟨rfl, rfl, rfl, Nat.le_refl _, fun _ _ _ => rfl⟩
theorem Keep.trans {base U : Nat} {a b c : World} (h : Keep base U a b) (k : Keep base U b c) : Keep base U a c :=
  ⟨k.os.trans h.os, k.tape.trans h.tape, k.output.trans h.output, Nat.le_trans h.size k.size, fun i hi hu => (k.block i hi hu).trans (h.block i hi hu)⟩
theorem Keep.cell {base U : Nat} {w w' : World} (h : Keep base U w w') {b o : Nat} (hb : b < base) (hu : b ≠ U) : w'.cell? ⟨b, o, none⟩ = w.cell? ⟨b, o, none⟩ :=
  World.cell?_of_block (w := w) (h.block b hb hu)
theorem Keep.frozen {base U : Nat} {w w' : World} (h : Keep base U w w') {b o : Nat} (hb : b < base) (hu : b ≠ U) : w'.frozen? ⟨b, o, none⟩ = w.frozen? ⟨b, o, none⟩ :=
  World.frozen?_of_block (w := w) (h.block b hb hu)

theorem Tz.info5 : (Tryz.prog.info? 5).map (fun i => (i.zero, i.size, i.bytes)) = some (some (.int .u8 0), 1, 1) := by kernel_rfl

theorem ownsRow_form {w : World} {base : Nat} {v : Value} {n : Nat} {xs : List Value} {e : TypeId} {s : Nat} (h : w.ownsRow base e s v n xs) :
    (∃ a c, v = .slice a n c) := by
  rcases h.2 with ⟨rfl, rfl⟩ | ⟨g, cap, cur, rfl, _⟩
  · exact ⟨_, _, rfl⟩
  · exact ⟨_, _, rfl⟩

/-- the new slice is laid into the buffer -/
theorem Buf.store {w w1 : World} {base U : Nat} {v v' : Value} {l : List UInt8} (hU : U < base) (hB : base ≤ w.heap.size)
    (hv : w.heap[U]? = some (.cells #[v] 265 (0, 0))) (hb : Below base w w1) (hown : w1.ownsRow base 5 1 v' l.length (bytesV l)) :
    Buf (w1.setCell ⟨U, 0, none⟩ v') base U l ∧ Keep base U w (w1.setCell ⟨U, 0, none⟩ v') := by
  have e : w1.heap[U]? = some (.cells #[v] 265 (0, 0)) := (hb.block U hU).trans hv
  have hs := hb.size
  refine ⟨⟨hU, by simp [World.setCell]; omega, v', ?_, ownsRow_setCell_below hown (by simpa using hU) v'⟩, ?_⟩
  · simp [World.setCell, Array.getElem?_modify, e]
  · refine ⟨hb.os, hb.tape, hb.output, by simp [World.setCell]; omega, fun k hk hne => ?_⟩
    rw [Below.heap_setCell _ _ _ _ (by simpa using hne)]
    exact hb.block k hk

theorem own_ge {w : World} {base : Nat} {v : Value} {n : Nat} {xs : List Value} {e : TypeId} {s : Nat} (h : w.ownsRow base e s v n xs) : ∀ k, v.ownBlock = some k → base ≤ k :=
  fun k hk => (h.lt k hk).1

set_option maxHeartbeats 400000 in
theorem appendByte_any (U base : Nat) (l : List UInt8) (c : UInt8) (w : World) (hb : Buf w base U l) (hl : l.length < 1000000000) :
    Calls Tryz.prog 196 #[.pointer (some ⟨U, 0, none⟩), .int .u8 c.toNat] w fun e w' => e = .returned (.tuple #[]) ∧ Buf w' base U (l ++ [c]) ∧ Keep base U w w' := by
  obtain ⟨hU, hB, v, hv, hown⟩ := hb
  obtain ⟨i0, hi, hz0, hz1, hz2⟩ := info_parts Tz.info5
  obtain ⟨a, cp, rfl⟩ := ownsRow_form hown
  have hc : w.cell? ⟨U, 0, none⟩ = some (.slice a l.length cp) := by simp [World.cell?, hv]
  have hf : w.frozen? ⟨U, 0, none⟩ = false := by simp [World.frozen?, hv]
  have hUs : U < w.heap.size := by omega
  go_enter Tryz.func196, Tryz.ntmps196
  go_wp2_with (at_builtin; refine wpList_append_own _ rfl (.tmp 8) (.tmp 10) 31 rfl base 5 i0 (.int .u8 0) 1 1 Tryz.underlying31 hi hz0 hz1 hz2 rfl (by decide) _ _ _ rfl (hown.alloc _) ⟨w.heap.size, 0, none⟩ 1 1 [.int .u8 c.toNat] rfl rfl ?c1 ?c2 ?c3 ?c4 ?c5 ?_)
  case c1 => exact cell_one_new _ _ _
  case c2 => simp [Value.oneCell']
  case c3 => unfold maxLen; omega
  case c4 => omega
  case c5 => simp; omega
  intro v' w1 hown1 hg _
  have hbel : Below base w w1 := ((Below.refl base w).alloc hB _).grown hg (by simp; omega) (own_ge hown)
  obtain ⟨a', cp', rfl⟩ := ownsRow_form hown1
  have hc1 : w1.cell? ⟨U, 0, none⟩ = some (.slice a l.length cp) := (hbel.cell (p := ⟨U, 0, none⟩) hU).trans hc
  have hf1 : w1.frozen? ⟨U, 0, none⟩ = false := (hbel.frozen (p := ⟨U, 0, none⟩) hU).trans hf
  have hown2 : w1.ownsRow base 5 1 (.slice a' (l.length + 1) cp') (l ++ [c]).length (bytesV (l ++ [c])) := by
    rw [bytesV_append, List.length_append]; exact hown1
  have H := Lib.hid (Buf.store hU hB hv hbel hown2)
  clear hown hown1 hown2 hg hbel hv hi hz0 hz1 hz2
  go_wp2
  go_end0
  exact ⟨rfl, H.out⟩

set_option maxHeartbeats 400000 in
theorem appendString_any (U base : Nat) (l : List UInt8) (s : ByteArray) (w : World) (hb : Buf w base U l) (hl : l.length + s.size < 1000000000) :
    Calls Tryz.prog 172 #[.pointer (some ⟨U, 0, none⟩), .string s] w fun e w' => e = .returned (.tuple #[]) ∧ Buf w' base U (l ++ s.data.toList) ∧ Keep base U w w' := by
  obtain ⟨hU, hB, v, hv, hown⟩ := hb
  obtain ⟨i0, hi, hz0, hz1, hz2⟩ := info_parts Tz.info5
  obtain ⟨a, cp, rfl⟩ := ownsRow_form hown
  have hc : w.cell? ⟨U, 0, none⟩ = some (.slice a l.length cp) := by simp [World.cell?, hv]
  have hf : w.frozen? ⟨U, 0, none⟩ = false := by simp [World.frozen?, hv]
  have hUs : U < w.heap.size := by omega
  go_enter Tryz.func172, Tryz.ntmps172
  go_wp2_with (at_builtin; refine Lib.wpList_append_own_string _ rfl (.tmp 8) (.tmp 9) 31 9 rfl base 5 i0 Tryz.underlying31 Tryz.underlying9 hi hz0 hz1 hz2 _ _ _ rfl hown s rfl ?c3 ?c4 hB ?_)
  case c3 => unfold maxLen; omega
  case c4 => omega
  intro v' w1 hown1 hg _
  have hbel : Below base w w1 := (Below.refl base w).grown hg hB (own_ge hown)
  obtain ⟨a', cp', rfl⟩ := ownsRow_form hown1
  have hc1 : w1.cell? ⟨U, 0, none⟩ = some (.slice a l.length cp) := (hbel.cell (p := ⟨U, 0, none⟩) hU).trans hc
  have hf1 : w1.frozen? ⟨U, 0, none⟩ = false := (hbel.frozen (p := ⟨U, 0, none⟩) hU).trans hf
  have hown2 : w1.ownsRow base 5 1 (.slice a' (l.length + s.size) cp') (l ++ s.data.toList).length (bytesV (l ++ s.data.toList)) := by
    rw [bytesV_append, List.length_append]; exact hown1
  have H := Lib.hid (Buf.store hU hB hv hbel hown2)
  clear hown hown1 hown2 hg hbel hv hi hz0 hz1 hz2
  go_wp2
  go_end0
  exact ⟨rfl, H.out⟩

theorem Keep.below {base U : Nat} {w w' : World} (h : Below w.heap.size w w') (hb : base ≤ w.heap.size) : Keep base U w w' :=
  ⟨h.os, h.tape, h.output, h.size, fun k hk _ => h.block k (by omega)⟩

theorem ownsRow_below {w w' : World} {base : Nat} {v : Value} {n : Nat} {xs : List Value} {e : TypeId} {s : Nat} (h : w.ownsRow base e s v n xs) (hb : Below w.heap.size w w') :
    w'.ownsRow base e s v n xs := by
  refine ⟨h.1, ?_⟩
  rcases h.2 with h2 | ⟨g, cap, cur, hv, hg, hh, r⟩
  · exact .inl h2
  · exact .inr ⟨g, cap, cur, hv, hg, (hb.block g (Array.getElem?_eq_some_iff.1 hh).1).trans hh, r⟩

theorem Buf.below {w w' : World} {base U : Nat} {l : List UInt8} (h : Buf w base U l) (hb : Below w.heap.size w w') : Buf w' base U l := by
  obtain ⟨hU, hB, v, hv, hown⟩ := h
  exact ⟨hU, Nat.le_trans hB hb.size, v, (hb.block U (by omega)).trans hv, ownsRow_below hown hb⟩

/-- the tables of the library, as their initialisers lay them -/
def Tabs (w : World) : Prop := Lib.Utf8Tabs 2 3 w ∧ Lib.TabIs Tryz.prog w "internal/strconv.uint64pow10" .u64 Lib.pow10Tab

theorem Tz.global1 : Tryz.prog.globalNamed "internal/strconv.uint64pow10" = some 1 := by kernel_rfl

theorem Tabs.mono {w w' : World} (h : Tabs w) (hk : ∀ k, k < 13 → w'.heap[k]? = w.heap[k]?) : Tabs w' := by
  obtain ⟨⟨h1, h2⟩, h3⟩ := h
  have e2 : ∀ o, w'.cell? ⟨2, o, none⟩ = w.cell? ⟨2, o, none⟩ := fun o => World.cell?_of_block (w := w) (hk 2 (by omega))
  have e3 : ∀ o, w'.cell? ⟨3, o, none⟩ = w.cell? ⟨3, o, none⟩ := fun o => World.cell?_of_block (w := w) (hk 3 (by omega))
  refine ⟨⟨fun c hc => (e2 c).trans (h1 c hc), fun i hi => ⟨(e3 _).trans (h2 i hi).1, (e3 _).trans (h2 i hi).2⟩⟩, ?_⟩
  unfold Lib.TabIs World.var? at *
  rw [Tz.global1] at *
  simpa [hk 1 (by omega)] using h3

theorem Tabs.keep {base U : Nat} {w w' : World} (h : Tabs w) (hk : Keep base U w w') (hU : 13 ≤ U) (hb : U < base) : Tabs w' :=
  h.mono fun k hlt => hk.block k (by omega) (by omega)

theorem Tabs.below {B : Nat} {w w' : World} (h : Tabs w) (hk : Below B w w') (hB : 13 ≤ B) : Tabs w' :=
  h.mono fun k hlt => hk.block k (by omega)
end Go.Proofs.Zap

namespace Go.Proofs.Zap
open Go Go.Proofs Go.RowKit

/-- a list of bytes as a string -/
abbrev str (l : List UInt8) : ByteArray := ⟨l.toArray⟩
theorem str_size (l : List UInt8) : (str l).size = l.length := by change l.toArray.size = _; simp
theorem str_append (a b : List UInt8) : str a ++ str b = str (a ++ b) := by
  apply ByteArray.ext; simp [ByteArray.data_append]

/-- at least so many digits -/
def pad (k : Nat) (l : List UInt8) : List UInt8 := List.replicate (k - l.length) 48 ++ l

theorem pad_step (k : Nat) (l : List UInt8) (h : l.length < k) : pad k (48 :: l) = pad k l := by
  unfold pad
  rw [List.length_cons, show k - l.length = (k - (l.length + 1)) + 1 by omega, List.replicate_succ', List.append_assoc]
  rfl
theorem pad_done (k : Nat) (l : List UInt8) (h : k ≤ l.length) : pad k l = l := by
  unfold pad; rw [show k - l.length = 0 by omega]; rfl

/-- the last k decimal digits -/
def digs : Nat → Nat → List UInt8
  | 0, _ => []
  | k + 1, n => digs k (n / 10) ++ [UInt8.ofNat (48 + n % 10)]
theorem digs_len : ∀ (k n : Nat), (digs k n).length = k
  | 0, _ => rfl
  | k + 1, n => by rw [digs, List.length_append, digs_len k]; rfl
theorem digs_zero : ∀ k : Nat, digs k 0 = List.replicate k 48
  | 0 => rfl
  | k + 1 => by rw [digs, Nat.zero_div, digs_zero k, List.replicate_succ']; rfl
theorem digs_plain : ∀ (k n : Nat), ∀ b ∈ digs k n, 48 ≤ b.toNat ∧ b.toNat ≤ 57
  | 0, _ => fun b hb => by cases hb
  | k + 1, n => fun b hb => by
    rw [digs, List.mem_append] at hb
    rcases hb with hb | hb
    · exact digs_plain k _ b hb
    · rw [List.mem_singleton] at hb
      subst hb
      rw [UInt8.toNat_ofNat']
      omega
theorem pad_snoc (k : Nat) (l : List UInt8) (x : UInt8) : pad (k + 1) (l ++ [x]) = pad k l ++ [x] := by
  unfold pad
  rw [List.length_append, List.length_singleton, show k + 1 - (l.length + 1) = k - l.length by omega, List.append_assoc]
theorem pad_digs : ∀ (k n : Nat), n < 10 ^ (k + 1) → pad (k + 1) (Lib.decDigits n) = digs (k + 1) n
  | 0, n => fun h => by
    have h10 : n < 10 := by simpa using h
    rw [Lib.decDigits_one h10, digs, digs, Nat.mod_eq_of_lt h10]; rfl
  | k + 1, n => fun h => by
    by_cases h10 : n < 10
    · rw [Lib.decDigits_one h10, digs, Nat.div_eq_of_lt h10, digs_zero, Nat.mod_eq_of_lt h10]; rfl
    · rw [Lib.decDigits, dif_neg h10, pad_snoc, digs, pad_digs k (n / 10) (by
        have : 10 ^ (k + 1 + 1) = 10 ^ (k + 1) * 10 := Nat.pow_succ ..
        omega)]
theorem dec_len (k n : Nat) (h : n < 10 ^ (k + 1)) : (Lib.decDigits n).length ≤ k + 1 := by
  have := congrArg List.length (pad_digs k n h)
  rw [digs_len] at this
  unfold pad at this
  rw [List.length_append] at this
  omega
theorem itoa_nat (n : Nat) : Lib.itoa n = Lib.decDigits n := by
  unfold Lib.itoa; rw [if_neg (by omega)]; simp

set_option maxHeartbeats 400000 in
theorem itoa_any (n : Int) (h0 : -9223372036854775808 ≤ n) (h1 : n ≤ 9223372036854775807) (w : World) (hT : Tabs w) (_h13 : 13 ≤ w.heap.size) :
    Calls Tryz.prog 115 #[.int .i64 n] w fun e w' => e = .returned (.string (str (Lib.itoa n))) ∧ Below w.heap.size w w' := by
  refine (Tryz.strconv_Itoa n h0 h1 w hT.2).mono ?_
  rintro e w' ⟨rfl, k, os, rfl⟩
  exact ⟨rfl, Lib.below_grow _ _ (Nat.le_refl _) _ _⟩

def strSize (v : Value) : Nat := match v with | .string s => s.size | _ => 0

set_option maxHeartbeats 800000 in
theorem padded_any (n : Int) (k : Nat) (hk : k ≤ 100) (h0 : -9223372036854775808 ≤ n) (h1 : n ≤ 9223372036854775807) (hl : (Lib.itoa n).length ≤ 100) (w : World) (hT : Tabs w) (h13 : 13 ≤ w.heap.size) :
    Calls Tryz.prog 67 #[.int .i64 n, .int .i64 k] w fun e w' => e = .returned (.string (str (pad k (Lib.itoa n)))) ∧ Below w.heap.size w w' := by
  go_enter Tryz.func67, Tryz.ntmps67
  go_wp2_with fail
  refine (itoa_any n h0 h1 _ hT h13).mono ?_
  rintro e w1 ⟨rfl, hb⟩
  have HB := Lib.hid hb
  clear hb
  go_wp2_with fail
  go_loop [5] (fun s => ∃ l : List UInt8, s = .string (str l) ∧ Hid (pad k l = pad k (Lib.itoa n)) ∧ l.length ≤ 200) (fun s => k - strSize s)
  case atStart => exact ⟨_, rfl, Lib.hid rfl, by omega⟩
  case round =>
    obtain ⟨l, rfl, hp, hll⟩ := hrel
    have hsz := str_size l
    have HS := Lib.hid hsz
    clear hsz
    by_cases hc : l.length < k
    · have hc2 : (str l).size < k := by rw [HS.out]; exact hc
      go_wp2_with fail
      refine ⟨⟨48 :: l, by rw [show (48 :: l) = [48] ++ l from rfl, ← str_append], Lib.hid (by rw [pad_step _ _ hc]; exact hp.out), by simp; omega⟩, ?_⟩
      have e : (⟨#[48]⟩ : ByteArray) ++ str l = str (48 :: l) := by rw [show (48 :: l) = [48] ++ l from rfl, ← str_append]
      rw [e]
      show k - (str (48 :: l)).size < k - (str l).size
      rw [str_size, str_size, List.length_cons]; omega
    · have hc2 : k ≤ (str l).size := by rw [HS.out]; omega
      go_wp2_with fail
      go_ret
      exact ⟨by rw [← hp.out, pad_done _ _ (by omega)]; rfl, HB.out⟩

theorem paddedN (n k : Nat) (hk : k ≤ 20) (h : n < 10 ^ (k + 1)) (hn : n ≤ 9223372036854775807) (w : World) (hT : Tabs w) (h13 : 13 ≤ w.heap.size) :
    Calls Tryz.prog 67 #[.int .i64 n, .int .i64 ((k + 1 : Nat) : Int)] w fun e w' => e = .returned (.string (str (digs (k + 1) n))) ∧ Below w.heap.size w w' := by
  have := padded_any n (k + 1) (by omega) (by omega) (by omega) (by rw [itoa_nat]; have := dec_len k n h; omega) w hT h13
  rwa [itoa_nat, pad_digs k n h] at this
theorem paddedI (x K : Int) (n k : Nat) (hx : x = n) (hK : K = (k : Int) + 1) (hk : k ≤ 20) (h : n < 10 ^ (k + 1)) (hn : n ≤ 9223372036854775807) (w : World) (hT : Tabs w) (h13 : 13 ≤ w.heap.size) :
    Calls Tryz.prog 67 #[.int .i64 x, .int .i64 K] w fun e w' => e = .returned (.string (str (digs (k + 1) n))) ∧ Below w.heap.size w w' := by
  subst hx hK
  exact paddedN n k hk h hn w hT h13
end Go.Proofs.Zap
