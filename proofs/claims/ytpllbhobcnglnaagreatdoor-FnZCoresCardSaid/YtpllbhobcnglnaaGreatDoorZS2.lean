/- a text of the claims over the seat; its order and aim: NOTES.md -/
import Derived.Test.YtpllbhobcnglnaaGreatDoorZQM
namespace Go.Proofs.Zap
open Go Go.Proofs Go.RowKit

/-- an entry's cells but for its level -/
structure EV where
  x : Int
  n : Int
  z : ByteArray
  o : Int
  lg : ByteArray
  ms : ByteArray
  df : Bool
  pc : Int
  f : ByteArray
  ln : Int
  fn : ByteArray
  st : ByteArray

/-- an entry -/
abbrev EV.arr (e : EV) (l : Int) : Array Value := #[.int .i8 l, .int .i64 e.x, .int .i32 e.n, .string e.z, .int .i64 e.o, .string e.lg, .string e.ms, .bool e.df, .int .u64 e.pc, .string e.f, .int .i64 e.ln, .string e.fn, .string e.st]
/-- a checked entry -/
abbrev EV.ce (e : EV) (l : Int) (u : Value) : Array Value := #[.int .i8 l, .int .i64 e.x, .int .i32 e.n, .string e.z, .int .i64 e.o, .string e.lg, .string e.ms, .bool e.df, .int .u64 e.pc, .string e.f, .int .i64 e.ln, .string e.fn, .string e.st, .bool false, .nilIface, u, .slice none 0 0]

def leafV (L : Nat) : Value := .iface 201 (.pointer (some ⟨L, 0, none⟩))

/-- the checked entry, if there is one: its blocks in Q, its cores are leaves -/
def CEo (w : World) (Q : Nat → Prop) (e : EV) (l : Int) (p : Option Addr) (Ls : List Nat) : Prop :=
  (p = none ∧ Ls = []) ∨ ∃ C u, p = some ⟨C, 0, none⟩ ∧ Q C ∧ Blk w C 257 (e.ce l u) ∧ w.ownsRow 0 123 1 u Ls.length (Ls.map leafV) ∧ ∀ k, u.ownBlock = some k → Q k ∧ k ≠ C

theorem CEo.keep {w w' : World} {Q : Nat → Prop} {e : EV} {l : Int} {p : Option Addr} {Ls : List Nat} (h : CEo w Q e l p Ls) (hk : ∀ k, Q k → w'.heap[k]? = w.heap[k]?) : CEo w' Q e l p Ls := by
  rcases h with h | ⟨C, u, h1, h2, h3, h4, h5⟩
  · exact .inl h
  · refine .inr ⟨C, u, h1, h2, (hk C h2).trans h3, ⟨h4.1, ?_⟩, h5⟩
    rcases h4.2 with h | ⟨g, cap, cur, rfl, hb, hg, r⟩
    · exact .inl h
    · exact .inr ⟨g, cap, cur, rfl, hb, (hk g (h5 g rfl).1).trans hg, r⟩
theorem CEo.mono {w : World} {Q Q' : Nat → Prop} {e : EV} {l : Int} {p : Option Addr} {Ls : List Nat} (h : CEo w Q e l p Ls) (hq : ∀ k, Q k → Q' k) : CEo w Q' e l p Ls := by
  rcases h with h | ⟨C, u, h1, h2, h3, h4, h5⟩
  · exact .inl h
  · exact .inr ⟨C, u, h1, hq C h2, h3, h4, fun k hk => ⟨hq k (h5 k hk).1, (h5 k hk).2⟩⟩

/-- what AddCore answers -/
def AdP (w : World) (Q : Nat → Prop) (e : EV) (l : Int) (Ls : List Nat) (en : Ending) (w' : World) : Prop :=
  ∃ p' Q', en = .returned (.pointer p') ∧ CEo w' Q' e l p' Ls ∧ (∀ k, Q' k → Q k ∨ NewB w w' k) ∧ Kept Q w w'

theorem row_new3 (w : World) (o o2 : Obj) (cs : Array Value) (t : TypeId) : (((w.alloc o).alloc o2).alloc (.cells cs t)).heap[w.heap.size + 1 + 1]? = some (.cells cs t (0, 0)) := by
  have := heap_alloc_new ((w.alloc o).alloc o2) (.cells cs t)
  simpa using this

abbrev z17 : Array Value := #[.int .i8 0, .int .i64 0, .int .i32 0, .string ⟨#[]⟩, .int .i64 0, .string ⟨#[]⟩, .string ⟨#[]⟩, .bool false, .int .u64 0, .string ⟨#[]⟩, .int .i64 0, .string ⟨#[]⟩, .string ⟨#[]⟩, .bool false, .nilIface, .slice none 0 0, .slice none 0 0]
theorem get373 (w : World) : Calls Tryz.prog 373 #[] w fun e w' => e = .returned (.pointer (some ⟨w.heap.size, 0, none⟩)) ∧ w' = w.alloc (.cells z17 257) := by
  go_enter Tryz.func373, Tryz.ntmps373
  go_wp2_with fail
  go_ret
  exact ⟨rfl, rfl⟩

set_option maxRecDepth 100000 in
set_option maxHeartbeats 4000000 in
theorem add_nil (e : EV) (l : Int) (L : Nat) (w : World) : Calls Tryz.prog 371 #[.pointer none, .agg (e.arr l), leafV L] w (AdP w (fun _ => False) e l [L]) := by
  unfold EV.arr leafV
  go_enter Tryz.func371, Tryz.ntmps371
  go_wp2_with fail
  refine (get373 _).mono ?_
  rintro en w1 ⟨rfl, rfl⟩
  go_wp2_with (at_builtin; refine wpList_app1at row207 _ ?x1 (.tmp 18) (.tmp 20) ?x2 0 ?v 0 [] ?hs ?own (w.heap.size + 1 + 1) ?cs ?hx ?nh ?hl ?h1 ?n63 ?nb ?nbase ?_)
  case x1 => rfl
  case x2 => rfl
  case hs => rfl
  case hx => rfl
  case own => exact World.ownsRow_nil _ _ _ _
  case nh => exact row_new3 _ _ _ _ _
  case hl => rfl
  case h1 => intro u hu; simp at hu; subst hu; rfl
  case n63 => unfold maxLen; omega
  case nb => omega
  case nbase => omega
  intro u' w2 hown2 hgr2 hat2
  have hb0 : ∀ (o1 : Obj) (o3 : Obj), Blk (((w.alloc o1).alloc (.cells (e.ce l (.slice none 0 0)) 257)).alloc o3) (w.heap.size + 1) 257 (e.ce l (.slice none 0 0)) := fun o1 o3 => (Blk.new2 w o1 257 _).alloc _
  have hb2 : Blk w2 (w.heap.size + 1) 257 (e.ce l (.slice none 0 0)) := (hgr2.block _ (by simp) (by simp [Value.ownBlock, Act.eval])).trans (hb0 _ _)
  have c15 : w2.cell? ⟨w.heap.size + 1, 15, none⟩ = some (.slice none 0 0) := hb2.cell 15
  have f15 : w2.frozen? ⟨w.heap.size + 1, 15, none⟩ = false := hb2.frozen 15
  have hs2 := hgr2.size
  simp at hs2
  have hat3 : ∀ k, u'.ownBlock = some k → k = w.heap.size + 3 := fun k hk => by
    rcases hat2 with h | h
    · rw [h] at hk; simp [Value.ownBlock, Act.eval] at hk
    · rw [h] at hk; injection hk with hk; first | exact hk.symm | (simp at hk; omega) | omega
  have hlt3 : ∀ k, u'.ownBlock = some k → k < w2.heap.size := fun k hk => (hown2.lt k hk).2
  have hbw : ∀ k, k < w.heap.size → w2.heap[k]? = w.heap[k]? := fun k hk => (hgr2.block k (by simp; omega) (by simp [Value.ownBlock, Act.eval])).trans (((heap_alloc_old _ _ (by simp; omega)).trans (heap_alloc_old _ _ (by simp; omega))).trans (heap_alloc_old w _ hk))
  have hos : w2.os = w.os := hgr2.os
  have htp : w2.tape = w.tape := hgr2.tape
  have hop : w2.output = w.output := hgr2.output
  obtain ⟨ua, ucap, rfl⟩ := ownsRow_shape hown2
  have hset := hb2.set_ 15 (.slice ua 1 ucap)
  have hfar : ∀ k, k ≠ w.heap.size + 1 → (w2.setCell ⟨w.heap.size + 1, 15, none⟩ (.slice ua 1 ucap)).heap[k]? = w2.heap[k]? := fun k hne => Below.heap_setCell w2 ⟨w.heap.size + 1, 15, none⟩ (.slice ua 1 ucap) k hne
  have hszs : (w2.setCell ⟨w.heap.size + 1, 15, none⟩ (.slice ua 1 ucap)).heap.size = w2.heap.size := by simp [World.setCell]
  have HSET := Lib.hid hset
  have HFAR := Lib.hid hfar
  have HOWN := Lib.hid hown2
  have HBW := Lib.hid hbw
  have HAT := Lib.hid hat3
  have HLT := Lib.hid hlt3
  clear hb0 hb2 hset hfar hown2 hgr2 hat2 hbw hat3 hlt3
  go_wp2_with fail
  go_ret
  refine ⟨_, fun k => w.heap.size + 1 ≤ k ∧ k < w2.heap.size, rfl, .inr ⟨w.heap.size + 1, _, rfl, ⟨by omega, by omega⟩, HSET.out, ⟨HOWN.out.1, ?_⟩, fun k hk => ⟨⟨by have := HAT.out k hk; omega, HLT.out k hk⟩, by have := HAT.out k hk; omega⟩⟩, fun k hk => .inr ⟨by have := hk.1; omega, by rw [hszs]; exact hk.2⟩, ⟨hos, htp, hop, by rw [hszs]; omega, fun k hk _ => (HFAR.out k (by omega)).trans (HBW.out k hk)⟩⟩
  rcases HOWN.out.2 with h | ⟨g, cap, cur, he, hb, hg, r⟩
  · exact .inl h
  · exact .inr ⟨g, cap, cur, he, hb, (HFAR.out g (by rw [he] at HAT; have := HAT.out g rfl; omega)).trans hg, r⟩

set_option maxRecDepth 100000 in
set_option maxHeartbeats 4000000 in
theorem add_some (e : EV) (l : Int) (L C : Nat) (u : Value) (Q : Nat → Prop) (Ls : List Nat) (w : World) (hQ : ∀ k, Q k → k < w.heap.size) (hC : Q C) (hb : Blk w C 257 (e.ce l u)) (ho : w.ownsRow 0 123 1 u Ls.length (Ls.map leafV)) (hu : ∀ k, u.ownBlock = some k → Q k ∧ k ≠ C) (hn : Ls.length ≤ 1000000) :
    Calls Tryz.prog 371 #[.pointer (some ⟨C, 0, none⟩), .agg (e.arr l), leafV L] w (AdP w Q e l (Ls ++ [L])) := by
  obtain ⟨ua0, uc0, rfl⟩ := ownsRow_shape ho
  have hCw := hQ C hC
  have hb1 : ∀ o, Blk (w.alloc o) C 257 (e.ce l (.slice ua0 Ls.length uc0)) := fun o => hb.alloc o
  have HB1 := Lib.hid hb1
  have HO := Lib.hid ho
  have HU := Lib.hid hu
  have HQ := Lib.hid hQ
  have c15' : ∀ o, (w.alloc o).cell? ⟨C, 15, none⟩ = some (.slice ua0 Ls.length uc0) := fun o => (HB1.out o).cell 15
  clear hb1 ho hu hQ
  unfold EV.arr leafV
  go_enter Tryz.func371, Tryz.ntmps371
  go_wp2_with (at_builtin; refine wpList_app1at row207 _ ?x1 (.tmp 18) (.tmp 20) ?x2 0 ?v Ls.length (Ls.map leafV) ?hs ?own (w.heap.size + 1) ?cs ?hx ?nh ?hl ?h1 ?n63 ?nb ?nbase ?_)
  case x1 => rfl
  case x2 => rfl
  case hs => rfl
  case hx => rfl
  case own => exact (HO.out.alloc _).alloc _
  case nh => exact row_new2 _ _ _ _
  case hl => rfl
  case h1 => intro u hu; simp at hu; subst hu; rfl
  case n63 => unfold maxLen; omega
  case nb => omega
  case nbase => omega
  intro u' w2 hown2 hgr2 hat2
  have hgr3 : ((w.alloc (.cells (e.arr l) 156)).alloc (.cells #[.iface 201 (.pointer (some ⟨L, 0, none⟩))] 123)).grownBy w2 (Value.slice ua0 Ls.length uc0).ownBlock := hgr2
  have hat3 : u'.ownBlock = (Value.slice ua0 Ls.length uc0).ownBlock ∨ u'.ownBlock = some (w.heap.size + 2) := hat2.imp (fun h => h) (fun h => h.trans (by simp))
  have hb2 : Blk w2 C 257 (e.ce l (.slice ua0 Ls.length uc0)) := (hgr3.block C (by simp; omega) (fun h => (HU.out C h.symm).2 rfl)).trans (((HB1.out _).alloc _))
  have c15 : w2.cell? ⟨C, 15, none⟩ = some (.slice ua0 Ls.length uc0) := hb2.cell 15
  have f15 : w2.frozen? ⟨C, 15, none⟩ = false := hb2.frozen 15
  have hs2 := hgr3.size
  simp at hs2
  have hlt3 : ∀ k, u'.ownBlock = some k → k < w2.heap.size := fun k hk => (hown2.lt k hk).2
  have hbw : ∀ k, k < w.heap.size → ¬ Q k → w2.heap[k]? = w.heap[k]? := fun k hk hn => (hgr3.block k (by simp; omega) (fun h => hn (HU.out k h.symm).1)).trans ((heap_alloc_old _ _ (by simp; omega)).trans (heap_alloc_old w _ hk))
  have hos : w2.os = w.os := hgr3.os
  have htp : w2.tape = w.tape := hgr3.tape
  have hop : w2.output = w.output := hgr3.output
  have hat4 : ∀ k, u'.ownBlock = some k → (Q k ∧ k ≠ C) ∨ k = w.heap.size + 2 := fun k hk => by
    rcases hat3 with h | h
    · rw [h] at hk; exact .inl (HU.out k hk)
    · rw [h] at hk; injection hk with hk; exact .inr hk.symm
  obtain ⟨ua, ucap, rfl⟩ := ownsRow_shape hown2
  have hset := hb2.set_ 15 (.slice ua (Ls.length + 1) ucap)
  have hfar : ∀ k, k ≠ C → (w2.setCell ⟨C, 15, none⟩ (.slice ua (Ls.length + 1) ucap)).heap[k]? = w2.heap[k]? := fun k hne => Below.heap_setCell w2 ⟨C, 15, none⟩ (.slice ua (Ls.length + 1) ucap) k hne
  have hszs : (w2.setCell ⟨C, 15, none⟩ (.slice ua (Ls.length + 1) ucap)).heap.size = w2.heap.size := by simp [World.setCell]
  have HSET := Lib.hid hset
  have HFAR := Lib.hid hfar
  have HOWN := Lib.hid hown2
  have HBW := Lib.hid hbw
  have HAT := Lib.hid hat4
  have HLT := Lib.hid hlt3
  clear hb2 hset hfar hown2 hgr2 hgr3 hat2 hat3 hbw hat4 hlt3 hb
  go_wp2_with fail
  go_ret
  have hlen : (Ls ++ [L]).length = Ls.length + 1 := by simp
  have hmap : (Ls ++ [L]).map leafV = Ls.map leafV ++ [leafV L] := by simp
  refine ⟨_, fun k => Q k ∨ (w.heap.size + 1 ≤ k ∧ k < w2.heap.size), rfl, .inr ⟨C, _, rfl, .inl hC, HSET.out, ?_, fun k hk => ?_⟩, fun k hk => hk.imp id (fun h => ⟨by omega, by rw [hszs]; exact h.2⟩), ⟨hos, htp, hop, by rw [hszs]; omega, fun k hk hn => (HFAR.out k (fun h => hn (h ▸ hC))).trans (HBW.out k hk hn)⟩⟩
  · rw [hlen, hmap]
    refine ⟨HOWN.out.1, ?_⟩
    rcases HOWN.out.2 with h | ⟨g, cap, cur, he, hb, hg, r⟩
    · exact .inl h
    · refine .inr ⟨g, cap, cur, he, hb, (HFAR.out g ?_).trans hg, r⟩
      rw [he] at HAT
      rcases HAT.out g rfl with h | h
      · exact h.2
      · omega
  · rcases HAT.out k hk with h | h
    · exact ⟨.inl h.1, h.2⟩
    · exact ⟨.inr ⟨by omega, HLT.out k hk⟩, by omega⟩
end Go.Proofs.Zap

namespace Go.Proofs.Zap
open Go Go.Proofs Go.RowKit

theorem add_any (w : World) (Q : Nat → Prop) (e : EV) (l : Int) (p : Option Addr) (Ls : List Nat) (L : Nat) (h : CEo w Q e l p Ls) (hQ : ∀ k, Q k → k < w.heap.size) (hn : Ls.length ≤ 1000000) :
    Calls Tryz.prog 371 #[.pointer p, .agg (e.arr l), leafV L] w (AdP w Q e l (Ls ++ [L])) := by
  rcases h with ⟨rfl, rfl⟩ | ⟨C, u, rfl, h2, h3, h4, h5⟩
  · refine (add_nil e l L w).mono ?_
    rintro en w' ⟨p', Q', h1, h2, h3, h4⟩
    exact ⟨p', Q', h1, h2, fun k hk => (h3 k hk).elim (fun h => h.elim) .inr, h4.mono' fun k h => h.elim⟩
  · exact add_some e l L C u Q Ls w hQ h2 h3 h4 h5 hn

/-- a core while entries are written -/
def RepR (w : World) (N : Nat) : KT FC → (Nat → Prop) → Value → Prop
  | .leaf lvl num fs, S, v => ∃ L g, v = .iface 201 (.pointer (some ⟨L, 0, none⟩)) ∧ S L ∧ Blk w L 205 #[.iface 129 (.int .i8 lvl), .int .i64 num, g, .pointer (some ⟨N, 0, none⟩)] ∧ GFs w S fs g ∧ -128 ≤ lvl ∧ lvl ≤ 127
  | .nop, _, v => v = .iface 318 (.agg #[])
  | .tee n kids, S, v => ∃ T cap, ∃ Sk : Nat → Nat → Prop, ∃ vs : Nat → Value, v = .iface 319 (.slice (some ⟨T, 0, none⟩) n cap) ∧ n ≤ cap ∧ cap ≤ 9223372036854775807 ∧ S T ∧
      (∀ i, i < n → (∀ k, Sk i k → S k) ∧ ¬ Sk i T ∧ (∀ j, j < n → j ≠ i → ∀ k, Sk i k → ¬ Sk j k) ∧ w.cell? ⟨T, i, none⟩ = some (vs i) ∧ RepR w N (kids i) (Sk i) (vs i))
  | .incr lvl k, S, v => ∃ I vc, ∃ S1 : Nat → Prop, v = .iface 321 (.pointer (some ⟨I, 0, none⟩)) ∧ S I ∧ Blk w I 323 #[vc, .iface 129 (.int .i8 lvl)] ∧ (∀ j, S1 j → S j) ∧ ¬ S1 I ∧ RepR w N k S1 vc ∧ -128 ≤ lvl ∧ lvl ≤ 127
  | .lazy k fs, S, v => ∃ Z vo g, ∃ S1 SG : Nat → Prop, v = .iface 324 (.pointer (some ⟨Z, 0, none⟩)) ∧ S Z ∧ (∀ j, S1 j → S j) ∧ (∀ j, SG j → S j) ∧ ¬ S1 Z ∧ ¬ SG Z ∧ (∀ j, SG j → ¬ S1 j) ∧
      ((Blk w Z 326 #[.nilIface, vo, .bool false, g] ∧ RepU w N k S1 vo ∧ GFs w SG fs g) ∨ ∃ vy, ∃ S2 : Nat → Prop, Blk w Z 326 #[vy, vo, .bool true, g] ∧ RepE w N k S1 vo ∧ (∀ j, S2 j → S j) ∧ ¬ S2 Z ∧ (∀ j, S2 j → ¬ S1 j) ∧ RepF w N (withF fs k) S2 vy)

theorem RepR.keep {w w' : World} {N : Nat} {K : KT FC} : ∀ {S : Nat → Prop} {v : Value}, RepR w N K S v → (∀ k, S k → w'.heap[k]? = w.heap[k]?) → RepR w' N K S v := by
  induction K with
  | leaf lvl num fs =>
    intro S v h hk
    obtain ⟨L, g, h1, h2, h3, h4, h5⟩ := h
    exact ⟨L, g, h1, h2, (hk L h2).trans h3, h4.keep hk, h5⟩
  | nop => intro S v h hk; exact h
  | tee n kids ih =>
    intro S v h hk
    obtain ⟨T, cap, Sk, vs, h1, h2, h3, h4, h5⟩ := h
    refine ⟨T, cap, Sk, vs, h1, h2, h3, h4, fun i hi => ?_⟩
    obtain ⟨g1, g2, g3, g4, g5⟩ := h5 i hi
    exact ⟨g1, g2, g3, (World.cell?_of_block (w := w) (hk T h4)).trans g4, ih i g5 fun k hk2 => hk k (g1 k hk2)⟩
  | incr lvl k ih =>
    intro S v h hk
    obtain ⟨I, vc, S1, h1, h2, h3, h4, h5, h6, h7⟩ := h
    exact ⟨I, vc, S1, h1, h2, (hk I h2).trans h3, h4, h5, ih h6 fun k hk2 => hk k (h4 k hk2), h7⟩
  | lazy k fs ih =>
    intro S v h hk
    obtain ⟨Z, vo, g, S1, SG, h1, h2, h3, h4, h5, h6, h7, h10⟩ := h
    refine ⟨Z, vo, g, S1, SG, h1, h2, h3, h4, h5, h6, h7, ?_⟩
    rcases h10 with ⟨a1, a2, a3⟩ | ⟨vy, S2, a1, a2, a3, a4, a5, a7⟩
    · exact .inl ⟨(hk Z h2).trans a1, a2.keep fun j hj => hk j (h3 j hj), a3.keep fun j hj => hk j (h4 j hj)⟩
    · exact .inr ⟨vy, S2, (hk Z h2).trans a1, RepG.keep (fun _ _ _ _ h => h) a2 fun j hj => hk j (h3 j hj), a3, a4, a5, a7.keep fun j hj => hk j (a3 j hj)⟩

theorem RepR.monoS {w : World} {N : Nat} {K : KT FC} {S S' : Nat → Prop} {v : Value} (h : RepR w N K S v) (hs : ∀ k, S k → S' k) : RepR w N K S' v := by
  cases K with
  | leaf lvl num fs => obtain ⟨L, g, h1, h2, h3, h4, h5⟩ := h; exact ⟨L, g, h1, hs L h2, h3, h4.mono hs, h5⟩
  | nop => exact h
  | tee n kids =>
    obtain ⟨T, cap, Sk, vs, h1, h2, h3, h4, h5⟩ := h
    exact ⟨T, cap, Sk, vs, h1, h2, h3, hs T h4, fun i hi => ⟨fun k hk => hs k ((h5 i hi).1 k hk), (h5 i hi).2⟩⟩
  | incr lvl k =>
    obtain ⟨I, vc, S1, h1, h2, h3, h4, h5⟩ := h
    exact ⟨I, vc, S1, h1, hs I h2, h3, fun j hj => hs j (h4 j hj), h5⟩
  | lazy k fs =>
    obtain ⟨Z, vo, g, S1, SG, h1, h2, h3, h4, h5, h6, h7, h10⟩ := h
    refine ⟨Z, vo, g, S1, SG, h1, hs Z h2, fun j hj => hs j (h3 j hj), fun j hj => hs j (h4 j hj), h5, h6, h7, ?_⟩
    rcases h10 with h | ⟨vy, S2, a1, a2, a3, a4⟩
    · exact .inl h
    · exact .inr ⟨vy, S2, a1, a2, fun j hj => hs j (a3 j hj), a4⟩

theorem RepU.toR {w : World} {N : Nat} {K : KT FC} : ∀ {S : Nat → Prop} {v : Value}, RepU w N K S v → RepR w N K S v := by
  induction K with
  | leaf lvl num fs => intro S v h; exact h
  | nop => intro S v h; exact h
  | tee n kids ih =>
    intro S v h
    obtain ⟨T, cap, Sk, vs, h1, h2, h3, h4, h5⟩ := h
    refine ⟨T, cap, Sk, vs, h1, h2, h3, h4, fun i hi => ?_⟩
    obtain ⟨g1, g2, g3, g4, g5⟩ := h5 i hi
    exact ⟨g1, g2, g3, g4, ih i g5⟩
  | incr lvl k ih =>
    intro S v h
    obtain ⟨I, vc, S1, h1, h2, h3, h4, h5, h6, h7⟩ := h
    exact ⟨I, vc, S1, h1, h2, h3, h4, h5, ih h6, h7⟩
  | lazy k fs ih =>
    intro S v h
    obtain ⟨h0, Z, vo, g, S1, SG, h1, h2, h3, h4, h5, h6, h7, h8, h9, h10⟩ := h
    refine ⟨Z, vo, g, S1, SG, h1, h2, h3, h4, h5, h6, h7, ?_⟩
    rcases h10 with h10 | ⟨vy, S2, _, _, _, _, hno⟩
    · exact .inl ⟨h10, h8, h9⟩
    · exact hno.elim

/-- no lazy core in it -/
def lf {F : Type} : KT F → Prop
  | .leaf .. => True
  | .nop => True
  | .tee n kids => ∀ i, i < n → lf (kids i)
  | .incr _ k => lf k
  | .lazy _ _ => False
theorem lf_withF {F : Type} (K : KT F) : ∀ fs : List F, lf (withF fs K) := by
  induction K with
  | leaf => intro fs; trivial
  | nop => intro fs; trivial
  | tee n kids ih => intro fs i hi; exact ih i fs
  | incr lvl k ih => intro fs; exact ih fs
  | lazy k gs ih => intro fs; exact ih (gs ++ fs)
theorem RepF.toR {w : World} {N : Nat} {K : KT FC} {S : Nat → Prop} {v : Value} (h : RepF w N K S v) : RepR w N K S v := (RepF.toU h).toR
theorem RepR.toF {w : World} {N : Nat} {K : KT FC} : ∀ {S : Nat → Prop} {v : Value}, lf K → RepR w N K S v → RepF w N K S v := by
  induction K with
  | leaf lvl num fs => intro S v hl h; exact h
  | nop => intro S v hl h; exact h
  | tee n kids ih =>
    intro S v hl h
    obtain ⟨T, cap, Sk, vs, h1, h2, h3, h4, h5⟩ := h
    refine ⟨T, cap, Sk, vs, h1, h2, h3, h4, fun i hi => ?_⟩
    obtain ⟨g1, g2, g3, g4, g5⟩ := h5 i hi
    exact ⟨g1, g2, g3, g4, ih i (hl i hi) g5⟩
  | incr lvl k ih =>
    intro S v hl h
    obtain ⟨I, vc, S1, h1, h2, h3, h4, h5, h6, h7⟩ := h
    exact ⟨I, vc, S1, h1, h2, h3, h4, h5, ih hl h6, h7⟩
  | lazy k fs ih => intro S v hl h; exact hl.elim

theorem RepR.form {w : World} {N : Nat} {K : KT FC} {S : Nat → Prop} {v : Value} (h : RepR w N K S v) : ∃ t p, v = .iface t p := by
  cases K with
  | leaf lvl num fs => obtain ⟨L, g, h1, _⟩ := h; exact ⟨_, _, h1⟩
  | nop => exact ⟨_, _, h⟩
  | tee n kids => obtain ⟨T, cap, Sk, vs, h1, _⟩ := h; exact ⟨_, _, h1⟩
  | incr lvl k => obtain ⟨I, vc, S1, h1, _⟩ := h; exact ⟨_, _, h1⟩
  | lazy k fs => obtain ⟨Z, vo, g, S1, SG, h1, _⟩ := h; exact ⟨_, _, h1⟩

/-- how many leaves -/
def lvs {F : Type} : KT F → Nat
  | .leaf .. => 1
  | .nop => 0
  | .tee n kids => sumN n fun i => lvs (kids i)
  | .incr _ k => lvs k
  | .lazy k _ => lvs k
theorem lvs_withF {F : Type} (K : KT F) : ∀ fs : List F, lvs (withF fs K) = lvs K := by
  induction K with
  | leaf => intro fs; rfl
  | nop => intro fs; rfl
  | tee n kids ih => intro fs; exact sumN_congr fun i _ => ih i fs
  | incr lvl k ih => intro fs; exact ih fs
  | lazy k gs ih => intro fs; exact ih (gs ++ fs)
theorem wrK_len {F : Type} (K : KT F) (l : Int) : (wrK K l).length ≤ lvs K := by
  induction K with
  | leaf lvl num gs => simp only [wrK, lvs]; split <;> simp
  | nop => simp [wrK, lvs]
  | tee n kids ih =>
    simp only [wrK, lvs]
    have : ∀ m, m ≤ n → ((List.range m).flatMap fun i => wrK (kids i) l).length ≤ sumN m fun i => lvs (kids i) := by
      intro m
      induction m with
      | zero => intro _; simp
      | succ m ihm =>
        intro hm
        rw [List.range_succ, List.flatMap_append, List.length_append]
        have a := ihm (by omega)
        have b := ih m
        simp only [sumN, List.flatMap_cons, List.flatMap_nil, List.append_nil]
        omega
    exact this n (Nat.le_refl _)
  | incr lvl k ih =>
    simp only [wrK, lvs]
    split
    · exact ih
    · exact Nat.zero_le _
  | lazy k gs ih =>
    simp only [wrK, lvs]
    split
    · rw [List.length_map]; exact ih
    · exact Nat.zero_le _

/-- a leaf that has agreed to write, and what it has -/
def LeafAt (w : World) (N : Nat) (S : Nat → Prop) (L : Nat) (d : Nat × List FC) : Prop :=
  S L ∧ ∃ (lvl : Int) (g : Value), Blk w L 205 #[.iface 129 (.int .i8 lvl), .int .i64 d.1, g, .pointer (some ⟨N, 0, none⟩)] ∧ GFs w S d.2 g
theorem LeafAt.keep {w w' : World} {N : Nat} {S : Nat → Prop} {L : Nat} {d : Nat × List FC} (h : LeafAt w N S L d) (hk : ∀ k, S k → w'.heap[k]? = w.heap[k]?) : LeafAt w' N S L d := by
  obtain ⟨h1, lvl, g, h2, h3⟩ := h
  exact ⟨h1, lvl, g, (hk L h1).trans h2, h3.keep hk⟩
theorem LeafAt.mono {w : World} {N : Nat} {S S' : Nat → Prop} {L : Nat} {d : Nat × List FC} (h : LeafAt w N S L d) (hs : ∀ k, S k → S' k) : LeafAt w N S' L d := by
  obtain ⟨h1, lvl, g, h2, h3⟩ := h
  exact ⟨hs L h1, lvl, g, h2, h3.mono hs⟩

/-- the leaves in a list, one by one -/
def Leaves (w : World) (N : Nat) (S : Nat → Prop) (Ms : List Nat) (ds : List (Nat × List FC)) : Prop := Ms.length = ds.length ∧ ∀ (i L : Nat) (d : Nat × List FC), Ms[i]? = some L → ds[i]? = some d → LeafAt w N S L d
theorem Leaves.nil (w : World) (N : Nat) (S : Nat → Prop) : Leaves w N S [] [] := ⟨rfl, fun i L d h => by simp at h⟩
theorem Leaves.keep {w w' : World} {N : Nat} {S : Nat → Prop} {Ms : List Nat} {ds : List (Nat × List FC)} (h : Leaves w N S Ms ds) (hk : ∀ k, S k → w'.heap[k]? = w.heap[k]?) : Leaves w' N S Ms ds :=
  ⟨h.1, fun i L d h1 h2 => (h.2 i L d h1 h2).keep hk⟩
theorem Leaves.mono {w : World} {N : Nat} {S S' : Nat → Prop} {Ms : List Nat} {ds : List (Nat × List FC)} (h : Leaves w N S Ms ds) (hs : ∀ k, S k → S' k) : Leaves w N S' Ms ds :=
  ⟨h.1, fun i L d h1 h2 => (h.2 i L d h1 h2).mono hs⟩
theorem Leaves.append {w : World} {N : Nat} {S : Nat → Prop} {Ms Ms' : List Nat} {ds ds' : List (Nat × List FC)} (h : Leaves w N S Ms ds) (h' : Leaves w N S Ms' ds') : Leaves w N S (Ms ++ Ms') (ds ++ ds') := by
  refine ⟨by simp [h.1, h'.1], fun i L d h1 h2 => ?_⟩
  by_cases hi : i < ds.length
  · rw [List.getElem?_append_left (by rw [h.1]; exact hi)] at h1
    rw [List.getElem?_append_left hi] at h2
    exact h.2 i L d h1 h2
  · rw [List.getElem?_append_right (by rw [h.1]; omega), h.1] at h1
    rw [List.getElem?_append_right (by omega)] at h2
    exact h'.2 _ L d h1 h2

/-- what Check answers -/
def CkP (w : World) (N : Nat) (S Q : Nat → Prop) (e : EV) (l : Int) (K : KT FC) (Ls : List Nat) (v : Value) (en : Ending) (w' : World) : Prop :=
  ∃ p' Q' S' Ms, en = .returned (.pointer p') ∧ CEo w' Q' e l p' (Ls ++ Ms) ∧ RepR w' N K S' v ∧ (∀ k, S' k → S k ∨ NewB w w' k) ∧ (∀ k, Q' k → Q k ∨ NewB w w' k) ∧ (∀ k, S' k → ¬ Q' k) ∧ Kept (fun k => S k ∨ Q k) w w' ∧ Leaves w' N S' Ms (wrK K l)

def CK (N : Nat) (K : KT FC) : Prop := ∀ (S : Nat → Prop) (v : Value) (w : World) (Q : Nat → Prop) (e : EV) (l : Int) (p : Option Addr) (Ls : List Nat) (m : Nat), RepR w N K S v → (∀ k, S k → k < w.heap.size) → (∀ k, Q k → k < w.heap.size) → (∀ k, S k → ¬ Q k) → CEo w Q e l p Ls →
  fl K m → m ≤ 1000000 → Ls.length + lvs K ≤ 1000000 → InvW v "Check" [.agg (e.arr l), .pointer p] w (CkP w N S Q e l K Ls v)

set_option maxRecDepth 1000000
theorem nlCL (a : Addr) (w : World) : (nilAhead 589 201 (.pointer (some a)) "Check").run Tryz.prog w = .ok (some false) w := by kernel_rfl
theorem mtCL (a : Addr) (w : World) : (method 589 201 (.pointer (some a)) "Check").run Tryz.prog w = .ok (367, .pointer (some a)) w := by kernel_rfl
theorem nlCN (w : World) : (nilAhead 589 318 (.agg #[]) "Check").run Tryz.prog w = .ok (some false) w := by kernel_rfl
theorem mtCN (w : World) : (method 589 318 (.agg #[]) "Check").run Tryz.prog w = .ok (398, .agg #[]) w := by kernel_rfl
theorem nlCT (a : Option Addr) (n c : Nat) (w : World) : (nilAhead 589 319 (.slice a n c) "Check").run Tryz.prog w = .ok (some false) w := by kernel_rfl
theorem mtCT (a : Option Addr) (n c : Nat) (w : World) : (method 589 319 (.slice a n c) "Check").run Tryz.prog w = .ok (403, .slice a n c) w := by kernel_rfl
theorem nlCI (a : Addr) (w : World) : (nilAhead 589 321 (.pointer (some a)) "Check").run Tryz.prog w = .ok (some false) w := by kernel_rfl
theorem mtCI (a : Addr) (w : World) : (method 589 321 (.pointer (some a)) "Check").run Tryz.prog w = .ok (410, .pointer (some a)) w := by kernel_rfl
theorem nlCZ (a : Addr) (w : World) : (nilAhead 589 324 (.pointer (some a)) "Check").run Tryz.prog w = .ok (some false) w := by kernel_rfl
theorem mtCZ (a : Addr) (w : World) : (method 589 324 (.pointer (some a)) "Check").run Tryz.prog w = .ok (416, .pointer (some a)) w := by kernel_rfl
theorem cf367 (A : Array Value) (W : World) : (callFunc 367 A).run Tryz.prog W = .ok (.enter 367 A) W := by kernel_rfl
theorem cf398 (A : Array Value) (W : World) : (callFunc 398 A).run Tryz.prog W = .ok (.enter 398 A) W := by kernel_rfl
theorem cf403 (A : Array Value) (W : World) : (callFunc 403 A).run Tryz.prog W = .ok (.enter 403 A) W := by kernel_rfl
theorem cf410 (A : Array Value) (W : World) : (callFunc 410 A).run Tryz.prog W = .ok (.enter 410 A) W := by kernel_rfl
theorem cf416 (A : Array Value) (W : World) : (callFunc 416 A).run Tryz.prog W = .ok (.enter 416 A) W := by kernel_rfl

theorem ck_nop (N : Nat) : CK N .nop := by
  intro S v w Q e l p Ls m h hS hQ hSQ hce hfl hm hn
  obtain rfl := h
  refine ⟨318, _, 398, _, rfl, nlCN _, mtCN w, cf398, ?_⟩
  have hc : Calls Tryz.prog 398 #[.agg #[], .agg (e.arr l), .pointer p] w (Says w (.pointer p)) := by
    unfold EV.arr
    go_enter Tryz.func398, Tryz.ntmps398
    go_wp2_with fail
    go_ret
    exact ⟨rfl, ((Below.refl _ _).alloc (Nat.le_refl _) _).alloc (by simp) _⟩
  refine hc.mono ?_
  rintro en w' ⟨rfl, hb⟩
  exact ⟨p, Q, S, [], rfl, by simpa using hce.keep fun k hk => hb.block k (hQ k hk), rfl, fun k hk => .inl hk, fun k hk => .inl hk, hSQ, Kept.of_below hb, Leaves.nil _ _ _⟩
end Go.Proofs.Zap

namespace Go.Proofs.Zap
open Go Go.Proofs Go.RowKit

abbrev TwoC (w' : World) (L X : Nat) (a b : Value) : Prop := w'.cell? ⟨L, 0, none⟩ = some a ∧ w'.cell? ⟨X, 0, none⟩ = some b

set_option maxHeartbeats 4000000 in
theorem ck_leaf (N : Nat) (lvl : Int) (num : Nat) (fs : List FC) : CK N (.leaf lvl num fs) := by
  intro S v w Q e l p Ls m h hS hQ hSQ hce hfl hm hn
  obtain ⟨L, g, rfl, h2, h3, h4, h5⟩ := h
  refine ⟨201, _, 367, _, rfl, nlCL _ _, mtCL _ w, cf367, ?_⟩
  have hLw := hS L h2
  have n1 := fun a w => nlL a w
  have n2 := fun a w => mtL a w
  have hX : Blk (w.alloc (.cells (e.arr l) 156)) w.heap.size 156 (e.arr l) := Blk.new w 156 _
  have hkS : ∀ w', Below (w.heap.size + 1) (w.alloc (.cells (e.arr l) 156)).drew w' → ∀ k, k < w.heap.size → w'.heap[k]? = w.heap[k]? := fun w' hb k hk => (hb.block k (by omega)).trans (heap_alloc_old w _ hk)
  have hkX : ∀ w', Below (w.heap.size + 1) (w.alloc (.cells (e.arr l) 156)).drew w' → Blk w' w.heap.size 156 (e.arr l) := fun w' hb => (hb.block _ (by omega)).trans hX
  have hs0 : TwoC (w.alloc (.cells (e.arr l) 156)) L w.heap.size (.iface 129 (.int .i8 lvl)) (.int .i8 l) := ⟨(h3.alloc _).cell 0, hX.cell 0⟩
  have hs1 : ∀ w', Below (w.heap.size + 1) (w.alloc (.cells (e.arr l) 156)).drew w' → TwoC w' L w.heap.size (.iface 129 (.int .i8 lvl)) (.int .i8 l) := fun w' hb => ⟨Blk.cell ((hkS w' hb L hLw).trans h3) 0, (hkX w' hb).cell 0⟩
  have H3 := Lib.hid h3
  have H4 := Lib.hid h4
  have HCE := Lib.hid hce
  have HKS := Lib.hid hkS
  have HKX := Lib.hid hkX
  have HS0 := Lib.hid hs0
  have HS1 := Lib.hid hs1
  have HSS := Lib.hid hS
  have HQQ := Lib.hid hQ
  have HSQ := Lib.hid hSQ
  have hsz : (w.alloc (.cells (e.arr l) 156)).drew.heap.size = w.heap.size + 1 := by show (w.alloc (.cells (e.arr l) 156)).heap.size = _; simp
  clear h3 h4 hce hkS hkX hs0 hs1 hX hS hQ hSQ
  have hlv := lvlEn lvl l (w.alloc (.cells (e.arr l) 156)).drew
  unfold Says at hlv
  rw [hsz] at hlv
  have HLV := Lib.hid hlv
  clear hlv
  unfold EV.arr at *
  go_enter Tryz.func367, Tryz.ntmps367
  go_wp2_with fail
  go_region_held3 (fun w' => TwoC w' L w.heap.size (.iface 129 (.int .i8 lvl)) (.int .i8 l)) (first | exact HS0.out | exact HS1.out _ hb1) ((go_at_call 261; refine HLV.out.mono ?_; rintro en w1 ⟨rfl, hb1⟩))
  all_goals
    have hs1 : w.heap.size + 1 ≤ w1.heap.size := by have := hb1.size; rw [hsz] at this; exact this
    have HB1 := Lib.hid hb1
    clear hb1
    by_cases hle : lvl ≤ l
    · have hd : decide (lvl ≤ l) = true := by simpa using hle
      have hbx := HKX.out _ HB1.out
      have x0 := hbx.cell 0
      have x1 := hbx.cell 1
      have x2 := hbx.cell 2
      have x3 := hbx.cell 3
      have x4 := hbx.cell 4
      have x5 := hbx.cell 5
      have x6 := hbx.cell 6
      have x7 := hbx.cell 7
      have x8 := hbx.cell 8
      have x9 := hbx.cell 9
      have x10 := hbx.cell 10
      have x11 := hbx.cell 11
      have x12 := hbx.cell 12
      simp at x0 x1 x2 x3 x4 x5 x6 x7 x8 x9 x10 x11 x12
      have had := add_any w1 Q e l p Ls L (HCE.out.keep fun k hk => HKS.out _ HB1.out k (HQQ.out k hk)) (fun k hk => by have := HQQ.out k hk; omega) (by omega)
      unfold EV.arr leafV at had
      have HAD := Lib.hid had
      clear had hbx
      go_wp2_with fail
      refine HAD.out.mono ?_
      rintro en w2 ⟨p', Q', rfl, hce2, hq2, hk2⟩
      have HCE2 := Lib.hid hce2
      have HQ2 := Lib.hid hq2
      have HK2 := Lib.hid hk2
      clear hce2 hq2 hk2 x0 x1 x2 x3 x4 x5 x6 x7 x8 x9 x10 x11 x12 HAD
      go_wp2_with fail
      go_ret
      have hs2 := HK2.out.size
      have hkS : ∀ k, S k → w2.heap[k]? = w.heap[k]? := fun k hk => (HK2.out.block k (by have := HSS.out k hk; omega) (HSQ.out k hk)).trans (HKS.out _ HB1.out k (HSS.out k hk))
      refine ⟨p', Q', S, [L], rfl, HCE2.out, ⟨L, g, rfl, h2, (hkS L h2).trans H3.out, H4.out.keep hkS, h5⟩, fun k hk => .inl hk, fun k hk => (HQ2.out k hk).imp id (fun h => ⟨by have := h.1; omega, h.2⟩), fun k hk hq => ?_, ⟨HK2.out.os.trans HB1.out.os, HK2.out.tape.trans HB1.out.tape, HK2.out.output.trans HB1.out.output, by omega, fun k hk hns => (HK2.out.block k (by omega) (fun h => hns (.inr h))).trans (HKS.out _ HB1.out k hk)⟩, ?_⟩
      · rcases HQ2.out k hq with h | h
        · exact HSQ.out k hk h
        · have := HSS.out k hk; have := h.1; omega
      · simp only [wrK, if_pos hle]
        refine ⟨rfl, fun i L' d h1 h2' => ?_⟩
        rcases i with _ | i
        · simp at h1 h2'
          subst h1 h2'
          exact ⟨h2, lvl, g, (hkS L h2).trans H3.out, H4.out.keep hkS⟩
        · simp at h1
    · have hd : decide (lvl ≤ l) = false := by simpa using hle
      go_wp2_with fail
      go_ret
      have hkS : ∀ k, k < w.heap.size → w1.heap[k]? = w.heap[k]? := HKS.out _ HB1.out
      refine ⟨p, Q, S, [], rfl, by simpa using HCE.out.keep fun k hk => hkS k (HQQ.out k hk), ⟨L, g, rfl, h2, (hkS L hLw).trans H3.out, H4.out.keep (fun k hk => hkS k (HSS.out k hk)), h5⟩, fun k hk => .inl hk, fun k hk => .inl hk, HSQ.out, ⟨HB1.out.os, HB1.out.tape, HB1.out.output, by omega, fun k hk _ => hkS k hk⟩, ?_⟩
      simp only [wrK, if_neg (show ¬ lvl ≤ l by omega)]
      exact Leaves.nil _ _ _
end Go.Proofs.Zap
