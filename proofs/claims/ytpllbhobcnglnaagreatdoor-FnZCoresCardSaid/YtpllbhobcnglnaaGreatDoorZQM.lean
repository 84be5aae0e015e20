/- a text of the claims over the seat; its order and aim: NOTES.md -/
import Derived.Test.YtpllbhobcnglnaaGreatDoorZQL
namespace Go.Proofs.Zap
open Go Go.Proofs Go.RowKit

theorem FlOk.form {w : World} {B d : Nat} {fs : List FC} {v : Value} (h : FlOk w B d fs v) : ∃ fA fn fc, v = .slice fA fn fc := by
  obtain ⟨A, cap, h1, _⟩ := h; exact ⟨_, _, _, h1⟩

set_option maxHeartbeats 2000000 in
theorem core_nop (lvl : Int) (n : Nat) (A : Option Addr) (cap : Nat) (kids : Nat → CT FC) (fs : List FC) (fv : Value) (d N c : Nat) (e0 s0 : Value) (w : World) (hf : fine (.mk 5 lvl n kids fs) d = true) (hfv : ∃ fA fn fc, fv = .slice fA fn fc)
    (hN : Blk w N 128 #[e0, .int .i64 c, s0]) :
    Calls Tryz.prog 71 #[.agg #[.int .i64 5, .int .i64 lvl, .slice A n cap, fv], .pointer (some ⟨N, 0, none⟩)] w (CoP w N (.mk 5 lvl n kids fs) c e0 s0) := by
  obtain ⟨fA, fn, fc, rfl⟩ := hfv
  have hN1 := hN.alloc (.cells #[.int .i64 5, .int .i64 lvl, .slice A n cap, .slice fA fn fc] 41)
  have HN1 := Lib.hid hN1
  have hmk : makes (.mk 5 lvl n kids fs) = true := by
    obtain ⟨_, _, _, _, _, h0, _⟩ := fine_parts hf
    have e := h0 (by omega)
    subst e
    simp [makes, anyB]
  have HMK := Lib.hid hmk
  clear hmk hN hN1
  go_enter Tryz.func71, Tryz.ntmps71
  go_wp2_with (go_at_call 116; refine (nop116 _).mono ?_; rintro e w1 ⟨rfl, rfl⟩)
  go_ret2
  exact ⟨(Kept.refl _ _).alloc _, .inl ⟨HMK.out, _, rfl, HN1.out, rfl⟩⟩

theorem tee117_0 (ua : Option Addr) (ucap : Nat) (w : World) : Calls Tryz.prog 117 #[.slice ua 0 ucap] w fun e w' => e = .returned (.iface 318 (.agg #[])) ∧ w' = w := by
  go_enter Tryz.func117, Tryz.ntmps117
  go_wp2_with (go_at_call 116; refine (nop116 _).mono ?_; rintro e w1 ⟨rfl, rfl⟩)
  go_ret
  exact ⟨rfl, rfl⟩
theorem tee117_1 (g ucap : Nat) (t : TypeId) (p : Value) (w : World) (h : w.cell? ⟨g, 0, none⟩ = some (.iface t p)) : Calls Tryz.prog 117 #[.slice (some ⟨g, 0, none⟩) 1 ucap] w fun e w' => e = .returned (.iface t p) ∧ w' = w := by
  go_enter Tryz.func117, Tryz.ntmps117
  go_wp2_with fail
  go_ret
  exact ⟨rfl, rfl⟩
theorem tee117_2 (ua : Option Addr) (n ucap : Nat) (w : World) (h0 : n ≠ 0) (h1 : n ≠ 1) : Calls Tryz.prog 117 #[.slice ua n ucap] w fun e w' => e = .returned (.iface 319 (.slice ua n ucap)) ∧ w' = w := by
  have e0 : ((n : Int) == 0) = false := by simp; omega
  have e1 : ((n : Int) == 1) = false := by simp; omega
  go_enter Tryz.func117, Tryz.ntmps117
  go_wp2_with fail
  go_ret
  exact ⟨rfl, rfl⟩

theorem inc_yes (p : Int → Bool) (a : Int) (t : TypeId) (q : Value) (w : World) (hi : ∀ l W, Below w.heap.size w W → Inv (.iface t q) "Enabled" [.int .i8 l] W (Says W (.bool (p l)))) (h : incOk p a = true) :
    Calls Tryz.prog 118 #[.iface t q, .iface 129 (.int .i8 a)] w fun e w' => Below w.heap.size w w' ∧ ∃ I, e = .returned (.tuple #[.iface 321 (.pointer (some ⟨I, 0, none⟩)), .nilIface]) ∧ w.heap.size ≤ I ∧ Blk w' I 323 #[.iface t q, .iface 129 (.int .i8 a)] := by
  refine (inc_any p a t q w hi).mono ?_
  rintro e w' ⟨hb, ⟨h2, _⟩ | ⟨_, h2⟩⟩
  · rw [h] at h2; cases h2
  · exact ⟨hb, h2⟩
theorem inc_no (p : Int → Bool) (a : Int) (t : TypeId) (q : Value) (w : World) (hi : ∀ l W, Below w.heap.size w W → Inv (.iface t q) "Enabled" [.int .i8 l] W (Says W (.bool (p l)))) (h : incOk p a = false) :
    Calls Tryz.prog 118 #[.iface t q, .iface 129 (.int .i8 a)] w fun e w' => Below w.heap.size w w' ∧ ∃ t2 q2, e = .returned (.tuple #[.nilIface, .iface t2 q2]) := by
  refine (inc_any p a t q w hi).mono ?_
  rintro e w' ⟨hb, ⟨_, x, rfl, t2, q2, rfl⟩ | ⟨h2, _⟩⟩
  · exact ⟨hb, t2, q2, rfl⟩
  · rw [h] at h2; cases h2

theorem makes_inc (lvl : Int) (kids : Nat → CT FC) (fs : List FC) (d c : Nat) (hf : fine (.mk 2 lvl 1 kids fs) d = true) (hm : makes (kids 0) = true) : makes (.mk 2 lvl 1 kids fs) = incOk (enK (bld (kids 0) c)) (w8 lvl) := by
  obtain ⟨_, _, _, _, _, _, hk⟩ := fine_parts hf
  simp only [makes, incOk]
  rw [anyB_false.2 fun i hi => by obtain rfl : i = 0 := by omega
                                  rw [hm]; rfl]
  simp only [Bool.not_false, Bool.true_and, beq_self_eq_true]
  rw [anyB_congr fun j hj => by rw [← enK_bld (kids 0) (d - 1) c _ (hk 0 (by omega)) (w8_id (by omega) (by omega))]]

/-- the cells that the making of an increased, a with and a lazy core reads -/
abbrev MkS (w' : World) (g X : Nat) (v x1 x3 : Value) : Prop := w'.cell? ⟨g, 0, none⟩ = some v ∧ w'.cell? ⟨X, 1, none⟩ = some x1 ∧ w'.cell? ⟨X, 3, none⟩ = some x3
theorem MkS.keep {w w' : World} {g X : Nat} {v x1 x3 : Value} (h : MkS w g X v x1 x3) (hg : w'.heap[g]? = w.heap[g]?) (hX : w'.heap[X]? = w.heap[X]?) : MkS w' g X v x1 x3 :=
  ⟨(World.cell?_of_block (w := w) hg).trans h.1, (World.cell?_of_block (w := w) hX).trans h.2.1, (World.cell?_of_block (w := w) hX).trans h.2.2⟩

theorem CAt.form {w : World} {B : Nat} {t : CT FC} {v : Value} (h : CAt w B t v) : ∃ k l A n cap fA fn fc, v = .agg #[.int .i64 k, .int .i64 l, .slice A n cap, .slice fA fn fc] := by
  cases t with
  | no => exact h.elim
  | mk kind lvl n kids fs =>
    obtain ⟨A, cap, fv, rfl, _, _, _, ⟨d, h5⟩, _⟩ := h
    obtain ⟨fA, fn, fc, rfl⟩ := h5.form
    exact ⟨_, _, _, _, _, _, _, _, rfl⟩

set_option maxRecDepth 100000 in
set_option maxHeartbeats 8000000 in
theorem core_any (t : CT FC) : ∀ (d : Nat), fine t d = true → ∀ (v : Value) (B N c : Nat) (e0 s0 : Value) (w : World), CAt w B t v → B ≤ N → Blk w N 128 #[e0, .int .i64 c, s0] → flen t ≤ 300 → c + cnt t ≤ 1000000 →
    Calls Tryz.prog 71 #[v, .pointer (some ⟨N, 0, none⟩)] w (CoP w N t c e0 s0) := by
  induction t with
  | no => intro d hf; exact absurd hf (by simp [fine])
  | mk kind lvl n kids fs ih =>
    intro d hf v B N c e0 s0 w hc hBN hN hfl hct
    have hff := hf
    obtain ⟨k0, k5, hd, hn, h1, h0, hk⟩ := fine_parts hf
    obtain ⟨A, cap, fv, rfl, h2, h3, h4, ⟨d5, h5⟩, hbd, h6⟩ := hc
    have hform := h5.form
    by_cases z0 : kind = 0
    · subst z0
      exact core_leaf lvl n A cap kids fs fv d N c e0 s0 w hff hform hN (by have : cnt (.mk 0 lvl n kids fs) = 1 := by simp [cnt]
                                                                            omega)
    by_cases z5 : kind = 5
    · subst z5
      exact core_nop lvl n A cap kids fs fv d N c e0 s0 w hff hform hN
    have hcnt : cnt (.mk kind lvl n kids fs) = sumN n fun i => cnt (kids i) := by simp [cnt, z0, z5]
    have hNl := hN.lt
    have kb0 : (kind == 0) = false := by simp [z0]
    have kb5 : (kind == 5) = false := by simp [z5]
    have hfk : ∀ i, i < n → flen (kids i) ≤ 300 := fun i hi => by
      have := sumN_le (f := fun i => flen (kids i)) hi
      simp only [flen] at hfl; omega
    have hck : ∀ i, i < n → offN c kids i + cnt (kids i) ≤ 1000000 := fun i hi => by
      have := sumN_mono (f := fun i => cnt (kids i)) (show i + 1 ≤ n by omega)
      rw [hcnt] at hct
      simp only [sumN] at this
      simp only [offN]; omega
    have hNo : Below w.heap.size w (w.alloc (.cells #[.int .i64 kind, .int .i64 lvl, .slice A n cap, fv] 41)) := (Below.refl _ _).alloc (Nat.le_refl _) _
    have hci : CoI w (w.alloc (.cells #[.int .i64 kind, .int .i64 lvl, .slice A n cap, fv] 41)) N n 0 c kids #[.int .i64 kind, .int .i64 lvl, .slice A n cap, fv] e0 s0 (.slice none 0 0) :=
      ⟨Kept.of_below hNo, Blk.new _ _ _, by simpa [offN, sumN] using hN.alloc _, fun i hi => absurd hi (by omega), fun _ => .nilIface, fun _ _ => False, World.ownsRow_nil _ _ _ _, fun i hi => absurd hi (by omega)⟩
    have hih := fun (i : Nat) (hi : i < n) (v : Value) (W : World) (hcat : CAt W B (kids i) v) (hnb : Blk W N 128 #[e0, .int .i64 ((offN c kids i : Nat) : Int), s0]) => ih i (d - 1) (hk i hi) v B N (offN c kids i) e0 s0 W hcat hBN hnb (hfk i hi) (hck i hi)
    have HIH := Lib.hid hih
    have HCI := Lib.hid hci
    have H5 := Lib.hid h5
    have H6 := Lib.hid h6
    have HF := Lib.hid hff
    have HFL := Lib.hid hfl
    have HCT := Lib.hid hct
    have HH1 := Lib.hid h1
    have HCNT := Lib.hid hcnt
    obtain ⟨fA, fn, fc, rfl⟩ := hform
    have hx0 := HCI.out.x.cell 0
    have hx2 := HCI.out.x.cell 2
    simp at hx0 hx2
    clear hih hci h5 h6 hff hf hfl hct h1 h0 hk ih hN hNo hfk hck hcnt h4
    go_enter Tryz.func71, Tryz.ntmps71
    go_wp2_with fail
    go_loopw [6, 43] (fun u i wr => ∃ j : Nat, i = .int .i64 j ∧ j ≤ n ∧ Hid (CoI w wr N n j c kids #[.int .i64 kind, .int .i64 lvl, .slice A n cap, .slice fA fn fc] e0 s0 u)) (fun _ i _ => n - (intOf i).toNat)
    case atStart => exact ⟨0, rfl, by omega, HCI⟩
    case round =>
      obtain ⟨j, rfl, hj, hco⟩ := hrel
      obtain ⟨ua, ucap, rfl⟩ : ∃ a cp, u6 = .slice a j cp := by
        obtain ⟨vs, Sk, o1, _⟩ := hco.out.own
        rcases o1.2 with ⟨e1, e2⟩ | ⟨g, cp, cur, e1, _⟩
        · exact ⟨none, 0, by rw [e1, e2]⟩
        · exact ⟨_, cp, e1⟩
      have hxb := hco.out.x
      have hwx := hxb.lt
      by_cases hlt : j < n
      · obtain ⟨b, o, rfl, hb, hcs⟩ := H6.out (by omega)
        obtain ⟨r0, r1, r2, r3, hrow, hcat⟩ := hcs j hlt
        have kb : ∀ k, k < B → wr.heap[k]? = w.heap[k]? := fun k hk => hco.out.kept.block k (by omega) (by omega)
        have hrow' := hrow.keep hb kb
        have hcat' := hcat.keep kb
        obtain ⟨q1k, q1l, q1A, q1n, q1c, q1fA, q1fn, q1fc, hfm⟩ := hcat.form
        injection hfm with hfm
        injection hfm with hfm
        injection hfm with e0' hfm
        injection hfm with e1' hfm
        injection hfm with e2' hfm
        injection hfm with e3' hfm
        subst e0' e1' e2' e3'
        have c0 : wr.cell? ⟨b, o + j * 4, none⟩ = some (.int .i64 q1k) := hrow' 0 _ rfl
        have c1 : wr.cell? ⟨b, o + j * 4 + 1, none⟩ = some (.int .i64 q1l) := hrow' 1 _ rfl
        have c2 : wr.cell? ⟨b, o + j * 4 + 2, none⟩ = some (.slice q1A q1n q1c) := hrow' 2 _ rfl
        have c3 : wr.cell? ⟨b, o + j * 4 + 3, none⟩ = some (.slice q1fA q1fn q1fc) := hrow' 3 _ rfl
        have q0 : (0 : Int) ≤ (j : Int) := Int.natCast_nonneg _
        have q1 : (j : Int) < (n : Int) := by omega
        have hWb : ∀ ob, Below wr.heap.size wr (wr.alloc ob) := fun ob => (Below.refl _ _).alloc (Nat.le_refl _) ob
        have hcall : ∀ ob, Calls Tryz.prog 71 #[.agg #[.int .i64 q1k, .int .i64 q1l, .slice q1A q1n q1c, .slice q1fA q1fn q1fc], .pointer (some ⟨N, 0, none⟩)] (wr.alloc ob) (CoP (wr.alloc ob) N (kids j) (offN c kids j) e0 s0) := fun ob =>
          HIH.out j hlt _ _ (hcat'.keep fun k hk => (hWb ob).block k (by omega)) (hco.out.nb.alloc ob)
        have HC := Lib.hid hcall
        have HWB := Lib.hid hWb
        clear hcall hcat hcat' hrow hrow' hcs kb hWb hxb
        go_wp2_with fail
        refine (HC.out _).mono ?_
        rintro e w' ⟨hkp, hres⟩
        obtain ⟨vs0, hown0, hsz0⟩ := hco.out.own_alloc hNl (HWB.out _) hkp
        have HKP := Lib.hid hkp
        have HOWN0 := Lib.hid hown0
        rcases hres with ⟨hmk, v, rfl, hnb, hru⟩ | ⟨hmk, rfl, x, hnb⟩
        · obtain ⟨t1, p1, rfl⟩ := RepG.form hru
          have HNB := Lib.hid hnb
          have HRU := Lib.hid hru
          have HMK := Lib.hid hmk
          clear hnb hru hmk hkp hown0 c0 c1 c2 c3 HC HIH HCI
          go_wp2_with (at_builtin; refine wpList_app1at row207 _ ?x1 (.tmp 55) (.tmp 57) ?x2 (w.heap.size + 1) ?v j (vlist vs0 j) ?hs ?own w'.heap.size ?cs ?hx ?nh ?hl ?h1 ?n63 ?nb ?nbase ?_)
          case x1 => rfl
          case x2 => rfl
          case hs => rfl
          case hx => rfl
          case own => exact HOWN0.out.alloc _
          case nh => exact row_new1 _ _ _
          case hl => rfl
          case h1 => intro u hu; simp at hu; subst hu; rfl
          case n63 => unfold maxLen; omega
          case nb => omega
          case nbase => simp; omega
          intro u' w2 hown2 hgr2 hat2
          have hst := hco.out.step hNl (HWB.out _) (by simp) HKP.out HMK.out HNB.out HRU.out rfl HOWN0.out hown2 hgr2 (hat2.imp (fun h => h) (fun h => by rw [h]; simp))
          have HST := Lib.hid hst
          clear hown2 hgr2 hat2 hst HKP HMK HNB HRU HOWN0 HWB hco
          go_wp2_with fail
          go_roundw
          case rel => exact ⟨j + 1, by go_num, by omega, HST⟩
          case measure => simp [intOf]; omega
        · have hmf : makes (.mk kind lvl n kids fs) = false := by
            simp only [makes]
            rw [anyB_true.2 ⟨j, hlt, by rw [hmk]; rfl⟩]; rfl
          have HMF := Lib.hid hmf
          have HNB := Lib.hid hnb
          have hkk : Kept (fun k => k = N) w w' := (hco.out.kept.alloc _).trans hkp
          have HKK := Lib.hid hkk
          clear hnb hmk hkp hown0 c0 c1 c2 c3 HC HIH HCI hmf hkk
          go_wp2_with fail
          go_ret2
          exact ⟨HKK.out, .inr ⟨HMF.out, rfl, _, HNB.out⟩⟩
      · have e : j = n := by omega
        subst e
        have hcs : kind = 1 ∨ kind = 2 ∨ kind = 3 ∨ kind = 4 := by omega
        have x0 : wr.cell? ⟨w.heap.size, 0, none⟩ = some (.int .i64 kind) := hxb.cell 0
        have x1 : wr.cell? ⟨w.heap.size, 1, none⟩ = some (.int .i64 lvl) := hxb.cell 1
        have x3 : wr.cell? ⟨w.heap.size, 3, none⟩ = some (.slice fA fn fc) := hxb.cell 3
        clear HIH HCI hxb
        rcases hcs with rfl | rfl | rfl | rfl
        · have hmf : makes (.mk 1 lvl j kids fs) = true := by
            simp only [makes]
            rw [anyB_false.2 fun i hi => by rw [hco.out.made i hi]; rfl]; rfl
          have HMF := Lib.hid hmf
          have hnbf : Blk wr N 128 #[e0, .int .i64 ((c + cnt (.mk 1 lvl j kids fs) : Nat) : Int), s0] := by
            rw [HCNT.out]; exact hco.out.nb
          have HNB := Lib.hid hnbf
          clear hmf hnbf
          by_cases j0 : j = 0
          · subst j0
            go_wp2_with (go_at_call 117; refine (tee117_0 _ _ _).mono ?_; rintro e w1 ⟨rfl, rfl⟩)
            go_ret2
            refine ⟨hco.out.kept, .inl ⟨HMF.out, _, rfl, HNB.out, ?_⟩⟩
            simp only [bld]
            rfl
          · obtain ⟨g, cp, vs, Sk, hu, hcap, hcm, hg1, hg2, hcell, hall⟩ := hco.out.cell (by omega)
            injection hu with hu1 hu2 hu3
            subst hu1 hu3
            by_cases j1 : j = 1
            · subst j1
              obtain ⟨a1, a2, a3, a4⟩ := hall 0 (by omega)
              obtain ⟨t1, p1, hv⟩ := RepG.form a1
              have hc0 : wr.cell? ⟨g, 0, none⟩ = some (.iface t1 p1) := (hcell 0 (by omega)).trans (by rw [hv])
              have HA := Lib.hid a1
              have HA2 := Lib.hid a2
              have HV := Lib.hid hv
              clear a1 a2 a3 a4 hv hcell hall
              go_wp2_with (go_at_call 117; refine (tee117_1 _ _ _ _ _ hc0).mono ?_; rintro e w1 ⟨rfl, rfl⟩)
              go_ret2
              refine ⟨hco.out.kept, .inl ⟨HMF.out, _, rfl, HNB.out, ?_⟩⟩
              have hb : bld (.mk 1 lvl 1 kids fs) c = bld (kids 0) c := by simp [bld]
              rw [hb, ← HV.out]
              have := HA.out
              simp only [offN, sumN, Nat.add_zero] at this
              exact RepG.monoS this fun k hk => ⟨by have := (HA2.out k hk).1; omega, (HA2.out k hk).2⟩
            · have HCELL := Lib.hid hcell
              have HALL := Lib.hid hall
              clear hcell hall
              go_wp2_with (go_at_call 117; refine (tee117_2 _ _ _ _ j0 j1).mono ?_; rintro e w1 ⟨rfl, rfl⟩)
              go_ret2
              refine ⟨hco.out.kept, .inl ⟨HMF.out, _, rfl, HNB.out, ?_⟩⟩
              have hb : bld (.mk 1 lvl j kids fs) c = .tee j fun i => bld (kids i) (offN c kids i) := by simp [bld, j0, j1, offN]
              rw [hb]
              refine ⟨g, ucap, Sk, vs, rfl, hcap, by unfold maxLen at hcm; omega, ⟨by omega, hg2⟩, fun i hi => ?_⟩
              obtain ⟨a1, a2, a3, a4⟩ := HALL.out i hi
              exact ⟨fun k hk => ⟨by have := (a2 k hk).1; omega, (a2 k hk).2⟩, a3, a4, HCELL.out i hi, a1⟩
        · have n1 := HH1.out (.inl rfl)
          subst n1
          obtain ⟨g, cp, vs, Sk, hu, hcap, hcm, hg1, hg2, hcell, hall⟩ := hco.out.cell (by omega)
          injection hu with hu1 hu2 hu3
          subst hu1 hu3
          obtain ⟨a1, a2, a3, a4⟩ := hall 0 (by omega)
          obtain ⟨t1, p1, hv⟩ := RepG.form a1
          rw [hv] at a1
          have hc0 : wr.cell? ⟨g, 0, none⟩ = some (.iface t1 p1) := (hcell 0 (by omega)).trans (by rw [hv])
          simp only [offN, sumN, Nat.add_zero] at a1
          have hnbf : Blk wr N 128 #[e0, .int .i64 ((c + cnt (.mk 2 lvl 1 kids fs) : Nat) : Int), s0] := by
            rw [HCNT.out]; exact hco.out.nb
          have hmi := makes_inc lvl kids fs d c HF.out (hco.out.made 0 (by omega))
          have hi : ∀ l W, Below wr.drew.heap.size wr.drew W → Inv (.iface t1 p1) "Enabled" [.int .i8 l] W (Says W (.bool (enK (bld (kids 0) c) l))) := fun l W hW =>
            en_rep l _ (RepG.keep (Y' := fun _ _ _ => False) (w' := W) (fun _ _ _ _ h => h) a1 fun k hk => hW.block k (a2 k hk).2) fun k hk => Nat.lt_of_lt_of_le (a2 k hk).2 hW.size
          have e2 := wrap8 lvl
          have b2 := w8_bd lvl
          have hMk : MkS wr g w.heap.size (.iface t1 p1) (.int .i64 lvl) (.slice fA fn fc) := ⟨hc0, x1, x3⟩
          have HMKS := Lib.hid hMk
          have hMk2 : ∀ w', Below wr.drew.heap.size wr.drew w' → MkS w' g w.heap.size (.iface t1 p1) (.int .i64 lvl) (.slice fA fn fc) := fun w' hb => hMk.keep (hb.block g hg2) (hb.block _ hwx)
          have HMKS2 := Lib.hid hMk2
          have HA := Lib.hid a1
          have HA2 := Lib.hid a2
          have HNB := Lib.hid hnbf
          rcases hio : incOk (enK (bld (kids 0) c)) (w8 lvl) with _ | _
          · have hcl := inc_no _ _ _ _ wr.drew hi hio
            rw [hio] at hmi
            have HMI := Lib.hid hmi
            have HCL := Lib.hid hcl
            clear a1 a2 a3 a4 hv hcell hall hnbf hi hmi hcl hMk hMk2 hio
            go_wp2_with fail
            go_region_held3 (fun w' => MkS w' g w.heap.size (.iface t1 p1) (.int .i64 lvl) (.slice fA fn fc)) (first | exact HMKS.out | exact HMKS2.out _ hb1) ((go_at_call 118; refine HCL.out.mono ?_; rintro e w1 ⟨hb1, t2, q2, rfl⟩))
            all_goals
              have HB1 := Lib.hid hb1
              clear hb1 HCL
              go_wp2_with fail
              go_region_held3 (fun _ => True) (trivial) (fail)
              all_goals
                go_wp2_with fail
                go_ret2
                exact ⟨hco.out.kept.trans ((Kept.drewN wr 1).trans ⟨HB1.out.os, HB1.out.tape, HB1.out.output, HB1.out.size, fun k hk _ => HB1.out.block k hk⟩), .inr ⟨HMI.out, rfl, _, (HB1.out.block N (Nat.lt_trans hNl hwx)).trans HNB.out⟩⟩
          · have hcl := inc_yes _ _ _ _ wr.drew hi hio
            rw [hio] at hmi
            have HMI := Lib.hid hmi
            have HCL := Lib.hid hcl
            clear a1 a2 a3 a4 hv hcell hall hnbf hi hmi hcl hMk hMk2 hio
            go_wp2_with fail
            go_region_held3 (fun w' => MkS w' g w.heap.size (.iface t1 p1) (.int .i64 lvl) (.slice fA fn fc)) (first | exact HMKS.out | exact HMKS2.out _ hb1) ((go_at_call 118; refine HCL.out.mono ?_; rintro e w1 ⟨hb1, I, rfl, hI, hbI⟩))
            all_goals
              have HB1 := Lib.hid hb1
              have HBI := Lib.hid hbI
              have hI2 : wr.heap.size ≤ I := hI
              clear hb1 HCL hbI hI
              go_wp2_with fail
              go_region_held3 (fun _ => True) (trivial) (fail)
              all_goals
                go_wp2_with fail
                go_ret2
                have hs1 : wr.heap.size ≤ w1.heap.size := HB1.out.size
                refine ⟨hco.out.kept.trans ((Kept.drewN wr 1).trans ⟨HB1.out.os, HB1.out.tape, HB1.out.output, HB1.out.size, fun k hk _ => HB1.out.block k hk⟩), .inl ⟨HMI.out, _, rfl, (HB1.out.block N (Nat.lt_trans hNl hwx)).trans HNB.out, ?_⟩⟩
                have hb : bld (.mk 2 lvl 1 kids fs) c = .incr (w8 lvl) (bld (kids 0) c) := by simp [bld]
                rw [hb]
                exact ⟨I, _, Sk 0, rfl, ⟨by omega, HBI.out.lt⟩, HBI.out, fun k hk => ⟨by have := (HA2.out k hk).1; omega, by have := (HA2.out k hk).2; show k < w1.heap.size; omega⟩, fun h => by have := (HA2.out _ h).2; omega, HA.out.keep fun k hk => HB1.out.block k (HA2.out k hk).2, b2.1, b2.2⟩
        · have n1 := HH1.out (.inr (.inl rfl))
          subst n1
          obtain ⟨g, cp, vs, Sk, hu, hcap, hcm, hg1, hg2, hcell, hall⟩ := hco.out.cell (by omega)
          injection hu with hu1 hu2 hu3
          subst hu1 hu3
          obtain ⟨a1, a2, a3, a4⟩ := hall 0 (by omega)
          obtain ⟨t1, p1, hv⟩ := RepG.form a1
          rw [hv] at a1
          have hc0 : wr.cell? ⟨g, 0, none⟩ = some (.iface t1 p1) := (hcell 0 (by omega)).trans (by rw [hv])
          simp only [offN, sumN, Nat.add_zero] at a1
          have hnbf : Blk wr N 128 #[e0, .int .i64 ((c + cnt (.mk 3 lvl 1 kids fs) : Nat) : Int), s0] := by
            rw [HCNT.out]; exact hco.out.nb
          have hmf : makes (.mk 3 lvl 1 kids fs) = true := by
            simp only [makes]
            rw [anyB_false.2 fun i hi => by rw [hco.out.made i hi]; rfl]; rfl
          have hfine := (fine_parts HF.out).2.2.2.2.2.2 0 (by omega)
          have hlen : flen (kids 0) + fs.length ≤ 300 := by have := HFL.out; simp only [flen, sumN] at this; omega
          have hcar := carried_gfs B d5 fs (.slice fA fn fc) wr.drew (H5.out.keep fun k hk => hco.out.kept.block k (by omega) (by omega)) (by show B ≤ wr.heap.size; omega)
          have hwc : ∀ (w1 : World) (v' : Value), GFs w1 (fun k => wr.drew.heap.size ≤ k ∧ k < w1.heap.size) fs v' → Below wr.drew.heap.size wr.drew w1 → InvW (.iface t1 p1) "With" [v'] w1 (WithU w1 N (Sk 0) (bld (kids 0) c) fs (.iface t1 p1)) := fun w1 v' hgf hb =>
            wc_U N (bld (kids 0) c) (Sk 0) _ w1 (flen (kids 0)) fs v' _ (a1.keep fun k hk => hb.block k (a2 k hk).2) (fun k hk => Nat.lt_of_lt_of_le (a2 k hk).2 hb.size) hgf (fun k hk => ⟨hk.2, fun h => by have := (a2 k h).2; have h2 : wr.heap.size ≤ k := hk.1; omega⟩) (fl_bld (kids 0) (d - 1) c hfine) (by omega)
          have hMk : MkS wr g w.heap.size (.iface t1 p1) (.int .i64 lvl) (.slice fA fn fc) := ⟨hc0, x1, x3⟩
          have hMk2 : ∀ w', Below wr.drew.heap.size wr.drew w' → MkS w' g w.heap.size (.iface t1 p1) (.int .i64 lvl) (.slice fA fn fc) := fun w' hb => hMk.keep (hb.block g hg2) (hb.block _ hwx)
          have hMk3 : ∀ w' w2, Below wr.drew.heap.size wr.drew w' → Kept (Sk 0) w' w2 → MkS w2 g w.heap.size (.iface t1 p1) (.int .i64 lvl) (.slice fA fn fc) := fun w' w2 hb hk => (hMk2 w' hb).keep (hk.block g (Nat.lt_of_lt_of_le hg2 hb.size) a3) (hk.block _ (Nat.lt_of_lt_of_le hwx hb.size) fun h => by have := (a2 _ h).1; omega)
          have HMKS := Lib.hid hMk
          have HMKS2 := Lib.hid hMk2
          have HMKS3 := Lib.hid hMk3
          have HCAR := Lib.hid hcar
          have HWC := Lib.hid hwc
          have HA2 := Lib.hid a2
          have HNB := Lib.hid hnbf
          have HMF := Lib.hid hmf
          clear a1 a2 a3 a4 hv hcell hall hnbf hcar hwc hMk hMk2 hMk3 hmf hfine
          go_wp2_with fail
          go_region_held3 (fun w' => MkS w' g w.heap.size (.iface t1 p1) (.int .i64 lvl) (.slice fA fn fc)) (first | exact HMKS.out | exact HMKS3.out _ _ HB1.out hk2 | exact HMKS2.out _ HB1.out) (first | (go_at_call 83; refine HCAR.out.mono ?_; rintro e w1 ⟨vc, rfl, hgf, hb1⟩; obtain ⟨t2, p2, f1, r, ev, i1, i3, i5, i4⟩ := HWC.out w1 vc hgf hb1; cases ev; obtain ⟨vA, vcap, rfl, -⟩ := hgf; have I4 := Lib.hid i4; have HB1 := Lib.hid hb1; clear i4 hb1) | (refine I4.out.mono ?_; rintro e w2 ⟨v2, rfl, hr2, hk2, he2⟩; obtain ⟨t3, p3, rfl⟩ := RepG.form hr2))
          all_goals
            have HR2 := Lib.hid hr2
            have HK2 := Lib.hid hk2
            clear hr2 hk2 he2 i1 i3 I4 HCAR HWC
            go_wp2_with fail
            go_ret2
            have hs1 : wr.heap.size ≤ w1.heap.size := HB1.out.size
            have hs2 := HK2.out.size
            have hkk : ∀ k, k < wr.heap.size → ¬ Sk 0 k → w2.heap[k]? = wr.heap[k]? := fun k hk hn => (HK2.out.block k (by omega) hn).trans (HB1.out.block k hk)
            have hnS : ∀ k, k ≤ w.heap.size → ¬ Sk 0 k := fun k hk h => by have := (HA2.out k h).1; omega
            have hk0 := hco.out.kept
            refine ⟨⟨(HK2.out.os.trans HB1.out.os).trans hk0.os, (HK2.out.tape.trans HB1.out.tape).trans hk0.tape, (HK2.out.output.trans HB1.out.output).trans hk0.output, by omega, fun k hk hn => (hkk k (by omega) (hnS k (by omega))).trans (hk0.block k hk hn)⟩, .inl ⟨HMF.out, _, rfl, (hkk N (by omega) (hnS N (by omega))).trans HNB.out, ?_⟩⟩
            · have hb : bld (.mk 3 lvl 1 kids fs) c = withF fs (bld (kids 0) c) := by simp [bld]
              rw [hb]
              exact RepG.monoS (RepF.toU HR2.out) fun k hk => ⟨by have := hk.1; omega, hk.2⟩
        · have n1 := HH1.out (.inr (.inr rfl))
          subst n1
          obtain ⟨g, cp, vs, Sk, hu, hcap, hcm, hg1, hg2, hcell, hall⟩ := hco.out.cell (by omega)
          injection hu with hu1 hu2 hu3
          subst hu1 hu3
          obtain ⟨a1, a2, a3, a4⟩ := hall 0 (by omega)
          obtain ⟨t1, p1, hv⟩ := RepG.form a1
          rw [hv] at a1
          have hc0 : wr.cell? ⟨g, 0, none⟩ = some (.iface t1 p1) := (hcell 0 (by omega)).trans (by rw [hv])
          simp only [offN, sumN, Nat.add_zero] at a1
          have hnbf : Blk wr N 128 #[e0, .int .i64 ((c + cnt (.mk 4 lvl 1 kids fs) : Nat) : Int), s0] := by
            rw [HCNT.out]; exact hco.out.nb
          have hmf : makes (.mk 4 lvl 1 kids fs) = true := by
            simp only [makes]
            rw [anyB_false.2 fun i hi => by rw [hco.out.made i hi]; rfl]; rfl
          have hfine := (fine_parts HF.out).2.2.2.2.2.2 0 (by omega)
          have hlen : flen (kids 0) + fs.length ≤ 300 := by have := HFL.out; simp only [flen, sumN] at this; omega
          have hcar := carried_gfs B d5 fs (.slice fA fn fc) wr.drew (H5.out.keep fun k hk => hco.out.kept.block k (by omega) (by omega)) (by show B ≤ wr.heap.size; omega)
          have hMk : MkS wr g w.heap.size (.iface t1 p1) (.int .i64 lvl) (.slice fA fn fc) := ⟨hc0, x1, x3⟩
          have hMk2 : ∀ w', Below wr.drew.heap.size wr.drew w' → MkS w' g w.heap.size (.iface t1 p1) (.int .i64 lvl) (.slice fA fn fc) := fun w' hb => hMk.keep (hb.block g hg2) (hb.block _ hwx)
          have HMKS := Lib.hid hMk
          have HMKS2 := Lib.hid hMk2
          have HCAR := Lib.hid hcar
          have HA := Lib.hid a1
          have HA2 := Lib.hid a2
          have HNB := Lib.hid hnbf
          have HMF := Lib.hid hmf
          clear a1 a2 a3 a4 hv hcell hall hnbf hcar hMk hMk2 hmf hfine
          go_wp2_with fail
          go_region_held3 (fun w' => MkS w' g w.heap.size (.iface t1 p1) (.int .i64 lvl) (.slice fA fn fc)) (first | exact HMKS.out | exact (HMKS2.out _ HB1.out).keep (heap_alloc_old w1 _ (Nat.lt_of_lt_of_le hg2 HB1.out.size)) (heap_alloc_old w1 _ (Nat.lt_of_lt_of_le hwx HB1.out.size)) | exact HMKS2.out _ HB1.out) (first | (go_at_call 83; refine HCAR.out.mono ?_; rintro e w1 ⟨vc, rfl, hgf, hb1⟩; have HGF := Lib.hid hgf; obtain ⟨vA, vcap, rfl, -⟩ := hgf; have HB1 := Lib.hid hb1; clear hb1) | (go_at_call 119; refine (lazy119 _ _ _ _ _ _).mono ?_; rintro e w2 ⟨rfl, rfl⟩))
          all_goals
            clear HCAR
            go_wp2_with fail
            go_ret2
            have hs1 : wr.heap.size ≤ w1.heap.size := HB1.out.size
            have hkk : ∀ k, k < wr.heap.size → w1.heap[k]? = wr.heap[k]? := fun k hk => HB1.out.block k hk
            have hk0 := hco.out.kept
            refine ⟨Kept.alloc ⟨HB1.out.os.trans hk0.os, HB1.out.tape.trans hk0.tape, HB1.out.output.trans hk0.output, by omega, fun k hk hn => (hkk k (by omega)).trans (hk0.block k hk hn)⟩ _, .inl ⟨HMF.out, _, rfl, Blk.alloc ((hkk N (by omega)).trans HNB.out) _, ?_⟩⟩
            have hb : bld (.mk 4 lvl 1 kids fs) c = .lazy (bld (kids 0) c) fs := by simp [bld]
            rw [hb]
            refine ⟨trivial, w1.heap.size, _, _, Sk 0, fun k => wr.heap.size ≤ k ∧ k < w1.heap.size, rfl, ⟨by omega, by simp⟩, fun k hk => ⟨by have := (HA2.out k hk).1; omega, by have := (HA2.out k hk).2; simp; omega⟩, fun k hk => ⟨by have := hk.1; omega, by have := hk.2; simp; omega⟩, fun h => by have := (HA2.out _ h).2; omega, fun h => by have := h.2; omega, fun k hk h => by have := (HA2.out k h).2; have := hk.1; omega, ?_, ?_, .inl (Blk.new w1 326 _)⟩
            · exact HA.out.keep fun k hk => (heap_alloc_old w1 _ (Nat.lt_of_lt_of_le (HA2.out k hk).2 hs1)).trans (hkk k (HA2.out k hk).2)
            · exact HGF.out.keep fun k hk => heap_alloc_old w1 _ hk.2
end Go.Proofs.Zap
