/- a text of the claims over the seat; its order and aim: NOTES.md -/
import Derived.Test.YtpllbhobcnglnaaGreatDoorZQ4
import Derived.Deep.Slices
import Derived.SizedLaws
import Derived.Test.YtpllbhobcnglnaaGreatDoorZSA
namespace Go.Proofs.Zap
open Go Go.Proofs Go.RowKit

section
variable {H : Type} {enc : TypeId × Value → H} {W : World}

/-- each slice and text of a datum takes no more than a process has -/
def WOk (t : TypeId) (d : DataW H) : Prop := ∀ n ∈ d.weights Tryz.prog t, n ≤ reachBytes

theorem mem_weightsAll {P : Program} {e : TypeId} : ∀ {l : List (DataW H)} {d : DataW H} {n : Nat}, d ∈ l → n ∈ d.weights P e → n ∈ DataW.weightsAll P e l
  | a :: l, d, n, hd, hn => by
    simp only [DataW.weightsAll, List.mem_append]
    rcases List.mem_cons.1 hd with rfl | hd
    · exact .inl hn
    · exact .inr (mem_weightsAll hd hn)
  | [], d, n, hd, _ => by cases hd

theorem wok_slice {t e : TypeId} (ht : Tryz.prog.underlying t = some (.slice e)) {el sp : List (DataW H)} (h : WOk t (.slice el sp)) :
    (el.length + sp.length) * Tryz.prog.bytesOf e ≤ reachBytes ∧ ∀ d ∈ el, WOk e d := by
  have hw : (DataW.slice el sp).weights Tryz.prog t = (el.length + sp.length) * Tryz.prog.bytesOf e :: (DataW.weightsAll Tryz.prog e el ++ DataW.weightsAll Tryz.prog e sp) := by simp [DataW.weights, ht]
  unfold WOk at h
  rw [hw] at h
  exact ⟨h _ (List.mem_cons_self ..), fun d hd n hn => h n (List.mem_cons_of_mem _ (List.mem_append.2 (.inl (mem_weightsAll hd hn))))⟩

theorem wok_struct {t : TypeId} {fs : Array Field} (ht : Tryz.prog.underlying t = some (.struct fs)) {parts : List (DataW H)} (h : WOk t (.agg parts)) {j : Nat} {f : Field} {d : DataW H} (hf : fs[j]? = some f) (hd : parts[j]? = some d) : WOk f.type d := by
  have hw : (DataW.agg parts).weights Tryz.prog t = DataW.weightsEach Tryz.prog (fs.toList.map (·.type)) parts := by simp [DataW.weights, ht]
  intro n hn
  exact h n (by rw [hw]; exact DataW.weights_mem_each (by simp [hf]) hd n hn)

theorem cells_get {a : Addr} {n : Nat} {cs : List Value} (h : W.cells? 0 a n = some cs) : cs.length = n ∧ ∀ j, j < n → W.cell? (a.add j) = cs[j]? := by
  unfold World.cells? at h
  simp at h
  exact ⟨by simpa using mapM_some_length h, fun j hj => mapM_some_get h j j (by simp [hj])⟩

set_option maxRecDepth 100000 in
/-- a slice that the call is handed -/
theorem slice_in {t e : TypeId} {k : Nat} (ht : Tryz.prog.underlying t = some (.slice e)) (hk : Tryz.prog.cellsOf e = k) (hkp : 0 < k) {fuel : Nat} {v : Value} {x : DataW H × List MemPlace}
    (h : DataW.trod enc Tryz.prog W 0 (fun _ => true) true fuel t [v] = some x) (hw : WOk t x.1) :
    ∃ A n cap, v = .slice A n cap ∧ n ≤ cap ∧ cap ≤ maxLen ∧ (A = none → n = 0 ∧ cap = 0) ∧ n * Tryz.prog.bytesOf e ≤ reachBytes ∧
      (0 < n → ∃ b o, A = some ⟨b, o, none⟩ ∧ b < W.heap.size ∧ ∀ i, i < n → ∃ (cs : List Value) (d : DataW H) (p : List MemPlace) (f : Nat), f < fuel ∧ cs.length = k ∧ (∀ j, j < k → W.cell? ⟨b, o + i * k + j, none⟩ = cs[j]?) ∧
        DataW.trod enc Tryz.prog W 0 (fun _ => true) true f e cs = some (d, p) ∧ WOk e d) := by
  rcases DataW.trod_slice ht h with ⟨hcs, _⟩ | ⟨a, len, cap, el, rs, m, rfl, hcs, hx, _, hlc, hcm, hel, helem, hsp, _⟩
  · injection hcs with hv _
    exact ⟨none, 0, 0, hv, Nat.le_refl _, Nat.zero_le _, fun _ => ⟨rfl, rfl⟩, by rw [Nat.zero_mul]; exact Nat.zero_le _, fun h => absurd h (Nat.lt_irrefl _)⟩
  · injection hcs with hv _
    rw [hx] at hw
    obtain ⟨w1, w2⟩ := wok_slice ht hw
    have hrl := (hsp rfl).1
    simp only [List.length_map] at w1
    have hle : len * Tryz.prog.bytesOf e ≤ reachBytes := Nat.le_trans (Nat.mul_le_mul_right _ (by omega)) w1
    refine ⟨some a, len, cap, hv, hlc, hcm, fun h => (by cases h), hle, fun hpos => ?_⟩
    have key : ∀ i, i < len → ∃ (cs : List Value) (y : DataW H × List MemPlace), el[i]? = some y ∧ W.cells? 0 (a.add (i * k)) k = some cs ∧ DataW.trod enc Tryz.prog W 0 (fun _ => true) true m e cs = some y := fun i hi => by
      have := helem i hi
      rw [hk, List.getElem?_eq_getElem (by omega)] at this
      obtain ⟨cs, h1, h2⟩ := Option.bind_eq_some_iff.1 this
      exact ⟨cs, el[i], by simp, h1, h2⟩
    obtain ⟨cs0, y0, _, hc0, _⟩ := key 0 hpos
    have hcell0 := (cells_get hc0).2 0 hkp
    have hl0 := (cells_get hc0).1
    obtain ⟨v0, hv0⟩ : ∃ v0, W.cell? a = some v0 := by
      have e1 : (a.add (0 * k)).add 0 = a := by simp [Addr.add]
      rw [e1] at hcell0
      exact ⟨cs0[0]'(by omega), by rw [hcell0]; simp⟩
    have hspot : a.spot = none := by
      obtain ⟨b, o, s⟩ := a
      cases s with
      | none => rfl
      | some s =>
        exfalso
        unfold World.cell? at hv0
        simp at hv0
        split at hv0 <;> simp at hv0
    obtain ⟨b, o, s⟩ := a
    simp only at hspot
    subst hspot
    refine ⟨b, o, rfl, World.block_lt_of_cell? W _ hv0, fun i hi => ?_⟩
    obtain ⟨cs, y, hy, h1, h2⟩ := key i hi
    obtain ⟨l1, l2⟩ := cells_get h1
    refine ⟨cs, y.1, y.2, m, by omega, l1, fun j hj => ?_, h2, w2 y.1 (List.mem_map.2 ⟨y, List.mem_of_getElem? hy, rfl⟩)⟩
    have := l2 j hj
    rw [Deep.add_add] at this
    rw [← this]
    congr 1
    unfold Addr.add
    split
    · rename_i h0
      have : i * k + j = 0 := h0
      simp; try omega
    · simp; try omega

theorem c5 : Tryz.prog.cellsOf 5 = 1 := by kernel_rfl
theorem c135 : Tryz.prog.cellsOf 135 = 15 := by kernel_rfl
theorem c41 : Tryz.prog.cellsOf 41 = 4 := by kernel_rfl
theorem c34 : Tryz.prog.cellsOf 34 = 4 := by kernel_rfl
theorem k3 : Tryz.prog.cellsOf 3 = 1 := by kernel_rfl
theorem k2 : Tryz.prog.cellsOf 2 = 1 := by kernel_rfl
theorem k4 : Tryz.prog.cellsOf 4 = 1 := by kernel_rfl
theorem k9 : Tryz.prog.cellsOf 9 = 1 := by kernel_rfl
theorem k47 : Tryz.prog.cellsOf 47 = 1 := by kernel_rfl
theorem k31 : Tryz.prog.cellsOf 31 = 1 := by kernel_rfl
theorem k39 : Tryz.prog.cellsOf 39 = 1 := by kernel_rfl
theorem k38 : Tryz.prog.cellsOf 38 = 1 := by kernel_rfl
theorem y135 : Tryz.prog.bytesOf 135 = 184 := by kernel_rfl

theorem bytes_in {fuel : Nat} {v : Value} {x : DataW H × List MemPlace} (h : DataW.trod enc Tryz.prog W 0 (fun _ => true) true fuel 31 [v] = some x) (hw : WOk 31 x.1) : BytesOk W W.heap.size v := by
  obtain ⟨A, n, cap, rfl, h1, h2, h3, _, h4⟩ := slice_in Tryz.underlying31 c5 (by omega) h hw
  refine ⟨A, n, cap, rfl, h1, by unfold maxLen at h2; omega, h3, fun hn => ?_⟩
  obtain ⟨b, o, rfl, hb, hc⟩ := h4 hn
  refine ⟨b, o, rfl, hb, fun i hi => ?_⟩
  obtain ⟨cs, d, p, f, _, hl, hcell, ht, _⟩ := hc i hi
  obtain ⟨z, rfl, _, hwf⟩ := DataW.trod_int Tryz.underlying5 ht
  have := hcell 0 (by omega)
  have hz : 0 ≤ z ∧ z ≤ 255 := by simpa [Lit.wf, IntKind.min, IntKind.max, IntKind.signed, IntKind.bits] using hwf
  refine ⟨z.toNat.toUInt8, ?_⟩
  have e : (((z.toNat.toUInt8).toNat : Nat) : Int) = z := by
    have : z.toNat.toUInt8.toNat = z.toNat := by simp; omega
    rw [this]; omega
  rw [e]
  simpa using this

theorem list15 {α : Type} {l : List α} (h : l.length = 15) : ∃ a0 a1 a2 a3 a4 a5 a6 a7 a8 a9 a10 a11 a12 a13 a14, l = [a0, a1, a2, a3, a4, a5, a6, a7, a8, a9, a10, a11, a12, a13, a14] := by
  match l, h with
  | [a0, a1, a2, a3, a4, a5, a6, a7, a8, a9, a10, a11, a12, a13, a14], _ => exact ⟨a0, a1, a2, a3, a4, a5, a6, a7, a8, a9, a10, a11, a12, a13, a14, rfl⟩
theorem list4 {α : Type} {l : List α} (h : l.length = 4) : ∃ a0 a1 a2 a3, l = [a0, a1, a2, a3] := by
  match l, h with
  | [a0, a1, a2, a3], _ => exact ⟨a0, a1, a2, a3, rfl⟩

/-- a field that the call is handed -/
theorem fc_in {fuel : Nat} {cs : List Value} {x : DataW H × List MemPlace} (hl : cs.length = 15) (h : DataW.trod enc Tryz.prog W 0 (fun _ => true) true fuel 135 cs = some x) (hw : WOk 135 x.1) :
    ∃ c : FC, cs = c.arr.toList ∧ BytesOk W W.heap.size c.bytes ∧ (c.key.size ≤ 9223372036854775807 ∧ c.text.size ≤ 9223372036854775807 ∧ c.zone.size ≤ 9223372036854775807 ∧ c.fail.size ≤ 9223372036854775807) ∧
      ∃ (f : Nat) (y : DataW H × List MemPlace), f < fuel ∧ DataW.trod enc Tryz.prog W 0 (fun _ => true) true f 39 [c.items] = some y ∧ WOk 39 y.1 := by
  obtain ⟨a0, a1, a2, a3, a4, a5, a6, a7, a8, a9, a10, a11, a12, a13, a14, rfl⟩ := list15 hl
  obtain ⟨xs, n, rfl, rfl, _, hxl, hf⟩ := DataW.trod_struct Tryz.underlying135 h
  have hx12 : xs.length = 12 := hxl
  have get : ∀ i, i < 12 → ∃ y, xs[i]? = some y := fun i hi => ⟨xs[i]'(by omega), by simp⟩
  have pw : ∀ (i : Nat) (f : Field) (y : DataW H × List MemPlace), (#[{ name := "Kind", type := 3, offset := 0, embedded := false, tag := "", pkgPath := "", byteOffset := 0 }, { name := "Key", type := 9, offset := 1, embedded := false, tag := "", pkgPath := "", byteOffset := 8 }, { name := "Width", type := 3, offset := 2, embedded := false, tag := "", pkgPath := "", byteOffset := 24 }, { name := "Int", type := 2, offset := 3, embedded := false, tag := "", pkgPath := "", byteOffset := 32 }, { name := "Uint", type := 47, offset := 4, embedded := false, tag := "", pkgPath := "", byteOffset := 40 }, { name := "Re", type := 47, offset := 5, embedded := false, tag := "", pkgPath := "", byteOffset := 48 }, { name := "Im", type := 47, offset := 6, embedded := false, tag := "", pkgPath := "", byteOffset := 56 }, { name := "Text", type := 9, offset := 7, embedded := false, tag := "", pkgPath := "", byteOffset := 64 }, { name := "Bytes", type := 31, offset := 8, embedded := false, tag := "", pkgPath := "", byteOffset := 80 }, { name := "Time", type := 34, offset := 9, embedded := false, tag := "", pkgPath := "", byteOffset := 104 }, { name := "Items", type := 39, offset := 13, embedded := false, tag := "", pkgPath := "", byteOffset := 144 }, { name := "Fail", type := 9, offset := 14, embedded := false, tag := "", pkgPath := "", byteOffset := 168 }] : Array Field)[i]? = some f → xs[i]? = some y → WOk f.type y.1 :=
    fun i f y hf hy => wok_struct Tryz.underlying135 hw hf (by simp [hy])
  obtain ⟨y0, g0⟩ := get 0 (by omega)
  obtain ⟨y1, g1⟩ := get 1 (by omega)
  obtain ⟨y2, g2⟩ := get 2 (by omega)
  obtain ⟨y3, g3⟩ := get 3 (by omega)
  obtain ⟨y4, g4⟩ := get 4 (by omega)
  obtain ⟨y5, g5⟩ := get 5 (by omega)
  obtain ⟨y6, g6⟩ := get 6 (by omega)
  obtain ⟨y7, g7⟩ := get 7 (by omega)
  obtain ⟨y8, g8⟩ := get 8 (by omega)
  obtain ⟨y9, g9⟩ := get 9 (by omega)
  obtain ⟨y10, g10⟩ := get 10 (by omega)
  obtain ⟨y11, g11⟩ := get 11 (by omega)
  have f0 : DataW.trod enc Tryz.prog W 0 (fun _ => true) true n 3 [a0] = some y0 := by have := (hf 0 _ rfl).trans g0; simpa [k3] using this
  have f1 : DataW.trod enc Tryz.prog W 0 (fun _ => true) true n 9 [a1] = some y1 := by have := (hf 1 _ rfl).trans g1; simpa [k9] using this
  have f2 : DataW.trod enc Tryz.prog W 0 (fun _ => true) true n 3 [a2] = some y2 := by have := (hf 2 _ rfl).trans g2; simpa [k3] using this
  have f3 : DataW.trod enc Tryz.prog W 0 (fun _ => true) true n 2 [a3] = some y3 := by have := (hf 3 _ rfl).trans g3; simpa [k2] using this
  have f4 : DataW.trod enc Tryz.prog W 0 (fun _ => true) true n 47 [a4] = some y4 := by have := (hf 4 _ rfl).trans g4; simpa [k47] using this
  have f5 : DataW.trod enc Tryz.prog W 0 (fun _ => true) true n 47 [a5] = some y5 := by have := (hf 5 _ rfl).trans g5; simpa [k47] using this
  have f6 : DataW.trod enc Tryz.prog W 0 (fun _ => true) true n 47 [a6] = some y6 := by have := (hf 6 _ rfl).trans g6; simpa [k47] using this
  have f7 : DataW.trod enc Tryz.prog W 0 (fun _ => true) true n 9 [a7] = some y7 := by have := (hf 7 _ rfl).trans g7; simpa [k9] using this
  have f8 : DataW.trod enc Tryz.prog W 0 (fun _ => true) true n 31 [a8] = some y8 := by have := (hf 8 _ rfl).trans g8; simpa [k31] using this
  have f9 : DataW.trod enc Tryz.prog W 0 (fun _ => true) true n 34 [a9, a10, a11, a12] = some y9 := by have := (hf 9 _ rfl).trans g9; simpa [c34] using this
  have f10 : DataW.trod enc Tryz.prog W 0 (fun _ => true) true n 39 [a13] = some y10 := by have := (hf 10 _ rfl).trans g10; simpa [k39] using this
  have f11 : DataW.trod enc Tryz.prog W 0 (fun _ => true) true n 9 [a14] = some y11 := by have := (hf 11 _ rfl).trans g11; simpa [k9] using this
  have p8 : WOk 31 y8.1 := pw 8 _ y8 rfl g8
  have p10 : WOk 39 y10.1 := pw 10 _ y10 rfl g10
  obtain ⟨z0, e0, _, w0⟩ := DataW.trod_int Tryz.underlying3 f0
  obtain ⟨z1, e1, _, w1⟩ := DataW.trod_string Tryz.underlying9 f1
  obtain ⟨z2, e2, _, w2⟩ := DataW.trod_int Tryz.underlying3 f2
  obtain ⟨z3, e3, _, w3⟩ := DataW.trod_int Tryz.underlying2 f3
  obtain ⟨z4, e4, _, w4⟩ := DataW.trod_int Tryz.underlying47 f4
  obtain ⟨z5, e5, _, w5⟩ := DataW.trod_int Tryz.underlying47 f5
  obtain ⟨z6, e6, _, w6⟩ := DataW.trod_int Tryz.underlying47 f6
  obtain ⟨z7, e7, _, w7⟩ := DataW.trod_string Tryz.underlying9 f7
  obtain ⟨z11, e11, _, w11⟩ := DataW.trod_string Tryz.underlying9 f11
  obtain ⟨xs2, n2, rfl, _, _, hxl2, hf2⟩ := DataW.trod_struct Tryz.underlying34 f9
  have hx4 : xs2.length = 4 := hxl2
  have get2 : ∀ i, i < 4 → ∃ y, xs2[i]? = some y := fun i hi => ⟨xs2[i]'(by omega), by simp⟩
  obtain ⟨q0, r0⟩ := get2 0 (by omega)
  obtain ⟨q1, r1⟩ := get2 1 (by omega)
  obtain ⟨q2, r2⟩ := get2 2 (by omega)
  obtain ⟨q3, r3⟩ := get2 3 (by omega)
  have u0 : DataW.trod enc Tryz.prog W 0 (fun _ => true) true n2 4 [a9] = some q0 := by have := (hf2 0 _ rfl).trans r0; simpa [k4] using this
  have u1 : DataW.trod enc Tryz.prog W 0 (fun _ => true) true n2 2 [a10] = some q1 := by have := (hf2 1 _ rfl).trans r1; simpa [k2] using this
  have u2 : DataW.trod enc Tryz.prog W 0 (fun _ => true) true n2 3 [a11] = some q2 := by have := (hf2 2 _ rfl).trans r2; simpa [k3] using this
  have u3 : DataW.trod enc Tryz.prog W 0 (fun _ => true) true n2 9 [a12] = some q3 := by have := (hf2 3 _ rfl).trans r3; simpa [k9] using this
  obtain ⟨s0, v0, _⟩ := DataW.trod_bool Tryz.underlying4 u0
  obtain ⟨s1, v1, _, _⟩ := DataW.trod_int Tryz.underlying2 u1
  obtain ⟨s2, v2, _, _⟩ := DataW.trod_int Tryz.underlying3 u2
  obtain ⟨s3, v3, _, x3⟩ := DataW.trod_string Tryz.underlying9 u3
  have hb := bytes_in f8 p8
  injection e0 with e0 _
  injection e1 with e1 _
  injection e2 with e2 _
  injection e3 with e3 _
  injection e4 with e4 _
  injection e5 with e5 _
  injection e6 with e6 _
  injection e7 with e7 _
  injection e11 with e11 _
  injection v0 with v0 _
  injection v1 with v1 _
  injection v2 with v2 _
  injection v3 with v3 _
  subst e0 e1 e2 e3 e4 e5 e6 e7 e11 v0 v1 v2 v3
  exact ⟨⟨z0, z1, z2, z3, z4, z5, z6, z7, a8, s0, s1, s2, s3, a13, z11⟩, rfl, hb, ⟨w1, w7, x3, w11⟩, n2 + 1, y10, by omega, f10, p10⟩

theorem FsOk.up {B : Nat} : ∀ {d d' : Nat} {v : Value}, FsOk W B d v → d ≤ d' → FsOk W B d' v
  | 0, _, _, h, _ => h.elim
  | d + 1, 0, _, _, hd => by omega
  | d + 1, d' + 1, v, h, hd => by
    obtain ⟨A, n, cap, h1, h2, h3, h4, h5⟩ := h
    refine ⟨A, n, cap, h1, h2, h3, h4, fun hn => ?_⟩
    obtain ⟨b, o, e, hb, hc⟩ := h5 hn
    refine ⟨b, o, e, hb, fun i hi => ?_⟩
    obtain ⟨c, g1, g2, g3, g4⟩ := hc i hi
    exact ⟨c, g1, g2, FsOk.up g3 (by omega), g4⟩

theorem rowC_of {b o : Nat} {cs : Array Value} {k : Nat} (hk : cs.size = k) (h : ∀ j, j < k → W.cell? ⟨b, o + j, none⟩ = cs.toList[j]?) : RowC W b o cs := fun j v hj => by
  have hl := (Array.getElem?_eq_some_iff.1 hj).1
  rw [h j (by omega)]
  simpa using hj

/-- fields that the call is handed -/
theorem fs_in : ∀ (fuel : Nat) (v : Value) (x : DataW H × List MemPlace), DataW.trod enc Tryz.prog W 0 (fun _ => true) true fuel 39 [v] = some x → WOk 39 x.1 → FsOk W W.heap.size (fuel + 1) v := by
  intro fuel
  induction fuel using Nat.strongRecOn with
  | _ fuel ih =>
    intro v x h hw
    obtain ⟨A, n, cap, rfl, h1, h2, h3, hr, h4⟩ := slice_in Tryz.underlying39 c135 (by omega) h hw
    refine ⟨A, n, cap, rfl, h1, by unfold maxLen at h2; omega, ⟨h3, by rw [y135] at hr; unfold reachBytes at hr; omega⟩, fun hn => ?_⟩
    obtain ⟨b, o, rfl, hb, hc⟩ := h4 hn
    refine ⟨b, o, rfl, hb, fun i hi => ?_⟩
    obtain ⟨cs, d, p, f, hf, hl, hcell, ht, hw2⟩ := hc i hi
    obtain ⟨c, rfl, g1, g2, f2, y, hf2, ht2, hw3⟩ := fc_in hl ht hw2
    exact ⟨c, rowC_of rfl hcell, g1, (ih f2 (by omega) _ _ ht2 hw3).up (by omega), g2⟩

instance : Inhabited FC := ⟨⟨0, ⟨#[]⟩, 0, 0, 0, 0, 0, ⟨#[]⟩, .nilIface, false, 0, 0, ⟨#[]⟩, .nilIface, ⟨#[]⟩⟩⟩
instance : Inhabited (CT FC) := ⟨.no⟩

theorem fl_in {fuel : Nat} {v : Value} {x : DataW H × List MemPlace} (h : DataW.trod enc Tryz.prog W 0 (fun _ => true) true fuel 39 [v] = some x) (hw : WOk 39 x.1) : ∃ fs, FlOk W W.heap.size fuel fs v := by
  obtain ⟨A, n, cap, rfl, h1, h2, h3, hr, h4⟩ := slice_in Tryz.underlying39 c135 (by omega) h hw
  have hm : n ≤ 765000000000 := by rw [y135] at hr; unfold reachBytes at hr; omega
  have h2' : cap ≤ 9223372036854775807 := by unfold maxLen at h2; omega
  by_cases hn : 0 < n
  · obtain ⟨b, o, rfl, hb, hc⟩ := h4 hn
    have key : ∀ i, i < n → ∃ c : FC, RowC W b (o + i * 15) c.arr ∧ BytesOk W W.heap.size c.bytes ∧ FsOk W W.heap.size fuel c.items ∧ (c.key.size ≤ 9223372036854775807 ∧ c.text.size ≤ 9223372036854775807 ∧ c.zone.size ≤ 9223372036854775807 ∧ c.fail.size ≤ 9223372036854775807) := fun i hi => by
      obtain ⟨cs, d, p, f, hf, hl, hcell, ht, hw2⟩ := hc i hi
      obtain ⟨c, rfl, g1, g2, f2, y, hf2, ht2, hw3⟩ := fc_in hl ht hw2
      exact ⟨c, rowC_of rfl hcell, g1, (fs_in f2 _ _ ht2 hw3).up (by omega), g2⟩
    obtain ⟨F, hF⟩ := Deep.choose_lt key
    refine ⟨(List.range n).map F, some ⟨b, o, none⟩, cap, by simp, by simpa using h1, h2', ⟨fun h => (by cases h), by simpa using hm⟩, fun _ => ⟨b, o, rfl, hb, fun i c hi => ?_⟩⟩
    have hi2 : i < n := by
      have := (List.getElem?_eq_some_iff.1 hi).1
      simpa using this
    have e : F i = c := by simpa [hi2] using hi
    subst e
    exact hF i hi2
  · obtain rfl : n = 0 := by omega
    exact ⟨[], A, cap, rfl, h1, h2', ⟨h3, by simp⟩, fun h => by simp at h⟩

/-- a core that the call is handed -/
theorem cat_in : ∀ (fuel : Nat) (cs : List Value) (x : DataW H × List MemPlace), cs.length = 4 → DataW.trod enc Tryz.prog W 0 (fun _ => true) true fuel 41 cs = some x → WOk 41 x.1 → ∃ t, CAt W W.heap.size t (.agg cs.toArray) := by
  intro fuel
  induction fuel using Nat.strongRecOn with
  | _ fuel ih =>
    intro cs x hl h hw
    obtain ⟨a0, a1, a2, a3, rfl⟩ := list4 hl
    obtain ⟨xs, n, rfl, rfl, _, hxl, hf⟩ := DataW.trod_struct Tryz.underlying41 h
    have hx4 : xs.length = 4 := hxl
    have get : ∀ i, i < 4 → ∃ y, xs[i]? = some y := fun i hi => ⟨xs[i]'(by omega), by simp⟩
    obtain ⟨y0, g0⟩ := get 0 (by omega)
    obtain ⟨y1, g1⟩ := get 1 (by omega)
    obtain ⟨y2, g2⟩ := get 2 (by omega)
    obtain ⟨y3, g3⟩ := get 3 (by omega)
    have f0 : DataW.trod enc Tryz.prog W 0 (fun _ => true) true n 3 [a0] = some y0 := by have := (hf 0 _ rfl).trans g0; simpa [k3] using this
    have f1 : DataW.trod enc Tryz.prog W 0 (fun _ => true) true n 3 [a1] = some y1 := by have := (hf 1 _ rfl).trans g1; simpa [k3] using this
    have f2 : DataW.trod enc Tryz.prog W 0 (fun _ => true) true n 38 [a2] = some y2 := by have := (hf 2 _ rfl).trans g2; simpa [k38] using this
    have f3 : DataW.trod enc Tryz.prog W 0 (fun _ => true) true n 39 [a3] = some y3 := by have := (hf 3 _ rfl).trans g3; simpa [k39] using this
    have p2 : WOk 38 y2.1 := wok_struct Tryz.underlying41 hw (j := 2) rfl (by simp [g2])
    have p3 : WOk 39 y3.1 := wok_struct Tryz.underlying41 hw (j := 3) rfl (by simp [g3])
    obtain ⟨z0, e0, _, w0⟩ := DataW.trod_int Tryz.underlying3 f0
    obtain ⟨z1, e1, _, w1⟩ := DataW.trod_int Tryz.underlying3 f1
    injection e0 with e0 _
    injection e1 with e1 _
    subst e0 e1
    obtain ⟨fs, hfs⟩ := fl_in f3 p3
    obtain ⟨A, m, cap, rfl, h1, h2, h3, hr, h4⟩ := slice_in Tryz.underlying38 c41 (by omega) f2 p2
    have bz0 : -9223372036854775808 ≤ z0 ∧ z0 ≤ 9223372036854775807 := by simpa [Lit.wf, IntKind.min, IntKind.max, IntKind.signed, IntKind.bits] using w0
    have bz1 : -9223372036854775808 ≤ z1 ∧ z1 ≤ 9223372036854775807 := by simpa [Lit.wf, IntKind.min, IntKind.max, IntKind.signed, IntKind.bits] using w1
    have h2' : cap ≤ 9223372036854775807 := by unfold maxLen at h2; omega
    by_cases hn : 0 < m
    · obtain ⟨b, o, rfl, hb, hc⟩ := h4 hn
      have key : ∀ i, i < m → ∃ t, ∃ r0 r1 r2 r3, RowC W b (o + i * 4) #[r0, r1, r2, r3] ∧ CAt W W.heap.size t (.agg #[r0, r1, r2, r3]) := fun i hi => by
        obtain ⟨cs, d, p, f, hf, hl, hcell, ht, hw2⟩ := hc i hi
        obtain ⟨r0, r1, r2, r3, rfl⟩ := list4 hl
        obtain ⟨t, hcat⟩ := ih f (by omega) _ _ hl ht hw2
        exact ⟨t, r0, r1, r2, r3, rowC_of (cs := #[r0, r1, r2, r3]) rfl hcell, hcat⟩
      obtain ⟨F, hF⟩ := Deep.choose_lt key
      exact ⟨.mk z0 z1 m F fs, _, cap, _, rfl, h1, h2', fun h => (by cases h), ⟨_, hfs⟩, ⟨bz0.1, bz0.2, bz1.1, bz1.2⟩, fun _ => ⟨b, o, rfl, hb, hF⟩⟩
    · obtain rfl : m = 0 := by omega
      exact ⟨.mk z0 z1 0 (fun _ => .no) fs, A, cap, _, rfl, h1, h2', h3, ⟨_, hfs⟩, ⟨bz0.1, bz0.2, bz1.1, bz1.2⟩, fun h => by omega⟩
end
end Go.Proofs.Zap

/- the entries and the lists of fields that the call is handed -/
namespace Go.Proofs.Zap
open Go Go.Proofs Go.RowKit

section
variable {H : Type} {enc : TypeId × Value → H} {W : World}
theorem c77 : Tryz.prog.cellsOf 77 = 12 := by kernel_rfl
theorem list12 {α : Type} {l : List α} (h : l.length = 12) : ∃ a0 a1 a2 a3 a4 a5 a6 a7 a8 a9 a10 a11, l = [a0, a1, a2, a3, a4, a5, a6, a7, a8, a9, a10, a11] := by
  match l, h with
  | [a0, a1, a2, a3, a4, a5, a6, a7, a8, a9, a10, a11], _ => exact ⟨a0, a1, a2, a3, a4, a5, a6, a7, a8, a9, a10, a11, rfl⟩

theorem ze_in {fuel : Nat} {cs : List Value} {x : DataW H × List MemPlace} (hl : cs.length = 12) (h : DataW.trod enc Tryz.prog W 0 (fun _ => true) true fuel 77 cs = some x) : ∃ z : ZE, cs = z.arr.toList ∧ -9223372036854775808 ≤ z.nanos ∧ z.nanos ≤ 9223372036854775807 := by
  obtain ⟨a0, a1, a2, a3, a4, a5, a6, a7, a8, a9, a10, a11, rfl⟩ := list12 hl
  obtain ⟨xs, n, rfl, rfl, _, hxl, hf⟩ := DataW.trod_struct Tryz.underlying77 h
  have hx9 : xs.length = 9 := hxl
  have get : ∀ i, i < 9 → ∃ y, xs[i]? = some y := fun i hi => ⟨xs[i]'(by omega), by simp⟩
  obtain ⟨y0, g0⟩ := get 0 (by omega)
  obtain ⟨y1, g1⟩ := get 1 (by omega)
  obtain ⟨y2, g2⟩ := get 2 (by omega)
  obtain ⟨y3, g3⟩ := get 3 (by omega)
  obtain ⟨y4, g4⟩ := get 4 (by omega)
  obtain ⟨y5, g5⟩ := get 5 (by omega)
  obtain ⟨y6, g6⟩ := get 6 (by omega)
  obtain ⟨y7, g7⟩ := get 7 (by omega)
  obtain ⟨y8, g8⟩ := get 8 (by omega)
  have f0 : DataW.trod enc Tryz.prog W 0 (fun _ => true) true n 3 [a0] = some y0 := by have := (hf 0 _ rfl).trans g0; simpa [k3] using this
  have f1 : DataW.trod enc Tryz.prog W 0 (fun _ => true) true n 34 [a1, a2, a3, a4] = some y1 := by have := (hf 1 _ rfl).trans g1; simpa [c34] using this
  have f2 : DataW.trod enc Tryz.prog W 0 (fun _ => true) true n 9 [a5] = some y2 := by have := (hf 2 _ rfl).trans g2; simpa [k9] using this
  have f3 : DataW.trod enc Tryz.prog W 0 (fun _ => true) true n 9 [a6] = some y3 := by have := (hf 3 _ rfl).trans g3; simpa [k9] using this
  have f4 : DataW.trod enc Tryz.prog W 0 (fun _ => true) true n 4 [a7] = some y4 := by have := (hf 4 _ rfl).trans g4; simpa [k4] using this
  have f5 : DataW.trod enc Tryz.prog W 0 (fun _ => true) true n 9 [a8] = some y5 := by have := (hf 5 _ rfl).trans g5; simpa [k9] using this
  have f6 : DataW.trod enc Tryz.prog W 0 (fun _ => true) true n 3 [a9] = some y6 := by have := (hf 6 _ rfl).trans g6; simpa [k3] using this
  have f7 : DataW.trod enc Tryz.prog W 0 (fun _ => true) true n 9 [a10] = some y7 := by have := (hf 7 _ rfl).trans g7; simpa [k9] using this
  have f8 : DataW.trod enc Tryz.prog W 0 (fun _ => true) true n 9 [a11] = some y8 := by have := (hf 8 _ rfl).trans g8; simpa [k9] using this
  obtain ⟨z0, e0, _, _⟩ := DataW.trod_int Tryz.underlying3 f0
  obtain ⟨z2, e2, _, _⟩ := DataW.trod_string Tryz.underlying9 f2
  obtain ⟨z3, e3, _, _⟩ := DataW.trod_string Tryz.underlying9 f3
  obtain ⟨z4, e4, _⟩ := DataW.trod_bool Tryz.underlying4 f4
  obtain ⟨z5, e5, _, _⟩ := DataW.trod_string Tryz.underlying9 f5
  obtain ⟨z6, e6, _, _⟩ := DataW.trod_int Tryz.underlying3 f6
  obtain ⟨z7, e7, _, _⟩ := DataW.trod_string Tryz.underlying9 f7
  obtain ⟨z8, e8, _, _⟩ := DataW.trod_string Tryz.underlying9 f8
  obtain ⟨xs2, n2, rfl, _, _, hxl2, hf2⟩ := DataW.trod_struct Tryz.underlying34 f1
  have hx4 : xs2.length = 4 := hxl2
  have get2 : ∀ i, i < 4 → ∃ y, xs2[i]? = some y := fun i hi => ⟨xs2[i]'(by omega), by simp⟩
  obtain ⟨q0, r0⟩ := get2 0 (by omega)
  obtain ⟨q1, r1⟩ := get2 1 (by omega)
  obtain ⟨q2, r2⟩ := get2 2 (by omega)
  obtain ⟨q3, r3⟩ := get2 3 (by omega)
  have u0 : DataW.trod enc Tryz.prog W 0 (fun _ => true) true n2 4 [a1] = some q0 := by have := (hf2 0 _ rfl).trans r0; simpa [k4] using this
  have u1 : DataW.trod enc Tryz.prog W 0 (fun _ => true) true n2 2 [a2] = some q1 := by have := (hf2 1 _ rfl).trans r1; simpa [k2] using this
  have u2 : DataW.trod enc Tryz.prog W 0 (fun _ => true) true n2 3 [a3] = some q2 := by have := (hf2 2 _ rfl).trans r2; simpa [k3] using this
  have u3 : DataW.trod enc Tryz.prog W 0 (fun _ => true) true n2 9 [a4] = some q3 := by have := (hf2 3 _ rfl).trans r3; simpa [k9] using this
  obtain ⟨s0, v0, _⟩ := DataW.trod_bool Tryz.underlying4 u0
  obtain ⟨s1, v1, _, b1⟩ := DataW.trod_int Tryz.underlying2 u1
  obtain ⟨s2, v2, _, _⟩ := DataW.trod_int Tryz.underlying3 u2
  obtain ⟨s3, v3, _, _⟩ := DataW.trod_string Tryz.underlying9 u3
  have hb1 : -9223372036854775808 ≤ s1 ∧ s1 ≤ 9223372036854775807 := by simpa [Lit.wf, IntKind.min, IntKind.max, IntKind.signed, IntKind.bits] using b1
  injection e0 with e0 _
  injection e2 with e2 _
  injection e3 with e3 _
  injection e4 with e4 _
  injection e5 with e5 _
  injection e6 with e6 _
  injection e7 with e7 _
  injection e8 with e8 _
  injection v0 with v0 _
  injection v1 with v1 _
  injection v2 with v2 _
  injection v3 with v3 _
  subst e0 e2 e3 e4 e5 e6 e7 e8 v0 v1 v2 v3
  exact ⟨⟨z0, s0, s1, s2, s3, z2, z3, z4, z5, z6, z7, z8⟩, rfl, hb1.1, hb1.2⟩

instance : Inhabited ZE := ⟨⟨0, false, 0, 0, ⟨#[]⟩, ⟨#[]⟩, ⟨#[]⟩, false, ⟨#[]⟩, 0, ⟨#[]⟩, ⟨#[]⟩⟩⟩
theorem el_in {fuel : Nat} {v : Value} {x : DataW H × List MemPlace} (h : DataW.trod enc Tryz.prog W 0 (fun _ => true) true fuel 63 [v] = some x) (hw : WOk 63 x.1) : ∃ EL, ELk W W.heap.size EL v := by
  obtain ⟨A, n, cap, rfl, h1, h2, h3, hr, h4⟩ := slice_in Tryz.underlying63 c77 (by omega) h hw
  have h2' : cap ≤ 9223372036854775807 := by unfold maxLen at h2; omega
  by_cases hn : 0 < n
  · obtain ⟨b, o, rfl, hb, hc⟩ := h4 hn
    have key : ∀ i, i < n → ∃ z : ZE, RowC W b (o + i * 12) z.arr ∧ -9223372036854775808 ≤ z.nanos ∧ z.nanos ≤ 9223372036854775807 := fun i hi => by
      obtain ⟨cs, d, p, f, hf, hl, hcell, ht, hw2⟩ := hc i hi
      obtain ⟨z, rfl, g1, g2⟩ := ze_in hl ht
      exact ⟨z, rowC_of rfl hcell, g1, g2⟩
    obtain ⟨F, hF⟩ := Deep.choose_lt key
    refine ⟨(List.range n).map F, some ⟨b, o, none⟩, cap, by simp, by simpa using h1, h2', fun h => (by cases h), fun _ => ⟨b, o, rfl, hb, fun i c hi => ?_⟩⟩
    have hi2 : i < n := by
      have := (List.getElem?_eq_some_iff.1 hi).1
      simpa using this
    have e : F i = c := by simpa [hi2] using hi
    subst e
    exact hF i hi2
  · obtain rfl : n = 0 := by omega
    exact ⟨[], A, cap, rfl, h1, h2', h3, fun h => by simp at h⟩
theorem ff_in {fuel : Nat} {v : Value} {x : DataW H × List MemPlace} (h : DataW.trod enc Tryz.prog W 0 (fun _ => true) true fuel 64 [v] = some x) (hw : WOk 64 x.1) : ∃ FL, FFk W W.heap.size FL v := by
  obtain ⟨A, n, cap, rfl, h1, h2, h3, hr, h4⟩ := slice_in Tryz.underlying64 k39 (by omega) h hw
  have h2' : cap ≤ 9223372036854775807 := by unfold maxLen at h2; omega
  by_cases hn : 0 < n
  · obtain ⟨b, o, rfl, hb, hc⟩ := h4 hn
    have key : ∀ i, i < n → ∃ fs : List FC, ∃ d fv, W.cell? ⟨b, o + i, none⟩ = some fv ∧ FlOk W W.heap.size d fs fv := fun i hi => by
      obtain ⟨cs, d, p, f, hf, hl, hcell, ht, hw2⟩ := hc i hi
      obtain ⟨a, rfl⟩ := List.length_eq_one_iff.1 hl
      obtain ⟨fs, hfs⟩ := fl_in ht hw2
      have h0 := hcell 0 (by omega)
      exact ⟨fs, f, a, by simpa using h0, hfs⟩
    obtain ⟨F, hF⟩ := Deep.choose_lt key
    refine ⟨(List.range n).map F, some ⟨b, o, none⟩, cap, by simp, by simpa using h1, h2', fun h => (by cases h), fun _ => ⟨b, o, rfl, hb, fun i c hi => ?_⟩⟩
    have hi2 : i < n := by
      have := (List.getElem?_eq_some_iff.1 hi).1
      simpa using this
    have e : F i = c := by simpa [hi2] using hi
    subst e
    exact hF i hi2
  · obtain rfl : n = 0 := by omega
    exact ⟨[], A, cap, rfl, h1, h2', h3, fun h => by simp at h⟩
end
end Go.Proofs.Zap
