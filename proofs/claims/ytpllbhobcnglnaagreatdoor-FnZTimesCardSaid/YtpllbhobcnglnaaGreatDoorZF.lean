/- a text of the claims over the seat; its order and aim: NOTES.md -/
import Derived.Test.YtpllbhobcnglnaaGreatDoorZA4
import Derived.Test.YtpllbhobcnglnaaGreatDoorZW3
import Derived.Test.YtpllbhobcnglnaaGreatDoorZJ9
import Derived.Lib.ConvBytes
namespace Go.Proofs.Zap
open Go Go.Proofs Go.RowKit

theorem quoted_data (l : List UInt8) : ((⟨#[34]⟩ : ByteArray) ++ ⟨l.toArray⟩ ++ ⟨#[34]⟩).data.toList = 34 :: (l ++ [34]) := by
  simp [ByteArray.data_append]

theorem quoted_len (l : List UInt8) : ((⟨#[34]⟩ : ByteArray) ++ ⟨l.toArray⟩ ++ ⟨#[34]⟩).size = l.length + 2 := by
  have e1 : (⟨#[34]⟩ : ByteArray).size = 1 := rfl
  have e2 : (⟨l.toArray⟩ : ByteArray).size = l.length := by change l.toArray.size = _; simp
  rw [ByteArray.size_append, ByteArray.size_append, e1, e2]; omega

theorem quoted_head (l : List UInt8) (h : 0 < ((⟨#[34]⟩ : ByteArray) ++ ⟨l.toArray⟩ ++ ⟨#[34]⟩).size) : (((⟨#[34]⟩ : ByteArray) ++ ⟨l.toArray⟩ ++ ⟨#[34]⟩)[0]).toNat = 34 := by
  have h2 := sdata_get _ 0 h
  rw [h2]
  simp

theorem below_bytesWorld (w : World) (e : TypeId) (s : ByteArray) : Below w.heap.size w (Lib.bytesWorld w e s) := by
  refine ⟨?_, ?_, ?_, by rw [Lib.bytesWorld_size]; omega, fun k hk => Lib.bytesWorld_at_old w e s k hk⟩
  · unfold Lib.bytesWorld World.freeze; split <;> rfl
  · unfold Lib.bytesWorld World.freeze; split <;> rfl
  · unfold Lib.bytesWorld World.freeze; split <;> rfl

set_option maxHeartbeats 4000000 in
set_option maxRecDepth 100000 in
theorem texts_any (s : ByteArray) (w : World) (hT : Tabs w) (hw : 13 ≤ w.heap.size) (hm : s.size ≤ maxLen) :
    Calls Tryz.prog 4 #[.string s] w fun e w' => e = .returned (.bool true) ∧ Below w.heap.size w w' := by
  unfold maxLen at hm
  by_cases h1 : 2147483647 < s.size
  · have hd : decide ((2147483647 : Int) < (s.size : Int)) = true := by simp; omega
    go_enter Tryz.func4, Tryz.ntmps4
    go_wp2_with fail
    go_ret
    exact ⟨rfl, Below.refl _ _⟩
  have hd1 : decide ((2147483647 : Int) < (s.size : Int)) = false := by simp; omega
  by_cases h2 : 2000 < s.size
  · have hd : decide ((2000 : Int) < (s.size : Int)) = true := by simp; omega
    go_enter Tryz.func4, Tryz.ntmps4
    go_wp2_with fail
    refine (awake_any w hT hw).mono ?_
    rintro e w1 ⟨rfl, hb1⟩
    have HB := Lib.hid hb1
    clear hb1
    go_wp2_with fail
    go_ret
    exact ⟨rfl, HB.out⟩
  have hd2 : decide ((2000 : Int) < (s.size : Int)) = false := by simp; omega
  have hs : s.size ≤ 2000 := by omega
  have hel := esc_len _ s.data.toList (Nat.le_refl _)
  rw [show s.data.toList.length = s.size by rw [Array.length_toList]; rfl] at hel
  go_enter Tryz.func4, Tryz.ntmps4
  go_wp2_with fail
  refine (zEscape_any s w hT hw (by omega)).mono ?_
  rintro e w1 ⟨rfl, hb1⟩
  have hz1 := hb1.size
  have HB1 := Lib.hid hb1
  clear hb1
  go_wp2_with fail
  refine (jtrue8_any s w1 (hT.below HB1.out hw) (by omega) (by omega)).mono ?_
  rintro e w2 ⟨rfl, hb2⟩
  have hz2 := hb2.size
  have HB2 := Lib.hid (HB1.out.trans (hb2.mono (by omega)))
  clear hb2
  go_wp2_with fail
  have htl := true8_len _ s.data.toList (Nat.le_refl _)
  rw [show s.data.toList.length = s.size by rw [Array.length_toList]; rfl] at htl
  have hq0 : 0 < ((⟨#[34]⟩ : ByteArray) ++ ⟨(esc s.data.toList).toArray⟩ ++ ⟨#[34]⟩).size := by rw [quoted_len]; omega
  refine (zquoted_any _ _ w2 (hT.below HB2.out hw) (by omega) (by rw [quoted_len]; omega) ?_ hq0 (quoted_head _ hq0) ?_).mono ?_
  · change (true8 s.data.toList).toArray.size ≤ _; rw [List.size_toArray]; omega
  · rw [quoted_data, List.drop_succ_cons, List.drop_zero]
    exact readT_esc _ s.data.toList (Nat.le_refl _) []
  rintro e w3 ⟨rfl, hb3⟩
  have hz3 := hb3.size
  have HB3 := Lib.hid (HB2.out.trans (hb3.mono (by omega)))
  clear hb3
  have hcv : (convert 9 31 (.string s)).run Tryz.prog w3 = .ok (.slice (some ⟨w3.heap.size, 0, none⟩) s.size (grownCap w3 s.size 0 5)) (Lib.bytesWorld w3 5 s) :=
    Lib.run_convert_string_bytes w3 9 31 5 s Tryz.underlying9 Tryz.underlying31 Tryz.underlying5
  go_wp2_with fail
  have hb4 := below_bytesWorld w3 5 s
  have HB4 := Lib.hid (HB3.out.trans (hb4.mono (by omega)))
  have hsz4 : (Lib.bytesWorld w3 5 s).heap.size = w3.heap.size + 1 := Lib.bytesWorld_size w3 5 s
  refine (zEscapeBytes_any w3.heap.size (grownCap w3 s.size 0 5) s (Lib.bytesWorld w3 5 s) (hT.below HB4.out hw) (by omega) (by omega) (by omega) (grownCap_ge _ _ _ _) (grownCap_le_maxLen _ _ _ _ (by unfold maxLen; omega)) (fun j hj => ?_)).mono ?_
  · rw [get!_list]; exact Lib.bytesWorld_cell w3 5 s j hj
  rintro e w5 ⟨rfl, hb5⟩
  have hz5 := hb5.size
  have HB5 := Lib.hid (HB4.out.trans (hb5.mono (by omega)))
  clear hb5 hb4
  go_wp2_with fail
  refine (zEscape_any s w5 (hT.below HB5.out hw) (by omega) (by omega)).mono ?_
  rintro e w6 ⟨rfl, hb6⟩
  have HB6 := Lib.hid (HB5.out.trans (hb6.mono (by omega)))
  clear hb6
  go_wp2_with fail
  go_ret
  exact ⟨by simp, HB6.out⟩
end Go.Proofs.Zap
