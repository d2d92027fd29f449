/-
  The walk of the law Bits: it returns true. Conditions: strings and slices hold at most 2 ^ 47 - 4096 bytes.
-/
import Derived.Test.YtejkphobeclefaaSpecD
import Derived.Test.YtejkphobeclefaaE64S
import Derived.Test.YtejkphobeclefaaE32S
import Derived.Test.YtejkphobeclefaaDecV
namespace Go.Proofs.Ytejkphobeclefaa
open Go.RowKit
set_option linter.unusedVariables false

theorem raw6_letters {a : List UInt8} (hv : validP 6 a (-1)) (l : List UInt8) (c : UInt8) (hc : c ∈ textOf 6 a (-1) l) : isL a c = true := by
  obtain ⟨j, hj, rfl⟩ := List.getElem_of_mem hc
  have hj2 := hj
  rw [textOf_length6] at hj2
  have h0 := (lenN6_facts (-1) l.length).2.2.1 (by omega)
  obtain ⟨v, _, hlt, e, _⟩ := text6_letter hv l j (by omega) _ (List.getElem?_eq_getElem hj)
  rw [e]
  exact (isL_letter6 hv v hlt).1

theorem raw6_nums {a : List UInt8} (hv : validP 6 a (-1)) (l : List UInt8) : unsix ((textOf 6 a (-1) l).map (numL a)) = l := by
  have h0 := (lenN6_facts (-1) l.length).2.2.1 (by omega)
  have e : (textOf 6 a (-1) l).map (numL a) = numsOf a (textOf 6 a (-1) l) := by
    unfold numsOf
    rw [lettersIn_text6 hv, List.take_of_length_le (by rw [textOf_length6]; omega)]
    rfl
  rw [e, numsOf_text6 hv, unsix_sixes]

theorem raw5_letters {a : List UInt8} (hv : validP 5 a (-1)) (l : List UInt8) (c : UInt8) (hc : c ∈ textOf 5 a (-1) l) : isL a c = true := by
  obtain ⟨j, hj, rfl⟩ := List.getElem_of_mem hc
  have hj2 := hj
  rw [textOf_length5] at hj2
  have h0 := (lenN5_facts (-1) l.length).2.2.1 (by omega)
  obtain ⟨v, _, hlt, e, _⟩ := text5_letter hv l j (by omega) _ (List.getElem?_eq_getElem hj)
  rw [e]
  exact (isL_letter5 hv v hlt).1

theorem raw5_nums {a : List UInt8} (hv : validP 5 a (-1)) (l : List UInt8) : unfive ((textOf 5 a (-1) l).map (numL a)) = l := by
  have h0 := (lenN5_facts (-1) l.length).2.2.1 (by omega)
  have e : (textOf 5 a (-1) l).map (numL a) = numsOf a (textOf 5 a (-1) l) := by
    unfold numsOf
    rw [lettersIn_text5 hv, List.take_of_length_le (by rw [textOf_length5]; omega)]
    rfl
  rw [e, numsOf_text5 hv, unfive_fives]

set_option maxHeartbeats 1000000 in
set_option maxRecDepth 100000 in
theorem law_FnBits (s s5 : ByteArray) (v : Value) (l : List UInt8) (w : World) (hs : s.size ≤ 140737488351232) (hs5 : s5.size ≤ 140737488351232) (hb : Bys w v l) (hl : l.length ≤ 140737488351232) :
    Calls Try.prog 4 #[.string s, .string s5, v] w fun e w' => e = .returned (.bool true) ∧ Below w.heap.size w w' := by
  have HS : Hid (s.size ≤ maxLen) := by show _ ≤ _; unfold maxLen; omega
  have HS5 : Hid (s5.size ≤ maxLen) := by show _ ≤ _; unfold maxLen; omega
  clear hs hs5
  have HY := Lib.hid hb
  obtain ⟨A1, c1, rfl, hc1, hcm1, _⟩ := hb
  unfold maxLen at hcm1
  cases hv : validB 6 s.data.toList (-1)
  · have HV := Lib.hid hv
    clear hv
    go_enter Try.func4, Try.ntmps4
    go_wp2_with fail
    refine (valid6_any s (-1) _ HS.out).mono ?_
    rintro e w1 ⟨rfl, rfl⟩
    rw [HV.out]
    go_wp2
    go_ret
    exact ⟨rfl, Below.refl _ _⟩
  have HV := Lib.hid hv
  have HVP := Lib.hid (validB_true hv)
  clear hv
  cases hv5 : validB 5 s5.data.toList (-1)
  · have HV5 := Lib.hid hv5
    clear hv5
    go_enter Try.func4, Try.ntmps4
    go_wp2_with fail
    refine (valid6_any s (-1) _ HS.out).mono ?_
    rintro e w1 ⟨rfl, rfl⟩
    rw [HV.out]
    go_wp2_with fail
    refine (valid5_any s5 (-1) _ HS5.out).mono ?_
    rintro e w1 ⟨rfl, rfl⟩
    rw [HV5.out]
    go_wp2
    go_ret
    exact ⟨rfl, Below.refl _ _⟩
  have HV5 := Lib.hid hv5
  have HVP5 := Lib.hid (validB_true hv5)
  clear hv5
  obtain ⟨u, HU, hu⟩ := strIs_mk (textOf 6 s.data.toList (-1) l)
  have HUN := Lib.hid hu
  have hf6 := lenN6_facts (-1) l.length
  have hw6 := charsN6_wide l.length
  have hz6 := hf6.2.2.1 (by omega)
  have hsz : u.size ≤ 225179981368000 := by rw [HU.size, textOf_length6]; omega
  have HUm : Hid (u.size ≤ maxLen) := by show _ ≤ _; unfold maxLen; omega
  have HL6 : Hid (((lettersIn s.data.toList u.data.toList : Nat) : Int) = (u.size : Int)) := by show _ = _; rw [HU.size, show u.data.toList = _ from HU, lettersIn_text6 HVP.out, textOf_length6, hz6]
  have HAL6 : Hid (∀ c ∈ u.data.toList, isL s.data.toList c = true) := by rw [show u.data.toList = _ from HU]; exact fun c hc => raw6_letters HVP.out l c hc
  have HVA6 : Hid (unsix (u.data.toList.map (numL s.data.toList)) = l) := by show _ = _; rw [show u.data.toList = _ from HU]; exact raw6_nums HVP.out l
  obtain ⟨u5, HU5, hu5⟩ := strIs_mk (textOf 5 s5.data.toList (-1) l)
  have HUN5 := Lib.hid hu5
  have hf5 := lenN5_facts (-1) l.length
  have hw5 := charsN5_wide l.length
  have hz5 := hf5.2.2.1 (by omega)
  have hsz5 : u5.size ≤ 225179981368000 := by rw [HU5.size, textOf_length5]; omega
  have HU5m : Hid (u5.size ≤ maxLen) := by show _ ≤ _; unfold maxLen; omega
  have HL5 : Hid (((lettersIn s5.data.toList u5.data.toList : Nat) : Int) = (u5.size : Int)) := by show _ = _; rw [HU5.size, show u5.data.toList = _ from HU5, lettersIn_text5 HVP5.out, textOf_length5, hz5]
  have HAL5 : Hid (∀ c ∈ u5.data.toList, isL s5.data.toList c = true) := by rw [show u5.data.toList = _ from HU5]; exact fun c hc => raw5_letters HVP5.out l c hc
  have HVA5 : Hid (unfive (u5.data.toList.map (numL s5.data.toList)) = l) := by show _ = _; rw [show u5.data.toList = _ from HU5]; exact raw5_nums HVP5.out l
  clear HU hu HU5 hu5 hf6 hw6 hz6 hf5 hw5 hz5
  go_enter Try.func4, Try.ntmps4
  go_wp2_with fail
  refine (valid6_any s (-1) _ HS.out).mono ?_
  rintro e w1 ⟨rfl, rfl⟩
  rw [HV.out]
  go_wp2_with fail
  refine (valid5_any s5 (-1) _ HS5.out).mono ?_
  rintro e w1 ⟨rfl, rfl⟩
  rw [HV5.out]
  go_wp2_with fail
  refine (encode64I s (-1) _ l _ HVP.out HY.out hl).mono ?_
  rintro e w2 ⟨rfl, hb2⟩
  rw [HUN.out]
  have HB2 := Lib.hid hb2
  clear hb2
  go_wp2_with fail
  refine (encode32I s5 (-1) _ l _ HVP5.out (HY.out.below HB2.out) hl).mono ?_
  rintro e w3 ⟨rfl, hb3⟩
  rw [HUN5.out]
  have HB3 := Lib.hid (below_trans' HB2.out hb3)
  clear hb3 HB2
  go_wp2_with fail
  refine (letters_any s u _ HS.out HUm.out).mono ?_
  rintro e w4 ⟨rfl, rfl⟩
  rw [HL6.out]
  go_wp2_with fail
  refine (letters_any s5 u5 _ HS5.out HU5m.out).mono ?_
  rintro e w4 ⟨rfl, rfl⟩
  rw [HL5.out]
  go_wp2_with fail
  refine (values6_any s u (-1) _ HVP.out hsz HAL6.out).mono ?_
  rintro e w5 ⟨v5, rfl, hy5, hb5⟩
  rw [HVA6.out] at hy5
  have HY5 := Lib.hid hy5
  have HB5 := Lib.hid (below_trans' HB3.out hb5)
  clear hy5 hb5 HB3
  go_wp2_with fail
  refine (values5_any s5 u5 (-1) _ HVP5.out hsz5 HAL5.out).mono ?_
  rintro e w6 ⟨v6, rfl, hy6, hb6⟩
  rw [HVA5.out] at hy6
  have HY6 := Lib.hid hy6
  have HY5' := Lib.hid (HY5.out.below hb6)
  have HB6 := Lib.hid (below_trans' HB5.out hb6)
  clear hy6 hb6 HB5 HY5
  go_wp2_with fail
  refine (same_any _ _ l l _ HY5'.out (HY.out.below HB6.out)).mono ?_
  rintro e w7 ⟨rfl, q7, rfl⟩
  have e1 : (l == l) = true := by simp
  rw [e1]
  clear e1
  go_wp2_with fail
  refine (same_any _ _ l l _ (HY6.out.below (below_drewN (Below.refl _ w6) q7)) (HY.out.below (below_drewN HB6.out q7))).mono ?_
  rintro e w8 ⟨rfl, q8, rfl⟩
  go_wp2
  go_ret
  exact ⟨ret_bool (by simp), below_drewN HB6.out (q7 + q8)⟩

end Go.Proofs.Ytejkphobeclefaa
