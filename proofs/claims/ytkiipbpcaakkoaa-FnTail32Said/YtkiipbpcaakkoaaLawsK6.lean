/-
  The walk of the law FnTail32: it returns true. Conditions: strings and slices hold at most 2 ^ 47 - 4096 bytes.
-/
import Derived.Test.YtkiipbpcaakkoaaLawsK
import Derived.Deep.RegionWith
import Derived.BigRegion
namespace Go.Proofs.Ytkiipbpcaakkoaa
open Go.RowKit
set_option linter.unusedVariables false

set_option maxHeartbeats 1000000 in
set_option maxRecDepth 100000 in
theorem law_FnTail32 (s : ByteArray) (p : Int) (v : Value) (l : List UInt8) (v2 : Value) (l2 : List UInt8) (w : World) (hs : s.size ≤ 140737488351232) (_ : (Lit.int .i64 p).wf = true) (hb : Bys w v l) (hl : l.length ≤ 140737488351232) (hb2 : Bys w v2 l2) (hl2 : l2.length ≤ 140737488351232) :
    Calls Try.prog 4 #[.string s, .int .i64 p, v, v2] w fun e w' => e = .returned (.bool true) ∧ Below w.heap.size w w' := by
  have HS : Hid (s.size ≤ maxLen) := by show _ ≤ _; unfold maxLen; omega
  clear hs
  have HY := Lib.hid hb
  obtain ⟨A1, c1, rfl, hc1, hcm1, _⟩ := hb
  unfold maxLen at hcm1
  cases hv : validB 5 s.data.toList p
  · have HV := Lib.hid hv
    clear hv
    go_enter Try.func4, Try.ntmps4
    go_wp2_with fail
    refine (valid5_any s p _ HS.out).mono ?_
    rintro e w1 ⟨rfl, rfl⟩
    rw [HV.out]
    go_wp2
    go_ret
    exact ⟨rfl, (Below.refl _ _)⟩
  have HV := Lib.hid hv
  have HVP := Lib.hid (validB_true hv)
  clear hv
  have hp1 := HVP.out.2.1
  have hp2 := HVP.out.2.2.1
  have HY2 := Lib.hid hb2
  obtain ⟨A2, c2, rfl, hc2, hcm2, _⟩ := hb2
  unfold maxLen at hcm2
  by_cases hp0 : p < 0
  · go_enter Try.func4, Try.ntmps4
    go_wp2_with fail
    refine (valid5_any s p _ HS.out).mono ?_
    rintro e w1 ⟨rfl, rfl⟩
    rw [HV.out]
    go_wp2
    go_ret
    exact ⟨rfl, (Below.refl _ _)⟩
  have hp0d : decide (p < 0) = false := by rw [decide_eq_false_iff_not]; exact hp0
  by_cases hl0 : l.length % 5 = 0
  · have hl1 : ((l.length : Int) % 5 == 0) = true := by rw [beq_iff_eq]; omega
    clear hl0
    go_enter Try.func4, Try.ntmps4
    go_wp2_with fail
    refine (valid5_any s p _ HS.out).mono ?_
    rintro e w1 ⟨rfl, rfl⟩
    rw [HV.out]
    go_wp2
    go_ret
    exact ⟨rfl, (Below.refl _ _)⟩
  have hl1 : ((l.length : Int) % 5 == 0) = false := by rw [beq_eq_false_iff_ne]; omega
  by_cases hk0 : l2.length = 0
  · have hk1 : ((l2.length : Int) == 0) = true := by rw [beq_iff_eq]; omega
    clear hk0
    go_enter Try.func4, Try.ntmps4
    go_wp2_with fail
    refine (valid5_any s p _ HS.out).mono ?_
    rintro e w1 ⟨rfl, rfl⟩
    rw [HV.out]
    go_wp2
    go_ret
    exact ⟨rfl, (Below.refl _ _)⟩
  have hk1 : ((l2.length : Int) == 0) = false := by rw [beq_eq_false_iff_ne]; omega
  have HCN : Hid (CleanA s.data.toList p) := Or.inl (by omega)
  obtain ⟨t, HT, ht⟩ := strIs_mk (textOf 5 s.data.toList p l)
  have HTN := Lib.hid ht
  have HTD : Hid (t.data.toList = textOf 5 s.data.toList p l) := HT
  have hfa := lenN5_facts p l.length
  have hcw := charsN5_wide l.length
  have HTS : Hid (t.size = lenN 5 p l.length) := by show _ = _; rw [HT.size, textOf_length5]
  have hts : 5 * t.size ≤ 8 * l.length + 50 := by have := HTS.out; omega
  have HLN : Hid (lenOf 5 p (l.length : Int) = (t.size : Int)) := by show _ = _; rw [lenOf5_N, HTS.out]
  have HCI := Lib.hid (chars5_N l.length)
  have HTT : Hid (dec32 s.data.toList p t.data.toList = (l, none)) := dec_text5 HVP.out HCN.out _ _ (by rw [HTD.out]; exact text5_stripped HVP.out l _ (fun c hc => Or.inl hc))
  clear HT ht
  obtain ⟨t2, HT2, ht2⟩ := strIs_mk (textOf 5 s.data.toList p l2)
  have HTN2 := Lib.hid ht2
  have HTD2 : Hid (t2.data.toList = textOf 5 s.data.toList p l2) := HT2
  have hts2 : t2.size ≤ 2 * l2.length + 8 := by rw [HT2.size, textOf_length5]; exact (lenN5_facts p l2.length).2.2.2.2
  have hcx : charsN 5 l.length < lenN 5 p l.length := by
    have := hfa.2.2.2.1 (by omega)
    have h5 : charsN 5 l.length % 8 ≠ 0 := by unfold charsN; omega
    omega
  obtain ⟨bs1, n1, hno1⟩ := text5_joined_no HVP.out (by omega) l l2 hcx (by omega) (t ++ t2).data.toList (by rw [append_data, HTD.out, HTD2.out])
  have HN1 := Lib.hid hno1
  have HE1 : Hid ((t ++ t2).size ≤ 1125899906842624) := by
    show _ ≤ _
    have h5 := size_data t
    have h6 := size_data t2
    rw [size_data, append_data, List.length_append]
    omega
  have HN2 : Hid (dec32 s.data.toList p (t ++ ⟨#[13, 10]⟩).data.toList = (l, none)) := dec_text5 HVP.out HCN.out _ _ (by rw [append_data, HTD.out]; exact text5_line HVP.out l _ (by show strip [13, 10] = []; decide))
  have HE2 : Hid ((t ++ (⟨#[13, 10]⟩ : ByteArray)).size ≤ 1125899906842624) := by
    show _ ≤ _
    have h5 := size_data t
    rw [size_data, append_data, List.length_append]
    simp only [List.length_cons, List.length_nil]
    omega
  clear HT2 ht2 hno1 hl0 hk0 hcx
  go_enter Try.func4, Try.ntmps4
  go_wp2_with fail
  refine (valid5_any s p _ HS.out).mono ?_
  rintro e w1 ⟨rfl, rfl⟩
  rw [HV.out]
  go_wp2_with fail
  refine (text5_any s p _ l _ HVP.out HY.out (by omega)).mono ?_
  rintro e w3 ⟨rfl, hb3⟩
  rw [HTN.out]
  have HB3 := Lib.hid hb3
  clear hb3
  go_wp2_with fail
  refine (text5_any s p _ l2 _ HVP.out (HY2.out.below HB3.out) (by omega)).mono ?_
  rintro e w4 ⟨rfl, hb4⟩
  rw [HTN2.out]
  have HB4 := Lib.hid (below_trans' HB3.out hb4)
  clear hb4 HB3
  go_wp2_with fail
  refine (decode32_noW s p (t ++ t2) bs1 n1 _ HVP.out HE1.out HN1.out).mono ?_
  rintro e w5 ⟨g5, c5, rfl, _, hb5⟩
  have HB5 := Lib.hid (below_trans' HB4.out hb5)
  clear hb5 HB4
  go_wp2_with fail
  have hcc := decode32_okW s p (t ++ ⟨#[13, 10]⟩) l w5 HVP.out HE2.out HN2.out
  (with_reducible refine hcc.mono ?_)
  clear hcc
  rintro e w6 ⟨g6, c6, rfl, hy6, hb6⟩
  have HY6 := Lib.hid hy6
  have HB6 := Lib.hid (below_trans' HB5.out hb6)
  clear hb6 HB5 hy6
  go_wp2_with fail
  refine (same_any _ _ l l _ HY6.out (HY.out.below HB6.out)).mono ?_
  rintro e w7 ⟨rfl, q7, rfl⟩
  go_wp2
  go_ret
  exact ⟨ret_bool (by simp), below_drewN HB6.out q7⟩

end Go.Proofs.Ytkiipbpcaakkoaa
