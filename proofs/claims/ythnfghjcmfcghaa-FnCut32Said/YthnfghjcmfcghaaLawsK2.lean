/-
  The walk of the law FnCut32: it returns true. Conditions: strings and slices hold at most 2 ^ 47 - 4096 bytes.
-/
import Derived.Test.YthnfghjcmfcghaaLawsK
import Derived.Deep.RegionWith
import Derived.BigRegion
namespace Go.Proofs.Ythnfghjcmfcghaa
open Go.RowKit
set_option linter.unusedVariables false

set_option maxHeartbeats 1000000 in
set_option maxRecDepth 100000 in
theorem law_FnCut32 (s : ByteArray) (p : Int) (v : Value) (l : List UInt8) (w : World) (hs : s.size ≤ 140737488351232) (_ : (Lit.int .i64 p).wf = true) (hb : Bys w v l) (hl : l.length ≤ 140737488351232) :
    Calls Try.prog 3 #[.string s, .int .i64 p, v] w fun e w' => e = .returned (.bool true) ∧ Below w.heap.size w w' := by
  have HS : Hid (s.size ≤ maxLen) := by show _ ≤ _; unfold maxLen; omega
  clear hs
  have HY := Lib.hid hb
  obtain ⟨A1, c1, rfl, hc1, hcm1, _⟩ := hb
  unfold maxLen at hcm1
  cases hv : validB 5 s.data.toList p
  · have HV := Lib.hid hv
    clear hv
    go_enter Try.func3, Try.ntmps3
    go_wp2_with fail
    refine (valid5_any s p _ HS.out).mono ?_
    rintro e w1 ⟨rfl, rfl⟩
    rw [HV.out]
    go_wp2
    go_ret
    exact ⟨rfl, (Below.refl _ _)⟩
  have HV := Lib.hid hv
  have HVP := Lib.hid (validB_true hv)
  clear hv
  have hp1 := HVP.out.2.1
  have hp2 := HVP.out.2.2.1
  by_cases hp0 : p < 0
  · go_enter Try.func3, Try.ntmps3
    go_wp2_with fail
    refine (valid5_any s p _ HS.out).mono ?_
    rintro e w1 ⟨rfl, rfl⟩
    rw [HV.out]
    go_wp2
    go_ret
    exact ⟨rfl, (Below.refl _ _)⟩
  by_cases hl0 : l.length = 0
  · have hl1 : ((l.length : Int) == 0) = true := by rw [beq_iff_eq]; omega
    clear hl0
    go_enter Try.func3, Try.ntmps3
    go_wp2_with fail
    refine (valid5_any s p _ HS.out).mono ?_
    rintro e w1 ⟨rfl, rfl⟩
    rw [HV.out]
    go_wp2
    go_ret
    exact ⟨rfl, (Below.refl _ _)⟩
  have hl1 : ((l.length : Int) == 0) = false := by rw [beq_eq_false_iff_ne]; omega
  have HCN : Hid (CleanA s.data.toList p) := Or.inl (by omega)
  obtain ⟨t, HT, ht⟩ := strIs_mk (textOf 5 s.data.toList p l)
  have HTN := Lib.hid ht
  have HTD : Hid (t.data.toList = textOf 5 s.data.toList p l) := HT
  have hfa := lenN5_facts p l.length
  have hcw := charsN5_wide l.length
  have HTS : Hid (t.size = lenN 5 p l.length) := by show _ = _; rw [HT.size, textOf_length5]
  have hts : 5 * t.size ≤ 8 * l.length + 50 := by have := HTS.out; omega
  have HLN : Hid (lenOf 5 p (l.length : Int) = (t.size : Int)) := by show _ = _; rw [lenOf5_N, HTS.out]
  have HCI := Lib.hid (chars5_N l.length)
  have HTT : Hid (dec32 s.data.toList p t.data.toList = (l, none)) := dec_text5 HVP.out HCN.out _ _ (by rw [HTD.out]; exact text5_stripped HVP.out l _ (fun c hc => Or.inl hc))
  clear HT ht
  have hcp : 0 < charsN 5 l.length := by unfold charsN; omega
  have hz0 : 0 < t.size := by have := HTS.out; omega
  obtain ⟨bs1, n1, hno1⟩ := text5_short_no HVP.out (by omega) l (by omega) (t.extract 0 (t.size - 1)).data.toList (by rw [extract0_data, HTD.out, HTS.out])
  have HN1 := Lib.hid hno1
  obtain ⟨pb, HPB, hpb⟩ := strIs_mk [padB p]
  have HPN := Lib.hid hpb
  have HPD : Hid (pb.data.toList = [padB p]) := HPB
  have hpbs : pb.size ≤ 1 := by rw [size_data, HPD.out]; exact Nat.le_refl _
  have HE1 : Hid ((t.extract 0 (t.size - 1)).size ≤ 281474976710656) := by
    show _ ≤ _
    have h5 := size_data t
    rw [size_data, extract0_data, List.length_take]
    omega
  have HE2 : Hid ((t ++ pb).size ≤ 281474976710656) := by
    show _ ≤ _
    have h5 := size_data t
    rw [size_data, append_data, HPD.out, List.length_append]
    simp only [List.length_cons, List.length_nil]
    omega
  have tz : ((t.size : Int) - 1).toNat = t.size - 1 := by omega
  clear HPB hpb hno1 hl0
  by_cases h5 : l.length % 5 = 0
  · obtain ⟨bs2, n2, hno2⟩ := text5_pads_no HVP.out (by omega) l h5 (t ++ pb).data.toList (by rw [append_data, HTD.out, HPD.out])
    have HN2 := Lib.hid hno2
    have h5b : ((l.length : Int) % 5 != 0) = false := by simp; omega
    clear hno2 h5
    go_enter Try.func3, Try.ntmps3
    go_wp2_with fail
    refine (valid5_any s p _ HS.out).mono ?_
    rintro e w1 ⟨rfl, rfl⟩
    rw [HV.out]
    go_wp2_with fail
    refine (text5_any s p _ l _ HVP.out HY.out (by omega)).mono ?_
    rintro e w3 ⟨rfl, hb3⟩
    rw [HTN.out]
    have HB3 := Lib.hid hb3
    clear hb3
    go_wp2_with fail
    refine (decode32_no s p (t.extract 0 (t.size - 1)) bs1 n1 _ HVP.out HE1.out HN1.out).mono ?_
    rintro e w4 ⟨g4, c4, rfl, _, hb4⟩
    have HB4 := Lib.hid (below_trans' HB3.out hb4)
    clear hb4 HB3
    have hcv := run_to_string (P := Try.prog) (w := w4.alloc (.cells #[.int .u8 p] 5)) 22 5 9 Try.underlying22 Try.underlying5 Try.underlying9 _ _ (bys_one w4 5 p (by omega) hp2)
    rw [HPN.out] at hcv
    have HB5 : Hid (Below w.heap.size w (w4.alloc (.cells #[.int .u8 p] 5))) := HB4.out.alloc HB4.out.size _
    go_wp2_with fail
    refine (decode32_no s p (t ++ pb) bs2 n2 _ HVP.out HE2.out HN2.out).mono ?_
    rintro e w6 ⟨g6, c6, rfl, _, hb6⟩
    have HB6 := Lib.hid (below_trans' HB5.out hb6)
    clear hb6 HB5 HB4 hcv
    go_wp2_with fail
    refine (decode32_ok s p t l _ HVP.out (by omega) HTT.out).mono ?_
    rintro e w7 ⟨g7, c7, rfl, _, hb7⟩
    have HB7 := Lib.hid (below_trans' HB6.out hb7)
    clear hb7 HB6
    go_wp2
    go_ret
    exact ⟨ret_bool rfl, HB7.out⟩
  · have h5b : ((l.length : Int) % 5 != 0) = true := by simp; omega
    clear h5
    go_enter Try.func3, Try.ntmps3
    go_wp2_with fail
    refine (valid5_any s p _ HS.out).mono ?_
    rintro e w1 ⟨rfl, rfl⟩
    rw [HV.out]
    go_wp2_with fail
    refine (text5_any s p _ l _ HVP.out HY.out (by omega)).mono ?_
    rintro e w3 ⟨rfl, hb3⟩
    rw [HTN.out]
    have HB3 := Lib.hid hb3
    clear hb3
    go_wp2_with fail
    refine (decode32_no s p (t.extract 0 (t.size - 1)) bs1 n1 _ HVP.out HE1.out HN1.out).mono ?_
    rintro e w4 ⟨g4, c4, rfl, _, hb4⟩
    have HB4 := Lib.hid (below_trans' HB3.out hb4)
    clear hb4 HB3
    have hcv := run_to_string (P := Try.prog) (w := w4.alloc (.cells #[.int .u8 p] 5)) 22 5 9 Try.underlying22 Try.underlying5 Try.underlying9 _ _ (bys_one w4 5 p (by omega) hp2)
    rw [HPN.out] at hcv
    have HB5 : Hid (Below w.heap.size w (w4.alloc (.cells #[.int .u8 p] 5))) := HB4.out.alloc HB4.out.size _
    go_wp2_with fail
    refine (decode32I s p (t ++ pb) _ HVP.out HE2.out).mono ?_
    rintro e w6 ⟨g6, c6, rfl, _, hb6⟩
    generalize okOf (dec32 s.data.toList p (t ++ pb).data.toList).2 = OK
    generalize numOf (dec32 s.data.toList p (t ++ pb).data.toList).2 = NU
    have HB6 := Lib.hid (below_trans' HB5.out hb6)
    clear hb6 HB5 HB4 hcv
    cases OK
    all_goals
      go_wp2_with fail
      refine (decode32_ok s p t l _ HVP.out (by omega) HTT.out).mono ?_
      rintro e w7 ⟨g7, c7, rfl, _, hb7⟩
      have HB7 := Lib.hid (below_trans' HB6.out hb7)
      clear hb7 HB6
      go_wp2
      go_ret
      exact ⟨ret_bool rfl, HB7.out⟩

end Go.Proofs.Ythnfghjcmfcghaa
