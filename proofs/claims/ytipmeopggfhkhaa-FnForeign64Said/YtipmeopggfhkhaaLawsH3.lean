/-
  The walk of the law FnForeign64: it returns true. Conditions: strings and slices hold at most 2 ^ 47 - 4096 bytes.
-/
import Derived.Test.YtipmeopggfhkhaaLawsH
import Derived.Deep.RegionWith
import Derived.BigRegion
namespace Go.Proofs.Ytipmeopggfhkhaa
open Go.RowKit
set_option linter.unusedVariables false

set_option maxHeartbeats 1000000 in
set_option maxRecDepth 100000 in
theorem law_FnForeign64 (s : ByteArray) (p : Int) (st : Bool) (v : Value) (l : List UInt8) (kI : Int) (bI : Int) (w : World) (hs : s.size ≤ 140737488351232) (_ : (Lit.int .i64 p).wf = true) (_ : True) (hb : Bys w v l) (hl : l.length ≤ 140737488351232) (_ : (Lit.int .i64 kI).wf = true) (hbw : (Lit.int .u8 bI).wf = true) :
    Calls Try.prog 4 #[.string s, .int .i64 p, .bool st, v, .int .i64 kI, .int .u8 bI] w fun e w' => e = .returned (.bool true) ∧ Below w.heap.size w w' := by
  have HS : Hid (s.size ≤ maxLen) := by show _ ≤ _; unfold maxLen; omega
  clear hs
  have HY := Lib.hid hb
  obtain ⟨A1, c1, rfl, hc1, hcm1, _⟩ := hb
  unfold maxLen at hcm1
  cases hv : validB 6 s.data.toList p
  · have HV := Lib.hid hv
    clear hv
    go_enter Try.func4, Try.ntmps4
    go_wp2_with fail
    refine (valid6_any s p _ HS.out).mono ?_
    rintro e w1 ⟨rfl, rfl⟩
    rw [HV.out]
    go_wp2
    go_ret
    exact ⟨rfl, Below.refl _ _⟩
  have HV := Lib.hid hv
  have HVP := Lib.hid (validB_true hv)
  clear hv
  have hp1 := HVP.out.2.1
  have hp2 := HVP.out.2.2.1
  obtain ⟨b, rfl⟩ : ∃ b : UInt8, bI = (b.toNat : Int) := byte_of hbw
  have hb8 : b.toNat < 256 := b.toNat_lt
  by_cases hk0 : kI < 0
  · go_enter Try.func4, Try.ntmps4
    go_wp2_with fail
    refine (valid6_any s p _ HS.out).mono ?_
    rintro e w1 ⟨rfl, rfl⟩
    rw [HV.out]
    go_wp2
    go_ret
    exact ⟨rfl, Below.refl _ _⟩
  obtain ⟨k, rfl⟩ : ∃ k : Nat, kI = (k : Int) := ⟨kI.toNat, by omega⟩
  have hkd : decide ((k : Int) < 0) = false := by rw [decide_eq_false_iff_not]; omega
  clear hk0
  obtain ⟨t, HT, ht⟩ := strIs_mk (textOf 6 s.data.toList p l)
  have HTN := Lib.hid ht
  have HTD : Hid (t.data.toList = textOf 6 s.data.toList p l) := HT
  have hfa := lenN6_facts p l.length
  have hcw := charsN6_wide l.length
  have HTS : Hid (t.size = lenN 6 p l.length) := by show _ = _; rw [HT.size, textOf_length6]
  have hts : 6 * t.size ≤ 8 * l.length + 50 := by have := HTS.out; omega
  have HLN : Hid (lenOf 6 p (l.length : Int) = (t.size : Int)) := by show _ = _; rw [lenOf6_N, HTS.out]
  have HCI := Lib.hid (chars6_N l.length)
  have HTT : Hid (decOf s.data.toList p st t.data.toList = (l, none)) := dec_text6 HVP.out st _ _ (by rw [HTD.out]; exact text6_stripped HVP.out l _ (fun c hc => Or.inl hc))
  clear HT ht
  by_cases hk1 : t.size < k
  · go_enter Try.func4, Try.ntmps4
    go_wp2_with fail
    refine (valid6_any s p _ HS.out).mono ?_
    rintro e w1 ⟨rfl, rfl⟩
    rw [HV.out]
    go_wp2_with fail
    refine (length6_any p (l.length : Int) _ (by omega) (by omega)).mono ?_
    rintro e w4 ⟨rfl, q, rfl⟩
    rw [HLN.out]
    go_wp2
    go_ret
    exact ⟨rfl, below_drewN (Below.refl _ _) q⟩
  have HNB : Hid (((b.toNat : Int) == 13 || (b.toNat : Int) == 10) = isNL b) := isNL_int b
  by_cases hix : 0 ≤ idx s.data.toList (b.toNat : Int)
  · go_enter Try.func4, Try.ntmps4
    go_wp2_with fail
    refine (valid6_any s p _ HS.out).mono ?_
    rintro e w1 ⟨rfl, rfl⟩
    rw [HV.out]
    go_wp2_with fail
    refine (length6_any p (l.length : Int) _ (by omega) (by omega)).mono ?_
    rintro e w4 ⟨rfl, q, rfl⟩
    rw [HLN.out]
    go_wp2_with fail
    refine (index_any s (b.toNat : Int) _ HS.out).mono ?_
    rintro e w5 ⟨rfl, rfl⟩
    go_wp2
    go_ret
    exact ⟨rfl, below_drewN (Below.refl _ _) q⟩
  have hixd : decide (0 ≤ idx s.data.toList (b.toNat : Int)) = false := by rw [decide_eq_false_iff_not]; exact hix
  have HIL : Hid (isL s.data.toList b = false) := hixd
  clear hix
  by_cases hpe : (b.toNat : Int) = p
  · have hpb : ((b.toNat : Int) == p) = true := by simpa using hpe
    clear hpe
    go_enter Try.func4, Try.ntmps4
    go_wp2_with fail
    refine (valid6_any s p _ HS.out).mono ?_
    rintro e w1 ⟨rfl, rfl⟩
    rw [HV.out]
    go_wp2_with fail
    refine (length6_any p (l.length : Int) _ (by omega) (by omega)).mono ?_
    rintro e w4 ⟨rfl, q, rfl⟩
    rw [HLN.out]
    go_wp2_with fail
    refine (index_any s (b.toNat : Int) _ HS.out).mono ?_
    rintro e w5 ⟨rfl, rfl⟩
    go_wp2
    go_ret
    exact ⟨rfl, below_drewN (Below.refl _ _) q⟩
  have hpb : ((b.toNat : Int) == p) = false := by simpa using hpe
  have HPE := Lib.hid hpe
  clear hpe
  cases hnl : isNL b
  rotate_left
  · rw [hnl] at HNB
    go_enter Try.func4, Try.ntmps4
    go_wp2_with fail
    refine (valid6_any s p _ HS.out).mono ?_
    rintro e w1 ⟨rfl, rfl⟩
    rw [HV.out]
    go_wp2_with fail
    refine (length6_any p (l.length : Int) _ (by omega) (by omega)).mono ?_
    rintro e w4 ⟨rfl, q, rfl⟩
    rw [HLN.out]
    go_wp2_with fail
    refine (index_any s (b.toNat : Int) _ HS.out).mono ?_
    rintro e w5 ⟨rfl, rfl⟩
    go_wp2_with fail
    refine (newline_any (b.toNat : Int) _).mono ?_
    rintro e w6 ⟨rfl, rfl⟩
    rw [HNB.out]
    go_wp2
    go_ret
    exact ⟨rfl, below_drewN (Below.refl _ _) q⟩
  rw [hnl] at HNB
  have HNL := Lib.hid hnl
  clear hnl
  obtain ⟨pb, HPB, hpb'⟩ := strIs_mk [b]
  have HPN := Lib.hid hpb'
  have HPD : Hid (pb.data.toList = [b]) := HPB
  obtain ⟨bs1, n1, hno1⟩ := dec_not HVP.out st (t.extract 0 k ++ pb ++ t.extract k t.size).data.toList (by rw [append_data, append_data, extract0_data, extract_tail_data, HTD.out, HPD.out]; exact (text6_foreign HVP.out l k b HIL.out HPE.out HNL.out).2)
  have hpbs : pb.size ≤ 1 := by rw [size_data, HPD.out]; exact Nat.le_refl _
  have HN1 := Lib.hid hno1
  have HE1 : Hid ((t.extract 0 k ++ pb ++ t.extract k t.size).size ≤ 281474976710656) := by
    show _ ≤ _
    have h5 := size_data t
    rw [size_data, append_data, append_data, extract0_data, extract_tail_data, HPD.out]
    simp only [List.length_append, List.length_take, List.length_drop, List.length_cons, List.length_nil]
    omega
  clear HPB hpb' hno1
  go_enter Try.func4, Try.ntmps4
  go_wp2_with fail
  refine (valid6_any s p _ HS.out).mono ?_
  rintro e w1 ⟨rfl, rfl⟩
  rw [HV.out]
  go_wp2_with fail
  refine (length6_any p (l.length : Int) _ (by omega) (by omega)).mono ?_
  rintro e w4 ⟨rfl, q, rfl⟩
  rw [HLN.out]
  go_wp2_with fail
  refine (index_any s (b.toNat : Int) _ HS.out).mono ?_
  rintro e w5 ⟨rfl, rfl⟩
  go_wp2_with fail
  refine (newline_any (b.toNat : Int) _).mono ?_
  rintro e w6 ⟨rfl, rfl⟩
  rw [HNB.out]
  go_wp2_with fail
  refine (text6_any s p _ l _ HVP.out (HY.out.below (below_drewN (Below.refl _ w) q)) (by omega)).mono ?_
  rintro e w3 ⟨rfl, hb3⟩
  rw [HTN.out]
  have HB3 : Hid (Below w.heap.size w w3) := (below_drewN (Below.refl _ w) q).trans hb3
  clear hb3
  have z1 : (k : Int) ≤ (t.size : Int) := by omega
  have z0 : (0 : Int) ≤ (k : Int) := by omega
  have hcv := run_to_string (P := Try.prog) (w := (w3.alloc (.cells #[.int .u8 (b.toNat : Int)] 5)).drew) 22 5 9 Try.underlying22 Try.underlying5 Try.underlying9 _ _ (bys_byte w3 5 b)
  rw [HPN.out] at hcv
  have HB5 : Hid (Below w.heap.size w (w3.alloc (.cells #[.int .u8 (b.toNat : Int)] 5)).drew) := (HB3.out.alloc HB3.out.size _).drew
  go_wp2_with fail
  go_region_with (first
    | (go_at_call 12; refine (decode64_no s p st (t.extract 0 k ++ pb ++ t.extract k t.size) bs1 n1 _ HVP.out HE1.out HN1.out).mono ?_; rintro e w5 ⟨g5, c5, rfl, _, hb5⟩))
  have HB6 := Lib.hid (below_trans' HB5.out hb5)
  clear hb5 HB5 hcv
  go_wp2_with fail
  refine (decode64_ok s p st t l _ HVP.out (by omega) HTT.out).mono ?_
  rintro e w7 ⟨g7, c7, rfl, _, hb7⟩
  have HB7 := Lib.hid (below_trans' HB6.out hb7)
  clear hb7 HB6
  go_wp2
  go_ret
  exact ⟨ret_bool rfl, HB7.out⟩

end Go.Proofs.Ytipmeopggfhkhaa
