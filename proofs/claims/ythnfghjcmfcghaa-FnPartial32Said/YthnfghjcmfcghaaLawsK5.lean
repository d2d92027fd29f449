/-
  The walk of the law FnPartial32: it returns true. Conditions: strings and slices hold at most 2 ^ 47 - 4096 bytes.
-/
import Derived.Test.YthnfghjcmfcghaaLawsK
import Derived.Test.YthnfghjcmfcghaaConv
import Derived.Deep.RegionWith
import Derived.BigRegion
namespace Go.Proofs.Ythnfghjcmfcghaa
open Go.RowKit
set_option linter.unusedVariables false

set_option maxHeartbeats 1000000 in
set_option maxRecDepth 100000 in
theorem law_FnPartial32 (s : ByteArray) (p : Int) (v : Value) (l : List UInt8) (kI : Int) (bI : Int) (w : World) (hs : s.size ≤ 140737488351232) (_ : (Lit.int .i64 p).wf = true) (hb : Bys w v l) (hl : l.length ≤ 140737488351232) (_ : (Lit.int .i64 kI).wf = true) (hbw : (Lit.int .u8 bI).wf = true) :
    Calls Try.prog 7 #[.string s, .int .i64 p, v, .int .i64 kI, .int .u8 bI] w fun e w' => e = .returned (.bool true) ∧ Below w.heap.size w w' := by
  have HS : Hid (s.size ≤ maxLen) := by show _ ≤ _; unfold maxLen; omega
  clear hs
  have HY := Lib.hid hb
  obtain ⟨A1, c1, rfl, hc1, hcm1, _⟩ := hb
  unfold maxLen at hcm1
  cases hv : validB 5 s.data.toList p
  · have HV := Lib.hid hv
    clear hv
    go_enter Try.func7, Try.ntmps7
    go_wp2_with fail
    refine (valid5_any s p _ HS.out).mono ?_
    rintro e w1 ⟨rfl, rfl⟩
    rw [HV.out]
    go_wp2
    go_ret
    exact ⟨rfl, (Below.refl _ _)⟩
  have HV := Lib.hid hv
  have HVP := Lib.hid (validB_true hv)
  clear hv
  have hp1 := HVP.out.2.1
  have hp2 := HVP.out.2.2.1
  obtain ⟨b, rfl⟩ : ∃ b : UInt8, bI = (b.toNat : Int) := byte_of hbw
  have hb8 : b.toNat < 256 := b.toNat_lt
  obtain ⟨pb, HPB, hpb0⟩ := strIs_mk [b]
  have HPN := Lib.hid hpb0
  have HPD : Hid (pb.data.toList = [b]) := HPB
  have hpbs : pb.size ≤ 1 := by rw [size_data, HPD.out]; exact Nat.le_refl _
  have HPS : Hid (pb.size ≤ maxLen) := by show _ ≤ _; unfold maxLen; omega
  have HBA : Hid (Below w.heap.size w (w.alloc (.cells #[.int .u8 (b.toNat : Int)] 5))) := (Below.refl _ w).alloc (Nat.le_refl _) _
  clear HPB hpb0
  cases hcl : cleanB p s.data.toList pb.data.toList
  · have HCL := Lib.hid hcl
    clear hcl
    go_enter Try.func7, Try.ntmps7
    go_wp2_with fail
    refine (valid5_any s p _ HS.out).mono ?_
    rintro e w1 ⟨rfl, rfl⟩
    rw [HV.out]
    have hcvb := run_to_string (P := Try.prog) (w := w.alloc (.cells #[.int .u8 (b.toNat : Int)] 5)) 22 5 9 Try.underlying22 Try.underlying5 Try.underlying9 _ _ (bys_byte0 w 5 b)
    rw [HPN.out] at hcvb
    go_wp2_with fail
    refine (clean32_any p s pb _ HS.out HPS.out).mono ?_
    rintro e wc ⟨rfl, rfl⟩
    rw [HCL.out]
    clear hcvb
    go_wp2
    go_ret
    exact ⟨rfl, HBA.out⟩
  have HCL := Lib.hid hcl
  have HCN : Hid (CleanA s.data.toList p) := cleanB_a hcl
  have HC2 : Hid (0 ≤ p ∨ b.toNat ≠ 255) := by have := cleanB_b hcl; rw [HPD.out] at this; exact this.imp id (fun h => h b (by simp))
  clear hcl
  by_cases hk0 : kI < 0
  · go_enter Try.func7, Try.ntmps7
    go_wp2_with fail
    refine (valid5_any s p _ HS.out).mono ?_
    rintro e w1 ⟨rfl, rfl⟩
    rw [HV.out]
    have hcvb := run_to_string (P := Try.prog) (w := w.alloc (.cells #[.int .u8 (b.toNat : Int)] 5)) 22 5 9 Try.underlying22 Try.underlying5 Try.underlying9 _ _ (bys_byte0 w 5 b)
    rw [HPN.out] at hcvb
    go_wp2_with fail
    refine (clean32_any p s pb _ HS.out HPS.out).mono ?_
    rintro e wc ⟨rfl, rfl⟩
    rw [HCL.out]
    clear hcvb
    go_wp2
    go_ret
    exact ⟨rfl, HBA.out⟩
  obtain ⟨k, rfl⟩ : ∃ k : Nat, kI = (k : Int) := ⟨kI.toNat, by omega⟩
  have hkd : decide ((k : Int) < 0) = false := by rw [decide_eq_false_iff_not]; omega
  clear hk0
  obtain ⟨t, HT, ht⟩ := strIs_mk (textOf 5 s.data.toList p l)
  have HTN := Lib.hid ht
  have HTD : Hid (t.data.toList = textOf 5 s.data.toList p l) := HT
  have hfa := lenN5_facts p l.length
  have hcw := charsN5_wide l.length
  have HTS : Hid (t.size = lenN 5 p l.length) := by show _ = _; rw [HT.size, textOf_length5]
  have hts : 5 * t.size ≤ 8 * l.length + 50 := by have := HTS.out; omega
  have HLN : Hid (lenOf 5 p (l.length : Int) = (t.size : Int)) := by show _ = _; rw [lenOf5_N, HTS.out]
  have HCI := Lib.hid (chars5_N l.length)
  have HTT : Hid (dec32 s.data.toList p t.data.toList = (l, none)) := dec_text5 HVP.out HCN.out _ _ (by rw [HTD.out]; exact text5_stripped HVP.out l _ (fun c hc => Or.inl hc))
  clear HT ht
  obtain ⟨N, hN⟩ : ∃ N, N = charsN 5 l.length := ⟨_, rfl⟩
  rw [← hN] at hfa hcw HCI
  have HN := Lib.hid hN
  clear hN
  by_cases hk1 : N ≤ k
  · have hk2 : decide ((N : Int) ≤ (k : Int)) = true := by simpa using hk1
    go_enter Try.func7, Try.ntmps7
    go_wp2_with fail
    refine (valid5_any s p _ HS.out).mono ?_
    rintro e w1 ⟨rfl, rfl⟩
    rw [HV.out]
    have hcvb := run_to_string (P := Try.prog) (w := w.alloc (.cells #[.int .u8 (b.toNat : Int)] 5)) 22 5 9 Try.underlying22 Try.underlying5 Try.underlying9 _ _ (bys_byte0 w 5 b)
    rw [HPN.out] at hcvb
    go_wp2_with fail
    refine (clean32_any p s pb _ HS.out HPS.out).mono ?_
    rintro e wc ⟨rfl, rfl⟩
    rw [HCL.out]
    clear hcvb
    go_wp2_with fail
    refine (chars5_any (l.length : Int) _ (by omega) (by omega)).mono ?_
    rintro e w4 ⟨rfl, q, rfl⟩
    rw [HCI.out]
    go_wp2
    go_ret
    exact ⟨rfl, below_drewN HBA.out q⟩
  have HNB : Hid (((b.toNat : Int) == 13 || (b.toNat : Int) == 10) = isNL b) := isNL_int b
  by_cases hix : 0 ≤ idx s.data.toList (b.toNat : Int)
  · go_enter Try.func7, Try.ntmps7
    go_wp2_with fail
    refine (valid5_any s p _ HS.out).mono ?_
    rintro e w1 ⟨rfl, rfl⟩
    rw [HV.out]
    have hcvb := run_to_string (P := Try.prog) (w := w.alloc (.cells #[.int .u8 (b.toNat : Int)] 5)) 22 5 9 Try.underlying22 Try.underlying5 Try.underlying9 _ _ (bys_byte0 w 5 b)
    rw [HPN.out] at hcvb
    go_wp2_with fail
    refine (clean32_any p s pb _ HS.out HPS.out).mono ?_
    rintro e wc ⟨rfl, rfl⟩
    rw [HCL.out]
    clear hcvb
    go_wp2_with fail
    refine (chars5_any (l.length : Int) _ (by omega) (by omega)).mono ?_
    rintro e w4 ⟨rfl, q, rfl⟩
    rw [HCI.out]
    go_wp2_with fail
    refine (index_any s (b.toNat : Int) _ HS.out).mono ?_
    rintro e w5 ⟨rfl, rfl⟩
    go_wp2
    go_ret
    exact ⟨rfl, below_drewN HBA.out q⟩
  have hixd : decide (0 ≤ idx s.data.toList (b.toNat : Int)) = false := by rw [decide_eq_false_iff_not]; exact hix
  have HIL : Hid (isL s.data.toList b = false) := hixd
  clear hix
  by_cases hpe : (b.toNat : Int) = p
  · have hpb : ((b.toNat : Int) == p) = true := by simpa using hpe
    clear hpe
    go_enter Try.func7, Try.ntmps7
    go_wp2_with fail
    refine (valid5_any s p _ HS.out).mono ?_
    rintro e w1 ⟨rfl, rfl⟩
    rw [HV.out]
    have hcvb := run_to_string (P := Try.prog) (w := w.alloc (.cells #[.int .u8 (b.toNat : Int)] 5)) 22 5 9 Try.underlying22 Try.underlying5 Try.underlying9 _ _ (bys_byte0 w 5 b)
    rw [HPN.out] at hcvb
    go_wp2_with fail
    refine (clean32_any p s pb _ HS.out HPS.out).mono ?_
    rintro e wc ⟨rfl, rfl⟩
    rw [HCL.out]
    clear hcvb
    go_wp2_with fail
    refine (chars5_any (l.length : Int) _ (by omega) (by omega)).mono ?_
    rintro e w4 ⟨rfl, q, rfl⟩
    rw [HCI.out]
    go_wp2_with fail
    refine (index_any s (b.toNat : Int) _ HS.out).mono ?_
    rintro e w5 ⟨rfl, rfl⟩
    go_wp2
    go_ret
    exact ⟨rfl, below_drewN HBA.out q⟩
  have hpb : ((b.toNat : Int) == p) = false := by simpa using hpe
  have HPE := Lib.hid hpe
  clear hpe
  cases hnl : isNL b
  rotate_left
  · rw [hnl] at HNB
    go_enter Try.func7, Try.ntmps7
    go_wp2_with fail
    refine (valid5_any s p _ HS.out).mono ?_
    rintro e w1 ⟨rfl, rfl⟩
    rw [HV.out]
    have hcvb := run_to_string (P := Try.prog) (w := w.alloc (.cells #[.int .u8 (b.toNat : Int)] 5)) 22 5 9 Try.underlying22 Try.underlying5 Try.underlying9 _ _ (bys_byte0 w 5 b)
    rw [HPN.out] at hcvb
    go_wp2_with fail
    refine (clean32_any p s pb _ HS.out HPS.out).mono ?_
    rintro e wc ⟨rfl, rfl⟩
    rw [HCL.out]
    clear hcvb
    go_wp2_with fail
    refine (chars5_any (l.length : Int) _ (by omega) (by omega)).mono ?_
    rintro e w4 ⟨rfl, q, rfl⟩
    rw [HCI.out]
    go_wp2_with fail
    refine (index_any s (b.toNat : Int) _ HS.out).mono ?_
    rintro e w5 ⟨rfl, rfl⟩
    go_wp2_with fail
    refine (newline_any (b.toNat : Int) _).mono ?_
    rintro e w6 ⟨rfl, rfl⟩
    rw [HNB.out]
    go_wp2
    go_ret
    exact ⟨rfl, below_drewN HBA.out q⟩
  rw [hnl] at HNB
  have HNL := Lib.hid hnl
  clear hnl
  obtain ⟨u, HU, hu⟩ := strIs_mk (t.data.toList.set k b)
  have HUN := Lib.hid hu
  have HUD : Hid (u.data.toList = t.data.toList.set k b) := HU
  have hdk : decide ((N : Int) ≤ (k : Int)) = false := by rw [decide_eq_false_iff_not]; omega
  have hkt : k < t.size := by have := HTS.out; omega
  have HFO := Lib.hid (text5_offset HVP.out HCN.out l k (by rw [← HN.out]; omega) b HIL.out HPE.out HNL.out HC2.out)
  have HN1 : Hid (dec32 s.data.toList p u.data.toList = (l.take (5 * (k / 8)), some (k : Int))) := by show _ = _; rw [HUD.out, HTD.out]; exact HFO.out
  have HE1 : Hid (u.size ≤ 281474976710656) := by
    show _ ≤ _
    have h5 := size_data t
    rw [size_data, HUD.out, List.length_set]
    omega
  obtain ⟨x, hx⟩ : ∃ x, x = l.take (5 * (k / 8)) := ⟨_, rfl⟩
  have HTB : Hid ((l.take x.length == x) = true) := by rw [hx]; exact begins_take l (5 * (k / 8))
  have hlt : x.length ≤ l.length := by rw [hx, List.length_take]; omega
  rw [← hx] at HN1
  clear HU hu HFO hx
  go_enter Try.func7, Try.ntmps7
  go_wp2_with fail
  refine (valid5_any s p _ HS.out).mono ?_
  rintro e w1 ⟨rfl, rfl⟩
  rw [HV.out]
  have hcvb := run_to_string (P := Try.prog) (w := w.alloc (.cells #[.int .u8 (b.toNat : Int)] 5)) 22 5 9 Try.underlying22 Try.underlying5 Try.underlying9 _ _ (bys_byte0 w 5 b)
  rw [HPN.out] at hcvb
  go_wp2_with fail
  refine (clean32_any p s pb _ HS.out HPS.out).mono ?_
  rintro e wc ⟨rfl, rfl⟩
  rw [HCL.out]
  clear hcvb
  go_wp2_with fail
  refine (chars5_any (l.length : Int) _ (by omega) (by omega)).mono ?_
  rintro e w4 ⟨rfl, q, rfl⟩
  rw [HCI.out]
  go_wp2_with fail
  refine (index_any s (b.toNat : Int) _ HS.out).mono ?_
  rintro e w5 ⟨rfl, rfl⟩
  go_wp2_with fail
  refine (newline_any (b.toNat : Int) _).mono ?_
  rintro e w6 ⟨rfl, rfl⟩
  rw [HNB.out]
  go_wp2_with fail
  refine (text5_any s p _ l _ HVP.out (HY.out.below (below_drewN HBA.out q)) (by omega)).mono ?_
  rintro e w3 ⟨rfl, hb3⟩
  rw [HTN.out]
  have HB3 : Hid (Below w.heap.size w w3) := below_trans' (below_drewN HBA.out q) hb3
  clear hb3
  obtain ⟨c4, w4, hc41, hc42, hcv, HB4, _, HZ4, HC4⟩ := conv_bys (P := Try.prog) w3 9 22 5 t Try.underlying9 Try.underlying22 Try.underlying5 (by omega)
  obtain ⟨⟨x4, _, hset⟩, hfro, hby5⟩ := conv_set HC4.out k hkt hc41 hc42 b
  have hcv5 := run_to_string (P := Try.prog) 22 5 9 Try.underlying22 Try.underlying5 Try.underlying9 _ _ hby5
  rw [HUN.out] at hcv5
  have HB5 : Hid (Below w.heap.size w (w4.setCell ⟨w3.heap.size, k, none⟩ (.int .u8 (b.toNat : Int)))) := (HB3.out.trans (HB4.out.mono HB3.out.size)).setCell HB3.out.size _
  clear hby5
  unfold maxLen at hc42
  go_wp2_with fail
  refine (decode32_no s p u x (k : Int) _ HVP.out HE1.out HN1.out).mono ?_
  rintro e w6 ⟨g6, c6, rfl, hy6, hb6⟩
  have HY6 := Lib.hid hy6
  have HB6 := Lib.hid (below_trans' HB5.out hb6)
  clear hy6 hb6 HB5 hcv hcv5 hset hfro
  go_wp2_with fail
  refine (text5_any s p _ l _ HVP.out (HY.out.below HB6.out) (by omega)).mono ?_
  rintro e w7 ⟨rfl, hb7⟩
  rw [HTN.out]
  have HY7 := Lib.hid (HY6.out.below hb7)
  have HB7 := Lib.hid (below_trans' HB6.out hb7)
  clear hb7 HB6 HY6
  go_wp2_with fail
  refine (decode32_ok s p t l _ HVP.out (by omega) HTT.out).mono ?_
  rintro e w8 ⟨g8, c8, rfl, hy8, hb8⟩
  have HY8 := Lib.hid hy8
  have HY7' := Lib.hid (HY7.out.below hb8)
  have HB8 := Lib.hid (below_trans' HB7.out hb8)
  clear hb8 HB7 hy8 HY7
  go_wp2_with fail
  refine (begins_yes _ _ l x _ HY8.out HY7'.out hlt).mono ?_
  rintro e w9 ⟨rfl, q9, rfl⟩
  rw [HTB.out]
  go_wp2_with fail
  refine (same_any _ _ l l _ (HY8.out.below (below_drewN (Below.refl _ w8) q9)) (HY.out.below (below_drewN HB8.out q9))).mono ?_
  rintro e wa ⟨rfl, qa, rfl⟩
  go_wp2
  go_ret
  exact ⟨ret_bool (by simp), below_drewN HB8.out (q9 + qa)⟩

end Go.Proofs.Ythnfghjcmfcghaa
