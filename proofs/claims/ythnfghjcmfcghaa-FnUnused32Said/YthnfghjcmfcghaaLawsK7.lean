/-
  The contract of the laws' function unused, and the walk of the law FnUnused32: it returns true. Conditions: strings and slices hold at most 2 ^ 47 - 4096 bytes.
-/
import Derived.Test.YthnfghjcmfcghaaLawsK
import Derived.Test.YthnfghjcmfcghaaConv
import Derived.Deep.RegionWith
import Derived.BigRegion
namespace Go.Proofs.Ythnfghjcmfcghaa
open Go.RowKit
set_option linter.unusedVariables false

set_option maxHeartbeats 400000 in
theorem unused5_any (n : Nat) (w : World) (hn : n ≤ 140737488351232) :
    Calls Try.prog 22 #[.int .i64 5, .int .i64 (n : Int)] w fun e w' => e = .returned (.int .i64 ((unusN 5 n : Nat) : Int)) ∧ ∃ q, w' = w.drewN q := by
  have HC := Lib.hid (chars5_N n)
  have hc := charsN5_wide n
  have hD : charsN 5 n * 5 = 8 * n + 0 ∨ charsN 5 n * 5 = 8 * n + 1 ∨ charsN 5 n * 5 = 8 * n + 2 ∨ charsN 5 n * 5 = 8 * n + 3 ∨ charsN 5 n * 5 = 8 * n + 4 := by unfold charsN; omega
  have HU : Hid (unusN 5 n = 2 ^ (charsN 5 n * 5 - 8 * n)) := rfl
  generalize unusN 5 n = U at *
  generalize charsN 5 n = N at *
  have h2 : (N : Int) ≤ 281474976710656 := by omega
  clear hc
  rcases hD with hD | hD | hD | hD | hD
  · have e1 : (N : Int) * 5 - 8 * (n : Int) = 0 := by omega
    have HU2 : Hid (U = 2 ^ 0) := by show _ = _; rw [HU.out, show N * 5 - 8 * n = 0 by omega]
    clear hD HU
    go_enter Try.func22, Try.ntmps22
    go_wp2_with fail
    refine (chars5_any (n : Int) _ (by omega) (by omega)).mono ?_
    rintro e w1 ⟨rfl, q, rfl⟩
    rw [HC.out]
    go_wp2
    go_ret
    exact ⟨ret_int (by rw [HU2.out]; rfl), q, rfl⟩
  · have e1 : (N : Int) * 5 - 8 * (n : Int) = 1 := by omega
    have HU2 : Hid (U = 2 ^ 1) := by show _ = _; rw [HU.out, show N * 5 - 8 * n = 1 by omega]
    clear hD HU
    go_enter Try.func22, Try.ntmps22
    go_wp2_with fail
    refine (chars5_any (n : Int) _ (by omega) (by omega)).mono ?_
    rintro e w1 ⟨rfl, q, rfl⟩
    rw [HC.out]
    go_wp2
    go_ret
    exact ⟨ret_int (by rw [HU2.out]; rfl), q, rfl⟩
  · have e1 : (N : Int) * 5 - 8 * (n : Int) = 2 := by omega
    have HU2 : Hid (U = 2 ^ 2) := by show _ = _; rw [HU.out, show N * 5 - 8 * n = 2 by omega]
    clear hD HU
    go_enter Try.func22, Try.ntmps22
    go_wp2_with fail
    refine (chars5_any (n : Int) _ (by omega) (by omega)).mono ?_
    rintro e w1 ⟨rfl, q, rfl⟩
    rw [HC.out]
    go_wp2
    go_ret
    exact ⟨ret_int (by rw [HU2.out]; rfl), q, rfl⟩
  · have e1 : (N : Int) * 5 - 8 * (n : Int) = 3 := by omega
    have HU2 : Hid (U = 2 ^ 3) := by show _ = _; rw [HU.out, show N * 5 - 8 * n = 3 by omega]
    clear hD HU
    go_enter Try.func22, Try.ntmps22
    go_wp2_with fail
    refine (chars5_any (n : Int) _ (by omega) (by omega)).mono ?_
    rintro e w1 ⟨rfl, q, rfl⟩
    rw [HC.out]
    go_wp2
    go_ret
    exact ⟨ret_int (by rw [HU2.out]; rfl), q, rfl⟩
  · have e1 : (N : Int) * 5 - 8 * (n : Int) = 4 := by omega
    have HU2 : Hid (U = 2 ^ 4) := by show _ = _; rw [HU.out, show N * 5 - 8 * n = 4 by omega]
    clear hD HU
    go_enter Try.func22, Try.ntmps22
    go_wp2_with fail
    refine (chars5_any (n : Int) _ (by omega) (by omega)).mono ?_
    rintro e w1 ⟨rfl, q, rfl⟩
    rw [HC.out]
    go_wp2
    go_ret
    exact ⟨ret_int (by rw [HU2.out]; rfl), q, rfl⟩

set_option maxHeartbeats 1000000 in
set_option maxRecDepth 100000 in
theorem law_FnUnused32 (s : ByteArray) (p : Int) (v : Value) (l : List UInt8) (kI : Int) (w : World) (hs : s.size ≤ 140737488351232) (_ : (Lit.int .i64 p).wf = true) (hb : Bys w v l) (hl : l.length ≤ 140737488351232) (_ : (Lit.int .i64 kI).wf = true) :
    Calls Try.prog 9 #[.string s, .int .i64 p, v, .int .i64 kI] w fun e w' => e = .returned (.bool true) ∧ Below w.heap.size w w' := by
  have HS : Hid (s.size ≤ maxLen) := by show _ ≤ _; unfold maxLen; omega
  clear hs
  have HY := Lib.hid hb
  obtain ⟨A1, c1, rfl, hc1, hcm1, _⟩ := hb
  unfold maxLen at hcm1
  cases hv : validB 5 s.data.toList p
  · have HV := Lib.hid hv
    clear hv
    go_enter Try.func9, Try.ntmps9
    go_wp2_with fail
    refine (valid5_any s p _ HS.out).mono ?_
    rintro e w1 ⟨rfl, rfl⟩
    rw [HV.out]
    go_wp2
    go_ret
    exact ⟨rfl, (Below.refl _ _)⟩
  have HV := Lib.hid hv
  have HVP := Lib.hid (validB_true hv)
  clear hv
  have hp1 := HVP.out.2.1
  have hp2 := HVP.out.2.2.1
  cases hcl : cleanB p s.data.toList (⟨#[]⟩ : ByteArray).data.toList
  · have HCL := Lib.hid hcl
    clear hcl
    go_enter Try.func9, Try.ntmps9
    go_wp2_with fail
    refine (valid5_any s p _ HS.out).mono ?_
    rintro e w1 ⟨rfl, rfl⟩
    rw [HV.out]
    go_wp2_with fail
    refine (clean32_any p s ⟨#[]⟩ _ HS.out (Nat.zero_le _)).mono ?_
    rintro e wc ⟨rfl, rfl⟩
    rw [HCL.out]
    go_wp2
    go_ret
    exact ⟨rfl, (Below.refl _ _)⟩
  have HCL := Lib.hid hcl
  have HCN : Hid (CleanA s.data.toList p) := cleanB_a hcl
  clear hcl
  by_cases hk0 : kI < 1
  · go_enter Try.func9, Try.ntmps9
    go_wp2_with fail
    refine (valid5_any s p _ HS.out).mono ?_
    rintro e w1 ⟨rfl, rfl⟩
    rw [HV.out]
    go_wp2_with fail
    refine (clean32_any p s ⟨#[]⟩ _ HS.out (Nat.zero_le _)).mono ?_
    rintro e wc ⟨rfl, rfl⟩
    rw [HCL.out]
    go_wp2
    go_ret
    exact ⟨rfl, (Below.refl _ _)⟩
  obtain ⟨k, rfl⟩ : ∃ k : Nat, kI = (k : Int) := ⟨kI.toNat, by omega⟩
  have hkd : decide ((k : Int) < 1) = false := by rw [decide_eq_false_iff_not]; exact hk0
  by_cases hk1 : unusN 5 l.length ≤ k
  · have hkd2 : decide (((unusN 5 l.length : Nat) : Int) ≤ (k : Int)) = true := by rw [decide_eq_true_iff]; omega
    go_enter Try.func9, Try.ntmps9
    go_wp2_with fail
    refine (valid5_any s p _ HS.out).mono ?_
    rintro e w1 ⟨rfl, rfl⟩
    rw [HV.out]
    go_wp2_with fail
    refine (clean32_any p s ⟨#[]⟩ _ HS.out (Nat.zero_le _)).mono ?_
    rintro e wc ⟨rfl, rfl⟩
    rw [HCL.out]
    go_wp2_with fail
    refine (unused5_any l.length _ hl).mono ?_
    rintro e w4 ⟨rfl, q, rfl⟩
    go_wp2
    go_ret
    exact ⟨rfl, below_drewN (Below.refl _ _) q⟩
  have hkd2 : decide (unusN 5 l.length ≤ k) = false := by rw [decide_eq_false_iff_not]; omega
  obtain ⟨vv, hvk, hvt, hcp, hst, hfi, hun, hrs⟩ := text5_bent HVP.out l k (by omega) (by omega)
  obtain ⟨t, HT, ht⟩ := strIs_mk (textOf 5 s.data.toList p l)
  have HTN := Lib.hid ht
  have HTD : Hid (t.data.toList = textOf 5 s.data.toList p l) := HT
  have hfa := lenN5_facts p l.length
  have hcw := charsN5_wide l.length
  have HTS : Hid (t.size = lenN 5 p l.length) := by show _ = _; rw [HT.size, textOf_length5]
  have hts : 5 * t.size ≤ 8 * l.length + 50 := by have := HTS.out; omega
  have HLN : Hid (lenOf 5 p (l.length : Int) = (t.size : Int)) := by show _ = _; rw [lenOf5_N, HTS.out]
  have HCI := Lib.hid (chars5_N l.length)
  clear HT ht
  obtain ⟨N, hN⟩ : ∃ N, N = charsN 5 l.length := ⟨_, rfl⟩
  rw [← hN] at hfa hcw HCI hvt hcp hst hfi hun hrs
  clear hN
  obtain ⟨last, hlast⟩ : ∃ last, last = N - 1 := ⟨_, rfl⟩
  rw [← hlast] at hvt hst hfi hun hrs
  have hla1 : last < N := by omega
  have hla2 : (N : Int) - 1 = (last : Int) := by omega
  have hlz : s.size = 32 := by have := HVP.out.1; simpa using this
  have hsz1 : 32 ≤ s.size := by omega
  have hlat : ∀ x, x < 32 → ∃ c : UInt8, letter s.data.toList x = c ∧ s.data.toList[x]? = some c := fun x hx => by
    refine ⟨_, rfl, ?_⟩
    rw [letter_at s.data.toList x (by rw [HVP.out.1]; exact hx)]
    exact List.getElem?_eq_getElem _
  obtain ⟨cl, hcl, hcl2⟩ := hlat vv (by omega)
  obtain ⟨cn, hcn, hcn2⟩ := hlat (vv + k) hvk
  have hix : idx s.data.toList (cl.toNat : Int) = (vv : Int) := by rw [← hcl]; exact idx_letter5 HVP.out vv (by omega)
  rw [hcn] at hst hfi hun hrs
  rw [hcl] at hvt
  obtain ⟨u, HU, hu⟩ := strIs_mk (t.data.toList.set last cn)
  have HUN := Lib.hid hu
  have HUD : Hid (u.data.toList = (textOf 5 s.data.toList p l).set last cn) := by show _ = _; rw [← HTD.out]; exact HU
  have hkt : last < t.size := by have := HTS.out; omega
  have HN0 : Hid (dec32 s.data.toList p u.data.toList = (l, none)) := by
    show _ = _
    rw [dec32_fine HVP.out HCN.out u.data.toList (by rw [HUD.out, hst]; exact hfi), HUD.out, hst, hun]
  have HE1 : Hid (u.size ≤ 281474976710656) := by
    show _ ≤ _
    have h5 := size_data t
    rw [size_data, HUD.out, List.length_set, textOf_length5]
    have := HTS.out
    omega
  have HIX := Lib.hid hix
  have hTk : Hid (t.data.toList[last]? = some cl) := by show _ = _; rw [HTD.out]; exact hvt
  have hsn : vv + k < s.size := by omega
  have HSN : Hid (s[vv + k] = cn) := by
    show _ = _
    have : s.data.toList[vv + k]? = some s[vv + k] := by rw [List.getElem?_eq_getElem (by simpa using hsn)]; rfl
    rw [this] at hcn2
    simpa using hcn2
  have hb1 := cl.toNat_lt
  have hb2 := cn.toNat_lt
  clear HU hu hst hfi hun hrs hvt hlast hlat hcl hcl2 hcn hcn2 hix hlz hfa hk0 hk1
  go_enter Try.func9, Try.ntmps9
  go_wp2_with fail
  refine (valid5_any s p _ HS.out).mono ?_
  rintro e w1 ⟨rfl, rfl⟩
  rw [HV.out]
  go_wp2_with fail
  refine (clean32_any p s ⟨#[]⟩ _ HS.out (Nat.zero_le _)).mono ?_
  rintro e wc ⟨rfl, rfl⟩
  rw [HCL.out]
  go_wp2_with fail
  refine (unused5_any l.length _ hl).mono ?_
  rintro e w4 ⟨rfl, q, rfl⟩
  go_wp2_with fail
  refine (text5_any s p _ l _ HVP.out (HY.out.below (below_drewN (Below.refl _ w) q)) (by omega)).mono ?_
  rintro e w3 ⟨rfl, hb3⟩
  rw [HTN.out]
  have HB3 : Hid (Below w.heap.size w w3) := (below_drewN (Below.refl _ w) q).trans hb3
  clear hb3
  obtain ⟨c4, w4, hc41, hc42, hcv, HB4, _, HZ4, HC4⟩ := conv_bys (P := Try.prog) w3 9 22 5 t Try.underlying9 Try.underlying22 Try.underlying5 (by omega)
  go_wp2_with fail
  refine (chars5_any (l.length : Int) _ (by omega) (by omega)).mono ?_
  rintro e w5 ⟨rfl, q5, rfl⟩
  rw [HCI.out]
  have HC5 : Hid (∃ cs, Blm (w4.drewN q5) w3.heap.size 5 cs ∧ cs.length = c4 ∧ cs.take t.size = Lib.byteCells t.data.toList) := HC4.out
  obtain ⟨⟨x4, hx4, hset⟩, hfro, hby5⟩ := conv_set HC5.out last hkt hc41 hc42 cn
  obtain rfl : cl = x4 := by have := hTk.out; rw [hx4] at this; simpa using this.symm
  have hcv5 := run_to_string (P := Try.prog) 22 5 9 Try.underlying22 Try.underlying5 Try.underlying9 _ _ hby5
  rw [HUN.out] at hcv5
  have HB5 : Hid (Below w.heap.size w ((w4.drewN q5).setCell ⟨w3.heap.size, last, none⟩ (.int .u8 (cn.toNat : Int)))) := ((HB3.out.trans (HB4.out.mono HB3.out.size)).trans (below_drewN (Below.refl _ w4) q5 |>.mono (Nat.le_trans HB3.out.size HB4.out.size))).setCell HB3.out.size _
  have HBY5 := Lib.hid hby5
  clear hby5 hx4
  unfold maxLen at hc42
  go_wp2_with fail
  refine (index_any s (cl.toNat : Int) _ HS.out).mono ?_
  rintro e w6 ⟨rfl, rfl⟩
  rw [HIX.out]
  have zs : ((vv : Int) + (k : Int)).toNat = vv + k := by omega
  have zn := HSN.out
  go_wp2_with fail
  refine (decode32_ok s p u l _ HVP.out HE1.out HN0.out).mono ?_
  rintro e w7 ⟨g7, c7, rfl, hy7, hb7⟩
  have HY7 := Lib.hid hy7
  have HB7 := Lib.hid (below_trans' HB5.out hb7)
  clear hy7 hb7 HB5 hcv hcv5 hset hfro zn zs HBY5
  go_wp2_with fail
  refine (same_any _ _ l l _ HY7.out (HY.out.below HB7.out)).mono ?_
  rintro e w9 ⟨rfl, q9, rfl⟩
  go_wp2
  go_ret
  exact ⟨ret_bool (by simp), below_drewN HB7.out q9⟩

end Go.Proofs.Ythnfghjcmfcghaa
