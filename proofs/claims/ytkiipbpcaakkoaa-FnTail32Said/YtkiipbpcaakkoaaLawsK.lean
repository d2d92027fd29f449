/-
  The walks of the laws Newlines32 and Fits32. Conditions: strings and slices hold at most 2 ^ 47 - 4096 bytes.
-/
import Derived.Test.YtkiipbpcaakkoaaSpecE
import Derived.Test.YtkiipbpcaakkoaaLens
import Derived.Test.YtkiipbpcaakkoaaCleanK
import Derived.Deep.RegionWith
import Derived.BigRegion
namespace Go.Proofs.Ytkiipbpcaakkoaa
open Go.RowKit
set_option linter.unusedVariables false

theorem decLen32_room (p : Int) (n : Nat) : decLen32 p (n : Int) = ((roomN5 p n : Nat) : Int) := by
  unfold decLen32 roomN5
  split <;> omega
theorem roomN5_mono (p : Int) (m n : Nat) (h : m ≤ n) : roomN5 p m ≤ roomN5 p n := by unfold roomN5; split <;> omega
theorem dec32_room (a : List UInt8) (p : Int) (s : List UInt8) : (dec32 a p s).1.length ≤ roomN5 p s.length := by
  obtain ⟨h1, h2⟩ := dec32_le a p s
  exact Nat.le_trans h1 (roomN5_mono p _ _ h2)

set_option maxHeartbeats 400000 in
theorem law_FnNewlines32 (s : ByteArray) (p : Int) (v : Value) (l : List UInt8) (kI : Int) (n : ByteArray) (w : World) (hs : s.size ≤ 140737488351232) (_ : (Lit.int .i64 p).wf = true) (hb : Bys w v l) (hl : l.length ≤ 140737488351232) (_ : (Lit.int .i64 kI).wf = true) (hn : n.size ≤ 140737488351232) :
    Calls Try.prog 3 #[.string s, .int .i64 p, v, .int .i64 kI, .string n] w fun e w' => e = .returned (.bool true) ∧ Below w.heap.size w w' := by
  have HS : Hid (s.size ≤ maxLen) := by show _ ≤ _; unfold maxLen; omega
  clear hs
  have HY := Lib.hid hb
  obtain ⟨A1, c1, rfl, hc1, hcm1, _⟩ := hb
  unfold maxLen at hcm1
  cases hv : validB 5 s.data.toList p
  · have HV := Lib.hid hv
    clear hv
    go_enter Try.func3, Try.ntmps3
    go_wp2_with fail
    refine (valid5_any s p _ HS.out).mono ?_
    rintro e w1 ⟨rfl, rfl⟩
    rw [HV.out]
    go_wp2
    go_ret
    exact ⟨rfl, Below.refl _ _⟩
  have HV := Lib.hid hv
  have HVP := Lib.hid (validB_true hv)
  clear hv
  cases hcl : cleanB p s.data.toList (⟨#[]⟩ : ByteArray).data.toList
  · have HCL := Lib.hid hcl
    clear hcl
    go_enter Try.func3, Try.ntmps3
    go_wp2_with fail
    refine (valid5_any s p _ HS.out).mono ?_
    rintro e w1 ⟨rfl, rfl⟩
    rw [HV.out]
    go_wp2_with fail
    refine (clean32_any p s ⟨#[]⟩ _ HS.out (Nat.zero_le _)).mono ?_
    rintro e w1 ⟨rfl, rfl⟩
    rw [HCL.out]
    go_wp2
    go_ret
    exact ⟨rfl, Below.refl _ _⟩
  have HCL := Lib.hid hcl
  have HCN : Hid (CleanA s.data.toList p) := cleanB_a hcl
  clear hcl
  by_cases hk0 : kI < 0
  · go_enter Try.func3, Try.ntmps3
    go_wp2_with fail
    refine (valid5_any s p _ HS.out).mono ?_
    rintro e w1 ⟨rfl, rfl⟩
    rw [HV.out]
    go_wp2_with fail
    refine (clean32_any p s ⟨#[]⟩ _ HS.out (Nat.zero_le _)).mono ?_
    rintro e w1 ⟨rfl, rfl⟩
    rw [HCL.out]
    go_wp2
    go_ret
    exact ⟨rfl, Below.refl _ _⟩
  obtain ⟨k, rfl⟩ : ∃ k : Nat, kI = (k : Int) := ⟨kI.toNat, by omega⟩
  clear hk0
  obtain ⟨t, HT, ht⟩ := strIs_mk (textOf 5 s.data.toList p l)
  have HTN := Lib.hid ht
  have HTD : Hid (t.data.toList = textOf 5 s.data.toList p l) := HT
  have hts : t.size ≤ 2 * l.length + 8 := by rw [HT.size, textOf_length5]; exact (lenN5_facts p l.length).2.2.2.2
  have HLN : Hid (lenOf 5 p (l.length : Int) = (t.size : Int)) := by show _ = _; rw [lenOf5_N, HT.size, textOf_length5]
  clear HT ht
  by_cases hk1 : t.size < k
  · go_enter Try.func3, Try.ntmps3
    go_wp2_with fail
    refine (valid5_any s p _ HS.out).mono ?_
    rintro e w1 ⟨rfl, rfl⟩
    rw [HV.out]
    go_wp2_with fail
    refine (clean32_any p s ⟨#[]⟩ _ HS.out (Nat.zero_le _)).mono ?_
    rintro e w1 ⟨rfl, rfl⟩
    rw [HCL.out]
    go_wp2_with fail
    refine (length5_any p (l.length : Int) _ (by omega) (by omega)).mono ?_
    rintro e w4 ⟨rfl, q, rfl⟩
    rw [HLN.out]
    go_wp2
    go_ret
    exact ⟨rfl, below_drewN (Below.refl _ _) q⟩
  obtain ⟨u, HU, hu⟩ := strIs_mk (strip n.data.toList)
  have HUN := Lib.hid hu
  have HUD : Hid (u.data.toList = strip n.data.toList) := HU
  clear HU hu
  by_cases hst : strip n.data.toList = []
  · have HST := Lib.hid hst
    have hu0 : u = ⟨#[]⟩ := str_ext (by rw [HUD.out, hst])
    have HU0 := Lib.hid hu0
    clear hst hu0
    have HDE : Hid (dec32 s.data.toList p (t.extract 0 k ++ n ++ t.extract k t.size).data.toList = (l, none)) := by
      refine dec_text5 HVP.out HCN.out _ _ ?_
      rw [append_data, append_data, extract0_data, extract_tail_data, HTD.out]
      exact text5_lines HVP.out l k _ HST.out
    have HES : Hid ((t.extract 0 k ++ n ++ t.extract k t.size).size ≤ 1125899906842624) := by
      show _ ≤ _
      have hts2 := size_data t
      have hns2 := size_data n
      rw [size_data, append_data, append_data, extract0_data, extract_tail_data]
      simp only [List.length_append, List.length_take, List.length_drop]
      omega
    go_enter Try.func3, Try.ntmps3
    go_wp2_with fail
    refine (valid5_any s p _ HS.out).mono ?_
    rintro e w1 ⟨rfl, rfl⟩
    rw [HV.out]
    go_wp2_with fail
    refine (clean32_any p s ⟨#[]⟩ _ HS.out (Nat.zero_le _)).mono ?_
    rintro e w1 ⟨rfl, rfl⟩
    rw [HCL.out]
    go_wp2_with fail
    refine (length5_any p (l.length : Int) _ (by omega) (by omega)).mono ?_
    rintro e w4 ⟨rfl, q, rfl⟩
    rw [HLN.out]
    go_wp2_with fail
    refine (stripped_any n _ (by omega)).mono ?_
    rintro e w2 ⟨rfl, hb2⟩
    rw [HUN.out, HU0.out]
    have HB2 : Hid (Below w.heap.size w w2) := (below_drewN (Below.refl _ w) q).trans hb2
    clear hb2
    go_wp2_with fail
    refine (text5_any s p _ l _ HVP.out (HY.out.below HB2.out) (by omega)).mono ?_
    rintro e w3 ⟨rfl, hb3⟩
    rw [HTN.out]
    have HB3 := Lib.hid (below_trans' HB2.out hb3)
    clear hb3 HB2
    have z1 : (k : Int) ≤ (t.size : Int) := by omega
    have z0 : (0 : Int) ≤ (k : Int) := by omega
    go_wp2_with fail
    go_region_with (first
      | (go_at_call 12; refine (decode32_okW s p (t.extract 0 k ++ n ++ t.extract k t.size) l _ HVP.out HES.out HDE.out).mono ?_; rintro e w5 ⟨g5, c5, rfl, hy5, hb5⟩))
    have HY5 := Lib.hid hy5
    have HYl := Lib.hid (HY.out.below (below_trans' HB3.out.drew hb5))
    have HB5 := Lib.hid (below_trans' HB3.out.drew hb5)
    clear hy5 hb5 HB3
    go_wp2_with fail
    refine (same_any _ _ l l _ HY5.out HYl.out).mono ?_
    rintro e w6 ⟨rfl, q6, rfl⟩
    go_wp2
    go_ret
    exact ⟨ret_bool (by simp), below_drewN HB5.out q6⟩
  · have hu0 : (!u.toList.isEmpty) = true := by
      rw [Lib.toList_data, HUD.out]
      cases h : strip n.data.toList with
      | nil => exact absurd h hst
      | cons _ _ => rfl
    clear hst
    go_enter Try.func3, Try.ntmps3
    go_wp2_with fail
    refine (valid5_any s p _ HS.out).mono ?_
    rintro e w1 ⟨rfl, rfl⟩
    rw [HV.out]
    go_wp2_with fail
    refine (clean32_any p s ⟨#[]⟩ _ HS.out (Nat.zero_le _)).mono ?_
    rintro e w1 ⟨rfl, rfl⟩
    rw [HCL.out]
    go_wp2_with fail
    refine (length5_any p (l.length : Int) _ (by omega) (by omega)).mono ?_
    rintro e w4 ⟨rfl, q, rfl⟩
    rw [HLN.out]
    go_wp2_with fail
    refine (stripped_any n _ (by omega)).mono ?_
    rintro e w2 ⟨rfl, hb2⟩
    rw [HUN.out]
    have HB2 : Hid (Below w.heap.size w w2) := (below_drewN (Below.refl _ w) q).trans hb2
    clear hb2
    go_wp2
    go_ret
    exact ⟨rfl, HB2.out⟩

end Go.Proofs.Ytkiipbpcaakkoaa
