/-
  The contract of the laws' function clean32, of Decode32 on texts that are taken and refused, and the walks of the laws Newlines32 and Fits32. Conditions: strings and slices hold at most 1048576 bytes for the first law, 2 ^ 47 - 4096 bytes for the second one.
-/
import Derived.Test.YthnfghjcmfcghaaLawsH
import Derived.Test.YthnfghjcmfcghaaLawsG2
import Derived.Test.YthnfghjcmfcghaaO32S
import Derived.Test.YthnfghjcmfcghaaOctV
import Derived.Deep.RegionWith
import Derived.BigRegion
namespace Go.Proofs.Ythnfghjcmfcghaa
open Go.RowKit
set_option linter.unusedVariables false

/-- There is padding, or no byte 255 in an alphabet and a text. -/
def cleanB (p : Int) (a s : List UInt8) : Bool := decide (0 ≤ p) || (decide (idx a 255 < 0) && decide (idx s 255 < 0))

theorem cleanB_a {p : Int} {a s : List UInt8} (h : cleanB p a s = true) : CleanA a p := by
  unfold cleanB at h
  simp only [Bool.or_eq_true, Bool.and_eq_true, decide_eq_true_eq] at h
  rcases h with h | h
  · exact Or.inl h
  · exact Or.inr h.1
theorem cleanB_s {p : Int} {a s : List UInt8} (h : cleanB p a s = true) : 0 ≤ p ∨ idx s 255 < 0 := by
  unfold cleanB at h
  simp only [Bool.or_eq_true, Bool.and_eq_true, decide_eq_true_eq] at h
  rcases h with h | h
  · exact Or.inl h
  · exact Or.inr h.2
theorem cleanB_b {p : Int} {a : List UInt8} {s : List UInt8} (h : cleanB p a s = true) : 0 ≤ p ∨ ∀ c ∈ s, c.toNat ≠ 255 := by
  rcases cleanB_s h with h | h
  · exact Or.inl h
  · refine Or.inr (fun c hc e => ?_)
    obtain ⟨j, hj, rfl⟩ := List.getElem_of_mem hc
    have h1 : 0 ≤ idx s 255 := by
      unfold idx
      cases hf : s.findIdx? (fun c => (c.toNat : Int) == 255) with
      | none =>
        rw [List.findIdx?_eq_none_iff] at hf
        have := hf _ hc
        simp at this
        omega
      | some i => simp
    omega

set_option maxHeartbeats 400000 in
theorem clean32_any (p : Int) (a s : ByteArray) (w : World) (ha : a.size ≤ maxLen) (hs : s.size ≤ maxLen) :
    Calls Try.prog 14 #[.int .i64 p, .string a, .string s] w fun e w' => e = .returned (.bool (cleanB p a.data.toList s.data.toList)) ∧ w = w' := by
  have HA := Lib.hid ha
  have HS := Lib.hid hs
  clear ha hs
  by_cases hp : 0 ≤ p
  · go_enter Try.func14, Try.ntmps14
    go_wp2
    go_ret
    exact ⟨ret_bool (by unfold cleanB; simp [hp]), rfl⟩
  · have hpd : decide (0 ≤ p) = false := by simpa using hp
    have HC : Hid (cleanB p a.data.toList s.data.toList = (decide (idx a.data.toList 255 < 0) && decide (idx s.data.toList 255 < 0))) := by show _ = _; unfold cleanB; rw [hpd, Bool.false_or]
    by_cases h1 : idx a.data.toList 255 < 0
    · have h1d : decide (idx a.data.toList 255 < 0) = true := by simpa using h1
      go_enter Try.func14, Try.ntmps14
      go_wp2_with fail
      refine (index_any a 255 _ HA.out).mono ?_
      rintro e w1 ⟨rfl, rfl⟩
      go_wp2_with fail
      refine (index_any s 255 _ HS.out).mono ?_
      rintro e w1 ⟨rfl, rfl⟩
      go_wp2
      go_ret
      exact ⟨ret_bool (by rw [HC.out, h1d, Bool.true_and]), rfl⟩
    · have h1d : decide (idx a.data.toList 255 < 0) = false := by simpa using h1
      go_enter Try.func14, Try.ntmps14
      go_wp2_with fail
      refine (index_any a 255 _ HA.out).mono ?_
      rintro e w1 ⟨rfl, rfl⟩
      go_wp2
      go_ret
      exact ⟨ret_bool (by rw [HC.out, h1d, Bool.false_and]), rfl⟩

theorem decode32_ok (s : ByteArray) (p : Int) (t : ByteArray) (l : List UInt8) (w : World) (hv : validP 5 s.data.toList p) (ht : t.size ≤ 281474976710656) (h : dec32 s.data.toList p t.data.toList = (l, none)) :
    Calls Try.prog 13 #[.string s, .int .i64 p, .string t] w (DecOk l w) := by
  have := decode32I s p t w hv ht
  rw [h] at this
  exact this
theorem decode32_no (s : ByteArray) (p : Int) (t : ByteArray) (l : List UInt8) (n : Int) (w : World) (hv : validP 5 s.data.toList p) (ht : t.size ≤ 281474976710656) (h : dec32 s.data.toList p t.data.toList = (l, some n)) :
    Calls Try.prog 13 #[.string s, .int .i64 p, .string t] w (DecNo l n w) := by
  have := decode32I s p t w hv ht
  rw [h] at this
  exact this

set_option maxHeartbeats 400000 in
theorem room5_any (p : Int) (n : Nat) (w : World) (hp : -1 ≤ p) (hn : n ≤ 1152921504606846976) :
    Calls Try.prog 24 #[.int .i64 5, .int .i64 p, .int .i64 (n : Int)] w fun e w' => e = .returned (.int .i64 ((roomN5 p n : Nat) : Int)) ∧ ∃ q, w' = w.drewN q := by
  have HR : Hid ((((roomN5 p n : Nat) : Int)) = if p < 0 then (n : Int) / 8 * 5 + (n : Int) % 8 * 5 / 8 else (n : Int) / 8 * 5) := by
    show _ = _
    unfold roomN5
    by_cases h : p = -1
    · rw [if_pos h, if_pos (by omega)]; omega
    · rw [if_neg h, if_neg (by omega)]; omega
  by_cases hp0 : p < 0
  · go_enter Try.func24, Try.ntmps24
    go_wp2
    go_ret
    exact ⟨ret_int (by rw [HR.out, if_pos (by omega)]), 0, rfl⟩
  · go_enter Try.func24, Try.ntmps24
    go_wp2
    go_quiet ((go_at_call 29; exact quiet_left' (group5_any _)))
    go_wp2
    go_ret
    exact ⟨ret_int (by rw [HR.out, if_neg (by omega)]), _, rfl⟩

theorem decLen32_room (p : Int) (n : Nat) : decLen32 p (n : Int) = ((roomN5 p n : Nat) : Int) := by
  unfold decLen32 roomN5
  split <;> omega
theorem roomN5_mono (p : Int) (m n : Nat) (h : m ≤ n) : roomN5 p m ≤ roomN5 p n := by unfold roomN5; split <;> omega
theorem dec32_room (a : List UInt8) (p : Int) (s : List UInt8) : (dec32 a p s).1.length ≤ roomN5 p s.length := by
  obtain ⟨h1, h2⟩ := dec32_le a p s
  exact Nat.le_trans h1 (roomN5_mono p _ _ h2)

set_option maxHeartbeats 1000000 in
theorem law_FnFits32 (s : ByteArray) (p : Int) (t : ByteArray) (w : World) (hs : s.size ≤ 140737488351232) (_ : (Lit.int .i64 p).wf = true) (ht : t.size ≤ 140737488351232) :
    Calls Try.prog 10 #[.string s, .int .i64 p, .string t] w fun e w' => e = .returned (.bool true) ∧ Below w.heap.size w w' := by
  have HS : Hid (s.size ≤ maxLen) := by show _ ≤ _; unfold maxLen; omega
  clear hs
  cases hv : validB 5 s.data.toList p
  · have HV := Lib.hid hv
    clear hv
    go_enter Try.func10, Try.ntmps10
    go_wp2_with fail
    refine (valid5_any s p _ HS.out).mono ?_
    rintro e w1 ⟨rfl, rfl⟩
    rw [HV.out]
    go_wp2
    go_ret
    exact ⟨rfl, Below.refl _ _⟩
  have HV := Lib.hid hv
  have HVP := Lib.hid (validB_true hv)
  have hp1 := HVP.out.2.1
  clear hv
  have hL : t.data.toList.length = t.size := by simp
  have hle := dec32_room s.data.toList p t.data.toList
  have hrs := roomN5_small p t.data.toList.length
  rw [hL] at hle hrs
  have HX := Lib.hid (decLen32_room p t.size)
  clear hL
  obtain ⟨M, hM⟩ : ∃ M, M = roomN5 p t.size := ⟨_, rfl⟩
  rw [← hM] at hle hrs HX
  have HM := Lib.hid hM
  clear hM
  have hgd : decide ((dec32 s.data.toList p t.data.toList).1.length ≤ M) = true := by simpa using hle
  go_enter Try.func10, Try.ntmps10
  go_wp2_with fail
  refine (valid5_any s p _ HS.out).mono ?_
  rintro e w1 ⟨rfl, rfl⟩
  rw [HV.out]
  go_wp2_with fail
  refine (decode32I s p t _ HVP.out (by omega)).mono ?_
  rintro e w2 ⟨g2, c2, rfl, hy2, hb2⟩
  have HB2 := Lib.hid hb2
  clear hy2 hb2
  go_wp2_with fail
  refine (decodedLen32I s p (t.size : Int) _ HVP.out (by omega) (by omega)).mono ?_
  rintro e w3 ⟨rfl, hb3⟩
  rw [HX.out]
  have HB3 := Lib.hid (below_trans' HB2.out hb3)
  clear hb3 HB2
  go_wp2_with fail
  refine (room5_any p t.size _ hp1 (by omega)).mono ?_
  rintro e w4 ⟨rfl, q4, rfl⟩
  rw [← HM.out]
  go_wp2
  go_ret
  exact ⟨ret_bool (by simp), below_drewN HB3.out q4⟩

set_option maxHeartbeats 400000 in
theorem law_FnNewlines32 (s : ByteArray) (p : Int) (v : Value) (l : List UInt8) (kI : Int) (n : ByteArray) (w : World) (hs : s.size ≤ 1048576) (_ : (Lit.int .i64 p).wf = true) (hb : Bys w v l) (hl : l.length ≤ 1048576) (_ : (Lit.int .i64 kI).wf = true) (hn : n.size ≤ 1048576) :
    Calls Try.prog 5 #[.string s, .int .i64 p, v, .int .i64 kI, .string n] w fun e w' => e = .returned (.bool true) ∧ Below w.heap.size w w' := by
  have HS : Hid (s.size ≤ maxLen) := by show _ ≤ _; unfold maxLen; omega
  clear hs
  have HY := Lib.hid hb
  obtain ⟨A1, c1, rfl, hc1, hcm1, _⟩ := hb
  unfold maxLen at hcm1
  cases hv : validB 5 s.data.toList p
  · have HV := Lib.hid hv
    clear hv
    go_enter Try.func5, Try.ntmps5
    go_wp2_with fail
    refine (valid5_any s p _ HS.out).mono ?_
    rintro e w1 ⟨rfl, rfl⟩
    rw [HV.out]
    go_wp2
    go_ret
    exact ⟨rfl, Below.refl _ _⟩
  have HV := Lib.hid hv
  have HVP := Lib.hid (validB_true hv)
  clear hv
  cases hcl : cleanB p s.data.toList (⟨#[]⟩ : ByteArray).data.toList
  · have HCL := Lib.hid hcl
    clear hcl
    go_enter Try.func5, Try.ntmps5
    go_wp2_with fail
    refine (valid5_any s p _ HS.out).mono ?_
    rintro e w1 ⟨rfl, rfl⟩
    rw [HV.out]
    go_wp2_with fail
    refine (clean32_any p s ⟨#[]⟩ _ HS.out (Nat.zero_le _)).mono ?_
    rintro e w1 ⟨rfl, rfl⟩
    rw [HCL.out]
    go_wp2
    go_ret
    exact ⟨rfl, Below.refl _ _⟩
  have HCL := Lib.hid hcl
  have HCN : Hid (CleanA s.data.toList p) := cleanB_a hcl
  clear hcl
  by_cases hk0 : kI < 0
  · go_enter Try.func5, Try.ntmps5
    go_wp2_with fail
    refine (valid5_any s p _ HS.out).mono ?_
    rintro e w1 ⟨rfl, rfl⟩
    rw [HV.out]
    go_wp2_with fail
    refine (clean32_any p s ⟨#[]⟩ _ HS.out (Nat.zero_le _)).mono ?_
    rintro e w1 ⟨rfl, rfl⟩
    rw [HCL.out]
    go_wp2
    go_ret
    exact ⟨rfl, Below.refl _ _⟩
  obtain ⟨k, rfl⟩ : ∃ k : Nat, kI = (k : Int) := ⟨kI.toNat, by omega⟩
  clear hk0
  obtain ⟨t, HT, ht⟩ := strIs_mk (textOf 5 s.data.toList p l)
  have HTN := Lib.hid ht
  have HTD : Hid (t.data.toList = textOf 5 s.data.toList p l) := HT
  have hts : t.size ≤ 2 * l.length + 8 := by rw [HT.size, textOf_length5]; exact (lenN5_facts p l.length).2.2.2.2
  have HLN : Hid (lenOf 5 p (l.length : Int) = (t.size : Int)) := by show _ = _; rw [lenOf5_N, HT.size, textOf_length5]
  clear HT ht
  by_cases hk1 : t.size < k
  · go_enter Try.func5, Try.ntmps5
    go_wp2_with fail
    refine (valid5_any s p _ HS.out).mono ?_
    rintro e w1 ⟨rfl, rfl⟩
    rw [HV.out]
    go_wp2_with fail
    refine (clean32_any p s ⟨#[]⟩ _ HS.out (Nat.zero_le _)).mono ?_
    rintro e w1 ⟨rfl, rfl⟩
    rw [HCL.out]
    go_wp2_with fail
    refine (length5_any p (l.length : Int) _ (by omega) (by omega)).mono ?_
    rintro e w4 ⟨rfl, q, rfl⟩
    rw [HLN.out]
    go_wp2
    go_ret
    exact ⟨rfl, below_drewN (Below.refl _ _) q⟩
  obtain ⟨u, HU, hu⟩ := strIs_mk (strip n.data.toList)
  have HUN := Lib.hid hu
  have HUD : Hid (u.data.toList = strip n.data.toList) := HU
  clear HU hu
  by_cases hst : strip n.data.toList = []
  · have HST := Lib.hid hst
    have hu0 : u = ⟨#[]⟩ := str_ext (by rw [HUD.out, hst])
    have HU0 := Lib.hid hu0
    clear hst hu0
    have HDE : Hid (dec32 s.data.toList p (t.extract 0 k ++ n ++ t.extract k t.size).data.toList = (l, none)) := by
      refine dec_text5 HVP.out HCN.out _ _ ?_
      rw [append_data, append_data, extract0_data, extract_tail_data, HTD.out]
      exact text5_lines HVP.out l k _ HST.out
    have HES : Hid ((t.extract 0 k ++ n ++ t.extract k t.size).size ≤ 281474976710656) := by
      show _ ≤ _
      have hts2 := size_data t
      have hns2 := size_data n
      rw [size_data, append_data, append_data, extract0_data, extract_tail_data]
      simp only [List.length_append, List.length_take, List.length_drop]
      omega
    go_enter Try.func5, Try.ntmps5
    go_wp2_with fail
    refine (valid5_any s p _ HS.out).mono ?_
    rintro e w1 ⟨rfl, rfl⟩
    rw [HV.out]
    go_wp2_with fail
    refine (clean32_any p s ⟨#[]⟩ _ HS.out (Nat.zero_le _)).mono ?_
    rintro e w1 ⟨rfl, rfl⟩
    rw [HCL.out]
    go_wp2_with fail
    refine (length5_any p (l.length : Int) _ (by omega) (by omega)).mono ?_
    rintro e w4 ⟨rfl, q, rfl⟩
    rw [HLN.out]
    go_wp2_with fail
    refine (stripped_any n _ (by omega)).mono ?_
    rintro e w2 ⟨rfl, hb2⟩
    rw [HUN.out, HU0.out]
    have HB2 : Hid (Below w.heap.size w w2) := (below_drewN (Below.refl _ w) q).trans hb2
    clear hb2
    go_wp2_with fail
    refine (text5_any s p _ l _ HVP.out (HY.out.below HB2.out) (by omega)).mono ?_
    rintro e w3 ⟨rfl, hb3⟩
    rw [HTN.out]
    have HB3 := Lib.hid (below_trans' HB2.out hb3)
    clear hb3 HB2
    have z1 : (k : Int) ≤ (t.size : Int) := by omega
    have z0 : (0 : Int) ≤ (k : Int) := by omega
    go_wp2_with fail
    go_region_with (first
      | (go_at_call 13; refine (decode32_ok s p (t.extract 0 k ++ n ++ t.extract k t.size) l _ HVP.out HES.out HDE.out).mono ?_; rintro e w5 ⟨g5, c5, rfl, hy5, hb5⟩))
    have HY5 := Lib.hid hy5
    have HYl := Lib.hid (HY.out.below (below_trans' HB3.out.drew hb5))
    have HB5 := Lib.hid (below_trans' HB3.out.drew hb5)
    clear hy5 hb5 HB3
    go_wp2_with fail
    refine (same_any _ _ l l _ HY5.out HYl.out).mono ?_
    rintro e w6 ⟨rfl, q6, rfl⟩
    go_wp2
    go_ret
    exact ⟨ret_bool (by simp), below_drewN HB5.out q6⟩
  · have hu0 : (!u.toList.isEmpty) = true := by
      rw [Lib.toList_data, HUD.out]
      cases h : strip n.data.toList with
      | nil => exact absurd h hst
      | cons _ _ => rfl
    clear hst
    go_enter Try.func5, Try.ntmps5
    go_wp2_with fail
    refine (valid5_any s p _ HS.out).mono ?_
    rintro e w1 ⟨rfl, rfl⟩
    rw [HV.out]
    go_wp2_with fail
    refine (clean32_any p s ⟨#[]⟩ _ HS.out (Nat.zero_le _)).mono ?_
    rintro e w1 ⟨rfl, rfl⟩
    rw [HCL.out]
    go_wp2_with fail
    refine (length5_any p (l.length : Int) _ (by omega) (by omega)).mono ?_
    rintro e w4 ⟨rfl, q, rfl⟩
    rw [HLN.out]
    go_wp2_with fail
    refine (stripped_any n _ (by omega)).mono ?_
    rintro e w2 ⟨rfl, hb2⟩
    rw [HUN.out]
    have HB2 : Hid (Below w.heap.size w w2) := (below_drewN (Below.refl _ w) q).trans hb2
    clear hb2
    go_wp2
    go_ret
    exact ⟨rfl, HB2.out⟩

end Go.Proofs.Ythnfghjcmfcghaa
