/-
  The walks of the laws Round32, Beginnings32 and Canonical32: each returns true. Conditions: strings and slices hold at most 2 ^ 47 - 4096 bytes.
-/
import Derived.Test.YtanebcdhjkpnjaaLawsK
import Derived.Test.YtanebcdhjkpnjaaOctW
import Derived.Test.YtanebcdhjkpnjaaE32S
namespace Go.Proofs.Ytanebcdhjkpnjaa
open Go.RowKit
set_option linter.unusedVariables false

theorem encLen32_fiveR (p : Int) : encLen32 p 5 = 8 := by unfold encLen32; split <;> rfl

set_option maxHeartbeats 1000000 in
set_option maxRecDepth 100000 in
theorem law_FnRound32 (s : ByteArray) (p : Int) (v : Value) (l : List UInt8) (w : World) (hs : s.size ≤ 140737488351232) (_ : (Lit.int .i64 p).wf = true) (hb : Bys w v l) (hl : l.length ≤ 140737488351232) :
    Calls Try.prog 9 #[.string s, .int .i64 p, v] w fun e w' => e = .returned (.bool true) ∧ Below w.heap.size w w' := by
  have HS : Hid (s.size ≤ maxLen) := by show _ ≤ _; unfold maxLen; omega
  clear hs
  have HY := Lib.hid hb
  obtain ⟨A1, c1, rfl, hc1, hcm1, _⟩ := hb
  unfold maxLen at hcm1
  cases hv : validB 5 s.data.toList p
  · have HV := Lib.hid hv
    clear hv
    go_enter Try.func9, Try.ntmps9
    go_wp2_with fail
    refine (valid5_any s p _ HS.out).mono ?_
    rintro e w1 ⟨rfl, rfl⟩
    rw [HV.out]
    go_wp2
    go_ret
    exact ⟨rfl, Below.refl _ _⟩
  have HV := Lib.hid hv
  have HVP := Lib.hid (validB_true hv)
  have hp1 := HVP.out.2.1
  clear hv
  cases hcl : cleanB p s.data.toList (⟨#[]⟩ : ByteArray).data.toList
  · have HCL := Lib.hid hcl
    clear hcl
    go_enter Try.func9, Try.ntmps9
    go_wp2_with fail
    refine (valid5_any s p _ HS.out).mono ?_
    rintro e w1 ⟨rfl, rfl⟩
    rw [HV.out]
    go_wp2_with fail
    refine (clean32_any p s ⟨#[]⟩ _ HS.out (Nat.zero_le _)).mono ?_
    rintro e w1 ⟨rfl, rfl⟩
    rw [HCL.out]
    go_wp2
    go_ret
    exact ⟨rfl, Below.refl _ _⟩
  have HCL := Lib.hid hcl
  have HCN : Hid (CleanA s.data.toList p) := cleanB_a hcl
  clear hcl
  obtain ⟨u, HU, hu⟩ := strIs_mk (textOf 5 s.data.toList p l)
  have HUN := Lib.hid hu
  have HUD : Hid (u.data.toList = textOf 5 s.data.toList p l) := HU
  have hfa := lenN5_facts p l.length
  have hcw := charsN5_wide l.length
  have hsz : u.size ≤ 281474976710656 := by rw [HU.size, textOf_length5]; omega
  have HDE : Hid (dec32 s.data.toList p u.data.toList = (l, none)) := dec_text5 HVP.out HCN.out _ _ (by rw [HUD.out]; exact text5_stripped HVP.out l _ (fun c hc => Or.inl hc))
  clear HU hu hfa hcw
  go_enter Try.func9, Try.ntmps9
  go_wp2_with fail
  refine (valid5_any s p _ HS.out).mono ?_
  rintro e w1 ⟨rfl, rfl⟩
  rw [HV.out]
  go_wp2_with fail
  refine (clean32_any p s ⟨#[]⟩ _ HS.out (Nat.zero_le _)).mono ?_
  rintro e w1 ⟨rfl, rfl⟩
  rw [HCL.out]
  go_wp2_with fail
  refine (encode32I s p _ l _ HVP.out HY.out hl).mono ?_
  rintro e w2 ⟨rfl, hb2⟩
  rw [HUN.out]
  have HB2 := Lib.hid hb2
  clear hb2
  go_wp2_with fail
  refine (decode32_ok s p u l _ HVP.out hsz HDE.out).mono ?_
  rintro e w3 ⟨g3, c3, rfl, hy3, hb3⟩
  have HY3 := Lib.hid hy3
  have HB3 := Lib.hid (below_trans' HB2.out hb3)
  clear hy3 hb3 HB2
  go_wp2_with fail
  refine (same_any _ _ l l _ HY3.out (HY.out.below HB3.out)).mono ?_
  rintro e w4 ⟨rfl, q4, rfl⟩
  go_wp2
  go_ret
  exact ⟨ret_bool (by simp), below_drewN HB3.out q4⟩

set_option maxHeartbeats 1000000 in
set_option maxRecDepth 100000 in
theorem law_FnBeginnings32 (s : ByteArray) (p : Int) (v : Value) (l : List UInt8) (kI : Int) (w : World) (hs : s.size ≤ 140737488351232) (_ : (Lit.int .i64 p).wf = true) (hb : Bys w v l) (hl : l.length ≤ 140737488351232) (_ : (Lit.int .i64 kI).wf = true) :
    Calls Try.prog 8 #[.string s, .int .i64 p, v, .int .i64 kI] w fun e w' => e = .returned (.bool true) ∧ Below w.heap.size w w' := by
  have HS : Hid (s.size ≤ maxLen) := by show _ ≤ _; unfold maxLen; omega
  clear hs
  have HY := Lib.hid hb
  obtain ⟨A1, c1, rfl, hc1, hcm1, _⟩ := hb
  unfold maxLen at hcm1
  cases hv : validB 5 s.data.toList p
  · have HV := Lib.hid hv
    clear hv
    go_enter Try.func8, Try.ntmps8
    go_wp2_with fail
    refine (valid5_any s p _ HS.out).mono ?_
    rintro e w1 ⟨rfl, rfl⟩
    rw [HV.out]
    go_wp2
    go_ret
    exact ⟨rfl, Below.refl _ _⟩
  have HV := Lib.hid hv
  have HVP := Lib.hid (validB_true hv)
  have hp1 := HVP.out.2.1
  clear hv
  cases hcl : cleanB p s.data.toList (⟨#[]⟩ : ByteArray).data.toList
  · have HCL := Lib.hid hcl
    clear hcl
    go_enter Try.func8, Try.ntmps8
    go_wp2_with fail
    refine (valid5_any s p _ HS.out).mono ?_
    rintro e w1 ⟨rfl, rfl⟩
    rw [HV.out]
    go_wp2_with fail
    refine (clean32_any p s ⟨#[]⟩ _ HS.out (Nat.zero_le _)).mono ?_
    rintro e w1 ⟨rfl, rfl⟩
    rw [HCL.out]
    go_wp2
    go_ret
    exact ⟨rfl, Below.refl _ _⟩
  have HCL := Lib.hid hcl
  have HCN : Hid (CleanA s.data.toList p) := cleanB_a hcl
  clear hcl
  by_cases hk0 : kI < 0
  · go_enter Try.func8, Try.ntmps8
    go_wp2_with fail
    refine (valid5_any s p _ HS.out).mono ?_
    rintro e w1 ⟨rfl, rfl⟩
    rw [HV.out]
    go_wp2_with fail
    refine (clean32_any p s ⟨#[]⟩ _ HS.out (Nat.zero_le _)).mono ?_
    rintro e w1 ⟨rfl, rfl⟩
    rw [HCL.out]
    go_wp2
    go_ret
    exact ⟨rfl, Below.refl _ _⟩
  by_cases hk1 : (l.length : Int) / 5 < kI
  · go_enter Try.func8, Try.ntmps8
    go_wp2_with fail
    refine (valid5_any s p _ HS.out).mono ?_
    rintro e w1 ⟨rfl, rfl⟩
    rw [HV.out]
    go_wp2_with fail
    refine (clean32_any p s ⟨#[]⟩ _ HS.out (Nat.zero_le _)).mono ?_
    rintro e w1 ⟨rfl, rfl⟩
    rw [HCL.out]
    go_wp2
    go_ret
    exact ⟨rfl, Below.refl _ _⟩
  obtain ⟨k, rfl⟩ : ∃ k : Nat, kI = (k : Int) := ⟨kI.toNat, by omega⟩
  have hk3 : 5 * k ≤ l.length := by omega
  have hkc : 5 * k ≤ c1 := by omega
  obtain ⟨u, HU, hu⟩ := strIs_mk (textOf 5 s.data.toList p l)
  have HUN := Lib.hid hu
  have hfa := lenN5_facts p l.length
  have hcw := charsN5_wide l.length
  have hsz : u.size ≤ 281474976710656 := by rw [HU.size, textOf_length5]; omega
  have HTK := text5_take (a := s.data.toList) p l k hk3
  have hlen4 : 8 * k ≤ u.size := by
    have h1 := congrArg List.length HTK
    have hl5 : (l.take (5 * k)).length = 5 * k := by simp; omega
    rw [textOf_length5, List.length_take, ← HU.size, hl5] at h1
    have h2 : 8 * k ≤ lenN 5 p (5 * k) := by
      have := (lenN5_facts p (5 * k)).1
      have h3 : charsN 5 (5 * k) = 8 * k := by unfold charsN; omega
      omega
    omega
  have HDE : Hid (dec32 s.data.toList p (u.extract 0 (8 * k)).data.toList = (l.take (5 * k), none)) := by
    refine dec_text5 HVP.out HCN.out _ _ ?_
    rw [extract0_data, show u.data.toList = _ from HU, HTK]
    exact text5_stripped HVP.out _ _ (fun c hc => Or.inl hc)
  have HES : Hid ((u.extract 0 (8 * k)).size ≤ 281474976710656) := by
    show _ ≤ _
    have h1 : (u.extract 0 (8 * k)).size = (u.extract 0 (8 * k)).data.toList.length := by simp
    rw [h1, extract0_data, List.length_take]
    omega
  have HHD := Lib.hid (HY.out.head (5 * k) hk3)
  have t4 : ((8 : Int) * (k : Int)).toNat = 8 * k := by omega
  have t3 : ((5 : Int) * (k : Int)).toNat = 5 * k := by omega
  clear HU hu HTK hk0 hk1 hfa hcw
  generalize l.take (5 * k) = d at HDE HHD
  go_enter Try.func8, Try.ntmps8
  go_wp2_with fail
  refine (valid5_any s p _ HS.out).mono ?_
  rintro e w1 ⟨rfl, rfl⟩
  rw [HV.out]
  go_wp2_with fail
  refine (clean32_any p s ⟨#[]⟩ _ HS.out (Nat.zero_le _)).mono ?_
  rintro e w1 ⟨rfl, rfl⟩
  rw [HCL.out]
  go_wp2_with fail
  refine (encode32I s p _ l _ HVP.out HY.out hl).mono ?_
  rintro e w2 ⟨rfl, hb2⟩
  rw [HUN.out]
  have HB2 := Lib.hid hb2
  clear hb2
  go_wp2_with fail
  refine (decode32_ok s p (u.extract 0 (8 * k)) d _ HVP.out HES.out HDE.out).mono ?_
  rintro e w3 ⟨g3, c3, rfl, hy3, hb3⟩
  have HY3 := Lib.hid hy3
  have HYl := Lib.hid (HHD.out.below (below_trans' HB2.out hb3))
  have HB3 := Lib.hid (below_trans' HB2.out hb3)
  clear hy3 hb3 HB2
  go_wp2_with fail
  refine (same_any _ _ d d _ HY3.out HYl.out).mono ?_
  rintro e w4 ⟨rfl, q4, rfl⟩
  go_wp2
  go_ret
  exact ⟨ret_bool (by simp), below_drewN HB3.out q4⟩

set_option maxHeartbeats 1000000 in
set_option maxRecDepth 100000 in
theorem law_FnCanonical32 (s : ByteArray) (p : Int) (t : ByteArray) (w : World) (hs : s.size ≤ 140737488351232) (_ : (Lit.int .i64 p).wf = true) (ht : t.size ≤ 140737488351232) :
    Calls Try.prog 10 #[.string s, .int .i64 p, .string t] w fun e w' => e = .returned (.bool true) ∧ Below w.heap.size w w' := by
  have HS : Hid (s.size ≤ maxLen) := by show _ ≤ _; unfold maxLen; omega
  clear hs
  have HTm : Hid (t.size ≤ maxLen) := by show _ ≤ _; unfold maxLen; omega
  cases hv : validB 5 s.data.toList p
  · have HV := Lib.hid hv
    clear hv
    go_enter Try.func10, Try.ntmps10
    go_wp2_with fail
    refine (valid5_any s p _ HS.out).mono ?_
    rintro e w1 ⟨rfl, rfl⟩
    rw [HV.out]
    go_wp2
    go_ret
    exact ⟨rfl, Below.refl _ _⟩
  have HV := Lib.hid hv
  have HVP := Lib.hid (validB_true hv)
  have hp1 := HVP.out.2.1
  clear hv
  cases hcl : cleanB p s.data.toList t.data.toList
  · have HCL := Lib.hid hcl
    clear hcl
    go_enter Try.func10, Try.ntmps10
    go_wp2_with fail
    refine (valid5_any s p _ HS.out).mono ?_
    rintro e w1 ⟨rfl, rfl⟩
    rw [HV.out]
    go_wp2_with fail
    refine (clean32_any p s t _ HS.out HTm.out).mono ?_
    rintro e w1 ⟨rfl, rfl⟩
    rw [HCL.out]
    go_wp2
    go_ret
    exact ⟨rfl, Below.refl _ _⟩
  have HCL := Lib.hid hcl
  have HCN : Hid (CleanA s.data.toList p) := cleanB_a hcl
  have HCT := Lib.hid (cleanB_b hcl)
  clear hcl
  have HE8 := Lib.hid (encLen32_fiveR p)
  have hL : t.data.toList.length = t.size := by simp
  have hle := dec32_room s.data.toList p t.data.toList
  have hrs := roomN5_small p t.data.toList.length
  rw [hL] at hle hrs
  clear hL
  cases hFB : fineB 5 s.data.toList p (strip t.data.toList)
  · have HFB := Lib.hid hFB
    clear hFB
    go_enter Try.func10, Try.ntmps10
    go_wp2_with fail
    refine (valid5_any s p _ HS.out).mono ?_
    rintro e w1 ⟨rfl, rfl⟩
    rw [HV.out]
    go_wp2_with fail
    refine (clean32_any p s t _ HS.out HTm.out).mono ?_
    rintro e w1 ⟨rfl, rfl⟩
    rw [HCL.out]
    go_wp2_with fail
    refine (decode32I s p t _ HVP.out (by omega)).mono ?_
    rintro e w2 ⟨g2, c2, rfl, hy2, hb2⟩
    have HB2 := Lib.hid hb2
    clear hy2 hb2
    go_wp2_with fail
    refine (decoded5_any s t p _ HVP.out (by omega)).mono ?_
    rintro e w3 ⟨v3, rfl, hy3, hb3⟩
    have HB3 := Lib.hid (below_trans' HB2.out hb3)
    clear hy3 hb3 HB2
    rw [HFB.out]
    simp only [Bool.false_and]
    go_wp2_with fail
    refine (encodedLen32I s p 5 _ HVP.out (by omega) (by omega)).mono ?_
    rintro e wz ⟨rfl, hbz⟩
    rw [HE8.out]
    have HBZ := Lib.hid (below_trans' HB3.out hbz)
    clear hbz
    go_wp2
    go_ret
    exact ⟨ret_bool (by simp), HBZ.out⟩
  have HFB := Lib.hid hFB
  cases hUZ : (unF (numsOf s.data.toList (strip t.data.toList)) == 0)
  · have HUZ := Lib.hid hUZ
    clear hUZ hFB
    go_enter Try.func10, Try.ntmps10
    go_wp2_with fail
    refine (valid5_any s p _ HS.out).mono ?_
    rintro e w1 ⟨rfl, rfl⟩
    rw [HV.out]
    go_wp2_with fail
    refine (clean32_any p s t _ HS.out HTm.out).mono ?_
    rintro e w1 ⟨rfl, rfl⟩
    rw [HCL.out]
    go_wp2_with fail
    refine (decode32I s p t _ HVP.out (by omega)).mono ?_
    rintro e w2 ⟨g2, c2, rfl, hy2, hb2⟩
    have HB2 := Lib.hid hb2
    clear hy2 hb2
    go_wp2_with fail
    refine (decoded5_any s t p _ HVP.out (by omega)).mono ?_
    rintro e w3 ⟨v3, rfl, hy3, hb3⟩
    have HB3 := Lib.hid (below_trans' HB2.out hb3)
    clear hy3 hb3 HB2
    rw [HFB.out]
    rw [HUZ.out]
    simp only [Bool.and_false]
    go_wp2_with fail
    refine (encodedLen32I s p 5 _ HVP.out (by omega) (by omega)).mono ?_
    rintro e wz ⟨rfl, hbz⟩
    rw [HE8.out]
    have HBZ := Lib.hid (below_trans' HB3.out hbz)
    clear hbz
    go_wp2
    go_ret
    exact ⟨ret_bool (by simp), HBZ.out⟩
  have HUZ := Lib.hid hUZ
  have HDE := Lib.hid (dec32_fine HVP.out HCN.out t.data.toList hFB)
  have HCA := Lib.hid (canon5 HVP.out (strip t.data.toList) hFB (by simpa using hUZ))
  rw [HDE.out] at hle
  simp only at hle
  obtain ⟨u, HU, hu⟩ := strIs_mk (strip t.data.toList)
  have HUN := Lib.hid hu
  clear HU hu hFB hUZ
  generalize unfive (numsOf s.data.toList (strip t.data.toList)) = bs at HDE HCA hle
  go_enter Try.func10, Try.ntmps10
  go_wp2_with fail
  refine (valid5_any s p _ HS.out).mono ?_
  rintro e w1 ⟨rfl, rfl⟩
  rw [HV.out]
  go_wp2_with fail
  refine (clean32_any p s t _ HS.out HTm.out).mono ?_
  rintro e w1 ⟨rfl, rfl⟩
  rw [HCL.out]
  go_wp2_with fail
  refine (decode32_ok s p t bs _ HVP.out (by omega) HDE.out).mono ?_
  rintro e w2 ⟨g2, c2, rfl, hy2, hb2⟩
  have HY2 := Lib.hid hy2
  have HB2 := Lib.hid hb2
  clear hy2 hb2
  go_wp2_with fail
  refine (decoded5_any s t p _ HVP.out (by omega)).mono ?_
  rintro e w3 ⟨v3, rfl, hy3, hb3⟩
  have HY3 := Lib.hid (HY2.out.below hb3)
  have HB3 := Lib.hid (below_trans' HB2.out hb3)
  clear hy3 hb3 HB2 HY2
  rw [HFB.out, HUZ.out]
  simp only [Bool.and_true]
  go_wp2_with fail
  refine (encode32I s p _ bs _ HVP.out HY3.out (by omega)).mono ?_
  rintro e w4 ⟨rfl, hb4⟩
  rw [HCA.out, HUN.out]
  have HB4 := Lib.hid (below_trans' HB3.out hb4)
  clear hb4 HB3
  go_wp2_with fail
  refine (stripped_any t _ (by omega)).mono ?_
  rintro e w5 ⟨rfl, hb5⟩
  rw [HUN.out]
  have HB5 := Lib.hid (below_trans' HB4.out hb5)
  clear hb5 HB4
  go_wp2
  go_ret
  exact ⟨ret_bool (by simp), HB5.out⟩

end Go.Proofs.Ytanebcdhjkpnjaa
