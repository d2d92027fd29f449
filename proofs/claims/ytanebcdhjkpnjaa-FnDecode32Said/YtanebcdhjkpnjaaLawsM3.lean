/-
  The contract of the laws' function behind32, and the walk of the law Decode32: it returns true. Conditions: strings hold at most 2 ^ 47 - 4096 bytes.
-/
import Derived.Test.YtanebcdhjkpnjaaLawsK
import Derived.Test.YtanebcdhjkpnjaaOctW
namespace Go.Proofs.Ytanebcdhjkpnjaa
open Go.RowKit
set_option linter.unusedVariables false

theorem dec32_factsD {a : List UInt8} {p : Int} (hv : validP 5 a p) (hc : CleanA a p) (s : List UInt8) (h : fineB 5 a p (strip s) = true) : okOf (dec32 a p s).2 = true ∧ (dec32 a p s).1 = unfive (numsOf a (strip s)) := by
  rw [dec32_fine hv hc s h]
  exact ⟨rfl, rfl⟩
theorem encLen32_five (p : Int) : encLen32 p 5 = 8 := by unfold encLen32; split <;> rfl

set_option maxHeartbeats 400000 in
theorem behind32_any (p : Int) (t : ByteArray) (w : World) (hp1 : -1 ≤ p) (hp2 : p ≤ 255) (ht : t.size ≤ 140737488351232) :
    Calls Try.prog 20 #[.int .i64 p, .string t] w fun e w' => e = .returned (.bool (behB p t.data.toList)) ∧ w = w' := by
  have HT : Hid (t.size ≤ maxLen) := by show _ ≤ _; unfold maxLen; omega
  have hr := idx_range t.data.toList p
  have hL : t.data.toList.length = t.size := by simp
  rw [hL] at hr
  have HB : Hid (behB p t.data.toList = (decide (0 ≤ p) && (decide (0 ≤ idx t.data.toList p) && decide ((idx t.data.toList p / 8 + 1) * 8 < (t.size : Int))))) := by show _ = _; unfold behB; rw [hL]
  clear hL
  by_cases hp0 : p < 0
  · have HF : Hid (behB p t.data.toList = false) := by show _ = _; rw [HB.out, decide_eq_false (by omega : ¬ 0 ≤ p), Bool.false_and]
    go_enter Try.func20, Try.ntmps20
    go_wp2
    go_ret
    exact ⟨ret_bool HF.out.symm, rfl⟩
  · have HF : Hid (behB p t.data.toList = (decide (0 ≤ idx t.data.toList p) && decide ((idx t.data.toList p / 8 + 1) * 8 < (t.size : Int)))) := by show _ = _; rw [HB.out, decide_eq_true (by omega : 0 ≤ p), Bool.true_and]
    obtain ⟨J, hJ⟩ : ∃ J, J = idx t.data.toList p := ⟨_, rfl⟩
    rw [← hJ] at hr HF
    have HJ := Lib.hid hJ
    clear hJ HB
    by_cases hj : 0 ≤ J
    · have hjd : decide (0 ≤ J) = true := by simpa using hj
      go_enter Try.func20, Try.ntmps20
      go_wp2_with fail
      refine (index_any t p _ HT.out).mono ?_
      rintro e w1 ⟨rfl, rfl⟩
      rw [← HJ.out]
      go_wp2
      go_ret
      exact ⟨ret_bool (by rw [HF.out, hjd, Bool.true_and]), rfl⟩
    · have hjd : decide (0 ≤ J) = false := by simpa using hj
      go_enter Try.func20, Try.ntmps20
      go_wp2_with fail
      refine (index_any t p _ HT.out).mono ?_
      rintro e w1 ⟨rfl, rfl⟩
      rw [← HJ.out]
      go_wp2
      go_ret
      exact ⟨ret_bool (by rw [HF.out, hjd, Bool.false_and]), rfl⟩

set_option maxHeartbeats 1000000 in
set_option maxRecDepth 100000 in
theorem law_FnDecode32 (s : ByteArray) (p : Int) (t : ByteArray) (w : World) (hs : s.size ≤ 140737488351232) (_ : (Lit.int .i64 p).wf = true) (ht : t.size ≤ 140737488351232) :
    Calls Try.prog 5 #[.string s, .int .i64 p, .string t] w fun e w' => e = .returned (.bool true) ∧ Below w.heap.size w w' := by
  have HS : Hid (s.size ≤ maxLen) := by show _ ≤ _; unfold maxLen; omega
  clear hs
  have HTm : Hid (t.size ≤ maxLen) := by show _ ≤ _; unfold maxLen; omega
  cases hv : validB 5 s.data.toList p
  · have HV := Lib.hid hv
    clear hv
    go_enter Try.func5, Try.ntmps5
    go_wp2_with fail
    refine (valid5_any s p _ HS.out).mono ?_
    rintro e w1 ⟨rfl, rfl⟩
    rw [HV.out]
    go_wp2
    go_ret
    exact ⟨rfl, Below.refl _ _⟩
  have HV := Lib.hid hv
  have HVP := Lib.hid (validB_true hv)
  have hp1 := HVP.out.2.1
  clear hv
  cases hcl : cleanB p s.data.toList t.data.toList
  · have HCL := Lib.hid hcl
    clear hcl
    go_enter Try.func5, Try.ntmps5
    go_wp2_with fail
    refine (valid5_any s p _ HS.out).mono ?_
    rintro e w1 ⟨rfl, rfl⟩
    rw [HV.out]
    go_wp2_with fail
    refine (clean32_any p s t _ HS.out HTm.out).mono ?_
    rintro e w1 ⟨rfl, rfl⟩
    rw [HCL.out]
    go_wp2
    go_ret
    exact ⟨rfl, Below.refl _ _⟩
  have HCL := Lib.hid hcl
  have HCN : Hid (CleanA s.data.toList p) := cleanB_a hcl
  have HCT := Lib.hid (cleanB_b hcl)
  clear hcl
  have hp2 := HVP.out.2.2.1
  have HE8 := Lib.hid (encLen32_five p)
  have HF := Lib.hid (dec32_factsD HVP.out HCN.out t.data.toList)
  have HOK0 : Hid (okOf (dec32 s.data.toList p t.data.toList).2 = true → fineB 5 s.data.toList p (strip t.data.toList) = true ∨ (p < 0 ∧ lettersIn s.data.toList (strip t.data.toList) = (strip t.data.toList).length) ∨ behB p (strip t.data.toList) = true) := fun h => dec32_ok HVP.out HCN.out _ HCT.out (by unfold okOf at h; simpa using h)
  obtain ⟨u, HU, hu⟩ := strIs_mk (strip t.data.toList)
  have HUN := Lib.hid hu
  have HUD : Hid (u.data.toList = strip t.data.toList) := HU
  have hus : u.size ≤ t.size := by
    rw [HU.size]
    have := strip_le t.data.toList
    simpa using this
  have HUm : Hid (u.size ≤ maxLen) := by show _ ≤ _; unfold maxLen; omega
  have HUS : Hid ((strip t.data.toList).length = u.size) := HU.size.symm
  clear HU hu
  go_enter Try.func5, Try.ntmps5
  go_wp2_with fail
  refine (valid5_any s p _ HS.out).mono ?_
  rintro e w1 ⟨rfl, rfl⟩
  rw [HV.out]
  go_wp2_with fail
  refine (clean32_any p s t _ HS.out HTm.out).mono ?_
  rintro e w1 ⟨rfl, rfl⟩
  rw [HCL.out]
  go_wp2_with fail
  refine (decode32I s p t _ HVP.out (by omega)).mono ?_
  rintro e w2 ⟨g2, c2, rfl, hy2, hb2⟩
  have HY2 := Lib.hid hy2
  have HB2 := Lib.hid hb2
  clear hy2 hb2
  go_wp2_with fail
  refine (decoded5_any s t p _ HVP.out (by omega)).mono ?_
  rintro e w3 ⟨v3, rfl, hy3, hb3⟩
  have HY3 := Lib.hid hy3
  have HY2' := Lib.hid (HY2.out.below hb3)
  have HB3 := Lib.hid (below_trans' HB2.out hb3)
  clear hy3 hb3 HY2 HB2
  go_wp2_with fail
  refine (stripped_any t _ (by omega)).mono ?_
  rintro e w4 ⟨rfl, hb4⟩
  rw [HUN.out]
  have HY3' := Lib.hid (HY3.out.below hb4)
  have HY2'' := Lib.hid (HY2'.out.below hb4)
  have HB4 := Lib.hid (below_trans' HB3.out hb4)
  clear hb4 HY3 HY2' HB3
  have HLT : Hid (((lettersIn s.data.toList u.data.toList : Nat) : Int) = ((lettersIn s.data.toList (strip t.data.toList) : Nat) : Int)) := by show _ = _; rw [HUD.out]
  have HBH : Hid (behB p u.data.toList = behB p (strip t.data.toList)) := by show _ = _; rw [HUD.out]
  generalize lettersIn s.data.toList (strip t.data.toList) = LT at *
  generalize behB p (strip t.data.toList) = BH at *
  generalize hR : dec32 s.data.toList p t.data.toList = R at *
  generalize hFB : fineB 5 s.data.toList p (strip t.data.toList) = FB at *
  generalize hUZ : (unF (numsOf s.data.toList (strip t.data.toList)) == 0) = UZ at *
  clear hR hFB hUZ
  obtain ⟨bs, err⟩ := R
  simp only at HF HOK0 HY2'' ⊢
  generalize okOf err = OK at *
  have BEH := Lib.hid (fun w0 => behind32_any p u w0 hp1 hp2 (by omega))
  cases FB
  · clear HF
    by_cases hp0 : p < 0
    · by_cases hlt : LT = u.size
      · have hle : ((LT : Int) == (u.size : Int)) = true := by rw [beq_iff_eq]; omega
        go_wp2_with fail
        refine (letters_any s u _ HS.out HUm.out).mono ?_
        rintro e w5 ⟨rfl, rfl⟩
        rw [HLT.out]
        go_wp2_with fail
        refine (encodedLen32I s p 5 _ HVP.out (by omega) (by omega)).mono ?_
        rintro e wz ⟨rfl, hbz⟩
        rw [HE8.out]
        have HBZ := Lib.hid (below_trans' HB4.out hbz)
        clear hbz
        go_wp2
        go_ret
        exact ⟨ret_bool (by simp), HBZ.out⟩
      · have hle : ((LT : Int) == (u.size : Int)) = false := by rw [beq_eq_false_iff_ne]; omega
        have hok : Hid (BH = false → OK = false) := fun hb => by
          cases OK
          · rfl
          · rcases HOK0.out rfl with h | h | h
            · cases h
            · exact absurd (h.2.trans HUS.out) hlt
            · rw [hb] at h; cases h
        go_wp2_with fail
        refine (letters_any s u _ HS.out HUm.out).mono ?_
        rintro e w5 ⟨rfl, rfl⟩
        rw [HLT.out]
        go_wp2_with fail
        refine (BEH.out _).mono ?_
        rintro e w6 ⟨rfl, rfl⟩
        rw [HBH.out]
        cases BH
        · have h0 := hok.out rfl
          subst h0
          go_wp2
          go_ret
          exact ⟨ret_bool rfl, HB4.out⟩
        · go_wp2_with fail
          refine (encodedLen32I s p 5 _ HVP.out (by omega) (by omega)).mono ?_
          rintro e wz ⟨rfl, hbz⟩
          rw [HE8.out]
          have HBZ := Lib.hid (below_trans' HB4.out hbz)
          clear hbz
          go_wp2
          go_ret
          exact ⟨ret_bool (by simp), HBZ.out⟩
    · have hpd : decide (p < 0) = false := by simpa using hp0
      have hok : Hid (BH = false → OK = false) := fun hb => by
        cases OK
        · rfl
        · rcases HOK0.out rfl with h | h | h
          · cases h
          · omega
          · rw [hb] at h; cases h
      go_wp2_with fail
      refine (BEH.out _).mono ?_
      rintro e w6 ⟨rfl, rfl⟩
      rw [HBH.out]
      cases BH
      · have h0 := hok.out rfl
        subst h0
        go_wp2
        go_ret
        exact ⟨ret_bool rfl, HB4.out⟩
      · go_wp2_with fail
        refine (encodedLen32I s p 5 _ HVP.out (by omega) (by omega)).mono ?_
        rintro e wz ⟨rfl, hbz⟩
        rw [HE8.out]
        have HBZ := Lib.hid (below_trans' HB4.out hbz)
        clear hbz
        go_wp2
        go_ret
        exact ⟨ret_bool (by simp), HBZ.out⟩
  · obtain ⟨hok, hbs⟩ := HF.out rfl
    subst hok
    have HY3b : Hid (Bys w4 v3 bs) := by have := HY3'.out; rw [if_pos rfl, ← hbs] at this; exact this
    clear hbs HF HOK0 HY3'
    cases UZ
    · go_wp2_with fail
      refine (encodedLen32I s p 5 _ HVP.out (by omega) (by omega)).mono ?_
      rintro e wz ⟨rfl, hbz⟩
      rw [HE8.out]
      have HBZ := Lib.hid (below_trans' HB4.out hbz)
      clear hbz
      go_wp2
      go_ret
      exact ⟨ret_bool (by simp), HBZ.out⟩
    · go_wp2_with fail
      refine (BEH.out _).mono ?_
      rintro e w6 ⟨rfl, rfl⟩
      rw [HBH.out]
      cases BH
      · go_wp2_with fail
        refine (same_any _ _ bs bs _ HY2''.out HY3b.out).mono ?_
        rintro e w7 ⟨rfl, q7, rfl⟩
        go_wp2
        go_ret
        exact ⟨ret_bool (by simp), below_drewN HB4.out q7⟩
      · go_wp2_with fail
        refine (encodedLen32I s p 5 _ HVP.out (by omega) (by omega)).mono ?_
        rintro e wz ⟨rfl, hbz⟩
        rw [HE8.out]
        have HBZ := Lib.hid (below_trans' HB4.out hbz)
        clear hbz
        go_wp2
        go_ret
        exact ⟨ret_bool (by simp), HBZ.out⟩

end Go.Proofs.Ytanebcdhjkpnjaa
