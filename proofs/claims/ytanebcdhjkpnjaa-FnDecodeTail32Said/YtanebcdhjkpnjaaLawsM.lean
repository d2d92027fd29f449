/-
  The walk of the law DecodeInto32: it returns true. Conditions: strings and slices hold at most 2 ^ 47 - 4096 bytes.
-/
import Derived.Test.YtanebcdhjkpnjaaLawsK
import Derived.Test.YtanebcdhjkpnjaaO32J
import Derived.IntWalk
namespace Go.Proofs.Ytanebcdhjkpnjaa
open Go.RowKit
set_option linter.unusedVariables false

/-- What is known of a text for base32's decoder: a well formed text is taken, to its bytes. -/
theorem dec32_facts {a : List UInt8} {p : Int} (hv : validP 5 a p) (hc : CleanA a p) (s : List UInt8) (h : fineB 5 a p (strip s) = true) : okOf (dec32 a p s).2 = true ∧ (dec32 a p s).1 = unfive (numsOf a (strip s)) := by
  rw [dec32_fine hv hc s h]
  exact ⟨rfl, rfl⟩

set_option maxHeartbeats 1000000 in
theorem law_FnDecodeInto32 (s : ByteArray) (p : Int) (vd : Value) (d : List UInt8) (t : ByteArray) (w : World) (hs : s.size ≤ 140737488351232) (_ : (Lit.int .i64 p).wf = true) (hbd : Bys w vd d) (hd : d.length ≤ 140737488351232) (ht : t.size ≤ 140737488351232) :
    Calls Try.prog 3 #[.string s, .int .i64 p, vd, .string t] w fun e w' => e = .returned (.bool true) ∧ Below w.heap.size w w' := by
  have HS : Hid (s.size ≤ maxLen) := by show _ ≤ _; unfold maxLen; omega
  have HTm : Hid (t.size ≤ maxLen) := by show _ ≤ _; unfold maxLen; omega
  clear hs
  have HYD := Lib.hid hbd
  obtain ⟨A1, c1, rfl, hc1, hcm1, _⟩ := hbd
  unfold maxLen at hcm1
  cases hv : validB 5 s.data.toList p
  · have HV := Lib.hid hv
    clear hv
    go_enter Try.func3, Try.ntmps3
    go_wp2_with fail
    refine (valid5_any s p _ HS.out).mono ?_
    rintro e w1 ⟨rfl, rfl⟩
    rw [HV.out]
    go_wp2
    go_ret
    exact ⟨rfl, Below.refl _ _⟩
  have HV := Lib.hid hv
  have HVP := Lib.hid (validB_true hv)
  have hp1 := HVP.out.2.1
  clear hv
  cases hcl : cleanB p s.data.toList t.data.toList
  · have HCL := Lib.hid hcl
    clear hcl
    go_enter Try.func3, Try.ntmps3
    go_wp2_with fail
    refine (valid5_any s p _ HS.out).mono ?_
    rintro e w1 ⟨rfl, rfl⟩
    rw [HV.out]
    go_wp2_with fail
    refine (clean32_any p s t _ HS.out HTm.out).mono ?_
    rintro e w1 ⟨rfl, rfl⟩
    rw [HCL.out]
    go_wp2
    go_ret
    exact ⟨rfl, Below.refl _ _⟩
  have HCL := Lib.hid hcl
  have HCN : Hid (CleanA s.data.toList p) := cleanB_a hcl
  clear hcl
  have hL : t.data.toList.length = t.size := by simp
  have HL := Lib.hid hL
  have hle := dec32_room s.data.toList p t.data.toList
  have hrs := roomN5_small p t.data.toList.length
  rw [hL] at hle hrs
  have HF := Lib.hid (dec32_facts HVP.out HCN.out t.data.toList)
  clear hL
  obtain ⟨M, hM⟩ : ∃ M, M = roomN5 p t.size := ⟨_, rfl⟩
  rw [← hM] at hle hrs
  have HM := Lib.hid hM
  clear hM
  by_cases hroom : d.length < M
  · go_enter Try.func3, Try.ntmps3
    go_wp2_with fail
    refine (valid5_any s p _ HS.out).mono ?_
    rintro e w1 ⟨rfl, rfl⟩
    rw [HV.out]
    go_wp2_with fail
    refine (clean32_any p s t _ HS.out HTm.out).mono ?_
    rintro e w1 ⟨rfl, rfl⟩
    rw [HCL.out]
    go_wp2_with fail
    refine (room5_any p t.size _ hp1 (by omega)).mono ?_
    rintro e w2 ⟨rfl, q2, rfl⟩
    rw [← HM.out]
    go_wp2
    go_ret
    exact ⟨rfl, below_drewN (Below.refl _ _) q2⟩
  have hdr : decide (d.length < M) = false := by simpa using hroom
  go_enter Try.func3, Try.ntmps3
  go_wp2_with fail
  refine (valid5_any s p _ HS.out).mono ?_
  rintro e w1 ⟨rfl, rfl⟩
  rw [HV.out]
  go_wp2_with fail
  refine (clean32_any p s t _ HS.out HTm.out).mono ?_
  rintro e w1 ⟨rfl, rfl⟩
  rw [HCL.out]
  go_wp2_with fail
  refine (room5_any p t.size _ hp1 (by omega)).mono ?_
  rintro e w2 ⟨rfl, q2, rfl⟩
  rw [← HM.out]
  obtain ⟨c2, w3, hc21, hc22, hcv, HB3, HY3, _, _⟩ := conv_bys (P := Try.prog) (w.drewN q2) 9 22 5 t Try.underlying9 Try.underlying22 Try.underlying5 (by omega)
  have HBw3 : Hid (Below w.heap.size w w3) := (below_drewN (Below.refl _ w) q2).trans HB3.out
  go_wp2_with fail
  refine (decodeInto32I s p _ d _ t.data.toList _ HVP.out (HYD.out.below HBw3.out) hd HY3.out (by omega) (by rw [HL.out]; omega)).mono ?_
  rintro e w4 ⟨g4, c4, rfl, hy4, hb4⟩
  have HY4 := Lib.hid hy4
  have hc4 : d.length ≤ c4 ∧ c4 ≤ maxLen := by
    obtain ⟨A', c', e, h1, h2, _⟩ := hy4
    simp only [Value.slice.injEq] at e
    obtain ⟨_, h3, rfl⟩ := e
    exact ⟨by omega, h2⟩
  obtain ⟨hc4a, hc4b⟩ := hc4
  unfold maxLen at hc4b
  have HB4 := Lib.hid (below_trans' HBw3.out hb4)
  clear hy4 hb4 hcv HB3 HY3 HBw3
  go_wp2_with fail
  refine (decoded5_any s t p _ HVP.out (by omega)).mono ?_
  rintro e w5 ⟨v5, rfl, hy5, hb5⟩
  have HY5 := Lib.hid hy5
  have HY4' := Lib.hid (HY4.out.below hb5)
  have HB5 := Lib.hid (below_trans' HB4.out hb5)
  clear hy5 hb5 HY4 HB4
  generalize hR : dec32 s.data.toList p t.data.toList = R at *
  generalize hFB : fineB 5 s.data.toList p (strip t.data.toList) = FB at *
  generalize hUZ : (unF (numsOf s.data.toList (strip t.data.toList)) == 0) = UZ at *
  clear hR hFB hUZ
  obtain ⟨bs, err⟩ := R
  simp only at HF hle HY4' ⊢
  generalize okOf err = OK at *
  have hg1 : decide (M < bs.length) = false := by simpa using hle
  go_wp2_with fail
  refine (room5_any p t.size _ hp1 (by omega)).mono ?_
  rintro e w6 ⟨rfl, q6, rfl⟩
  rw [← HM.out]
  cases FB
  · cases OK
    all_goals
      go_wp2
      go_ret
      exact ⟨ret_bool rfl, below_drewN HB5.out q6⟩
  · obtain ⟨hok, hbs⟩ := HF.out rfl
    subst hok
    have HBS := Lib.hid hbs
    clear hbs HF
    have HY5' : Hid (Bys (w5.drewN q6) v5 bs) := by have := HY5.out; rw [if_pos rfl, ← HBS.out] at this; exact this
    have HY6 : Hid (Bys (w5.drewN q6) (.slice (some ⟨g4, 0, none⟩) bs.length c4) bs) := by
      have := HY4'.out.head bs.length (by simp)
      rw [List.take_left] at this
      exact this
    clear HY5 HY4'
    cases UZ
    all_goals
      go_wp2_with fail
      refine (same_any _ _ bs bs _ HY6.out HY5'.out).mono ?_
      rintro e w7 ⟨rfl, q7, rfl⟩
      go_wp2
      go_ret
      exact ⟨ret_bool (by simp), below_drewN HB5.out (q6 + q7)⟩

end Go.Proofs.Ytanebcdhjkpnjaa
