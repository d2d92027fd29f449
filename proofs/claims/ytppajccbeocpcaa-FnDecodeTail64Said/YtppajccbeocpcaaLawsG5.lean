/-
  The walk of the law DecodeTail64: it returns true. Conditions: strings and slices hold at most 2 ^ 47 - 4096 bytes.
-/
import Derived.Test.YtppajccbeocpcaaLawsG4
namespace Go.Proofs.Ytppajccbeocpcaa
open Go.RowKit
set_option linter.unusedVariables false

set_option maxHeartbeats 1000000 in
theorem law_FnDecodeTail64 (s : ByteArray) (p : Int) (st : Bool) (vd : Value) (d : List UInt8) (t : ByteArray) (w : World) (hs : s.size ≤ 140737488351232) (_ : (Lit.int .i64 p).wf = true) (_ : True) (hbd : Bys w vd d) (hd : d.length ≤ 140737488351232) (ht : t.size ≤ 140737488351232) :
    Calls Try.prog 6 #[.string s, .int .i64 p, .bool st, vd, .string t] w fun e w' => e = .returned (.bool true) ∧ Below w.heap.size w w' := by
  have HS : Hid (s.size ≤ maxLen) := by show _ ≤ _; unfold maxLen; omega
  clear hs
  have HYD := Lib.hid hbd
  obtain ⟨A1, c1, rfl, hc1, hcm1, hA1⟩ := hbd
  have HA1 := Lib.hid hA1
  clear hA1
  unfold maxLen at hcm1
  cases hv : validB 6 s.data.toList p
  · have HV := Lib.hid hv
    clear hv
    go_enter Try.func6, Try.ntmps6
    go_wp2_with fail
    refine (valid6_any s p _ HS.out).mono ?_
    rintro e w1 ⟨rfl, rfl⟩
    rw [HV.out]
    go_wp2
    go_ret
    exact ⟨rfl, Below.refl _ _⟩
  have HV := Lib.hid hv
  have HVP := Lib.hid (validB_true hv)
  have hp1 := HVP.out.2.1
  clear hv
  have hL : t.data.toList.length = t.size := by simp
  have hle := dec_le s.data.toList p st t.data.toList
  have hle0 := dec_le s.data.toList p false t.data.toList
  have hrs := roomN_small p t.data.toList.length
  rw [hL] at hle hle0 hrs
  have HF := Lib.hid (dec_facts HVP.out st t.data.toList)
  clear hL
  obtain ⟨M, hM⟩ : ∃ M, M = roomN p t.size := ⟨_, rfl⟩
  rw [← hM] at hle hle0 hrs
  have HM := Lib.hid hM
  clear hM
  by_cases hroom : d.length < M
  · go_enter Try.func6, Try.ntmps6
    go_wp2_with fail
    refine (valid6_any s p _ HS.out).mono ?_
    rintro e w1 ⟨rfl, rfl⟩
    rw [HV.out]
    go_wp2_with fail
    refine (room6_any p t.size _ hp1 (by omega)).mono ?_
    rintro e w2 ⟨rfl, q2, rfl⟩
    rw [← HM.out]
    go_wp2
    go_ret
    exact ⟨rfl, below_drewN (Below.refl _ _) q2⟩
  have hdr : decide (d.length < M) = false := by simpa using hroom
  go_enter Try.func6, Try.ntmps6
  go_wp2_with fail
  refine (valid6_any s p _ HS.out).mono ?_
  rintro e w1 ⟨rfl, rfl⟩
  rw [HV.out]
  go_wp2_with fail
  refine (room6_any p t.size _ hp1 (by omega)).mono ?_
  rintro e w2 ⟨rfl, q2, rfl⟩
  rw [← HM.out]
  obtain ⟨c2, w3, hc21, hc22, hcv, HB3, HY3, _, _⟩ := conv_bys (P := Try.prog) (w.drewN q2) 9 23 5 t Try.underlying9 Try.underlying23 Try.underlying5 (by omega)
  have HBw3 : Hid (Below w.heap.size w w3) := (below_drewN (Below.refl _ w) q2).trans HB3.out
  go_wp2_with fail
  refine (decodeInto64I s p st _ d _ t.data.toList _ HVP.out (HYD.out.below HBw3.out) hd HY3.out (by omega) (by omega)).mono ?_
  rintro e w4 ⟨g4, c4, d4, rfl, hy4, hd4, htk4, hdr4, hb4⟩
  have HY4 := Lib.hid hy4
  have HTK4 := Lib.hid htk4
  have HD4 := Lib.hid hd4
  have HDR4 := Lib.hid hdr4
  have hc4 : d.length ≤ c4 ∧ c4 ≤ maxLen := by
    obtain ⟨A', c', e, h1, h2, _⟩ := hy4
    simp only [Value.slice.injEq] at e
    obtain ⟨_, h3, rfl⟩ := e
    exact ⟨by omega, h2⟩
  obtain ⟨hc4a, hc4b⟩ := hc4
  unfold maxLen at hc4b
  have HB4 := Lib.hid (below_trans' HBw3.out hb4)
  clear hy4 hd4 htk4 hdr4 hb4 hcv HB3 HY3 HBw3
  go_wp2_with fail
  refine (decoded6_any s t p _ HVP.out (by omega)).mono ?_
  rintro e w5 ⟨v5, rfl, hy5, hb5⟩
  have HY5 := Lib.hid hy5
  have HY4' := Lib.hid (HY4.out.below hb5)
  have HB5 := Lib.hid (below_trans' HB4.out hb5)
  clear hy5 hb5 HY4 HB4
  have HO := Lib.hid HF.out.1
  have HDD := Lib.hid HF.out.2
  clear HF hle0
  generalize hR : decOf s.data.toList p st t.data.toList = R at *
  generalize hFB : fineB 6 s.data.toList p (strip t.data.toList) = FB at *
  generalize hUZ : (unS (numsOf s.data.toList (strip t.data.toList)) == 0) = UZ at *
  clear hR hFB hUZ
  obtain ⟨bs, err⟩ := R
  simp only at HO HDD HTK4 hle ⊢
  have HDR : Hid (d4.drop (M + 2) = d.drop (M + 2)) := by
    exact drop_more HDR4.out (by simp only; omega)
  have hlen4 : Hid (d4.length = d.length) := HD4
  clear HDR4 HY5
  generalize okOf err = OK at *
  have hg1 : decide (M < bs.length) = false := by simpa using hle
  have HOK : Hid (OK = false → FB = true → UZ = false) := fun h1 h2 => by
    have h3 := HO.out
    rw [h1, h2] at h3
    cases UZ
    · rfl
    · simp at h3
  clear HO HDD
  go_wp2_with fail
  refine (room6_any p t.size _ hp1 (by omega)).mono ?_
  rintro e w6 ⟨rfl, q6, rfl⟩
  rw [← HM.out]
  by_cases hm2 : d.length < M + 2
  · have hd2 : decide (d.length < M + 2) = true := by simpa using hm2
    cases OK
    · cases FB
      · go_wp2
        go_ret
        exact ⟨ret_bool rfl, below_drewN HB5.out q6⟩
      · have hu := HOK.out rfl rfl
        subst hu
        go_wp2
        go_ret
        exact ⟨ret_bool rfl, below_drewN HB5.out q6⟩
    · go_wp2
      go_ret
      exact ⟨ret_bool rfl, below_drewN HB5.out q6⟩
  · have hd2 : decide (d.length < M + 2) = false := by simpa using hm2
    obtain ⟨b1, o1, hA, _, _⟩ := HA1.out (by omega)
    subst hA
    have z1 : IntKind.i64.wrap ((M : Int) + 2) = (M : Int) + 2 := IntWalk.i64_in _ (by omega)
    have z2 : (0 : Int) ≤ (M : Int) + 2 := by omega
    have z3 : ((M : Int) + 2).toNat = M + 2 := by omega
    have z4 : (M : Int) + 2 ≤ (d.length : Int) := by omega
    have z5 : (d.length : Int) ≤ (c1 : Int) := by omega
    have z6 : (d.length : Int) ≤ (c4 : Int) := by omega
    have HT1 : Hid (Bys (w5.drewN q6) (.slice (some ⟨b1, o1 + (M + 2), none⟩) (d.length - (M + 2)) (c1 - (M + 2))) (d.drop (M + 2))) := (HYD.out.below (below_drewN HB5.out q6)).tail (M + 2) (by omega)
    have HT2 : Hid (Bys (w5.drewN q6) (.slice (some ⟨g4, 0 + (M + 2), none⟩) (d.length - (M + 2)) (c4 - (M + 2))) (d.drop (M + 2))) := by
      have := (HY4'.out.below (below_drewN (Below.refl _ w5) q6)).tail (M + 2) (by rw [HD4.out]; omega)
      rw [HDR.out] at this
      exact this
    have HBz := Lib.hid (below_drewN HB5.out q6)
    clear HYD HY4' HB5 HA1 z1 z2 z3 z4 z5 z6
    generalize w5.drewN q6 = wz at *
    have HG : ∀ A1 A4 : Option Addr, (M + 2 < c1 → A1 = some ⟨b1, o1 + (M + 2), none⟩) → (M + 2 < c4 → A4 = some ⟨g4, M + 2, none⟩) → ∀ n : Nat, Calls Try.prog 18 #[.slice A4 (d.length - (M + 2)) (c4 - (M + 2)), .slice A1 (d.length - (M + 2)) (c1 - (M + 2))] (wz.drewN n) fun e w' => e = .returned (.bool true) ∧ ∃ m, w' = wz.drewN m := by
      intro A1 A4 h1 h4 n
      have hdl : (d.drop (M + 2)).length = d.length - (M + 2) := List.length_drop ..
      have B1 : Bys wz (.slice A1 (d.length - (M + 2)) (c1 - (M + 2))) (d.drop (M + 2)) := by
        rcases (by omega : c1 = M + 2 ∨ M + 2 < c1) with hx | hx
        · have e0 : d.drop (M + 2) = [] := List.drop_eq_nil_of_le (by omega)
          rw [e0, show d.length - (M + 2) = 0 by omega]
          exact Bys.none_ (by unfold maxLen; omega)
        · rw [h1 hx]; exact HT1.out
      have B4 : Bys wz (.slice A4 (d.length - (M + 2)) (c4 - (M + 2))) (d.drop (M + 2)) := by
        rcases (by omega : c4 = M + 2 ∨ M + 2 < c4) with hx | hx
        · have e0 : d.drop (M + 2) = [] := List.drop_eq_nil_of_le (by omega)
          rw [e0, show d.length - (M + 2) = 0 by omega]
          exact Bys.none_ (by unfold maxLen; omega)
        · rw [h4 hx]; have := HT2.out; rw [Nat.zero_add] at this; exact this
      refine quiet_draw ((same_any _ _ (d.drop (M + 2)) (d.drop (M + 2)) (wz.drewN n) (B4.below (below_drewN (Below.refl _ wz) n)) (B1.below (below_drewN (Below.refl _ wz) n))).mono ?_)
      rintro e w' ⟨rfl, q, rfl⟩
      exact ⟨by simp, q, rfl⟩
    have HGG := Lib.hid HG
    clear HG HT1 HT2
    have z1 : IntKind.i64.wrap ((M : Int) + 2) = (M : Int) + 2 := IntWalk.i64_in _ (by omega)
    have z2 : (0 : Int) ≤ (M : Int) + 2 := by omega
    have z3 : ((M : Int) + 2).toNat = M + 2 := by omega
    have z4 : (M : Int) + 2 ≤ (d.length : Int) := by omega
    have z5 : (d.length : Int) ≤ (c1 : Int) := by omega
    have z6 : (d.length : Int) ≤ (c4 : Int) := by omega
    cases OK
    · cases FB
      · go_wp2_with fail
        go_quiet ((go_at_call 18; (with_reducible refine HGG.out _ _ ?_ ?_ _); (intro _; first | rfl | rw [if_neg (by omega)]); (intro _; first | rfl | rw [if_neg (by omega)])))
        go_wp2
        all_goals go_ret
        all_goals exact ⟨ret_bool rfl, below_drewN HBz.out _⟩
      · have hu := HOK.out rfl rfl
        subst hu
        go_wp2_with fail
        go_quiet ((go_at_call 18; (with_reducible refine HGG.out _ _ ?_ ?_ _); (intro _; first | rfl | rw [if_neg (by omega)]); (intro _; first | rfl | rw [if_neg (by omega)])))
        go_wp2
        all_goals go_ret
        all_goals exact ⟨ret_bool rfl, below_drewN HBz.out _⟩
    · go_wp2_with fail
      go_quiet ((go_at_call 18; (with_reducible refine HGG.out _ _ ?_ ?_ _); (intro _; first | rfl | rw [if_neg (by omega)]); (intro _; first | rfl | rw [if_neg (by omega)])))
      go_wp2
      all_goals go_ret
      all_goals exact ⟨ret_bool rfl, below_drewN HBz.out _⟩

end Go.Proofs.Ytppajccbeocpcaa
