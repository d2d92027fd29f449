/-
  Contracts of the thin package's EncodedLen and DecodedLen, and the walks of the laws on lengths. Conditions: as each law states them.
-/
import Derived.Test.YteanofipadcakaaEncI
namespace Go.Proofs.Yteanofipadcakaa
open Go.RowKit

set_option maxHeartbeats 400000 in
theorem encodedLen64I (s : ByteArray) (p n : Int) (w : World) (hv : validP 6 s.data.toList p) (h0 : 0 ≤ n) (h1 : n ≤ 2305843009213693952) :
    Calls Try.prog 13 #[.string s, .int .i64 p, .int .i64 n] w fun e w' => e = .returned (.int .i64 (encLen64 p n)) ∧ Below w.heap.size w w' := by
  have HV := Lib.hid hv
  clear hv
  go_enter Try.func13, Try.ntmps13
  go_wp2_with fail
  refine (encoding64 s p false _ HV.out).mono ?_
  rintro e w1 ⟨g, rfl, hg, hb, hw⟩
  have HB := Lib.hid hb
  have HW := Lib.hid hw
  clear hb hw
  go_wp2_with fail
  refine (encodedLen64_any g _ p n false _ HB.out HV.out.1 h0 h1).mono ?_
  rintro e w2 ⟨rfl, rfl⟩
  go_wp2
  go_ret
  exact ⟨rfl, HW.out⟩

set_option maxHeartbeats 400000 in
theorem decodedLen64I (s : ByteArray) (p n : Int) (w : World) (hv : validP 6 s.data.toList p) (h0 : 0 ≤ n) (h1 : n ≤ 2305843009213693952) :
    Calls Try.prog 14 #[.string s, .int .i64 p, .int .i64 n] w fun e w' => e = .returned (.int .i64 (decLen64 p n)) ∧ Below w.heap.size w w' := by
  have HV := Lib.hid hv
  clear hv
  go_enter Try.func14, Try.ntmps14
  go_wp2_with fail
  refine (encoding64 s p false _ HV.out).mono ?_
  rintro e w1 ⟨g, rfl, hg, hb, hw⟩
  have HB := Lib.hid hb
  have HW := Lib.hid hw
  clear hb hw
  go_wp2_with fail
  refine (decodedLen64_any g _ p n false _ HB.out HV.out.1 h0 h1).mono ?_
  rintro e w2 ⟨rfl, rfl⟩
  go_wp2
  go_ret
  exact ⟨rfl, HW.out⟩

theorem encLen64_is (p n : Int) (hp : -1 ≤ p) : encLen64 p n = lenOf 6 p n := by
  have hg : grp 6 = 4 := rfl
  unfold encLen64 lenOf
  rw [hg]
  unfold chars
  by_cases h1 : p = -1
  · rw [if_pos h1, if_pos (by omega)]; omega
  · rw [if_neg h1, if_neg (by omega)]; omega

set_option maxHeartbeats 400000 in
theorem law_FnEncodedLen64 (s : ByteArray) (p n : Int) (w : World) (hs : s.size ≤ maxLen) (_ : (Lit.int .i64 p).wf = true) (_ : (Lit.int .i64 n).wf = true) :
    Calls Try.prog 5 #[.string s, .int .i64 p, .int .i64 n] w fun e w' => e = .returned (.bool true) ∧ Below w.heap.size w w' := by
  have HS := Lib.hid hs
  clear hs
  by_cases hv : validB 6 s.data.toList p = true
  · by_cases h0 : 0 ≤ n
    · by_cases h1 : n ≤ 1152921504606846976
      · have HV := Lib.hid hv
        have HE := Lib.hid (encLen64_is p n (validB_true hv).2.1)
        clear hv
        go_enter Try.func5, Try.ntmps5
        go_wp2_with fail
        refine (valid6_any s p _ HS.out).mono ?_
        rintro e w1 ⟨rfl, rfl⟩
        rw [HV.out]
        go_wp2_with fail
        refine (encodedLen64I s p n _ (validB_true HV.out) h0 (by omega)).mono ?_
        rintro e w2 ⟨rfl, hb2⟩
        rw [HE.out]
        have HB2 := Lib.hid hb2
        clear hb2
        go_wp2_with fail
        refine (length6_any p n _ h0 (by omega)).mono ?_
        rintro e w3 ⟨rfl, k, rfl⟩
        go_wp2
        go_ret
        exact ⟨ret_bool (by simp), below_drewN HB2.out k⟩
      · have HV := Lib.hid hv
        clear hv
        go_enter Try.func5, Try.ntmps5
        go_wp2_with fail
        refine (valid6_any s p _ HS.out).mono ?_
        rintro e w1 ⟨rfl, rfl⟩
        rw [HV.out]
        go_wp2
        go_ret
        exact ⟨rfl, Below.refl _ _⟩
    · have HV := Lib.hid hv
      clear hv
      go_enter Try.func5, Try.ntmps5
      go_wp2_with fail
      refine (valid6_any s p _ HS.out).mono ?_
      rintro e w1 ⟨rfl, rfl⟩
      rw [HV.out]
      go_wp2
      go_ret
      exact ⟨rfl, Below.refl _ _⟩
  · have HV := Lib.hid (Bool.eq_false_iff.2 hv)
    clear hv
    go_enter Try.func5, Try.ntmps5
    go_wp2_with fail
    refine (valid6_any s p _ HS.out).mono ?_
    rintro e w1 ⟨rfl, rfl⟩
    rw [HV.out]
    go_wp2
    go_ret
    exact ⟨rfl, Below.refl _ _⟩

set_option maxHeartbeats 400000 in
theorem law_FnDecodedLen64 (s : ByteArray) (p n : Int) (w : World) (hs : s.size ≤ maxLen) (_ : (Lit.int .i64 p).wf = true) (_ : (Lit.int .i64 n).wf = true) :
    Calls Try.prog 6 #[.string s, .int .i64 p, .int .i64 n] w fun e w' => e = .returned (.bool true) ∧ Below w.heap.size w w' := by
  have HS := Lib.hid hs
  clear hs
  by_cases hv : validB 6 s.data.toList p = true
  · by_cases hr : ¬ (0 ≤ n ∧ n ≤ 1152921504606846976)
    · have HV := Lib.hid hv
      have hr' : n < 0 ∨ 1152921504606846976 < n := by omega
      clear hv hr
      rcases hr' with hr | hr
      all_goals
        go_enter Try.func6, Try.ntmps6
        go_wp2_with fail
        refine (valid6_any s p _ HS.out).mono ?_
        rintro e w1 ⟨rfl, rfl⟩
        rw [HV.out]
        go_wp2
        go_ret
        exact ⟨rfl, Below.refl _ _⟩
    · have HV := Lib.hid hv
      have h0 : 0 ≤ n := by omega
      have h1 : n ≤ 1152921504606846976 := by omega
      have hq := (validB_true hv).2.1
      clear hv hr
      by_cases hp : p < 0
      · have HE : Hid (decLen64 p n = n / 8 * 6 + n % 8 * 6 / 8) := by show _ = _; unfold decLen64; rw [if_pos (by omega)]; try omega
        go_enter Try.func6, Try.ntmps6
        go_wp2_with fail
        refine (valid6_any s p _ HS.out).mono ?_
        rintro e w1 ⟨rfl, rfl⟩
        rw [HV.out]
        go_wp2_with fail
        refine (decodedLen64I s p n _ (validB_true HV.out) h0 (by omega)).mono ?_
        rintro e w2 ⟨rfl, hb2⟩
        rw [HE.out]
        have HB2 := Lib.hid hb2
        clear hb2
        go_wp2
        go_ret
        exact ⟨ret_bool (by simp), HB2.out⟩
      · have HE : Hid (decLen64 p n = n / 4 * 3) := by show _ = _; unfold decLen64; rw [if_neg (by omega)]
        go_enter Try.func6, Try.ntmps6
        go_wp2_with fail
        refine (valid6_any s p _ HS.out).mono ?_
        rintro e w1 ⟨rfl, rfl⟩
        rw [HV.out]
        go_wp2_with fail
        refine (decodedLen64I s p n _ (validB_true HV.out) h0 (by omega)).mono ?_
        rintro e w2 ⟨rfl, hb2⟩
        rw [HE.out]
        have HB2 := Lib.hid hb2
        clear hb2
        go_wp2
        go_ret
        exact ⟨ret_bool (by simp), HB2.out⟩
  · have HV := Lib.hid (Bool.eq_false_iff.2 hv)
    clear hv
    go_enter Try.func6, Try.ntmps6
    go_wp2_with fail
    refine (valid6_any s p _ HS.out).mono ?_
    rintro e w1 ⟨rfl, rfl⟩
    rw [HV.out]
    go_wp2
    go_ret
    exact ⟨rfl, Below.refl _ _⟩

set_option maxHeartbeats 1000000 in
theorem law_FnLengths64 (s : ByteArray) (p n : Int) (w : World) (hs : s.size ≤ maxLen) (_ : (Lit.int .i64 p).wf = true) (_ : (Lit.int .i64 n).wf = true) :
    Calls Try.prog 8 #[.string s, .int .i64 p, .int .i64 n] w fun e w' => e = .returned (.bool true) ∧ Below w.heap.size w w' := by
  have HS := Lib.hid hs
  clear hs
  by_cases hv : validB 6 s.data.toList p = true
  · by_cases hr : ¬ (0 ≤ n ∧ n ≤ 288230376151711744)
    · have HV := Lib.hid hv
      have hr' : n < 0 ∨ 288230376151711744 < n := by omega
      clear hv hr
      rcases hr' with hr | hr
      all_goals
        go_enter Try.func8, Try.ntmps8
        go_wp2_with fail
        refine (valid6_any s p _ HS.out).mono ?_
        rintro e w1 ⟨rfl, rfl⟩
        rw [HV.out]
        go_wp2
        go_ret
        exact ⟨rfl, Below.refl _ _⟩
    · have HV := Lib.hid hv
      have h0 : 0 ≤ n := by omega
      have h1 : n ≤ 288230376151711744 := by omega
      have hq := (validB_true hv).2.1
      clear hv hr
      obtain ⟨E, hE⟩ : ∃ E, E = encLen64 p n := ⟨_, rfl⟩
      obtain ⟨D, hD⟩ : ∃ D, D = decLen64 p E := ⟨_, rfl⟩
      obtain ⟨E1, hE1⟩ : ∃ E1, E1 = encLen64 p (n + 1) := ⟨_, rfl⟩
      obtain ⟨D1, hD1⟩ : ∃ D1, D1 = decLen64 p (n + 1) := ⟨_, rfl⟩
      obtain ⟨D0, hD0⟩ : ∃ D0, D0 = decLen64 p n := ⟨_, rfl⟩
      have hfacts : 0 ≤ E ∧ E ≤ 2 * n + 8 ∧ n ≤ D ∧ D < n + 3 ∧ (p < 0 → D = n) ∧ (0 ≤ p → E % 4 = 0) ∧ E ≤ E1 ∧ D0 ≤ D1 ∧ (0 < n → n < E) := by
        unfold encLen64 at hE hE1
        unfold decLen64 at hD hD0 hD1
        by_cases hp : p = -1
        · rw [if_pos hp] at hE hE1 hD hD0 hD1
          omega
        · rw [if_neg hp] at hE hE1 hD hD0 hD1
          omega
      obtain ⟨f1, f2, f3, f4, f5, f6, f7, f8, f9⟩ := hfacts
      have HE := Lib.hid hE
      have HD := Lib.hid hD
      have HE1 := Lib.hid hE1
      have HD1 := Lib.hid hD1
      have HD0 := Lib.hid hD0
      clear hE hD hE1 hD1 hD0
      have hb5 : Hid (p < 0 → D = n) := f5
      have hb6 : Hid (0 ≤ p → E % 4 = 0) := f6
      have hb9 : Hid (0 < n → n < E) := f9
      clear f5 f6 f9
      by_cases hp : p < 0
      all_goals
        by_cases hn : n = 0
        all_goals
          first
            | have t1 : (D == n) = true := by have := hb5.out hp; simpa using this
            | have t2 : (E % 4 == 0) = true := by have := hb6.out (by omega); simpa using this
          first
            | (have hn0 := hb9.out (by omega); have t3 : (n == 0) = false := by simpa using hn)
            | have t3 : (n == 0) = true := by simpa using hn
          clear hn
          go_enter Try.func8, Try.ntmps8
          go_wp2_with fail
          refine (valid6_any s p _ HS.out).mono ?_
          rintro e w1 ⟨rfl, rfl⟩
          rw [HV.out]
          go_wp2_with fail
          refine (encodedLen64I s p n _ (validB_true HV.out) h0 (by omega)).mono ?_
          rintro e w2 ⟨rfl, hb2⟩
          rw [← HE.out]
          have HB2 := Lib.hid hb2
          clear hb2
          go_wp2_with fail
          refine (decodedLen64I s p E _ (validB_true HV.out) f1 (by omega)).mono ?_
          rintro e w3 ⟨rfl, hb3⟩
          rw [← HD.out]
          have HB3 := Lib.hid hb3
          clear hb3
          go_wp2_with fail
          refine (encodedLen64I s p (n + 1) _ (validB_true HV.out) (by omega) (by omega)).mono ?_
          rintro e w4 ⟨rfl, hb4⟩
          rw [← HE1.out]
          have HB4 := Lib.hid hb4
          clear hb4
          go_wp2_with fail
          refine (decodedLen64I s p (n + 1) _ (validB_true HV.out) (by omega) (by omega)).mono ?_
          rintro e w5 ⟨rfl, hb5⟩
          rw [← HD1.out]
          have HB5 := Lib.hid hb5
          clear hb5
          go_wp2_with fail
          refine (decodedLen64I s p n _ (validB_true HV.out) h0 (by omega)).mono ?_
          rintro e w6 ⟨rfl, hb6⟩
          rw [← HD0.out]
          have HB6 := Lib.hid hb6
          clear hb6
          go_wp2
          go_ret
          have b3 := HB2.out.trans (HB3.out.mono HB2.out.size)
          have b4 := b3.trans (HB4.out.mono b3.size)
          have b5 := b4.trans (HB5.out.mono b4.size)
          exact ⟨ret_bool (by simp; try omega), b5.trans (HB6.out.mono b5.size)⟩
  · have HV := Lib.hid (Bool.eq_false_iff.2 hv)
    clear hv
    go_enter Try.func8, Try.ntmps8
    go_wp2_with fail
    refine (valid6_any s p _ HS.out).mono ?_
    rintro e w1 ⟨rfl, rfl⟩
    rw [HV.out]
    go_wp2
    go_ret
    exact ⟨rfl, Below.refl _ _⟩

set_option maxHeartbeats 400000 in
theorem encodedLen32I (s : ByteArray) (p n : Int) (w : World) (hv : validP 5 s.data.toList p) (h0 : 0 ≤ n) (h1 : n ≤ 2305843009213693952) :
    Calls Try.prog 10 #[.string s, .int .i64 p, .int .i64 n] w fun e w' => e = .returned (.int .i64 (encLen32 p n)) ∧ Below w.heap.size w w' := by
  have HV := Lib.hid hv
  clear hv
  go_enter Try.func10, Try.ntmps10
  go_wp2_with fail
  refine (encoding32 s p _ HV.out).mono ?_
  rintro e w1 ⟨g, rfl, hg, hb, hw⟩
  have HB := Lib.hid hb
  have HW := Lib.hid hw
  clear hb hw
  go_wp2_with fail
  refine (encodedLen32_any g _ p n _ HB.out HV.out.1 h0 h1).mono ?_
  rintro e w2 ⟨rfl, rfl⟩
  go_wp2
  go_ret
  exact ⟨rfl, HW.out⟩

set_option maxHeartbeats 400000 in
theorem decodedLen32I (s : ByteArray) (p n : Int) (w : World) (hv : validP 5 s.data.toList p) (h0 : 0 ≤ n) (h1 : n ≤ 2305843009213693952) :
    Calls Try.prog 12 #[.string s, .int .i64 p, .int .i64 n] w fun e w' => e = .returned (.int .i64 (decLen32 p n)) ∧ Below w.heap.size w w' := by
  have HV := Lib.hid hv
  clear hv
  go_enter Try.func12, Try.ntmps12
  go_wp2_with fail
  refine (encoding32 s p _ HV.out).mono ?_
  rintro e w1 ⟨g, rfl, hg, hb, hw⟩
  have HB := Lib.hid hb
  have HW := Lib.hid hw
  clear hb hw
  go_wp2_with fail
  refine (decodedLen32_any g _ p n _ HB.out HV.out.1 h0 h1).mono ?_
  rintro e w2 ⟨rfl, rfl⟩
  go_wp2
  go_ret
  exact ⟨rfl, HW.out⟩

theorem encLen32_is (p n : Int) (hp : -1 ≤ p) : encLen32 p n = lenOf 5 p n := by
  have hg : grp 5 = 8 := rfl
  unfold encLen32 lenOf
  rw [hg]
  unfold chars
  by_cases h1 : p = -1
  · rw [if_pos h1, if_pos (by omega)]; omega
  · rw [if_neg h1, if_neg (by omega)]; omega

set_option maxHeartbeats 400000 in
theorem law_FnEncodedLen32 (s : ByteArray) (p n : Int) (w : World) (hs : s.size ≤ maxLen) (_ : (Lit.int .i64 p).wf = true) (_ : (Lit.int .i64 n).wf = true) :
    Calls Try.prog 3 #[.string s, .int .i64 p, .int .i64 n] w fun e w' => e = .returned (.bool true) ∧ Below w.heap.size w w' := by
  have HS := Lib.hid hs
  clear hs
  by_cases hv : validB 5 s.data.toList p = true
  · by_cases h0 : 0 ≤ n
    · by_cases h1 : n ≤ 1152921504606846976
      · have HV := Lib.hid hv
        have HE := Lib.hid (encLen32_is p n (validB_true hv).2.1)
        clear hv
        go_enter Try.func3, Try.ntmps3
        go_wp2_with fail
        refine (valid5_any s p _ HS.out).mono ?_
        rintro e w1 ⟨rfl, rfl⟩
        rw [HV.out]
        go_wp2_with fail
        refine (encodedLen32I s p n _ (validB_true HV.out) h0 (by omega)).mono ?_
        rintro e w2 ⟨rfl, hb2⟩
        rw [HE.out]
        have HB2 := Lib.hid hb2
        clear hb2
        go_wp2_with fail
        refine (length5_any p n _ h0 (by omega)).mono ?_
        rintro e w3 ⟨rfl, k, rfl⟩
        go_wp2
        go_ret
        exact ⟨ret_bool (by simp), below_drewN HB2.out k⟩
      · have HV := Lib.hid hv
        clear hv
        go_enter Try.func3, Try.ntmps3
        go_wp2_with fail
        refine (valid5_any s p _ HS.out).mono ?_
        rintro e w1 ⟨rfl, rfl⟩
        rw [HV.out]
        go_wp2
        go_ret
        exact ⟨rfl, Below.refl _ _⟩
    · have HV := Lib.hid hv
      clear hv
      go_enter Try.func3, Try.ntmps3
      go_wp2_with fail
      refine (valid5_any s p _ HS.out).mono ?_
      rintro e w1 ⟨rfl, rfl⟩
      rw [HV.out]
      go_wp2
      go_ret
      exact ⟨rfl, Below.refl _ _⟩
  · have HV := Lib.hid (Bool.eq_false_iff.2 hv)
    clear hv
    go_enter Try.func3, Try.ntmps3
    go_wp2_with fail
    refine (valid5_any s p _ HS.out).mono ?_
    rintro e w1 ⟨rfl, rfl⟩
    rw [HV.out]
    go_wp2
    go_ret
    exact ⟨rfl, Below.refl _ _⟩

set_option maxHeartbeats 400000 in
theorem law_FnDecodedLen32 (s : ByteArray) (p n : Int) (w : World) (hs : s.size ≤ maxLen) (_ : (Lit.int .i64 p).wf = true) (_ : (Lit.int .i64 n).wf = true) :
    Calls Try.prog 4 #[.string s, .int .i64 p, .int .i64 n] w fun e w' => e = .returned (.bool true) ∧ Below w.heap.size w w' := by
  have HS := Lib.hid hs
  clear hs
  by_cases hv : validB 5 s.data.toList p = true
  · by_cases hr : ¬ (0 ≤ n ∧ n ≤ 1152921504606846976)
    · have HV := Lib.hid hv
      have hr' : n < 0 ∨ 1152921504606846976 < n := by omega
      clear hv hr
      rcases hr' with hr | hr
      all_goals
        go_enter Try.func4, Try.ntmps4
        go_wp2_with fail
        refine (valid5_any s p _ HS.out).mono ?_
        rintro e w1 ⟨rfl, rfl⟩
        rw [HV.out]
        go_wp2
        go_ret
        exact ⟨rfl, Below.refl _ _⟩
    · have HV := Lib.hid hv
      have h0 : 0 ≤ n := by omega
      have h1 : n ≤ 1152921504606846976 := by omega
      have hq := (validB_true hv).2.1
      clear hv hr
      by_cases hp : p < 0
      · have HE : Hid (decLen32 p n = n / 8 * 5 + n % 8 * 5 / 8) := by show _ = _; unfold decLen32; rw [if_pos (by omega)]; try omega
        go_enter Try.func4, Try.ntmps4
        go_wp2_with fail
        refine (valid5_any s p _ HS.out).mono ?_
        rintro e w1 ⟨rfl, rfl⟩
        rw [HV.out]
        go_wp2_with fail
        refine (decodedLen32I s p n _ (validB_true HV.out) h0 (by omega)).mono ?_
        rintro e w2 ⟨rfl, hb2⟩
        rw [HE.out]
        have HB2 := Lib.hid hb2
        clear hb2
        go_wp2
        go_ret
        exact ⟨ret_bool (by simp), HB2.out⟩
      · have HE : Hid (decLen32 p n = n / 8 * 5) := by show _ = _; unfold decLen32; rw [if_neg (by omega)]
        go_enter Try.func4, Try.ntmps4
        go_wp2_with fail
        refine (valid5_any s p _ HS.out).mono ?_
        rintro e w1 ⟨rfl, rfl⟩
        rw [HV.out]
        go_wp2_with fail
        refine (decodedLen32I s p n _ (validB_true HV.out) h0 (by omega)).mono ?_
        rintro e w2 ⟨rfl, hb2⟩
        rw [HE.out]
        have HB2 := Lib.hid hb2
        clear hb2
        go_wp2
        go_ret
        exact ⟨ret_bool (by simp), HB2.out⟩
  · have HV := Lib.hid (Bool.eq_false_iff.2 hv)
    clear hv
    go_enter Try.func4, Try.ntmps4
    go_wp2_with fail
    refine (valid5_any s p _ HS.out).mono ?_
    rintro e w1 ⟨rfl, rfl⟩
    rw [HV.out]
    go_wp2
    go_ret
    exact ⟨rfl, Below.refl _ _⟩

set_option maxHeartbeats 1000000 in
theorem law_FnLengths32 (s : ByteArray) (p n : Int) (w : World) (hs : s.size ≤ maxLen) (_ : (Lit.int .i64 p).wf = true) (_ : (Lit.int .i64 n).wf = true) :
    Calls Try.prog 7 #[.string s, .int .i64 p, .int .i64 n] w fun e w' => e = .returned (.bool true) ∧ Below w.heap.size w w' := by
  have HS := Lib.hid hs
  clear hs
  by_cases hv : validB 5 s.data.toList p = true
  · by_cases hr : ¬ (0 ≤ n ∧ n ≤ 288230376151711744)
    · have HV := Lib.hid hv
      have hr' : n < 0 ∨ 288230376151711744 < n := by omega
      clear hv hr
      rcases hr' with hr | hr
      all_goals
        go_enter Try.func7, Try.ntmps7
        go_wp2_with fail
        refine (valid5_any s p _ HS.out).mono ?_
        rintro e w1 ⟨rfl, rfl⟩
        rw [HV.out]
        go_wp2
        go_ret
        exact ⟨rfl, Below.refl _ _⟩
    · have HV := Lib.hid hv
      have h0 : 0 ≤ n := by omega
      have h1 : n ≤ 288230376151711744 := by omega
      have hq := (validB_true hv).2.1
      clear hv hr
      obtain ⟨E, hE⟩ : ∃ E, E = encLen32 p n := ⟨_, rfl⟩
      obtain ⟨D, hD⟩ : ∃ D, D = decLen32 p E := ⟨_, rfl⟩
      obtain ⟨E1, hE1⟩ : ∃ E1, E1 = encLen32 p (n + 1) := ⟨_, rfl⟩
      obtain ⟨D1, hD1⟩ : ∃ D1, D1 = decLen32 p (n + 1) := ⟨_, rfl⟩
      obtain ⟨D0, hD0⟩ : ∃ D0, D0 = decLen32 p n := ⟨_, rfl⟩
      have hfacts : 0 ≤ E ∧ E ≤ 2 * n + 8 ∧ n ≤ D ∧ D < n + 5 ∧ (p < 0 → D = n) ∧ (0 ≤ p → E % 8 = 0) ∧ E ≤ E1 ∧ D0 ≤ D1 ∧ (0 < n → n < E) := by
        unfold encLen32 at hE hE1
        unfold decLen32 at hD hD0 hD1
        by_cases hp : p = -1
        · rw [if_pos hp] at hE hE1 hD hD0 hD1
          omega
        · rw [if_neg hp] at hE hE1 hD hD0 hD1
          omega
      obtain ⟨f1, f2, f3, f4, f5, f6, f7, f8, f9⟩ := hfacts
      have HE := Lib.hid hE
      have HD := Lib.hid hD
      have HE1 := Lib.hid hE1
      have HD1 := Lib.hid hD1
      have HD0 := Lib.hid hD0
      clear hE hD hE1 hD1 hD0
      have hb5 : Hid (p < 0 → D = n) := f5
      have hb6 : Hid (0 ≤ p → E % 8 = 0) := f6
      have hb9 : Hid (0 < n → n < E) := f9
      clear f5 f6 f9
      by_cases hp : p < 0
      all_goals
        by_cases hn : n = 0
        all_goals
          first
            | have t1 : (D == n) = true := by have := hb5.out hp; simpa using this
            | have t2 : (E % 8 == 0) = true := by have := hb6.out (by omega); simpa using this
          first
            | (have hn0 := hb9.out (by omega); have t3 : (n == 0) = false := by simpa using hn)
            | have t3 : (n == 0) = true := by simpa using hn
          clear hn
          go_enter Try.func7, Try.ntmps7
          go_wp2_with fail
          refine (valid5_any s p _ HS.out).mono ?_
          rintro e w1 ⟨rfl, rfl⟩
          rw [HV.out]
          go_wp2_with fail
          refine (encodedLen32I s p n _ (validB_true HV.out) h0 (by omega)).mono ?_
          rintro e w2 ⟨rfl, hb2⟩
          rw [← HE.out]
          have HB2 := Lib.hid hb2
          clear hb2
          go_wp2_with fail
          refine (decodedLen32I s p E _ (validB_true HV.out) f1 (by omega)).mono ?_
          rintro e w3 ⟨rfl, hb3⟩
          rw [← HD.out]
          have HB3 := Lib.hid hb3
          clear hb3
          go_wp2_with fail
          refine (encodedLen32I s p (n + 1) _ (validB_true HV.out) (by omega) (by omega)).mono ?_
          rintro e w4 ⟨rfl, hb4⟩
          rw [← HE1.out]
          have HB4 := Lib.hid hb4
          clear hb4
          go_wp2_with fail
          refine (decodedLen32I s p (n + 1) _ (validB_true HV.out) (by omega) (by omega)).mono ?_
          rintro e w5 ⟨rfl, hb5⟩
          rw [← HD1.out]
          have HB5 := Lib.hid hb5
          clear hb5
          go_wp2_with fail
          refine (decodedLen32I s p n _ (validB_true HV.out) h0 (by omega)).mono ?_
          rintro e w6 ⟨rfl, hb6⟩
          rw [← HD0.out]
          have HB6 := Lib.hid hb6
          clear hb6
          go_wp2
          go_ret
          have b3 := HB2.out.trans (HB3.out.mono HB2.out.size)
          have b4 := b3.trans (HB4.out.mono b3.size)
          have b5 := b4.trans (HB5.out.mono b4.size)
          exact ⟨ret_bool (by simp; try omega), b5.trans (HB6.out.mono b5.size)⟩
  · have HV := Lib.hid (Bool.eq_false_iff.2 hv)
    clear hv
    go_enter Try.func7, Try.ntmps7
    go_wp2_with fail
    refine (valid5_any s p _ HS.out).mono ?_
    rintro e w1 ⟨rfl, rfl⟩
    rw [HV.out]
    go_wp2
    go_ret
    exact ⟨rfl, Below.refl _ _⟩


end Go.Proofs.Yteanofipadcakaa
