/-
  The walks of laws on decoding of base64: each returns true. Conditions: strings and slices hold at most 2 ^ 47 - 4096 bytes.
-/
import Derived.Test.YtppajccbeocpcaaD64S
import Derived.Test.YtppajccbeocpcaaSpecE
import Derived.Test.YtppajccbeocpcaaE64S
import Derived.Test.YtppajccbeocpcaaLens
import Derived.Test.YtppajccbeocpcaaTextP
namespace Go.Proofs.Ytppajccbeocpcaa
open Go.RowKit
set_option linter.unusedVariables false

/-- What is known of a text for base64's decoder: the verdict, and the bytes where it is taken. -/
theorem dec_facts {a : List UInt8} {p : Int} (hv : validP 6 a p) (st : Bool) (s : List UInt8) :
    okOf (decOf a p st s).2 = (fineB 6 a p (strip s) && (!st || unS (numsOf a (strip s)) == 0)) ∧ (okOf (decOf a p st s).2 = true → fineB 6 a p (strip s) = true ∧ (decOf a p st s).1 = unsix (numsOf a (strip s))) := by
  obtain ⟨h1, h2⟩ := decOf_spec st hv s
  have h3 : okOf (decOf a p st s).2 = true ↔ (decOf a p st s).2 = none := by unfold okOf; simp
  refine ⟨by rw [Bool.eq_iff_iff, h3, h1], fun h => ?_⟩
  have h4 := h3.1 h
  have h5 := h1.1 h4
  rw [Bool.and_eq_true] at h5
  exact ⟨h5.1, h2 h4⟩

set_option maxHeartbeats 1000000 in
theorem law_FnDecode64 (s : ByteArray) (p : Int) (st : Bool) (t : ByteArray) (w : World) (hs : s.size ≤ 140737488351232) (_ : (Lit.int .i64 p).wf = true) (_ : True) (ht : t.size ≤ 140737488351232) :
    Calls Try.prog 7 #[.string s, .int .i64 p, .bool st, .string t] w fun e w' => e = .returned (.bool true) ∧ Below w.heap.size w w' := by
  have HS : Hid (s.size ≤ maxLen) := by show _ ≤ _; unfold maxLen; omega
  clear hs
  cases hv : validB 6 s.data.toList p
  · have HV := Lib.hid hv
    clear hv
    go_enter Try.func7, Try.ntmps7
    go_wp2_with fail
    refine (valid6_any s p _ HS.out).mono ?_
    rintro e w1 ⟨rfl, rfl⟩
    rw [HV.out]
    go_wp2
    go_ret
    exact ⟨rfl, Below.refl _ _⟩
  have HV := Lib.hid hv
  have HVP := Lib.hid (validB_true hv)
  clear hv
  have HF := Lib.hid (dec_facts HVP.out st t.data.toList)
  go_enter Try.func7, Try.ntmps7
  go_wp2_with fail
  refine (valid6_any s p _ HS.out).mono ?_
  rintro e w1 ⟨rfl, rfl⟩
  rw [HV.out]
  go_wp2_with fail
  refine (decode64I s p st t _ HVP.out (by omega)).mono ?_
  rintro e w2 ⟨g2, c2, rfl, hy2, hb2⟩
  have HY2 := Lib.hid hy2
  have HB2 := Lib.hid hb2
  clear hy2 hb2
  go_wp2_with fail
  refine (decoded6_any s t p _ HVP.out (by omega)).mono ?_
  rintro e w3 ⟨v3, rfl, hy3, hb3⟩
  have HY3 := Lib.hid hy3
  have HY2' := Lib.hid (HY2.out.below hb3)
  have HB3 := Lib.hid (below_trans' HB2.out hb3)
  clear hy3 hb3
  have HO := Lib.hid HF.out.1
  have HD := Lib.hid HF.out.2
  clear HF HY2 HB2
  generalize hR : decOf s.data.toList p st t.data.toList = R at *
  generalize hFB : fineB 6 s.data.toList p (strip t.data.toList) = FB at *
  generalize hUZ : (unS (numsOf s.data.toList (strip t.data.toList)) == 0) = UZ at *
  clear hR hFB hUZ
  obtain ⟨bs, err⟩ := R
  simp only at HO HD HY2' ⊢
  generalize okOf err = OK at *
  cases OK
  · have ho := HO.out
    cases FB
    · clear ho
      go_wp2
      go_ret
      exact ⟨ret_bool rfl, HB3.out⟩
    · cases UZ <;> cases st <;> simp at ho
      clear HO HD
      go_wp2
      go_ret
      exact ⟨ret_bool rfl, HB3.out⟩
  · obtain ⟨hfb, hbs⟩ := HD.out rfl
    subst hfb
    have ho := HO.out
    have HBS := Lib.hid hbs
    clear hbs HO HD
    have HY3' : Hid (Bys w3 v3 bs) := by have := HY3.out; rw [if_pos rfl, ← HBS.out] at this; exact this
    clear HY3
    cases UZ <;> cases st <;> simp at ho
    all_goals
      go_wp2_with fail
      refine (same_any _ _ bs bs _ HY2'.out HY3'.out).mono ?_
      rintro e w4 ⟨rfl, q4, rfl⟩
      go_wp2
      go_ret
      exact ⟨ret_bool (by simp), below_drewN HB3.out q4⟩

set_option maxHeartbeats 1000000 in
theorem law_FnStrictWithin64 (s : ByteArray) (p : Int) (t : ByteArray) (w : World) (hs : s.size ≤ 140737488351232) (_ : (Lit.int .i64 p).wf = true) (ht : t.size ≤ 140737488351232) :
    Calls Try.prog 8 #[.string s, .int .i64 p, .string t] w fun e w' => e = .returned (.bool true) ∧ Below w.heap.size w w' := by
  have HS : Hid (s.size ≤ maxLen) := by show _ ≤ _; unfold maxLen; omega
  clear hs
  cases hv : validB 6 s.data.toList p
  · have HV := Lib.hid hv
    clear hv
    go_enter Try.func8, Try.ntmps8
    go_wp2_with fail
    refine (valid6_any s p _ HS.out).mono ?_
    rintro e w1 ⟨rfl, rfl⟩
    rw [HV.out]
    go_wp2
    go_ret
    exact ⟨rfl, Below.refl _ _⟩
  have HV := Lib.hid hv
  have HVP := Lib.hid (validB_true hv)
  clear hv
  have HFs := Lib.hid (dec_facts HVP.out true t.data.toList)
  have HFl := Lib.hid (dec_facts HVP.out false t.data.toList)
  go_enter Try.func8, Try.ntmps8
  go_wp2_with fail
  refine (valid6_any s p _ HS.out).mono ?_
  rintro e w1 ⟨rfl, rfl⟩
  rw [HV.out]
  go_wp2_with fail
  refine (decode64I s p true t _ HVP.out (by omega)).mono ?_
  rintro e w2 ⟨g2, c2, rfl, hy2, hb2⟩
  have HY2 := Lib.hid hy2
  have HB2 := Lib.hid hb2
  clear hy2 hb2
  go_wp2_with fail
  refine (decode64I s p false t _ HVP.out (by omega)).mono ?_
  rintro e w3 ⟨g3, c3, rfl, hy3, hb3⟩
  have HY3 := Lib.hid hy3
  have HY2' := Lib.hid (HY2.out.below hb3)
  have HB3 := Lib.hid (below_trans' HB2.out hb3)
  clear hy3 hb3 HY2 HB2
  go_wp2_with fail
  refine (decoded6_any s t p _ HVP.out (by omega)).mono ?_
  rintro e w4 ⟨v4, rfl, hy4, hb4⟩
  have HY2'' := Lib.hid (HY2'.out.below hb4)
  have HY3' := Lib.hid (HY3.out.below hb4)
  have HB4 := Lib.hid (below_trans' HB3.out hb4)
  clear hy4 hb4 HY2' HY3 HB3
  have HO1 := Lib.hid HFs.out.1
  have HD1 := Lib.hid HFs.out.2
  have HO2 := Lib.hid HFl.out.1
  have HD2 := Lib.hid HFl.out.2
  clear HFs HFl
  generalize hR1 : decOf s.data.toList p true t.data.toList = R1 at *
  generalize hR2 : decOf s.data.toList p false t.data.toList = R2 at *
  generalize hFB : fineB 6 s.data.toList p (strip t.data.toList) = FB at *
  generalize hUZ : (unS (numsOf s.data.toList (strip t.data.toList)) == 0) = UZ at *
  clear hR1 hR2 hFB hUZ
  obtain ⟨bs1, err1⟩ := R1
  obtain ⟨bs2, err2⟩ := R2
  simp only at HO1 HD1 HO2 HD2 HY2'' HY3' ⊢
  generalize okOf err1 = OK1 at *
  generalize okOf err2 = OK2 at *
  have ho1 := HO1.out
  have ho2 := HO2.out
  simp only [Bool.not_true, Bool.false_or, Bool.not_false, Bool.true_or, Bool.and_true] at ho1 ho2
  cases FB
  · simp only [Bool.false_and] at ho1
    subst ho1 ho2
    clear HO1 HD1 HO2 HD2
    go_wp2
    go_ret
    exact ⟨ret_bool rfl, HB4.out⟩
  · simp only [Bool.true_and] at ho1
    cases UZ
    · subst ho1 ho2
      clear HO1 HD1 HO2 HD2
      go_wp2
      go_ret
      exact ⟨ret_bool rfl, HB4.out⟩
    · subst ho1 ho2
      have hbs : bs1 = bs2 := by rw [(HD1.out rfl).2, (HD2.out rfl).2]
      subst hbs
      clear HO1 HD1 HO2 HD2
      go_wp2_with fail
      refine (same_any _ _ bs1 bs1 _ HY2''.out HY3'.out).mono ?_
      rintro e w5 ⟨rfl, q5, rfl⟩
      go_wp2
      go_ret
      exact ⟨ret_bool (by simp), below_drewN HB4.out q5⟩

set_option maxHeartbeats 1000000 in
theorem law_FnCanonical64 (s : ByteArray) (p : Int) (t : ByteArray) (w : World) (hs : s.size ≤ 140737488351232) (_ : (Lit.int .i64 p).wf = true) (ht : t.size ≤ 140737488351232) :
    Calls Try.prog 3 #[.string s, .int .i64 p, .string t] w fun e w' => e = .returned (.bool true) ∧ Below w.heap.size w w' := by
  have HS : Hid (s.size ≤ maxLen) := by show _ ≤ _; unfold maxLen; omega
  clear hs
  cases hv : validB 6 s.data.toList p
  · have HV := Lib.hid hv
    clear hv
    go_enter Try.func3, Try.ntmps3
    go_wp2_with fail
    refine (valid6_any s p _ HS.out).mono ?_
    rintro e w1 ⟨rfl, rfl⟩
    rw [HV.out]
    go_wp2
    go_ret
    exact ⟨rfl, Below.refl _ _⟩
  have HV := Lib.hid hv
  have HVP := Lib.hid (validB_true hv)
  clear hv
  have HF := Lib.hid (dec_facts HVP.out true t.data.toList)
  obtain ⟨u, HU, hu⟩ := strIs_mk (strip t.data.toList)
  have HUN := Lib.hid hu
  have HUD : Hid (u.data.toList = strip t.data.toList) := HU
  clear HU hu
  go_enter Try.func3, Try.ntmps3
  go_wp2_with fail
  refine (valid6_any s p _ HS.out).mono ?_
  rintro e w1 ⟨rfl, rfl⟩
  rw [HV.out]
  go_wp2_with fail
  refine (decode64I s p true t _ HVP.out (by omega)).mono ?_
  rintro e w2 ⟨g2, c2, rfl, hy2, hb2⟩
  have HY2 := Lib.hid hy2
  have HB2 := Lib.hid hb2
  clear hy2 hb2
  go_wp2_with fail
  refine (decoded6_any s t p _ HVP.out (by omega)).mono ?_
  rintro e w3 ⟨v3, rfl, hy3, hb3⟩
  have HY2' := Lib.hid (HY2.out.below hb3)
  have HB3 := Lib.hid (below_trans' HB2.out hb3)
  clear hy3 hb3
  have HLE : Hid ((decOf s.data.toList p true t.data.toList).1.length ≤ 140737488351232) := by
    show _ ≤ _
    have h1 := dec_le s.data.toList p true t.data.toList
    have h2 := roomN_small p t.data.toList.length
    have h3 : t.data.toList.length = t.size := by simp
    omega
  have HCN : Hid (fineB 6 s.data.toList p (strip t.data.toList) = true → unS (numsOf s.data.toList (strip t.data.toList)) = 0 → textOf 6 s.data.toList p (unsix (numsOf s.data.toList (strip t.data.toList))) = strip t.data.toList) := canon6 HVP.out _
  have HO := Lib.hid HF.out.1
  have HD := Lib.hid HF.out.2
  clear HF HY2 HB2
  cases hF : fineB 6 s.data.toList p (strip t.data.toList) && (unS (numsOf s.data.toList (strip t.data.toList)) == 0)
  · have hok : okOf (decOf s.data.toList p true t.data.toList).2 = false := by
      have := HO.out
      simp only [Bool.not_true, Bool.false_or] at this
      rw [this, hF]
    rw [hok]
    have HFF := Lib.hid hF
    clear hok hF HO HD HCN
    cases hfb : fineB 6 s.data.toList p (strip t.data.toList)
    · clear hfb
      go_wp2
      go_ret
      exact ⟨ret_bool rfl, HB3.out⟩
    · clear hfb
      go_wp2
      go_ret
      exact ⟨ret_bool rfl, HB3.out⟩
  · have hok : okOf (decOf s.data.toList p true t.data.toList).2 = true := by
      have := HO.out
      simp only [Bool.not_true, Bool.false_or] at this
      rw [this, hF]
    obtain ⟨hfb, hz⟩ := Bool.and_eq_true_iff.1 hF
    have hbs := (HD.out hok).2
    have HTX : Hid (textOf 6 s.data.toList p (decOf s.data.toList p true t.data.toList).1 = strip t.data.toList) := by show _ = _; rw [hbs]; exact HCN.out hfb (eq_of_beq hz)
    rw [hok, hfb]
    clear hok hfb hz hbs hF HO HD HCN
    go_wp2_with fail
    refine (encode64I s p _ _ _ HVP.out HY2'.out (by have := HLE.out; omega)).mono ?_
    rintro e w4 ⟨rfl, hb4⟩
    rw [HTX.out]
    have HB4 := Lib.hid (below_trans' HB3.out hb4)
    clear hb4
    go_wp2_with fail
    refine (stripped_any t _ (by omega)).mono ?_
    rintro e w5 ⟨rfl, hb5⟩
    have HB5 := Lib.hid (below_trans' HB4.out hb5)
    clear hb5
    go_wp2
    go_ret
    exact ⟨ret_bool (by simp), HB5.out⟩

set_option maxHeartbeats 1000000 in
theorem law_FnRound64 (s : ByteArray) (p : Int) (st : Bool) (v : Value) (l : List UInt8) (w : World) (hs : s.size ≤ 140737488351232) (_ : (Lit.int .i64 p).wf = true) (_ : True) (hb : Bys w v l) (hl : l.length ≤ 140737488351232) :
    Calls Try.prog 4 #[.string s, .int .i64 p, .bool st, v] w fun e w' => e = .returned (.bool true) ∧ Below w.heap.size w w' := by
  have HS : Hid (s.size ≤ maxLen) := by show _ ≤ _; unfold maxLen; omega
  clear hs
  have HY := Lib.hid hb
  clear hb
  cases hv : validB 6 s.data.toList p
  · have HV := Lib.hid hv
    clear hv
    go_enter Try.func4, Try.ntmps4
    go_wp2_with fail
    refine (valid6_any s p _ HS.out).mono ?_
    rintro e w1 ⟨rfl, rfl⟩
    rw [HV.out]
    go_wp2
    go_ret
    exact ⟨rfl, Below.refl _ _⟩
  have HV := Lib.hid hv
  have HVP := Lib.hid (validB_true hv)
  clear hv
  obtain ⟨u, HU, hu⟩ := strIs_mk (textOf 6 s.data.toList p l)
  have HUN := Lib.hid hu
  have hsz : u.size ≤ l.length / 3 * 4 + 4 := by rw [HU.size, textOf_length6]; exact lenN6_le p l.length
  have HDE : Hid (decOf s.data.toList p st u.data.toList = (l, none)) := dec_text6 HVP.out st l _ (by rw [show u.data.toList = _ from HU]; exact text6_strip HVP.out l)
  clear HU hu
  go_enter Try.func4, Try.ntmps4
  go_wp2_with fail
  refine (valid6_any s p _ HS.out).mono ?_
  rintro e w1 ⟨rfl, rfl⟩
  rw [HV.out]
  go_wp2_with fail
  refine (encode64I s p v l _ HVP.out HY.out (by omega)).mono ?_
  rintro e w2 ⟨rfl, hb2⟩
  rw [HUN.out]
  have HB2 := Lib.hid hb2
  clear hb2
  go_wp2_with fail
  refine (decode64I s p st u _ HVP.out (by omega)).mono ?_
  rintro e w3 ⟨g3, c3, he, hy3, hb3⟩
  rw [HDE.out] at he hy3
  subst he
  have HY3 := Lib.hid hy3
  have HYl := Lib.hid (HY.out.below (below_trans' HB2.out hb3))
  have HB3 := Lib.hid (below_trans' HB2.out hb3)
  clear hy3 hb3 HB2
  simp only [okOf, numOf, Option.isNone_none]
  go_wp2_with fail
  refine (same_any _ _ l l _ HY3.out HYl.out).mono ?_
  rintro e w4 ⟨rfl, q4, rfl⟩
  go_wp2
  go_ret
  exact ⟨ret_bool (by simp), below_drewN HB3.out q4⟩

end Go.Proofs.Ytppajccbeocpcaa
