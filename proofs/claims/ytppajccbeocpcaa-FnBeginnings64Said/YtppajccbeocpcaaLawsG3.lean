/-
  The walk of the law Beginnings64: it returns true. Conditions: strings and slices hold at most 2 ^ 47 - 4096 bytes.
-/
import Derived.Test.YtppajccbeocpcaaLawsG2
namespace Go.Proofs.Ytppajccbeocpcaa
open Go.RowKit
set_option linter.unusedVariables false

theorem lenN6_three (p : Int) (k : Nat) : lenN 6 p (3 * k) = 4 * k := by
  unfold lenN padN
  rw [show grpN 6 = 4 from rfl]
  unfold charsN
  split <;> omega
theorem text6_take (a : List UInt8) (p : Int) (l : List UInt8) (k : Nat) (h : 3 * k ≤ l.length) : (textOf 6 a p l).take (4 * k) = textOf 6 a p (l.take (3 * k)) := by
  have hl : (l.take (3 * k)).length = 3 * k := by simp; omega
  have e := textOf6_append a p (l.take (3 * k)) (l.drop (3 * k)) (by rw [hl]; omega)
  rw [List.take_append_drop] at e
  have ht : (textOf 6 a p (l.take (3 * k))).length = 4 * k := by rw [textOf_length6, hl, lenN6_three]
  rw [e, List.take_append_of_le_length (by omega), List.take_of_length_le (by omega)]

set_option maxHeartbeats 400000 in
theorem law_FnBeginnings64 (s : ByteArray) (p : Int) (st : Bool) (v : Value) (l : List UInt8) (kI : Int) (w : World) (hs : s.size ≤ 140737488351232) (_ : (Lit.int .i64 p).wf = true) (_ : True) (hb : Bys w v l) (hl : l.length ≤ 140737488351232) (_ : (Lit.int .i64 kI).wf = true) :
    Calls Try.prog 12 #[.string s, .int .i64 p, .bool st, v, .int .i64 kI] w fun e w' => e = .returned (.bool true) ∧ Below w.heap.size w w' := by
  have HS : Hid (s.size ≤ maxLen) := by show _ ≤ _; unfold maxLen; omega
  clear hs
  have HY := Lib.hid hb
  obtain ⟨A1, c1, rfl, hc1, hcm1, _⟩ := hb
  unfold maxLen at hcm1
  cases hv : validB 6 s.data.toList p
  · have HV := Lib.hid hv
    clear hv
    go_enter Try.func12, Try.ntmps12
    go_wp2_with fail
    refine (valid6_any s p _ HS.out).mono ?_
    rintro e w1 ⟨rfl, rfl⟩
    rw [HV.out]
    go_wp2
    go_ret
    exact ⟨rfl, Below.refl _ _⟩
  have HV := Lib.hid hv
  have HVP := Lib.hid (validB_true hv)
  clear hv
  by_cases hk0 : kI < 0
  · go_enter Try.func12, Try.ntmps12
    go_wp2_with fail
    refine (valid6_any s p _ HS.out).mono ?_
    rintro e w1 ⟨rfl, rfl⟩
    rw [HV.out]
    go_wp2
    go_ret
    exact ⟨rfl, Below.refl _ _⟩
  by_cases hk1 : (l.length : Int) / 3 < kI
  · go_enter Try.func12, Try.ntmps12
    go_wp2_with fail
    refine (valid6_any s p _ HS.out).mono ?_
    rintro e w1 ⟨rfl, rfl⟩
    rw [HV.out]
    go_wp2
    go_ret
    exact ⟨rfl, Below.refl _ _⟩
  obtain ⟨k, rfl⟩ : ∃ k : Nat, kI = (k : Int) := ⟨kI.toNat, by omega⟩
  have hk3 : 3 * k ≤ l.length := by omega
  have hkc : 3 * k ≤ c1 := by omega
  obtain ⟨u, HU, hu⟩ := strIs_mk (textOf 6 s.data.toList p l)
  have HUN := Lib.hid hu
  have hsz : u.size ≤ l.length / 3 * 4 + 4 := by rw [HU.size, textOf_length6]; exact lenN6_le p l.length
  have HTK := text6_take s.data.toList p l k hk3
  have hlen4 : 4 * k ≤ u.size := by
    have h1 := congrArg List.length HTK
    rw [textOf_length6, List.length_take, ← HU.size, List.length_take, Nat.min_eq_left hk3, lenN6_three] at h1
    omega
  have HDE : Hid (decOf s.data.toList p st (u.extract 0 (4 * k)).data.toList = (l.take (3 * k), none)) := by
    refine dec_text6 HVP.out st _ _ ?_
    rw [extract0_data, show u.data.toList = _ from HU, HTK]
    exact text6_strip HVP.out _
  have HES : Hid ((u.extract 0 (4 * k)).size ≤ 281474976710656) := by
    show _ ≤ _
    have h1 : (u.extract 0 (4 * k)).size = (u.extract 0 (4 * k)).data.toList.length := by simp
    rw [h1, extract0_data, List.length_take]
    omega
  have HHD := Lib.hid (HY.out.head (3 * k) hk3)
  have t4 : ((4 : Int) * (k : Int)).toNat = 4 * k := by omega
  have t3 : ((3 : Int) * (k : Int)).toNat = 3 * k := by omega
  clear HU hu HTK hk0 hk1
  generalize l.take (3 * k) = d at HDE HHD
  go_enter Try.func12, Try.ntmps12
  go_wp2_with fail
  refine (valid6_any s p _ HS.out).mono ?_
  rintro e w1 ⟨rfl, rfl⟩
  rw [HV.out]
  go_wp2_with fail
  refine (encode64I s p _ l _ HVP.out HY.out (by omega)).mono ?_
  rintro e w2 ⟨rfl, hb2⟩
  rw [HUN.out]
  have HB2 := Lib.hid hb2
  clear hb2
  go_wp2_with fail
  refine (decode64I s p st (u.extract 0 (4 * k)) _ HVP.out HES.out).mono ?_
  rintro e w3 ⟨g3, c3, he, hy3, hb3⟩
  rw [HDE.out] at he hy3
  subst he
  have HY3 := Lib.hid hy3
  have HYl := Lib.hid (HHD.out.below (below_trans' HB2.out hb3))
  have HB3 := Lib.hid (below_trans' HB2.out hb3)
  clear hy3 hb3 HB2
  simp only [okOf, numOf, Option.isNone_none]
  simp only at HY3
  go_wp2_with fail
  refine (same_any _ _ d d _ HY3.out HYl.out).mono ?_
  rintro e w4 ⟨rfl, q4, rfl⟩
  go_wp2
  go_ret
  exact ⟨ret_bool (by simp), below_drewN HB3.out q4⟩

end Go.Proofs.Ytppajccbeocpcaa
