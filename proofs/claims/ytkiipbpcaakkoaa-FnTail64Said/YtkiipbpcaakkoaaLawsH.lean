/-
  The walks of laws on decoding of texts: each returns true. Conditions: strings and slices hold at most 2 ^ 47 - 4096 bytes.
-/
import Derived.Test.YtkiipbpcaakkoaaLawsG
import Derived.Test.YtkiipbpcaakkoaaHelpD
import Derived.Deep.RegionWith
import Derived.BigRegion
namespace Go.Proofs.Ytkiipbpcaakkoaa
open Go.RowKit
set_option linter.unusedVariables false

theorem decode64_ok (s : ByteArray) (p : Int) (st : Bool) (t : ByteArray) (l : List UInt8) (w : World) (hv : validP 6 s.data.toList p) (ht : t.size ≤ 281474976710656) (h : decOf s.data.toList p st t.data.toList = (l, none)) :
    Calls Try.prog 14 #[.string s, .int .i64 p, .bool st, .string t] w (DecOk l w) := by
  have := decode64I s p st t w hv ht
  rw [h] at this
  exact this
theorem decode64_no (s : ByteArray) (p : Int) (st : Bool) (t : ByteArray) (l : List UInt8) (n : Int) (w : World) (hv : validP 6 s.data.toList p) (ht : t.size ≤ 281474976710656) (h : decOf s.data.toList p st t.data.toList = (l, some n)) :
    Calls Try.prog 14 #[.string s, .int .i64 p, .bool st, .string t] w (DecNo l n w) := by
  have := decode64I s p st t w hv ht
  rw [h] at this
  exact this
theorem decode64_okW (s : ByteArray) (p : Int) (st : Bool) (t : ByteArray) (l : List UInt8) (w : World) (hv : validP 6 s.data.toList p) (ht : t.size ≤ 375299968947541) (h : decOf s.data.toList p st t.data.toList = (l, none)) :
    Calls Try.prog 14 #[.string s, .int .i64 p, .bool st, .string t] w (DecOk l w) := by
  have := decode64W s p st t w hv ht
  rw [h] at this
  exact this
theorem decode64_noW (s : ByteArray) (p : Int) (st : Bool) (t : ByteArray) (l : List UInt8) (n : Int) (w : World) (hv : validP 6 s.data.toList p) (ht : t.size ≤ 375299968947541) (h : decOf s.data.toList p st t.data.toList = (l, some n)) :
    Calls Try.prog 14 #[.string s, .int .i64 p, .bool st, .string t] w (DecNo l n w) := by
  have := decode64W s p st t w hv ht
  rw [h] at this
  exact this
/-- A text that is not well formed is refused. -/
theorem dec_not {a : List UInt8} {p : Int} (hv : validP 6 a p) (st : Bool) (s : List UInt8) (h : fineB 6 a p (strip s) = false) : ∃ l n, decOf a p st s = (l, some n) := by
  have h1 := (decOf_spec st hv s).1
  rw [h, Bool.false_and] at h1
  cases h2 : (decOf a p st s).2 with
  | none => have := h1.1 h2; cases this
  | some n => exact ⟨(decOf a p st s).1, n, by rw [← h2]⟩

set_option maxHeartbeats 400000 in
theorem law_FnNewlines64 (s : ByteArray) (p : Int) (st : Bool) (v : Value) (l : List UInt8) (kI : Int) (n : ByteArray) (w : World) (hs : s.size ≤ 140737488351232) (_ : (Lit.int .i64 p).wf = true) (_ : True) (hb : Bys w v l) (hl : l.length ≤ 140737488351232) (_ : (Lit.int .i64 kI).wf = true) (hn : n.size ≤ 140737488351232) :
    Calls Try.prog 5 #[.string s, .int .i64 p, .bool st, v, .int .i64 kI, .string n] w fun e w' => e = .returned (.bool true) ∧ Below w.heap.size w w' := by
  have HS : Hid (s.size ≤ maxLen) := by show _ ≤ _; unfold maxLen; omega
  clear hs
  have HY := Lib.hid hb
  obtain ⟨A1, c1, rfl, hc1, hcm1, _⟩ := hb
  unfold maxLen at hcm1
  cases hv : validB 6 s.data.toList p
  · have HV := Lib.hid hv
    clear hv
    go_enter Try.func5, Try.ntmps5
    go_wp2_with fail
    refine (valid6_any s p _ HS.out).mono ?_
    rintro e w1 ⟨rfl, rfl⟩
    rw [HV.out]
    go_wp2
    go_ret
    exact ⟨rfl, Below.refl _ _⟩
  have HV := Lib.hid hv
  have HVP := Lib.hid (validB_true hv)
  clear hv
  by_cases hk0 : kI < 0
  · go_enter Try.func5, Try.ntmps5
    go_wp2_with fail
    refine (valid6_any s p _ HS.out).mono ?_
    rintro e w1 ⟨rfl, rfl⟩
    rw [HV.out]
    go_wp2
    go_ret
    exact ⟨rfl, Below.refl _ _⟩
  obtain ⟨k, rfl⟩ : ∃ k : Nat, kI = (k : Int) := ⟨kI.toNat, by omega⟩
  clear hk0
  obtain ⟨t, HT, ht⟩ := strIs_mk (textOf 6 s.data.toList p l)
  have HTN := Lib.hid ht
  have HTD : Hid (t.data.toList = textOf 6 s.data.toList p l) := HT
  have hts : t.size ≤ 2 * l.length + 8 := by rw [HT.size, textOf_length6]; exact (lenN6_facts p l.length).2.2.2.2
  have HLN : Hid (lenOf 6 p (l.length : Int) = (t.size : Int)) := by show _ = _; rw [lenOf6_N, HT.size, textOf_length6]
  have HTW : Hid (6 * t.size ≤ 8 * l.length + 50) := by
    show _ ≤ _
    have h1 := (lenN6_facts p l.length).2.1
    have h2 := charsN6_wide l.length
    rw [HT.size, textOf_length6]
    omega
  clear HT ht
  by_cases hk1 : t.size < k
  · go_enter Try.func5, Try.ntmps5
    go_wp2_with fail
    refine (valid6_any s p _ HS.out).mono ?_
    rintro e w1 ⟨rfl, rfl⟩
    rw [HV.out]
    go_wp2_with fail
    refine (length6_any p (l.length : Int) _ (by omega) (by omega)).mono ?_
    rintro e w4 ⟨rfl, q, rfl⟩
    rw [HLN.out]
    go_wp2
    go_ret
    exact ⟨rfl, below_drewN (Below.refl _ _) q⟩
  obtain ⟨u, HU, hu⟩ := strIs_mk (strip n.data.toList)
  have HUN := Lib.hid hu
  have HUD : Hid (u.data.toList = strip n.data.toList) := HU
  clear HU hu
  by_cases hst : strip n.data.toList = []
  · have HST := Lib.hid hst
    have hu0 : u = ⟨#[]⟩ := str_ext (by rw [HUD.out, hst])
    have HU0 := Lib.hid hu0
    clear hst hu0
    have HDE : Hid (decOf s.data.toList p st (t.extract 0 k ++ n ++ t.extract k t.size).data.toList = (l, none)) := by
      refine dec_text6 HVP.out st _ _ ?_
      rw [append_data, append_data, extract0_data, extract_tail_data, HTD.out]
      exact text6_lines HVP.out l k _ HST.out
    have HES : Hid ((t.extract 0 k ++ n ++ t.extract k t.size).size ≤ 375299968947541) := by
      show _ ≤ _
      have htw := HTW.out
      have hts2 := size_data t
      have hns2 := size_data n
      rw [size_data, append_data, append_data, extract0_data, extract_tail_data]
      simp only [List.length_append, List.length_take, List.length_drop]
      omega
    go_enter Try.func5, Try.ntmps5
    go_wp2_with fail
    refine (valid6_any s p _ HS.out).mono ?_
    rintro e w1 ⟨rfl, rfl⟩
    rw [HV.out]
    go_wp2_with fail
    refine (length6_any p (l.length : Int) _ (by omega) (by omega)).mono ?_
    rintro e w4 ⟨rfl, q, rfl⟩
    rw [HLN.out]
    go_wp2_with fail
    refine (stripped_any n _ (by omega)).mono ?_
    rintro e w2 ⟨rfl, hb2⟩
    rw [HUN.out, HU0.out]
    have HB2 : Hid (Below w.heap.size w w2) := (below_drewN (Below.refl _ w) q).trans hb2
    clear hb2
    go_wp2_with fail
    refine (text6_any s p _ l _ HVP.out (HY.out.below HB2.out) (by omega)).mono ?_
    rintro e w3 ⟨rfl, hb3⟩
    rw [HTN.out]
    have HB3 := Lib.hid (below_trans' HB2.out hb3)
    clear hb3 HB2
    have z1 : (k : Int) ≤ (t.size : Int) := by omega
    have z0 : (0 : Int) ≤ (k : Int) := by omega
    go_wp2_with fail
    go_region_with (first
      | (go_at_call 14; refine (decode64_okW s p st (t.extract 0 k ++ n ++ t.extract k t.size) l _ HVP.out HES.out HDE.out).mono ?_; rintro e w5 ⟨g5, c5, rfl, hy5, hb5⟩))
    have HY5 := Lib.hid hy5
    have HYl := Lib.hid (HY.out.below (below_trans' HB3.out.drew hb5))
    have HB5 := Lib.hid (below_trans' HB3.out.drew hb5)
    clear hy5 hb5 HB3
    go_wp2_with fail
    refine (same_any _ _ l l _ HY5.out HYl.out).mono ?_
    rintro e w6 ⟨rfl, q6, rfl⟩
    go_wp2
    go_ret
    exact ⟨ret_bool (by simp), below_drewN HB5.out q6⟩
  · have hu0 : (!u.toList.isEmpty) = true := by
      rw [Lib.toList_data, HUD.out]
      cases h : strip n.data.toList with
      | nil => exact absurd h hst
      | cons _ _ => rfl
    clear hst
    go_enter Try.func5, Try.ntmps5
    go_wp2_with fail
    refine (valid6_any s p _ HS.out).mono ?_
    rintro e w1 ⟨rfl, rfl⟩
    rw [HV.out]
    go_wp2_with fail
    refine (length6_any p (l.length : Int) _ (by omega) (by omega)).mono ?_
    rintro e w4 ⟨rfl, q, rfl⟩
    rw [HLN.out]
    go_wp2_with fail
    refine (stripped_any n _ (by omega)).mono ?_
    rintro e w2 ⟨rfl, hb2⟩
    rw [HUN.out]
    have HB2 : Hid (Below w.heap.size w w2) := (below_drewN (Below.refl _ w) q).trans hb2
    clear hb2
    go_wp2
    go_ret
    exact ⟨rfl, HB2.out⟩

end Go.Proofs.Ytkiipbpcaakkoaa
