/-
  The walk of the law EncodeInto: it returns true. Conditions: strings and slices hold at most 2 ^ 47 - 4096 bytes.
-/
import Derived.Test.YtidpibcopldfpaaLawsF7
import Derived.Test.YtidpibcopldfpaaDecD
import Derived.Deep.RegionHeld3
namespace Go.Proofs.Ytidpibcopldfpaa
open Go.RowKit
set_option linter.unusedVariables false

theorem hidDrew {a w : World} (h : Hid (Below a.heap.size a w)) : Hid (Below a.heap.size a w.drew) := h.out.drew

theorem hidTrans {a w w' : World} (h : Hid (Below a.heap.size a w)) (h' : Below w.heap.size w w') : Hid (Below a.heap.size a w') := below_trans' h.out h'

set_option maxHeartbeats 1000000 in
set_option maxRecDepth 100000 in
theorem law_FnEncodeInto32 (s : ByteArray) (p : Int) (vd : Value) (d : List UInt8) (v : Value) (l : List UInt8) (w : World) (hs : s.size ≤ 140737488351232) (_ : (Lit.int .i64 p).wf = true) (hbd : Bys w vd d) (hd : d.length ≤ 140737488351232) (hb : Bys w v l) (hl : l.length ≤ 140737488351232) :
    Calls Try.prog 5 #[.string s, .int .i64 p, vd, v] w fun e w' => e = .returned (.bool true) ∧ Below w.heap.size w w' := by
  have HS : Hid (s.size ≤ maxLen) := by show _ ≤ _; unfold maxLen; omega
  have HYD := Lib.hid hbd
  have HY := Lib.hid hb
  obtain ⟨A1, c1, rfl, hc1, hcm1, hA1⟩ := hbd
  have HA1 := Lib.hid hA1
  unfold maxLen at hcm1
  obtain ⟨A2, c2, rfl, hc2, hcm2, _⟩ := hb
  unfold maxLen at hcm2
  clear hs hA1
  cases hv : validB 5 s.data.toList p
  · have HV := Lib.hid hv
    clear hv
    go_enter Try.func5, Try.ntmps5
    go_wp2_with fail
    refine (valid5_any s p _ HS.out).mono ?_
    rintro e w1 ⟨rfl, rfl⟩
    rw [HV.out]
    go_wp2
    go_ret
    exact ⟨rfl, Below.refl _ _⟩
  have HV := Lib.hid hv
  have HVP := Lib.hid (validB_true hv)
  clear hv
  obtain ⟨t, HT, ht⟩ := strIs_mk (textOf 5 s.data.toList p l)
  have HTN := Lib.hid ht
  have hts : t.size ≤ 2 * l.length + 8 := by rw [HT.size, textOf_length5]; exact (lenN5_facts p l.length).2.2.2.2
  have HTS : Hid (lenN 5 p l.length = t.size) := by show _ = _; rw [HT.size, textOf_length5]
  have HTL : Hid ((textOf 5 s.data.toList p l).length = t.size) := by show _ = _; rw [HT.size]
  have HEN : Hid (encLen32 p (l.length : Int) = (t.size : Int)) := by show _ = _; rw [encLen32_lenN p l.length HVP.out.2.1, HTS.out]
  have HLN : Hid (lenOf 5 p (l.length : Int) = (t.size : Int)) := by show _ = _; rw [lenOf5_N, HTS.out]
  clear HT ht
  by_cases hroom : d.length < t.size
  · have hdr : decide (d.length < t.size) = true := by simpa using hroom
    go_enter Try.func5, Try.ntmps5
    go_wp2_with fail
    refine (valid5_any s p _ HS.out).mono ?_
    rintro e w1 ⟨rfl, rfl⟩
    rw [HV.out]
    go_wp2_with fail
    refine (length5_any p (l.length : Int) _ (by omega) (by omega)).mono ?_
    rintro e w4 ⟨rfl, q, rfl⟩
    rw [HLN.out]
    go_wp2
    go_ret
    exact ⟨rfl, below_drewN (Below.refl _ _) q⟩
  have hdr : decide (d.length < t.size) = false := by simpa using hroom
  go_enter Try.func5, Try.ntmps5
  go_wp2_with fail
  refine (valid5_any s p _ HS.out).mono ?_
  rintro e w1 ⟨rfl, rfl⟩
  rw [HV.out]
  go_wp2_with fail
  refine (length5_any p (l.length : Int) _ (by omega) (by omega)).mono ?_
  rintro e w4 ⟨rfl, q, rfl⟩
  rw [HLN.out]
  go_wp2_with fail
  refine (encodeInto32I s p _ d _ l _ HVP.out (HYD.out.below (below_drewN (Below.refl _ w) q)) (by omega) (HY.out.below (below_drewN (Below.refl _ w) q)) (by rw [HTS.out]; omega)).mono ?_
  rintro e w2 ⟨g2, k2, rfl, hy2, hb2⟩
  rw [HTS.out] at hy2
  have hk2 : d.length ≤ k2 ∧ k2 ≤ maxLen := by
    obtain ⟨A', c', e, h1, h2, _⟩ := hy2
    simp only [Value.slice.injEq] at e
    obtain ⟨_, h3, rfl⟩ := e
    exact ⟨by omega, h2⟩
  obtain ⟨hk2a, hk2b⟩ := hk2
  unfold maxLen at hk2b
  have HY2 := Lib.hid hy2
  have HB2 : Hid (Below w.heap.size w w2) := (below_drewN (Below.refl _ w) q).trans hb2
  clear hy2 hb2
  go_wp2_with fail
  refine (text5_any s p _ l _ HVP.out (HY.out.below HB2.out) hl).mono ?_
  rintro e w3 ⟨rfl, hb3⟩
  rw [HTN.out]
  have HY3 : Hid (Bys w3 (.slice (some ⟨g2, 0, none⟩) d.length k2) (textOf 5 s.data.toList p l ++ d.drop t.size)) := HY2.out.below hb3
  have HB3 := Lib.hid (below_trans' HB2.out hb3)
  clear hb3 HB2 HY2
  have HTT2 : Hid ((textOf 5 s.data.toList p l ++ d.drop t.size).drop t.size = d.drop t.size) := by
    show _ = _
    rw [List.drop_append_of_le_length (by rw [HTL.out]; exact Nat.le_refl _), List.drop_eq_nil_of_le (by rw [HTL.out]; exact Nat.le_refl _), List.nil_append]
  have HL3 : Hid ((textOf 5 s.data.toList p l ++ d.drop t.size).length = d.length) := by show _ = _; rw [List.length_append, HTL.out, List.length_drop]; omega
  have hcv : ∀ wx : World, Hid (Below w3.heap.size w3 wx) → (convert 22 9 (.slice (some ⟨g2, 0, none⟩) t.size k2)).run Try.prog wx = .ok (.string t) wx := fun wx hx => by
    have h := run_to_string (P := Try.prog) (w := wx) 22 5 9 Try.underlying22 Try.underlying5 Try.underlying9 _ _ ((HY3.out.below hx.out).head t.size (by rw [HL3.out]; omega))
    rw [List.take_append_of_le_length (by rw [HTL.out]; exact Nat.le_refl _), List.take_of_length_le (by rw [HTL.out]; exact Nat.le_refl _), HTN.out] at h
    exact h
  have HGG : Hid (∀ v4 v1 : Value, Bys w3 v4 (d.drop t.size) → Bys w3 v1 (d.drop t.size) → ∀ w0 : World, Below w3.heap.size w3 w0 → Calls Try.prog 19 #[v4, v1] w0 fun e w' => e = .returned (.bool true) ∧ Below w0.heap.size w0 w') := fun v4 v1 h4 h1 w0 hw0 => by
    refine (same_any _ _ (d.drop t.size) (d.drop t.size) w0 (h4.below hw0) (h1.below hw0)).mono ?_
    rintro e w' ⟨rfl, q, rfl⟩
    exact ⟨by simp, below_drewN (Below.refl _ _) q⟩
  have HD4 : Hid (t.size < d.length → Bys w3 (.slice (some ⟨g2, t.size, none⟩) (d.length - t.size) (k2 - t.size)) (d.drop t.size)) := fun hx => by
    have := HY3.out.tail t.size (by rw [HL3.out]; omega)
    rw [HTT2.out, Nat.zero_add] at this
    exact this
  have HD1 : Hid (t.size < d.length → ∃ b1 o1, A1 = some ⟨b1, o1, none⟩ ∧ Bys w3 (.slice (some ⟨b1, o1 + t.size, none⟩) (d.length - t.size) (c1 - t.size)) (d.drop t.size)) := fun hx => by
    obtain ⟨b1, o1, hA, _, _⟩ := HA1.out (by omega)
    have hyd := HYD.out.below HB3.out
    rw [hA] at hyd
    exact ⟨b1, o1, hA, hyd.tail t.size (by omega)⟩
  have HE0 : Hid (d.length = t.size → d.drop t.size = []) := fun hx => List.drop_eq_nil_of_le (by omega)
  have HEC : Hid (∀ w0 : World, Calls Try.prog 20 #[.string s, .int .i64 p, .int .i64 (l.length : Int)] w0 fun e w' => e = .returned (.int .i64 (t.size : Int)) ∧ Below w0.heap.size w0 w') := fun w0 => by
    have := encodedLen32I s p (l.length : Int) w0 HVP.out (by omega) (by omega)
    rw [HEN.out] at this
    exact this
  have HI : Hid (Below w3.heap.size w3 w3) := Below.refl _ _
  have hkm : k2 ≤ maxLen := by unfold maxLen; omega
  have hcm : c1 ≤ maxLen := by unfold maxLen; omega
  have HKM := Lib.hid hkm
  have HCM := Lib.hid hcm
  clear HTN HYD HA1 HY3 HTT2 HL3 HTL HEN HLN HTS HS HV HVP HY hdr hkm hcm
  generalize d.drop t.size = dr at *
  generalize d.length = n at *
  have z0 : (0 : Int) ≤ (t.size : Int) := by omega
  have z1 : (t.size : Int) ≤ (n : Int) := by omega
  have z2 : (t.size : Int) ≤ (k2 : Int) := by omega
  have z3 : (t.size : Int) ≤ (c1 : Int) := by omega
  have z4 : (n : Int) ≤ (c1 : Int) := by omega
  have z5 : (n : Int) ≤ (k2 : Int) := by omega
  rcases (by omega : t.size < n ∨ n = t.size) with hx | hx
  · obtain ⟨b1, o1, hA, hY1⟩ := HD1.out hx
    have HY1 := Lib.hid hY1
    have HY4 := Lib.hid (HD4.out hx)
    subst hA
    have e1 : ¬ k2 = t.size := by omega
    have e2 : ¬ c1 = t.size := by omega
    clear hY1 HD1 HD4 HE0 HKM HCM
    go_wp2_with fail
    go_region_held3 (fun wx => Hid (Below w3.heap.size w3 wx)) (first | exact hidDrew HI | exact hidTrans (by assumption) hb5) (first
      | (go_at_call 19; refine (HGG.out _ _ HY4.out HY1.out _ (Hid.out (by assumption))).mono ?_; rintro e w5 ⟨rfl, hb5⟩)
      | (go_at_call 20; refine (HEC.out _).mono ?_; rintro e w6 ⟨rfl, hb5⟩))
    go_wp2
    go_ret
    exact ⟨rfl, below_trans' HB3.out (Hid.out (by assumption))⟩
  · have hE := HE0.out hx
    subst hx hE
    clear HD1 HD4 HE0
    by_cases e1 : k2 = t.size
    · subst e1
      by_cases e2 : c1 = t.size
      · subst e2
        go_wp2_with fail
        go_region_held3 (fun wx => Hid (Below w3.heap.size w3 wx)) (first | exact hidDrew HI | exact hidTrans (by assumption) hb5) (first
          | (go_at_call 19; refine (HGG.out _ _ (Bys.none_ ?_) (Bys.none_ ?_) _ (Hid.out (by assumption))).mono ?_; (first | exact Nat.zero_le _ | exact Nat.le_trans (Nat.sub_le _ _) HKM.out); (first | exact Nat.zero_le _ | exact Nat.le_trans (Nat.sub_le _ _) HCM.out); rintro e w5 ⟨rfl, hb5⟩)
          | (go_at_call 20; refine (HEC.out _).mono ?_; rintro e w6 ⟨rfl, hb5⟩))
        go_wp2
        go_ret
        exact ⟨rfl, below_trans' HB3.out (Hid.out (by assumption))⟩
      · skip
        go_wp2_with fail
        go_region_held3 (fun wx => Hid (Below w3.heap.size w3 wx)) (first | exact hidDrew HI | exact hidTrans (by assumption) hb5) (first
          | (go_at_call 19; refine (HGG.out _ _ (Bys.none_ ?_) (Bys.none_ ?_) _ (Hid.out (by assumption))).mono ?_; (first | exact Nat.zero_le _ | exact Nat.le_trans (Nat.sub_le _ _) HKM.out); (first | exact Nat.zero_le _ | exact Nat.le_trans (Nat.sub_le _ _) HCM.out); rintro e w5 ⟨rfl, hb5⟩)
          | (go_at_call 20; refine (HEC.out _).mono ?_; rintro e w6 ⟨rfl, hb5⟩))
        go_wp2
        go_ret
        exact ⟨rfl, below_trans' HB3.out (Hid.out (by assumption))⟩
    · by_cases e2 : c1 = t.size
      · subst e2
        go_wp2_with fail
        go_region_held3 (fun wx => Hid (Below w3.heap.size w3 wx)) (first | exact hidDrew HI | exact hidTrans (by assumption) hb5) (first
          | (go_at_call 19; refine (HGG.out _ _ (Bys.none_ ?_) (Bys.none_ ?_) _ (Hid.out (by assumption))).mono ?_; (first | exact Nat.zero_le _ | exact Nat.le_trans (Nat.sub_le _ _) HKM.out); (first | exact Nat.zero_le _ | exact Nat.le_trans (Nat.sub_le _ _) HCM.out); rintro e w5 ⟨rfl, hb5⟩)
          | (go_at_call 20; refine (HEC.out _).mono ?_; rintro e w6 ⟨rfl, hb5⟩))
        go_wp2
        go_ret
        exact ⟨rfl, below_trans' HB3.out (Hid.out (by assumption))⟩
      · skip
        go_wp2_with fail
        go_region_held3 (fun wx => Hid (Below w3.heap.size w3 wx)) (first | exact hidDrew HI | exact hidTrans (by assumption) hb5) (first
          | (go_at_call 19; refine (HGG.out _ _ (Bys.none_ ?_) (Bys.none_ ?_) _ (Hid.out (by assumption))).mono ?_; (first | exact Nat.zero_le _ | exact Nat.le_trans (Nat.sub_le _ _) HKM.out); (first | exact Nat.zero_le _ | exact Nat.le_trans (Nat.sub_le _ _) HCM.out); rintro e w5 ⟨rfl, hb5⟩)
          | (go_at_call 20; refine (HEC.out _).mono ?_; rintro e w6 ⟨rfl, hb5⟩))
        go_wp2
        go_ret
        exact ⟨rfl, below_trans' HB3.out (Hid.out (by assumption))⟩

end Go.Proofs.Ytidpibcopldfpaa
