/-
  The walk of the law DecodeTail32: it returns true. Conditions: strings and slices hold at most 2 ^ 47 - 4096 bytes.
-/
import Derived.Test.YtanebcdhjkpnjaaLawsM
namespace Go.Proofs.Ytanebcdhjkpnjaa
open Go.RowKit
set_option linter.unusedVariables false

set_option maxHeartbeats 1000000 in
theorem law_FnDecodeTail32 (s : ByteArray) (p : Int) (vd : Value) (d : List UInt8) (t : ByteArray) (w : World) (hs : s.size ≤ 140737488351232) (_ : (Lit.int .i64 p).wf = true) (hbd : Bys w vd d) (hd : d.length ≤ 140737488351232) (ht : t.size ≤ 140737488351232) :
    Calls Try.prog 4 #[.string s, .int .i64 p, vd, .string t] w fun e w' => e = .returned (.bool true) ∧ Below w.heap.size w w' := by
  have HS : Hid (s.size ≤ maxLen) := by show _ ≤ _; unfold maxLen; omega
  have HTm : Hid (t.size ≤ maxLen) := by show _ ≤ _; unfold maxLen; omega
  clear hs
  have HYD := Lib.hid hbd
  obtain ⟨A1, c1, rfl, hc1, hcm1, hA1⟩ := hbd
  have HA1 := Lib.hid hA1
  clear hA1
  unfold maxLen at hcm1
  cases hv : validB 5 s.data.toList p
  · have HV := Lib.hid hv
    clear hv
    go_enter Try.func4, Try.ntmps4
    go_wp2_with fail
    refine (valid5_any s p _ HS.out).mono ?_
    rintro e w1 ⟨rfl, rfl⟩
    rw [HV.out]
    go_wp2
    go_ret
    exact ⟨rfl, Below.refl _ _⟩
  have HV := Lib.hid hv
  have HVP := Lib.hid (validB_true hv)
  have hp1 := HVP.out.2.1
  clear hv
  cases hcl : cleanB p s.data.toList t.data.toList
  · have HCL := Lib.hid hcl
    clear hcl
    go_enter Try.func4, Try.ntmps4
    go_wp2_with fail
    refine (valid5_any s p _ HS.out).mono ?_
    rintro e w1 ⟨rfl, rfl⟩
    rw [HV.out]
    go_wp2_with fail
    refine (clean32_any p s t _ HS.out HTm.out).mono ?_
    rintro e w1 ⟨rfl, rfl⟩
    rw [HCL.out]
    go_wp2
    go_ret
    exact ⟨rfl, Below.refl _ _⟩
  have HCL := Lib.hid hcl
  have HCN : Hid (CleanA s.data.toList p) := cleanB_a hcl
  clear hcl
  have hL : t.data.toList.length = t.size := by simp
  have HL := Lib.hid hL
  have hle := dec32_room s.data.toList p t.data.toList
  have hrs := roomN5_small p t.data.toList.length
  rw [hL] at hle hrs
  have HF := Lib.hid (dec32_facts HVP.out HCN.out t.data.toList)
  clear hL
  obtain ⟨M, hM⟩ : ∃ M, M = roomN5 p t.size := ⟨_, rfl⟩
  rw [← hM] at hle hrs
  have HM := Lib.hid hM
  clear hM
  by_cases hroom : d.length < M
  · go_enter Try.func4, Try.ntmps4
    go_wp2_with fail
    refine (valid5_any s p _ HS.out).mono ?_
    rintro e w1 ⟨rfl, rfl⟩
    rw [HV.out]
    go_wp2_with fail
    refine (clean32_any p s t _ HS.out HTm.out).mono ?_
    rintro e w1 ⟨rfl, rfl⟩
    rw [HCL.out]
    go_wp2_with fail
    refine (room5_any p t.size _ hp1 (by omega)).mono ?_
    rintro e w2 ⟨rfl, q2, rfl⟩
    rw [← HM.out]
    go_wp2
    go_ret
    exact ⟨rfl, below_drewN (Below.refl _ _) q2⟩
  have hdr : decide (d.length < M) = false := by simpa using hroom
  go_enter Try.func4, Try.ntmps4
  go_wp2_with fail
  refine (valid5_any s p _ HS.out).mono ?_
  rintro e w1 ⟨rfl, rfl⟩
  rw [HV.out]
  go_wp2_with fail
  refine (clean32_any p s t _ HS.out HTm.out).mono ?_
  rintro e w1 ⟨rfl, rfl⟩
  rw [HCL.out]
  go_wp2_with fail
  refine (room5_any p t.size _ hp1 (by omega)).mono ?_
  rintro e w2 ⟨rfl, q2, rfl⟩
  rw [← HM.out]
  obtain ⟨c2, w3, hc21, hc22, hcv, HB3, HY3, _, _⟩ := conv_bys (P := Try.prog) (w.drewN q2) 9 22 5 t Try.underlying9 Try.underlying22 Try.underlying5 (by omega)
  have HBw3 : Hid (Below w.heap.size w w3) := (below_drewN (Below.refl _ w) q2).trans HB3.out
  go_wp2_with fail
  refine (decodeInto32I s p _ d _ t.data.toList _ HVP.out (HYD.out.below HBw3.out) hd HY3.out (by omega) (by rw [HL.out]; omega)).mono ?_
  rintro e w4 ⟨g4, c4, rfl, hy4, hb4⟩
  have HY4 := Lib.hid hy4
  have hc4 : d.length ≤ c4 ∧ c4 ≤ maxLen := by
    obtain ⟨A', c', e, h1, h2, _⟩ := hy4
    simp only [Value.slice.injEq] at e
    obtain ⟨_, h3, rfl⟩ := e
    exact ⟨by omega, h2⟩
  obtain ⟨hc4a, hc4b⟩ := hc4
  unfold maxLen at hc4b
  have HB4 := Lib.hid (below_trans' HBw3.out hb4)
  clear hy4 hb4 hcv HB3 HY3 HBw3
  go_wp2_with fail
  refine (decoded5_any s t p _ HVP.out (by omega)).mono ?_
  rintro e w5 ⟨v5, rfl, hy5, hb5⟩
  have HY5 := Lib.hid hy5
  have HY4' := Lib.hid (HY4.out.below hb5)
  have HB5 := Lib.hid (below_trans' HB4.out hb5)
  clear hy5 hb5 HY4 HB4
  generalize hR : dec32 s.data.toList p t.data.toList = R at *
  generalize hFB : fineB 5 s.data.toList p (strip t.data.toList) = FB at *
  generalize hUZ : (unF (numsOf s.data.toList (strip t.data.toList)) == 0) = UZ at *
  clear hR hFB hUZ
  obtain ⟨bs, err⟩ := R
  simp only at HF hle HY4' ⊢
  generalize okOf err = OK at *
  have hg1 : decide (bs.length ≤ M) = true := by simpa using hle
  have HDR : Hid ((bs ++ d.drop bs.length).drop M = d.drop M) := by
    show _ = _
    rw [List.drop_append, List.drop_eq_nil_of_le hle, List.nil_append, List.drop_drop]
    congr 1
    omega
  have HOK : Hid (FB = true → OK = true) := fun h => (HF.out h).1
  clear HF HY5
  go_wp2_with fail
  refine (room5_any p t.size _ hp1 (by omega)).mono ?_
  rintro e w6 ⟨rfl, q6, rfl⟩
  rw [← HM.out]
  have HL4 : Hid ((bs ++ d.drop bs.length).length = d.length) := by show _ = _; rw [List.length_append, List.length_drop]; omega
  have HT2 : Hid (M < c4 → Bys (w5.drewN q6) (.slice (some ⟨g4, M, none⟩) (d.length - M) (c4 - M)) (d.drop M)) := fun h => by
    have := (HY4'.out.below (below_drewN (Below.refl _ w5) q6)).tail M (by rw [HL4.out]; omega)
    rw [HDR.out, Nat.zero_add] at this
    exact this
  have HT1 : Hid (∀ b1 o1 : Nat, A1 = some ⟨b1, o1, none⟩ → Bys (w5.drewN q6) (.slice (some ⟨b1, o1 + M, none⟩) (d.length - M) (c1 - M)) (d.drop M)) := fun b1 o1 hA => by
    subst hA
    exact (HYD.out.below (below_drewN HB5.out q6)).tail M (by omega)
  have HBz := Lib.hid (below_drewN HB5.out q6)
  clear HYD HY4' HB5
  generalize w5.drewN q6 = wz at *
  have HG : ∀ (B1 B4 : Option Addr), (∀ b1 o1 : Nat, A1 = some ⟨b1, o1, none⟩ → M < c1 → B1 = some ⟨b1, o1 + M, none⟩) → (M < c4 → B4 = some ⟨g4, M, none⟩) → ∀ n : Nat, Calls Try.prog 16 #[.slice B4 (d.length - M) (c4 - M), .slice B1 (d.length - M) (c1 - M)] (wz.drewN n) fun e w' => e = .returned (.bool true) ∧ ∃ m, w' = wz.drewN m := by
    intro B1 B4 h1 h4 n
    have Y1 : Bys wz (.slice B1 (d.length - M) (c1 - M)) (d.drop M) := by
      rcases Nat.eq_zero_or_pos (d.length - M) with hx | hx
      · have e0 : d.drop M = [] := List.drop_eq_nil_of_le (by omega)
        rw [e0, hx]
        exact Bys.none_ (by unfold maxLen; omega)
      · obtain ⟨b1, o1, hA, _, _⟩ := HA1.out (by omega)
        rw [h1 b1 o1 hA (by omega)]; exact HT1.out b1 o1 hA
    have Y4 : Bys wz (.slice B4 (d.length - M) (c4 - M)) (d.drop M) := by
      rcases Nat.eq_zero_or_pos (d.length - M) with hx | hx
      · have e0 : d.drop M = [] := List.drop_eq_nil_of_le (by omega)
        rw [e0, hx]
        exact Bys.none_ (by unfold maxLen; omega)
      · rw [h4 (by omega)]; exact HT2.out (by omega)
    refine quiet_draw ((same_any _ _ (d.drop M) (d.drop M) (wz.drewN n) (Y4.below (below_drewN (Below.refl _ wz) n)) (Y1.below (below_drewN (Below.refl _ wz) n))).mono ?_)
    rintro e w' ⟨rfl, q, rfl⟩
    exact ⟨by simp, q, rfl⟩
  have HGG : Hid (∀ n : Nat, Calls Try.prog 16 #[.slice (if c4 = M then some ⟨g4, 0, none⟩ else some ⟨g4, M, none⟩) (d.length - M) (c4 - M), .slice (if c1 = M then A1 else Option.map (fun x => x.add M) A1) (d.length - M) (c1 - M)] (wz.drewN n) fun e w' => e = .returned (.bool true) ∧ ∃ m, w' = wz.drewN m) := fun n => by
    refine HG _ _ ?_ ?_ n
    · intro b1 o1 hA h
      rw [if_neg (by omega), hA, Option.map_some, Addr.add_mid]
    · intro h
      rw [if_neg (by omega)]
  clear HG HT1 HT2
  have z4 : (M : Int) ≤ (d.length : Int) := by omega
  have z5 : (d.length : Int) ≤ (c1 : Int) := by omega
  have z6 : (d.length : Int) ≤ (c4 : Int) := by omega
  cases OK
  · cases FB
    · go_wp2_with fail
      go_quiet ((go_at_call 16; exact HGG.out _))
      go_wp2
      all_goals go_ret
      all_goals exact ⟨ret_bool rfl, below_drewN HBz.out _⟩
    · have hu := HOK.out rfl
      cases hu
  · go_wp2_with fail
    go_quiet ((go_at_call 16; exact HGG.out _))
    go_wp2
    all_goals go_ret
    all_goals exact ⟨ret_bool rfl, below_drewN HBz.out _⟩

end Go.Proofs.Ytanebcdhjkpnjaa
