/-
  The walks of the laws AppendDecode32 and DecodeRoads32: each returns true. Conditions: strings and slices hold at most 1048576 bytes for the first one, 2 ^ 47 - 4096 bytes for the second one.
-/
import Derived.Test.YtanebcdhjkpnjaaLawsM
namespace Go.Proofs.Ytanebcdhjkpnjaa
open Go.RowKit
set_option linter.unusedVariables false

set_option maxHeartbeats 1000000 in
set_option maxRecDepth 100000 in
theorem law_FnAppendDecode32 (s : ByteArray) (p : Int) (vd : Value) (d : List UInt8) (t : ByteArray) (w : World) (hs : s.size ≤ 1048576) (_ : (Lit.int .i64 p).wf = true) (hbd : Bys w vd d) (hd : d.length ≤ 1048576) (ht : t.size ≤ 1048576) :
    Calls Try.prog 6 #[.string s, .int .i64 p, vd, .string t] w fun e w' => e = .returned (.bool true) ∧ Below w.heap.size w w' := by
  have HS : Hid (s.size ≤ maxLen) := by show _ ≤ _; unfold maxLen; omega
  clear hs
  have HTm : Hid (t.size ≤ maxLen) := by show _ ≤ _; unfold maxLen; omega
  have HYD := Lib.hid hbd
  obtain ⟨A1, c1, rfl, hc1, hcm1, _⟩ := hbd
  unfold maxLen at hcm1
  cases hv : validB 5 s.data.toList p
  · have HV := Lib.hid hv
    clear hv
    go_enter Try.func6, Try.ntmps6
    go_wp2_with fail
    refine (valid5_any s p _ HS.out).mono ?_
    rintro e w1 ⟨rfl, rfl⟩
    rw [HV.out]
    go_wp2
    go_ret
    exact ⟨rfl, Below.refl _ _⟩
  have HV := Lib.hid hv
  have HVP := Lib.hid (validB_true hv)
  have hp1 := HVP.out.2.1
  clear hv
  cases hcl : cleanB p s.data.toList t.data.toList
  · have HCL := Lib.hid hcl
    clear hcl
    go_enter Try.func6, Try.ntmps6
    go_wp2_with fail
    refine (valid5_any s p _ HS.out).mono ?_
    rintro e w1 ⟨rfl, rfl⟩
    rw [HV.out]
    go_wp2_with fail
    refine (clean32_any p s t _ HS.out HTm.out).mono ?_
    rintro e w1 ⟨rfl, rfl⟩
    rw [HCL.out]
    go_wp2
    go_ret
    exact ⟨rfl, Below.refl _ _⟩
  have HCL := Lib.hid hcl
  have HCN : Hid (CleanA s.data.toList p) := cleanB_a hcl
  have HCT := Lib.hid (cleanB_b hcl)
  clear hcl
  have hL : t.data.toList.length = t.size := by simp
  have HL := Lib.hid hL
  have hle := dec32_room s.data.toList p t.data.toList
  have hrs := roomN5_small p t.data.toList.length
  have hbl : (dec32 s.data.toList p t.data.toList).1.length ≤ t.size := by rw [← hL]; omega
  have HF := Lib.hid (dec32_facts HVP.out HCN.out t.data.toList)
  clear hL hle hrs
  go_enter Try.func6, Try.ntmps6
  go_wp2_with fail
  refine (valid5_any s p _ HS.out).mono ?_
  rintro e w1 ⟨rfl, rfl⟩
  rw [HV.out]
  go_wp2_with fail
  refine (clean32_any p s t _ HS.out HTm.out).mono ?_
  rintro e w1 ⟨rfl, rfl⟩
  rw [HCL.out]
  obtain ⟨c2, w3, hc21, hc22, hcv, HB3, HY3, _, _⟩ := conv_bys (P := Try.prog) w 9 22 5 t Try.underlying9 Try.underlying22 Try.underlying5 (by omega)
  go_wp2_with fail
  refine (appendDecode32I s p _ d _ t.data.toList _ HVP.out (HYD.out.below HB3.out) HY3.out (by rw [HL.out]; omega)).mono ?_
  rintro e w4 ⟨g4, c4, rfl, hy4, hb4⟩
  have HY4 := Lib.hid hy4
  have hc4 : d.length + (dec32 s.data.toList p t.data.toList).1.length ≤ c4 ∧ c4 ≤ maxLen := by
    obtain ⟨A', c', e, h1, h2, _⟩ := hy4
    simp only [Value.slice.injEq] at e
    obtain ⟨_, h3, rfl⟩ := e
    rw [List.length_append] at h3 h1
    exact ⟨by omega, h2⟩
  obtain ⟨hc4a, hc4b⟩ := hc4
  unfold maxLen at hc4b
  have HB4 := Lib.hid (below_trans' HB3.out hb4)
  clear hy4 hb4 hcv HB3 HY3
  go_wp2_with fail
  refine (decoded5_any s t p _ HVP.out (by omega)).mono ?_
  rintro e w5 ⟨v5, rfl, hy5, hb5⟩
  have HY5 := Lib.hid hy5
  have HY4' := Lib.hid (HY4.out.below hb5)
  have HB5 := Lib.hid (below_trans' HB4.out hb5)
  clear hy5 hb5 HY4 HB4
  generalize hR : dec32 s.data.toList p t.data.toList = R at *
  generalize hFB : fineB 5 s.data.toList p (strip t.data.toList) = FB at *
  generalize hUZ : (unF (numsOf s.data.toList (strip t.data.toList)) == 0) = UZ at *
  clear hR hFB hUZ
  obtain ⟨bs, err⟩ := R
  simp only at HF hc4a hbl HY4' ⊢
  generalize okOf err = OK at *
  have HBB := Lib.hid (begins_back d bs)
  go_wp2_with fail
  refine (begins_yes _ _ (d ++ bs) d _ HY4'.out (HYD.out.below HB5.out) (by simp)).mono ?_
  rintro e w6 ⟨rfl, q6, rfl⟩
  rw [HBB.out]
  cases FB
  · cases OK
    all_goals
      go_wp2
      go_ret
      exact ⟨ret_bool rfl, below_drewN HB5.out q6⟩
  · obtain ⟨hok, hbs⟩ := HF.out rfl
    subst hok
    have HBS := Lib.hid hbs
    clear hbs HF
    have HY5' : Hid (Bys (w5.drewN q6) v5 bs) := by have := HY5.out; rw [if_pos rfl, ← HBS.out] at this; exact this
    clear HY5
    rcases (by omega : c4 = d.length ∨ d.length < c4) with hx | hx
    · subst hx
      have hb0 : bs = [] := List.eq_nil_of_length_eq_zero (by omega)
      subst hb0
      have HY6 : Hid (Bys (w5.drewN q6) (.slice (some ⟨g4, 0, none⟩) 0 0) []) := Bys.none_ (Nat.zero_le _)
      cases UZ
      all_goals
        go_wp2_with fail
        refine (same_any _ _ [] [] _ HY6.out HY5'.out).mono ?_
        rintro e w7 ⟨rfl, q7, rfl⟩
        go_wp2
        go_ret
        exact ⟨ret_bool (by simp), below_drewN HB5.out (q6 + q7)⟩
    · have HY6 : Hid (Bys (w5.drewN q6) (.slice (some ⟨g4, d.length, none⟩) bs.length (c4 - d.length)) bs) := by
        have := (HY4'.out.below (below_drewN (Below.refl _ w5) q6)).tail d.length (by simp)
        rw [List.drop_left, Nat.zero_add, Nat.add_sub_cancel_left] at this
        exact this
      clear HY4'
      cases UZ
      all_goals
        go_wp2_with fail
        refine (same_any _ _ bs bs _ HY6.out HY5'.out).mono ?_
        rintro e w7 ⟨rfl, q7, rfl⟩
        go_wp2
        go_ret
        exact ⟨ret_bool (by simp), below_drewN HB5.out (q6 + q7)⟩

set_option maxHeartbeats 1000000 in
set_option maxRecDepth 100000 in
theorem law_FnDecodeRoads32 (s : ByteArray) (p : Int) (t : ByteArray) (w : World) (hs : s.size ≤ 140737488351232) (_ : (Lit.int .i64 p).wf = true) (ht : t.size ≤ 140737488351232) :
    Calls Try.prog 7 #[.string s, .int .i64 p, .string t] w fun e w' => e = .returned (.bool true) ∧ Below w.heap.size w w' := by
  have HS : Hid (s.size ≤ maxLen) := by show _ ≤ _; unfold maxLen; omega
  clear hs
  have HTm : Hid (t.size ≤ maxLen) := by show _ ≤ _; unfold maxLen; omega
  cases hv : validB 5 s.data.toList p
  · have HV := Lib.hid hv
    clear hv
    go_enter Try.func7, Try.ntmps7
    go_wp2_with fail
    refine (valid5_any s p _ HS.out).mono ?_
    rintro e w1 ⟨rfl, rfl⟩
    rw [HV.out]
    go_wp2
    go_ret
    exact ⟨rfl, Below.refl _ _⟩
  have HV := Lib.hid hv
  have HVP := Lib.hid (validB_true hv)
  have hp1 := HVP.out.2.1
  clear hv
  cases hcl : cleanB p s.data.toList t.data.toList
  · have HCL := Lib.hid hcl
    clear hcl
    go_enter Try.func7, Try.ntmps7
    go_wp2_with fail
    refine (valid5_any s p _ HS.out).mono ?_
    rintro e w1 ⟨rfl, rfl⟩
    rw [HV.out]
    go_wp2_with fail
    refine (clean32_any p s t _ HS.out HTm.out).mono ?_
    rintro e w1 ⟨rfl, rfl⟩
    rw [HCL.out]
    go_wp2
    go_ret
    exact ⟨rfl, Below.refl _ _⟩
  have HCL := Lib.hid hcl
  have HCN : Hid (CleanA s.data.toList p) := cleanB_a hcl
  have HCT := Lib.hid (cleanB_b hcl)
  clear hcl
  have hL : t.data.toList.length = t.size := by simp
  have HL := Lib.hid hL
  have hle := dec32_room s.data.toList p t.data.toList
  have hrs := roomN5_small p t.data.toList.length
  rw [hL] at hle hrs
  have HF := Lib.hid (dec32_facts HVP.out HCN.out t.data.toList)
  clear hL
  obtain ⟨M, hM⟩ : ∃ M, M = roomN5 p t.size := ⟨_, rfl⟩
  rw [← hM] at hle hrs
  have HM := Lib.hid hM
  clear hM
  have HLR : Hid ((List.replicate M (0 : UInt8)).length = M) := List.length_replicate
  go_enter Try.func7, Try.ntmps7
  go_wp2_with fail
  refine (valid5_any s p _ HS.out).mono ?_
  rintro e w1 ⟨rfl, rfl⟩
  rw [HV.out]
  go_wp2_with fail
  refine (clean32_any p s t _ HS.out HTm.out).mono ?_
  rintro e w1 ⟨rfl, rfl⟩
  rw [HCL.out]
  go_wp2_with fail
  refine (decode32I s p t _ HVP.out (by omega)).mono ?_
  rintro e w2 ⟨g2, c2, rfl, hy2, hb2⟩
  have HY2 := Lib.hid hy2
  have HB2 := Lib.hid hb2
  clear hy2 hb2
  obtain ⟨k3, w3, hk31, hk32, hcv, HB3, HY3, HZ3, _⟩ := conv_bys (P := Try.prog) (w2.alloc (.cells #[] 5)) 9 22 5 t Try.underlying9 Try.underlying22 Try.underlying5 (by omega)
  have HW2 : Hid (Below w2.heap.size w2 (w2.alloc (.cells #[] 5))) := (Below.refl _ _).alloc (Nat.le_refl _) _
  have HB23 : Hid (Below w2.heap.size w2 w3) := below_trans' HW2.out HB3.out
  have HY0 : Hid (Bys w3 (.slice (some ⟨w2.heap.size, 0, none⟩) 0 0) []) := ((owns_new w2.heap.size (Nat.le_refl _)).bys).below HB3.out
  have hz2 : (w2.alloc (.cells #[] 5)).heap.size = w2.heap.size + 1 := by simp
  rw [hz2] at HY3 hcv
  have HB3' : Hid (Below w.heap.size w w3) := below_trans' HB2.out HB23.out
  clear hz2 HB3 HZ3 HW2
  go_wp2_with fail
  refine (appendDecode32I s p _ [] _ t.data.toList _ HVP.out HY0.out HY3.out (by rw [HL.out]; simp only [List.length_nil]; omega)).mono ?_
  rintro e w4 ⟨g4, c4, rfl, hy4, hb4⟩
  simp only [List.nil_append, List.length_nil, Nat.zero_add] at hy4 ⊢
  have HY4 := Lib.hid hy4
  have HY2' := Lib.hid (HY2.out.below (below_trans' HB23.out hb4))
  have HB4 := Lib.hid (below_trans' HB3'.out hb4)
  clear hy4 hb4 hcv HY3 HY0 HB3' HY2 HB23 HB2
  have hmk := fun w => run_make_bytes (P := Try.prog) 22 5 Try.underlying22 byteInfo M (by omega) w
  go_wp2_with fail
  refine (room5_any p t.size _ hp1 (by omega)).mono ?_
  rintro e w5 ⟨rfl, q5, rfl⟩
  rw [← HM.out]
  have HYM : Hid (Bys ((w4.drewN q5).alloc (.cells (madeCells #[Value.int .u8 0] M) 5)) (.slice (some ⟨w4.heap.size, 0, none⟩) M M) (List.replicate M 0)) := bys_made w4 _ M q5 (by unfold maxLen; omega)
  have HB6 : Hid (Below w.heap.size w ((w4.drewN q5).alloc (.cells (madeCells #[Value.int .u8 0] M) 5))) := below_drewN (HB4.out.alloc HB4.out.size _) q5
  have HB46 : Hid (Below w4.heap.size w4 ((w4.drewN q5).alloc (.cells (madeCells #[Value.int .u8 0] M) 5))) := below_drewN ((Below.refl _ w4).alloc (Nat.le_refl _) _) q5
  obtain ⟨k7, w7, hk71, hk72, hcv7, HB7, HY7, _, _⟩ := conv_bys (P := Try.prog) ((w4.drewN q5).alloc (.cells (madeCells #[Value.int .u8 0] M) 5)) 9 22 5 t Try.underlying9 Try.underlying22 Try.underlying5 (by omega)
  have hz7 : ((w4.drewN q5).alloc (.cells (madeCells #[Value.int .u8 0] M) 5)).heap.size = w4.heap.size + 1 := by simp
  rw [hz7] at HY7 hcv7
  clear hz7
  go_wp2_with fail
  have HLRn := HLR.out
  have hid := decodeInto32I s p _ (List.replicate M 0) _ t.data.toList w7 HVP.out (HYM.out.below HB7.out) (by rw [HLRn]; omega) HY7.out (by rw [HLRn]; omega) (by rw [HL.out]; omega)
  clear hmk hcv7
  refine hid.mono ?_
  rintro e w8 ⟨g8, c8, rfl, hy8, hb8⟩
  rw [HLRn] at hy8 ⊢
  have hc8 : M ≤ c8 ∧ c8 ≤ maxLen := by
    obtain ⟨A', c', e, h1, h2, _⟩ := hy8
    simp only [Value.slice.injEq] at e
    obtain ⟨_, h3, rfl⟩ := e
    exact ⟨by omega, h2⟩
  obtain ⟨hc8a, hc8b⟩ := hc8
  unfold maxLen at hc8b
  have HB78 := Lib.hid (below_trans' HB46.out (below_trans' HB7.out hb8))
  have HB8 := Lib.hid (below_trans' HB6.out (below_trans' HB7.out hb8))
  have HY2'' := Lib.hid (HY2'.out.below HB78.out)
  have HY4' := Lib.hid (HY4.out.below HB78.out)
  have HY8 : Hid (Bys w8 (.slice (some ⟨g8, 0, none⟩) (dec32 s.data.toList p t.data.toList).1.length c8) (dec32 s.data.toList p t.data.toList).1) := by
    have := hy8.head (dec32 s.data.toList p t.data.toList).1.length (by simp)
    rw [List.take_left] at this
    exact this
  clear hy8 hb8 hid HB7 HY7 HYM HB46 HB6 HB78 HY2' HY4 HB4 HLRn
  go_wp2_with fail
  refine (decoded5_any s t p _ HVP.out (by omega)).mono ?_
  rintro e w9 ⟨v9, rfl, _, hb9⟩
  have HB9 := Lib.hid (below_trans' HB8.out hb9)
  have HZ2 := Lib.hid (HY2''.out.below hb9)
  have HZ4 := Lib.hid (HY4'.out.below hb9)
  have HZ8 := Lib.hid (HY8.out.below hb9)
  clear hb9 HB8 HY2'' HY4' HY8
  generalize hR : dec32 s.data.toList p t.data.toList = R at *
  generalize hFB : fineB 5 s.data.toList p (strip t.data.toList) = FB at *
  generalize hUZ : (unF (numsOf s.data.toList (strip t.data.toList)) == 0) = UZ at *
  clear hR hFB hUZ
  obtain ⟨bs, err⟩ := R
  simp only at HF hle HZ2 HZ4 HZ8 ⊢
  generalize okOf err = OK at *
  generalize numOf err = NU at *
  have HOK : Hid (FB = true → OK = true) := fun h => (HF.out h).1
  clear HF
  cases OK
  · cases FB
    · go_wp2_with fail
      refine (same_any _ _ bs bs _ HZ2.out HZ4.out).mono ?_
      rintro e wa ⟨rfl, qa, rfl⟩
      have e1 : (bs == bs) = true := by simp
      rw [e1]
      clear e1
      go_wp2_with fail
      refine (same_any _ _ bs bs _ (HZ2.out.below (below_drewN (Below.refl _ w9) qa)) (HZ8.out.below (below_drewN (Below.refl _ w9) qa))).mono ?_
      rintro e wb ⟨rfl, qb, rfl⟩
      go_wp2
      go_ret
      exact ⟨ret_bool (by simp), below_drewN HB9.out (qa + qb)⟩
    · have hu := HOK.out rfl
      cases hu
  · go_wp2_with fail
    refine (same_any _ _ bs bs _ HZ2.out HZ4.out).mono ?_
    rintro e wa ⟨rfl, qa, rfl⟩
    have e1 : (bs == bs) = true := by simp
    rw [e1]
    clear e1
    go_wp2_with fail
    refine (same_any _ _ bs bs _ (HZ2.out.below (below_drewN (Below.refl _ w9) qa)) (HZ8.out.below (below_drewN (Below.refl _ w9) qa))).mono ?_
    rintro e wb ⟨rfl, qb, rfl⟩
    go_wp2
    go_ret
    exact ⟨ret_bool (by simp), below_drewN HB9.out (qa + qb)⟩

end Go.Proofs.Ytanebcdhjkpnjaa
