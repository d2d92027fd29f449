/-
  The walks of more laws on encoding: each returns true. Conditions: slices hold at most 2 ^ 47 - 4096 bytes, strings fit an int.
-/
import Derived.Test.YtidpibcopldfpaaE32S
import Derived.Test.YtidpibcopldfpaaUnsix
namespace Go.Proofs.Ytidpibcopldfpaa
open Go.RowKit

set_option maxHeartbeats 1000000 in
theorem law_FnLetters32 (s : ByteArray) (p : Int) (v : Value) (l : List UInt8) (w : World) (hs : s.size ≤ 140737488351232) (_ : (Lit.int .i64 p).wf = true) (hb : Bys w v l) (hl : l.length ≤ 140737488351232) :
    Calls Try.prog 8 #[.string s, .int .i64 p, v] w fun e w' => e = .returned (.bool true) ∧ Below w.heap.size w w' := by
  have HS : Hid (s.size ≤ maxLen) := by show _ ≤ _; unfold maxLen; omega
  have HY := Lib.hid hb
  obtain ⟨A, c, rfl, hc, hcm, _⟩ := hb
  unfold maxLen at hcm
  clear hs
  by_cases hv : validB 5 s.data.toList p = true
  · have HV := Lib.hid hv
    have HVP := Lib.hid (validB_true hv)
    have hp1 := (validB_true hv).2.1
    have hp2 := (validB_true hv).2.2.1
    clear hv
    obtain ⟨t, HT, ht⟩ := strIs_mk (textOf 5 s.data.toList p l)
    have HT' := Lib.hid HT
    have HTN := Lib.hid ht
    have hsz := HT.size
    rw [textOf_length5] at hsz
    have hfc := lenN5_facts p l.length
    have HCN := Lib.hid (chars5_N l.length)
    have HLI : Hid (lettersIn s.data.toList t.data.toList = charsN 5 l.length) := by show _ = _; rw [show t.data.toList = _ from HT]; exact lettersIn_text5 (HVP.out) l
    have HPD : Hid (∀ k, charsN 5 l.length ≤ k → (hk : k < t.size) → ((t[k].toNat : Nat) : Int) = p) := fun k h1 h2 => by
      have h3 := text5_pad s.data.toList p l k h1 (by omega)
      have h4 := HT.at k h2
      rw [h3.1] at h4
      simp only [Option.some.injEq] at h4
      rw [← h4]
      exact padB_toNat p h3.2 hp2
    obtain ⟨N, hN⟩ : ∃ N, N = charsN 5 l.length := ⟨_, rfl⟩
    rw [← hN] at hfc HCN HLI HPD
    have hN1 := charsN5_le l.length
    rw [← hN] at hN1
    rw [← hsz] at hfc
    clear HT ht hsz hN
    obtain ⟨f1, f2, f3, f4, f5⟩ := hfc
    have F3 := Lib.hid f3
    have F4 := Lib.hid f4
    clear f3 f4
    have HTM : Hid (t.size ≤ maxLen) := by show _ ≤ _; unfold maxLen; omega
    by_cases hp : p < 0
    all_goals
      first
        | (have g1 : ((N : Int) == (t.size : Int)) = true := by have := F3.out hp; simp; omega)
        | (have g1 : ((t.size : Int) % 8 == 0) = true := by have := F4.out (by omega); simp; omega)
      have g2 : ((N : Int) == (N : Int)) = true := by simp
      go_enter Try.func8, Try.ntmps8
      go_wp2_with fail
      refine (valid5_any s p _ HS.out).mono ?_
      rintro e w1 ⟨rfl, rfl⟩
      rw [HV.out]
      go_wp2_with fail
      refine (encode32I s p _ l _ HVP.out HY.out hl).mono ?_
      rintro e w2 ⟨rfl, hb2⟩
      rw [HTN.out]
      have HB2 := Lib.hid hb2
      clear hb2
      go_wp2_with fail
      refine (letters_any s t _ HS.out HTM.out).mono ?_
      rintro e w3 ⟨rfl, rfl⟩
      rw [HLI.out]
      go_wp2_with fail
      go_loop [9] (fun i => ∃ k : Nat, N ≤ k ∧ k ≤ t.size ∧ i = .int .i64 k) (fun i => t.size - (intOf i).toNat)
      case atStart => exact ⟨N, Nat.le_refl _, f1, rfl⟩
      case round =>
        obtain ⟨k, hk1, hk2, rfl⟩ := hrel
        by_cases hlt : k < t.size
        · have HE := Lib.hid (HPD.out k hk1 hlt)
          go_wp2
          all_goals first
            | (go_round
               case rel => exact ⟨k + 1, by omega, by omega, by go_num⟩
               case measure => simp [intOf]; omega)
            | (exfalso
               have h : (wrap64 ((t[k].toNat : Nat) : Int) != p) = true := by assumption
               rw [wrap64_byte, HE.out] at h
               simp at h)
        · go_wp2_with fail
          refine (chars5_any (l.length : Int) _ (by omega) (by omega)).mono ?_
          rintro e w4 ⟨rfl, q, rfl⟩
          rw [HCN.out]
          go_wp2
          go_ret
          exact ⟨ret_bool (by simp; try omega), below_drewN HB2.out q⟩
  · have HV := Lib.hid (Bool.eq_false_iff.2 hv)
    clear hv
    go_enter Try.func8, Try.ntmps8
    go_wp2_with fail
    refine (valid5_any s p _ HS.out).mono ?_
    rintro e w1 ⟨rfl, rfl⟩
    rw [HV.out]
    go_wp2
    go_ret
    exact ⟨rfl, Below.refl _ _⟩

set_option maxHeartbeats 1000000 in
theorem law_FnInjective32 (s : ByteArray) (p : Int) (v1 : Value) (l1 : List UInt8) (v2 : Value) (l2 : List UInt8) (w : World) (hs : s.size ≤ 140737488351232) (_ : (Lit.int .i64 p).wf = true) (hb1 : Bys w v1 l1) (hl1 : l1.length ≤ 140737488351232) (hb2 : Bys w v2 l2) (hl2 : l2.length ≤ 140737488351232) :
    Calls Try.prog 7 #[.string s, .int .i64 p, v1, v2] w fun e w' => e = .returned (.bool true) ∧ Below w.heap.size w w' := by
  have HS : Hid (s.size ≤ maxLen) := by show _ ≤ _; unfold maxLen; omega
  have HY1 := Lib.hid hb1
  have HY2 := Lib.hid hb2
  obtain ⟨A1, c1, rfl, hc1, hcm1, _⟩ := hb1
  clear hs hb2
  by_cases hv : validB 5 s.data.toList p = true
  · have HV := Lib.hid hv
    have HVP := Lib.hid (validB_true hv)
    have hp1 := (validB_true hv).2.1
    clear hv
    obtain ⟨t1, HT1, ht1⟩ := strIs_mk (textOf 5 s.data.toList p l1)
    obtain ⟨t2, HT2, ht2⟩ := strIs_mk (textOf 5 s.data.toList p l2)
    have HTN1 := Lib.hid ht1
    have HTN2 := Lib.hid ht2
    have HSZ : Hid (lenOf 5 p (l1.length : Int) = (t1.size : Int)) := by show _ = _; rw [lenOf5_N, HT1.size, textOf_length5]
    have hsz1 : t1.size ≤ 2 * l1.length + 8 := by rw [HT1.size, textOf_length5]; exact (lenN5_facts p l1.length).2.2.2.2
    have heq : (t1.toList == t2.toList) = (l1 == l2) := by
      rw [Lib.toList_data, Lib.toList_data, show t1.data.toList = _ from HT1, show t2.data.toList = _ from HT2, Bool.eq_iff_iff, beq_iff_eq, beq_iff_eq]
      exact ⟨fun h => text5_inj HVP.out h, fun h => by rw [h]⟩
    clear HT1 HT2 ht1 ht2
    go_enter Try.func7, Try.ntmps7
    go_wp2_with fail
    refine (valid5_any s p _ HS.out).mono ?_
    rintro e w1 ⟨rfl, rfl⟩
    rw [HV.out]
    go_wp2_with fail
    refine (encode32I s p _ l1 _ HVP.out HY1.out hl1).mono ?_
    rintro e w2 ⟨rfl, hb2⟩
    rw [HTN1.out]
    have HB2 := Lib.hid hb2
    clear hb2
    go_wp2_with fail
    refine (encode32I s p _ l2 _ HVP.out (HY2.out.below HB2.out) hl2).mono ?_
    rintro e w3 ⟨rfl, hb3⟩
    rw [HTN2.out]
    have HB3 := Lib.hid (below_trans' HB2.out hb3)
    clear hb3
    go_wp2_with fail
    refine (same_any _ _ l1 l2 _ (HY1.out.below HB3.out) (HY2.out.below HB3.out)).mono ?_
    rintro e w4 ⟨rfl, q, rfl⟩
    go_wp2_with fail
    refine (length5_any p (l1.length : Int) _ (by omega) (by omega)).mono ?_
    rintro e w5 ⟨rfl, q2, rfl⟩
    rw [HSZ.out]
    go_wp2
    go_ret
    exact ⟨ret_bool (by simp), by first | exact below_drewN HB3.out _ | exact below_drewN (below_drewN HB3.out _) _⟩
  · have HV := Lib.hid (Bool.eq_false_iff.2 hv)
    clear hv
    go_enter Try.func7, Try.ntmps7
    go_wp2_with fail
    refine (valid5_any s p _ HS.out).mono ?_
    rintro e w1 ⟨rfl, rfl⟩
    rw [HV.out]
    go_wp2
    go_ret
    exact ⟨rfl, Below.refl _ _⟩

end Go.Proofs.Ytidpibcopldfpaa
