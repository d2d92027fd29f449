/-
  The walks of the laws Groups, AppendEncode and Roads: each returns true. Conditions: strings and slices hold at most 1048576 bytes.
-/
import Derived.Test.YtidpibcopldfpaaLawsF2
import Derived.Test.YtidpibcopldfpaaE32B
namespace Go.Proofs.Ytidpibcopldfpaa
open Go.RowKit

set_option maxHeartbeats 1000000 in
theorem law_FnGroups32 (s : ByteArray) (p : Int) (v1 : Value) (l1 : List UInt8) (v2 : Value) (l2 : List UInt8) (w : World) (hs : s.size ≤ 1048576) (_ : (Lit.int .i64 p).wf = true) (hb1 : Bys w v1 l1) (hl1 : l1.length ≤ 1048576) (hb2 : Bys w v2 l2) (hl2 : l2.length ≤ 1048576) :
    Calls Try.prog 6 #[.string s, .int .i64 p, v1, v2] w fun e w' => e = .returned (.bool true) ∧ Below w.heap.size w w' := by
  have HS : Hid (s.size ≤ maxLen) := by show _ ≤ _; unfold maxLen; omega
  have HY1 := Lib.hid hb1
  have HY2 := Lib.hid hb2
  obtain ⟨A1, c1, rfl, hc1, hcm1, _⟩ := hb1
  obtain ⟨A2, c2, rfl, hc2, hcm2, _⟩ := hb2
  clear hs
  cases hv : validB 5 s.data.toList p
  · have HV := Lib.hid hv
    clear hv
    go_enter Try.func6, Try.ntmps6
    go_wp2_with fail
    refine (valid5_any s p _ HS.out).mono ?_
    rintro e w1 ⟨rfl, rfl⟩
    rw [HV.out]
    go_wp2
    go_ret
    exact ⟨rfl, Below.refl _ _⟩
  have HV := Lib.hid hv
  have HVP := Lib.hid (validB_true hv)
  clear hv
  by_cases h3 : l1.length % 5 = 0
  · have HT12 := Lib.hid (textOf5_append s.data.toList p l1 l2 h3)
    have t0 : ((l1.length : Int) % 5 != 0) = false := by simp; omega
    obtain ⟨t1, HT1, ht1⟩ := strIs_mk (textOf 5 s.data.toList p l1)
    obtain ⟨t2, HT2, ht2⟩ := strIs_mk (textOf 5 s.data.toList p l2)
    have HTN1 := Lib.hid ht1
    have HTN2 := Lib.hid ht2
    have HTN3 : Hid ((⟨(textOf 5 s.data.toList p (l1 ++ l2)).toArray⟩ : ByteArray) = t1 ++ t2) := by
      show _ = _
      rw [HT12.out, ← ht1, ← ht2]
      apply ByteArray.ext
      simp [ByteArray.data_append]
    have hq : t1.size = l1.length / 5 * 8 := by
      rw [HT1.size, textOf_length5]
      unfold lenN padN charsN
      rw [show grpN 5 = 8 from rfl]
      split <;> omega
    have t1a : ((t1.size : Int) / 8 == (l1.length : Int) / 5) = true := by rw [hq]; simp; try omega
    have HSZ : Hid (lenOf 5 p (l2.length : Int) = (t2.size : Int)) := by show _ = _; rw [lenOf5_N, HT2.size, textOf_length5]
    have hs1 : t1.size ≤ 2 * l1.length + 8 := by rw [HT1.size, textOf_length5]; exact (lenN5_facts p l1.length).2.2.2.2
    have hs2 : t2.size ≤ 2 * l2.length + 8 := by rw [HT2.size, textOf_length5]; exact (lenN5_facts p l2.length).2.2.2.2
    clear HT1 HT2 ht1 ht2 h3 hq
    go_enter Try.func6, Try.ntmps6
    go_wp2_with fail
    refine (valid5_any s p _ HS.out).mono ?_
    rintro e w1 ⟨rfl, rfl⟩
    rw [HV.out]
    go_wp2_with fail
    refine (encode32I s p _ l1 _ HVP.out HY1.out (by omega)).mono ?_
    rintro e w2 ⟨rfl, hb2⟩
    rw [HTN1.out]
    have HB2 := Lib.hid hb2
    clear hb2
    go_wp2_with fail
    refine (encode32I s p _ l2 _ HVP.out (HY2.out.below HB2.out) (by omega)).mono ?_
    rintro e w3 ⟨rfl, hb3⟩
    rw [HTN2.out]
    have HB3 := Lib.hid (below_trans' HB2.out hb3)
    clear hb3
    have HO : Hid (Own (w3.alloc (.cells #[] 5)) w3.heap.size w3.heap.size 0 5 []) := owns_new _ (Nat.le_refl _)
    have HW1 : Hid (Below w3.heap.size w3 (w3.alloc (.cells #[] 5))) := (Below.refl _ _).alloc (Nat.le_refl _) _
    have HD1 : Hid (Bys (w3.alloc (.cells #[] 5)) (.slice A1 l1.length c1) l1) := HY1.out.below (below_trans' HB3.out HW1.out)
    go_wp2_with (first
      | ((with_reducible refine wpList_append_bys rfl (.tmp 32) (.tmp 33) 22 rfl w3.heap.size 5 Try.underlying22 byteInfo w3.heap.size 0 [] HO.out ?_ _ l1 HD1.out ?_ ?_ ?_ ?_); rfl; rfl; (simp; omega); (simp); intro g4 cap4 w4 hO4 hg4
         have HB4 : Hid (Below w3.heap.size w3 w4) := HW1.out.trans (grown_below hg4.out (Nat.le_refl _) HW1.out.size)
         have HD2 : Hid (Bys w4 (.slice A2 l2.length c2) l2) := HY2.out.below (below_trans' HB3.out HB4.out))
      | ((with_reducible refine wpList_append_bys rfl (.tmp 34) (.tmp 35) 22 rfl w3.heap.size 5 Try.underlying22 byteInfo g4 cap4 ([] ++ l1) hO4.out ?_ _ l2 HD2.out ?_ ?_ ?_ ?_); (simp; rfl); rfl; (simp; omega); (exact HB4.out.size); intro g5 cap5 w5 hO5 hg5
         have HB5 : Hid (Below w3.heap.size w3 w5) := HB4.out.trans (grown_below hg5.out hO4.out.1 HB4.out.size)))
    have HY5 : Hid (Bys w5 (.slice (some ⟨g5, 0, none⟩) (l1.length + l2.length) cap5) (l1 ++ l2)) := by
      have := hO5.out.bys
      simp only [List.nil_append, List.length_append] at this
      exact this
    have HB6 := Lib.hid (below_trans' HB3.out HB5.out)
    refine (encode32I s p _ (l1 ++ l2) _ HVP.out HY5.out (by rw [List.length_append]; omega)).mono ?_
    rintro e w6 ⟨rfl, hb6⟩
    rw [HTN3.out]
    have HB7 := Lib.hid (below_trans' HB6.out hb6)
    clear hb6
    go_wp2_with fail
    refine (length5_any p (l2.length : Int) _ (by omega) (by omega)).mono ?_
    rintro e w7 ⟨rfl, q, rfl⟩
    rw [HSZ.out]
    go_wp2
    go_ret
    exact ⟨ret_bool (by simp), below_drewN HB7.out q⟩
  · have t0 : ((l1.length : Int) % 5 != 0) = true := by simp; omega
    clear h3
    go_enter Try.func6, Try.ntmps6
    go_wp2_with fail
    refine (valid5_any s p _ HS.out).mono ?_
    rintro e w1 ⟨rfl, rfl⟩
    rw [HV.out]
    go_wp2
    go_ret
    exact ⟨rfl, Below.refl _ _⟩

end Go.Proofs.Ytidpibcopldfpaa
