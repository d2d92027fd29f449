/-
  The walk of the law Roads: it returns true. Conditions: strings and slices hold at most 2 ^ 47 - 4096 bytes.
-/
import Derived.Test.YtidpibcopldfpaaLawsF6
namespace Go.Proofs.Ytidpibcopldfpaa
open Go.RowKit

set_option maxHeartbeats 1000000 in
theorem law_FnRoads32 (s : ByteArray) (p : Int) (v : Value) (l : List UInt8) (w : World) (hs : s.size ≤ 140737488351232) (_ : (Lit.int .i64 p).wf = true) (hb : Bys w v l) (hl : l.length ≤ 140737488351232) :
    Calls Try.prog 11 #[.string s, .int .i64 p, v] w fun e w' => e = .returned (.bool true) ∧ Below w.heap.size w w' := by
  have HS : Hid (s.size ≤ maxLen) := by show _ ≤ _; unfold maxLen; omega
  have HY := Lib.hid hb
  obtain ⟨A, c, rfl, hc, hcm, _⟩ := hb
  clear hs
  cases hv : validB 5 s.data.toList p
  · have HV := Lib.hid hv
    clear hv
    go_enter Try.func11, Try.ntmps11
    go_wp2_with fail
    refine (valid5_any s p _ HS.out).mono ?_
    rintro e w1 ⟨rfl, rfl⟩
    rw [HV.out]
    go_wp2
    go_ret
    exact ⟨rfl, Below.refl _ _⟩
  have HV := Lib.hid hv
  have HVP := Lib.hid (validB_true hv)
  clear hv
  obtain ⟨t, HT, ht⟩ := strIs_mk (textOf 5 s.data.toList p l)
  have HTN := Lib.hid ht
  have hts : 5 * t.size ≤ 8 * l.length + 50 := by rw [HT.size, textOf_length5]; have h1 := lenN5_facts p l.length; have h2 := charsN5_wide l.length; omega
  have HTS : Hid (lenN 5 p l.length = t.size) := by show _ = _; rw [HT.size, textOf_length5]
  have HEN : Hid (encLen32 p (l.length : Int) = (t.size : Int)) := by show _ = _; rw [encLen32_lenN p l.length HVP.out.2.1, HTS.out]
  have HLN : Hid (lenOf 5 p (l.length : Int) = (t.size : Int)) := by show _ = _; rw [lenOf5_N, HTS.out]
  have hmk := fun w => run_make_bytes (P := Try.prog) 22 5 Try.underlying22 byteInfo t.size (by omega) w
  clear HT ht
  go_enter Try.func11, Try.ntmps11
  go_wp2_with fail
  refine (valid5_any s p _ HS.out).mono ?_
  rintro e w1 ⟨rfl, rfl⟩
  rw [HV.out]
  go_wp2_with fail
  refine (encode32I s p _ l _ HVP.out HY.out (by omega)).mono ?_
  rintro e w2 ⟨rfl, hb2⟩
  rw [HTN.out]
  have HB2 := Lib.hid hb2
  clear hb2
  go_wp2_with fail
  refine (encodedLen32I s p (l.length : Int) _ HVP.out (by omega) (by omega)).mono ?_
  rintro e w3 ⟨rfl, hb3⟩
  rw [HEN.out]
  have HB3 := Lib.hid (below_trans' HB2.out hb3)
  clear hb3
  go_wp2_with fail
  refine (length5_any p (l.length : Int) _ (by omega) (by omega)).mono ?_
  rintro e w4 ⟨rfl, q, rfl⟩
  rw [HLN.out]
  go_wp2_with fail
  have HB4 : Hid (Below w.heap.size w ((w3.alloc (.cells #[] 5)).drewN q)) := below_drewN (HB3.out.alloc HB3.out.size _) q
  have HY0 : Hid (Bys ((w3.alloc (.cells #[] 5)).drewN q) (.slice (some ⟨w3.heap.size, 0, none⟩) 0 0) []) := (owns_new w3.heap.size (Nat.le_refl _)).bys
  refine (appendEncode32I s p _ [] _ l _ HVP.out HY0.out (by rw [HTS.out]; simp only [List.length_nil]; omega) (HY.out.below HB4.out) (by omega)).mono ?_
  rintro e w5 ⟨v5, rfl, hy5, hb5⟩
  rw [List.nil_append] at hy5
  have hcv := run_to_string (P := Try.prog) (w := w5) 22 5 9 Try.underlying22 Try.underlying5 Try.underlying9 _ _ hy5
  rw [HTN.out] at hcv
  have HB5 := Lib.hid (below_trans' HB4.out hb5)
  clear hy5 hb5
  go_wp2_with fail
  have HYM : Hid (Bys (w5.alloc (.cells (madeCells #[Value.int .u8 0] t.size) 5)) (.slice (some ⟨w5.heap.size, 0, none⟩) t.size t.size) (List.replicate t.size 0)) := bys_made w5 _ t.size 0 (by unfold maxLen; omega)
  have HB6 : Hid (Below w.heap.size w (w5.alloc (.cells (madeCells #[Value.int .u8 0] t.size) 5))) := HB5.out.alloc HB5.out.size _
  clear hmk hcv
  refine (encodeInto32I s p _ (List.replicate t.size 0) _ l _ HVP.out HYM.out (by simp; omega) (HY.out.below HB6.out) (by rw [HTS.out, List.length_replicate]; exact Nat.le_refl _)).mono ?_
  rintro e w7 ⟨g7, c7, rfl, hy7, hb7⟩
  rw [HTS.out, List.drop_eq_nil_of_le (by simp), List.append_nil] at hy7
  have hcv7 := run_to_string (P := Try.prog) (w := w7) 22 5 9 Try.underlying22 Try.underlying5 Try.underlying9 _ _ hy7
  rw [HTN.out] at hcv7
  have HB7 := Lib.hid (below_trans' HB6.out hb7)
  clear hy7 hb7
  simp only [List.length_replicate] at hcv7
  go_wp2
  go_ret
  exact ⟨ret_bool (by simp), HB7.out⟩

end Go.Proofs.Ytidpibcopldfpaa
