/-
  The walks of the laws AppendEncode and Roads: each returns true. Conditions: strings and slices hold at most 1048576 bytes.
-/
import Derived.Test.YtidpibcopldfpaaLawsF5
import Derived.Test.YtidpibcopldfpaaLens
namespace Go.Proofs.Ytidpibcopldfpaa
open Go.RowKit

set_option maxHeartbeats 1000000 in
theorem law_FnAppendEncode32 (s : ByteArray) (p : Int) (vd : Value) (d : List UInt8) (v : Value) (l : List UInt8) (w : World) (hs : s.size ≤ 1048576) (_ : (Lit.int .i64 p).wf = true) (hbd : Bys w vd d) (hd : d.length ≤ 1048576) (hb : Bys w v l) (hl : l.length ≤ 1048576) :
    Calls Try.prog 10 #[.string s, .int .i64 p, vd, v] w fun e w' => e = .returned (.bool true) ∧ Below w.heap.size w w' := by
  have HS : Hid (s.size ≤ maxLen) := by show _ ≤ _; unfold maxLen; omega
  have HYD := Lib.hid hbd
  have HY := Lib.hid hb
  obtain ⟨A1, c1, rfl, hc1, hcm1, _⟩ := hbd
  clear hs hb
  cases hv : validB 5 s.data.toList p
  · have HV := Lib.hid hv
    clear hv
    go_enter Try.func10, Try.ntmps10
    go_wp2_with fail
    refine (valid5_any s p _ HS.out).mono ?_
    rintro e w1 ⟨rfl, rfl⟩
    rw [HV.out]
    go_wp2
    go_ret
    exact ⟨rfl, Below.refl _ _⟩
  have HV := Lib.hid hv
  have HVP := Lib.hid (validB_true hv)
  clear hv
  obtain ⟨i0, hi0, hz0, hz1, hz2⟩ := info_parts byteInfo
  obtain ⟨t1, HT1, ht1⟩ := strIs_mk (textOf 5 s.data.toList p l)
  have HTN1 := Lib.hid ht1
  have HSC := Lib.hid (strCells_is _ _ HT1)
  have hs1 : t1.size ≤ 2 * l.length + 8 := by rw [HT1.size, textOf_length5]; exact (lenN5_facts p l.length).2.2.2.2
  have HSZ : Hid (t1.size = (textOf 5 s.data.toList p l).length) := HT1.size
  have hpos : 2 ≤ lenN 5 p 1 := (lenN5_facts p 1).1
  clear ht1 HT1
  go_enter Try.func10, Try.ntmps10
  go_wp2_with fail
  refine (valid5_any s p _ HS.out).mono ?_
  rintro e w1 ⟨rfl, rfl⟩
  rw [HV.out]
  go_wp2_with fail
  refine (appendEncode32I s p _ d _ l _ HVP.out HYD.out (by have := (lenN5_facts p l.length).2.2.2.2; omega) HY.out (by omega)).mono ?_
  rintro e w2 ⟨v2, rfl, hy2, hb2⟩
  have HY2 := Lib.hid hy2
  have HB2 := Lib.hid hb2
  clear hy2 hb2
  have HO : Hid (Own (w2.alloc (.cells #[] 5)) w2.heap.size w2.heap.size 0 5 []) := owns_new _ (Nat.le_refl _)
  have HW1 : Hid (Below w2.heap.size w2 (w2.alloc (.cells #[] 5))) := (Below.refl _ _).alloc (Nat.le_refl _) _
  have HD1 : Hid (Bys (w2.alloc (.cells #[] 5)) (.slice A1 d.length c1) d) := HYD.out.below (below_trans' HB2.out HW1.out)
  go_wp2_with ((with_reducible refine wpList_append_bys rfl (.tmp 20) (.tmp 21) 22 rfl w2.heap.size 5 Try.underlying22 byteInfo w2.heap.size 0 [] HO.out ?_ _ d HD1.out ?_ ?_ ?_ ?_); rfl; rfl; (simp; omega); (simp); intro g4 cap4 w4 hO4 hg4)
  have HB4 : Hid (Below w2.heap.size w2 w4) := HW1.out.trans (grown_below hg4.out (Nat.le_refl _) HW1.out.size)
  refine (text5_any s p v l _ HVP.out (HY.out.below (below_trans' HB2.out HB4.out)) (by omega)).mono ?_
  rintro e w5 ⟨rfl, hb5⟩
  rw [HTN1.out]
  have HB5 := Lib.hid hb5
  clear hb5
  have HR : Hid (w5.ownsRow w2.heap.size 5 1 (.slice (some ⟨g4, 0, none⟩) d.length cap4) d.length (Lib.byteCells d)) := by
    have := (hO4.out.keep HB5.out).row
    simp only [List.nil_append] at this
    exact this
  have hgg := hO4.out.1
  go_wp2_with ((with_reducible refine Lib.wpList_append_own_string (w := w5) rfl (.tmp 22) (.tmp 26) 22 9 rfl w2.heap.size 5 i0 Try.underlying22 Try.underlying9 hi0 hz0 hz1 hz2 _ _ _ ?_ HR.out t1 ?_ ?_ ?_ ?_ ?_); rfl; rfl; (unfold maxLen; omega); omega; (exact Nat.le_trans HB4.out.size HB5.out.size); intro v6 w6 hown6 hg6 hnil6)
  rw [HSC.out, ← Lib.byteCells_append] at hown6
  have HB6 : Hid (Below w2.heap.size w2 w6) := by
    have h1 : Below w2.heap.size w2 w5 := HB4.out.trans (HB5.out.mono HB4.out.size)
    exact h1.grown hg6 h1.size (fun k hk => by simp [Value.ownBlock] at hk; omega)
  have HB7 : Hid (Below w.heap.size w w6) := below_trans' HB2.out HB6.out
  have HY6 : Hid (Bys w6 v6 (d ++ textOf 5 s.data.toList p l)) := owns_bys hown6
  clear hown6 hg6 hnil6
  refine (same_any _ _ _ _ _ (HY2.out.below HB6.out) HY6.out).mono ?_
  rintro e w7 ⟨rfl, q, rfl⟩
  rw [beq_self_eq_true]
  go_wp2_with fail
  have HYZ : Hid (Bys ((w6.alloc (.cells #[.int .u8 0] 5)).drewN q) (.slice (some ⟨w6.heap.size, 0, none⟩) 1 1) [0]) := by
    have := Bys.of_blk (Blk.new w6 5 [.int .u8 0]) 0 1 [0] (by simp) (by unfold maxLen; omega) (fun j x hj => by
      match j, hj with
      | 0, hj => simp at hj; subst hj; rfl
      | j + 1, hj => simp at hj)
    exact this
  have HB8 : Hid (Below w.heap.size w ((w6.alloc (.cells #[.int .u8 0] 5)).drewN q)) := below_drewN (HB7.out.alloc HB7.out.size _) q
  refine (appendEncode32I s p _ d _ [0] _ HVP.out (HYD.out.below HB8.out) (by have := (lenN5_facts p [(0 : UInt8)].length).2.2.2.2; simp only [List.length_cons, List.length_nil] at this ⊢; omega) HYZ.out (by simp)).mono ?_
  rintro e w9 ⟨v9, rfl, hy9, hb9⟩
  have HB9 := Lib.hid (below_trans' HB8.out hb9)
  obtain ⟨A9, c9, rfl⟩ := bys_form hy9
  clear hy9 hb9
  obtain ⟨n9, hn9⟩ : ∃ n, n = (d ++ textOf 5 s.data.toList p [0]).length := ⟨_, rfl⟩
  rw [← hn9]
  have hn9' : d.length < n9 ∧ n9 ≤ d.length + 16 := by
    have h9 := (lenN5_facts p 1).2.2.2.2
    rw [hn9, List.length_append, textOf_length5]
    simp only [List.length_cons, List.length_nil, Nat.zero_add]
    omega
  obtain ⟨hn9a, hn9b⟩ := hn9'
  clear hn9
  go_wp2
  go_ret
  exact ⟨ret_bool (by simp; try omega), HB9.out⟩

end Go.Proofs.Ytidpibcopldfpaa
