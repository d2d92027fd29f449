/-
  The walks of the laws on encoding: each returns true. Conditions: strings and slices hold at most 2 ^ 47 - 4096 bytes.
-/
import Derived.Test.YtidpibcopldfpaaE32S
import Derived.Test.YtidpibcopldfpaaSpecT
namespace Go.Proofs.Ytidpibcopldfpaa
open Go.RowKit

set_option maxHeartbeats 400000 in
theorem law_FnEncode32 (s : ByteArray) (p : Int) (v : Value) (l : List UInt8) (w : World) (hs : s.size ≤ 140737488351232) (_ : (Lit.int .i64 p).wf = true) (hb : Bys w v l) (hl : l.length ≤ 140737488351232) :
    Calls Try.prog 4 #[.string s, .int .i64 p, v] w fun e w' => e = .returned (.bool true) ∧ Below w.heap.size w w' := by
  have HS : Hid (s.size ≤ maxLen) := by show _ ≤ _; unfold maxLen; omega
  have HY := Lib.hid hb
  clear hs hb
  by_cases hv : validB 5 s.data.toList p = true
  · have HV := Lib.hid hv
    clear hv
    go_enter Try.func4, Try.ntmps4
    go_wp2_with fail
    refine (valid5_any s p _ HS.out).mono ?_
    rintro e w1 ⟨rfl, rfl⟩
    rw [HV.out]
    go_wp2_with fail
    refine (encode32I s p v l _ (validB_true HV.out) HY.out (by omega)).mono ?_
    rintro e w2 ⟨rfl, hb2⟩
    have HB2 := Lib.hid hb2
    clear hb2
    go_wp2_with fail
    refine (text5_any s p v l _ (validB_true HV.out) (HY.out.below HB2.out) (by omega)).mono ?_
    rintro e w3 ⟨rfl, hb3⟩
    have HB3 := Lib.hid hb3
    clear hb3
    go_wp2
    go_ret
    exact ⟨ret_bool (by simp), below_trans' HB2.out HB3.out⟩
  · have HV := Lib.hid (Bool.eq_false_iff.2 hv)
    clear hv
    go_enter Try.func4, Try.ntmps4
    go_wp2_with fail
    refine (valid5_any s p _ HS.out).mono ?_
    rintro e w1 ⟨rfl, rfl⟩
    rw [HV.out]
    go_wp2
    go_ret
    exact ⟨rfl, Below.refl _ _⟩

end Go.Proofs.Ytidpibcopldfpaa
