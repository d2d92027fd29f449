/-
  Contracts of the thin package's EncodedLen and DecodedLen, and the walks of the laws on lengths. Conditions: as each law states them.
-/
import Derived.Test.YtidpibcopldfpaaEncI
namespace Go.Proofs.Ytidpibcopldfpaa
open Go.RowKit

theorem encLen64_is (p n : Int) (hp : -1 ≤ p) : encLen64 p n = lenOf 6 p n := by
  have hg : grp 6 = 4 := rfl
  unfold encLen64 lenOf
  rw [hg]
  unfold chars
  by_cases h1 : p = -1
  · rw [if_pos h1, if_pos (by omega)]; omega
  · rw [if_neg h1, if_neg (by omega)]; omega

set_option maxHeartbeats 400000 in
theorem encodedLen32I (s : ByteArray) (p n : Int) (w : World) (hv : validP 5 s.data.toList p) (h0 : 0 ≤ n) (h1 : n ≤ 2305843009213693952) :
    Calls Try.prog 20 #[.string s, .int .i64 p, .int .i64 n] w fun e w' => e = .returned (.int .i64 (encLen32 p n)) ∧ Below w.heap.size w w' := by
  have HV := Lib.hid hv
  clear hv
  go_enter Try.func20, Try.ntmps20
  go_wp2_with fail
  refine (encoding32 s p _ HV.out).mono ?_
  rintro e w1 ⟨g, rfl, hg, hb, hw⟩
  have HB := Lib.hid hb
  have HW := Lib.hid hw
  clear hb hw
  go_wp2_with fail
  refine (encodedLen32_any g _ p n _ HB.out HV.out.1 h0 h1).mono ?_
  rintro e w2 ⟨rfl, rfl⟩
  go_wp2
  go_ret
  exact ⟨rfl, HW.out⟩

theorem encLen32_is (p n : Int) (hp : -1 ≤ p) : encLen32 p n = lenOf 5 p n := by
  have hg : grp 5 = 8 := rfl
  unfold encLen32 lenOf
  rw [hg]
  unfold chars
  by_cases h1 : p = -1
  · rw [if_pos h1, if_pos (by omega)]; omega
  · rw [if_neg h1, if_neg (by omega)]; omega

end Go.Proofs.Ytidpibcopldfpaa
