/-
  Contracts of the thin package's EncodedLen and DecodedLen, and the walks of the laws on lengths. Conditions: as each law states them.
-/
import Derived.Test.YtkiipbpcaakkoaaEncI
namespace Go.Proofs.Ytkiipbpcaakkoaa
open Go.RowKit

theorem encLen64_is (p n : Int) (hp : -1 ≤ p) : encLen64 p n = lenOf 6 p n := by
  have hg : grp 6 = 4 := rfl
  unfold encLen64 lenOf
  rw [hg]
  unfold chars
  by_cases h1 : p = -1
  · rw [if_pos h1, if_pos (by omega)]; omega
  · rw [if_neg h1, if_neg (by omega)]; omega

theorem encLen32_is (p n : Int) (hp : -1 ≤ p) : encLen32 p n = lenOf 5 p n := by
  have hg : grp 5 = 8 := rfl
  unfold encLen32 lenOf
  rw [hg]
  unfold chars
  by_cases h1 : p = -1
  · rw [if_pos h1, if_pos (by omega)]; omega
  · rw [if_neg h1, if_neg (by omega)]; omega

end Go.Proofs.Ytkiipbpcaakkoaa
