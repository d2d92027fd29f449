/-
  Contracts of base64's EncodeToString and of the thin package's Encode64: the text of some bytes. Conditions: the alphabet and the padding are valid; at most 2 ^ 47 - 4096 bytes.
-/
import Derived.Test.YtkiipbpcaakkoaaE64
import Derived.Test.YtkiipbpcaakkoaaHelp
namespace Go.Proofs.Ytkiipbpcaakkoaa
open Go.RowKit

theorem encLen64_lenN (p : Int) (n : Nat) (hp : -1 ≤ p) : encLen64 p (n : Int) = ((lenN 6 p n : Nat) : Int) := by
  unfold encLen64 lenN padN
  rw [show grpN 6 = 4 from rfl]
  unfold charsN
  by_cases h1 : p = -1
  · rw [if_pos h1, if_pos (by omega)]; omega
  · rw [if_neg h1, if_neg (by omega)]; omega

theorem lenN6_le (p : Int) (n : Nat) : lenN 6 p n ≤ n / 3 * 4 + 4 := by
  unfold lenN padN
  rw [show grpN 6 = 4 from rfl]
  unfold charsN
  split <;> omega

end Go.Proofs.Ytkiipbpcaakkoaa
