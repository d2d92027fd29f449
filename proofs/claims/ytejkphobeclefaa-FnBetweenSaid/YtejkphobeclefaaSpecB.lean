/-
  Contracts of the reference's functions Characters, Group, Length: the numbers that they return; the world is as it was, but for draws of an open order. Conditions: the number of bytes lies between 0 and 2 ^ 60.
-/
import Derived.Test.YtejkphobeclefaaSpecA
namespace Go.Proofs.Ytejkphobeclefaa
open Go.RowKit

/-- How many characters of so many bits the bytes take. -/
def chars (bits n : Int) : Int := n / bits * 8 + (n % bits * 8 + bits - 1) / bits
/-- How many characters a whole group has. -/
def grp (bits : Int) : Int := if bits = 6 then 4 else 8
/-- The length of the text of so many bytes. -/
def lenOf (bits p n : Int) : Int := if p < 0 then chars bits n else chars bits n + (grp bits - chars bits n % grp bits) % grp bits

theorem chars5_range (n : Int) (h0 : 0 ≤ n) : 0 ≤ chars 5 n ∧ chars 5 n ≤ 2 * n := by unfold chars; omega

theorem chars6_range (n : Int) (h0 : 0 ≤ n) : 0 ≤ chars 6 n ∧ chars 6 n ≤ 2 * n := by unfold chars; omega

end Go.Proofs.Ytejkphobeclefaa
