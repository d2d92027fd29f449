/-
  What lies behind the first loop of base64's Decode: the loop of four letters, and the loop of quanta. Conditions: as in the contract of Decode.
-/
import Derived.Test.YthnfghjcmfcghaaD64Q
import Derived.Test.YthnfghjcmfcghaaD64E
namespace Go.Proofs.Ythnfghjcmfcghaa
open Go.RowKit
set_option linter.unusedVariables false

/-- What stands behind block n of a body. -/
def tailOf (n : Nat) : Code → Option Code
  | .seq (.block k c) b => if k = n then some b else tailOf n b
  | .seq _ b => tailOf n b
  | _ => none

end Go.Proofs.Ythnfghjcmfcghaa
