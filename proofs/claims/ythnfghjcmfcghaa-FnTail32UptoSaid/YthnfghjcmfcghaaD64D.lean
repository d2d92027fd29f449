/-
  The contract of base64's Decode: it returns what the plain decoder says, and writes its bytes to the beginning of dst, and nothing farther than two bytes behind them. Conditions: dst has room for the bytes and lies apart from src.
-/
import Derived.Test.YthnfghjcmfcghaaD64T
namespace Go.Proofs.Ythnfghjcmfcghaa
open Go.RowKit
set_option linter.unusedVariables false

end Go.Proofs.Ythnfghjcmfcghaa
