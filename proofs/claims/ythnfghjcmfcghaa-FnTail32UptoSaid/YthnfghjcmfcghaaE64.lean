/-
  The contract of base64's Encode: what lies at the beginning of dst behind the call is the text of src; nothing else has turned. Conditions: dst is long enough, and lies apart from src.
-/
import Derived.Test.YthnfghjcmfcghaaEncI
import Derived.Test.YthnfghjcmfcghaaBits
namespace Go.Proofs.Ythnfghjcmfcghaa
open Go.RowKit

end Go.Proofs.Ythnfghjcmfcghaa
