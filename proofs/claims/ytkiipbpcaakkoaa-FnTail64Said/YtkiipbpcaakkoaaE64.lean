/-
  The contract of base64's Encode: what lies at the beginning of dst behind the call is the text of src; nothing else has turned. Conditions: dst is long enough, and lies apart from src.
-/
import Derived.Test.YtkiipbpcaakkoaaEncI
import Derived.Test.YtkiipbpcaakkoaaBits
namespace Go.Proofs.Ytkiipbpcaakkoaa
open Go.RowKit

theorem arr64 : (Try.prog.info? 72).map (·.size) = some 64 := by kernel_rfl

end Go.Proofs.Ytkiipbpcaakkoaa
