/-
  A closed fact on the program's types. Conditions: none.
-/
import Derived.Test.YtanebcdhjkpnjaaEncI
namespace Go.Proofs.Ytanebcdhjkpnjaa

theorem arr32 : (Try.prog.info? 70).map (·.size) = some 32 := by kernel_rfl

end Go.Proofs.Ytanebcdhjkpnjaa
