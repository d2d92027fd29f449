/-
  A closed fact on the program's types. Conditions: none.
-/
import Derived.Test.YtejkphobeclefaaEncI
namespace Go.Proofs.Ytejkphobeclefaa

theorem arr32 : (Try.prog.info? 80).map (·.size) = some 32 := by kernel_rfl

end Go.Proofs.Ytejkphobeclefaa
