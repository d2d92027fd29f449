/-
  A closed fact on the program's types. Conditions: none.
-/
import Derived.Test.YtidpibcopldfpaaEncI
namespace Go.Proofs.Ytidpibcopldfpaa

theorem arr32 : (Try.prog.info? 48).map (·.size) = some 32 := by kernel_rfl

end Go.Proofs.Ytidpibcopldfpaa
