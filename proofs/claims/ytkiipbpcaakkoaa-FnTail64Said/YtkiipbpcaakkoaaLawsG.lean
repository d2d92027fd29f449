/-
  The walks of laws on decoding of base64: each returns true. Conditions: strings and slices hold at most 2 ^ 47 - 4096 bytes.
-/
import Derived.Test.YtkiipbpcaakkoaaD64S
import Derived.Test.YtkiipbpcaakkoaaSpecE
import Derived.Test.YtkiipbpcaakkoaaE64S
import Derived.Test.YtkiipbpcaakkoaaLens
import Derived.Test.YtkiipbpcaakkoaaTextP
namespace Go.Proofs.Ytkiipbpcaakkoaa
open Go.RowKit
set_option linter.unusedVariables false

/-- What is known of a text for base64's decoder: the verdict, and the bytes where it is taken. -/
theorem dec_facts {a : List UInt8} {p : Int} (hv : validP 6 a p) (st : Bool) (s : List UInt8) :
    okOf (decOf a p st s).2 = (fineB 6 a p (strip s) && (!st || unS (numsOf a (strip s)) == 0)) ∧ (okOf (decOf a p st s).2 = true → fineB 6 a p (strip s) = true ∧ (decOf a p st s).1 = unsix (numsOf a (strip s))) := by
  obtain ⟨h1, h2⟩ := decOf_spec st hv s
  have h3 : okOf (decOf a p st s).2 = true ↔ (decOf a p st s).2 = none := by unfold okOf; simp
  refine ⟨by rw [Bool.eq_iff_iff, h3, h1], fun h => ?_⟩
  have h4 := h3.1 h
  have h5 := h1.1 h4
  rw [Bool.and_eq_true] at h5
  exact ⟨h5.1, h2 h4⟩

end Go.Proofs.Ytkiipbpcaakkoaa
