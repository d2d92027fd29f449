/-
  Contracts of base64's DecodeString and of the thin package's end64 and Decode64: the bytes, the verdict and the number of the error. Conditions: the alphabet and the padding are valid; strings of at most 2 ^ 47 - 4096 bytes.
-/
import Derived.Test.YthnfghjcmfcghaaD64D
namespace Go.Proofs.Ythnfghjcmfcghaa
open Go.RowKit
set_option linter.unusedVariables false

/-- The verdict and the number. -/
def okOf (R : Option Int) : Bool := R.isNone
def numOf (R : Option Int) : Int := R.getD 0

theorem decLen64_room (p : Int) (n : Nat) : decLen64 p (n : Int) = ((roomN p n : Nat) : Int) := by
  unfold decLen64 roomN
  split <;> omega

theorem dec_le (a : List UInt8) (p : Int) (st : Bool) (src : List UInt8) : (decOf a p st src).1.length ≤ roomN p src.length := by
  have := (dec_room a p st src src.length 0 (by omega)).1
  simpa [decOf] using this
theorem roomN_small (p : Int) (n : Nat) : roomN p n ≤ n := by unfold roomN; split <;> omega

/-- What DecodeString leaves: the bytes, and the error. -/
def StrPost (T : TypeId) (R : List UInt8 × Option Int) (w : World) (e : Ending) (w' : World) : Prop :=
  ∃ g c, e = .returned (.tuple #[.slice (some ⟨g, 0, none⟩) R.1.length c, errV T R.2]) ∧ Bys w' (.slice (some ⟨g, 0, none⟩) R.1.length c) R.1 ∧ Below w.heap.size w w'

/-- What the thin package's Decode64 leaves. -/
def DecPost (R : List UInt8 × Option Int) (w : World) (e : Ending) (w' : World) : Prop :=
  ∃ g c, e = .returned (.tuple #[.slice (some ⟨g, 0, none⟩) R.1.length c, .bool (okOf R.2), .int .i64 (numOf R.2)]) ∧ Bys w' (.slice (some ⟨g, 0, none⟩) R.1.length c) R.1 ∧ Below w.heap.size w w'

end Go.Proofs.Ythnfghjcmfcghaa
