/-
  The contract of base64's decodeQuantum: it returns what the plain quantum says, and writes its bytes to the beginning of dst. Conditions: dst has room for the bytes and lies apart from src.
-/
import Derived.Test.YthnfghjcmfcghaaD64P
import Derived.Test.YthnfghjcmfcghaaEncI
import Derived.Deep.DeepCutAuto
import Derived.Deep.CutBlock
namespace Go.Proofs.Ythnfghjcmfcghaa
open Go.RowKit
set_option linter.unusedVariables false

/-- What the loop of decodeQuantum leaves. -/
def QCut (T : TypeId) (Q : Quant) (gd : Nat) (E : TypeId) (w : World) (s3 s10 s12 : Value) (wx : World) : Prop :=
  ∃ (k : Nat) (v : List Nat) (err : Option Int), s3 = .int .i64 (k : Int) ∧ s12 = .int .i64 (v.length : Int) ∧ s10 = errV T err ∧ Q = .got k v err ∧ Blk wx gd E (dcells v) ∧ Below w.heap.size w wx

end Go.Proofs.Ythnfghjcmfcghaa
