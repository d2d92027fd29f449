/-
  No cell of these rows narrows 'for every input' (looked for: loops, veiled, ifaces, maps, wideKeys, modest, calm, conditions, laid).
  DERIVED. THE GIVEN ROWS OF THIS SEAT. 6 by the template 'for every input the law returns true; each argument reads behind the call as it read before'; 0 by the template 'total and deterministic' (their statements: YteanofipadcakaaTotals.lean).
  GIVEN WITH THE SEED: the statements are not yours to turn. If you find one false, say at which input.
  Laid BY PROGRAM, IN A SANDBOX (cutbox-rows.mjs): the forced cells as the released guide's own fill.sh prints them over the translation 719da73adc3bbc60… (all of the seat's roots in one cut). By AI agents, Wed Nov 11 2026. No macro, syntax, notation, axiom, sorry.
-/
import Derived.Test.YteanofipadcakaaChecked
import GoSem.Claim
import GoSem.ClaimJoined
import GoSem.ClaimMapViews
import Derived.JoinedTies
import Derived.KernelRfl
namespace Go.Proofs.Yteanofipadcakaa
/- THE CELL 'sum', in the pinned program and in every row, IS THE sha256 OF THE DUMP (.gsa) THAT YteanofipadcakaaProg.lean LOADS. Nothing in Lean hashes anything: it is a label: what it is worth is what the hold of that sum in a sandbox is worth. -/
noncomputable def Try.pinned : Pinned := { name := "yteanofipadcakaa", sum := "719da73adc3bbc60140a89f00217196484f4185c58d1189b18b10757f1da9eeb", checked := Try.checked }
namespace Rows
def none {H : Type} : Left H := { results := [], args := [] }

/-- 'laws.FnEncodedLen32': WHATEVER THE INPUT: true; the input reads as it did. -/
def fnEncodedLen32Spec : ChangeSpec := { name := "fnEncodedLen32", fn := fun _ => fun
  | [d1, d2, d3] => { results := [.lit (.bool true)], args := [d1, d2, d3] }
  | _ => none }
def fnEncodedLen32Row : OpenClaim := { program := "yteanofipadcakaa", sum := "719da73adc3bbc60140a89f00217196484f4185c58d1189b18b10757f1da9eeb", func := "loop.example/lib-g01093/laws.FnEncodedLen32", spec := "fnEncodedLen32", apart := false }
def FnEncodedLen32Said : Prop := fnEncodedLen32Row.holds Try.pinned (OpenSpec.ofChange fnEncodedLen32Spec)

/-- ITS FALSE NEIGHBOUR: 'it returns false'. Refute it at one input. -/
def fnEncodedLen32Wrong : ChangeSpec := { name := "fnEncodedLen32", fn := fun _ => fun
  | [d1, d2, d3] => { results := [.lit (.bool false)], args := [d1, d2, d3] }
  | _ => none }
def FnEncodedLen32WrongFalsely : Prop := fnEncodedLen32Row.holds Try.pinned (OpenSpec.ofChange fnEncodedLen32Wrong)

/-- 'laws.FnDecodedLen32': WHATEVER THE INPUT: true; the input reads as it did. -/
def fnDecodedLen32Spec : ChangeSpec := { name := "fnDecodedLen32", fn := fun _ => fun
  | [d1, d2, d3] => { results := [.lit (.bool true)], args := [d1, d2, d3] }
  | _ => none }
def fnDecodedLen32Row : OpenClaim := { program := "yteanofipadcakaa", sum := "719da73adc3bbc60140a89f00217196484f4185c58d1189b18b10757f1da9eeb", func := "loop.example/lib-g01093/laws.FnDecodedLen32", spec := "fnDecodedLen32", apart := false }
def FnDecodedLen32Said : Prop := fnDecodedLen32Row.holds Try.pinned (OpenSpec.ofChange fnDecodedLen32Spec)

/-- ITS FALSE NEIGHBOUR: 'it returns false'. Refute it at one input. -/
def fnDecodedLen32Wrong : ChangeSpec := { name := "fnDecodedLen32", fn := fun _ => fun
  | [d1, d2, d3] => { results := [.lit (.bool false)], args := [d1, d2, d3] }
  | _ => none }
def FnDecodedLen32WrongFalsely : Prop := fnDecodedLen32Row.holds Try.pinned (OpenSpec.ofChange fnDecodedLen32Wrong)

/-- 'laws.FnEncodedLen64': WHATEVER THE INPUT: true; the input reads as it did. -/
def fnEncodedLen64Spec : ChangeSpec := { name := "fnEncodedLen64", fn := fun _ => fun
  | [d1, d2, d3] => { results := [.lit (.bool true)], args := [d1, d2, d3] }
  | _ => none }
def fnEncodedLen64Row : OpenClaim := { program := "yteanofipadcakaa", sum := "719da73adc3bbc60140a89f00217196484f4185c58d1189b18b10757f1da9eeb", func := "loop.example/lib-g01093/laws.FnEncodedLen64", spec := "fnEncodedLen64", apart := false }
def FnEncodedLen64Said : Prop := fnEncodedLen64Row.holds Try.pinned (OpenSpec.ofChange fnEncodedLen64Spec)

/-- ITS FALSE NEIGHBOUR: 'it returns false'. Refute it at one input. -/
def fnEncodedLen64Wrong : ChangeSpec := { name := "fnEncodedLen64", fn := fun _ => fun
  | [d1, d2, d3] => { results := [.lit (.bool false)], args := [d1, d2, d3] }
  | _ => none }
def FnEncodedLen64WrongFalsely : Prop := fnEncodedLen64Row.holds Try.pinned (OpenSpec.ofChange fnEncodedLen64Wrong)

/-- 'laws.FnDecodedLen64': WHATEVER THE INPUT: true; the input reads as it did. -/
def fnDecodedLen64Spec : ChangeSpec := { name := "fnDecodedLen64", fn := fun _ => fun
  | [d1, d2, d3] => { results := [.lit (.bool true)], args := [d1, d2, d3] }
  | _ => none }
def fnDecodedLen64Row : OpenClaim := { program := "yteanofipadcakaa", sum := "719da73adc3bbc60140a89f00217196484f4185c58d1189b18b10757f1da9eeb", func := "loop.example/lib-g01093/laws.FnDecodedLen64", spec := "fnDecodedLen64", apart := false }
def FnDecodedLen64Said : Prop := fnDecodedLen64Row.holds Try.pinned (OpenSpec.ofChange fnDecodedLen64Spec)

/-- ITS FALSE NEIGHBOUR: 'it returns false'. Refute it at one input. -/
def fnDecodedLen64Wrong : ChangeSpec := { name := "fnDecodedLen64", fn := fun _ => fun
  | [d1, d2, d3] => { results := [.lit (.bool false)], args := [d1, d2, d3] }
  | _ => none }
def FnDecodedLen64WrongFalsely : Prop := fnDecodedLen64Row.holds Try.pinned (OpenSpec.ofChange fnDecodedLen64Wrong)

/-- 'laws.FnLengths32': WHATEVER THE INPUT: true; the input reads as it did. -/
def fnLengths32Spec : ChangeSpec := { name := "fnLengths32", fn := fun _ => fun
  | [d1, d2, d3] => { results := [.lit (.bool true)], args := [d1, d2, d3] }
  | _ => none }
def fnLengths32Row : OpenClaim := { program := "yteanofipadcakaa", sum := "719da73adc3bbc60140a89f00217196484f4185c58d1189b18b10757f1da9eeb", func := "loop.example/lib-g01093/laws.FnLengths32", spec := "fnLengths32", apart := false }
def FnLengths32Said : Prop := fnLengths32Row.holds Try.pinned (OpenSpec.ofChange fnLengths32Spec)

/-- ITS FALSE NEIGHBOUR: 'it returns false'. Refute it at one input. -/
def fnLengths32Wrong : ChangeSpec := { name := "fnLengths32", fn := fun _ => fun
  | [d1, d2, d3] => { results := [.lit (.bool false)], args := [d1, d2, d3] }
  | _ => none }
def FnLengths32WrongFalsely : Prop := fnLengths32Row.holds Try.pinned (OpenSpec.ofChange fnLengths32Wrong)

/-- 'laws.FnLengths64': WHATEVER THE INPUT: true; the input reads as it did. -/
def fnLengths64Spec : ChangeSpec := { name := "fnLengths64", fn := fun _ => fun
  | [d1, d2, d3] => { results := [.lit (.bool true)], args := [d1, d2, d3] }
  | _ => none }
def fnLengths64Row : OpenClaim := { program := "yteanofipadcakaa", sum := "719da73adc3bbc60140a89f00217196484f4185c58d1189b18b10757f1da9eeb", func := "loop.example/lib-g01093/laws.FnLengths64", spec := "fnLengths64", apart := false }
def FnLengths64Said : Prop := fnLengths64Row.holds Try.pinned (OpenSpec.ofChange fnLengths64Spec)

/-- ITS FALSE NEIGHBOUR: 'it returns false'. Refute it at one input. -/
def fnLengths64Wrong : ChangeSpec := { name := "fnLengths64", fn := fun _ => fun
  | [d1, d2, d3] => { results := [.lit (.bool false)], args := [d1, d2, d3] }
  | _ => none }
def FnLengths64WrongFalsely : Prop := fnLengths64Row.holds Try.pinned (OpenSpec.ofChange fnLengths64Wrong)

/- THE SECOND FORM. 'bulk': how many values and letters a reading holds, each counted each time it is reached (what is shared counts as often as it is met; a slice's spare places count too). A statement '..UptoSaid' is the law's where the arguments, and the package variables that the reading takes, are together of bulk at most 1048576: NARROWER than '..Said'. Prove '..Said' where nothing that the law and all that it calls make is longer than what came in: it says more and counts as full. Else prove '..UptoSaid'. A law counts once. -/
mutual
def uptoBulk {H : Type} : DataW H → Nat
  | .lit (.string bytes) => bytes.length + 1
  | .lit _ => 1
  | .nil => 1
  | .ptr d => uptoBulk d + 1
  | .slice elems spare => uptoBulkAll elems + uptoBulkAll spare + 1
  | .agg parts => uptoBulkAll parts + 1
  | .iface _ d => uptoBulk d + 1
  | .map entries => uptoBulkEntries entries + 1
  | .held _ => 1
def uptoBulkAll {H : Type} : List (DataW H) → Nat
  | [] => 0
  | d :: r => uptoBulk d + uptoBulkAll r
def uptoBulkEntries {H : Type} : List (Lit × DataW H) → Nat
  | [] => 0
  | x :: r => uptoBulkEntry x + uptoBulkEntries r
def uptoBulkEntry {H : Type} : Lit × DataW H → Nat
  | (.string bytes, d) => bytes.length + uptoBulk d + 1
  | (_, d) => uptoBulk d + 1
 end
def uptoSmall : (H : Type) → List (DataW H) → Bool := fun _ ds => decide (uptoBulkAll ds ≤ 1048576)
def OpenSpec.upto (s : _root_.Go.ChangeSpec) : _root_.Go.OpenSpec := { _root_.Go.OpenSpec.ofChange s with cond := some uptoSmall }

/-- 'laws.FnEncodedLen32', WHERE WHAT IT READS IS OF BULK AT MOST 1048576: true; the input reads as it did. -/
def fnEncodedLen32UptoRow : OpenClaim := { program := "yteanofipadcakaa", sum := "719da73adc3bbc60140a89f00217196484f4185c58d1189b18b10757f1da9eeb", func := "loop.example/lib-g01093/laws.FnEncodedLen32", spec := "fnEncodedLen32", apart := false, narrowed := true }
def FnEncodedLen32UptoSaid : Prop := fnEncodedLen32UptoRow.holds Try.pinned (OpenSpec.upto fnEncodedLen32Spec)

/-- 'laws.FnDecodedLen32', WHERE WHAT IT READS IS OF BULK AT MOST 1048576: true; the input reads as it did. -/
def fnDecodedLen32UptoRow : OpenClaim := { program := "yteanofipadcakaa", sum := "719da73adc3bbc60140a89f00217196484f4185c58d1189b18b10757f1da9eeb", func := "loop.example/lib-g01093/laws.FnDecodedLen32", spec := "fnDecodedLen32", apart := false, narrowed := true }
def FnDecodedLen32UptoSaid : Prop := fnDecodedLen32UptoRow.holds Try.pinned (OpenSpec.upto fnDecodedLen32Spec)

/-- 'laws.FnEncodedLen64', WHERE WHAT IT READS IS OF BULK AT MOST 1048576: true; the input reads as it did. -/
def fnEncodedLen64UptoRow : OpenClaim := { program := "yteanofipadcakaa", sum := "719da73adc3bbc60140a89f00217196484f4185c58d1189b18b10757f1da9eeb", func := "loop.example/lib-g01093/laws.FnEncodedLen64", spec := "fnEncodedLen64", apart := false, narrowed := true }
def FnEncodedLen64UptoSaid : Prop := fnEncodedLen64UptoRow.holds Try.pinned (OpenSpec.upto fnEncodedLen64Spec)

/-- 'laws.FnDecodedLen64', WHERE WHAT IT READS IS OF BULK AT MOST 1048576: true; the input reads as it did. -/
def fnDecodedLen64UptoRow : OpenClaim := { program := "yteanofipadcakaa", sum := "719da73adc3bbc60140a89f00217196484f4185c58d1189b18b10757f1da9eeb", func := "loop.example/lib-g01093/laws.FnDecodedLen64", spec := "fnDecodedLen64", apart := false, narrowed := true }
def FnDecodedLen64UptoSaid : Prop := fnDecodedLen64UptoRow.holds Try.pinned (OpenSpec.upto fnDecodedLen64Spec)

/-- 'laws.FnLengths32', WHERE WHAT IT READS IS OF BULK AT MOST 1048576: true; the input reads as it did. -/
def fnLengths32UptoRow : OpenClaim := { program := "yteanofipadcakaa", sum := "719da73adc3bbc60140a89f00217196484f4185c58d1189b18b10757f1da9eeb", func := "loop.example/lib-g01093/laws.FnLengths32", spec := "fnLengths32", apart := false, narrowed := true }
def FnLengths32UptoSaid : Prop := fnLengths32UptoRow.holds Try.pinned (OpenSpec.upto fnLengths32Spec)

/-- 'laws.FnLengths64', WHERE WHAT IT READS IS OF BULK AT MOST 1048576: true; the input reads as it did. -/
def fnLengths64UptoRow : OpenClaim := { program := "yteanofipadcakaa", sum := "719da73adc3bbc60140a89f00217196484f4185c58d1189b18b10757f1da9eeb", func := "loop.example/lib-g01093/laws.FnLengths64", spec := "fnLengths64", apart := false, narrowed := true }
def FnLengths64UptoSaid : Prop := fnLengths64UptoRow.holds Try.pinned (OpenSpec.upto fnLengths64Spec)

end Rows
end Go.Proofs.Yteanofipadcakaa
