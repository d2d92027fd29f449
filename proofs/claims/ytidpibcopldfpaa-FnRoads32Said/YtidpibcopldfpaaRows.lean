/-
  No cell of these rows narrows 'for every input' (looked for: loops, veiled, ifaces, maps, wideKeys, modest, calm, conditions, laid).
  DERIVED. THE GIVEN ROWS OF THIS SEAT. 9 by the template 'for every input the law returns true; each argument reads behind the call as it read before'; 0 by the template 'total and deterministic' (their statements: YtidpibcopldfpaaTotals.lean).
  GIVEN WITH THE SEED: the statements are not yours to turn. If you find one false, say at which input.
  Laid BY PROGRAM, IN A SANDBOX (cutbox-rows.mjs): the forced cells as the released guide's own fill.sh prints them over the translation 226322f6a0c09fea… (all of the seat's roots in one cut). By AI agents, Wed Nov 11 2026. No macro, syntax, notation, axiom, sorry.
-/
import Derived.Test.YtidpibcopldfpaaChecked
import GoSem.Claim
import GoSem.ClaimJoined
import GoSem.ClaimMapViews
import Derived.JoinedTies
import Derived.KernelRfl
namespace Go.Proofs.Ytidpibcopldfpaa
/- THE CELL 'sum', in the pinned program and in every row, IS THE sha256 OF THE DUMP (.gsa) THAT YtidpibcopldfpaaProg.lean LOADS. Nothing in Lean hashes anything: it is a label: what it is worth is what the hold of that sum in a sandbox is worth. -/
noncomputable def Try.pinned : Pinned := { name := "ytidpibcopldfpaa", sum := "226322f6a0c09fea3d289814ba5ac7cb95b783de8063f3f5d5c4289d9b80329d", checked := Try.checked }
namespace Rows
def none {H : Type} : Left H := { results := [], args := [] }

/-- 'laws.FnAlphabets32': WHATEVER THE INPUT: true; the input reads as it did. -/
def fnAlphabets32Spec : ChangeSpec := { name := "fnAlphabets32", fn := fun _ => fun
  | [d1, d2, d3, d4] => { results := [.lit (.bool true)], args := [d1, d2, d3, d4] }
  | _ => none }
def fnAlphabets32Row : OpenClaim := { program := "ytidpibcopldfpaa", sum := "226322f6a0c09fea3d289814ba5ac7cb95b783de8063f3f5d5c4289d9b80329d", func := "loop.example/lib-g01093/laws.FnAlphabets32", spec := "fnAlphabets32", apart := false }
def FnAlphabets32Said : Prop := fnAlphabets32Row.holds Try.pinned (OpenSpec.ofChange fnAlphabets32Spec)

/-- ITS FALSE NEIGHBOUR: 'it returns false'. Refute it at one input. -/
def fnAlphabets32Wrong : ChangeSpec := { name := "fnAlphabets32", fn := fun _ => fun
  | [d1, d2, d3, d4] => { results := [.lit (.bool false)], args := [d1, d2, d3, d4] }
  | _ => none }
def FnAlphabets32WrongFalsely : Prop := fnAlphabets32Row.holds Try.pinned (OpenSpec.ofChange fnAlphabets32Wrong)

/-- 'laws.FnEncode32': WHATEVER THE INPUT: true; the input reads as it did. -/
def fnEncode32Spec : ChangeSpec := { name := "fnEncode32", fn := fun _ => fun
  | [d1, d2, d3] => { results := [.lit (.bool true)], args := [d1, d2, d3] }
  | _ => none }
def fnEncode32Row : OpenClaim := { program := "ytidpibcopldfpaa", sum := "226322f6a0c09fea3d289814ba5ac7cb95b783de8063f3f5d5c4289d9b80329d", func := "loop.example/lib-g01093/laws.FnEncode32", spec := "fnEncode32", apart := false }
def FnEncode32Said : Prop := fnEncode32Row.holds Try.pinned (OpenSpec.ofChange fnEncode32Spec)

/-- ITS FALSE NEIGHBOUR: 'it returns false'. Refute it at one input. -/
def fnEncode32Wrong : ChangeSpec := { name := "fnEncode32", fn := fun _ => fun
  | [d1, d2, d3] => { results := [.lit (.bool false)], args := [d1, d2, d3] }
  | _ => none }
def FnEncode32WrongFalsely : Prop := fnEncode32Row.holds Try.pinned (OpenSpec.ofChange fnEncode32Wrong)

/-- 'laws.FnEncodeInto32': WHATEVER THE INPUT: true; the input reads as it did. -/
def fnEncodeInto32Spec : ChangeSpec := { name := "fnEncodeInto32", fn := fun _ => fun
  | [d1, d2, d3, d4] => { results := [.lit (.bool true)], args := [d1, d2, d3, d4] }
  | _ => none }
def fnEncodeInto32Row : OpenClaim := { program := "ytidpibcopldfpaa", sum := "226322f6a0c09fea3d289814ba5ac7cb95b783de8063f3f5d5c4289d9b80329d", func := "loop.example/lib-g01093/laws.FnEncodeInto32", spec := "fnEncodeInto32", apart := false }
def FnEncodeInto32Said : Prop := fnEncodeInto32Row.holds Try.pinned (OpenSpec.ofChange fnEncodeInto32Spec)

/-- ITS FALSE NEIGHBOUR: 'it returns false'. Refute it at one input. -/
def fnEncodeInto32Wrong : ChangeSpec := { name := "fnEncodeInto32", fn := fun _ => fun
  | [d1, d2, d3, d4] => { results := [.lit (.bool false)], args := [d1, d2, d3, d4] }
  | _ => none }
def FnEncodeInto32WrongFalsely : Prop := fnEncodeInto32Row.holds Try.pinned (OpenSpec.ofChange fnEncodeInto32Wrong)

/-- 'laws.FnGroups32': WHATEVER THE INPUT: true; the input reads as it did. -/
def fnGroups32Spec : ChangeSpec := { name := "fnGroups32", fn := fun _ => fun
  | [d1, d2, d3, d4] => { results := [.lit (.bool true)], args := [d1, d2, d3, d4] }
  | _ => none }
def fnGroups32Row : OpenClaim := { program := "ytidpibcopldfpaa", sum := "226322f6a0c09fea3d289814ba5ac7cb95b783de8063f3f5d5c4289d9b80329d", func := "loop.example/lib-g01093/laws.FnGroups32", spec := "fnGroups32", apart := false }
def FnGroups32Said : Prop := fnGroups32Row.holds Try.pinned (OpenSpec.ofChange fnGroups32Spec)

/-- ITS FALSE NEIGHBOUR: 'it returns false'. Refute it at one input. -/
def fnGroups32Wrong : ChangeSpec := { name := "fnGroups32", fn := fun _ => fun
  | [d1, d2, d3, d4] => { results := [.lit (.bool false)], args := [d1, d2, d3, d4] }
  | _ => none }
def FnGroups32WrongFalsely : Prop := fnGroups32Row.holds Try.pinned (OpenSpec.ofChange fnGroups32Wrong)

/-- 'laws.FnInjective32': WHATEVER THE INPUT: true; the input reads as it did. -/
def fnInjective32Spec : ChangeSpec := { name := "fnInjective32", fn := fun _ => fun
  | [d1, d2, d3, d4] => { results := [.lit (.bool true)], args := [d1, d2, d3, d4] }
  | _ => none }
def fnInjective32Row : OpenClaim := { program := "ytidpibcopldfpaa", sum := "226322f6a0c09fea3d289814ba5ac7cb95b783de8063f3f5d5c4289d9b80329d", func := "loop.example/lib-g01093/laws.FnInjective32", spec := "fnInjective32", apart := false }
def FnInjective32Said : Prop := fnInjective32Row.holds Try.pinned (OpenSpec.ofChange fnInjective32Spec)

/-- ITS FALSE NEIGHBOUR: 'it returns false'. Refute it at one input. -/
def fnInjective32Wrong : ChangeSpec := { name := "fnInjective32", fn := fun _ => fun
  | [d1, d2, d3, d4] => { results := [.lit (.bool false)], args := [d1, d2, d3, d4] }
  | _ => none }
def FnInjective32WrongFalsely : Prop := fnInjective32Row.holds Try.pinned (OpenSpec.ofChange fnInjective32Wrong)

/-- 'laws.FnLetters32': WHATEVER THE INPUT: true; the input reads as it did. -/
def fnLetters32Spec : ChangeSpec := { name := "fnLetters32", fn := fun _ => fun
  | [d1, d2, d3] => { results := [.lit (.bool true)], args := [d1, d2, d3] }
  | _ => none }
def fnLetters32Row : OpenClaim := { program := "ytidpibcopldfpaa", sum := "226322f6a0c09fea3d289814ba5ac7cb95b783de8063f3f5d5c4289d9b80329d", func := "loop.example/lib-g01093/laws.FnLetters32", spec := "fnLetters32", apart := false }
def FnLetters32Said : Prop := fnLetters32Row.holds Try.pinned (OpenSpec.ofChange fnLetters32Spec)

/-- ITS FALSE NEIGHBOUR: 'it returns false'. Refute it at one input. -/
def fnLetters32Wrong : ChangeSpec := { name := "fnLetters32", fn := fun _ => fun
  | [d1, d2, d3] => { results := [.lit (.bool false)], args := [d1, d2, d3] }
  | _ => none }
def FnLetters32WrongFalsely : Prop := fnLetters32Row.holds Try.pinned (OpenSpec.ofChange fnLetters32Wrong)

/-- 'laws.FnPadding32': WHATEVER THE INPUT: true; the input reads as it did. -/
def fnPadding32Spec : ChangeSpec := { name := "fnPadding32", fn := fun _ => fun
  | [d1, d2, d3, d4] => { results := [.lit (.bool true)], args := [d1, d2, d3, d4] }
  | _ => none }
def fnPadding32Row : OpenClaim := { program := "ytidpibcopldfpaa", sum := "226322f6a0c09fea3d289814ba5ac7cb95b783de8063f3f5d5c4289d9b80329d", func := "loop.example/lib-g01093/laws.FnPadding32", spec := "fnPadding32", apart := false }
def FnPadding32Said : Prop := fnPadding32Row.holds Try.pinned (OpenSpec.ofChange fnPadding32Spec)

/-- ITS FALSE NEIGHBOUR: 'it returns false'. Refute it at one input. -/
def fnPadding32Wrong : ChangeSpec := { name := "fnPadding32", fn := fun _ => fun
  | [d1, d2, d3, d4] => { results := [.lit (.bool false)], args := [d1, d2, d3, d4] }
  | _ => none }
def FnPadding32WrongFalsely : Prop := fnPadding32Row.holds Try.pinned (OpenSpec.ofChange fnPadding32Wrong)

/-- 'laws.FnAppendEncode32': WHATEVER THE INPUT: true; the input reads as it did. -/
def fnAppendEncode32Spec : ChangeSpec := { name := "fnAppendEncode32", fn := fun _ => fun
  | [d1, d2, d3, d4] => { results := [.lit (.bool true)], args := [d1, d2, d3, d4] }
  | _ => none }
def fnAppendEncode32Row : OpenClaim := { program := "ytidpibcopldfpaa", sum := "226322f6a0c09fea3d289814ba5ac7cb95b783de8063f3f5d5c4289d9b80329d", func := "loop.example/lib-g01093/laws.FnAppendEncode32", spec := "fnAppendEncode32", apart := false }
def FnAppendEncode32Said : Prop := fnAppendEncode32Row.holds Try.pinned (OpenSpec.ofChange fnAppendEncode32Spec)

/-- ITS FALSE NEIGHBOUR: 'it returns false'. Refute it at one input. -/
def fnAppendEncode32Wrong : ChangeSpec := { name := "fnAppendEncode32", fn := fun _ => fun
  | [d1, d2, d3, d4] => { results := [.lit (.bool false)], args := [d1, d2, d3, d4] }
  | _ => none }
def FnAppendEncode32WrongFalsely : Prop := fnAppendEncode32Row.holds Try.pinned (OpenSpec.ofChange fnAppendEncode32Wrong)

/-- 'laws.FnRoads32': WHATEVER THE INPUT: true; the input reads as it did. -/
def fnRoads32Spec : ChangeSpec := { name := "fnRoads32", fn := fun _ => fun
  | [d1, d2, d3] => { results := [.lit (.bool true)], args := [d1, d2, d3] }
  | _ => none }
def fnRoads32Row : OpenClaim := { program := "ytidpibcopldfpaa", sum := "226322f6a0c09fea3d289814ba5ac7cb95b783de8063f3f5d5c4289d9b80329d", func := "loop.example/lib-g01093/laws.FnRoads32", spec := "fnRoads32", apart := false }
def FnRoads32Said : Prop := fnRoads32Row.holds Try.pinned (OpenSpec.ofChange fnRoads32Spec)

/-- ITS FALSE NEIGHBOUR: 'it returns false'. Refute it at one input. -/
def fnRoads32Wrong : ChangeSpec := { name := "fnRoads32", fn := fun _ => fun
  | [d1, d2, d3] => { results := [.lit (.bool false)], args := [d1, d2, d3] }
  | _ => none }
def FnRoads32WrongFalsely : Prop := fnRoads32Row.holds Try.pinned (OpenSpec.ofChange fnRoads32Wrong)

/- THE SECOND FORM. 'bulk': how many values and letters a reading holds, each counted each time it is reached (what is shared counts as often as it is met; a slice's spare places count too). A statement '..UptoSaid' is the law's where the arguments, and the package variables that the reading takes, are together of bulk at most 1048576: NARROWER than '..Said'. Prove '..Said' where nothing that the law and all that it calls make is longer than what came in: it says more and counts as full. Else prove '..UptoSaid'. A law counts once. -/
mutual
def uptoBulk {H : Type} : DataW H → Nat
  | .lit (.string bytes) => bytes.length + 1
  | .lit _ => 1
  | .nil => 1
  | .ptr d => uptoBulk d + 1
  | .slice elems spare => uptoBulkAll elems + uptoBulkAll spare + 1
  | .agg parts => uptoBulkAll parts + 1
  | .iface _ d => uptoBulk d + 1
  | .map entries => uptoBulkEntries entries + 1
  | .held _ => 1
def uptoBulkAll {H : Type} : List (DataW H) → Nat
  | [] => 0
  | d :: r => uptoBulk d + uptoBulkAll r
def uptoBulkEntries {H : Type} : List (Lit × DataW H) → Nat
  | [] => 0
  | x :: r => uptoBulkEntry x + uptoBulkEntries r
def uptoBulkEntry {H : Type} : Lit × DataW H → Nat
  | (.string bytes, d) => bytes.length + uptoBulk d + 1
  | (_, d) => uptoBulk d + 1
 end
def uptoSmall : (H : Type) → List (DataW H) → Bool := fun _ ds => decide (uptoBulkAll ds ≤ 1048576)
def OpenSpec.upto (s : _root_.Go.ChangeSpec) : _root_.Go.OpenSpec := { _root_.Go.OpenSpec.ofChange s with cond := some uptoSmall }

/-- 'laws.FnAlphabets32', WHERE WHAT IT READS IS OF BULK AT MOST 1048576: true; the input reads as it did. -/
def fnAlphabets32UptoRow : OpenClaim := { program := "ytidpibcopldfpaa", sum := "226322f6a0c09fea3d289814ba5ac7cb95b783de8063f3f5d5c4289d9b80329d", func := "loop.example/lib-g01093/laws.FnAlphabets32", spec := "fnAlphabets32", apart := false, narrowed := true }
def FnAlphabets32UptoSaid : Prop := fnAlphabets32UptoRow.holds Try.pinned (OpenSpec.upto fnAlphabets32Spec)

/-- 'laws.FnEncode32', WHERE WHAT IT READS IS OF BULK AT MOST 1048576: true; the input reads as it did. -/
def fnEncode32UptoRow : OpenClaim := { program := "ytidpibcopldfpaa", sum := "226322f6a0c09fea3d289814ba5ac7cb95b783de8063f3f5d5c4289d9b80329d", func := "loop.example/lib-g01093/laws.FnEncode32", spec := "fnEncode32", apart := false, narrowed := true }
def FnEncode32UptoSaid : Prop := fnEncode32UptoRow.holds Try.pinned (OpenSpec.upto fnEncode32Spec)

/-- 'laws.FnEncodeInto32', WHERE WHAT IT READS IS OF BULK AT MOST 1048576: true; the input reads as it did. -/
def fnEncodeInto32UptoRow : OpenClaim := { program := "ytidpibcopldfpaa", sum := "226322f6a0c09fea3d289814ba5ac7cb95b783de8063f3f5d5c4289d9b80329d", func := "loop.example/lib-g01093/laws.FnEncodeInto32", spec := "fnEncodeInto32", apart := false, narrowed := true }
def FnEncodeInto32UptoSaid : Prop := fnEncodeInto32UptoRow.holds Try.pinned (OpenSpec.upto fnEncodeInto32Spec)

/-- 'laws.FnGroups32', WHERE WHAT IT READS IS OF BULK AT MOST 1048576: true; the input reads as it did. -/
def fnGroups32UptoRow : OpenClaim := { program := "ytidpibcopldfpaa", sum := "226322f6a0c09fea3d289814ba5ac7cb95b783de8063f3f5d5c4289d9b80329d", func := "loop.example/lib-g01093/laws.FnGroups32", spec := "fnGroups32", apart := false, narrowed := true }
def FnGroups32UptoSaid : Prop := fnGroups32UptoRow.holds Try.pinned (OpenSpec.upto fnGroups32Spec)

/-- 'laws.FnInjective32', WHERE WHAT IT READS IS OF BULK AT MOST 1048576: true; the input reads as it did. -/
def fnInjective32UptoRow : OpenClaim := { program := "ytidpibcopldfpaa", sum := "226322f6a0c09fea3d289814ba5ac7cb95b783de8063f3f5d5c4289d9b80329d", func := "loop.example/lib-g01093/laws.FnInjective32", spec := "fnInjective32", apart := false, narrowed := true }
def FnInjective32UptoSaid : Prop := fnInjective32UptoRow.holds Try.pinned (OpenSpec.upto fnInjective32Spec)

/-- 'laws.FnLetters32', WHERE WHAT IT READS IS OF BULK AT MOST 1048576: true; the input reads as it did. -/
def fnLetters32UptoRow : OpenClaim := { program := "ytidpibcopldfpaa", sum := "226322f6a0c09fea3d289814ba5ac7cb95b783de8063f3f5d5c4289d9b80329d", func := "loop.example/lib-g01093/laws.FnLetters32", spec := "fnLetters32", apart := false, narrowed := true }
def FnLetters32UptoSaid : Prop := fnLetters32UptoRow.holds Try.pinned (OpenSpec.upto fnLetters32Spec)

/-- 'laws.FnPadding32', WHERE WHAT IT READS IS OF BULK AT MOST 1048576: true; the input reads as it did. -/
def fnPadding32UptoRow : OpenClaim := { program := "ytidpibcopldfpaa", sum := "226322f6a0c09fea3d289814ba5ac7cb95b783de8063f3f5d5c4289d9b80329d", func := "loop.example/lib-g01093/laws.FnPadding32", spec := "fnPadding32", apart := false, narrowed := true }
def FnPadding32UptoSaid : Prop := fnPadding32UptoRow.holds Try.pinned (OpenSpec.upto fnPadding32Spec)

/-- 'laws.FnAppendEncode32', WHERE WHAT IT READS IS OF BULK AT MOST 1048576: true; the input reads as it did. -/
def fnAppendEncode32UptoRow : OpenClaim := { program := "ytidpibcopldfpaa", sum := "226322f6a0c09fea3d289814ba5ac7cb95b783de8063f3f5d5c4289d9b80329d", func := "loop.example/lib-g01093/laws.FnAppendEncode32", spec := "fnAppendEncode32", apart := false, narrowed := true }
def FnAppendEncode32UptoSaid : Prop := fnAppendEncode32UptoRow.holds Try.pinned (OpenSpec.upto fnAppendEncode32Spec)

/-- 'laws.FnRoads32', WHERE WHAT IT READS IS OF BULK AT MOST 1048576: true; the input reads as it did. -/
def fnRoads32UptoRow : OpenClaim := { program := "ytidpibcopldfpaa", sum := "226322f6a0c09fea3d289814ba5ac7cb95b783de8063f3f5d5c4289d9b80329d", func := "loop.example/lib-g01093/laws.FnRoads32", spec := "fnRoads32", apart := false, narrowed := true }
def FnRoads32UptoSaid : Prop := fnRoads32UptoRow.holds Try.pinned (OpenSpec.upto fnRoads32Spec)

end Rows
end Go.Proofs.Ytidpibcopldfpaa
