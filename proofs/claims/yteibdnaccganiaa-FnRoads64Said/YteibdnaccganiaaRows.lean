/-
  No cell of these rows narrows 'for every input' (looked for: loops, veiled, ifaces, maps, wideKeys, modest, calm, conditions, laid).
  DERIVED. THE GIVEN ROWS OF THIS SEAT. 9 by the template 'for every input the law returns true; each argument reads behind the call as it read before'; 0 by the template 'total and deterministic' (their statements: YteibdnaccganiaaTotals.lean).
  GIVEN WITH THE SEED: the statements are not yours to turn. If you find one false, say at which input.
  Laid BY PROGRAM, IN A SANDBOX (cutbox-rows.mjs): the forced cells as the released guide's own fill.sh prints them over the translation 6109ca3817684665… (all of the seat's roots in one cut). By AI agents, Wed Nov 11 2026. No macro, syntax, notation, axiom, sorry.
-/
import Derived.Test.YteibdnaccganiaaChecked
import GoSem.Claim
import GoSem.ClaimJoined
import GoSem.ClaimMapViews
import Derived.JoinedTies
import Derived.KernelRfl
namespace Go.Proofs.Yteibdnaccganiaa
/- THE CELL 'sum', in the pinned program and in every row, IS THE sha256 OF THE DUMP (.gsa) THAT YteibdnaccganiaaProg.lean LOADS. Nothing in Lean hashes anything: it is a label: what it is worth is what the hold of that sum in a sandbox is worth. -/
noncomputable def Try.pinned : Pinned := { name := "yteibdnaccganiaa", sum := "6109ca3817684665a6a7b03b9d19c82572eccb260f7b51997ee88790a5311d58", checked := Try.checked }
namespace Rows
def none {H : Type} : Left H := { results := [], args := [] }

/-- 'laws.FnAlphabets64': WHATEVER THE INPUT: true; the input reads as it did. -/
def fnAlphabets64Spec : ChangeSpec := { name := "fnAlphabets64", fn := fun _ => fun
  | [d1, d2, d3, d4] => { results := [.lit (.bool true)], args := [d1, d2, d3, d4] }
  | _ => none }
def fnAlphabets64Row : OpenClaim := { program := "yteibdnaccganiaa", sum := "6109ca3817684665a6a7b03b9d19c82572eccb260f7b51997ee88790a5311d58", func := "loop.example/lib-g01093/laws.FnAlphabets64", spec := "fnAlphabets64", apart := false }
def FnAlphabets64Said : Prop := fnAlphabets64Row.holds Try.pinned (OpenSpec.ofChange fnAlphabets64Spec)

/-- ITS FALSE NEIGHBOUR: 'it returns false'. Refute it at one input. -/
def fnAlphabets64Wrong : ChangeSpec := { name := "fnAlphabets64", fn := fun _ => fun
  | [d1, d2, d3, d4] => { results := [.lit (.bool false)], args := [d1, d2, d3, d4] }
  | _ => none }
def FnAlphabets64WrongFalsely : Prop := fnAlphabets64Row.holds Try.pinned (OpenSpec.ofChange fnAlphabets64Wrong)

/-- 'laws.FnEncode64': WHATEVER THE INPUT: true; the input reads as it did. -/
def fnEncode64Spec : ChangeSpec := { name := "fnEncode64", fn := fun _ => fun
  | [d1, d2, d3] => { results := [.lit (.bool true)], args := [d1, d2, d3] }
  | _ => none }
def fnEncode64Row : OpenClaim := { program := "yteibdnaccganiaa", sum := "6109ca3817684665a6a7b03b9d19c82572eccb260f7b51997ee88790a5311d58", func := "loop.example/lib-g01093/laws.FnEncode64", spec := "fnEncode64", apart := false }
def FnEncode64Said : Prop := fnEncode64Row.holds Try.pinned (OpenSpec.ofChange fnEncode64Spec)

/-- ITS FALSE NEIGHBOUR: 'it returns false'. Refute it at one input. -/
def fnEncode64Wrong : ChangeSpec := { name := "fnEncode64", fn := fun _ => fun
  | [d1, d2, d3] => { results := [.lit (.bool false)], args := [d1, d2, d3] }
  | _ => none }
def FnEncode64WrongFalsely : Prop := fnEncode64Row.holds Try.pinned (OpenSpec.ofChange fnEncode64Wrong)

/-- 'laws.FnEncodeInto64': WHATEVER THE INPUT: true; the input reads as it did. -/
def fnEncodeInto64Spec : ChangeSpec := { name := "fnEncodeInto64", fn := fun _ => fun
  | [d1, d2, d3, d4] => { results := [.lit (.bool true)], args := [d1, d2, d3, d4] }
  | _ => none }
def fnEncodeInto64Row : OpenClaim := { program := "yteibdnaccganiaa", sum := "6109ca3817684665a6a7b03b9d19c82572eccb260f7b51997ee88790a5311d58", func := "loop.example/lib-g01093/laws.FnEncodeInto64", spec := "fnEncodeInto64", apart := false }
def FnEncodeInto64Said : Prop := fnEncodeInto64Row.holds Try.pinned (OpenSpec.ofChange fnEncodeInto64Spec)

/-- ITS FALSE NEIGHBOUR: 'it returns false'. Refute it at one input. -/
def fnEncodeInto64Wrong : ChangeSpec := { name := "fnEncodeInto64", fn := fun _ => fun
  | [d1, d2, d3, d4] => { results := [.lit (.bool false)], args := [d1, d2, d3, d4] }
  | _ => none }
def FnEncodeInto64WrongFalsely : Prop := fnEncodeInto64Row.holds Try.pinned (OpenSpec.ofChange fnEncodeInto64Wrong)

/-- 'laws.FnGroups64': WHATEVER THE INPUT: true; the input reads as it did. -/
def fnGroups64Spec : ChangeSpec := { name := "fnGroups64", fn := fun _ => fun
  | [d1, d2, d3, d4] => { results := [.lit (.bool true)], args := [d1, d2, d3, d4] }
  | _ => none }
def fnGroups64Row : OpenClaim := { program := "yteibdnaccganiaa", sum := "6109ca3817684665a6a7b03b9d19c82572eccb260f7b51997ee88790a5311d58", func := "loop.example/lib-g01093/laws.FnGroups64", spec := "fnGroups64", apart := false }
def FnGroups64Said : Prop := fnGroups64Row.holds Try.pinned (OpenSpec.ofChange fnGroups64Spec)

/-- ITS FALSE NEIGHBOUR: 'it returns false'. Refute it at one input. -/
def fnGroups64Wrong : ChangeSpec := { name := "fnGroups64", fn := fun _ => fun
  | [d1, d2, d3, d4] => { results := [.lit (.bool false)], args := [d1, d2, d3, d4] }
  | _ => none }
def FnGroups64WrongFalsely : Prop := fnGroups64Row.holds Try.pinned (OpenSpec.ofChange fnGroups64Wrong)

/-- 'laws.FnInjective64': WHATEVER THE INPUT: true; the input reads as it did. -/
def fnInjective64Spec : ChangeSpec := { name := "fnInjective64", fn := fun _ => fun
  | [d1, d2, d3, d4] => { results := [.lit (.bool true)], args := [d1, d2, d3, d4] }
  | _ => none }
def fnInjective64Row : OpenClaim := { program := "yteibdnaccganiaa", sum := "6109ca3817684665a6a7b03b9d19c82572eccb260f7b51997ee88790a5311d58", func := "loop.example/lib-g01093/laws.FnInjective64", spec := "fnInjective64", apart := false }
def FnInjective64Said : Prop := fnInjective64Row.holds Try.pinned (OpenSpec.ofChange fnInjective64Spec)

/-- ITS FALSE NEIGHBOUR: 'it returns false'. Refute it at one input. -/
def fnInjective64Wrong : ChangeSpec := { name := "fnInjective64", fn := fun _ => fun
  | [d1, d2, d3, d4] => { results := [.lit (.bool false)], args := [d1, d2, d3, d4] }
  | _ => none }
def FnInjective64WrongFalsely : Prop := fnInjective64Row.holds Try.pinned (OpenSpec.ofChange fnInjective64Wrong)

/-- 'laws.FnLetters64': WHATEVER THE INPUT: true; the input reads as it did. -/
def fnLetters64Spec : ChangeSpec := { name := "fnLetters64", fn := fun _ => fun
  | [d1, d2, d3] => { results := [.lit (.bool true)], args := [d1, d2, d3] }
  | _ => none }
def fnLetters64Row : OpenClaim := { program := "yteibdnaccganiaa", sum := "6109ca3817684665a6a7b03b9d19c82572eccb260f7b51997ee88790a5311d58", func := "loop.example/lib-g01093/laws.FnLetters64", spec := "fnLetters64", apart := false }
def FnLetters64Said : Prop := fnLetters64Row.holds Try.pinned (OpenSpec.ofChange fnLetters64Spec)

/-- ITS FALSE NEIGHBOUR: 'it returns false'. Refute it at one input. -/
def fnLetters64Wrong : ChangeSpec := { name := "fnLetters64", fn := fun _ => fun
  | [d1, d2, d3] => { results := [.lit (.bool false)], args := [d1, d2, d3] }
  | _ => none }
def FnLetters64WrongFalsely : Prop := fnLetters64Row.holds Try.pinned (OpenSpec.ofChange fnLetters64Wrong)

/-- 'laws.FnPadding64': WHATEVER THE INPUT: true; the input reads as it did. -/
def fnPadding64Spec : ChangeSpec := { name := "fnPadding64", fn := fun _ => fun
  | [d1, d2, d3, d4] => { results := [.lit (.bool true)], args := [d1, d2, d3, d4] }
  | _ => none }
def fnPadding64Row : OpenClaim := { program := "yteibdnaccganiaa", sum := "6109ca3817684665a6a7b03b9d19c82572eccb260f7b51997ee88790a5311d58", func := "loop.example/lib-g01093/laws.FnPadding64", spec := "fnPadding64", apart := false }
def FnPadding64Said : Prop := fnPadding64Row.holds Try.pinned (OpenSpec.ofChange fnPadding64Spec)

/-- ITS FALSE NEIGHBOUR: 'it returns false'. Refute it at one input. -/
def fnPadding64Wrong : ChangeSpec := { name := "fnPadding64", fn := fun _ => fun
  | [d1, d2, d3, d4] => { results := [.lit (.bool false)], args := [d1, d2, d3, d4] }
  | _ => none }
def FnPadding64WrongFalsely : Prop := fnPadding64Row.holds Try.pinned (OpenSpec.ofChange fnPadding64Wrong)

/-- 'laws.FnAppendEncode64': WHATEVER THE INPUT: true; the input reads as it did. -/
def fnAppendEncode64Spec : ChangeSpec := { name := "fnAppendEncode64", fn := fun _ => fun
  | [d1, d2, d3, d4] => { results := [.lit (.bool true)], args := [d1, d2, d3, d4] }
  | _ => none }
def fnAppendEncode64Row : OpenClaim := { program := "yteibdnaccganiaa", sum := "6109ca3817684665a6a7b03b9d19c82572eccb260f7b51997ee88790a5311d58", func := "loop.example/lib-g01093/laws.FnAppendEncode64", spec := "fnAppendEncode64", apart := false }
def FnAppendEncode64Said : Prop := fnAppendEncode64Row.holds Try.pinned (OpenSpec.ofChange fnAppendEncode64Spec)

/-- ITS FALSE NEIGHBOUR: 'it returns false'. Refute it at one input. -/
def fnAppendEncode64Wrong : ChangeSpec := { name := "fnAppendEncode64", fn := fun _ => fun
  | [d1, d2, d3, d4] => { results := [.lit (.bool false)], args := [d1, d2, d3, d4] }
  | _ => none }
def FnAppendEncode64WrongFalsely : Prop := fnAppendEncode64Row.holds Try.pinned (OpenSpec.ofChange fnAppendEncode64Wrong)

/-- 'laws.FnRoads64': WHATEVER THE INPUT: true; the input reads as it did. -/
def fnRoads64Spec : ChangeSpec := { name := "fnRoads64", fn := fun _ => fun
  | [d1, d2, d3] => { results := [.lit (.bool true)], args := [d1, d2, d3] }
  | _ => none }
def fnRoads64Row : OpenClaim := { program := "yteibdnaccganiaa", sum := "6109ca3817684665a6a7b03b9d19c82572eccb260f7b51997ee88790a5311d58", func := "loop.example/lib-g01093/laws.FnRoads64", spec := "fnRoads64", apart := false }
def FnRoads64Said : Prop := fnRoads64Row.holds Try.pinned (OpenSpec.ofChange fnRoads64Spec)

/-- ITS FALSE NEIGHBOUR: 'it returns false'. Refute it at one input. -/
def fnRoads64Wrong : ChangeSpec := { name := "fnRoads64", fn := fun _ => fun
  | [d1, d2, d3] => { results := [.lit (.bool false)], args := [d1, d2, d3] }
  | _ => none }
def FnRoads64WrongFalsely : Prop := fnRoads64Row.holds Try.pinned (OpenSpec.ofChange fnRoads64Wrong)

/- THE SECOND FORM. 'bulk': how many values and letters a reading holds, each counted each time it is reached (what is shared counts as often as it is met; a slice's spare places count too). A statement '..UptoSaid' is the law's where the arguments, and the package variables that the reading takes, are together of bulk at most 1048576: NARROWER than '..Said'. Prove '..Said' where nothing that the law and all that it calls make is longer than what came in: it says more and counts as full. Else prove '..UptoSaid'. A law counts once. -/
mutual
def uptoBulk {H : Type} : DataW H → Nat
  | .lit (.string bytes) => bytes.length + 1
  | .lit _ => 1
  | .nil => 1
  | .ptr d => uptoBulk d + 1
  | .slice elems spare => uptoBulkAll elems + uptoBulkAll spare + 1
  | .agg parts => uptoBulkAll parts + 1
  | .iface _ d => uptoBulk d + 1
  | .map entries => uptoBulkEntries entries + 1
  | .held _ => 1
def uptoBulkAll {H : Type} : List (DataW H) → Nat
  | [] => 0
  | d :: r => uptoBulk d + uptoBulkAll r
def uptoBulkEntries {H : Type} : List (Lit × DataW H) → Nat
  | [] => 0
  | x :: r => uptoBulkEntry x + uptoBulkEntries r
def uptoBulkEntry {H : Type} : Lit × DataW H → Nat
  | (.string bytes, d) => bytes.length + uptoBulk d + 1
  | (_, d) => uptoBulk d + 1
 end
def uptoSmall : (H : Type) → List (DataW H) → Bool := fun _ ds => decide (uptoBulkAll ds ≤ 1048576)
def OpenSpec.upto (s : _root_.Go.ChangeSpec) : _root_.Go.OpenSpec := { _root_.Go.OpenSpec.ofChange s with cond := some uptoSmall }

/-- 'laws.FnAlphabets64', WHERE WHAT IT READS IS OF BULK AT MOST 1048576: true; the input reads as it did. -/
def fnAlphabets64UptoRow : OpenClaim := { program := "yteibdnaccganiaa", sum := "6109ca3817684665a6a7b03b9d19c82572eccb260f7b51997ee88790a5311d58", func := "loop.example/lib-g01093/laws.FnAlphabets64", spec := "fnAlphabets64", apart := false, narrowed := true }
def FnAlphabets64UptoSaid : Prop := fnAlphabets64UptoRow.holds Try.pinned (OpenSpec.upto fnAlphabets64Spec)

/-- 'laws.FnEncode64', WHERE WHAT IT READS IS OF BULK AT MOST 1048576: true; the input reads as it did. -/
def fnEncode64UptoRow : OpenClaim := { program := "yteibdnaccganiaa", sum := "6109ca3817684665a6a7b03b9d19c82572eccb260f7b51997ee88790a5311d58", func := "loop.example/lib-g01093/laws.FnEncode64", spec := "fnEncode64", apart := false, narrowed := true }
def FnEncode64UptoSaid : Prop := fnEncode64UptoRow.holds Try.pinned (OpenSpec.upto fnEncode64Spec)

/-- 'laws.FnEncodeInto64', WHERE WHAT IT READS IS OF BULK AT MOST 1048576: true; the input reads as it did. -/
def fnEncodeInto64UptoRow : OpenClaim := { program := "yteibdnaccganiaa", sum := "6109ca3817684665a6a7b03b9d19c82572eccb260f7b51997ee88790a5311d58", func := "loop.example/lib-g01093/laws.FnEncodeInto64", spec := "fnEncodeInto64", apart := false, narrowed := true }
def FnEncodeInto64UptoSaid : Prop := fnEncodeInto64UptoRow.holds Try.pinned (OpenSpec.upto fnEncodeInto64Spec)

/-- 'laws.FnGroups64', WHERE WHAT IT READS IS OF BULK AT MOST 1048576: true; the input reads as it did. -/
def fnGroups64UptoRow : OpenClaim := { program := "yteibdnaccganiaa", sum := "6109ca3817684665a6a7b03b9d19c82572eccb260f7b51997ee88790a5311d58", func := "loop.example/lib-g01093/laws.FnGroups64", spec := "fnGroups64", apart := false, narrowed := true }
def FnGroups64UptoSaid : Prop := fnGroups64UptoRow.holds Try.pinned (OpenSpec.upto fnGroups64Spec)

/-- 'laws.FnInjective64', WHERE WHAT IT READS IS OF BULK AT MOST 1048576: true; the input reads as it did. -/
def fnInjective64UptoRow : OpenClaim := { program := "yteibdnaccganiaa", sum := "6109ca3817684665a6a7b03b9d19c82572eccb260f7b51997ee88790a5311d58", func := "loop.example/lib-g01093/laws.FnInjective64", spec := "fnInjective64", apart := false, narrowed := true }
def FnInjective64UptoSaid : Prop := fnInjective64UptoRow.holds Try.pinned (OpenSpec.upto fnInjective64Spec)

/-- 'laws.FnLetters64', WHERE WHAT IT READS IS OF BULK AT MOST 1048576: true; the input reads as it did. -/
def fnLetters64UptoRow : OpenClaim := { program := "yteibdnaccganiaa", sum := "6109ca3817684665a6a7b03b9d19c82572eccb260f7b51997ee88790a5311d58", func := "loop.example/lib-g01093/laws.FnLetters64", spec := "fnLetters64", apart := false, narrowed := true }
def FnLetters64UptoSaid : Prop := fnLetters64UptoRow.holds Try.pinned (OpenSpec.upto fnLetters64Spec)

/-- 'laws.FnPadding64', WHERE WHAT IT READS IS OF BULK AT MOST 1048576: true; the input reads as it did. -/
def fnPadding64UptoRow : OpenClaim := { program := "yteibdnaccganiaa", sum := "6109ca3817684665a6a7b03b9d19c82572eccb260f7b51997ee88790a5311d58", func := "loop.example/lib-g01093/laws.FnPadding64", spec := "fnPadding64", apart := false, narrowed := true }
def FnPadding64UptoSaid : Prop := fnPadding64UptoRow.holds Try.pinned (OpenSpec.upto fnPadding64Spec)

/-- 'laws.FnAppendEncode64', WHERE WHAT IT READS IS OF BULK AT MOST 1048576: true; the input reads as it did. -/
def fnAppendEncode64UptoRow : OpenClaim := { program := "yteibdnaccganiaa", sum := "6109ca3817684665a6a7b03b9d19c82572eccb260f7b51997ee88790a5311d58", func := "loop.example/lib-g01093/laws.FnAppendEncode64", spec := "fnAppendEncode64", apart := false, narrowed := true }
def FnAppendEncode64UptoSaid : Prop := fnAppendEncode64UptoRow.holds Try.pinned (OpenSpec.upto fnAppendEncode64Spec)

/-- 'laws.FnRoads64', WHERE WHAT IT READS IS OF BULK AT MOST 1048576: true; the input reads as it did. -/
def fnRoads64UptoRow : OpenClaim := { program := "yteibdnaccganiaa", sum := "6109ca3817684665a6a7b03b9d19c82572eccb260f7b51997ee88790a5311d58", func := "loop.example/lib-g01093/laws.FnRoads64", spec := "fnRoads64", apart := false, narrowed := true }
def FnRoads64UptoSaid : Prop := fnRoads64UptoRow.holds Try.pinned (OpenSpec.upto fnRoads64Spec)

end Rows
end Go.Proofs.Yteibdnaccganiaa
