/-
  No cell of these rows narrows 'for every input' (looked for: loops, veiled, ifaces, maps, wideKeys, modest, calm, conditions, laid).
  DERIVED. THE GIVEN ROWS OF THIS SEAT. 7 by the template 'for every input the law returns true; each argument reads behind the call as it read before'; 0 by the template 'total and deterministic' (their statements: YtipmeopggfhkhaaTotals.lean).
  GIVEN WITH THE SEED: the statements are not yours to turn. If you find one false, say at which input.
  Laid BY PROGRAM, IN A SANDBOX (cutbox-rows.mjs): the forced cells as the released guide's own fill.sh prints them over the translation 42391115f739425a… (all of the seat's roots in one cut). By AI agents, Wed Nov 11 2026. No macro, syntax, notation, axiom, sorry.
-/
import Derived.Test.YtipmeopggfhkhaaChecked
import GoSem.Claim
import GoSem.ClaimJoined
import GoSem.ClaimMapViews
import Derived.JoinedTies
import Derived.KernelRfl
namespace Go.Proofs.Ytipmeopggfhkhaa
/- THE CELL 'sum', in the pinned program and in every row, IS THE sha256 OF THE DUMP (.gsa) THAT YtipmeopggfhkhaaProg.lean LOADS. Nothing in Lean hashes anything: it is a label: what it is worth is what the hold of that sum in a sandbox is worth. -/
noncomputable def Try.pinned : Pinned := { name := "ytipmeopggfhkhaa", sum := "42391115f739425ad9ee7363ca198e9cc0bb694d3d65c58c7038b717049735af", checked := Try.checked }
namespace Rows
def none {H : Type} : Left H := { results := [], args := [] }

/-- 'laws.FnCut64': WHATEVER THE INPUT: true; the input reads as it did. -/
def fnCut64Spec : ChangeSpec := { name := "fnCut64", fn := fun _ => fun
  | [d1, d2, d3, d4] => { results := [.lit (.bool true)], args := [d1, d2, d3, d4] }
  | _ => none }
def fnCut64Row : OpenClaim := { program := "ytipmeopggfhkhaa", sum := "42391115f739425ad9ee7363ca198e9cc0bb694d3d65c58c7038b717049735af", func := "loop.example/lib-g01093/laws.FnCut64", spec := "fnCut64", apart := false }
def FnCut64Said : Prop := fnCut64Row.holds Try.pinned (OpenSpec.ofChange fnCut64Spec)

/-- ITS FALSE NEIGHBOUR: 'it returns false'. Refute it at one input. -/
def fnCut64Wrong : ChangeSpec := { name := "fnCut64", fn := fun _ => fun
  | [d1, d2, d3, d4] => { results := [.lit (.bool false)], args := [d1, d2, d3, d4] }
  | _ => none }
def FnCut64WrongFalsely : Prop := fnCut64Row.holds Try.pinned (OpenSpec.ofChange fnCut64Wrong)

/-- 'laws.FnForeign64': WHATEVER THE INPUT: true; the input reads as it did. -/
def fnForeign64Spec : ChangeSpec := { name := "fnForeign64", fn := fun _ => fun
  | [d1, d2, d3, d4, d5, d6] => { results := [.lit (.bool true)], args := [d1, d2, d3, d4, d5, d6] }
  | _ => none }
def fnForeign64Row : OpenClaim := { program := "ytipmeopggfhkhaa", sum := "42391115f739425ad9ee7363ca198e9cc0bb694d3d65c58c7038b717049735af", func := "loop.example/lib-g01093/laws.FnForeign64", spec := "fnForeign64", apart := false }
def FnForeign64Said : Prop := fnForeign64Row.holds Try.pinned (OpenSpec.ofChange fnForeign64Spec)

/-- ITS FALSE NEIGHBOUR: 'it returns false'. Refute it at one input. -/
def fnForeign64Wrong : ChangeSpec := { name := "fnForeign64", fn := fun _ => fun
  | [d1, d2, d3, d4, d5, d6] => { results := [.lit (.bool false)], args := [d1, d2, d3, d4, d5, d6] }
  | _ => none }
def FnForeign64WrongFalsely : Prop := fnForeign64Row.holds Try.pinned (OpenSpec.ofChange fnForeign64Wrong)

/-- 'laws.FnNewlines64': WHATEVER THE INPUT: true; the input reads as it did. -/
def fnNewlines64Spec : ChangeSpec := { name := "fnNewlines64", fn := fun _ => fun
  | [d1, d2, d3, d4, d5, d6] => { results := [.lit (.bool true)], args := [d1, d2, d3, d4, d5, d6] }
  | _ => none }
def fnNewlines64Row : OpenClaim := { program := "ytipmeopggfhkhaa", sum := "42391115f739425ad9ee7363ca198e9cc0bb694d3d65c58c7038b717049735af", func := "loop.example/lib-g01093/laws.FnNewlines64", spec := "fnNewlines64", apart := false }
def FnNewlines64Said : Prop := fnNewlines64Row.holds Try.pinned (OpenSpec.ofChange fnNewlines64Spec)

/-- ITS FALSE NEIGHBOUR: 'it returns false'. Refute it at one input. -/
def fnNewlines64Wrong : ChangeSpec := { name := "fnNewlines64", fn := fun _ => fun
  | [d1, d2, d3, d4, d5, d6] => { results := [.lit (.bool false)], args := [d1, d2, d3, d4, d5, d6] }
  | _ => none }
def FnNewlines64WrongFalsely : Prop := fnNewlines64Row.holds Try.pinned (OpenSpec.ofChange fnNewlines64Wrong)

/-- 'laws.FnOffset64': WHATEVER THE INPUT: true; the input reads as it did. -/
def fnOffset64Spec : ChangeSpec := { name := "fnOffset64", fn := fun _ => fun
  | [d1, d2, d3, d4, d5, d6] => { results := [.lit (.bool true)], args := [d1, d2, d3, d4, d5, d6] }
  | _ => none }
def fnOffset64Row : OpenClaim := { program := "ytipmeopggfhkhaa", sum := "42391115f739425ad9ee7363ca198e9cc0bb694d3d65c58c7038b717049735af", func := "loop.example/lib-g01093/laws.FnOffset64", spec := "fnOffset64", apart := false }
def FnOffset64Said : Prop := fnOffset64Row.holds Try.pinned (OpenSpec.ofChange fnOffset64Spec)

/-- ITS FALSE NEIGHBOUR: 'it returns false'. Refute it at one input. -/
def fnOffset64Wrong : ChangeSpec := { name := "fnOffset64", fn := fun _ => fun
  | [d1, d2, d3, d4, d5, d6] => { results := [.lit (.bool false)], args := [d1, d2, d3, d4, d5, d6] }
  | _ => none }
def FnOffset64WrongFalsely : Prop := fnOffset64Row.holds Try.pinned (OpenSpec.ofChange fnOffset64Wrong)

/-- 'laws.FnPartial64': WHATEVER THE INPUT: true; the input reads as it did. -/
def fnPartial64Spec : ChangeSpec := { name := "fnPartial64", fn := fun _ => fun
  | [d1, d2, d3, d4, d5, d6] => { results := [.lit (.bool true)], args := [d1, d2, d3, d4, d5, d6] }
  | _ => none }
def fnPartial64Row : OpenClaim := { program := "ytipmeopggfhkhaa", sum := "42391115f739425ad9ee7363ca198e9cc0bb694d3d65c58c7038b717049735af", func := "loop.example/lib-g01093/laws.FnPartial64", spec := "fnPartial64", apart := false }
def FnPartial64Said : Prop := fnPartial64Row.holds Try.pinned (OpenSpec.ofChange fnPartial64Spec)

/-- ITS FALSE NEIGHBOUR: 'it returns false'. Refute it at one input. -/
def fnPartial64Wrong : ChangeSpec := { name := "fnPartial64", fn := fun _ => fun
  | [d1, d2, d3, d4, d5, d6] => { results := [.lit (.bool false)], args := [d1, d2, d3, d4, d5, d6] }
  | _ => none }
def FnPartial64WrongFalsely : Prop := fnPartial64Row.holds Try.pinned (OpenSpec.ofChange fnPartial64Wrong)

/-- 'laws.FnTail64': WHATEVER THE INPUT: true; the input reads as it did. -/
def fnTail64Spec : ChangeSpec := { name := "fnTail64", fn := fun _ => fun
  | [d1, d2, d3, d4, d5] => { results := [.lit (.bool true)], args := [d1, d2, d3, d4, d5] }
  | _ => none }
def fnTail64Row : OpenClaim := { program := "ytipmeopggfhkhaa", sum := "42391115f739425ad9ee7363ca198e9cc0bb694d3d65c58c7038b717049735af", func := "loop.example/lib-g01093/laws.FnTail64", spec := "fnTail64", apart := false }
def FnTail64Said : Prop := fnTail64Row.holds Try.pinned (OpenSpec.ofChange fnTail64Spec)

/-- ITS FALSE NEIGHBOUR: 'it returns false'. Refute it at one input. -/
def fnTail64Wrong : ChangeSpec := { name := "fnTail64", fn := fun _ => fun
  | [d1, d2, d3, d4, d5] => { results := [.lit (.bool false)], args := [d1, d2, d3, d4, d5] }
  | _ => none }
def FnTail64WrongFalsely : Prop := fnTail64Row.holds Try.pinned (OpenSpec.ofChange fnTail64Wrong)

/-- 'laws.FnUnused64': WHATEVER THE INPUT: true; the input reads as it did. -/
def fnUnused64Spec : ChangeSpec := { name := "fnUnused64", fn := fun _ => fun
  | [d1, d2, d3, d4] => { results := [.lit (.bool true)], args := [d1, d2, d3, d4] }
  | _ => none }
def fnUnused64Row : OpenClaim := { program := "ytipmeopggfhkhaa", sum := "42391115f739425ad9ee7363ca198e9cc0bb694d3d65c58c7038b717049735af", func := "loop.example/lib-g01093/laws.FnUnused64", spec := "fnUnused64", apart := false }
def FnUnused64Said : Prop := fnUnused64Row.holds Try.pinned (OpenSpec.ofChange fnUnused64Spec)

/-- ITS FALSE NEIGHBOUR: 'it returns false'. Refute it at one input. -/
def fnUnused64Wrong : ChangeSpec := { name := "fnUnused64", fn := fun _ => fun
  | [d1, d2, d3, d4] => { results := [.lit (.bool false)], args := [d1, d2, d3, d4] }
  | _ => none }
def FnUnused64WrongFalsely : Prop := fnUnused64Row.holds Try.pinned (OpenSpec.ofChange fnUnused64Wrong)

/- THE SECOND FORM. 'bulk': how many values and letters a reading holds, each counted each time it is reached (what is shared counts as often as it is met; a slice's spare places count too). A statement '..UptoSaid' is the law's where the arguments, and the package variables that the reading takes, are together of bulk at most 1048576: NARROWER than '..Said'. Prove '..Said' where nothing that the law and all that it calls make is longer than what came in: it says more and counts as full. Else prove '..UptoSaid'. A law counts once. -/
mutual
def uptoBulk {H : Type} : DataW H → Nat
  | .lit (.string bytes) => bytes.length + 1
  | .lit _ => 1
  | .nil => 1
  | .ptr d => uptoBulk d + 1
  | .slice elems spare => uptoBulkAll elems + uptoBulkAll spare + 1
  | .agg parts => uptoBulkAll parts + 1
  | .iface _ d => uptoBulk d + 1
  | .map entries => uptoBulkEntries entries + 1
  | .held _ => 1
def uptoBulkAll {H : Type} : List (DataW H) → Nat
  | [] => 0
  | d :: r => uptoBulk d + uptoBulkAll r
def uptoBulkEntries {H : Type} : List (Lit × DataW H) → Nat
  | [] => 0
  | x :: r => uptoBulkEntry x + uptoBulkEntries r
def uptoBulkEntry {H : Type} : Lit × DataW H → Nat
  | (.string bytes, d) => bytes.length + uptoBulk d + 1
  | (_, d) => uptoBulk d + 1
 end
def uptoSmall : (H : Type) → List (DataW H) → Bool := fun _ ds => decide (uptoBulkAll ds ≤ 1048576)
def OpenSpec.upto (s : _root_.Go.ChangeSpec) : _root_.Go.OpenSpec := { _root_.Go.OpenSpec.ofChange s with cond := some uptoSmall }

/-- 'laws.FnCut64', WHERE WHAT IT READS IS OF BULK AT MOST 1048576: true; the input reads as it did. -/
def fnCut64UptoRow : OpenClaim := { program := "ytipmeopggfhkhaa", sum := "42391115f739425ad9ee7363ca198e9cc0bb694d3d65c58c7038b717049735af", func := "loop.example/lib-g01093/laws.FnCut64", spec := "fnCut64", apart := false, narrowed := true }
def FnCut64UptoSaid : Prop := fnCut64UptoRow.holds Try.pinned (OpenSpec.upto fnCut64Spec)

/-- 'laws.FnForeign64', WHERE WHAT IT READS IS OF BULK AT MOST 1048576: true; the input reads as it did. -/
def fnForeign64UptoRow : OpenClaim := { program := "ytipmeopggfhkhaa", sum := "42391115f739425ad9ee7363ca198e9cc0bb694d3d65c58c7038b717049735af", func := "loop.example/lib-g01093/laws.FnForeign64", spec := "fnForeign64", apart := false, narrowed := true }
def FnForeign64UptoSaid : Prop := fnForeign64UptoRow.holds Try.pinned (OpenSpec.upto fnForeign64Spec)

/-- 'laws.FnNewlines64', WHERE WHAT IT READS IS OF BULK AT MOST 1048576: true; the input reads as it did. -/
def fnNewlines64UptoRow : OpenClaim := { program := "ytipmeopggfhkhaa", sum := "42391115f739425ad9ee7363ca198e9cc0bb694d3d65c58c7038b717049735af", func := "loop.example/lib-g01093/laws.FnNewlines64", spec := "fnNewlines64", apart := false, narrowed := true }
def FnNewlines64UptoSaid : Prop := fnNewlines64UptoRow.holds Try.pinned (OpenSpec.upto fnNewlines64Spec)

/-- 'laws.FnOffset64', WHERE WHAT IT READS IS OF BULK AT MOST 1048576: true; the input reads as it did. -/
def fnOffset64UptoRow : OpenClaim := { program := "ytipmeopggfhkhaa", sum := "42391115f739425ad9ee7363ca198e9cc0bb694d3d65c58c7038b717049735af", func := "loop.example/lib-g01093/laws.FnOffset64", spec := "fnOffset64", apart := false, narrowed := true }
def FnOffset64UptoSaid : Prop := fnOffset64UptoRow.holds Try.pinned (OpenSpec.upto fnOffset64Spec)

/-- 'laws.FnPartial64', WHERE WHAT IT READS IS OF BULK AT MOST 1048576: true; the input reads as it did. -/
def fnPartial64UptoRow : OpenClaim := { program := "ytipmeopggfhkhaa", sum := "42391115f739425ad9ee7363ca198e9cc0bb694d3d65c58c7038b717049735af", func := "loop.example/lib-g01093/laws.FnPartial64", spec := "fnPartial64", apart := false, narrowed := true }
def FnPartial64UptoSaid : Prop := fnPartial64UptoRow.holds Try.pinned (OpenSpec.upto fnPartial64Spec)

/-- 'laws.FnTail64', WHERE WHAT IT READS IS OF BULK AT MOST 1048576: true; the input reads as it did. -/
def fnTail64UptoRow : OpenClaim := { program := "ytipmeopggfhkhaa", sum := "42391115f739425ad9ee7363ca198e9cc0bb694d3d65c58c7038b717049735af", func := "loop.example/lib-g01093/laws.FnTail64", spec := "fnTail64", apart := false, narrowed := true }
def FnTail64UptoSaid : Prop := fnTail64UptoRow.holds Try.pinned (OpenSpec.upto fnTail64Spec)

/-- 'laws.FnUnused64', WHERE WHAT IT READS IS OF BULK AT MOST 1048576: true; the input reads as it did. -/
def fnUnused64UptoRow : OpenClaim := { program := "ytipmeopggfhkhaa", sum := "42391115f739425ad9ee7363ca198e9cc0bb694d3d65c58c7038b717049735af", func := "loop.example/lib-g01093/laws.FnUnused64", spec := "fnUnused64", apart := false, narrowed := true }
def FnUnused64UptoSaid : Prop := fnUnused64UptoRow.holds Try.pinned (OpenSpec.upto fnUnused64Spec)

end Rows
end Go.Proofs.Ytipmeopggfhkhaa
