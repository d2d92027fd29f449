/-
  No cell of these rows narrows 'for every input' (looked for: loops, veiled, ifaces, maps, wideKeys, modest, calm, conditions, laid).
  DERIVED. THE GIVEN ROWS OF THIS SEAT. 10 by the template 'for every input the law returns true; each argument reads behind the call as it read before'; 0 by the template 'total and deterministic' (their statements: YtppajccbeocpcaaTotals.lean).
  GIVEN WITH THE SEED: the statements are not yours to turn. If you find one false, say at which input.
  Laid BY PROGRAM, IN A SANDBOX (cutbox-rows.mjs): the forced cells as the released guide's own fill.sh prints them over the translation ccffca8cfa301a3d… (all of the seat's roots in one cut). By AI agents, Wed Nov 11 2026. No macro, syntax, notation, axiom, sorry.
-/
import Derived.Test.YtppajccbeocpcaaChecked
import GoSem.Claim
import GoSem.ClaimJoined
import GoSem.ClaimMapViews
import Derived.JoinedTies
import Derived.KernelRfl
namespace Go.Proofs.Ytppajccbeocpcaa
/- THE CELL 'sum', in the pinned program and in every row, IS THE sha256 OF THE DUMP (.gsa) THAT YtppajccbeocpcaaProg.lean LOADS. Nothing in Lean hashes anything: it is a label: what it is worth is what the hold of that sum in a sandbox is worth. -/
noncomputable def Try.pinned : Pinned := { name := "ytppajccbeocpcaa", sum := "ccffca8cfa301a3d74c4b2cd05c2555630f927f31a4839dc64d8930b0fa19b96", checked := Try.checked }
namespace Rows
def none {H : Type} : Left H := { results := [], args := [] }

/-- 'laws.FnCanonical64': WHATEVER THE INPUT: true; the input reads as it did. -/
def fnCanonical64Spec : ChangeSpec := { name := "fnCanonical64", fn := fun _ => fun
  | [d1, d2, d3] => { results := [.lit (.bool true)], args := [d1, d2, d3] }
  | _ => none }
def fnCanonical64Row : OpenClaim := { program := "ytppajccbeocpcaa", sum := "ccffca8cfa301a3d74c4b2cd05c2555630f927f31a4839dc64d8930b0fa19b96", func := "loop.example/lib-g01093/laws.FnCanonical64", spec := "fnCanonical64", apart := false }
def FnCanonical64Said : Prop := fnCanonical64Row.holds Try.pinned (OpenSpec.ofChange fnCanonical64Spec)

/-- ITS FALSE NEIGHBOUR: 'it returns false'. Refute it at one input. -/
def fnCanonical64Wrong : ChangeSpec := { name := "fnCanonical64", fn := fun _ => fun
  | [d1, d2, d3] => { results := [.lit (.bool false)], args := [d1, d2, d3] }
  | _ => none }
def FnCanonical64WrongFalsely : Prop := fnCanonical64Row.holds Try.pinned (OpenSpec.ofChange fnCanonical64Wrong)

/-- 'laws.FnRound64': WHATEVER THE INPUT: true; the input reads as it did. -/
def fnRound64Spec : ChangeSpec := { name := "fnRound64", fn := fun _ => fun
  | [d1, d2, d3, d4] => { results := [.lit (.bool true)], args := [d1, d2, d3, d4] }
  | _ => none }
def fnRound64Row : OpenClaim := { program := "ytppajccbeocpcaa", sum := "ccffca8cfa301a3d74c4b2cd05c2555630f927f31a4839dc64d8930b0fa19b96", func := "loop.example/lib-g01093/laws.FnRound64", spec := "fnRound64", apart := false }
def FnRound64Said : Prop := fnRound64Row.holds Try.pinned (OpenSpec.ofChange fnRound64Spec)

/-- ITS FALSE NEIGHBOUR: 'it returns false'. Refute it at one input. -/
def fnRound64Wrong : ChangeSpec := { name := "fnRound64", fn := fun _ => fun
  | [d1, d2, d3, d4] => { results := [.lit (.bool false)], args := [d1, d2, d3, d4] }
  | _ => none }
def FnRound64WrongFalsely : Prop := fnRound64Row.holds Try.pinned (OpenSpec.ofChange fnRound64Wrong)

/-- 'laws.FnDecodeInto64': WHATEVER THE INPUT: true; the input reads as it did. -/
def fnDecodeInto64Spec : ChangeSpec := { name := "fnDecodeInto64", fn := fun _ => fun
  | [d1, d2, d3, d4, d5] => { results := [.lit (.bool true)], args := [d1, d2, d3, d4, d5] }
  | _ => none }
def fnDecodeInto64Row : OpenClaim := { program := "ytppajccbeocpcaa", sum := "ccffca8cfa301a3d74c4b2cd05c2555630f927f31a4839dc64d8930b0fa19b96", func := "loop.example/lib-g01093/laws.FnDecodeInto64", spec := "fnDecodeInto64", apart := false }
def FnDecodeInto64Said : Prop := fnDecodeInto64Row.holds Try.pinned (OpenSpec.ofChange fnDecodeInto64Spec)

/-- ITS FALSE NEIGHBOUR: 'it returns false'. Refute it at one input. -/
def fnDecodeInto64Wrong : ChangeSpec := { name := "fnDecodeInto64", fn := fun _ => fun
  | [d1, d2, d3, d4, d5] => { results := [.lit (.bool false)], args := [d1, d2, d3, d4, d5] }
  | _ => none }
def FnDecodeInto64WrongFalsely : Prop := fnDecodeInto64Row.holds Try.pinned (OpenSpec.ofChange fnDecodeInto64Wrong)

/-- 'laws.FnDecodeTail64': WHATEVER THE INPUT: true; the input reads as it did. -/
def fnDecodeTail64Spec : ChangeSpec := { name := "fnDecodeTail64", fn := fun _ => fun
  | [d1, d2, d3, d4, d5] => { results := [.lit (.bool true)], args := [d1, d2, d3, d4, d5] }
  | _ => none }
def fnDecodeTail64Row : OpenClaim := { program := "ytppajccbeocpcaa", sum := "ccffca8cfa301a3d74c4b2cd05c2555630f927f31a4839dc64d8930b0fa19b96", func := "loop.example/lib-g01093/laws.FnDecodeTail64", spec := "fnDecodeTail64", apart := false }
def FnDecodeTail64Said : Prop := fnDecodeTail64Row.holds Try.pinned (OpenSpec.ofChange fnDecodeTail64Spec)

/-- ITS FALSE NEIGHBOUR: 'it returns false'. Refute it at one input. -/
def fnDecodeTail64Wrong : ChangeSpec := { name := "fnDecodeTail64", fn := fun _ => fun
  | [d1, d2, d3, d4, d5] => { results := [.lit (.bool false)], args := [d1, d2, d3, d4, d5] }
  | _ => none }
def FnDecodeTail64WrongFalsely : Prop := fnDecodeTail64Row.holds Try.pinned (OpenSpec.ofChange fnDecodeTail64Wrong)

/-- 'laws.FnDecode64': WHATEVER THE INPUT: true; the input reads as it did. -/
def fnDecode64Spec : ChangeSpec := { name := "fnDecode64", fn := fun _ => fun
  | [d1, d2, d3, d4] => { results := [.lit (.bool true)], args := [d1, d2, d3, d4] }
  | _ => none }
def fnDecode64Row : OpenClaim := { program := "ytppajccbeocpcaa", sum := "ccffca8cfa301a3d74c4b2cd05c2555630f927f31a4839dc64d8930b0fa19b96", func := "loop.example/lib-g01093/laws.FnDecode64", spec := "fnDecode64", apart := false }
def FnDecode64Said : Prop := fnDecode64Row.holds Try.pinned (OpenSpec.ofChange fnDecode64Spec)

/-- ITS FALSE NEIGHBOUR: 'it returns false'. Refute it at one input. -/
def fnDecode64Wrong : ChangeSpec := { name := "fnDecode64", fn := fun _ => fun
  | [d1, d2, d3, d4] => { results := [.lit (.bool false)], args := [d1, d2, d3, d4] }
  | _ => none }
def FnDecode64WrongFalsely : Prop := fnDecode64Row.holds Try.pinned (OpenSpec.ofChange fnDecode64Wrong)

/-- 'laws.FnStrictWithin64': WHATEVER THE INPUT: true; the input reads as it did. -/
def fnStrictWithin64Spec : ChangeSpec := { name := "fnStrictWithin64", fn := fun _ => fun
  | [d1, d2, d3] => { results := [.lit (.bool true)], args := [d1, d2, d3] }
  | _ => none }
def fnStrictWithin64Row : OpenClaim := { program := "ytppajccbeocpcaa", sum := "ccffca8cfa301a3d74c4b2cd05c2555630f927f31a4839dc64d8930b0fa19b96", func := "loop.example/lib-g01093/laws.FnStrictWithin64", spec := "fnStrictWithin64", apart := false }
def FnStrictWithin64Said : Prop := fnStrictWithin64Row.holds Try.pinned (OpenSpec.ofChange fnStrictWithin64Spec)

/-- ITS FALSE NEIGHBOUR: 'it returns false'. Refute it at one input. -/
def fnStrictWithin64Wrong : ChangeSpec := { name := "fnStrictWithin64", fn := fun _ => fun
  | [d1, d2, d3] => { results := [.lit (.bool false)], args := [d1, d2, d3] }
  | _ => none }
def FnStrictWithin64WrongFalsely : Prop := fnStrictWithin64Row.holds Try.pinned (OpenSpec.ofChange fnStrictWithin64Wrong)

/-- 'laws.FnFits64': WHATEVER THE INPUT: true; the input reads as it did. -/
def fnFits64Spec : ChangeSpec := { name := "fnFits64", fn := fun _ => fun
  | [d1, d2, d3, d4] => { results := [.lit (.bool true)], args := [d1, d2, d3, d4] }
  | _ => none }
def fnFits64Row : OpenClaim := { program := "ytppajccbeocpcaa", sum := "ccffca8cfa301a3d74c4b2cd05c2555630f927f31a4839dc64d8930b0fa19b96", func := "loop.example/lib-g01093/laws.FnFits64", spec := "fnFits64", apart := false }
def FnFits64Said : Prop := fnFits64Row.holds Try.pinned (OpenSpec.ofChange fnFits64Spec)

/-- ITS FALSE NEIGHBOUR: 'it returns false'. Refute it at one input. -/
def fnFits64Wrong : ChangeSpec := { name := "fnFits64", fn := fun _ => fun
  | [d1, d2, d3, d4] => { results := [.lit (.bool false)], args := [d1, d2, d3, d4] }
  | _ => none }
def FnFits64WrongFalsely : Prop := fnFits64Row.holds Try.pinned (OpenSpec.ofChange fnFits64Wrong)

/-- 'laws.FnAppendDecode64': WHATEVER THE INPUT: true; the input reads as it did. -/
def fnAppendDecode64Spec : ChangeSpec := { name := "fnAppendDecode64", fn := fun _ => fun
  | [d1, d2, d3, d4, d5] => { results := [.lit (.bool true)], args := [d1, d2, d3, d4, d5] }
  | _ => none }
def fnAppendDecode64Row : OpenClaim := { program := "ytppajccbeocpcaa", sum := "ccffca8cfa301a3d74c4b2cd05c2555630f927f31a4839dc64d8930b0fa19b96", func := "loop.example/lib-g01093/laws.FnAppendDecode64", spec := "fnAppendDecode64", apart := false }
def FnAppendDecode64Said : Prop := fnAppendDecode64Row.holds Try.pinned (OpenSpec.ofChange fnAppendDecode64Spec)

/-- ITS FALSE NEIGHBOUR: 'it returns false'. Refute it at one input. -/
def fnAppendDecode64Wrong : ChangeSpec := { name := "fnAppendDecode64", fn := fun _ => fun
  | [d1, d2, d3, d4, d5] => { results := [.lit (.bool false)], args := [d1, d2, d3, d4, d5] }
  | _ => none }
def FnAppendDecode64WrongFalsely : Prop := fnAppendDecode64Row.holds Try.pinned (OpenSpec.ofChange fnAppendDecode64Wrong)

/-- 'laws.FnDecodeRoads64': WHATEVER THE INPUT: true; the input reads as it did. -/
def fnDecodeRoads64Spec : ChangeSpec := { name := "fnDecodeRoads64", fn := fun _ => fun
  | [d1, d2, d3, d4] => { results := [.lit (.bool true)], args := [d1, d2, d3, d4] }
  | _ => none }
def fnDecodeRoads64Row : OpenClaim := { program := "ytppajccbeocpcaa", sum := "ccffca8cfa301a3d74c4b2cd05c2555630f927f31a4839dc64d8930b0fa19b96", func := "loop.example/lib-g01093/laws.FnDecodeRoads64", spec := "fnDecodeRoads64", apart := false }
def FnDecodeRoads64Said : Prop := fnDecodeRoads64Row.holds Try.pinned (OpenSpec.ofChange fnDecodeRoads64Spec)

/-- ITS FALSE NEIGHBOUR: 'it returns false'. Refute it at one input. -/
def fnDecodeRoads64Wrong : ChangeSpec := { name := "fnDecodeRoads64", fn := fun _ => fun
  | [d1, d2, d3, d4] => { results := [.lit (.bool false)], args := [d1, d2, d3, d4] }
  | _ => none }
def FnDecodeRoads64WrongFalsely : Prop := fnDecodeRoads64Row.holds Try.pinned (OpenSpec.ofChange fnDecodeRoads64Wrong)

/-- 'laws.FnBeginnings64': WHATEVER THE INPUT: true; the input reads as it did. -/
def fnBeginnings64Spec : ChangeSpec := { name := "fnBeginnings64", fn := fun _ => fun
  | [d1, d2, d3, d4, d5] => { results := [.lit (.bool true)], args := [d1, d2, d3, d4, d5] }
  | _ => none }
def fnBeginnings64Row : OpenClaim := { program := "ytppajccbeocpcaa", sum := "ccffca8cfa301a3d74c4b2cd05c2555630f927f31a4839dc64d8930b0fa19b96", func := "loop.example/lib-g01093/laws.FnBeginnings64", spec := "fnBeginnings64", apart := false }
def FnBeginnings64Said : Prop := fnBeginnings64Row.holds Try.pinned (OpenSpec.ofChange fnBeginnings64Spec)

/-- ITS FALSE NEIGHBOUR: 'it returns false'. Refute it at one input. -/
def fnBeginnings64Wrong : ChangeSpec := { name := "fnBeginnings64", fn := fun _ => fun
  | [d1, d2, d3, d4, d5] => { results := [.lit (.bool false)], args := [d1, d2, d3, d4, d5] }
  | _ => none }
def FnBeginnings64WrongFalsely : Prop := fnBeginnings64Row.holds Try.pinned (OpenSpec.ofChange fnBeginnings64Wrong)

/- THE SECOND FORM. 'bulk': how many values and letters a reading holds, each counted each time it is reached (what is shared counts as often as it is met; a slice's spare places count too). A statement '..UptoSaid' is the law's where the arguments, and the package variables that the reading takes, are together of bulk at most 1048576: NARROWER than '..Said'. Prove '..Said' where nothing that the law and all that it calls make is longer than what came in: it says more and counts as full. Else prove '..UptoSaid'. A law counts once. -/
mutual
def uptoBulk {H : Type} : DataW H → Nat
  | .lit (.string bytes) => bytes.length + 1
  | .lit _ => 1
  | .nil => 1
  | .ptr d => uptoBulk d + 1
  | .slice elems spare => uptoBulkAll elems + uptoBulkAll spare + 1
  | .agg parts => uptoBulkAll parts + 1
  | .iface _ d => uptoBulk d + 1
  | .map entries => uptoBulkEntries entries + 1
  | .held _ => 1
def uptoBulkAll {H : Type} : List (DataW H) → Nat
  | [] => 0
  | d :: r => uptoBulk d + uptoBulkAll r
def uptoBulkEntries {H : Type} : List (Lit × DataW H) → Nat
  | [] => 0
  | x :: r => uptoBulkEntry x + uptoBulkEntries r
def uptoBulkEntry {H : Type} : Lit × DataW H → Nat
  | (.string bytes, d) => bytes.length + uptoBulk d + 1
  | (_, d) => uptoBulk d + 1
 end
def uptoSmall : (H : Type) → List (DataW H) → Bool := fun _ ds => decide (uptoBulkAll ds ≤ 1048576)
def OpenSpec.upto (s : _root_.Go.ChangeSpec) : _root_.Go.OpenSpec := { _root_.Go.OpenSpec.ofChange s with cond := some uptoSmall }

/-- 'laws.FnCanonical64', WHERE WHAT IT READS IS OF BULK AT MOST 1048576: true; the input reads as it did. -/
def fnCanonical64UptoRow : OpenClaim := { program := "ytppajccbeocpcaa", sum := "ccffca8cfa301a3d74c4b2cd05c2555630f927f31a4839dc64d8930b0fa19b96", func := "loop.example/lib-g01093/laws.FnCanonical64", spec := "fnCanonical64", apart := false, narrowed := true }
def FnCanonical64UptoSaid : Prop := fnCanonical64UptoRow.holds Try.pinned (OpenSpec.upto fnCanonical64Spec)

/-- 'laws.FnRound64', WHERE WHAT IT READS IS OF BULK AT MOST 1048576: true; the input reads as it did. -/
def fnRound64UptoRow : OpenClaim := { program := "ytppajccbeocpcaa", sum := "ccffca8cfa301a3d74c4b2cd05c2555630f927f31a4839dc64d8930b0fa19b96", func := "loop.example/lib-g01093/laws.FnRound64", spec := "fnRound64", apart := false, narrowed := true }
def FnRound64UptoSaid : Prop := fnRound64UptoRow.holds Try.pinned (OpenSpec.upto fnRound64Spec)

/-- 'laws.FnDecodeInto64', WHERE WHAT IT READS IS OF BULK AT MOST 1048576: true; the input reads as it did. -/
def fnDecodeInto64UptoRow : OpenClaim := { program := "ytppajccbeocpcaa", sum := "ccffca8cfa301a3d74c4b2cd05c2555630f927f31a4839dc64d8930b0fa19b96", func := "loop.example/lib-g01093/laws.FnDecodeInto64", spec := "fnDecodeInto64", apart := false, narrowed := true }
def FnDecodeInto64UptoSaid : Prop := fnDecodeInto64UptoRow.holds Try.pinned (OpenSpec.upto fnDecodeInto64Spec)

/-- 'laws.FnDecodeTail64', WHERE WHAT IT READS IS OF BULK AT MOST 1048576: true; the input reads as it did. -/
def fnDecodeTail64UptoRow : OpenClaim := { program := "ytppajccbeocpcaa", sum := "ccffca8cfa301a3d74c4b2cd05c2555630f927f31a4839dc64d8930b0fa19b96", func := "loop.example/lib-g01093/laws.FnDecodeTail64", spec := "fnDecodeTail64", apart := false, narrowed := true }
def FnDecodeTail64UptoSaid : Prop := fnDecodeTail64UptoRow.holds Try.pinned (OpenSpec.upto fnDecodeTail64Spec)

/-- 'laws.FnDecode64', WHERE WHAT IT READS IS OF BULK AT MOST 1048576: true; the input reads as it did. -/
def fnDecode64UptoRow : OpenClaim := { program := "ytppajccbeocpcaa", sum := "ccffca8cfa301a3d74c4b2cd05c2555630f927f31a4839dc64d8930b0fa19b96", func := "loop.example/lib-g01093/laws.FnDecode64", spec := "fnDecode64", apart := false, narrowed := true }
def FnDecode64UptoSaid : Prop := fnDecode64UptoRow.holds Try.pinned (OpenSpec.upto fnDecode64Spec)

/-- 'laws.FnStrictWithin64', WHERE WHAT IT READS IS OF BULK AT MOST 1048576: true; the input reads as it did. -/
def fnStrictWithin64UptoRow : OpenClaim := { program := "ytppajccbeocpcaa", sum := "ccffca8cfa301a3d74c4b2cd05c2555630f927f31a4839dc64d8930b0fa19b96", func := "loop.example/lib-g01093/laws.FnStrictWithin64", spec := "fnStrictWithin64", apart := false, narrowed := true }
def FnStrictWithin64UptoSaid : Prop := fnStrictWithin64UptoRow.holds Try.pinned (OpenSpec.upto fnStrictWithin64Spec)

/-- 'laws.FnFits64', WHERE WHAT IT READS IS OF BULK AT MOST 1048576: true; the input reads as it did. -/
def fnFits64UptoRow : OpenClaim := { program := "ytppajccbeocpcaa", sum := "ccffca8cfa301a3d74c4b2cd05c2555630f927f31a4839dc64d8930b0fa19b96", func := "loop.example/lib-g01093/laws.FnFits64", spec := "fnFits64", apart := false, narrowed := true }
def FnFits64UptoSaid : Prop := fnFits64UptoRow.holds Try.pinned (OpenSpec.upto fnFits64Spec)

/-- 'laws.FnAppendDecode64', WHERE WHAT IT READS IS OF BULK AT MOST 1048576: true; the input reads as it did. -/
def fnAppendDecode64UptoRow : OpenClaim := { program := "ytppajccbeocpcaa", sum := "ccffca8cfa301a3d74c4b2cd05c2555630f927f31a4839dc64d8930b0fa19b96", func := "loop.example/lib-g01093/laws.FnAppendDecode64", spec := "fnAppendDecode64", apart := false, narrowed := true }
def FnAppendDecode64UptoSaid : Prop := fnAppendDecode64UptoRow.holds Try.pinned (OpenSpec.upto fnAppendDecode64Spec)

/-- 'laws.FnDecodeRoads64', WHERE WHAT IT READS IS OF BULK AT MOST 1048576: true; the input reads as it did. -/
def fnDecodeRoads64UptoRow : OpenClaim := { program := "ytppajccbeocpcaa", sum := "ccffca8cfa301a3d74c4b2cd05c2555630f927f31a4839dc64d8930b0fa19b96", func := "loop.example/lib-g01093/laws.FnDecodeRoads64", spec := "fnDecodeRoads64", apart := false, narrowed := true }
def FnDecodeRoads64UptoSaid : Prop := fnDecodeRoads64UptoRow.holds Try.pinned (OpenSpec.upto fnDecodeRoads64Spec)

/-- 'laws.FnBeginnings64', WHERE WHAT IT READS IS OF BULK AT MOST 1048576: true; the input reads as it did. -/
def fnBeginnings64UptoRow : OpenClaim := { program := "ytppajccbeocpcaa", sum := "ccffca8cfa301a3d74c4b2cd05c2555630f927f31a4839dc64d8930b0fa19b96", func := "loop.example/lib-g01093/laws.FnBeginnings64", spec := "fnBeginnings64", apart := false, narrowed := true }
def FnBeginnings64UptoSaid : Prop := fnBeginnings64UptoRow.holds Try.pinned (OpenSpec.upto fnBeginnings64Spec)

end Rows
end Go.Proofs.Ytppajccbeocpcaa
