/-
  No cell of these rows narrows 'for every input' (looked for: loops, veiled, ifaces, maps, wideKeys, modest, calm, conditions, laid).
  DERIVED. THE GIVEN ROWS OF THIS SEAT. 8 by the template 'for every input the law returns true; each argument reads behind the call as it read before'; 0 by the template 'total and deterministic' (their statements: YtanebcdhjkpnjaaTotals.lean).
  GIVEN WITH THE SEED: the statements are not yours to turn. If you find one false, say at which input.
  Laid BY PROGRAM, IN A SANDBOX (cutbox-rows.mjs): the forced cells as the released guide's own fill.sh prints them over the translation e230b523f71e919a… (all of the seat's roots in one cut). By AI agents, Wed Nov 11 2026. No macro, syntax, notation, axiom, sorry.
-/
import Derived.Test.YtanebcdhjkpnjaaChecked
import GoSem.Claim
import GoSem.ClaimJoined
import GoSem.ClaimMapViews
import Derived.JoinedTies
import Derived.KernelRfl
namespace Go.Proofs.Ytanebcdhjkpnjaa
/- THE CELL 'sum', in the pinned program and in every row, IS THE sha256 OF THE DUMP (.gsa) THAT YtanebcdhjkpnjaaProg.lean LOADS. Nothing in Lean hashes anything: it is a label: what it is worth is what the hold of that sum in a sandbox is worth. -/
noncomputable def Try.pinned : Pinned := { name := "ytanebcdhjkpnjaa", sum := "e230b523f71e919aeada08377c08b1c4d6455affe9d3c8f1cd660ad6ef305233", checked := Try.checked }
namespace Rows
def none {H : Type} : Left H := { results := [], args := [] }

/-- 'laws.FnDecodeInto32': WHATEVER THE INPUT: true; the input reads as it did. -/
def fnDecodeInto32Spec : ChangeSpec := { name := "fnDecodeInto32", fn := fun _ => fun
  | [d1, d2, d3, d4] => { results := [.lit (.bool true)], args := [d1, d2, d3, d4] }
  | _ => none }
def fnDecodeInto32Row : OpenClaim := { program := "ytanebcdhjkpnjaa", sum := "e230b523f71e919aeada08377c08b1c4d6455affe9d3c8f1cd660ad6ef305233", func := "loop.example/lib-g01093/laws.FnDecodeInto32", spec := "fnDecodeInto32", apart := false }
def FnDecodeInto32Said : Prop := fnDecodeInto32Row.holds Try.pinned (OpenSpec.ofChange fnDecodeInto32Spec)

/-- ITS FALSE NEIGHBOUR: 'it returns false'. Refute it at one input. -/
def fnDecodeInto32Wrong : ChangeSpec := { name := "fnDecodeInto32", fn := fun _ => fun
  | [d1, d2, d3, d4] => { results := [.lit (.bool false)], args := [d1, d2, d3, d4] }
  | _ => none }
def FnDecodeInto32WrongFalsely : Prop := fnDecodeInto32Row.holds Try.pinned (OpenSpec.ofChange fnDecodeInto32Wrong)

/-- 'laws.FnDecodeTail32': WHATEVER THE INPUT: true; the input reads as it did. -/
def fnDecodeTail32Spec : ChangeSpec := { name := "fnDecodeTail32", fn := fun _ => fun
  | [d1, d2, d3, d4] => { results := [.lit (.bool true)], args := [d1, d2, d3, d4] }
  | _ => none }
def fnDecodeTail32Row : OpenClaim := { program := "ytanebcdhjkpnjaa", sum := "e230b523f71e919aeada08377c08b1c4d6455affe9d3c8f1cd660ad6ef305233", func := "loop.example/lib-g01093/laws.FnDecodeTail32", spec := "fnDecodeTail32", apart := false }
def FnDecodeTail32Said : Prop := fnDecodeTail32Row.holds Try.pinned (OpenSpec.ofChange fnDecodeTail32Spec)

/-- ITS FALSE NEIGHBOUR: 'it returns false'. Refute it at one input. -/
def fnDecodeTail32Wrong : ChangeSpec := { name := "fnDecodeTail32", fn := fun _ => fun
  | [d1, d2, d3, d4] => { results := [.lit (.bool false)], args := [d1, d2, d3, d4] }
  | _ => none }
def FnDecodeTail32WrongFalsely : Prop := fnDecodeTail32Row.holds Try.pinned (OpenSpec.ofChange fnDecodeTail32Wrong)

/-- 'laws.FnDecode32': WHATEVER THE INPUT: true; the input reads as it did. -/
def fnDecode32Spec : ChangeSpec := { name := "fnDecode32", fn := fun _ => fun
  | [d1, d2, d3] => { results := [.lit (.bool true)], args := [d1, d2, d3] }
  | _ => none }
def fnDecode32Row : OpenClaim := { program := "ytanebcdhjkpnjaa", sum := "e230b523f71e919aeada08377c08b1c4d6455affe9d3c8f1cd660ad6ef305233", func := "loop.example/lib-g01093/laws.FnDecode32", spec := "fnDecode32", apart := false }
def FnDecode32Said : Prop := fnDecode32Row.holds Try.pinned (OpenSpec.ofChange fnDecode32Spec)

/-- ITS FALSE NEIGHBOUR: 'it returns false'. Refute it at one input. -/
def fnDecode32Wrong : ChangeSpec := { name := "fnDecode32", fn := fun _ => fun
  | [d1, d2, d3] => { results := [.lit (.bool false)], args := [d1, d2, d3] }
  | _ => none }
def FnDecode32WrongFalsely : Prop := fnDecode32Row.holds Try.pinned (OpenSpec.ofChange fnDecode32Wrong)

/-- 'laws.FnAppendDecode32': WHATEVER THE INPUT: true; the input reads as it did. -/
def fnAppendDecode32Spec : ChangeSpec := { name := "fnAppendDecode32", fn := fun _ => fun
  | [d1, d2, d3, d4] => { results := [.lit (.bool true)], args := [d1, d2, d3, d4] }
  | _ => none }
def fnAppendDecode32Row : OpenClaim := { program := "ytanebcdhjkpnjaa", sum := "e230b523f71e919aeada08377c08b1c4d6455affe9d3c8f1cd660ad6ef305233", func := "loop.example/lib-g01093/laws.FnAppendDecode32", spec := "fnAppendDecode32", apart := false }
def FnAppendDecode32Said : Prop := fnAppendDecode32Row.holds Try.pinned (OpenSpec.ofChange fnAppendDecode32Spec)

/-- ITS FALSE NEIGHBOUR: 'it returns false'. Refute it at one input. -/
def fnAppendDecode32Wrong : ChangeSpec := { name := "fnAppendDecode32", fn := fun _ => fun
  | [d1, d2, d3, d4] => { results := [.lit (.bool false)], args := [d1, d2, d3, d4] }
  | _ => none }
def FnAppendDecode32WrongFalsely : Prop := fnAppendDecode32Row.holds Try.pinned (OpenSpec.ofChange fnAppendDecode32Wrong)

/-- 'laws.FnDecodeRoads32': WHATEVER THE INPUT: true; the input reads as it did. -/
def fnDecodeRoads32Spec : ChangeSpec := { name := "fnDecodeRoads32", fn := fun _ => fun
  | [d1, d2, d3] => { results := [.lit (.bool true)], args := [d1, d2, d3] }
  | _ => none }
def fnDecodeRoads32Row : OpenClaim := { program := "ytanebcdhjkpnjaa", sum := "e230b523f71e919aeada08377c08b1c4d6455affe9d3c8f1cd660ad6ef305233", func := "loop.example/lib-g01093/laws.FnDecodeRoads32", spec := "fnDecodeRoads32", apart := false }
def FnDecodeRoads32Said : Prop := fnDecodeRoads32Row.holds Try.pinned (OpenSpec.ofChange fnDecodeRoads32Spec)

/-- ITS FALSE NEIGHBOUR: 'it returns false'. Refute it at one input. -/
def fnDecodeRoads32Wrong : ChangeSpec := { name := "fnDecodeRoads32", fn := fun _ => fun
  | [d1, d2, d3] => { results := [.lit (.bool false)], args := [d1, d2, d3] }
  | _ => none }
def FnDecodeRoads32WrongFalsely : Prop := fnDecodeRoads32Row.holds Try.pinned (OpenSpec.ofChange fnDecodeRoads32Wrong)

/-- 'laws.FnBeginnings32': WHATEVER THE INPUT: true; the input reads as it did. -/
def fnBeginnings32Spec : ChangeSpec := { name := "fnBeginnings32", fn := fun _ => fun
  | [d1, d2, d3, d4] => { results := [.lit (.bool true)], args := [d1, d2, d3, d4] }
  | _ => none }
def fnBeginnings32Row : OpenClaim := { program := "ytanebcdhjkpnjaa", sum := "e230b523f71e919aeada08377c08b1c4d6455affe9d3c8f1cd660ad6ef305233", func := "loop.example/lib-g01093/laws.FnBeginnings32", spec := "fnBeginnings32", apart := false }
def FnBeginnings32Said : Prop := fnBeginnings32Row.holds Try.pinned (OpenSpec.ofChange fnBeginnings32Spec)

/-- ITS FALSE NEIGHBOUR: 'it returns false'. Refute it at one input. -/
def fnBeginnings32Wrong : ChangeSpec := { name := "fnBeginnings32", fn := fun _ => fun
  | [d1, d2, d3, d4] => { results := [.lit (.bool false)], args := [d1, d2, d3, d4] }
  | _ => none }
def FnBeginnings32WrongFalsely : Prop := fnBeginnings32Row.holds Try.pinned (OpenSpec.ofChange fnBeginnings32Wrong)

/-- 'laws.FnRound32': WHATEVER THE INPUT: true; the input reads as it did. -/
def fnRound32Spec : ChangeSpec := { name := "fnRound32", fn := fun _ => fun
  | [d1, d2, d3] => { results := [.lit (.bool true)], args := [d1, d2, d3] }
  | _ => none }
def fnRound32Row : OpenClaim := { program := "ytanebcdhjkpnjaa", sum := "e230b523f71e919aeada08377c08b1c4d6455affe9d3c8f1cd660ad6ef305233", func := "loop.example/lib-g01093/laws.FnRound32", spec := "fnRound32", apart := false }
def FnRound32Said : Prop := fnRound32Row.holds Try.pinned (OpenSpec.ofChange fnRound32Spec)

/-- ITS FALSE NEIGHBOUR: 'it returns false'. Refute it at one input. -/
def fnRound32Wrong : ChangeSpec := { name := "fnRound32", fn := fun _ => fun
  | [d1, d2, d3] => { results := [.lit (.bool false)], args := [d1, d2, d3] }
  | _ => none }
def FnRound32WrongFalsely : Prop := fnRound32Row.holds Try.pinned (OpenSpec.ofChange fnRound32Wrong)

/-- 'laws.FnCanonical32': WHATEVER THE INPUT: true; the input reads as it did. -/
def fnCanonical32Spec : ChangeSpec := { name := "fnCanonical32", fn := fun _ => fun
  | [d1, d2, d3] => { results := [.lit (.bool true)], args := [d1, d2, d3] }
  | _ => none }
def fnCanonical32Row : OpenClaim := { program := "ytanebcdhjkpnjaa", sum := "e230b523f71e919aeada08377c08b1c4d6455affe9d3c8f1cd660ad6ef305233", func := "loop.example/lib-g01093/laws.FnCanonical32", spec := "fnCanonical32", apart := false }
def FnCanonical32Said : Prop := fnCanonical32Row.holds Try.pinned (OpenSpec.ofChange fnCanonical32Spec)

/-- ITS FALSE NEIGHBOUR: 'it returns false'. Refute it at one input. -/
def fnCanonical32Wrong : ChangeSpec := { name := "fnCanonical32", fn := fun _ => fun
  | [d1, d2, d3] => { results := [.lit (.bool false)], args := [d1, d2, d3] }
  | _ => none }
def FnCanonical32WrongFalsely : Prop := fnCanonical32Row.holds Try.pinned (OpenSpec.ofChange fnCanonical32Wrong)

/- THE SECOND FORM. 'bulk': how many values and letters a reading holds, each counted each time it is reached (what is shared counts as often as it is met; a slice's spare places count too). A statement '..UptoSaid' is the law's where the arguments, and the package variables that the reading takes, are together of bulk at most 1048576: NARROWER than '..Said'. Prove '..Said' where nothing that the law and all that it calls make is longer than what came in: it says more and counts as full. Else prove '..UptoSaid'. A law counts once. -/
mutual
def uptoBulk {H : Type} : DataW H → Nat
  | .lit (.string bytes) => bytes.length + 1
  | .lit _ => 1
  | .nil => 1
  | .ptr d => uptoBulk d + 1
  | .slice elems spare => uptoBulkAll elems + uptoBulkAll spare + 1
  | .agg parts => uptoBulkAll parts + 1
  | .iface _ d => uptoBulk d + 1
  | .map entries => uptoBulkEntries entries + 1
  | .held _ => 1
def uptoBulkAll {H : Type} : List (DataW H) → Nat
  | [] => 0
  | d :: r => uptoBulk d + uptoBulkAll r
def uptoBulkEntries {H : Type} : List (Lit × DataW H) → Nat
  | [] => 0
  | x :: r => uptoBulkEntry x + uptoBulkEntries r
def uptoBulkEntry {H : Type} : Lit × DataW H → Nat
  | (.string bytes, d) => bytes.length + uptoBulk d + 1
  | (_, d) => uptoBulk d + 1
 end
def uptoSmall : (H : Type) → List (DataW H) → Bool := fun _ ds => decide (uptoBulkAll ds ≤ 1048576)
def OpenSpec.upto (s : _root_.Go.ChangeSpec) : _root_.Go.OpenSpec := { _root_.Go.OpenSpec.ofChange s with cond := some uptoSmall }

/-- 'laws.FnDecodeInto32', WHERE WHAT IT READS IS OF BULK AT MOST 1048576: true; the input reads as it did. -/
def fnDecodeInto32UptoRow : OpenClaim := { program := "ytanebcdhjkpnjaa", sum := "e230b523f71e919aeada08377c08b1c4d6455affe9d3c8f1cd660ad6ef305233", func := "loop.example/lib-g01093/laws.FnDecodeInto32", spec := "fnDecodeInto32", apart := false, narrowed := true }
def FnDecodeInto32UptoSaid : Prop := fnDecodeInto32UptoRow.holds Try.pinned (OpenSpec.upto fnDecodeInto32Spec)

/-- 'laws.FnDecodeTail32', WHERE WHAT IT READS IS OF BULK AT MOST 1048576: true; the input reads as it did. -/
def fnDecodeTail32UptoRow : OpenClaim := { program := "ytanebcdhjkpnjaa", sum := "e230b523f71e919aeada08377c08b1c4d6455affe9d3c8f1cd660ad6ef305233", func := "loop.example/lib-g01093/laws.FnDecodeTail32", spec := "fnDecodeTail32", apart := false, narrowed := true }
def FnDecodeTail32UptoSaid : Prop := fnDecodeTail32UptoRow.holds Try.pinned (OpenSpec.upto fnDecodeTail32Spec)

/-- 'laws.FnDecode32', WHERE WHAT IT READS IS OF BULK AT MOST 1048576: true; the input reads as it did. -/
def fnDecode32UptoRow : OpenClaim := { program := "ytanebcdhjkpnjaa", sum := "e230b523f71e919aeada08377c08b1c4d6455affe9d3c8f1cd660ad6ef305233", func := "loop.example/lib-g01093/laws.FnDecode32", spec := "fnDecode32", apart := false, narrowed := true }
def FnDecode32UptoSaid : Prop := fnDecode32UptoRow.holds Try.pinned (OpenSpec.upto fnDecode32Spec)

/-- 'laws.FnAppendDecode32', WHERE WHAT IT READS IS OF BULK AT MOST 1048576: true; the input reads as it did. -/
def fnAppendDecode32UptoRow : OpenClaim := { program := "ytanebcdhjkpnjaa", sum := "e230b523f71e919aeada08377c08b1c4d6455affe9d3c8f1cd660ad6ef305233", func := "loop.example/lib-g01093/laws.FnAppendDecode32", spec := "fnAppendDecode32", apart := false, narrowed := true }
def FnAppendDecode32UptoSaid : Prop := fnAppendDecode32UptoRow.holds Try.pinned (OpenSpec.upto fnAppendDecode32Spec)

/-- 'laws.FnDecodeRoads32', WHERE WHAT IT READS IS OF BULK AT MOST 1048576: true; the input reads as it did. -/
def fnDecodeRoads32UptoRow : OpenClaim := { program := "ytanebcdhjkpnjaa", sum := "e230b523f71e919aeada08377c08b1c4d6455affe9d3c8f1cd660ad6ef305233", func := "loop.example/lib-g01093/laws.FnDecodeRoads32", spec := "fnDecodeRoads32", apart := false, narrowed := true }
def FnDecodeRoads32UptoSaid : Prop := fnDecodeRoads32UptoRow.holds Try.pinned (OpenSpec.upto fnDecodeRoads32Spec)

/-- 'laws.FnBeginnings32', WHERE WHAT IT READS IS OF BULK AT MOST 1048576: true; the input reads as it did. -/
def fnBeginnings32UptoRow : OpenClaim := { program := "ytanebcdhjkpnjaa", sum := "e230b523f71e919aeada08377c08b1c4d6455affe9d3c8f1cd660ad6ef305233", func := "loop.example/lib-g01093/laws.FnBeginnings32", spec := "fnBeginnings32", apart := false, narrowed := true }
def FnBeginnings32UptoSaid : Prop := fnBeginnings32UptoRow.holds Try.pinned (OpenSpec.upto fnBeginnings32Spec)

/-- 'laws.FnRound32', WHERE WHAT IT READS IS OF BULK AT MOST 1048576: true; the input reads as it did. -/
def fnRound32UptoRow : OpenClaim := { program := "ytanebcdhjkpnjaa", sum := "e230b523f71e919aeada08377c08b1c4d6455affe9d3c8f1cd660ad6ef305233", func := "loop.example/lib-g01093/laws.FnRound32", spec := "fnRound32", apart := false, narrowed := true }
def FnRound32UptoSaid : Prop := fnRound32UptoRow.holds Try.pinned (OpenSpec.upto fnRound32Spec)

/-- 'laws.FnCanonical32', WHERE WHAT IT READS IS OF BULK AT MOST 1048576: true; the input reads as it did. -/
def fnCanonical32UptoRow : OpenClaim := { program := "ytanebcdhjkpnjaa", sum := "e230b523f71e919aeada08377c08b1c4d6455affe9d3c8f1cd660ad6ef305233", func := "loop.example/lib-g01093/laws.FnCanonical32", spec := "fnCanonical32", apart := false, narrowed := true }
def FnCanonical32UptoSaid : Prop := fnCanonical32UptoRow.holds Try.pinned (OpenSpec.upto fnCanonical32Spec)

end Rows
end Go.Proofs.Ytanebcdhjkpnjaa
