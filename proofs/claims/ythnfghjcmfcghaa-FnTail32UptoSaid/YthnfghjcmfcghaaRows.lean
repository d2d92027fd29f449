/-
  No cell of these rows narrows 'for every input' (looked for: loops, veiled, ifaces, maps, wideKeys, modest, calm, conditions, laid).
  DERIVED. THE GIVEN ROWS OF THIS SEAT. 8 by the template 'for every input the law returns true; each argument reads behind the call as it read before'; 0 by the template 'total and deterministic' (their statements: YthnfghjcmfcghaaTotals.lean).
  GIVEN WITH THE SEED: the statements are not yours to turn. If you find one false, say at which input.
  Laid BY PROGRAM, IN A SANDBOX (cutbox-rows.mjs): the forced cells as the released guide's own fill.sh prints them over the translation 014e12a7a8cf09c2… (all of the seat's roots in one cut). By AI agents, Wed Nov 11 2026. No macro, syntax, notation, axiom, sorry.
-/
import Derived.Test.YthnfghjcmfcghaaChecked
import GoSem.Claim
import GoSem.ClaimJoined
import GoSem.ClaimMapViews
import Derived.JoinedTies
import Derived.KernelRfl
namespace Go.Proofs.Ythnfghjcmfcghaa
/- THE CELL 'sum', in the pinned program and in every row, IS THE sha256 OF THE DUMP (.gsa) THAT YthnfghjcmfcghaaProg.lean LOADS. Nothing in Lean hashes anything: it is a label: what it is worth is what the hold of that sum in a sandbox is worth. -/
noncomputable def Try.pinned : Pinned := { name := "ythnfghjcmfcghaa", sum := "014e12a7a8cf09c28ccda6614ae8ca379d2057b5272718b614f0de7717ffd008", checked := Try.checked }
namespace Rows
def none {H : Type} : Left H := { results := [], args := [] }

/-- 'laws.FnCut32': WHATEVER THE INPUT: true; the input reads as it did. -/
def fnCut32Spec : ChangeSpec := { name := "fnCut32", fn := fun _ => fun
  | [d1, d2, d3] => { results := [.lit (.bool true)], args := [d1, d2, d3] }
  | _ => none }
def fnCut32Row : OpenClaim := { program := "ythnfghjcmfcghaa", sum := "014e12a7a8cf09c28ccda6614ae8ca379d2057b5272718b614f0de7717ffd008", func := "loop.example/lib-g01093/laws.FnCut32", spec := "fnCut32", apart := false }
def FnCut32Said : Prop := fnCut32Row.holds Try.pinned (OpenSpec.ofChange fnCut32Spec)

/-- ITS FALSE NEIGHBOUR: 'it returns false'. Refute it at one input. -/
def fnCut32Wrong : ChangeSpec := { name := "fnCut32", fn := fun _ => fun
  | [d1, d2, d3] => { results := [.lit (.bool false)], args := [d1, d2, d3] }
  | _ => none }
def FnCut32WrongFalsely : Prop := fnCut32Row.holds Try.pinned (OpenSpec.ofChange fnCut32Wrong)

/-- 'laws.FnForeign32': WHATEVER THE INPUT: true; the input reads as it did. -/
def fnForeign32Spec : ChangeSpec := { name := "fnForeign32", fn := fun _ => fun
  | [d1, d2, d3, d4, d5] => { results := [.lit (.bool true)], args := [d1, d2, d3, d4, d5] }
  | _ => none }
def fnForeign32Row : OpenClaim := { program := "ythnfghjcmfcghaa", sum := "014e12a7a8cf09c28ccda6614ae8ca379d2057b5272718b614f0de7717ffd008", func := "loop.example/lib-g01093/laws.FnForeign32", spec := "fnForeign32", apart := false }
def FnForeign32Said : Prop := fnForeign32Row.holds Try.pinned (OpenSpec.ofChange fnForeign32Spec)

/-- ITS FALSE NEIGHBOUR: 'it returns false'. Refute it at one input. -/
def fnForeign32Wrong : ChangeSpec := { name := "fnForeign32", fn := fun _ => fun
  | [d1, d2, d3, d4, d5] => { results := [.lit (.bool false)], args := [d1, d2, d3, d4, d5] }
  | _ => none }
def FnForeign32WrongFalsely : Prop := fnForeign32Row.holds Try.pinned (OpenSpec.ofChange fnForeign32Wrong)

/-- 'laws.FnNewlines32': WHATEVER THE INPUT: true; the input reads as it did. -/
def fnNewlines32Spec : ChangeSpec := { name := "fnNewlines32", fn := fun _ => fun
  | [d1, d2, d3, d4, d5] => { results := [.lit (.bool true)], args := [d1, d2, d3, d4, d5] }
  | _ => none }
def fnNewlines32Row : OpenClaim := { program := "ythnfghjcmfcghaa", sum := "014e12a7a8cf09c28ccda6614ae8ca379d2057b5272718b614f0de7717ffd008", func := "loop.example/lib-g01093/laws.FnNewlines32", spec := "fnNewlines32", apart := false }
def FnNewlines32Said : Prop := fnNewlines32Row.holds Try.pinned (OpenSpec.ofChange fnNewlines32Spec)

/-- ITS FALSE NEIGHBOUR: 'it returns false'. Refute it at one input. -/
def fnNewlines32Wrong : ChangeSpec := { name := "fnNewlines32", fn := fun _ => fun
  | [d1, d2, d3, d4, d5] => { results := [.lit (.bool false)], args := [d1, d2, d3, d4, d5] }
  | _ => none }
def FnNewlines32WrongFalsely : Prop := fnNewlines32Row.holds Try.pinned (OpenSpec.ofChange fnNewlines32Wrong)

/-- 'laws.FnOffset32': WHATEVER THE INPUT: true; the input reads as it did. -/
def fnOffset32Spec : ChangeSpec := { name := "fnOffset32", fn := fun _ => fun
  | [d1, d2, d3, d4, d5] => { results := [.lit (.bool true)], args := [d1, d2, d3, d4, d5] }
  | _ => none }
def fnOffset32Row : OpenClaim := { program := "ythnfghjcmfcghaa", sum := "014e12a7a8cf09c28ccda6614ae8ca379d2057b5272718b614f0de7717ffd008", func := "loop.example/lib-g01093/laws.FnOffset32", spec := "fnOffset32", apart := false }
def FnOffset32Said : Prop := fnOffset32Row.holds Try.pinned (OpenSpec.ofChange fnOffset32Spec)

/-- ITS FALSE NEIGHBOUR: 'it returns false'. Refute it at one input. -/
def fnOffset32Wrong : ChangeSpec := { name := "fnOffset32", fn := fun _ => fun
  | [d1, d2, d3, d4, d5] => { results := [.lit (.bool false)], args := [d1, d2, d3, d4, d5] }
  | _ => none }
def FnOffset32WrongFalsely : Prop := fnOffset32Row.holds Try.pinned (OpenSpec.ofChange fnOffset32Wrong)

/-- 'laws.FnPartial32': WHATEVER THE INPUT: true; the input reads as it did. -/
def fnPartial32Spec : ChangeSpec := { name := "fnPartial32", fn := fun _ => fun
  | [d1, d2, d3, d4, d5] => { results := [.lit (.bool true)], args := [d1, d2, d3, d4, d5] }
  | _ => none }
def fnPartial32Row : OpenClaim := { program := "ythnfghjcmfcghaa", sum := "014e12a7a8cf09c28ccda6614ae8ca379d2057b5272718b614f0de7717ffd008", func := "loop.example/lib-g01093/laws.FnPartial32", spec := "fnPartial32", apart := false }
def FnPartial32Said : Prop := fnPartial32Row.holds Try.pinned (OpenSpec.ofChange fnPartial32Spec)

/-- ITS FALSE NEIGHBOUR: 'it returns false'. Refute it at one input. -/
def fnPartial32Wrong : ChangeSpec := { name := "fnPartial32", fn := fun _ => fun
  | [d1, d2, d3, d4, d5] => { results := [.lit (.bool false)], args := [d1, d2, d3, d4, d5] }
  | _ => none }
def FnPartial32WrongFalsely : Prop := fnPartial32Row.holds Try.pinned (OpenSpec.ofChange fnPartial32Wrong)

/-- 'laws.FnTail32': WHATEVER THE INPUT: true; the input reads as it did. -/
def fnTail32Spec : ChangeSpec := { name := "fnTail32", fn := fun _ => fun
  | [d1, d2, d3, d4] => { results := [.lit (.bool true)], args := [d1, d2, d3, d4] }
  | _ => none }
def fnTail32Row : OpenClaim := { program := "ythnfghjcmfcghaa", sum := "014e12a7a8cf09c28ccda6614ae8ca379d2057b5272718b614f0de7717ffd008", func := "loop.example/lib-g01093/laws.FnTail32", spec := "fnTail32", apart := false }
def FnTail32Said : Prop := fnTail32Row.holds Try.pinned (OpenSpec.ofChange fnTail32Spec)

/-- ITS FALSE NEIGHBOUR: 'it returns false'. Refute it at one input. -/
def fnTail32Wrong : ChangeSpec := { name := "fnTail32", fn := fun _ => fun
  | [d1, d2, d3, d4] => { results := [.lit (.bool false)], args := [d1, d2, d3, d4] }
  | _ => none }
def FnTail32WrongFalsely : Prop := fnTail32Row.holds Try.pinned (OpenSpec.ofChange fnTail32Wrong)

/-- 'laws.FnUnused32': WHATEVER THE INPUT: true; the input reads as it did. -/
def fnUnused32Spec : ChangeSpec := { name := "fnUnused32", fn := fun _ => fun
  | [d1, d2, d3, d4] => { results := [.lit (.bool true)], args := [d1, d2, d3, d4] }
  | _ => none }
def fnUnused32Row : OpenClaim := { program := "ythnfghjcmfcghaa", sum := "014e12a7a8cf09c28ccda6614ae8ca379d2057b5272718b614f0de7717ffd008", func := "loop.example/lib-g01093/laws.FnUnused32", spec := "fnUnused32", apart := false }
def FnUnused32Said : Prop := fnUnused32Row.holds Try.pinned (OpenSpec.ofChange fnUnused32Spec)

/-- ITS FALSE NEIGHBOUR: 'it returns false'. Refute it at one input. -/
def fnUnused32Wrong : ChangeSpec := { name := "fnUnused32", fn := fun _ => fun
  | [d1, d2, d3, d4] => { results := [.lit (.bool false)], args := [d1, d2, d3, d4] }
  | _ => none }
def FnUnused32WrongFalsely : Prop := fnUnused32Row.holds Try.pinned (OpenSpec.ofChange fnUnused32Wrong)

/-- 'laws.FnFits32': WHATEVER THE INPUT: true; the input reads as it did. -/
def fnFits32Spec : ChangeSpec := { name := "fnFits32", fn := fun _ => fun
  | [d1, d2, d3] => { results := [.lit (.bool true)], args := [d1, d2, d3] }
  | _ => none }
def fnFits32Row : OpenClaim := { program := "ythnfghjcmfcghaa", sum := "014e12a7a8cf09c28ccda6614ae8ca379d2057b5272718b614f0de7717ffd008", func := "loop.example/lib-g01093/laws.FnFits32", spec := "fnFits32", apart := false }
def FnFits32Said : Prop := fnFits32Row.holds Try.pinned (OpenSpec.ofChange fnFits32Spec)

/-- ITS FALSE NEIGHBOUR: 'it returns false'. Refute it at one input. -/
def fnFits32Wrong : ChangeSpec := { name := "fnFits32", fn := fun _ => fun
  | [d1, d2, d3] => { results := [.lit (.bool false)], args := [d1, d2, d3] }
  | _ => none }
def FnFits32WrongFalsely : Prop := fnFits32Row.holds Try.pinned (OpenSpec.ofChange fnFits32Wrong)

/- THE SECOND FORM. 'bulk': how many values and letters a reading holds, each counted each time it is reached (what is shared counts as often as it is met; a slice's spare places count too). A statement '..UptoSaid' is the law's where the arguments, and the package variables that the reading takes, are together of bulk at most 1048576: NARROWER than '..Said'. Prove '..Said' where nothing that the law and all that it calls make is longer than what came in: it says more and counts as full. Else prove '..UptoSaid'. A law counts once. -/
mutual
def uptoBulk {H : Type} : DataW H → Nat
  | .lit (.string bytes) => bytes.length + 1
  | .lit _ => 1
  | .nil => 1
  | .ptr d => uptoBulk d + 1
  | .slice elems spare => uptoBulkAll elems + uptoBulkAll spare + 1
  | .agg parts => uptoBulkAll parts + 1
  | .iface _ d => uptoBulk d + 1
  | .map entries => uptoBulkEntries entries + 1
  | .held _ => 1
def uptoBulkAll {H : Type} : List (DataW H) → Nat
  | [] => 0
  | d :: r => uptoBulk d + uptoBulkAll r
def uptoBulkEntries {H : Type} : List (Lit × DataW H) → Nat
  | [] => 0
  | x :: r => uptoBulkEntry x + uptoBulkEntries r
def uptoBulkEntry {H : Type} : Lit × DataW H → Nat
  | (.string bytes, d) => bytes.length + uptoBulk d + 1
  | (_, d) => uptoBulk d + 1
 end
def uptoSmall : (H : Type) → List (DataW H) → Bool := fun _ ds => decide (uptoBulkAll ds ≤ 1048576)
def OpenSpec.upto (s : _root_.Go.ChangeSpec) : _root_.Go.OpenSpec := { _root_.Go.OpenSpec.ofChange s with cond := some uptoSmall }

/-- 'laws.FnCut32', WHERE WHAT IT READS IS OF BULK AT MOST 1048576: true; the input reads as it did. -/
def fnCut32UptoRow : OpenClaim := { program := "ythnfghjcmfcghaa", sum := "014e12a7a8cf09c28ccda6614ae8ca379d2057b5272718b614f0de7717ffd008", func := "loop.example/lib-g01093/laws.FnCut32", spec := "fnCut32", apart := false, narrowed := true }
def FnCut32UptoSaid : Prop := fnCut32UptoRow.holds Try.pinned (OpenSpec.upto fnCut32Spec)

/-- 'laws.FnForeign32', WHERE WHAT IT READS IS OF BULK AT MOST 1048576: true; the input reads as it did. -/
def fnForeign32UptoRow : OpenClaim := { program := "ythnfghjcmfcghaa", sum := "014e12a7a8cf09c28ccda6614ae8ca379d2057b5272718b614f0de7717ffd008", func := "loop.example/lib-g01093/laws.FnForeign32", spec := "fnForeign32", apart := false, narrowed := true }
def FnForeign32UptoSaid : Prop := fnForeign32UptoRow.holds Try.pinned (OpenSpec.upto fnForeign32Spec)

/-- 'laws.FnNewlines32', WHERE WHAT IT READS IS OF BULK AT MOST 1048576: true; the input reads as it did. -/
def fnNewlines32UptoRow : OpenClaim := { program := "ythnfghjcmfcghaa", sum := "014e12a7a8cf09c28ccda6614ae8ca379d2057b5272718b614f0de7717ffd008", func := "loop.example/lib-g01093/laws.FnNewlines32", spec := "fnNewlines32", apart := false, narrowed := true }
def FnNewlines32UptoSaid : Prop := fnNewlines32UptoRow.holds Try.pinned (OpenSpec.upto fnNewlines32Spec)

/-- 'laws.FnOffset32', WHERE WHAT IT READS IS OF BULK AT MOST 1048576: true; the input reads as it did. -/
def fnOffset32UptoRow : OpenClaim := { program := "ythnfghjcmfcghaa", sum := "014e12a7a8cf09c28ccda6614ae8ca379d2057b5272718b614f0de7717ffd008", func := "loop.example/lib-g01093/laws.FnOffset32", spec := "fnOffset32", apart := false, narrowed := true }
def FnOffset32UptoSaid : Prop := fnOffset32UptoRow.holds Try.pinned (OpenSpec.upto fnOffset32Spec)

/-- 'laws.FnPartial32', WHERE WHAT IT READS IS OF BULK AT MOST 1048576: true; the input reads as it did. -/
def fnPartial32UptoRow : OpenClaim := { program := "ythnfghjcmfcghaa", sum := "014e12a7a8cf09c28ccda6614ae8ca379d2057b5272718b614f0de7717ffd008", func := "loop.example/lib-g01093/laws.FnPartial32", spec := "fnPartial32", apart := false, narrowed := true }
def FnPartial32UptoSaid : Prop := fnPartial32UptoRow.holds Try.pinned (OpenSpec.upto fnPartial32Spec)

/-- 'laws.FnTail32', WHERE WHAT IT READS IS OF BULK AT MOST 1048576: true; the input reads as it did. -/
def fnTail32UptoRow : OpenClaim := { program := "ythnfghjcmfcghaa", sum := "014e12a7a8cf09c28ccda6614ae8ca379d2057b5272718b614f0de7717ffd008", func := "loop.example/lib-g01093/laws.FnTail32", spec := "fnTail32", apart := false, narrowed := true }
def FnTail32UptoSaid : Prop := fnTail32UptoRow.holds Try.pinned (OpenSpec.upto fnTail32Spec)

/-- 'laws.FnUnused32', WHERE WHAT IT READS IS OF BULK AT MOST 1048576: true; the input reads as it did. -/
def fnUnused32UptoRow : OpenClaim := { program := "ythnfghjcmfcghaa", sum := "014e12a7a8cf09c28ccda6614ae8ca379d2057b5272718b614f0de7717ffd008", func := "loop.example/lib-g01093/laws.FnUnused32", spec := "fnUnused32", apart := false, narrowed := true }
def FnUnused32UptoSaid : Prop := fnUnused32UptoRow.holds Try.pinned (OpenSpec.upto fnUnused32Spec)

/-- 'laws.FnFits32', WHERE WHAT IT READS IS OF BULK AT MOST 1048576: true; the input reads as it did. -/
def fnFits32UptoRow : OpenClaim := { program := "ythnfghjcmfcghaa", sum := "014e12a7a8cf09c28ccda6614ae8ca379d2057b5272718b614f0de7717ffd008", func := "loop.example/lib-g01093/laws.FnFits32", spec := "fnFits32", apart := false, narrowed := true }
def FnFits32UptoSaid : Prop := fnFits32UptoRow.holds Try.pinned (OpenSpec.upto fnFits32Spec)

end Rows
end Go.Proofs.Ythnfghjcmfcghaa
