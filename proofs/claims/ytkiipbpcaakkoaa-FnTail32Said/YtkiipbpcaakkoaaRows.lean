/-
  No cell of these rows narrows 'for every input' (looked for: loops, veiled, ifaces, maps, wideKeys, modest, calm, conditions, laid).
  DERIVED. THE GIVEN ROWS OF THIS SEAT. 4 by the template 'for every input the law returns true; each argument reads behind the call as it read before'; 0 by the template 'total and deterministic' (their statements: YtkiipbpcaakkoaaTotals.lean).
  GIVEN WITH THE SEED: the statements are not yours to turn. If you find one false, say at which input.
  Laid BY PROGRAM, IN A SANDBOX (cutbox-rows.mjs): the forced cells as the released guide's own fill.sh prints them over the translation ed7eaf7dccdfcc05… (all of the seat's roots in one cut). By AI agents, Wed Nov 11 2026. No macro, syntax, notation, axiom, sorry.
-/
import Derived.Test.YtkiipbpcaakkoaaChecked
import GoSem.Claim
import GoSem.ClaimJoined
import GoSem.ClaimMapViews
import Derived.JoinedTies
import Derived.KernelRfl
namespace Go.Proofs.Ytkiipbpcaakkoaa
/- THE CELL 'sum', in the pinned program and in every row, IS THE sha256 OF THE DUMP (.gsa) THAT YtkiipbpcaakkoaaProg.lean LOADS. Nothing in Lean hashes anything: it is a label: what it is worth is what the hold of that sum in a sandbox is worth. -/
noncomputable def Try.pinned : Pinned := { name := "ytkiipbpcaakkoaa", sum := "ed7eaf7dccdfcc057d03f8aa7c006e6453b2fa659fe5686ed6a765c989eb1bc9", checked := Try.checked }
namespace Rows
def none {H : Type} : Left H := { results := [], args := [] }

/-- 'laws.FnNewlines32': WHATEVER THE INPUT: true; the input reads as it did. -/
def fnNewlines32Spec : ChangeSpec := { name := "fnNewlines32", fn := fun _ => fun
  | [d1, d2, d3, d4, d5] => { results := [.lit (.bool true)], args := [d1, d2, d3, d4, d5] }
  | _ => none }
def fnNewlines32Row : OpenClaim := { program := "ytkiipbpcaakkoaa", sum := "ed7eaf7dccdfcc057d03f8aa7c006e6453b2fa659fe5686ed6a765c989eb1bc9", func := "loop.example/lib-g01093/laws.FnNewlines32", spec := "fnNewlines32", apart := false }
def FnNewlines32Said : Prop := fnNewlines32Row.holds Try.pinned (OpenSpec.ofChange fnNewlines32Spec)

/-- ITS FALSE NEIGHBOUR: 'it returns false'. Refute it at one input. -/
def fnNewlines32Wrong : ChangeSpec := { name := "fnNewlines32", fn := fun _ => fun
  | [d1, d2, d3, d4, d5] => { results := [.lit (.bool false)], args := [d1, d2, d3, d4, d5] }
  | _ => none }
def FnNewlines32WrongFalsely : Prop := fnNewlines32Row.holds Try.pinned (OpenSpec.ofChange fnNewlines32Wrong)

/-- 'laws.FnTail32': WHATEVER THE INPUT: true; the input reads as it did. -/
def fnTail32Spec : ChangeSpec := { name := "fnTail32", fn := fun _ => fun
  | [d1, d2, d3, d4] => { results := [.lit (.bool true)], args := [d1, d2, d3, d4] }
  | _ => none }
def fnTail32Row : OpenClaim := { program := "ytkiipbpcaakkoaa", sum := "ed7eaf7dccdfcc057d03f8aa7c006e6453b2fa659fe5686ed6a765c989eb1bc9", func := "loop.example/lib-g01093/laws.FnTail32", spec := "fnTail32", apart := false }
def FnTail32Said : Prop := fnTail32Row.holds Try.pinned (OpenSpec.ofChange fnTail32Spec)

/-- ITS FALSE NEIGHBOUR: 'it returns false'. Refute it at one input. -/
def fnTail32Wrong : ChangeSpec := { name := "fnTail32", fn := fun _ => fun
  | [d1, d2, d3, d4] => { results := [.lit (.bool false)], args := [d1, d2, d3, d4] }
  | _ => none }
def FnTail32WrongFalsely : Prop := fnTail32Row.holds Try.pinned (OpenSpec.ofChange fnTail32Wrong)

/-- 'laws.FnNewlines64': WHATEVER THE INPUT: true; the input reads as it did. -/
def fnNewlines64Spec : ChangeSpec := { name := "fnNewlines64", fn := fun _ => fun
  | [d1, d2, d3, d4, d5, d6] => { results := [.lit (.bool true)], args := [d1, d2, d3, d4, d5, d6] }
  | _ => none }
def fnNewlines64Row : OpenClaim := { program := "ytkiipbpcaakkoaa", sum := "ed7eaf7dccdfcc057d03f8aa7c006e6453b2fa659fe5686ed6a765c989eb1bc9", func := "loop.example/lib-g01093/laws.FnNewlines64", spec := "fnNewlines64", apart := false }
def FnNewlines64Said : Prop := fnNewlines64Row.holds Try.pinned (OpenSpec.ofChange fnNewlines64Spec)

/-- ITS FALSE NEIGHBOUR: 'it returns false'. Refute it at one input. -/
def fnNewlines64Wrong : ChangeSpec := { name := "fnNewlines64", fn := fun _ => fun
  | [d1, d2, d3, d4, d5, d6] => { results := [.lit (.bool false)], args := [d1, d2, d3, d4, d5, d6] }
  | _ => none }
def FnNewlines64WrongFalsely : Prop := fnNewlines64Row.holds Try.pinned (OpenSpec.ofChange fnNewlines64Wrong)

/-- 'laws.FnTail64': WHATEVER THE INPUT: true; the input reads as it did. -/
def fnTail64Spec : ChangeSpec := { name := "fnTail64", fn := fun _ => fun
  | [d1, d2, d3, d4, d5] => { results := [.lit (.bool true)], args := [d1, d2, d3, d4, d5] }
  | _ => none }
def fnTail64Row : OpenClaim := { program := "ytkiipbpcaakkoaa", sum := "ed7eaf7dccdfcc057d03f8aa7c006e6453b2fa659fe5686ed6a765c989eb1bc9", func := "loop.example/lib-g01093/laws.FnTail64", spec := "fnTail64", apart := false }
def FnTail64Said : Prop := fnTail64Row.holds Try.pinned (OpenSpec.ofChange fnTail64Spec)

/-- ITS FALSE NEIGHBOUR: 'it returns false'. Refute it at one input. -/
def fnTail64Wrong : ChangeSpec := { name := "fnTail64", fn := fun _ => fun
  | [d1, d2, d3, d4, d5] => { results := [.lit (.bool false)], args := [d1, d2, d3, d4, d5] }
  | _ => none }
def FnTail64WrongFalsely : Prop := fnTail64Row.holds Try.pinned (OpenSpec.ofChange fnTail64Wrong)

/- THE SECOND FORM. 'bulk': how many values and letters a reading holds, each counted each time it is reached (what is shared counts as often as it is met; a slice's spare places count too). A statement '..UptoSaid' is the law's where the arguments, and the package variables that the reading takes, are together of bulk at most 1048576: NARROWER than '..Said'. Prove '..Said' where nothing that the law and all that it calls make is longer than what came in: it says more and counts as full. Else prove '..UptoSaid'. A law counts once. -/
mutual
def uptoBulk {H : Type} : DataW H → Nat
  | .lit (.string bytes) => bytes.length + 1
  | .lit _ => 1
  | .nil => 1
  | .ptr d => uptoBulk d + 1
  | .slice elems spare => uptoBulkAll elems + uptoBulkAll spare + 1
  | .agg parts => uptoBulkAll parts + 1
  | .iface _ d => uptoBulk d + 1
  | .map entries => uptoBulkEntries entries + 1
  | .held _ => 1
def uptoBulkAll {H : Type} : List (DataW H) → Nat
  | [] => 0
  | d :: r => uptoBulk d + uptoBulkAll r
def uptoBulkEntries {H : Type} : List (Lit × DataW H) → Nat
  | [] => 0
  | x :: r => uptoBulkEntry x + uptoBulkEntries r
def uptoBulkEntry {H : Type} : Lit × DataW H → Nat
  | (.string bytes, d) => bytes.length + uptoBulk d + 1
  | (_, d) => uptoBulk d + 1
 end
def uptoSmall : (H : Type) → List (DataW H) → Bool := fun _ ds => decide (uptoBulkAll ds ≤ 1048576)
def OpenSpec.upto (s : _root_.Go.ChangeSpec) : _root_.Go.OpenSpec := { _root_.Go.OpenSpec.ofChange s with cond := some uptoSmall }

/-- 'laws.FnNewlines32', WHERE WHAT IT READS IS OF BULK AT MOST 1048576: true; the input reads as it did. -/
def fnNewlines32UptoRow : OpenClaim := { program := "ytkiipbpcaakkoaa", sum := "ed7eaf7dccdfcc057d03f8aa7c006e6453b2fa659fe5686ed6a765c989eb1bc9", func := "loop.example/lib-g01093/laws.FnNewlines32", spec := "fnNewlines32", apart := false, narrowed := true }
def FnNewlines32UptoSaid : Prop := fnNewlines32UptoRow.holds Try.pinned (OpenSpec.upto fnNewlines32Spec)

/-- 'laws.FnTail32', WHERE WHAT IT READS IS OF BULK AT MOST 1048576: true; the input reads as it did. -/
def fnTail32UptoRow : OpenClaim := { program := "ytkiipbpcaakkoaa", sum := "ed7eaf7dccdfcc057d03f8aa7c006e6453b2fa659fe5686ed6a765c989eb1bc9", func := "loop.example/lib-g01093/laws.FnTail32", spec := "fnTail32", apart := false, narrowed := true }
def FnTail32UptoSaid : Prop := fnTail32UptoRow.holds Try.pinned (OpenSpec.upto fnTail32Spec)

/-- 'laws.FnNewlines64', WHERE WHAT IT READS IS OF BULK AT MOST 1048576: true; the input reads as it did. -/
def fnNewlines64UptoRow : OpenClaim := { program := "ytkiipbpcaakkoaa", sum := "ed7eaf7dccdfcc057d03f8aa7c006e6453b2fa659fe5686ed6a765c989eb1bc9", func := "loop.example/lib-g01093/laws.FnNewlines64", spec := "fnNewlines64", apart := false, narrowed := true }
def FnNewlines64UptoSaid : Prop := fnNewlines64UptoRow.holds Try.pinned (OpenSpec.upto fnNewlines64Spec)

/-- 'laws.FnTail64', WHERE WHAT IT READS IS OF BULK AT MOST 1048576: true; the input reads as it did. -/
def fnTail64UptoRow : OpenClaim := { program := "ytkiipbpcaakkoaa", sum := "ed7eaf7dccdfcc057d03f8aa7c006e6453b2fa659fe5686ed6a765c989eb1bc9", func := "loop.example/lib-g01093/laws.FnTail64", spec := "fnTail64", apart := false, narrowed := true }
def FnTail64UptoSaid : Prop := fnTail64UptoRow.holds Try.pinned (OpenSpec.upto fnTail64Spec)

end Rows
end Go.Proofs.Ytkiipbpcaakkoaa
