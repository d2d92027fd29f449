/-
  DERIVED. GIVEN WITH THE SEED: THE CARDS: each row of YtejkphobeclefaaDoorRows.lean that lists a variable, with what it lists TIED to the program's text (the seventh form; the later family's looks); each row that meets fmt, with fmt's text TOLD by the authors' own Lean function (tested against real Go, not proved from fmt's source: count such statements apart). THE CARD IS WHAT COUNTS. Prove the row's statement (the work); the ties are given (YtejkphobeclefaaDoorTie.lean); close each card by the builder's one call (the guide's Derived/Test/ToyasCard.lean, 'card_holds'). Laid BY PROGRAM, IN A SANDBOX (cutbox-door.mjs). By AI agents, Wed Nov 11 2026. No macro, syntax, notation, axiom, sorry.
-/
import Derived.Test.YtejkphobeclefaaDoorRows
import GoSem.ClaimSeven
namespace Go.Proofs.YtejkphobeclefaaDoor
namespace Rows

/-- THE TIED CARD OF 'laws.FnExactErrorText32'. -/
def fnExactErrorText32Card : Claim7 := { stood := { row := fnExactErrorText32Row, standIns := [], harness := (true, "7b42ba082f1e562aa3bc5bd06f6f6197a00b9e65ef86bff88b462fd5ee00a0ae"), looks := false }, kinds := [], alts := [], laidByText := true, laidKinds := [.data, .data, .data], laidTests := true, laidLooks := .later }
def FnExactErrorText32CardSaid : Prop := Claim7.holds Tryd.pinned (.plain (OpenSpec.ofChange fnExactErrorText32Spec)) fnExactErrorText32Card

/-- THE TIED CARD OF 'laws.FnExactErrorText64'. -/
def fnExactErrorText64Card : Claim7 := { stood := { row := fnExactErrorText64Row, standIns := [], harness := (true, "7b42ba082f1e562aa3bc5bd06f6f6197a00b9e65ef86bff88b462fd5ee00a0ae"), looks := false }, kinds := [], alts := [], laidByText := true, laidKinds := [.data, .data, .data], laidTests := true, laidLooks := .later }
def FnExactErrorText64CardSaid : Prop := Claim7.holds Tryd.pinned (.plain (OpenSpec.ofChange fnExactErrorText64Spec)) fnExactErrorText64Card

/-- THE TIED CARD OF 'laws.FnErrorTexts'. -/
def fnErrorTextsCard : Claim7 := { stood := { row := fnErrorTextsRow, standIns := [], harness := (true, "7b42ba082f1e562aa3bc5bd06f6f6197a00b9e65ef86bff88b462fd5ee00a0ae"), looks := false }, kinds := [], alts := [], laidByText := true, laidKinds := [.data, .data, .data], laidTests := true, laidLooks := .later }
def FnErrorTextsCardSaid : Prop := Claim7.holds Tryd.pinned (.plain (OpenSpec.ofChange fnErrorTextsSpec)) fnErrorTextsCard

/-- THE SECOND FORM's CARD OF 'laws.FnExactErrorText32'. -/
def fnExactErrorText32UptoCard : Claim7 := { stood := { row := fnExactErrorText32UptoRow, standIns := [], harness := (true, "7b42ba082f1e562aa3bc5bd06f6f6197a00b9e65ef86bff88b462fd5ee00a0ae"), looks := false }, kinds := [], alts := [], laidByText := true, laidKinds := [.data, .data, .data], laidTests := true, laidLooks := .later }
def FnExactErrorText32UptoCardSaid : Prop := Claim7.holds Tryd.pinned (.plain (OpenSpec.upto fnExactErrorText32Spec)) fnExactErrorText32UptoCard

/-- THE SECOND FORM's CARD OF 'laws.FnExactErrorText64'. -/
def fnExactErrorText64UptoCard : Claim7 := { stood := { row := fnExactErrorText64UptoRow, standIns := [], harness := (true, "7b42ba082f1e562aa3bc5bd06f6f6197a00b9e65ef86bff88b462fd5ee00a0ae"), looks := false }, kinds := [], alts := [], laidByText := true, laidKinds := [.data, .data, .data], laidTests := true, laidLooks := .later }
def FnExactErrorText64UptoCardSaid : Prop := Claim7.holds Tryd.pinned (.plain (OpenSpec.upto fnExactErrorText64Spec)) fnExactErrorText64UptoCard

/-- THE SECOND FORM's CARD OF 'laws.FnErrorTexts'. -/
def fnErrorTextsUptoCard : Claim7 := { stood := { row := fnErrorTextsUptoRow, standIns := [], harness := (true, "7b42ba082f1e562aa3bc5bd06f6f6197a00b9e65ef86bff88b462fd5ee00a0ae"), looks := false }, kinds := [], alts := [], laidByText := true, laidKinds := [.data, .data, .data], laidTests := true, laidLooks := .later }
def FnErrorTextsUptoCardSaid : Prop := Claim7.holds Tryd.pinned (.plain (OpenSpec.upto fnErrorTextsSpec)) fnErrorTextsUptoCard
end Rows
end Go.Proofs.YtejkphobeclefaaDoor
