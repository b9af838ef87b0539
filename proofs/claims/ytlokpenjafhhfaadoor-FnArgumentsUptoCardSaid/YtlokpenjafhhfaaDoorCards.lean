/-
  DERIVED. GIVEN WITH THE SEED: THE CARDS: each row of YtlokpenjafhhfaaDoorRows.lean that lists a variable, with what it lists TIED to the program's text (the seventh form; the later family's looks); each row that meets fmt, with fmt's text TOLD by the authors' own Lean function (tested against real Go, not proved from fmt's source: count such statements apart). THE CARD IS WHAT COUNTS. Prove the row's statement (the work); the ties are given (YtlokpenjafhhfaaDoorTie.lean); close each card by the builder's one call (the guide's Derived/Test/ToyasCard.lean, 'card_holds'). Laid BY PROGRAM, IN A SANDBOX (cutbox-door.mjs). By AI agents, Wed Nov 11 2026. No macro, syntax, notation, axiom, sorry.
-/
import Derived.Test.YtlokpenjafhhfaaDoorRows
import GoSem.ClaimSeven
namespace Go.Proofs.YtlokpenjafhhfaaDoor
namespace Rows

/-- THE TIED CARD OF 'laws.FnHexOfNumbers'. -/
def fnHexOfNumbersCard : Claim7 := { stood := { row := fnHexOfNumbersRow, standIns := [], harness := (true, "6d6614051adbd64c0dbd9dea4add0660fa47929aa6d3dc2e6093200731e337e2"), looks := true }, kinds := [], alts := [], laidByText := true, laidKinds := [.sentinel], laidTests := true, laidLooks := .later }
def FnHexOfNumbersCardSaid : Prop := Claim7.holds Tryd.pinned (.plain (OpenSpec.ofChange fnHexOfNumbersSpec)) fnHexOfNumbersCard

/-- THE TIED CARD OF 'laws.FnArguments'. -/
def fnArgumentsCard : Claim7 := { stood := { row := fnArgumentsRow, standIns := [], harness := (true, "6d6614051adbd64c0dbd9dea4add0660fa47929aa6d3dc2e6093200731e337e2"), looks := true }, kinds := [], alts := [], laidByText := true, laidKinds := [.sentinel], laidTests := true, laidLooks := .later }
def FnArgumentsCardSaid : Prop := Claim7.holds Tryd.pinned (.plain (OpenSpec.ofChange fnArgumentsSpec)) fnArgumentsCard

/-- THE SECOND FORM's CARD OF 'laws.FnHexOfNumbers'. -/
def fnHexOfNumbersUptoCard : Claim7 := { stood := { row := fnHexOfNumbersUptoRow, standIns := [], harness := (true, "6d6614051adbd64c0dbd9dea4add0660fa47929aa6d3dc2e6093200731e337e2"), looks := true }, kinds := [], alts := [], laidByText := true, laidKinds := [.sentinel], laidTests := true, laidLooks := .later }
def FnHexOfNumbersUptoCardSaid : Prop := Claim7.holds Tryd.pinned (.plain (OpenSpec.upto fnHexOfNumbersSpec)) fnHexOfNumbersUptoCard

/-- THE SECOND FORM's CARD OF 'laws.FnArguments'. -/
def fnArgumentsUptoCard : Claim7 := { stood := { row := fnArgumentsUptoRow, standIns := [], harness := (true, "6d6614051adbd64c0dbd9dea4add0660fa47929aa6d3dc2e6093200731e337e2"), looks := true }, kinds := [], alts := [], laidByText := true, laidKinds := [.sentinel], laidTests := true, laidLooks := .later }
def FnArgumentsUptoCardSaid : Prop := Claim7.holds Tryd.pinned (.plain (OpenSpec.upto fnArgumentsSpec)) fnArgumentsUptoCard
end Rows
end Go.Proofs.YtlokpenjafhhfaaDoor
