/-
  DERIVED. GIVEN WITH THE SEED: THE CARDS: each row of YtmiedehknjidkaaDoorRows.lean that lists a variable, with what it lists TIED to the program's text (the seventh form; the later family's looks); each row that meets fmt, with fmt's text TOLD by the authors' own Lean function (tested against real Go, not proved from fmt's source: count such statements apart). THE CARD IS WHAT COUNTS. Prove the row's statement (the work); the ties are given (YtmiedehknjidkaaDoorTie.lean); close each card by the builder's one call (the guide's Derived/Test/ToyasCard.lean, 'card_holds'). Laid BY PROGRAM, IN A SANDBOX (cutbox-door.mjs). By AI agents, Wed Nov 11 2026. No macro, syntax, notation, axiom, sorry.
-/
import Derived.Test.YtmiedehknjidkaaDoorRows
import GoSem.ClaimSeven
namespace Go.Proofs.YtmiedehknjidkaaDoor
namespace Rows

/-- THE TIED CARD OF 'laws.FnExactName'. -/
def fnExactNameCard : Claim7 := { stood := { row := fnExactNameRow, standIns := [], harness := (true, "5f8d8eb40df66d3ad2018d81fee0e078977cad4340dec340ec742a90d967f007"), looks := true }, kinds := [], alts := [], laidByText := true, laidKinds := [.sentinel, .sentinel, .sentinel], laidTests := true, laidLooks := .later }
def FnExactNameCardSaid : Prop := Claim7.holds Tryd.pinned (.plain (OpenSpec.ofChange fnExactNameSpec)) fnExactNameCard

/-- THE SECOND FORM's CARD OF 'laws.FnExactName'. -/
def fnExactNameUptoCard : Claim7 := { stood := { row := fnExactNameUptoRow, standIns := [], harness := (true, "5f8d8eb40df66d3ad2018d81fee0e078977cad4340dec340ec742a90d967f007"), looks := true }, kinds := [], alts := [], laidByText := true, laidKinds := [.sentinel, .sentinel, .sentinel], laidTests := true, laidLooks := .later }
def FnExactNameUptoCardSaid : Prop := Claim7.holds Tryd.pinned (.plain (OpenSpec.upto fnExactNameSpec)) fnExactNameUptoCard
end Rows
end Go.Proofs.YtmiedehknjidkaaDoor
