/-
  DERIVED. GIVEN WITH THE SEED: THE CARDS: each row of YtilmldfbmmcchaaGreatDoorRows.lean that lists a variable, with what it lists TIED to the program's text (the seventh form; the later family's looks); each row that meets fmt, with fmt's text TOLD by the authors' own Lean function (tested against real Go, not proved from fmt's source: count such statements apart). THE CARD IS WHAT COUNTS. Prove the row's statement (the work); the ties are given (YtilmldfbmmcchaaGreatDoorTie.lean); close each card by the builder's one call (the guide's Derived/Test/ToyasCard.lean, 'card_holds'). Laid BY PROGRAM, IN A SANDBOX (cutbox-door.mjs). By AI agents, Wed Nov 11 2026. No macro, syntax, notation, axiom, sorry.
-/
import Derived.Test.YtilmldfbmmcchaaGreatDoorRows
import GoSem.ClaimSeven
namespace Go.Proofs.YtilmldfbmmcchaaGreatDoor
namespace Rows

/-- THE TIED CARD OF 'laws.FnDecPowInt'. -/
def fnDecPowIntCard : Claim7 := { stood := { row := fnDecPowIntRow, standIns := [], harness := (true, "38f3362928d1eb823c62eac814bee531c1fabef0e49064ac00708d5f778f5c40"), looks := true }, kinds := [], alts := [], laidByText := true, laidKinds := [.data, .data, .sentinel, .sentinel, .sentinel, .data, .data, .data, .data, .data, .data, .data, .sentinel], laidTests := true, laidLooks := .later }
def FnDecPowIntCardSaid : Prop := Claim7.holds Tryz.pinned (.plain (OpenSpec.ofChange fnDecPowIntSpec)) fnDecPowIntCard

/-- THE SECOND FORM's CARD OF 'laws.FnDecPowInt'. -/
def fnDecPowIntUptoCard : Claim7 := { stood := { row := fnDecPowIntUptoRow, standIns := [], harness := (true, "38f3362928d1eb823c62eac814bee531c1fabef0e49064ac00708d5f778f5c40"), looks := true }, kinds := [], alts := [], laidByText := true, laidKinds := [.data, .data, .sentinel, .sentinel, .sentinel, .data, .data, .data, .data, .data, .data, .data, .sentinel], laidTests := true, laidLooks := .later }
def FnDecPowIntUptoCardSaid : Prop := Claim7.holds Tryz.pinned (.plain (OpenSpec.upto fnDecPowIntSpec)) fnDecPowIntUptoCard
end Rows
end Go.Proofs.YtilmldfbmmcchaaGreatDoor
