/-
  DERIVED. GIVEN WITH THE SEED: THE CARDS: each row of YtkholmbfeghhpaaGreatDoorRows.lean that lists a variable, with what it lists TIED to the program's text (the seventh form; the later family's looks); each row that meets fmt, with fmt's text TOLD by the authors' own Lean function (tested against real Go, not proved from fmt's source: count such statements apart). THE CARD IS WHAT COUNTS. Prove the row's statement (the work); the ties are given (YtkholmbfeghhpaaGreatDoorTie.lean); close each card by the builder's one call (the guide's Derived/Test/ToyasCard.lean, 'card_holds'). Laid BY PROGRAM, IN A SANDBOX (cutbox-door.mjs). By AI agents, Wed Nov 11 2026. No macro, syntax, notation, axiom, sorry.
-/
import Derived.Test.YtkholmbfeghhpaaGreatDoorRows
import GoSem.ClaimSeven
namespace Go.Proofs.YtkholmbfeghhpaaGreatDoor
namespace Rows

/-- THE TIED CARD OF 'laws.FnFixBSON'. -/
def fnFixBSONCard : Claim7 := { stood := { row := fnFixBSONRow, standIns := [], harness := (true, "23a4ba0b6a5e4208a00af3c7e39a318be62888b266206b84b70c54ce35a49617"), looks := false }, kinds := [], alts := [], laidByText := true, laidKinds := [.data, .data, .data, .data, .data, .data, .data, .data, .data, .sentinel, .sentinel, .sentinel, .data, .pinned, .pinned], laidTests := true, laidLooks := .later }
def FnFixBSONCardSaid : Prop := Claim7.holds Tryz.pinned (.plain (OpenSpec.ofChange fnFixBSONSpec)) fnFixBSONCard

/-- THE SECOND FORM's CARD OF 'laws.FnFixBSON'. -/
def fnFixBSONUptoCard : Claim7 := { stood := { row := fnFixBSONUptoRow, standIns := [], harness := (true, "23a4ba0b6a5e4208a00af3c7e39a318be62888b266206b84b70c54ce35a49617"), looks := false }, kinds := [], alts := [], laidByText := true, laidKinds := [.data, .data, .data, .data, .data, .data, .data, .data, .data, .sentinel, .sentinel, .sentinel, .data, .pinned, .pinned], laidTests := true, laidLooks := .later }
def FnFixBSONUptoCardSaid : Prop := Claim7.holds Tryz.pinned (.plain (OpenSpec.upto fnFixBSONSpec)) fnFixBSONUptoCard
end Rows
end Go.Proofs.YtkholmbfeghhpaaGreatDoor
