/- A world that the row's list fits, and an argument: the row is met by some input. Conditions: none. -/
import Derived.Test.YtkholmbfeghhpaaGreatDoorCards
import Derived.WalkKit
import Derived.ProofKit
import Derived.Lay
import Derived.MakeChecks
import Derived.Deep.DeepHandedRow
namespace Go.Proofs.YtkholmbfeghhpaaGreatDoor.fnFixBSON
open Go.ChangeShapes Go.WideShapes Go.ChangeAt Go.RowKit

/-- A world that the row's list fits, and an argument: the witness. -/
def wArgs : Array Value := #[.agg #[.bool false, .int .u64 0, .int .i64 0]]
noncomputable def wLaid (os : Os) : World := World.laidAll Tryz.prog os Rows.fnFixBSONRow.laid
theorem w_fits (os : Os) : (World.holding Tryz.prog os ⟨#[], #[], []⟩).layFits Tryz.prog Rows.fnFixBSONRow.laid [] = true := by kernel_rfl
theorem w_ifaces (os : Os) : (World.holding Tryz.prog os ⟨#[], #[], []⟩).layIfaces Tryz.prog Rows.fnFixBSONRow.laid (World.laidAll Tryz.prog os Rows.fnFixBSONRow.laid) = true := by kernel_rfl
theorem w_met (os : Os) (args : Array Value) : laidMetH Tryz.prog Rows.fnFixBSONRow.laid ((wLaid os).forCall (fun _ _ => 0) ⟨#[], args, []⟩).memory := by
  rw [MakeChecks.laidMetH_plain _ _ _ (by kernel_rfl)]
  exact laidMet_laidAll _ (w_fits os) (w_ifaces os)
theorem w_shaped (os : Os) : ((wLaid os).forCall (fun _ _ => 0) ⟨#[], wArgs, []⟩).Shaped Tryz.prog := World.shaped_of_ZipB (by kernel_rfl) (by kernel_rfl)
theorem w_ok (os : Os) : Input.okWideB Tryz.prog ((wLaid os).forCall (fun _ _ => 0) ⟨#[], wArgs, []⟩) 3 ⟨#[], wArgs, []⟩ = true := by kernel_rfl
theorem w_reads (os : Os) {H : Type} (enc : TypeId × Value → H) :
    (DataW.whole enc Tryz.prog ((wLaid os).forCall (fun _ _ => 0) ⟨#[], wArgs, []⟩).memory Tryz.f3.params.toList Rows.fnFixBSONSpec.vars false wArgs.toList 8).isSome = true := by kernel_rfl
theorem w_sized (os : Os) {H : Type} (enc : TypeId × Value → H) :
    (OpenSpec.ofChange Rows.fnFixBSONSpec).bare.sizedB enc Tryz.prog Tryz.f3 false ((wLaid os).forCall (fun _ _ => 0) ⟨#[], wArgs, []⟩).memory wArgs 8 = true := by kernel_rfl

end Go.Proofs.YtkholmbfeghhpaaGreatDoor.fnFixBSON
