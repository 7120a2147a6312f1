/- A world that the row's list fits, and an argument: the row is met by some input. Conditions: each theorem bears its own. -/
import Derived.Deep.DeepHandedRow
import Derived.Lay
import Derived.MakeChecks
import Derived.ProofKit
import Derived.Test.YtilmldfbmmcchaaGreatDoorCards
import Derived.WalkKit
set_option linter.unusedVariables false
set_option linter.unusedSimpArgs false
namespace Go.Proofs.YtilmldfbmmcchaaGreatDoor.fnDecPowInt
open Go.ChangeShapes Go.WideShapes Go.ChangeAt Go.RowKit
def wArgs : Array Value := #[.agg #[.string ⟨#[]⟩, .int .i64 0], .int .i64 0]
noncomputable def wLaid (os : Os) : World := World.laidAll Tryz.prog os Rows.fnDecPowIntRow.laid
theorem w_fits (os : Os) : (World.holding Tryz.prog os ⟨#[], #[], []⟩).layFits Tryz.prog Rows.fnDecPowIntRow.laid [] = true := by kernel_rfl
theorem w_ifaces (os : Os) : (World.holding Tryz.prog os ⟨#[], #[], []⟩).layIfaces Tryz.prog Rows.fnDecPowIntRow.laid (World.laidAll Tryz.prog os Rows.fnDecPowIntRow.laid) = true := by kernel_rfl
theorem w_met (os : Os) (args : Array Value) : laidMetH Tryz.prog Rows.fnDecPowIntRow.laid ((wLaid os).forCall (fun _ _ => 0) ⟨#[], args, []⟩).memory := by
 rw [MakeChecks.laidMetH_plain _ _ _ (by kernel_rfl)]
 exact laidMet_laidAll _ (w_fits os) (w_ifaces os)
theorem w_shaped (os : Os) : ((wLaid os).forCall (fun _ _ => 0) ⟨#[], wArgs, []⟩).Shaped Tryz.prog := World.shaped_of_ZipB (by kernel_rfl) (by kernel_rfl)
theorem w_ok (os : Os) : Input.okWideB Tryz.prog ((wLaid os).forCall (fun _ _ => 0) ⟨#[], wArgs, []⟩) 3 ⟨#[], wArgs, []⟩ = true := by kernel_rfl
theorem w_reads (os : Os) {H : Type} (enc : TypeId × Value → H) :
  (DataW.whole enc Tryz.prog ((wLaid os).forCall (fun _ _ => 0) ⟨#[], wArgs, []⟩).memory Tryz.f3.params.toList Rows.fnDecPowIntSpec.vars false wArgs.toList 8).isSome = true := by kernel_rfl
theorem w_sized (os : Os) {H : Type} (enc : TypeId × Value → H) :
  (OpenSpec.ofChange Rows.fnDecPowIntSpec).bare.sizedB enc Tryz.prog Tryz.f3 false ((wLaid os).forCall (fun _ _ => 0) ⟨#[], wArgs, []⟩).memory wArgs 8 = true := by kernel_rfl
end Go.Proofs.YtilmldfbmmcchaaGreatDoor.fnDecPowInt
