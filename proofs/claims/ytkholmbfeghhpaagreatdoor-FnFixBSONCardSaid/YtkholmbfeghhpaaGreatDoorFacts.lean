/- The closed facts of the row about the program's text, each by the kernel. Conditions: none. -/
import Derived.Test.YtkholmbfeghhpaaGreatDoorCards
import Derived.WalkKit
import Derived.ProofKit
import Derived.Deep.DeepHandedRow
namespace Go.Proofs.YtkholmbfeghhpaaGreatDoor.fnFixBSON
open Go.ChangeShapes Go.WideShapes Go.ChangeAt Go.RowKit

theorem own : ownKnob Tryz.prog.godebug = none := by kernel_rfl
theorem named : Tryz.pinned.checked.prog.funcNamed Rows.fnFixBSONRow.func = some 3 := by kernel_rfl
theorem inst : (Tryz.f3).isInstance Tryz.pinned.checked.prog Rows.fnFixBSONRow.origin Rows.fnFixBSONRow.targs := of_decide_eq_true (by kernel_rfl)
theorem wrap : (Tryz.f3).isWrapper Tryz.pinned.checked.prog Rows.fnFixBSONRow.wrapper Rows.fnFixBSONRow.mainSum := by
  unfold Func.isWrapper
  first
    | (rw [if_pos (by decide +kernel)]; kernel_rfl)
    | (rw [if_neg (by decide +kernel)]; exact ⟨rfl, rfl⟩)
theorem closed : joinedFacts Tryz.pinned.checked.prog 3 Tryz.f3 (OpenSpec.ofChange Rows.fnFixBSONSpec).bare Rows.fnFixBSONRow = true := by kernel_rfl
theorem noInit : Tryz.checked.prog.inits.idxOf? 3 = none := by kernel_rfl
/-- No parameter wants a stand-in; the program's own looks are off: what the card asks. -/
theorem looks : Tryz.pinned.checked.prog.looks [] = false := by kernel_rfl
theorem standIn : Tryz.pinned.checked.prog.wantsStandIn 24 = false := by kernel_rfl
end Go.Proofs.YtkholmbfeghhpaaGreatDoor.fnFixBSON
