/- The closed facts of the row about the program's text, each by the kernel. Conditions: each theorem bears its own. -/
import Derived.Deep.DeepHandedRow
import Derived.ProofKit
import Derived.Test.YtilmldfbmmcchaaGreatDoorCards
import Derived.WalkKit
set_option linter.unusedVariables false
set_option linter.unusedSimpArgs false
namespace Go.Proofs.YtilmldfbmmcchaaGreatDoor.fnDecPowInt
open Go.ChangeShapes Go.WideShapes Go.ChangeAt Go.RowKit
theorem own : ownKnob Tryz.prog.godebug = none := by kernel_rfl
theorem named : Tryz.pinned.checked.prog.funcNamed Rows.fnDecPowIntRow.func = some 3 := by kernel_rfl
theorem inst : (Tryz.f3).isInstance Tryz.pinned.checked.prog Rows.fnDecPowIntRow.origin Rows.fnDecPowIntRow.targs := of_decide_eq_true (by kernel_rfl)
theorem wrap : (Tryz.f3).isWrapper Tryz.pinned.checked.prog Rows.fnDecPowIntRow.wrapper Rows.fnDecPowIntRow.mainSum := by
 unfold Func.isWrapper
 first
  | (rw [if_pos (by decide +kernel)]; kernel_rfl)
  | (rw [if_neg (by decide +kernel)]; exact ⟨rfl, rfl⟩)
theorem noInit : Tryz.checked.prog.inits.idxOf? 3 = none := by kernel_rfl
theorem and2 {a b : Bool} (h1 : a = true) (h2 : b = true) : (a && b) = true := by rw [h1, h2]; rfl
theorem k1 : Rows.fnDecPowIntRow.wf (OpenSpec.ofChange (OpenSpec.ofChange Rows.fnDecPowIntSpec).bare) = true := by kernel_rfl
theorem k2 : laidOutB Tryz.pinned.checked.prog = true := by kernel_rfl
theorem k3 : mapsRowed Tryz.pinned.checked.prog = true := by kernel_rfl
theorem k4 : Tryz.f3.params.all (Tryz.pinned.checked.prog.readableRec ·) = true := by kernel_rfl
theorem k5 : namedTie Tryz.pinned.checked.prog Rows.fnDecPowIntRow.named (OpenSpec.ofChange Rows.fnDecPowIntSpec).bare.vars = true := by kernel_rfl
theorem k6 : (Rows.fnDecPowIntRow.stops == []) = true := by kernel_rfl
theorem k7 : (Tryz.pinned.checked.prog.stops == []) = true := by kernel_rfl
theorem k8 : (Rows.fnDecPowIntRow.knobs == []) = true := by kernel_rfl
theorem k9 : (Tryz.pinned.checked.prog.stopKnobs == []) = true := by kernel_rfl
theorem k10 : (Rows.fnDecPowIntRow.inPlace == Tryz.pinned.checked.prog.inPlace 3) = true := by kernel_rfl
theorem k11 : (Rows.fnDecPowIntRow.unfollowed == Tryz.pinned.checked.prog.unfollowed 3) = true := by kernel_rfl
theorem k12 : (Rows.fnDecPowIntRow.recurses == Tryz.pinned.checked.prog.recurses 3) = true := by kernel_rfl
theorem k13 : (Rows.fnDecPowIntRow.named == Tryz.pinned.checked.prog.varsNamed 3) = true := by kernel_rfl
theorem k14 : (Rows.fnDecPowIntRow.maps == (Tryz.f3.params.toList ++ (OpenSpec.ofChange Rows.fnDecPowIntSpec).bare.plain.varTypes Tryz.pinned.checked.prog).any (Tryz.pinned.checked.prog.mapsRec ·)) = true := by kernel_rfl
theorem k15 : (Rows.fnDecPowIntRow.ifaces == (Tryz.f3.params.toList ++ (OpenSpec.ofChange Rows.fnDecPowIntSpec).bare.plain.varTypes Tryz.pinned.checked.prog).any (Tryz.pinned.checked.prog.ifacesRec ·)) = true := by kernel_rfl
theorem k16 : (Rows.fnDecPowIntRow.mapsOut == Tryz.pinned.checked.prog.mapsAmong Tryz.f3.resultTypes.toList) = true := by kernel_rfl
theorem k17 : (Rows.fnDecPowIntRow.loops == (Tryz.f3.params.toList ++ (OpenSpec.ofChange Rows.fnDecPowIntSpec).bare.plain.varTypes Tryz.pinned.checked.prog).any (Tryz.pinned.checked.prog.loopsFrom ·)) = true := by kernel_rfl
theorem k18 : (Rows.fnDecPowIntRow.wideKeys == (Tryz.f3.params.toList ++ (OpenSpec.ofChange Rows.fnDecPowIntSpec).bare.plain.varTypes Tryz.pinned.checked.prog ++ Tryz.f3.resultTypes.toList).any (Tryz.pinned.checked.prog.wideKeysFrom ·)) = true := by kernel_rfl
theorem k19 : (OpenSpec.ofChange Rows.fnDecPowIntSpec).bare.vars.all (Tryz.pinned.checked.prog.varReadable ·) = true := by kernel_rfl
theorem k20 : Tryz.f3.resultTypes.all (fun t => Tryz.pinned.checked.prog.readableRec t && decide (t < Tryz.pinned.checked.prog.types.size)) = true := by kernel_rfl
theorem k21 : (Rows.fnDecPowIntRow.ifacesOut == Tryz.f3.resultTypes.toList.any (Tryz.pinned.checked.prog.ifacesRec ·)) = true := by kernel_rfl
theorem k22 : (Rows.fnDecPowIntRow.loopsOut == Tryz.f3.resultTypes.toList.any (Tryz.pinned.checked.prog.loopsFrom ·)) = true := by kernel_rfl
theorem k23 : (Rows.fnDecPowIntRow.plainKeys == Tryz.pinned.checked.prog.plainKeys) = true := by kernel_rfl
theorem k24 : Rows.fnDecPowIntRow.shortTexts.isNone = true := by kernel_rfl
theorem k25 : Tryz.pinned.checked.prog.stopsHeard = true := by kernel_rfl
theorem k26 : Tryz.pinned.checked.prog.mayEnter = true := by kernel_rfl
theorem k27 : (Rows.fnDecPowIntRow.lifted == Tryz.pinned.checked.prog.liftsFinal) = true := by kernel_rfl
theorem k28 : (Tryz.pinned.checked.prog.make == some Rows.fnDecPowIntRow.make) = true := by kernel_rfl
theorem k29 : (Rows.fnDecPowIntRow.kinds == (if Rows.fnDecPowIntRow.domain.isEmpty then [] else Tryz.f3.params.toList.map fun t => match Tryz.pinned.checked.prog.underlying t with | some (.int k) => some k | _ => none)) = true := by kernel_rfl
theorem k30 : (Rows.fnDecPowIntRow.pinned == Rows.fnDecPowIntRow.pinnedBy) = true := by kernel_rfl
theorem k31 : (Rows.fnDecPowIntRow.veiled == (Tryz.f3.params.toList ++ (OpenSpec.ofChange Rows.fnDecPowIntSpec).bare.plain.varTypes Tryz.pinned.checked.prog ++ Tryz.f3.resultTypes.toList).any (Tryz.pinned.checked.prog.veiledRec ·)) = true := by kernel_rfl
theorem k32 : Rows.fnDecPowIntRow.veiledFits Tryz.pinned.checked.prog Tryz.f3.params.toList (Tryz.f3.params.toList ++ (OpenSpec.ofChange Rows.fnDecPowIntSpec).bare.plain.varTypes Tryz.pinned.checked.prog ++ Tryz.f3.resultTypes.toList) = true := by kernel_rfl
set_option maxRecDepth 100000 in
theorem closed : joinedFacts Tryz.pinned.checked.prog 3 (Tryz.f3) (OpenSpec.ofChange Rows.fnDecPowIntSpec).bare Rows.fnDecPowIntRow = true := by
 unfold joinedFacts
 exact (and2 (and2 (and2 (and2 (and2 (and2 (and2 (and2 (and2 (and2 (and2 (and2 (and2 (and2 (and2 (and2 (and2 (and2 (and2 (and2 (and2 (and2 (and2 (and2 (and2 (and2 (and2 (and2 (and2 (and2 (and2 k1 k2) k3) k4) k5) k6) k7) k8) k9) k10) k11) k12) k13) k14) k15) k16) k17) k18) k19) k20) k21) k22) k23) k24) k25) k26) k27) k28) k29) k30) k31) k32)
theorem looks : Tryz.pinned.checked.prog.looks [] = true := by kernel_rfl
theorem standIn : Tryz.pinned.checked.prog.wantsStandIn 23 = false := by kernel_rfl
theorem standIn2 : Tryz.pinned.checked.prog.wantsStandIn 3 = false := by kernel_rfl
end Go.Proofs.YtilmldfbmmcchaaGreatDoor.fnDecPowInt
