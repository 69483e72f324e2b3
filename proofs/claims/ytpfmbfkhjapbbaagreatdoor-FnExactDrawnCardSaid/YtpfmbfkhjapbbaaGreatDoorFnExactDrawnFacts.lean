/-
  The closed facts of laws.FnExactDrawn's row. Printed by a program (gencard.py).
-/
import Derived.Test.YtpfmbfkhjapbbaaGreatDoorRowFacts
set_option linter.unusedVariables false
namespace Go.Proofs.YtpfmbfkhjapbbaaGreatDoor.fnExactDrawn
open Go Go.ChangeShapes Go.WideShapes Go.ChangeAt Go.RowKit

theorem l0 : (Rows.fnExactDrawnRow.wf (OpenSpec.ofChange (OpenSpec.ofChange Rows.fnExactDrawnSpec).bare)) = true := by kernel_rfl
theorem l3 : (Tryz.f4.params.all (Tryz.prog.readableRec ·)) = true := by kernel_rfl
theorem l4 : (namedTie Tryz.prog Rows.fnExactDrawnRow.named (OpenSpec.ofChange Rows.fnExactDrawnSpec).bare.vars) = true := by kernel_rfl
theorem l5 : ((Rows.fnExactDrawnRow.stops == [])) = true := by kernel_rfl
theorem l7 : ((Rows.fnExactDrawnRow.knobs == [])) = true := by kernel_rfl
theorem l9 : ((Rows.fnExactDrawnRow.inPlace == Tryz.prog.inPlace 4)) = true := by kernel_rfl
theorem l10 : ((Rows.fnExactDrawnRow.unfollowed == Tryz.prog.unfollowed 4)) = true := by kernel_rfl
theorem l11 : ((Rows.fnExactDrawnRow.recurses == Tryz.prog.recurses 4)) = true := by kernel_rfl
theorem l12 : ((Rows.fnExactDrawnRow.named == Tryz.prog.varsNamed 4)) = true := by kernel_rfl
theorem l13 : ((Rows.fnExactDrawnRow.maps == (Tryz.f4.params.toList ++ (OpenSpec.ofChange Rows.fnExactDrawnSpec).bare.plain.varTypes Tryz.prog).any (Tryz.prog.mapsRec ·))) = true := by kernel_rfl
theorem l14 : ((Rows.fnExactDrawnRow.ifaces == (Tryz.f4.params.toList ++ (OpenSpec.ofChange Rows.fnExactDrawnSpec).bare.plain.varTypes Tryz.prog).any (Tryz.prog.ifacesRec ·))) = true := by kernel_rfl
theorem l15 : ((Rows.fnExactDrawnRow.mapsOut == Tryz.prog.mapsAmong Tryz.f4.resultTypes.toList)) = true := by kernel_rfl
theorem l16 : ((Rows.fnExactDrawnRow.loops == (Tryz.f4.params.toList ++ (OpenSpec.ofChange Rows.fnExactDrawnSpec).bare.plain.varTypes Tryz.prog).any (Tryz.prog.loopsFrom ·))) = true := by kernel_rfl
theorem l17 : ((Rows.fnExactDrawnRow.wideKeys == (Tryz.f4.params.toList ++ (OpenSpec.ofChange Rows.fnExactDrawnSpec).bare.plain.varTypes Tryz.prog ++ Tryz.f4.resultTypes.toList).any (Tryz.prog.wideKeysFrom ·))) = true := by kernel_rfl
theorem l18 : ((OpenSpec.ofChange Rows.fnExactDrawnSpec).bare.vars.all (Tryz.prog.varReadable ·)) = true := by kernel_rfl
theorem l19 : (Tryz.f4.resultTypes.all (fun t => Tryz.prog.readableRec t && decide (t < Tryz.prog.types.size))) = true := by kernel_rfl
theorem l20 : ((Rows.fnExactDrawnRow.ifacesOut == Tryz.f4.resultTypes.toList.any (Tryz.prog.ifacesRec ·))) = true := by kernel_rfl
theorem l21 : ((Rows.fnExactDrawnRow.loopsOut == Tryz.f4.resultTypes.toList.any (Tryz.prog.loopsFrom ·))) = true := by kernel_rfl
theorem l22 : ((Rows.fnExactDrawnRow.plainKeys == Tryz.prog.plainKeys)) = true := by kernel_rfl
theorem l23 : (Rows.fnExactDrawnRow.shortTexts.isNone) = true := by kernel_rfl
theorem l26 : ((Rows.fnExactDrawnRow.lifted == Tryz.prog.liftsFinal)) = true := by kernel_rfl
theorem l27 : ((Tryz.prog.make == some Rows.fnExactDrawnRow.make)) = true := by kernel_rfl
theorem l28 : ((Rows.fnExactDrawnRow.kinds == (if Rows.fnExactDrawnRow.domain.isEmpty then [] else Tryz.f4.params.toList.map fun t => match Tryz.prog.underlying t with | some (.int k) => some k | _ => none))) = true := by kernel_rfl
theorem l29 : ((Rows.fnExactDrawnRow.pinned == Rows.fnExactDrawnRow.pinnedBy)) = true := by kernel_rfl
theorem l30 : ((Rows.fnExactDrawnRow.veiled == (Tryz.f4.params.toList ++ (OpenSpec.ofChange Rows.fnExactDrawnSpec).bare.plain.varTypes Tryz.prog ++ Tryz.f4.resultTypes.toList).any (Tryz.prog.veiledRec ·))) = true := by kernel_rfl
theorem l31 : (Rows.fnExactDrawnRow.veiledFits Tryz.prog Tryz.f4.params.toList (Tryz.f4.params.toList ++ (OpenSpec.ofChange Rows.fnExactDrawnSpec).bare.plain.varTypes Tryz.prog ++ Tryz.f4.resultTypes.toList)) = true := by kernel_rfl
set_option maxRecDepth 1000000 in
theorem closed : joinedFacts Tryz.prog 4 Tryz.f4 (OpenSpec.ofChange Rows.fnExactDrawnSpec).bare Rows.fnExactDrawnRow = true := joined_of _ _ _ _ _ l0 fact1 fact2 l3 l4 l5 fact6 l7 fact8 l9 l10 l11 l12 l13 l14 l15 l16 l17 l18 l19 l20 l21 l22 l23 fact24 mayEnter_yes l26 l27 l28 l29 l30 l31
end Go.Proofs.YtpfmbfkhjapbbaaGreatDoor.fnExactDrawn
