/-
  The closed facts of laws.FnExactNumber's row. Printed by a program (genfacts.py).
-/
import Derived.Test.YtpfmbfkhjapbbaaGreatDoorRowFacts
set_option linter.unusedVariables false
namespace Go.Proofs.YtpfmbfkhjapbbaaGreatDoor.fnExactNumber
open Go Go.ChangeShapes Go.WideShapes Go.ChangeAt Go.RowKit

theorem l0 : (Rows.fnExactNumberRow.wf (OpenSpec.ofChange (OpenSpec.ofChange Rows.fnExactNumberSpec).bare)) = true := by kernel_rfl
theorem l3 : (Tryz.f5.params.all (Tryz.prog.readableRec ·)) = true := by kernel_rfl
theorem l4 : (namedTie Tryz.prog Rows.fnExactNumberRow.named (OpenSpec.ofChange Rows.fnExactNumberSpec).bare.vars) = true := by kernel_rfl
theorem l5 : ((Rows.fnExactNumberRow.stops == [])) = true := by kernel_rfl
theorem l7 : ((Rows.fnExactNumberRow.knobs == [])) = true := by kernel_rfl
theorem l9 : ((Rows.fnExactNumberRow.inPlace == Tryz.prog.inPlace 5)) = true := by kernel_rfl
theorem l10 : ((Rows.fnExactNumberRow.unfollowed == Tryz.prog.unfollowed 5)) = true := by kernel_rfl
theorem l11 : ((Rows.fnExactNumberRow.recurses == Tryz.prog.recurses 5)) = true := by kernel_rfl
theorem l12 : ((Rows.fnExactNumberRow.named == Tryz.prog.varsNamed 5)) = true := by kernel_rfl
theorem l13 : ((Rows.fnExactNumberRow.maps == (Tryz.f5.params.toList ++ (OpenSpec.ofChange Rows.fnExactNumberSpec).bare.plain.varTypes Tryz.prog).any (Tryz.prog.mapsRec ·))) = true := by kernel_rfl
theorem l14 : ((Rows.fnExactNumberRow.ifaces == (Tryz.f5.params.toList ++ (OpenSpec.ofChange Rows.fnExactNumberSpec).bare.plain.varTypes Tryz.prog).any (Tryz.prog.ifacesRec ·))) = true := by kernel_rfl
theorem l15 : ((Rows.fnExactNumberRow.mapsOut == Tryz.prog.mapsAmong Tryz.f5.resultTypes.toList)) = true := by kernel_rfl
theorem l16 : ((Rows.fnExactNumberRow.loops == (Tryz.f5.params.toList ++ (OpenSpec.ofChange Rows.fnExactNumberSpec).bare.plain.varTypes Tryz.prog).any (Tryz.prog.loopsFrom ·))) = true := by kernel_rfl
theorem l17 : ((Rows.fnExactNumberRow.wideKeys == (Tryz.f5.params.toList ++ (OpenSpec.ofChange Rows.fnExactNumberSpec).bare.plain.varTypes Tryz.prog ++ Tryz.f5.resultTypes.toList).any (Tryz.prog.wideKeysFrom ·))) = true := by kernel_rfl
theorem l18 : ((OpenSpec.ofChange Rows.fnExactNumberSpec).bare.vars.all (Tryz.prog.varReadable ·)) = true := by kernel_rfl
theorem l19 : (Tryz.f5.resultTypes.all (fun t => Tryz.prog.readableRec t && decide (t < Tryz.prog.types.size))) = true := by kernel_rfl
theorem l20 : ((Rows.fnExactNumberRow.ifacesOut == Tryz.f5.resultTypes.toList.any (Tryz.prog.ifacesRec ·))) = true := by kernel_rfl
theorem l21 : ((Rows.fnExactNumberRow.loopsOut == Tryz.f5.resultTypes.toList.any (Tryz.prog.loopsFrom ·))) = true := by kernel_rfl
theorem l22 : ((Rows.fnExactNumberRow.plainKeys == Tryz.prog.plainKeys)) = true := by kernel_rfl
theorem l23 : (Rows.fnExactNumberRow.shortTexts.isNone) = true := by kernel_rfl
theorem l26 : ((Rows.fnExactNumberRow.lifted == Tryz.prog.liftsFinal)) = true := by kernel_rfl
theorem l27 : ((Tryz.prog.make == some Rows.fnExactNumberRow.make)) = true := by kernel_rfl
theorem l28 : ((Rows.fnExactNumberRow.kinds == (if Rows.fnExactNumberRow.domain.isEmpty then [] else Tryz.f5.params.toList.map fun t => match Tryz.prog.underlying t with | some (.int k) => some k | _ => none))) = true := by kernel_rfl
theorem l29 : ((Rows.fnExactNumberRow.pinned == Rows.fnExactNumberRow.pinnedBy)) = true := by kernel_rfl
theorem l30 : ((Rows.fnExactNumberRow.veiled == (Tryz.f5.params.toList ++ (OpenSpec.ofChange Rows.fnExactNumberSpec).bare.plain.varTypes Tryz.prog ++ Tryz.f5.resultTypes.toList).any (Tryz.prog.veiledRec ·))) = true := by kernel_rfl
theorem l31 : (Rows.fnExactNumberRow.veiledFits Tryz.prog Tryz.f5.params.toList (Tryz.f5.params.toList ++ (OpenSpec.ofChange Rows.fnExactNumberSpec).bare.plain.varTypes Tryz.prog ++ Tryz.f5.resultTypes.toList)) = true := by kernel_rfl
set_option maxRecDepth 1000000 in
theorem closed : joinedFacts Tryz.prog 5 Tryz.f5 (OpenSpec.ofChange Rows.fnExactNumberSpec).bare Rows.fnExactNumberRow = true := joined_of _ _ _ _ _ l0 fact1 fact2 l3 l4 l5 fact6 l7 fact8 l9 l10 l11 l12 l13 l14 l15 l16 l17 l18 l19 l20 l21 l22 l23 fact24 mayEnter_yes l26 l27 l28 l29 l30 l31
end Go.Proofs.YtpfmbfkhjapbbaaGreatDoor.fnExactNumber
