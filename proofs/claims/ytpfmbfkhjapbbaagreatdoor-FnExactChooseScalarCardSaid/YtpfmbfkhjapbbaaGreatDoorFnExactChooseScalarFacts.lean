/-
  The closed facts of laws.FnExactChooseScalar's row. Printed by a program (gencard.py).
-/
import Derived.Test.YtpfmbfkhjapbbaaGreatDoorRowFacts
set_option linter.unusedVariables false
namespace Go.Proofs.YtpfmbfkhjapbbaaGreatDoor.fnExactChooseScalar
open Go Go.ChangeShapes Go.WideShapes Go.ChangeAt Go.RowKit

theorem l0 : (Rows.fnExactChooseScalarRow.wf (OpenSpec.ofChange (OpenSpec.ofChange Rows.fnExactChooseScalarSpec).bare)) = true := by kernel_rfl
theorem l3 : (Tryz.f9.params.all (Tryz.prog.readableRec ·)) = true := by kernel_rfl
theorem l4 : (namedTie Tryz.prog Rows.fnExactChooseScalarRow.named (OpenSpec.ofChange Rows.fnExactChooseScalarSpec).bare.vars) = true := by kernel_rfl
theorem l5 : ((Rows.fnExactChooseScalarRow.stops == [])) = true := by kernel_rfl
theorem l7 : ((Rows.fnExactChooseScalarRow.knobs == [])) = true := by kernel_rfl
theorem l9 : ((Rows.fnExactChooseScalarRow.inPlace == Tryz.prog.inPlace 9)) = true := by kernel_rfl
theorem l10 : ((Rows.fnExactChooseScalarRow.unfollowed == Tryz.prog.unfollowed 9)) = true := by kernel_rfl
theorem l11 : ((Rows.fnExactChooseScalarRow.recurses == Tryz.prog.recurses 9)) = true := by kernel_rfl
theorem l12 : ((Rows.fnExactChooseScalarRow.named == Tryz.prog.varsNamed 9)) = true := by kernel_rfl
theorem l13 : ((Rows.fnExactChooseScalarRow.maps == (Tryz.f9.params.toList ++ (OpenSpec.ofChange Rows.fnExactChooseScalarSpec).bare.plain.varTypes Tryz.prog).any (Tryz.prog.mapsRec ·))) = true := by kernel_rfl
theorem l14 : ((Rows.fnExactChooseScalarRow.ifaces == (Tryz.f9.params.toList ++ (OpenSpec.ofChange Rows.fnExactChooseScalarSpec).bare.plain.varTypes Tryz.prog).any (Tryz.prog.ifacesRec ·))) = true := by kernel_rfl
theorem l15 : ((Rows.fnExactChooseScalarRow.mapsOut == Tryz.prog.mapsAmong Tryz.f9.resultTypes.toList)) = true := by kernel_rfl
theorem l16 : ((Rows.fnExactChooseScalarRow.loops == (Tryz.f9.params.toList ++ (OpenSpec.ofChange Rows.fnExactChooseScalarSpec).bare.plain.varTypes Tryz.prog).any (Tryz.prog.loopsFrom ·))) = true := by kernel_rfl
theorem l17 : ((Rows.fnExactChooseScalarRow.wideKeys == (Tryz.f9.params.toList ++ (OpenSpec.ofChange Rows.fnExactChooseScalarSpec).bare.plain.varTypes Tryz.prog ++ Tryz.f9.resultTypes.toList).any (Tryz.prog.wideKeysFrom ·))) = true := by kernel_rfl
theorem l18 : ((OpenSpec.ofChange Rows.fnExactChooseScalarSpec).bare.vars.all (Tryz.prog.varReadable ·)) = true := by kernel_rfl
theorem l19 : (Tryz.f9.resultTypes.all (fun t => Tryz.prog.readableRec t && decide (t < Tryz.prog.types.size))) = true := by kernel_rfl
theorem l20 : ((Rows.fnExactChooseScalarRow.ifacesOut == Tryz.f9.resultTypes.toList.any (Tryz.prog.ifacesRec ·))) = true := by kernel_rfl
theorem l21 : ((Rows.fnExactChooseScalarRow.loopsOut == Tryz.f9.resultTypes.toList.any (Tryz.prog.loopsFrom ·))) = true := by kernel_rfl
theorem l22 : ((Rows.fnExactChooseScalarRow.plainKeys == Tryz.prog.plainKeys)) = true := by kernel_rfl
theorem l23 : (Rows.fnExactChooseScalarRow.shortTexts.isNone) = true := by kernel_rfl
theorem l26 : ((Rows.fnExactChooseScalarRow.lifted == Tryz.prog.liftsFinal)) = true := by kernel_rfl
theorem l27 : ((Tryz.prog.make == some Rows.fnExactChooseScalarRow.make)) = true := by kernel_rfl
theorem l28 : ((Rows.fnExactChooseScalarRow.kinds == (if Rows.fnExactChooseScalarRow.domain.isEmpty then [] else Tryz.f9.params.toList.map fun t => match Tryz.prog.underlying t with | some (.int k) => some k | _ => none))) = true := by kernel_rfl
theorem l29 : ((Rows.fnExactChooseScalarRow.pinned == Rows.fnExactChooseScalarRow.pinnedBy)) = true := by kernel_rfl
theorem l30 : ((Rows.fnExactChooseScalarRow.veiled == (Tryz.f9.params.toList ++ (OpenSpec.ofChange Rows.fnExactChooseScalarSpec).bare.plain.varTypes Tryz.prog ++ Tryz.f9.resultTypes.toList).any (Tryz.prog.veiledRec ·))) = true := by kernel_rfl
theorem l31 : (Rows.fnExactChooseScalarRow.veiledFits Tryz.prog Tryz.f9.params.toList (Tryz.f9.params.toList ++ (OpenSpec.ofChange Rows.fnExactChooseScalarSpec).bare.plain.varTypes Tryz.prog ++ Tryz.f9.resultTypes.toList)) = true := by kernel_rfl
set_option maxRecDepth 1000000 in
theorem closed : joinedFacts Tryz.prog 9 Tryz.f9 (OpenSpec.ofChange Rows.fnExactChooseScalarSpec).bare Rows.fnExactChooseScalarRow = true := joined_of _ _ _ _ _ l0 fact1 fact2 l3 l4 l5 fact6 l7 fact8 l9 l10 l11 l12 l13 l14 l15 l16 l17 l18 l19 l20 l21 l22 l23 fact24 mayEnter_yes l26 l27 l28 l29 l30 l31
end Go.Proofs.YtpfmbfkhjapbbaaGreatDoor.fnExactChooseScalar
