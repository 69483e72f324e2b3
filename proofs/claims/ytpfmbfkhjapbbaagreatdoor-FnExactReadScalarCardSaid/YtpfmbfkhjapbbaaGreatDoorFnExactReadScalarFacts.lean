/-
  The closed facts of laws.FnExactReadScalar's row. Printed by a program (gencard.py).
-/
import Derived.Test.YtpfmbfkhjapbbaaGreatDoorRowFacts
set_option linter.unusedVariables false
namespace Go.Proofs.YtpfmbfkhjapbbaaGreatDoor.fnExactReadScalar
open Go Go.ChangeShapes Go.WideShapes Go.ChangeAt Go.RowKit

theorem l0 : (Rows.fnExactReadScalarRow.wf (OpenSpec.ofChange (OpenSpec.ofChange Rows.fnExactReadScalarSpec).bare)) = true := by kernel_rfl
theorem l3 : (Tryz.f8.params.all (Tryz.prog.readableRec ·)) = true := by kernel_rfl
theorem l4 : (namedTie Tryz.prog Rows.fnExactReadScalarRow.named (OpenSpec.ofChange Rows.fnExactReadScalarSpec).bare.vars) = true := by kernel_rfl
theorem l5 : ((Rows.fnExactReadScalarRow.stops == [])) = true := by kernel_rfl
theorem l7 : ((Rows.fnExactReadScalarRow.knobs == [])) = true := by kernel_rfl
theorem l9 : ((Rows.fnExactReadScalarRow.inPlace == Tryz.prog.inPlace 8)) = true := by kernel_rfl
theorem l10 : ((Rows.fnExactReadScalarRow.unfollowed == Tryz.prog.unfollowed 8)) = true := by kernel_rfl
theorem l11 : ((Rows.fnExactReadScalarRow.recurses == Tryz.prog.recurses 8)) = true := by kernel_rfl
theorem l12 : ((Rows.fnExactReadScalarRow.named == Tryz.prog.varsNamed 8)) = true := by kernel_rfl
theorem l13 : ((Rows.fnExactReadScalarRow.maps == (Tryz.f8.params.toList ++ (OpenSpec.ofChange Rows.fnExactReadScalarSpec).bare.plain.varTypes Tryz.prog).any (Tryz.prog.mapsRec ·))) = true := by kernel_rfl
theorem l14 : ((Rows.fnExactReadScalarRow.ifaces == (Tryz.f8.params.toList ++ (OpenSpec.ofChange Rows.fnExactReadScalarSpec).bare.plain.varTypes Tryz.prog).any (Tryz.prog.ifacesRec ·))) = true := by kernel_rfl
theorem l15 : ((Rows.fnExactReadScalarRow.mapsOut == Tryz.prog.mapsAmong Tryz.f8.resultTypes.toList)) = true := by kernel_rfl
theorem l16 : ((Rows.fnExactReadScalarRow.loops == (Tryz.f8.params.toList ++ (OpenSpec.ofChange Rows.fnExactReadScalarSpec).bare.plain.varTypes Tryz.prog).any (Tryz.prog.loopsFrom ·))) = true := by kernel_rfl
theorem l17 : ((Rows.fnExactReadScalarRow.wideKeys == (Tryz.f8.params.toList ++ (OpenSpec.ofChange Rows.fnExactReadScalarSpec).bare.plain.varTypes Tryz.prog ++ Tryz.f8.resultTypes.toList).any (Tryz.prog.wideKeysFrom ·))) = true := by kernel_rfl
theorem l18 : ((OpenSpec.ofChange Rows.fnExactReadScalarSpec).bare.vars.all (Tryz.prog.varReadable ·)) = true := by kernel_rfl
theorem l19 : (Tryz.f8.resultTypes.all (fun t => Tryz.prog.readableRec t && decide (t < Tryz.prog.types.size))) = true := by kernel_rfl
theorem l20 : ((Rows.fnExactReadScalarRow.ifacesOut == Tryz.f8.resultTypes.toList.any (Tryz.prog.ifacesRec ·))) = true := by kernel_rfl
theorem l21 : ((Rows.fnExactReadScalarRow.loopsOut == Tryz.f8.resultTypes.toList.any (Tryz.prog.loopsFrom ·))) = true := by kernel_rfl
theorem l22 : ((Rows.fnExactReadScalarRow.plainKeys == Tryz.prog.plainKeys)) = true := by kernel_rfl
theorem l23 : (Rows.fnExactReadScalarRow.shortTexts.isNone) = true := by kernel_rfl
theorem l26 : ((Rows.fnExactReadScalarRow.lifted == Tryz.prog.liftsFinal)) = true := by kernel_rfl
theorem l27 : ((Tryz.prog.make == some Rows.fnExactReadScalarRow.make)) = true := by kernel_rfl
theorem l28 : ((Rows.fnExactReadScalarRow.kinds == (if Rows.fnExactReadScalarRow.domain.isEmpty then [] else Tryz.f8.params.toList.map fun t => match Tryz.prog.underlying t with | some (.int k) => some k | _ => none))) = true := by kernel_rfl
theorem l29 : ((Rows.fnExactReadScalarRow.pinned == Rows.fnExactReadScalarRow.pinnedBy)) = true := by kernel_rfl
theorem l30 : ((Rows.fnExactReadScalarRow.veiled == (Tryz.f8.params.toList ++ (OpenSpec.ofChange Rows.fnExactReadScalarSpec).bare.plain.varTypes Tryz.prog ++ Tryz.f8.resultTypes.toList).any (Tryz.prog.veiledRec ·))) = true := by kernel_rfl
theorem l31 : (Rows.fnExactReadScalarRow.veiledFits Tryz.prog Tryz.f8.params.toList (Tryz.f8.params.toList ++ (OpenSpec.ofChange Rows.fnExactReadScalarSpec).bare.plain.varTypes Tryz.prog ++ Tryz.f8.resultTypes.toList)) = true := by kernel_rfl
set_option maxRecDepth 1000000 in
theorem closed : joinedFacts Tryz.prog 8 Tryz.f8 (OpenSpec.ofChange Rows.fnExactReadScalarSpec).bare Rows.fnExactReadScalarRow = true := joined_of _ _ _ _ _ l0 fact1 fact2 l3 l4 l5 fact6 l7 fact8 l9 l10 l11 l12 l13 l14 l15 l16 l17 l18 l19 l20 l21 l22 l23 fact24 mayEnter_yes l26 l27 l28 l29 l30 l31
end Go.Proofs.YtpfmbfkhjapbbaaGreatDoor.fnExactReadScalar
