/-
  The closed facts of laws.FnExactMap's row. Printed by a program (gencard.py).
-/
import Derived.Test.YtpfmbfkhjapbbaaGreatDoorMRowFacts
set_option linter.unusedVariables false
namespace Go.Proofs.YtpfmbfkhjapbbaaGreatDoor.fnExactMap
open Go Go.ChangeShapes Go.WideShapes Go.ChangeAt Go.RowKit
theorem l0:(Rows.fnExactMapRow.wf (OpenSpec.ofChange (OpenSpec.ofChange Rows.fnExactMapSpec).bare))=true:=by kernel_rfl
theorem l3:(Tryz.f6.params.all (Tryz.prog.readableRec ·))=true:=by kernel_rfl
theorem l4:(namedTie Tryz.prog Rows.fnExactMapRow.named (OpenSpec.ofChange Rows.fnExactMapSpec).bare.vars)=true:=by kernel_rfl
theorem l5:((Rows.fnExactMapRow.stops == []))=true:=by kernel_rfl
theorem l7:((Rows.fnExactMapRow.knobs == []))=true:=by kernel_rfl
theorem l9:((Rows.fnExactMapRow.inPlace == Tryz.prog.inPlace 6))=true:=by kernel_rfl
theorem l10:((Rows.fnExactMapRow.unfollowed == Tryz.prog.unfollowed 6))=true:=by kernel_rfl
theorem l11:((Rows.fnExactMapRow.recurses == Tryz.prog.recurses 6))=true:=by kernel_rfl
theorem l12:((Rows.fnExactMapRow.named == Tryz.prog.varsNamed 6))=true:=by kernel_rfl
theorem l13:((Rows.fnExactMapRow.maps == (Tryz.f6.params.toList ++ (OpenSpec.ofChange Rows.fnExactMapSpec).bare.plain.varTypes Tryz.prog).any (Tryz.prog.mapsRec ·)))=true:=by kernel_rfl
theorem l14:((Rows.fnExactMapRow.ifaces == (Tryz.f6.params.toList ++ (OpenSpec.ofChange Rows.fnExactMapSpec).bare.plain.varTypes Tryz.prog).any (Tryz.prog.ifacesRec ·)))=true:=by kernel_rfl
theorem l15:((Rows.fnExactMapRow.mapsOut == Tryz.prog.mapsAmong Tryz.f6.resultTypes.toList))=true:=by kernel_rfl
theorem l16:((Rows.fnExactMapRow.loops == (Tryz.f6.params.toList ++ (OpenSpec.ofChange Rows.fnExactMapSpec).bare.plain.varTypes Tryz.prog).any (Tryz.prog.loopsFrom ·)))=true:=by kernel_rfl
theorem l17:((Rows.fnExactMapRow.wideKeys == (Tryz.f6.params.toList ++ (OpenSpec.ofChange Rows.fnExactMapSpec).bare.plain.varTypes Tryz.prog ++ Tryz.f6.resultTypes.toList).any (Tryz.prog.wideKeysFrom ·)))=true:=by kernel_rfl
theorem l18:((OpenSpec.ofChange Rows.fnExactMapSpec).bare.vars.all (Tryz.prog.varReadable ·))=true:=by kernel_rfl
theorem l19:(Tryz.f6.resultTypes.all (fun t=>Tryz.prog.readableRec t && decide (t<Tryz.prog.types.size)))=true:=by kernel_rfl
theorem l20:((Rows.fnExactMapRow.ifacesOut == Tryz.f6.resultTypes.toList.any (Tryz.prog.ifacesRec ·)))=true:=by kernel_rfl
theorem l21:((Rows.fnExactMapRow.loopsOut == Tryz.f6.resultTypes.toList.any (Tryz.prog.loopsFrom ·)))=true:=by kernel_rfl
theorem l22:((Rows.fnExactMapRow.plainKeys == Tryz.prog.plainKeys))=true:=by kernel_rfl
theorem l23:(Rows.fnExactMapRow.shortTexts.isNone)=true:=by kernel_rfl
theorem l26:((Rows.fnExactMapRow.lifted == Tryz.prog.liftsFinal))=true:=by kernel_rfl
theorem l27:((Tryz.prog.make == some Rows.fnExactMapRow.make))=true:=by kernel_rfl
theorem l28:((Rows.fnExactMapRow.kinds == (if Rows.fnExactMapRow.domain.isEmpty then [] else Tryz.f6.params.toList.map fun t=>match Tryz.prog.underlying t with | some (.int k)=>some k | _=>none)))=true:=by kernel_rfl
theorem l29:((Rows.fnExactMapRow.pinned == Rows.fnExactMapRow.pinnedBy))=true:=by kernel_rfl
theorem l30:((Rows.fnExactMapRow.veiled == (Tryz.f6.params.toList ++ (OpenSpec.ofChange Rows.fnExactMapSpec).bare.plain.varTypes Tryz.prog ++ Tryz.f6.resultTypes.toList).any (Tryz.prog.veiledRec ·)))=true:=by kernel_rfl
theorem l31:(Rows.fnExactMapRow.veiledFits Tryz.prog Tryz.f6.params.toList (Tryz.f6.params.toList ++ (OpenSpec.ofChange Rows.fnExactMapSpec).bare.plain.varTypes Tryz.prog ++ Tryz.f6.resultTypes.toList))=true:=by kernel_rfl
set_option maxRecDepth 1000000 in
theorem closed:joinedFacts Tryz.prog 6 Tryz.f6 (OpenSpec.ofChange Rows.fnExactMapSpec).bare Rows.fnExactMapRow=true:=joined_of _ _ _ _ _ l0 fact1 fact2 l3 l4 l5 fact6 l7 fact8 l9 l10 l11 l12 l13 l14 l15 l16 l17 l18 l19 l20 l21 l22 l23 fact24 mayEnter_yes l26 l27 l28 l29 l30 l31
end Go.Proofs.YtpfmbfkhjapbbaaGreatDoor.fnExactMap
