/-
  Closed facts on the program that every row of this seat asks: each in a theorem of its own, so that the kernel's memory does not pile up. Printed by a program (genfacts.py).
-/
import Derived.Test.YtpfmbfkhjapbbaaGreatDoorMg02
set_option linter.unusedVariables false
set_option linter.unusedSimpArgs false
namespace Go.Proofs.YtpfmbfkhjapbbaaGreatDoor
open Go Go.ChangeShapes Go.WideShapes Go.ChangeAt Go.RowKit
def startWords:List (List Char):=["cut".toList, "at".toList, "loop.example/pub-pointsofhashes/laws.FnExactReduced".toList, "loop.example/pub-pointsofhashes/laws.FnExactDrawn".toList, "loop.example/pub-pointsofhashes/laws.FnExactNumber".toList, "loop.example/pub-pointsofhashes/laws.FnExactMap".toList, "loop.example/pub-pointsofhashes/laws.FnScalarBack".toList, "loop.example/pub-pointsofhashes/laws.FnExactReadScalar".toList, "loop.example/pub-pointsofhashes/laws.FnExactChooseScalar".toList, "loop.example/pub-pointsofhashes/laws.FnExactScalar".toList]
theorem startWords_eq:behindMainWord (wordsSigns Tryz.prog.initOrder.toList)=startWords:=by kernel_rfl
theorem laysLater_no:Tryz.prog.laysLater=false:=by kernel_rfl
theorem bearsReflect_no:Tryz.prog.bearsReflect=false:=by kernel_rfl
theorem strip_no:stripLifts liftWords startWords=([],startWords):=by kernel_rfl
theorem doorFits_yes:Tryz.prog.doorFits []=true:=by kernel_rfl
theorem cut_head:(startWords.head? == some "cut".toList)=true:=by kernel_rfl
theorem mayEnter_of (P:Program) (ws:List (List Char)) (w:List Char) (r:List (List Char)) (hws:ws=w :: r) (h0:behindMainWord (wordsSigns P.initOrder.toList)=ws) (h1:P.laysLater=false) (h2:P.bearsReflect=false)
    (h3:stripLifts liftWords ws=([],ws)) (h4:P.doorFits []=true) (h5:(ws.head? == some "cut".toList)=true):P.mayEnter=true:=by
  unfold Program.mayEnter
  rw [h0,hws]
  rw [hws] at h3 h5
  simp only [h3,h1,h2,h4,h5]
  simp
theorem mayEnter_yes:Tryz.prog.mayEnter=true:=mayEnter_of _ _ _ _ rfl startWords_eq laysLater_no bearsReflect_no strip_no doorFits_yes cut_head
theorem fact1:laidOutB Tryz.prog=true:=by kernel_rfl
theorem fact2:mapsRowed Tryz.prog=true:=by kernel_rfl
theorem fact6:(Tryz.prog.stops == [])=true:=by kernel_rfl
theorem fact8:(Tryz.prog.stopKnobs == [])=true:=by kernel_rfl
theorem fact24:Tryz.prog.stopsHeard=true:=by kernel_rfl
theorem joined_of (P:Program) (f:FuncId) (fn:Func) (s:ChangeSpec) (c:OpenClaim) (l0:(c.wf (OpenSpec.ofChange s))=true) (l1:(laidOutB P)=true) (l2:(mapsRowed P)=true) (l3:(fn.params.all (P.readableRec ·))=true) (l4:(namedTie P c.named s.vars)=true) (l5:((c.stops == []))=true) (l6:((P.stops == []))=true) (l7:((c.knobs == []))=true) (l8:((P.stopKnobs == []))=true) (l9:((c.inPlace == P.inPlace f))=true) (l10:((c.unfollowed == P.unfollowed f))=true) (l11:((c.recurses == P.recurses f))=true) (l12:((c.named == P.varsNamed f))=true) (l13:((c.maps == (fn.params.toList ++ s.plain.varTypes P).any (P.mapsRec ·)))=true) (l14:((c.ifaces == (fn.params.toList ++ s.plain.varTypes P).any (P.ifacesRec ·)))=true) (l15:((c.mapsOut == P.mapsAmong fn.resultTypes.toList))=true) (l16:((c.loops == (fn.params.toList ++ s.plain.varTypes P).any (P.loopsFrom ·)))=true) (l17:((c.wideKeys == (fn.params.toList ++ s.plain.varTypes P ++ fn.resultTypes.toList).any (P.wideKeysFrom ·)))=true) (l18:(s.vars.all (P.varReadable ·))=true) (l19:(fn.resultTypes.all (fun t=>P.readableRec t && decide (t<P.types.size)))=true) (l20:((c.ifacesOut == fn.resultTypes.toList.any (P.ifacesRec ·)))=true) (l21:((c.loopsOut == fn.resultTypes.toList.any (P.loopsFrom ·)))=true) (l22:((c.plainKeys == P.plainKeys))=true) (l23:(c.shortTexts.isNone)=true) (l24:(P.stopsHeard)=true) (l25:(P.mayEnter)=true) (l26:((c.lifted == P.liftsFinal))=true) (l27:((P.make == some c.make))=true) (l28:((c.kinds == (if c.domain.isEmpty then [] else fn.params.toList.map fun t=>match P.underlying t with | some (.int k)=>some k | _=>none)))=true) (l29:((c.pinned == c.pinnedBy))=true) (l30:((c.veiled == (fn.params.toList ++ s.plain.varTypes P ++ fn.resultTypes.toList).any (P.veiledRec ·)))=true) (l31:(c.veiledFits P fn.params.toList (fn.params.toList ++ s.plain.varTypes P ++ fn.resultTypes.toList))=true):joinedFacts P f fn s c=true:=by
  unfold joinedFacts
  simp only [l0,l1,l2,l3,l4,l5,l6,l7,l8,l9,l10,l11,l12,l13,l14,l15,l16,l17,l18,l19,l20,l21,l22,l23,l24,l25,l26,l27,l29,l30,l31,Bool.and_self,Bool.true_and,Bool.and_true]
  exact l28
end Go.Proofs.YtpfmbfkhjapbbaaGreatDoor
