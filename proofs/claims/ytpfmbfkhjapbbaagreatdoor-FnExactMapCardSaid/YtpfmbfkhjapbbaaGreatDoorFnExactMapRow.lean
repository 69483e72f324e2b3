/-
  laws.FnExactMap: the row. The walk: MapWalk.
-/
import Derived.Test.YtpfmbfkhjapbbaaGreatDoorCards
import Derived.Test.YtpfmbfkhjapbbaaGreatDoorFnExactMapFacts
import Derived.Test.YtpfmbfkhjapbbaaGreatDoorMg12
import Derived.Test.YtpfmbfkhjapbbaaGreatDoorMg23
import Derived.Test.YtpfmbfkhjapbbaaGreatDoorMg24
set_option linter.unusedVariables false
namespace Go.Proofs.YtpfmbfkhjapbbaaGreatDoor.fnExactMap
open Go Go.ChangeShapes Go.WideShapes Go.ChangeAt Go.RowKit
set_option maxRecDepth 100000 in
theorem contract (H:Type) (enc:TypeId × Value→H) (W:World) (base:Nat) (args:Array Value) (ds gs:List (DataW H)) (before:List MemPlace)
    (hval:∀ (j:Nat) t v,Tryz.f6.params[j]? = some t→args[j]? = some v→Value.okWide Tryz.prog W .any base t v)
    (hW:DataW.Whole enc Tryz.prog Tryz.f6.params.toList Rows.fnExactMapSpec.vars false W args.toList ds gs before) (hL:laidMet Tryz.prog mapLaid W) :
    Calls Tryz.prog 6 args W fun e W'=>∃ v,e=.returned v∧Rows.fnExactMapSpec.post enc Tryz.prog Tryz.f6 false true false false W args v W':=by
  have hW':=hW
  obtain ⟨p,q,hA0,hV0,rfl,hfz,hnd⟩:=hW
  have hA:DataW.TrodAll enc Tryz.prog W 0 (fun _=>true) true Tryz.f6.params.toList args.toList ds p:=hA0
  obtain ⟨_,_,_,_,_,_,rfl⟩:=trodVars_six hV0
  rw [Tryz.params6] at hA hval
  obtain ⟨v0,vs0,d0,ds0,p0,q0,e0,rfl,rfl,h0,r0⟩:=trodAll_cons hA
  obtain ⟨v1,vs1,d1,ds1,p1,q1,e1,rfl,rfl,h1,r1⟩:=trodAll_cons r0
  obtain ⟨e2,rfl,rfl⟩:=trodAll_nil r1
  obtain rfl:args=#[v0,v1]:=by cases args;simp_all
  obtain ⟨k0,rfl,rfl,rfl,w0⟩:=open_int Tryz.underlying3 (hval 0 3 v0 rfl rfl) h0
  obtain ⟨a1,n1,c1,f1,rfl,h1b,h1f⟩:=open_bytes (hval 1 22 v1 rfl rfl) h1
  obtain ⟨ea,hE⟩:=eof_of_map hL
  refine (law6_walk k0 a1 n1 c1 f1 W ea hE (thr_of_laid hL) h1b h1f (slice_len (hval 1 22 (.slice a1 n1 c1) rfl rfl) h1b)).mono fun e W' ⟨he,hm⟩ => ?_
  subst he
  exact ⟨_,rfl,post_stays Tryz.laidOut hm.below (by rw [Tryz.params6];decide +kernel) (by kernel_rfl) hW' rfl rfl
    (fun _ _ _=>trodAll_mk1 (shut_bool Tryz.underlying4 _)) (ok_one (by kernel_rfl) rfl (okWide_bool_mk Tryz.underlying4 _))⟩
theorem reads (os:Os) {H:Type} (enc:TypeId × Value→H):∃ vs places,DataW.whole enc Tryz.prog ((mapWorld os).forCall (fun _ _=>0) ⟨#[],#[Value.int .i64 3,.slice none 0 0],[]⟩).memory Tryz.f6.params.toList Rows.fnExactMapSpec.vars false #[Value.int .i64 3,.slice none 0 0].toList 8=some ([.lit (.int .i64 3),.nil],vs,places) :=
  ⟨[tok enc (.iface 254 (.pointer (some ⟨low+1,0,none⟩))),tok enc (.iface 254 (.pointer (some ⟨low+2,0,none⟩))),.lit (.int .i64 40),.lit (.int .i64 40),.lit (.int .i64 12),.lit (.int .i64 80)],[.cell 1 0,.cell 2 0,.cell 6 0,.cell 5 0,.cell 3 0,.cell 4 0],by kernel_rfl⟩
set_option maxRecDepth 100000 in
theorem lifted (os:Os) (started:os.Started) (H:Type) (enc:TypeId × Value→H) (F:Stop.Interp) :
    ReturnsInHanded {} Tryz.checked os 6 .any ((OpenSpec.ofChange Rows.fnExactMapSpec).preRow enc Tryz.prog Tryz.f6 Rows.fnExactMapRow.domain false Rows.fnExactMapRow.laid) (((OpenSpec.ofChange Rows.fnExactMapSpec).at F).post enc Tryz.prog Tryz.f6 false true false false):=by
  obtain ⟨vs,places,hx⟩:=reads os enc
  refine returnsInHanded_of_row (C:=Tryz.checked) (s:=OpenSpec.ofChange Rows.fnExactMapSpec) Tryz.own started (by kernel_rfl) Tryz.func6
    (witness_row_atRef (enc:=enc) (C:=Tryz.checked) false (mapWorld os) #[Value.int .i64 3,.slice none 0 0] rfl (by kernel_rfl) (by kernel_rfl) (by kernel_rfl)
      (OpenSpec.preRow_of_cond 8 hx (by kernel_rfl) (fun k hk=>by cases hk) (by kernel_rfl) (mapWorld_met os _))) ?_
  intro W base args ds gs before hval hW _ _ _ hL _ _
  exact contract H enc W base args ds gs before hval hW hL
theorem said:Rows.FnExactMapSaid :=
  OpenClaim.holds_of_cond 6 Tryz.f6 rfl rfl rfl rfl rfl rfl rfl ⟨rfl,rfl,rfl,rfl,rfl⟩ rfl rfl rfl rfl rfl (by kernel_rfl) Tryz.func6 closed
    (of_decide_eq_true (by kernel_rfl)) (by unfold Func.isWrapper;first | (rw [if_pos (by decide +kernel)];kernel_rfl) | (rw [if_neg (by decide +kernel)];exact ⟨rfl,rfl⟩))
    (fun os started H enc _ F=>by rw [OpenClaim.pre_eq_preRow];exact lifted os started H enc F)
theorem plain (f:FuncId) (fn:Func) (hf:Tryz.pinned.checked.prog.funcNamed "loop.example/pub-pointsofhashes/laws.FnExactMap" = some f) (hfn:Tryz.pinned.checked.prog.funcs[f]? = some fn) :
    true=Tryz.pinned.checked.prog.looks []∧∀ (j:Nat) t,fn.params[j]? = some t→Tryz.pinned.checked.prog.wantsStandIn t=false:=by
  obtain rfl:f=6:=Option.some.inj ((show Tryz.prog.funcNamed "loop.example/pub-pointsofhashes/laws.FnExactMap" = some 6 by kernel_rfl).symm.trans hf) |>.symm
  obtain rfl:fn=Tryz.f6:=(Option.some.inj (Tryz.func6.symm.trans hfn)).symm
  refine ⟨by kernel_rfl,fun j t ht => ?_⟩
  rw [Tryz.params6] at ht
  have hm:=Array.mem_of_getElem? ht
  have hc:t=3∨t=22:=by simp at hm;grind
  rcases hc with rfl | rfl
  · exact (show Tryz.prog.wantsStandIn 3=false by kernel_rfl)
  · exact (show Tryz.prog.wantsStandIn 22=false by kernel_rfl)
end Go.Proofs.YtpfmbfkhjapbbaaGreatDoor.fnExactMap
