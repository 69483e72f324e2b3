/-
  The specification's map of a number below the prime to a point. Condition: the curve's prime is a prime that leaves 3 if it is divided by 4. Lines alike from operation to operation: printed by a program (gen_map.py).
-/
import Derived.Test.YtpfmbfkhjapbbaaGreatDoorMg01
import Derived.Test.YtpfmbfkhjapbbaaGreatDoorMSpecRo
import Derived.Deep.DeepCutAuto
set_option linter.unusedVariables false
set_option linter.unusedSimpArgs false
namespace Go.Proofs.YtpfmbfkhjapbbaaGreatDoor
open Go Go.RowKit
@[reducible] def zV:Value:=.agg #[.int .u64 0,.int .u64 0,.int .u64 0,.int .u64 0,.int .u64 0,.int .u64 0,.int .u64 0,.int .u64 0,.int .u64 0]
theorem zV_eq:nv (words 0)=zV:=by kernel_rfl
@[reducible] def spl (X Y:Nat→Nat):List Value:=[.bool false,U (X 0),U (X 1),U (X 2),U (X 3),U (X 4),U (X 5),U (X 6),U (X 7),U (X 8),U (Y 0),U (Y 1),U (Y 2),U (Y 3),U (Y 4),U (Y 5),U (Y 6),U (Y 7),U (Y 8)]
def spotV (x y:Nat):Value:=.agg (spl (words x) (words y)).toArray
@[reducible] def zl83:List Value:=[.bool false,.int .u64 0,.int .u64 0,.int .u64 0,.int .u64 0,.int .u64 0,.int .u64 0,.int .u64 0,.int .u64 0,.int .u64 0,.int .u64 0,.int .u64 0,.int .u64 0,.int .u64 0,.int .u64 0,.int .u64 0,.int .u64 0,.int .u64 0,.int .u64 0]
theorem size83:(Tryz.prog.info? 83).map (·.size)=some 19:=by kernel_rfl
def ZAt (w:World) (b:Nat):Prop:=w.heap[b]? = some (.cells zl83.toArray 83 (0,0))
theorem ZAt.mod {w w':World} {b:Nat} {M:Places} (h:ZAt w b) (m:Mod M w w') (hb:∀ o,¬ M b o):ZAt w' b:=by
  unfold ZAt at *
  rw [m.heap (lt_of_heap h) hb,h]
theorem nine_new {w0 w':World} {b:Nat} (g:Nat→Nat) (hb:w0.heap.size≤b) (h:Mod NoP w0 w'):Mod NoP w0 (w'.setCells b 0 (nc g).toList):=by
  have e:w'.setCells b 0 (nc g).toList=setNine w' b g:=rfl
  rw [e]
  exact h.fresh (setNine_own w' b g) hb
theorem invN_lt' {p a:Nat} (hp:0<p):invN p a<p:=by
  unfold invN
  split
  · rename_i h
    exact (Classical.choose_spec h).1
  · exact hp
theorem size83n (f g:Nat→Nat):(Tryz.prog.info? 83).map (·.size)=some (spl f g).toArray.size:=size83
theorem spl_one (f g:Nat→Nat):(spl f g).toArray.all (·.oneCell')=true:=by kernel_rfl
theorem ZAt.there {w:World} {b:Nat} (h:ZAt w b) (f g:Nat→Nat):w.there b 0 (spl f g).toArray.size:=fun j hj=>by
  have hj:j<19:=hj
  refine ⟨?_,free_of_heap h _⟩
  rw [cell?_of_heap h,Nat.zero_add,Array.getElem?_eq_getElem (show j<zl83.toArray.size from hj)]
  rfl
theorem spot_stored {w:World} {b:Nat} (f g:Nat→Nat) (h:ZAt w b):(w.setCells b 0 (spl f g).toArray.toList).rangeAt b 0 (spl f g)∧Mod (InB b) w (w.setCells b 0 (spl f g).toArray.toList):=by
  have ht:=h.there f g
  constructor
  · intro j v hv
    have hj:j<(spl f g).length:=(List.getElem?_eq_some_iff.1 hv).1
    have:=World.cell?_setCells_in b (spl f g) 0 w (fun i hi=>(ht i hi).1) j hj
    have e:=(List.getElem?_eq_some_iff.1 hv).2
    rw [e] at this
    exact this
  · have:∀ (vs:List Value) (o:Nat) (w:World),Mod (InB b) w (w.setCells b o vs):=by
      intro vs
      induction vs with
      | nil=>intro o w;exact .refl _ _
      | cons v vs ih=>intro o w;exact (mod_own w b o v).trans' (ih (o+1) _) fun _ _ _ h=>h
    exact this _ _ _
theorem result41 (tmps:Array Value) (w:World) (b:Nat) (hs:tmps.getD 4 undef=.pointer (some ⟨b,0,none⟩)) (cs:List Value) (hr:w.rangeAt b 0 cs) (hl:cs.length=19:=by rfl):(results Tryz.f41 tmps).run Tryz.prog w=.ok (.agg cs.toArray) w:=by
  simp only [results,Tryz.results41]
  simp only [Array.getD_eq_getD_getElem?] at hs
  simp [Sem.run_bind,hs,asAddr,run_loadVar_mid w b 0 83 cs _ hr Tryz.underlying83 rfl (by rw [hl];exact size83)]
structure MpA (w:World) (k b0 b1 b2 b6 b8 u zu x:Nat) (wx:World):Prop where
  c:CvAt wx b0 k
  u:NIs wx b1 (words u)
  z:ZAt wx b2
  v6:NIs wx b6 (words zu)
  v8:NIs wx b8 (words x)
  mod:Mod NoP w wx
structure MpB (w:World) (k b0 b1 b2 b8 b9 u x y:Nat) (wx:World):Prop where
  c:CvAt wx b0 k
  u:NIs wx b1 (words u)
  z:ZAt wx b2
  v8:NIs wx b8 (words x)
  v9:NIs wx b9 (words y)
  mod:Mod NoP w wx
set_option maxRecDepth 100000 in
set_option maxHeartbeats 16000000 in
theorem map_any (k:Nat) (hk:k≤2) (u:Nat) (hu:u<pK k) (hpr:Pr (pK k)) (hodd:pK k%2=1) (h3:3<pK k) (hmz:mzK k<pK k) (hn0:ms (pK k) 0 (mm (pK k) (ms (pK k) 0 (mzK k)) 3)≠0) (w:World) :
    Calls Tryz.prog 41 #[.agg (cvK k).toArray,nv (words u)] w (VRet (spotV (specX (pK k) (bK k) (mzK k) u (invN (pK k) 3) (invN (pK k) (mT (pK k) (mzK k) u)) (invN (pK k) (ms (pK k) 0 (mm (pK k) (ms (pK k) 0 (mzK k)) 3)))) (specY (pK k) (bK k) (mzK k) u (invN (pK k) 3) (invN (pK k) (mT (pK k) (mzK k) u)) (invN (pK k) (ms (pK k) 0 (mm (pK k) (ms (pK k) 0 (mzK k)) 3))))) w):=by
  have F:=pK_fits k hk
  have hp0:0<pK k:=by have:=F.one;omega
  have hb:=bK_lt k hk
  have HCV:Hid (∀ (w:World) (b:Nat),w.heap[b]? = some (.cells (cvK k).toArray 65 (0,0))→CvAt w b k):=Lib.hid fun w b h=>h
  have HCA:Hid (∀ (w:World) (b:Nat),CvAt w b k→w.rangeAt b 0 (cvK k)):=Lib.hid fun w b h=>h.all
  have HRT:Hid (∀ (x:Nat),x<pK k→∀ w,Calls Tryz.prog 60 #[.agg (cvK k).toArray,nv (words x)] w (VRet (nv (words (mRight (pK k) (bK k) x))) w)):=Lib.hid fun x hx w=>right_any k hk x hx w
  have HRO:Hid (∀ (x:Nat),x<pK k→∀ w,Calls Tryz.prog 59 #[.agg (cvK k).toArray,nv (words x)] w (VRet (.tuple #[nv (words (mRoot (pK k) x)),.bool (decide (mm (pK k) (mRoot (pK k) x) (mRoot (pK k) x)=x))]) w)):=Lib.hid fun x hx w=>root_any k hk x hx w
  obtain ⟨p,hpe⟩:∃ p,p=pK k:=⟨_,rfl⟩
  obtain ⟨B,hBe⟩:∃ B,B=bK k:=⟨_,rfl⟩
  obtain ⟨mz,hme⟩:∃ mz,mz=mzK k:=⟨_,rfl⟩
  have HPR:Hid (∀ (w:World) (b:Nat),CvAt w b k→w.rangeAt b 0 (ncl (words p))∧w.rangeAt b 9 (ncl (words B))∧w.cell? ⟨b,46,none⟩=some (U mz)):=Lib.hid fun w b h=>by subst hpe hBe hme;exact ⟨h.p,h.b,h.mz⟩
  rw [← hpe] at F hu hpr hodd h3 hmz hn0 hb hp0 HRT HRO
  rw [← hBe] at hb HRT
  rw [← hme] at hmz hn0
  rw [← hpe,← hBe,← hme]
  have hmzb:mz<B64:=by
    rw [hme]
    obtain rfl | rfl | rfl:k=0∨k=1∨k=2:=by omega
    all_goals decide
  clear hk hpe hBe hme
  obtain ⟨z,hz⟩:∃ z,z=ms p 0 mz:=⟨_,rfl⟩
  obtain ⟨uu,huu⟩:∃ a,a=mm p u u:=⟨_,rfl⟩
  obtain ⟨zu,hzu⟩:∃ a,a=mm p z uu:=⟨_,rfl⟩
  obtain ⟨zz,hzz⟩:∃ a,a=mm p zu zu:=⟨_,rfl⟩
  obtain ⟨t,ht⟩:∃ a,a=ma p zz zu:=⟨_,rfl⟩
  obtain ⟨i3,hi3⟩:∃ a,a=invN p 3:=⟨_,rfl⟩
  obtain ⟨xb,hxb⟩:∃ a,a=mm p B i3:=⟨_,rfl⟩
  obtain ⟨z3,hz3⟩:∃ a,a=mm p z 3:=⟨_,rfl⟩
  obtain ⟨n3,hn3⟩:∃ a,a=ms p 0 z3:=⟨_,rfl⟩
  obtain ⟨i0,hi0⟩:∃ a,a=invN p n3:=⟨_,rfl⟩
  obtain ⟨xa,hxa⟩:∃ a,a=mm p B i0:=⟨_,rfl⟩
  obtain ⟨it,hit⟩:∃ a,a=invN p t:=⟨_,rfl⟩
  obtain ⟨o1,ho1⟩:∃ a,a=ma p 1 it:=⟨_,rfl⟩
  obtain ⟨xc,hxc⟩:∃ a,a=mm p xb o1:=⟨_,rfl⟩
  have eZu:mZu p mz u=zu:=by rw [hzu,hz,huu];rfl
  have eT:mT p mz u=t:=by unfold mT;rw [eZu,ht,hzz]
  have eX:mX1 p B mz u i3 it i0=if t=0 then xa else xc:=by unfold mX1;rw [eT,hxa,hxc,hxb,ho1]
  have en:ms p 0 (mm p (ms p 0 mz) 3)=n3:=by rw [hn3,hz3,hz]
  rw [en] at hn0
  rw [en,eT,← hi3,← hit,← hi0]
  obtain ⟨X1,hX1⟩:∃ a,a=mX1 p B mz u i3 it i0:=⟨_,rfl⟩
  obtain ⟨g1,hg1⟩:∃ a,a=mRight p B X1:=⟨_,rfl⟩
  obtain ⟨y1,hy1⟩:∃ a,a=mRoot p g1:=⟨_,rfl⟩
  obtain ⟨ok,hok⟩:∃ a,a=decide (mm p y1 y1=g1):=⟨_,rfl⟩
  obtain ⟨X2,hX2⟩:∃ a,a=mm p zu X1:=⟨_,rfl⟩
  obtain ⟨g2,hg2⟩:∃ a,a=mRight p B X2:=⟨_,rfl⟩
  obtain ⟨y2,hy2⟩:∃ a,a=mRoot p g2:=⟨_,rfl⟩
  have EX:Hid (specX p B mz u i3 it i0=if ok then X1 else X2):=Lib.hid (by
    unfold specX
    simp only []
    rw [eZu,← hX1,← hg1,← hy1,← hX2,hok]
    by_cases h:mm p y1 y1=g1
    · rw [if_pos h,decide_eq_true h,if_pos rfl]
    · rw [if_neg h,decide_eq_false h,if_neg (by decide)])
  have EY:Hid (specY p B mz u i3 it i0=mSign p u (if ok then y1 else y2)):=Lib.hid (by
    unfold specY
    simp only []
    rw [eZu,← hX1,← hg1,← hy1,← hX2,← hg2,← hy2,hok]
    by_cases h:mm p y1 y1=g1
    · rw [if_pos h,decide_eq_true h,if_pos rfl]
    · rw [if_neg h,decide_eq_false h,if_neg (by decide)])
  have EX1:Hid (X1=if t=0 then xa else xc):=Lib.hid (hX1.trans eX)
  have l0:z<p:=by rw [hz];exact ms_lt' hp0
  have l1:uu<p:=by rw [huu];exact mm_lt' hp0
  have l2:zu<p:=by rw [hzu];exact mm_lt' hp0
  have l3:zz<p:=by rw [hzz];exact mm_lt' hp0
  have l4:t<p:=by rw [ht];exact ma_lt' hp0
  have l6:xb<p:=by rw [hxb];exact mm_lt' hp0
  have l7:z3<p:=by rw [hz3];exact mm_lt' hp0
  have l8:n3<p:=by rw [hn3];exact ms_lt' hp0
  have l9:xa<p:=by rw [hxa];exact mm_lt' hp0
  have la:o1<p:=by rw [ho1];exact ma_lt' hp0
  have lb:xc<p:=by rw [hxc];exact mm_lt' hp0
  have lX:X1<p:=by
    rw [EX1.out]
    split
    · exact l9
    · exact lb
  have lX2:X2<p:=by rw [hX2];exact mm_lt' hp0
  have lg:g1<p:=by rw [hg1];exact mRight_lt hp0
  have lg2:g2<p:=by rw [hg2];exact mRight_lt hp0
  have ly1:y1<p:=by rw [hy1];exact mRoot_lt hp0
  have ly2:y2<p:=by rw [hy2];exact mRoot_lt hp0
  have f9:∀ {a},a<p→a<B64^9:=fun h=>Nat.lt_trans h F.lt
  have c0:Hid (∀ w,Calls Tryz.prog 51 #[.int .u64 (mz:Int)] w (VRet (nv (words mz)) w)):=Lib.hid fun w=>smallV hmzb w
  have c1:Hid (∀ w,Calls Tryz.prog 34 #[zV,nv (words mz),nv (words p)] w (VRet (nv (words z)) w)):=Lib.hid fun w=>by rw [hz,← zV_eq];exact subV F hp0 hmz w
  have c2:Hid (∀ w,Calls Tryz.prog 44 #[nv (words u),nv (words u),nv (words p)] w (VRet (nv (words uu)) w)):=Lib.hid fun w=>by rw [huu];exact mulV F hu (f9 hu) w
  have c3:Hid (∀ w,Calls Tryz.prog 44 #[nv (words z),nv (words uu),nv (words p)] w (VRet (nv (words zu)) w)):=Lib.hid fun w=>by rw [hzu];exact mulV F l0 (f9 l1) w
  have c4:Hid (∀ w,Calls Tryz.prog 44 #[nv (words zu),nv (words zu),nv (words p)] w (VRet (nv (words zz)) w)):=Lib.hid fun w=>by rw [hzz];exact mulV F l2 (f9 l2) w
  have c5:Hid (∀ w,Calls Tryz.prog 43 #[nv (words zz),nv (words zu),nv (words p)] w (VRet (nv (words t)) w)):=Lib.hid fun w=>by rw [ht];exact addV F l3 l2 w
  have cs3:Hid (∀ w,Calls Tryz.prog 51 #[.int .u64 3] w (VRet (nv (words 3)) w)):=Lib.hid fun w=>smallV (n:=3) (by decide) w
  have cs1:Hid (∀ w,Calls Tryz.prog 51 #[.int .u64 1] w (VRet (nv (words 1)) w)):=Lib.hid fun w=>smallV (n:=1) (by decide) w
  have c6:Hid (∀ w,Calls Tryz.prog 45 #[nv (words 3),nv (words p)] w (VRet (nv (words i3)) w)):=Lib.hid fun w=>by rw [hi3];exact (invV F hpr hodd h3 (by omega) w).mono fun e w' h=>h.1
  have l5:i3<p:=by rw [hi3];exact invN_lt' hp0
  have c7:Hid (∀ w,Calls Tryz.prog 44 #[nv (words B),nv (words i3),nv (words p)] w (VRet (nv (words xb)) w)):=Lib.hid fun w=>by rw [hxb];exact mulV F hb (f9 l5) w
  have c8:Hid (∀ w,Calls Tryz.prog 44 #[nv (words z),nv (words 3),nv (words p)] w (VRet (nv (words z3)) w)):=Lib.hid fun w=>by rw [hz3];exact mulV F l0 (f9 h3) w
  have c9:Hid (∀ w,Calls Tryz.prog 34 #[zV,nv (words z3),nv (words p)] w (VRet (nv (words n3)) w)):=Lib.hid fun w=>by rw [hn3,← zV_eq];exact subV F hp0 l7 w
  have ca:Hid (∀ w,Calls Tryz.prog 45 #[nv (words n3),nv (words p)] w (VRet (nv (words i0)) w)):=Lib.hid fun w=>by rw [hi0];exact (invV F hpr hodd l8 hn0 w).mono fun e w' h=>h.1
  have li0:i0<p:=by rw [hi0];exact invN_lt' hp0
  have cb:Hid (∀ w,Calls Tryz.prog 44 #[nv (words B),nv (words i0),nv (words p)] w (VRet (nv (words xa)) w)):=Lib.hid fun w=>by rw [hxa];exact mulV F hb (f9 li0) w
  have cc:Hid (t≠0→∀ w,Calls Tryz.prog 45 #[nv (words t),nv (words p)] w (VRet (nv (words it)) w)):=Lib.hid fun h w=>by rw [hit];exact (invV F hpr hodd l4 h w).mono fun e w' h=>h.1
  have lit:it<p:=by rw [hit];exact invN_lt' hp0
  have cd:Hid (∀ w,Calls Tryz.prog 43 #[nv (words 1),nv (words it),nv (words p)] w (VRet (nv (words o1)) w)):=Lib.hid fun w=>by rw [ho1];exact addV F (by omega) lit w
  have ce:Hid (∀ w,Calls Tryz.prog 44 #[nv (words xb),nv (words o1),nv (words p)] w (VRet (nv (words xc)) w)):=Lib.hid fun w=>by rw [hxc];exact mulV F l6 (f9 la) w
  have cf:Hid (∀ w,Calls Tryz.prog 60 #[.agg (cvK k).toArray,nv (words X1)] w (VRet (nv (words g1)) w)):=Lib.hid fun w=>by rw [hg1];exact HRT.out X1 lX w
  have cg:Hid (∀ w,Calls Tryz.prog 59 #[.agg (cvK k).toArray,nv (words g1)] w (VRet (.tuple #[nv (words y1),.bool ok]) w)):=Lib.hid fun w=>by rw [hok,hy1];exact HRO.out g1 lg w
  have ch:Hid (∀ w,Calls Tryz.prog 44 #[nv (words zu),nv (words X1),nv (words p)] w (VRet (nv (words X2)) w)):=Lib.hid fun w=>by rw [hX2];exact mulV F l2 (f9 lX) w
  have ci':Hid (∀ w,Calls Tryz.prog 60 #[.agg (cvK k).toArray,nv (words X2)] w (VRet (nv (words g2)) w)):=Lib.hid fun w=>by rw [hg2];exact HRT.out X2 lX2 w
  have cj:Hid (∀ w,∃ b,Calls Tryz.prog 59 #[.agg (cvK k).toArray,nv (words g2)] w (VRet (.tuple #[nv (words y2),.bool b]) w)):=Lib.hid fun w=>⟨_,by rw [hy2];exact HRO.out g2 lg2 w⟩
  obtain ⟨ok2,hok2⟩:∃ a,a=decide (mm p (mRoot p g2) (mRoot p g2)=g2):=⟨_,rfl⟩
  have ck:Hid (∀ w,Calls Tryz.prog 59 #[.agg (cvK k).toArray,nv (words g2)] w (VRet (.tuple #[nv (words y2),.bool ok2]) w)):=Lib.hid fun w=>by rw [hok2,hy2];exact HRO.out g2 lg2 w
  have HY:Hid (∀ y,y=y1∨y=y2→(∀ w,Calls Tryz.prog 34 #[zV,nv (words y),nv (words p)] w (VRet (nv (words (ms p 0 y))) w))∧y<B64^9):=Lib.hid fun y hy=>by
    have hyp:y<p:=by rcases hy with rfl | rfl <;> assumption
    exact ⟨fun w=>by rw [← zV_eq];exact subV F hp0 hyp w,f9 hyp⟩
  have hu9:=f9 hu
  have ht9:=f9 l4
  clear cj hz huu hzu hzz ht hi3 hxb hz3 hn3 hi0 hxa hit ho1 hxc eZu eT eX en hn0 hX1 hg1 hy1 hok hX2 hg2 hy2 hok2 l0 l1 l2 l3 l4 l5 l6 l7 l8 l9 la lb lX lX2 lg lg2 ly1 ly2 f9 F hu hpr hodd h3 hmz hb hp0 HRT HRO li0 lit hmzb
  have HSZ:Hid ((Tryz.prog.info? 65).map (·.size)=some (cvK k).length):=Lib.hid size65
  generalize hcv:cvK k=cvl' at *
  clear hcv
  have E0:Hid (∀ w,(Op.equalIn 10000 63 (nv (words t)) zV).run Tryz.prog w=.ok (decide (t=0)) w):=Lib.hid fun w=>by
    have h:=eqN_in (words t) (words 0) w
    rw [alike_iff (fun j _=>words_lt t j) (fun j _=>words_lt 0 j),val_w ht9,val_w (by omega),zV_eq] at h
    exact h
  generalize hbt:decide (t=0)=bt at *
  have HBT:=Lib.hid hbt
  clear hbt
  go_enter Tryz.func41,Tryz.ntmps41
  go_upto_region 1 with fail
  obtain ⟨k1,k2,k3,mm0⟩:=three_new w (.cells cvl'.toArray 65 (0,0)) (.cells (nc (words u)) 63 (0,0)) (.cells zl83.toArray 83 (0,0))
  generalize hw4:((w.alloc (.cells cvl'.toArray 65 (0,0))).alloc (.cells (nc (words u)) 63 (0,0))).alloc (.cells zl83.toArray 83 (0,0))=w4 at *
  clear hw4
  have C:=Lib.hid (HCV.out _ _ k1)
  have X:Hid (NIs w4 (w.heap.size+1) (words u)):=Lib.hid k2
  have Z:Hid (ZAt w4 (w.heap.size+1+1)):=Lib.hid k3
  have MM:=Lib.hid mm0
  clear k1 k2 k3 mm0 HCV
  generalize hb0:w.heap.size=b0 at *
  generalize hb1:b0+1=b1 at *
  generalize hb2:b1+1=b2 at *
  have NE0:Hid (b0<b1∧b1<b2∧w.heap.size≤b0):=Lib.hid (by omega)
  refine wp_region_T 8 NoP (by kernel_rfl) (by kernel_rfl) ?_
  refine wpAnyT_take (i:=0) (v:=zV) 11 (by kernel_rfl) rfl rfl rfl (by kernel_rfl) (by kernel_rfl) (by kernel_rfl) (fun _ _ _ h=>h) (YT.pure (by rfl) (fun w=>by go_simp)) ?_
  simp only [Act.put,List.setIfInBounds_toArray,List.set_cons_zero,List.set_cons_succ]
  refine wpAnyT_take (i:=1) (v:=.pointer (some ⟨b0,46,none⟩)) 12 (by kernel_rfl) rfl rfl rfl (by kernel_rfl) (by kernel_rfl) (by kernel_rfl) (fun _ _ _ h=>h) (YT.pure (by rfl) (fun w=>by go_simp)) ?_
  simp only [Act.put,List.setIfInBounds_toArray,List.set_cons_zero,List.set_cons_succ]
  refine wpAnyT_take (i:=2) (v:=U mz) 13 (by kernel_rfl) rfl rfl rfl (by kernel_rfl) (by kernel_rfl) (by kernel_rfl) (fun _ _ _ h=>h) (YT.cell (by rfl) 31 (.tmp 12) rfl b0 46 rfl (fun _ h=>h) ((HPR.out _ _ C.out).2.2) (fun w h=>by go_simp)) ?_
  simp only [Act.put,List.setIfInBounds_toArray,List.set_cons_zero,List.set_cons_succ]
  refine wpAnyT_take (i:=3) (v:=nv (words mz)) 14 (by kernel_rfl) rfl rfl rfl (by kernel_rfl) (by kernel_rfl) (by kernel_rfl) (fun _ _ _ h=>h) (YT.call (by rfl) 51 #[.int .u64 (mz:Int)] (fun w=>by go_simp) (fun w m=>c0.out w)) ?_
  simp only [Act.put,List.setIfInBounds_toArray,List.set_cons_zero,List.set_cons_succ]
  refine wpAnyT_take (i:=4) (v:=.pointer (some ⟨b0,0,none⟩)) 15 (by kernel_rfl) rfl rfl rfl (by kernel_rfl) (by kernel_rfl) (by kernel_rfl) (fun _ _ _ h=>h) (YT.pure (by rfl) (fun w=>by go_simp)) ?_
  simp only [Act.put,List.setIfInBounds_toArray,List.set_cons_zero,List.set_cons_succ]
  refine wpAnyT_take (i:=5) (v:=nv (words (p))) 16 (by kernel_rfl) rfl rfl rfl (by kernel_rfl) (by kernel_rfl) (by kernel_rfl) (fun _ _ _ h=>h) (YT.row (by rfl) 63 (.tmp 15) rfl b0 0 rfl (fun _ h=>h) (ncl (words (p))) _ ((HPR.out _ _ C.out).1) Tryz.underlying63 rfl size63) ?_
  simp only [Act.put,List.setIfInBounds_toArray,List.set_cons_zero,List.set_cons_succ]
  refine wpAnyT_take (i:=6) (v:=nv (words z)) 17 (by kernel_rfl) rfl rfl rfl (by kernel_rfl) (by kernel_rfl) (by kernel_rfl) (fun _ _ _ h=>h) (YT.call (by rfl) 34 #[zV,nv (words mz),nv (words p)] (fun w=>by go_simp) (fun w m=>c1.out w)) ?_
  simp only [Act.put,List.setIfInBounds_toArray,List.set_cons_zero,List.set_cons_succ]
  refine wpAnyT_alloc (i:=7) 5 (by kernel_rfl) rfl rfl rfl zN (fun w=>by go_simp) ?_
  intro wa1 ma1 mb1
  simp only [Act.put,List.setIfInBounds_toArray,List.set_cons_zero,List.set_cons_succ]
  refine wpAnyT_store (by kernel_rfl) (by kernel_rfl) rfl rfl rfl 63 (.tmp 5) (.tmp 17) rfl wa1.heap.size 0 (nc (words (z))) rfl rfl (NIs.there9 (f:=fun _=>0) (heap_alloc_new wa1 zN) (words (z))) (size63n _) (nc_one _) ?_
  intro ws1 wt1 mc1 md1 me1
  have hst:=nine_stored (wa:=wa1.alloc zN) (f:=fun _=>0) (g:=words (z)) (heap_alloc_new wa1 zN) mc1 me1
  have ms0:=ma1.size
  have ms1:Mod NoP w4 wt1:=Mod.fresh (ma1.alloc zN) hst.2 ms0
  have NN:Hid (wa1.heap.size ≥ w4.heap.size):=Lib.hid ms0
  have V5:=Lib.hid hst.1
  have hl_C:=lt_of_heap C.out
  have hl_X:=lt_of_heap X.out
  have hl_Z:=lt_of_heap Z.out
  have NE5:Hid (b0≠wa1.heap.size∧b1≠wa1.heap.size∧b2≠wa1.heap.size∧b0≠wa1.heap.size∧w.heap.size≤wa1.heap.size):=Lib.hid (by have:=NE0.out;omega)
  have C':=Lib.hid (C.out.mod ms1 fun _ h=>h)
  have X':=Lib.hid (X.out.mod ms1 fun _ h=>h)
  have Z':=Lib.hid (Z.out.mod ms1 fun _ h=>h)
  have MM':=Lib.hid (MM.out.trans ms1)
  clear hst ms0 ms1 ma1 mb1 mc1 md1 me1 NN hl_C hl_X hl_Z C X Z MM
  have C:=C'
  have X:=X'
  have Z:=Z'
  have MM:=MM'
  clear C' X' Z' MM'
  generalize wa1.heap.size=b5 at *
  go_upto_region 2 with fail
  refine wp_region_T 10 NoP (by kernel_rfl) (by kernel_rfl) ?_
  refine wpAnyT_take (i:=0) (v:=nv (words (z))) 18 (by kernel_rfl) rfl rfl rfl (by kernel_rfl) (by kernel_rfl) (by kernel_rfl) (fun _ _ _ h=>h) (YT.row (by rfl) 63 (.tmp 5) rfl b5 0 rfl (fun _ h=>h) (ncl (words (z))) _ (V5.out.range) Tryz.underlying63 rfl size63) ?_
  simp only [Act.put,List.setIfInBounds_toArray,List.set_cons_zero,List.set_cons_succ]
  refine wpAnyT_take (i:=1) (v:=nv (words (u))) 19 (by kernel_rfl) rfl rfl rfl (by kernel_rfl) (by kernel_rfl) (by kernel_rfl) (fun _ _ _ h=>h) (YT.row (by rfl) 63 (.tmp 3) rfl b1 0 rfl (fun _ h=>h) (ncl (words (u))) _ (X.out.range) Tryz.underlying63 rfl size63) ?_
  simp only [Act.put,List.setIfInBounds_toArray,List.set_cons_zero,List.set_cons_succ]
  refine wpAnyT_take (i:=2) (v:=nv (words (u))) 20 (by kernel_rfl) rfl rfl rfl (by kernel_rfl) (by kernel_rfl) (by kernel_rfl) (fun _ _ _ h=>h) (YT.row (by rfl) 63 (.tmp 3) rfl b1 0 rfl (fun _ h=>h) (ncl (words (u))) _ (X.out.range) Tryz.underlying63 rfl size63) ?_
  simp only [Act.put,List.setIfInBounds_toArray,List.set_cons_zero,List.set_cons_succ]
  refine wpAnyT_take (i:=3) (v:=.pointer (some ⟨b0,0,none⟩)) 21 (by kernel_rfl) rfl rfl rfl (by kernel_rfl) (by kernel_rfl) (by kernel_rfl) (fun _ _ _ h=>h) (YT.pure (by rfl) (fun w=>by go_simp)) ?_
  simp only [Act.put,List.setIfInBounds_toArray,List.set_cons_zero,List.set_cons_succ]
  refine wpAnyT_take (i:=4) (v:=nv (words (p))) 22 (by kernel_rfl) rfl rfl rfl (by kernel_rfl) (by kernel_rfl) (by kernel_rfl) (fun _ _ _ h=>h) (YT.row (by rfl) 63 (.tmp 21) rfl b0 0 rfl (fun _ h=>h) (ncl (words (p))) _ ((HPR.out _ _ C.out).1) Tryz.underlying63 rfl size63) ?_
  simp only [Act.put,List.setIfInBounds_toArray,List.set_cons_zero,List.set_cons_succ]
  refine wpAnyT_take (i:=5) (v:=nv (words (uu))) 23 (by kernel_rfl) rfl rfl rfl (by kernel_rfl) (by kernel_rfl) (by kernel_rfl) (fun _ _ _ h=>h) (YT.call (by rfl) 44 #[nv (words (u)),nv (words (u)),nv (words (p))] (fun w=>by go_simp) (fun w m=>c2.out w)) ?_
  simp only [Act.put,List.setIfInBounds_toArray,List.set_cons_zero,List.set_cons_succ]
  refine wpAnyT_take (i:=6) (v:=.pointer (some ⟨b0,0,none⟩)) 24 (by kernel_rfl) rfl rfl rfl (by kernel_rfl) (by kernel_rfl) (by kernel_rfl) (fun _ _ _ h=>h) (YT.pure (by rfl) (fun w=>by go_simp)) ?_
  simp only [Act.put,List.setIfInBounds_toArray,List.set_cons_zero,List.set_cons_succ]
  refine wpAnyT_take (i:=7) (v:=nv (words (p))) 25 (by kernel_rfl) rfl rfl rfl (by kernel_rfl) (by kernel_rfl) (by kernel_rfl) (fun _ _ _ h=>h) (YT.row (by rfl) 63 (.tmp 24) rfl b0 0 rfl (fun _ h=>h) (ncl (words (p))) _ ((HPR.out _ _ C.out).1) Tryz.underlying63 rfl size63) ?_
  simp only [Act.put,List.setIfInBounds_toArray,List.set_cons_zero,List.set_cons_succ]
  refine wpAnyT_take (i:=8) (v:=nv (words (zu))) 26 (by kernel_rfl) rfl rfl rfl (by kernel_rfl) (by kernel_rfl) (by kernel_rfl) (fun _ _ _ h=>h) (YT.call (by rfl) 44 #[nv (words (z)),nv (words (uu)),nv (words (p))] (fun w=>by go_simp) (fun w m=>c3.out w)) ?_
  simp only [Act.put,List.setIfInBounds_toArray,List.set_cons_zero,List.set_cons_succ]
  refine wpAnyT_alloc (i:=9) 6 (by kernel_rfl) rfl rfl rfl zN (fun w=>by go_simp) ?_
  intro wa2 ma2 mb2
  simp only [Act.put,List.setIfInBounds_toArray,List.set_cons_zero,List.set_cons_succ]
  refine wpAnyT_store (by kernel_rfl) (by kernel_rfl) rfl rfl rfl 63 (.tmp 6) (.tmp 26) rfl wa2.heap.size 0 (nc (words (zu))) rfl rfl (NIs.there9 (f:=fun _=>0) (heap_alloc_new wa2 zN) (words (zu))) (size63n _) (nc_one _) ?_
  intro ws2 wt2 mc2 md2 me2
  have hst:=nine_stored (wa:=wa2.alloc zN) (f:=fun _=>0) (g:=words (zu)) (heap_alloc_new wa2 zN) mc2 me2
  have ms0:=ma2.size
  have ms1:Mod NoP wt1 wt2:=Mod.fresh (ma2.alloc zN) hst.2 ms0
  have NN:Hid (wa2.heap.size ≥ wt1.heap.size):=Lib.hid ms0
  have V6:=Lib.hid hst.1
  have hl_C:=lt_of_heap C.out
  have hl_X:=lt_of_heap X.out
  have hl_Z:=lt_of_heap Z.out
  have hl_V5:=lt_of_heap V5.out
  have NE6:Hid (b0≠wa2.heap.size∧b1≠wa2.heap.size∧b2≠wa2.heap.size∧b0≠wa2.heap.size∧w.heap.size≤wa2.heap.size):=Lib.hid (by have:=NE0.out;omega)
  have C':=Lib.hid (C.out.mod ms1 fun _ h=>h)
  have X':=Lib.hid (X.out.mod ms1 fun _ h=>h)
  have Z':=Lib.hid (Z.out.mod ms1 fun _ h=>h)
  have V5':=Lib.hid (V5.out.mod ms1 fun _ h=>h)
  have MM':=Lib.hid (MM.out.trans ms1)
  clear hst ms0 ms1 ma2 mb2 mc2 md2 me2 NN hl_C hl_X hl_Z hl_V5 C X Z V5 MM
  have C:=C'
  have X:=X'
  have Z:=Z'
  have V5:=V5'
  have MM:=MM'
  clear C' X' Z' V5' MM'
  generalize wa2.heap.size=b6 at *
  go_upto_region 3 with fail
  refine wp_region_T 10 NoP (by kernel_rfl) (by kernel_rfl) ?_
  refine wpAnyT_take (i:=0) (v:=nv (words (zu))) 27 (by kernel_rfl) rfl rfl rfl (by kernel_rfl) (by kernel_rfl) (by kernel_rfl) (fun _ _ _ h=>h) (YT.row (by rfl) 63 (.tmp 6) rfl b6 0 rfl (fun _ h=>h) (ncl (words (zu))) _ (V6.out.range) Tryz.underlying63 rfl size63) ?_
  simp only [Act.put,List.setIfInBounds_toArray,List.set_cons_zero,List.set_cons_succ]
  refine wpAnyT_take (i:=1) (v:=nv (words (zu))) 28 (by kernel_rfl) rfl rfl rfl (by kernel_rfl) (by kernel_rfl) (by kernel_rfl) (fun _ _ _ h=>h) (YT.row (by rfl) 63 (.tmp 6) rfl b6 0 rfl (fun _ h=>h) (ncl (words (zu))) _ (V6.out.range) Tryz.underlying63 rfl size63) ?_
  simp only [Act.put,List.setIfInBounds_toArray,List.set_cons_zero,List.set_cons_succ]
  refine wpAnyT_take (i:=2) (v:=.pointer (some ⟨b0,0,none⟩)) 29 (by kernel_rfl) rfl rfl rfl (by kernel_rfl) (by kernel_rfl) (by kernel_rfl) (fun _ _ _ h=>h) (YT.pure (by rfl) (fun w=>by go_simp)) ?_
  simp only [Act.put,List.setIfInBounds_toArray,List.set_cons_zero,List.set_cons_succ]
  refine wpAnyT_take (i:=3) (v:=nv (words (p))) 30 (by kernel_rfl) rfl rfl rfl (by kernel_rfl) (by kernel_rfl) (by kernel_rfl) (fun _ _ _ h=>h) (YT.row (by rfl) 63 (.tmp 29) rfl b0 0 rfl (fun _ h=>h) (ncl (words (p))) _ ((HPR.out _ _ C.out).1) Tryz.underlying63 rfl size63) ?_
  simp only [Act.put,List.setIfInBounds_toArray,List.set_cons_zero,List.set_cons_succ]
  refine wpAnyT_take (i:=4) (v:=nv (words (zz))) 31 (by kernel_rfl) rfl rfl rfl (by kernel_rfl) (by kernel_rfl) (by kernel_rfl) (fun _ _ _ h=>h) (YT.call (by rfl) 44 #[nv (words (zu)),nv (words (zu)),nv (words (p))] (fun w=>by go_simp) (fun w m=>c4.out w)) ?_
  simp only [Act.put,List.setIfInBounds_toArray,List.set_cons_zero,List.set_cons_succ]
  refine wpAnyT_take (i:=5) (v:=nv (words (zu))) 32 (by kernel_rfl) rfl rfl rfl (by kernel_rfl) (by kernel_rfl) (by kernel_rfl) (fun _ _ _ h=>h) (YT.row (by rfl) 63 (.tmp 6) rfl b6 0 rfl (fun _ h=>h) (ncl (words (zu))) _ (V6.out.range) Tryz.underlying63 rfl size63) ?_
  simp only [Act.put,List.setIfInBounds_toArray,List.set_cons_zero,List.set_cons_succ]
  refine wpAnyT_take (i:=6) (v:=.pointer (some ⟨b0,0,none⟩)) 33 (by kernel_rfl) rfl rfl rfl (by kernel_rfl) (by kernel_rfl) (by kernel_rfl) (fun _ _ _ h=>h) (YT.pure (by rfl) (fun w=>by go_simp)) ?_
  simp only [Act.put,List.setIfInBounds_toArray,List.set_cons_zero,List.set_cons_succ]
  refine wpAnyT_take (i:=7) (v:=nv (words (p))) 34 (by kernel_rfl) rfl rfl rfl (by kernel_rfl) (by kernel_rfl) (by kernel_rfl) (fun _ _ _ h=>h) (YT.row (by rfl) 63 (.tmp 33) rfl b0 0 rfl (fun _ h=>h) (ncl (words (p))) _ ((HPR.out _ _ C.out).1) Tryz.underlying63 rfl size63) ?_
  simp only [Act.put,List.setIfInBounds_toArray,List.set_cons_zero,List.set_cons_succ]
  refine wpAnyT_take (i:=8) (v:=nv (words (t))) 35 (by kernel_rfl) rfl rfl rfl (by kernel_rfl) (by kernel_rfl) (by kernel_rfl) (fun _ _ _ h=>h) (YT.call (by rfl) 43 #[nv (words (zz)),nv (words (zu)),nv (words (p))] (fun w=>by go_simp) (fun w m=>c5.out w)) ?_
  simp only [Act.put,List.setIfInBounds_toArray,List.set_cons_zero,List.set_cons_succ]
  refine wpAnyT_alloc (i:=9) 7 (by kernel_rfl) rfl rfl rfl zN (fun w=>by go_simp) ?_
  intro wa3 ma3 mb3
  simp only [Act.put,List.setIfInBounds_toArray,List.set_cons_zero,List.set_cons_succ]
  refine wpAnyT_store (by kernel_rfl) (by kernel_rfl) rfl rfl rfl 63 (.tmp 7) (.tmp 35) rfl wa3.heap.size 0 (nc (words (t))) rfl rfl (NIs.there9 (f:=fun _=>0) (heap_alloc_new wa3 zN) (words (t))) (size63n _) (nc_one _) ?_
  intro ws3 wt3 mc3 md3 me3
  have hst:=nine_stored (wa:=wa3.alloc zN) (f:=fun _=>0) (g:=words (t)) (heap_alloc_new wa3 zN) mc3 me3
  have ms0:=ma3.size
  have ms1:Mod NoP wt2 wt3:=Mod.fresh (ma3.alloc zN) hst.2 ms0
  have NN:Hid (wa3.heap.size ≥ wt2.heap.size):=Lib.hid ms0
  have V7:=Lib.hid hst.1
  have hl_C:=lt_of_heap C.out
  have hl_X:=lt_of_heap X.out
  have hl_Z:=lt_of_heap Z.out
  have hl_V5:=lt_of_heap V5.out
  have hl_V6:=lt_of_heap V6.out
  have NE7:Hid (b0≠wa3.heap.size∧b1≠wa3.heap.size∧b2≠wa3.heap.size∧b6≠wa3.heap.size∧w.heap.size≤wa3.heap.size):=Lib.hid (by have:=NE0.out;omega)
  have C':=Lib.hid (C.out.mod ms1 fun _ h=>h)
  have X':=Lib.hid (X.out.mod ms1 fun _ h=>h)
  have Z':=Lib.hid (Z.out.mod ms1 fun _ h=>h)
  have V5':=Lib.hid (V5.out.mod ms1 fun _ h=>h)
  have V6':=Lib.hid (V6.out.mod ms1 fun _ h=>h)
  have MM':=Lib.hid (MM.out.trans ms1)
  clear hst ms0 ms1 ma3 mb3 mc3 md3 me3 NN hl_C hl_X hl_Z hl_V5 hl_V6 C X Z V5 V6 MM
  have C:=C'
  have X:=X'
  have Z:=Z'
  have V5:=V5'
  have V6:=V6'
  have MM:=MM'
  clear C' X' Z' V5' V6' MM'
  generalize wa3.heap.size=b7 at *
  go_upto_region 4 with fail
  refine wp_region_T 10 NoP (by kernel_rfl) (by kernel_rfl) ?_
  refine wpAnyT_take (i:=0) (v:=.pointer (some ⟨b0,9,none⟩)) 36 (by kernel_rfl) rfl rfl rfl (by kernel_rfl) (by kernel_rfl) (by kernel_rfl) (fun _ _ _ h=>h) (YT.pure (by rfl) (fun w=>by go_simp)) ?_
  simp only [Act.put,List.setIfInBounds_toArray,List.set_cons_zero,List.set_cons_succ]
  refine wpAnyT_take (i:=1) (v:=nv (words (B))) 37 (by kernel_rfl) rfl rfl rfl (by kernel_rfl) (by kernel_rfl) (by kernel_rfl) (fun _ _ _ h=>h) (YT.row (by rfl) 63 (.tmp 36) rfl b0 9 rfl (fun _ h=>h) (ncl (words (B))) _ ((HPR.out _ _ C.out).2.1) Tryz.underlying63 rfl size63) ?_
  simp only [Act.put,List.setIfInBounds_toArray,List.set_cons_zero,List.set_cons_succ]
  refine wpAnyT_take (i:=2) (v:=nv (words 3)) 38 (by kernel_rfl) rfl rfl rfl (by kernel_rfl) (by kernel_rfl) (by kernel_rfl) (fun _ _ _ h=>h) (YT.call (by rfl) 51 #[.int .u64 3] (fun w=>by go_simp) (fun w m=>cs3.out w)) ?_
  simp only [Act.put,List.setIfInBounds_toArray,List.set_cons_zero,List.set_cons_succ]
  refine wpAnyT_take (i:=3) (v:=.pointer (some ⟨b0,0,none⟩)) 39 (by kernel_rfl) rfl rfl rfl (by kernel_rfl) (by kernel_rfl) (by kernel_rfl) (fun _ _ _ h=>h) (YT.pure (by rfl) (fun w=>by go_simp)) ?_
  simp only [Act.put,List.setIfInBounds_toArray,List.set_cons_zero,List.set_cons_succ]
  refine wpAnyT_take (i:=4) (v:=nv (words (p))) 40 (by kernel_rfl) rfl rfl rfl (by kernel_rfl) (by kernel_rfl) (by kernel_rfl) (fun _ _ _ h=>h) (YT.row (by rfl) 63 (.tmp 39) rfl b0 0 rfl (fun _ h=>h) (ncl (words (p))) _ ((HPR.out _ _ C.out).1) Tryz.underlying63 rfl size63) ?_
  simp only [Act.put,List.setIfInBounds_toArray,List.set_cons_zero,List.set_cons_succ]
  refine wpAnyT_take (i:=5) (v:=nv (words (i3))) 41 (by kernel_rfl) rfl rfl rfl (by kernel_rfl) (by kernel_rfl) (by kernel_rfl) (fun _ _ _ h=>h) (YT.call (by rfl) 45 #[nv (words (3)),nv (words (p))] (fun w=>by go_simp) (fun w m=>c6.out w)) ?_
  simp only [Act.put,List.setIfInBounds_toArray,List.set_cons_zero,List.set_cons_succ]
  refine wpAnyT_take (i:=6) (v:=.pointer (some ⟨b0,0,none⟩)) 42 (by kernel_rfl) rfl rfl rfl (by kernel_rfl) (by kernel_rfl) (by kernel_rfl) (fun _ _ _ h=>h) (YT.pure (by rfl) (fun w=>by go_simp)) ?_
  simp only [Act.put,List.setIfInBounds_toArray,List.set_cons_zero,List.set_cons_succ]
  refine wpAnyT_take (i:=7) (v:=nv (words (p))) 43 (by kernel_rfl) rfl rfl rfl (by kernel_rfl) (by kernel_rfl) (by kernel_rfl) (fun _ _ _ h=>h) (YT.row (by rfl) 63 (.tmp 42) rfl b0 0 rfl (fun _ h=>h) (ncl (words (p))) _ ((HPR.out _ _ C.out).1) Tryz.underlying63 rfl size63) ?_
  simp only [Act.put,List.setIfInBounds_toArray,List.set_cons_zero,List.set_cons_succ]
  refine wpAnyT_take (i:=8) (v:=nv (words (xb))) 44 (by kernel_rfl) rfl rfl rfl (by kernel_rfl) (by kernel_rfl) (by kernel_rfl) (fun _ _ _ h=>h) (YT.call (by rfl) 44 #[nv (words (B)),nv (words (i3)),nv (words (p))] (fun w=>by go_simp) (fun w m=>c7.out w)) ?_
  simp only [Act.put,List.setIfInBounds_toArray,List.set_cons_zero,List.set_cons_succ]
  refine wpAnyT_alloc (i:=9) 8 (by kernel_rfl) rfl rfl rfl zN (fun w=>by go_simp) ?_
  intro wa4 ma4 mb4
  simp only [Act.put,List.setIfInBounds_toArray,List.set_cons_zero,List.set_cons_succ]
  refine wpAnyT_store (by kernel_rfl) (by kernel_rfl) rfl rfl rfl 63 (.tmp 8) (.tmp 44) rfl wa4.heap.size 0 (nc (words (xb))) rfl rfl (NIs.there9 (f:=fun _=>0) (heap_alloc_new wa4 zN) (words (xb))) (size63n _) (nc_one _) ?_
  intro ws4 wt4 mc4 md4 me4
  have hst:=nine_stored (wa:=wa4.alloc zN) (f:=fun _=>0) (g:=words (xb)) (heap_alloc_new wa4 zN) mc4 me4
  have ms0:=ma4.size
  have ms1:Mod NoP wt3 wt4:=Mod.fresh (ma4.alloc zN) hst.2 ms0
  have NN:Hid (wa4.heap.size ≥ wt3.heap.size):=Lib.hid ms0
  have V8:=Lib.hid hst.1
  have hl_C:=lt_of_heap C.out
  have hl_X:=lt_of_heap X.out
  have hl_Z:=lt_of_heap Z.out
  have hl_V5:=lt_of_heap V5.out
  have hl_V6:=lt_of_heap V6.out
  have hl_V7:=lt_of_heap V7.out
  have NE8:Hid (b0≠wa4.heap.size∧b1≠wa4.heap.size∧b2≠wa4.heap.size∧b6≠wa4.heap.size∧w.heap.size≤wa4.heap.size):=Lib.hid (by have:=NE0.out;omega)
  have C':=Lib.hid (C.out.mod ms1 fun _ h=>h)
  have X':=Lib.hid (X.out.mod ms1 fun _ h=>h)
  have Z':=Lib.hid (Z.out.mod ms1 fun _ h=>h)
  have V5':=Lib.hid (V5.out.mod ms1 fun _ h=>h)
  have V6':=Lib.hid (V6.out.mod ms1 fun _ h=>h)
  have V7':=Lib.hid (V7.out.mod ms1 fun _ h=>h)
  have MM':=Lib.hid (MM.out.trans ms1)
  clear hst ms0 ms1 ma4 mb4 mc4 md4 me4 NN hl_C hl_X hl_Z hl_V5 hl_V6 hl_V7 C X Z V5 V6 V7 MM
  have C:=C'
  have X:=X'
  have Z:=Z'
  have V5:=V5'
  have V6:=V6'
  have V7:=V7'
  have MM:=MM'
  clear C' X' Z' V5' V6' V7' MM'
  generalize wa4.heap.size=b8 at *
  obtain ⟨a0,a1,a2,a3,a4,a5,a6,a7,a8⟩:=V7.out.nine
  have he0:=E0.out
  go_upto_if 47 with fail
  clear a0 a1 a2 a3 a4 a5 a6 a7 a8 he0
  go_cut [8] from 48 to 76 (fun s8 wx=>s8=.pointer (some ⟨b8,0,none⟩)∧Hid (MpA w k b0 b1 b2 b6 b8 u zu X1 wx))
  case first =>
    cases bt with
    | true =>
      have ht0:X1=xa:=by rw [EX1.out,if_pos (of_decide_eq_true HBT.out)]
      go_upto_region 6 with fail
      refine wp_region_T 17 NoP (by kernel_rfl) (by kernel_rfl) ?_
      refine wpAnyT_take (i:=0) (v:=.pointer (some ⟨b0,9,none⟩)) 48 (by kernel_rfl) rfl rfl rfl (by kernel_rfl) (by kernel_rfl) (by kernel_rfl) (fun _ _ _ h=>h) (YT.pure (by rfl) (fun w=>by go_simp)) ?_
      simp only [Act.put,List.setIfInBounds_toArray,List.set_cons_zero,List.set_cons_succ]
      refine wpAnyT_take (i:=1) (v:=nv (words (B))) 49 (by kernel_rfl) rfl rfl rfl (by kernel_rfl) (by kernel_rfl) (by kernel_rfl) (fun _ _ _ h=>h) (YT.row (by rfl) 63 (.tmp 48) rfl b0 9 rfl (fun _ h=>h) (ncl (words (B))) _ ((HPR.out _ _ C.out).2.1) Tryz.underlying63 rfl size63) ?_
      simp only [Act.put,List.setIfInBounds_toArray,List.set_cons_zero,List.set_cons_succ]
      refine wpAnyT_take (i:=2) (v:=zV) 50 (by kernel_rfl) rfl rfl rfl (by kernel_rfl) (by kernel_rfl) (by kernel_rfl) (fun _ _ _ h=>h) (YT.pure (by rfl) (fun w=>by go_simp)) ?_
      simp only [Act.put,List.setIfInBounds_toArray,List.set_cons_zero,List.set_cons_succ]
      refine wpAnyT_take (i:=3) (v:=nv (words (z))) 51 (by kernel_rfl) rfl rfl rfl (by kernel_rfl) (by kernel_rfl) (by kernel_rfl) (fun _ _ _ h=>h) (YT.row (by rfl) 63 (.tmp 5) rfl b5 0 rfl (fun _ h=>h) (ncl (words (z))) _ (V5.out.range) Tryz.underlying63 rfl size63) ?_
      simp only [Act.put,List.setIfInBounds_toArray,List.set_cons_zero,List.set_cons_succ]
      refine wpAnyT_take (i:=4) (v:=nv (words 3)) 52 (by kernel_rfl) rfl rfl rfl (by kernel_rfl) (by kernel_rfl) (by kernel_rfl) (fun _ _ _ h=>h) (YT.call (by rfl) 51 #[.int .u64 3] (fun w=>by go_simp) (fun w m=>cs3.out w)) ?_
      simp only [Act.put,List.setIfInBounds_toArray,List.set_cons_zero,List.set_cons_succ]
      refine wpAnyT_take (i:=5) (v:=.pointer (some ⟨b0,0,none⟩)) 53 (by kernel_rfl) rfl rfl rfl (by kernel_rfl) (by kernel_rfl) (by kernel_rfl) (fun _ _ _ h=>h) (YT.pure (by rfl) (fun w=>by go_simp)) ?_
      simp only [Act.put,List.setIfInBounds_toArray,List.set_cons_zero,List.set_cons_succ]
      refine wpAnyT_take (i:=6) (v:=nv (words (p))) 54 (by kernel_rfl) rfl rfl rfl (by kernel_rfl) (by kernel_rfl) (by kernel_rfl) (fun _ _ _ h=>h) (YT.row (by rfl) 63 (.tmp 53) rfl b0 0 rfl (fun _ h=>h) (ncl (words (p))) _ ((HPR.out _ _ C.out).1) Tryz.underlying63 rfl size63) ?_
      simp only [Act.put,List.setIfInBounds_toArray,List.set_cons_zero,List.set_cons_succ]
      refine wpAnyT_take (i:=7) (v:=nv (words (z3))) 55 (by kernel_rfl) rfl rfl rfl (by kernel_rfl) (by kernel_rfl) (by kernel_rfl) (fun _ _ _ h=>h) (YT.call (by rfl) 44 #[nv (words (z)),nv (words (3)),nv (words (p))] (fun w=>by go_simp) (fun w m=>c8.out w)) ?_
      simp only [Act.put,List.setIfInBounds_toArray,List.set_cons_zero,List.set_cons_succ]
      refine wpAnyT_take (i:=8) (v:=.pointer (some ⟨b0,0,none⟩)) 56 (by kernel_rfl) rfl rfl rfl (by kernel_rfl) (by kernel_rfl) (by kernel_rfl) (fun _ _ _ h=>h) (YT.pure (by rfl) (fun w=>by go_simp)) ?_
      simp only [Act.put,List.setIfInBounds_toArray,List.set_cons_zero,List.set_cons_succ]
      refine wpAnyT_take (i:=9) (v:=nv (words (p))) 57 (by kernel_rfl) rfl rfl rfl (by kernel_rfl) (by kernel_rfl) (by kernel_rfl) (fun _ _ _ h=>h) (YT.row (by rfl) 63 (.tmp 56) rfl b0 0 rfl (fun _ h=>h) (ncl (words (p))) _ ((HPR.out _ _ C.out).1) Tryz.underlying63 rfl size63) ?_
      simp only [Act.put,List.setIfInBounds_toArray,List.set_cons_zero,List.set_cons_succ]
      refine wpAnyT_take (i:=10) (v:=nv (words n3)) 58 (by kernel_rfl) rfl rfl rfl (by kernel_rfl) (by kernel_rfl) (by kernel_rfl) (fun _ _ _ h=>h) (YT.call (by rfl) 34 #[zV,nv (words z3),nv (words p)] (fun w=>by go_simp) (fun w m=>c9.out w)) ?_
      simp only [Act.put,List.setIfInBounds_toArray,List.set_cons_zero,List.set_cons_succ]
      refine wpAnyT_take (i:=11) (v:=.pointer (some ⟨b0,0,none⟩)) 59 (by kernel_rfl) rfl rfl rfl (by kernel_rfl) (by kernel_rfl) (by kernel_rfl) (fun _ _ _ h=>h) (YT.pure (by rfl) (fun w=>by go_simp)) ?_
      simp only [Act.put,List.setIfInBounds_toArray,List.set_cons_zero,List.set_cons_succ]
      refine wpAnyT_take (i:=12) (v:=nv (words (p))) 60 (by kernel_rfl) rfl rfl rfl (by kernel_rfl) (by kernel_rfl) (by kernel_rfl) (fun _ _ _ h=>h) (YT.row (by rfl) 63 (.tmp 59) rfl b0 0 rfl (fun _ h=>h) (ncl (words (p))) _ ((HPR.out _ _ C.out).1) Tryz.underlying63 rfl size63) ?_
      simp only [Act.put,List.setIfInBounds_toArray,List.set_cons_zero,List.set_cons_succ]
      refine wpAnyT_take (i:=13) (v:=nv (words (i0))) 61 (by kernel_rfl) rfl rfl rfl (by kernel_rfl) (by kernel_rfl) (by kernel_rfl) (fun _ _ _ h=>h) (YT.call (by rfl) 45 #[nv (words (n3)),nv (words (p))] (fun w=>by go_simp) (fun w m=>ca.out w)) ?_
      simp only [Act.put,List.setIfInBounds_toArray,List.set_cons_zero,List.set_cons_succ]
      refine wpAnyT_take (i:=14) (v:=.pointer (some ⟨b0,0,none⟩)) 62 (by kernel_rfl) rfl rfl rfl (by kernel_rfl) (by kernel_rfl) (by kernel_rfl) (fun _ _ _ h=>h) (YT.pure (by rfl) (fun w=>by go_simp)) ?_
      simp only [Act.put,List.setIfInBounds_toArray,List.set_cons_zero,List.set_cons_succ]
      refine wpAnyT_take (i:=15) (v:=nv (words (p))) 63 (by kernel_rfl) rfl rfl rfl (by kernel_rfl) (by kernel_rfl) (by kernel_rfl) (fun _ _ _ h=>h) (YT.row (by rfl) 63 (.tmp 62) rfl b0 0 rfl (fun _ h=>h) (ncl (words (p))) _ ((HPR.out _ _ C.out).1) Tryz.underlying63 rfl size63) ?_
      simp only [Act.put,List.setIfInBounds_toArray,List.set_cons_zero,List.set_cons_succ]
      refine wpAnyT_take (i:=16) (v:=nv (words (xa))) 64 (by kernel_rfl) rfl rfl rfl (by kernel_rfl) (by kernel_rfl) (by kernel_rfl) (fun _ _ _ h=>h) (YT.call (by rfl) 44 #[nv (words (B)),nv (words (i0)),nv (words (p))] (fun w=>by go_simp) (fun w m=>cb.out w)) ?_
      simp only [Act.put,List.setIfInBounds_toArray,List.set_cons_zero,List.set_cons_succ]
      refine wpAnyT_store (by kernel_rfl) (by kernel_rfl) rfl rfl rfl 63 (.tmp 8) (.tmp 64) rfl b8 0 (nc (words (xa))) rfl rfl (V8.out.there9 (words (xa))) (size63n _) (nc_one _) ?_
      intro ws5 wt5 mc5 md5 me5
      have hst:=nine_stored (g:=words xa) V8.out mc5 me5
      have RES:Hid (MpA w k b0 b1 b2 b6 b8 u zu X1 wt5):=Lib.hid ⟨C.out.mod hst.2 fun _ h=>NE8.out.1 h,X.out.mod hst.2 fun _ h=>NE8.out.2.1 h,Z.out.mod hst.2 fun _ h=>NE8.out.2.2.1 h,V6.out.mod hst.2 fun _ h=>NE8.out.2.2.2.1 h,by rw [ht0];exact hst.1,MM.out.fresh hst.2 NE8.out.2.2.2.2⟩
      clear hst mc5 md5 me5 ht0
      go_wp2_with fail
      go_meet
      case rel=>exact ⟨rfl,RES⟩
    | false =>
      have ht0:t≠0:=of_decide_eq_false HBT.out
      have ht1:X1=xc:=by rw [EX1.out,if_neg ht0]
      have cc':=Lib.hid (cc.out ht0)
      go_upto_region 7 with fail
      refine wp_region_T 12 NoP (by kernel_rfl) (by kernel_rfl) ?_
      refine wpAnyT_take (i:=0) (v:=nv (words (xb))) 65 (by kernel_rfl) rfl rfl rfl (by kernel_rfl) (by kernel_rfl) (by kernel_rfl) (fun _ _ _ h=>h) (YT.row (by rfl) 63 (.tmp 8) rfl b8 0 rfl (fun _ h=>h) (ncl (words (xb))) _ (V8.out.range) Tryz.underlying63 rfl size63) ?_
      simp only [Act.put,List.setIfInBounds_toArray,List.set_cons_zero,List.set_cons_succ]
      refine wpAnyT_take (i:=1) (v:=nv (words 1)) 66 (by kernel_rfl) rfl rfl rfl (by kernel_rfl) (by kernel_rfl) (by kernel_rfl) (fun _ _ _ h=>h) (YT.call (by rfl) 51 #[.int .u64 1] (fun w=>by go_simp) (fun w m=>cs1.out w)) ?_
      simp only [Act.put,List.setIfInBounds_toArray,List.set_cons_zero,List.set_cons_succ]
      refine wpAnyT_take (i:=2) (v:=nv (words (t))) 67 (by kernel_rfl) rfl rfl rfl (by kernel_rfl) (by kernel_rfl) (by kernel_rfl) (fun _ _ _ h=>h) (YT.row (by rfl) 63 (.tmp 7) rfl b7 0 rfl (fun _ h=>h) (ncl (words (t))) _ (V7.out.range) Tryz.underlying63 rfl size63) ?_
      simp only [Act.put,List.setIfInBounds_toArray,List.set_cons_zero,List.set_cons_succ]
      refine wpAnyT_take (i:=3) (v:=.pointer (some ⟨b0,0,none⟩)) 68 (by kernel_rfl) rfl rfl rfl (by kernel_rfl) (by kernel_rfl) (by kernel_rfl) (fun _ _ _ h=>h) (YT.pure (by rfl) (fun w=>by go_simp)) ?_
      simp only [Act.put,List.setIfInBounds_toArray,List.set_cons_zero,List.set_cons_succ]
      refine wpAnyT_take (i:=4) (v:=nv (words (p))) 69 (by kernel_rfl) rfl rfl rfl (by kernel_rfl) (by kernel_rfl) (by kernel_rfl) (fun _ _ _ h=>h) (YT.row (by rfl) 63 (.tmp 68) rfl b0 0 rfl (fun _ h=>h) (ncl (words (p))) _ ((HPR.out _ _ C.out).1) Tryz.underlying63 rfl size63) ?_
      simp only [Act.put,List.setIfInBounds_toArray,List.set_cons_zero,List.set_cons_succ]
      refine wpAnyT_take (i:=5) (v:=nv (words (it))) 70 (by kernel_rfl) rfl rfl rfl (by kernel_rfl) (by kernel_rfl) (by kernel_rfl) (fun _ _ _ h=>h) (YT.call (by rfl) 45 #[nv (words (t)),nv (words (p))] (fun w=>by go_simp) (fun w m=>cc'.out w)) ?_
      simp only [Act.put,List.setIfInBounds_toArray,List.set_cons_zero,List.set_cons_succ]
      refine wpAnyT_take (i:=6) (v:=.pointer (some ⟨b0,0,none⟩)) 71 (by kernel_rfl) rfl rfl rfl (by kernel_rfl) (by kernel_rfl) (by kernel_rfl) (fun _ _ _ h=>h) (YT.pure (by rfl) (fun w=>by go_simp)) ?_
      simp only [Act.put,List.setIfInBounds_toArray,List.set_cons_zero,List.set_cons_succ]
      refine wpAnyT_take (i:=7) (v:=nv (words (p))) 72 (by kernel_rfl) rfl rfl rfl (by kernel_rfl) (by kernel_rfl) (by kernel_rfl) (fun _ _ _ h=>h) (YT.row (by rfl) 63 (.tmp 71) rfl b0 0 rfl (fun _ h=>h) (ncl (words (p))) _ ((HPR.out _ _ C.out).1) Tryz.underlying63 rfl size63) ?_
      simp only [Act.put,List.setIfInBounds_toArray,List.set_cons_zero,List.set_cons_succ]
      refine wpAnyT_take (i:=8) (v:=nv (words (o1))) 73 (by kernel_rfl) rfl rfl rfl (by kernel_rfl) (by kernel_rfl) (by kernel_rfl) (fun _ _ _ h=>h) (YT.call (by rfl) 43 #[nv (words (1)),nv (words (it)),nv (words (p))] (fun w=>by go_simp) (fun w m=>cd.out w)) ?_
      simp only [Act.put,List.setIfInBounds_toArray,List.set_cons_zero,List.set_cons_succ]
      refine wpAnyT_take (i:=9) (v:=.pointer (some ⟨b0,0,none⟩)) 74 (by kernel_rfl) rfl rfl rfl (by kernel_rfl) (by kernel_rfl) (by kernel_rfl) (fun _ _ _ h=>h) (YT.pure (by rfl) (fun w=>by go_simp)) ?_
      simp only [Act.put,List.setIfInBounds_toArray,List.set_cons_zero,List.set_cons_succ]
      refine wpAnyT_take (i:=10) (v:=nv (words (p))) 75 (by kernel_rfl) rfl rfl rfl (by kernel_rfl) (by kernel_rfl) (by kernel_rfl) (fun _ _ _ h=>h) (YT.row (by rfl) 63 (.tmp 74) rfl b0 0 rfl (fun _ h=>h) (ncl (words (p))) _ ((HPR.out _ _ C.out).1) Tryz.underlying63 rfl size63) ?_
      simp only [Act.put,List.setIfInBounds_toArray,List.set_cons_zero,List.set_cons_succ]
      refine wpAnyT_take (i:=11) (v:=nv (words (xc))) 76 (by kernel_rfl) rfl rfl rfl (by kernel_rfl) (by kernel_rfl) (by kernel_rfl) (fun _ _ _ h=>h) (YT.call (by rfl) 44 #[nv (words (xb)),nv (words (o1)),nv (words (p))] (fun w=>by go_simp) (fun w m=>ce.out w)) ?_
      simp only [Act.put,List.setIfInBounds_toArray,List.set_cons_zero,List.set_cons_succ]
      refine wpAnyT_store (by kernel_rfl) (by kernel_rfl) rfl rfl rfl 63 (.tmp 8) (.tmp 76) rfl b8 0 (nc (words (xc))) rfl rfl (V8.out.there9 (words (xc))) (size63n _) (nc_one _) ?_
      intro ws5 wt5 mc5 md5 me5
      have hst:=nine_stored (g:=words xc) V8.out mc5 me5
      have RES:Hid (MpA w k b0 b1 b2 b6 b8 u zu X1 wt5):=Lib.hid ⟨C.out.mod hst.2 fun _ h=>NE8.out.1 h,X.out.mod hst.2 fun _ h=>NE8.out.2.1 h,Z.out.mod hst.2 fun _ h=>NE8.out.2.2.1 h,V6.out.mod hst.2 fun _ h=>NE8.out.2.2.2.1 h,by rw [ht1];exact hst.1,MM.out.fresh hst.2 NE8.out.2.2.2.2⟩
      clear hst mc5 md5 me5 ht0 ht1 cc'
      go_wp2_with fail
      go_meet
      case rel=>exact ⟨rfl,RES⟩
  case rest =>
    obtain ⟨wA,rfl⟩:∃ wA,wA=wc:=⟨_,rfl⟩
    obtain ⟨rfl,hst⟩:=hcut
    obtain ⟨m1,m2,m3,m4,m5,m6⟩:=hst.out
    clear C X Z V5 V6 V7 V8 MM hst cc ca cb cd ce c6 c7 c8 c9 cs1 cs3 E0 HBT
    have C:=Lib.hid m1
    have X:=Lib.hid m2
    have Z:=Lib.hid m3
    have V6:=Lib.hid m4
    have V8:=Lib.hid m5
    have MM:=Lib.hid m6
    clear m1 m2 m3 m4 m5 m6
    go_upto_region 8 with fail
    refine wp_region_T 99 NoP (by kernel_rfl) (by kernel_rfl) ?_
    refine wpAnyT_take (i:=0) (v:=.agg cvl'.toArray) 78 (by kernel_rfl) rfl rfl rfl (by kernel_rfl) (by kernel_rfl) (by kernel_rfl) (fun _ _ _ h=>h) (YT.row (by rfl) 65 (.tmp 2) rfl b0 0 rfl (fun _ h=>h) cvl' _ (HCA.out _ _ C.out) Tryz.underlying65 rfl HSZ.out) ?_
    simp only [Act.put,List.setIfInBounds_toArray,List.set_cons_zero,List.set_cons_succ]
    refine wpAnyT_take (i:=1) (v:=.agg cvl'.toArray) 79 (by kernel_rfl) rfl rfl rfl (by kernel_rfl) (by kernel_rfl) (by kernel_rfl) (fun _ _ _ h=>h) (YT.row (by rfl) 65 (.tmp 2) rfl b0 0 rfl (fun _ h=>h) cvl' _ (HCA.out _ _ C.out) Tryz.underlying65 rfl HSZ.out) ?_
    simp only [Act.put,List.setIfInBounds_toArray,List.set_cons_zero,List.set_cons_succ]
    refine wpAnyT_take (i:=2) (v:=nv (words (X1))) 80 (by kernel_rfl) rfl rfl rfl (by kernel_rfl) (by kernel_rfl) (by kernel_rfl) (fun _ _ _ h=>h) (YT.row (by rfl) 63 (.tmp 8) rfl b8 0 rfl (fun _ h=>h) (ncl (words (X1))) _ (V8.out.range) Tryz.underlying63 rfl size63) ?_
    simp only [Act.put,List.setIfInBounds_toArray,List.set_cons_zero,List.set_cons_succ]
    refine wpAnyT_take (i:=3) (v:=nv (words g1)) 81 (by kernel_rfl) rfl rfl rfl (by kernel_rfl) (by kernel_rfl) (by kernel_rfl) (fun _ _ _ h=>h) (YT.call (by rfl) 60 #[.agg cvl'.toArray,nv (words X1)] (fun w=>by go_simp) (fun w m=>cf.out w)) ?_
    simp only [Act.put,List.setIfInBounds_toArray,List.set_cons_zero,List.set_cons_succ]
    refine wpAnyT_take (i:=4) (v:=.tuple #[nv (words y1),.bool ok]) 82 (by kernel_rfl) rfl rfl rfl (by kernel_rfl) (by kernel_rfl) (by kernel_rfl) (fun _ _ _ h=>h) (YT.call (by rfl) 59 #[.agg cvl'.toArray,nv (words g1)] (fun w=>by go_simp) (fun w m=>cg.out w)) ?_
    simp only [Act.put,List.setIfInBounds_toArray,List.set_cons_zero,List.set_cons_succ]
    refine wpAnyT_take (i:=5) (v:=.tuple #[nv (words y1),.bool ok]) 77 (by kernel_rfl) rfl rfl rfl (by kernel_rfl) (by kernel_rfl) (by kernel_rfl) (fun _ _ _ h=>h) (YT.pure (by rfl) (fun w=>by go_simp)) ?_
    simp only [Act.put,List.setIfInBounds_toArray,List.set_cons_zero,List.set_cons_succ]
    refine wpAnyT_take (i:=6) (v:=nv (words y1)) 83 (by kernel_rfl) rfl rfl rfl (by kernel_rfl) (by kernel_rfl) (by kernel_rfl) (fun _ _ _ h=>h) (YT.pure (by rfl) (fun w=>by go_simp)) ?_
    simp only [Act.put,List.setIfInBounds_toArray,List.set_cons_zero,List.set_cons_succ]
    refine wpAnyT_take (i:=7) (v:=.bool ok) 84 (by kernel_rfl) rfl rfl rfl (by kernel_rfl) (by kernel_rfl) (by kernel_rfl) (fun _ _ _ h=>h) (YT.pure (by rfl) (fun w=>by go_simp)) ?_
    simp only [Act.put,List.setIfInBounds_toArray,List.set_cons_zero,List.set_cons_succ]
    refine wpAnyT_alloc (i:=8) 9 (by kernel_rfl) rfl rfl rfl zN (fun w=>by go_simp) ?_
    intro wa6 ma6 mb6
    simp only [Act.put,List.setIfInBounds_toArray,List.set_cons_zero,List.set_cons_succ]
    refine wpAnyT_store1 (i:=9) (by kernel_rfl) rfl rfl rfl 63 (.tmp 9) (.tmp 83) rfl wa6.heap.size 0 (nc (words (y1))) rfl rfl (NIs.there9 (f:=fun _=>0) (heap_alloc_new wa6 zN) (words (y1))) (size63n _) (nc_one _) (fun w h=>nine_new (words y1) ma6.size h) ?_
    intro wb6 mc6 md6
    refine wpAnyT_take (i:=10) (v:=.bool ok) 10 (by kernel_rfl) rfl rfl rfl (by kernel_rfl) (by kernel_rfl) (by kernel_rfl) (fun _ _ _ h=>h) (YT.pure (by rfl) (fun w=>by go_simp)) ?_
    simp only [Act.put,List.setIfInBounds_toArray,List.set_cons_zero,List.set_cons_succ]
    refine wpAnyT_done (by kernel_rfl) ?_ _
    intro wt6 me6
    have hst:=nine_stored (wa:=wa6.alloc zN) (f:=fun _=>0) (g:=words (y1)) (heap_alloc_new wa6 zN) mc6 me6
    have ms0:=ma6.size
    have ms1:Mod NoP wA wt6:=Mod.fresh (ma6.alloc zN) hst.2 ms0
    have NN:Hid (wa6.heap.size ≥ wA.heap.size):=Lib.hid ms0
    have V9:=Lib.hid hst.1
    have hl_C:=lt_of_heap C.out
    have hl_X:=lt_of_heap X.out
    have hl_Z:=lt_of_heap Z.out
    have hl_V6:=lt_of_heap V6.out
    have hl_V8:=lt_of_heap V8.out
    have NE9:Hid (b0≠wa6.heap.size∧b1≠wa6.heap.size∧b2≠wa6.heap.size∧b8≠wa6.heap.size∧w.heap.size≤wa6.heap.size):=Lib.hid (by have:=NE0.out;omega)
    have C':=Lib.hid (C.out.mod ms1 fun _ h=>h)
    have X':=Lib.hid (X.out.mod ms1 fun _ h=>h)
    have Z':=Lib.hid (Z.out.mod ms1 fun _ h=>h)
    have V6':=Lib.hid (V6.out.mod ms1 fun _ h=>h)
    have V8':=Lib.hid (V8.out.mod ms1 fun _ h=>h)
    have MM':=Lib.hid (MM.out.trans ms1)
    clear hst ms0 ms1 ma6 mb6 md6 mc6 me6 NN hl_C hl_X hl_Z hl_V6 hl_V8 C X Z V6 V8 MM
    have C:=C'
    have X:=X'
    have Z:=Z'
    have V6:=V6'
    have V8:=V8'
    have MM:=MM'
    clear C' X' Z' V6' V8' MM'
    generalize wa6.heap.size=b9 at *
    go_upto_if 86 with fail
    go_cut [9] from 87 to 99 (fun s9 wx=>s9=.pointer (some ⟨b9,0,none⟩)∧Hid (MpB w k b0 b1 b2 b8 b9 u (if ok then X1 else X2) (if ok then y1 else y2) wx))
    case first =>
      cases ok with
      | true =>
        have RES:Hid (MpB w k b0 b1 b2 b8 b9 u X1 y1 wt6):=Lib.hid ⟨C.out,X.out,Z.out,V8.out,V9.out,MM.out⟩
        go_wp2_with fail
        go_meet
        case rel=>exact ⟨rfl,RES⟩
      | false =>
        go_upto_region 10 with fail
        apply wp_region_lit
        refine wpList_row 87 rfl rfl 63 (.tmp 6) rfl b6 0 rfl (ncl (words (zu))) _ (V6.out.range) Tryz.underlying63 rfl size63 ?_
        simp only [Act.put,List.setIfInBounds_toArray,List.set_cons_zero,List.set_cons_succ]
        refine wpList_row 88 rfl rfl 63 (.tmp 8) rfl b8 0 rfl (ncl (words (X1))) _ (V8.out.range) Tryz.underlying63 rfl size63 ?_
        simp only [Act.put,List.setIfInBounds_toArray,List.set_cons_zero,List.set_cons_succ]
        refine wpList_val (v:=.pointer (some ⟨b0,0,none⟩)) 89 rfl rfl (by go_simp) ?_
        simp only [Act.put,List.setIfInBounds_toArray,List.set_cons_zero,List.set_cons_succ]
        refine wpList_row 90 rfl rfl 63 (.tmp 89) rfl b0 0 rfl (ncl (words (p))) _ ((HPR.out _ _ C.out).1) Tryz.underlying63 rfl size63 ?_
        simp only [Act.put,List.setIfInBounds_toArray,List.set_cons_zero,List.set_cons_succ]
        refine wpList_callV (v:=nv (words (X2))) 91 rfl rfl 44 #[nv (words (zu)),nv (words (X1)),nv (words (p))] (by go_simp) (ch.out _) ?_
        intro w5 mw5
        simp only [Act.put,List.setIfInBounds_toArray,List.set_cons_zero,List.set_cons_succ]
        refine wpList_store rfl rfl 63 (.tmp 8) (.tmp 91) rfl b8 0 (nc (words (X2))) rfl rfl ((V8.out.mod mw5 fun _ h=>h).there9 (words (X2))) (size63n _) (nc_one _) ?_
        have hst:=nine_stored (g:=words X2) V8.out mw5 (.refl NoP _)
        generalize hw6:w5.setCells b8 0 (nc (words X2)).toList=w6 at *
        clear hw6
        have C':=Lib.hid (C.out.mod hst.2 fun _ h=>NE8.out.1 h)
        have X':=Lib.hid (X.out.mod hst.2 fun _ h=>NE8.out.2.1 h)
        have Z':=Lib.hid (Z.out.mod hst.2 fun _ h=>NE8.out.2.2.1 h)
        have V9':=Lib.hid (V9.out.mod hst.2 fun _ h=>NE9.out.2.2.2.1 h.symm)
        have MM':=Lib.hid (MM.out.fresh hst.2 NE8.out.2.2.2.2)
        have V8':=Lib.hid hst.1
        clear hst mw5 C X Z V8 V9 MM V6
        have C:=C'
        have X:=X'
        have Z:=Z'
        have V8:=V8'
        have V9:=V9'
        have MM:=MM'
        clear C' X' Z' V8' V9' MM'
        go_upto_region 11 with fail
        refine wp_region_T 99 (InB b9) (by kernel_rfl) (by kernel_rfl) ?_
        refine wpAnyT_take (i:=0) (v:=.agg cvl'.toArray) 93 (by kernel_rfl) rfl rfl rfl (by kernel_rfl) (by kernel_rfl) (by kernel_rfl) (fun _ _ _ h=>h) (YT.row (by rfl) 65 (.tmp 2) rfl b0 0 rfl (fun _ h=>NE9.out.1 h) cvl' _ (HCA.out _ _ C.out) Tryz.underlying65 rfl HSZ.out) ?_
        simp only [Act.put,List.setIfInBounds_toArray,List.set_cons_zero,List.set_cons_succ]
        refine wpAnyT_take (i:=1) (v:=.agg cvl'.toArray) 94 (by kernel_rfl) rfl rfl rfl (by kernel_rfl) (by kernel_rfl) (by kernel_rfl) (fun _ _ _ h=>h) (YT.row (by rfl) 65 (.tmp 2) rfl b0 0 rfl (fun _ h=>NE9.out.1 h) cvl' _ (HCA.out _ _ C.out) Tryz.underlying65 rfl HSZ.out) ?_
        simp only [Act.put,List.setIfInBounds_toArray,List.set_cons_zero,List.set_cons_succ]
        refine wpAnyT_take (i:=2) (v:=nv (words (X2))) 95 (by kernel_rfl) rfl rfl rfl (by kernel_rfl) (by kernel_rfl) (by kernel_rfl) (fun _ _ _ h=>h) (YT.row (by rfl) 63 (.tmp 8) rfl b8 0 rfl (fun _ h=>NE9.out.2.2.2.1 h) (ncl (words (X2))) _ (V8.out.range) Tryz.underlying63 rfl size63) ?_
        simp only [Act.put,List.setIfInBounds_toArray,List.set_cons_zero,List.set_cons_succ]
        refine wpAnyT_take (i:=3) (v:=nv (words g2)) 96 (by kernel_rfl) rfl rfl rfl (by kernel_rfl) (by kernel_rfl) (by kernel_rfl) (fun _ _ _ h=>h) (YT.call (by rfl) 60 #[.agg cvl'.toArray,nv (words X2)] (fun w=>by go_simp) (fun w m=>ci'.out w)) ?_
        simp only [Act.put,List.setIfInBounds_toArray,List.set_cons_zero,List.set_cons_succ]
        refine wpAnyT_take (i:=4) (v:=.tuple #[nv (words y2),.bool ok2]) 97 (by kernel_rfl) rfl rfl rfl (by kernel_rfl) (by kernel_rfl) (by kernel_rfl) (fun _ _ _ h=>h) (YT.call (by rfl) 59 #[.agg cvl'.toArray,nv (words g2)] (fun w=>by go_simp) (fun w m=>ck.out w)) ?_
        simp only [Act.put,List.setIfInBounds_toArray,List.set_cons_zero,List.set_cons_succ]
        refine wpAnyT_take (i:=5) (v:=.tuple #[nv (words y2),.bool ok2]) 92 (by kernel_rfl) rfl rfl rfl (by kernel_rfl) (by kernel_rfl) (by kernel_rfl) (fun _ _ _ h=>h) (YT.pure (by rfl) (fun w=>by go_simp)) ?_
        simp only [Act.put,List.setIfInBounds_toArray,List.set_cons_zero,List.set_cons_succ]
        refine wpAnyT_take (i:=6) (v:=nv (words y2)) 98 (by kernel_rfl) rfl rfl rfl (by kernel_rfl) (by kernel_rfl) (by kernel_rfl) (fun _ _ _ h=>h) (YT.pure (by rfl) (fun w=>by go_simp)) ?_
        simp only [Act.put,List.setIfInBounds_toArray,List.set_cons_zero,List.set_cons_succ]
        refine wpAnyT_take (i:=7) (v:=.bool ok2) 99 (by kernel_rfl) rfl rfl rfl (by kernel_rfl) (by kernel_rfl) (by kernel_rfl) (fun _ _ _ h=>h) (YT.pure (by rfl) (fun w=>by go_simp)) ?_
        simp only [Act.put,List.setIfInBounds_toArray,List.set_cons_zero,List.set_cons_succ]
        refine wpAnyT_store1 (i:=8) (by kernel_rfl) rfl rfl rfl 63 (.tmp 9) (.tmp 98) rfl b9 0 (nc (words (y2))) rfl rfl (V9.out.there9 (words (y2))) (size63n _) (nc_one _) (fun w h=>nine_into (words y2) h) ?_
        intro wb7 mc7 md7
        refine wpAnyT_done (by kernel_rfl) ?_ _
        intro wt7 me7
        have hst:=nine_stored (g:=words y2) V9.out mc7 me7
        have RES:Hid (MpB w k b0 b1 b2 b8 b9 u X2 y2 wt7):=Lib.hid ⟨C.out.mod hst.2 fun _ h=>NE9.out.1 h,X.out.mod hst.2 fun _ h=>NE9.out.2.1 h,Z.out.mod hst.2 fun _ h=>NE9.out.2.2.1 h,V8.out.mod hst.2 fun _ h=>NE9.out.2.2.2.1 h,hst.1,MM.out.fresh hst.2 NE9.out.2.2.2.2⟩
        clear hst mc7 md7 me7
        go_wp2_with fail
        go_meet
        case rel=>exact ⟨rfl,RES⟩
    case rest =>
      obtain ⟨wB,rfl⟩:∃ wB,wB=wc:=⟨_,rfl⟩
      obtain ⟨rfl,hst⟩:=hcut
      obtain ⟨m1,m2,m3,m4,m5,m6⟩:=hst.out
      clear C X Z V6 V8 V9 MM hst cf cg ch ci' ck c0 c1 c2 c3 c4 c5 NE8
      have hyy:(if ok=true then y1 else y2)=y1∨(if ok=true then y1 else y2)=y2:=by cases ok <;> simp
      rw [← EX.out] at m4
      obtain ⟨hyc,hy9⟩:=HY.out _ hyy
      generalize hY:(if ok=true then y1 else y2)=Y at *
      have HYC:=Lib.hid hyc
      have EY':Hid (specY p B mz u i3 it i0=mSign p u Y):=Lib.hid (by rw [EY.out])
      have C:=Lib.hid m1
      have X:=Lib.hid m2
      have Z:=Lib.hid m3
      have V8:=Lib.hid m4
      have V9:=Lib.hid m5
      have MM:=Lib.hid m6
      clear m1 m2 m3 m4 m5 m6 EX EY HY hyc hyy hY EX1
      generalize specX p B mz u i3 it i0=XX at *
      generalize specY p B mz u i3 it i0=YY at *
      have q0:words u 0%2=u%2:=by unfold words;rw [Nat.pow_zero,Nat.div_one,show B64=2*9223372036854775808 from rfl,Nat.mod_mul_right_mod]
      have q1:words Y 0%2=Y%2:=by unfold words;rw [Nat.pow_zero,Nat.div_one,show B64=2*9223372036854775808 from rfl,Nat.mod_mul_right_mod]
      obtain ⟨a0,_⟩:=X.out.nine
      obtain ⟨d0,_⟩:=V9.out.nine
      obtain ⟨r0,hr0⟩:∃ r,r=words u 0:=⟨_,rfl⟩
      obtain ⟨r1,hr1⟩:∃ r,r=words Y 0:=⟨_,rfl⟩
      rw [← hr0] at a0 q0
      rw [← hr1] at d0 q1
      clear hr0 hr1
      obtain ⟨b3,hb3⟩:∃ b,((r0:Int)%2 == (r1:Int)%2)=b:=⟨_,rfl⟩
      have hb3':((r0:Int)%2 != (r1:Int)%2) = !b3:=by rw [← hb3];rfl
      have HS:Hid (YY=if b3 then Y else ms p 0 Y):=Lib.hid (by
        rw [EY'.out]
        unfold mSign
        by_cases h:u%2=Y%2
        · have:b3=true:=by rw [← hb3];simp;omega
          rw [if_pos h,this,if_pos rfl]
        · have:b3=false:=by rw [← hb3];simp;omega
          rw [if_neg h,this,if_neg (by decide)])
      clear q0 q1
      go_upto_if 106 with fail
      clear a0 d0 hb3 hb3'
      go_cut [9] from 107 to 111 (fun s9 wx=>s9=.pointer (some ⟨b9,0,none⟩)∧Hid (NIs wx b8 (words XX)∧NIs wx b9 (words YY)∧ZAt wx b2∧Mod NoP w wx))
      case first =>
        cases b3 with
        | true =>
          have RES:Hid (NIs wB b8 (words XX)∧NIs wB b9 (words YY)∧ZAt wB b2∧Mod NoP w wB):=Lib.hid ⟨V8.out,by rw [HS.out];exact V9.out,Z.out,MM.out⟩
          go_wp2_with fail
          go_meet
          case rel=>exact ⟨rfl,RES⟩
        | false =>
          go_upto_region 13 with fail
          apply wp_region_lit
          refine wpList_val (v:=zV) 107 rfl rfl (by go_simp) ?_
          simp only [Act.put,List.setIfInBounds_toArray,List.set_cons_zero,List.set_cons_succ]
          refine wpList_row 108 rfl rfl 63 (.tmp 9) rfl b9 0 rfl (ncl (words (Y))) _ (V9.out.range) Tryz.underlying63 rfl size63 ?_
          simp only [Act.put,List.setIfInBounds_toArray,List.set_cons_zero,List.set_cons_succ]
          refine wpList_val (v:=.pointer (some ⟨b0,0,none⟩)) 109 rfl rfl (by go_simp) ?_
          simp only [Act.put,List.setIfInBounds_toArray,List.set_cons_zero,List.set_cons_succ]
          refine wpList_row 110 rfl rfl 63 (.tmp 109) rfl b0 0 rfl (ncl (words (p))) _ ((HPR.out _ _ C.out).1) Tryz.underlying63 rfl size63 ?_
          simp only [Act.put,List.setIfInBounds_toArray,List.set_cons_zero,List.set_cons_succ]
          refine wpList_callV (v:=nv (words (ms p 0 Y))) 111 rfl rfl 34 #[zV,nv (words Y),nv (words p)] (by go_simp) (HYC.out _) ?_
          intro w5 mw5
          simp only [Act.put,List.setIfInBounds_toArray,List.set_cons_zero,List.set_cons_succ]
          refine wpList_store rfl rfl 63 (.tmp 9) (.tmp 111) rfl b9 0 (nc (words (ms p 0 Y))) rfl rfl ((V9.out.mod mw5 fun _ h=>h).there9 (words (ms p 0 Y))) (size63n _) (nc_one _) ?_
          have hst:=nine_stored (g:=words (ms p 0 Y)) V9.out mw5 (.refl NoP _)
          generalize hw6:w5.setCells b9 0 (nc (words (ms p 0 Y))).toList=w6 at *
          clear hw6
          have RES:Hid (NIs w6 b8 (words XX)∧NIs w6 b9 (words YY)∧ZAt w6 b2∧Mod NoP w w6):=Lib.hid ⟨V8.out.mod hst.2 fun _ h=>NE9.out.2.2.2.1 h,by rw [HS.out];exact hst.1,Z.out.mod hst.2 fun _ h=>NE9.out.2.2.1 h,MM.out.fresh hst.2 NE9.out.2.2.2.2⟩
          clear hst mw5
          go_wp2_with fail
          go_meet
          case rel=>exact ⟨rfl,RES⟩
      case rest =>
        obtain ⟨rfl,hst⟩:=hcut
        obtain ⟨m1,m2,m3,m4⟩:=hst.out
        clear C X Z V8 V9 MM hst HS HYC
        have V8:=Lib.hid m1
        have V9:=Lib.hid m2
        have Z:=Lib.hid m3
        have MM:=Lib.hid m4
        clear m1 m2 m3 m4
        go_upto_region 14 with fail
        apply wp_region_lit
        refine wpList_row 112 rfl rfl 63 (.tmp 8) rfl b8 0 rfl (ncl (words (XX))) _ (V8.out.range) Tryz.underlying63 rfl size63 ?_
        simp only [Act.put,List.setIfInBounds_toArray,List.set_cons_zero,List.set_cons_succ]
        refine wpList_row 113 rfl rfl 63 (.tmp 9) rfl b9 0 rfl (ncl (words (YY))) _ (V9.out.range) Tryz.underlying63 rfl size63 ?_
        simp only [Act.put,List.setIfInBounds_toArray,List.set_cons_zero,List.set_cons_succ]
        refine wpList_val (v:=.agg (spl (words XX) (words YY)).toArray) 114 rfl rfl (by go_simp) ?_
        simp only [Act.put,List.setIfInBounds_toArray,List.set_cons_zero,List.set_cons_succ]
        refine wpList_store rfl rfl 83 (.tmp 4) (.tmp 114) rfl b2 0 (spl (words XX) (words YY)).toArray rfl rfl (ZAt.there Z.out (words XX) (words YY)) (size83n (words XX) (words YY)) (spl_one (words XX) (words YY)) ?_
        have hst:=spot_stored (words XX) (words YY) Z.out
        generalize hw9:wc.setCells b2 0 (spl (words XX) (words YY)).toArray.toList=w9 at *
        clear hw9
        have RES:=Lib.hid (MM.out.fresh hst.2 (by have:=NE0.out;omega))
        have V:=Lib.hid hst.1
        clear hst
        go_wp2_with fail
        exact bodyPost_ret (v:=spotV XX YY) (result41 _ _ b2 rfl _ V.out) rfl ⟨rfl,RES.out⟩
end Go.Proofs.YtpfmbfkhjapbbaaGreatDoor
