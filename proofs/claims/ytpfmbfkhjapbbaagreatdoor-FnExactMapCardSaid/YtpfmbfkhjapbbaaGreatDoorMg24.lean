/-
  impl.pointOf, walked: the bytes of an element's Ints. Conditions: a group of one of the three curves; numbers that fit into a coordinate's bytes, not both 0.
  impl.Map, walked: the bytes of the specification's point. Conditions: a curve; the bytes of a number below its prime, as many as a coordinate has; the thresholds hold what they were set to; io.EOF holds an errors.errorString's pointer.
  The specification's Told: a spot's bytes. Condition: numbers below 2^576.
  The specification's Mapped and Same: the point over a number; two points of the same bytes. Condition: a row of the curve's length, below its prime.
  laws.FnExactMap, walked: it returns true and turns no cell that was there. Conditions: io.EOF holds an errors.errorString's pointer; the thresholds stand; a slice of bytes.
-/
import Derived.Test.YtpfmbfkhjapbbaaGreatDoorMg01
import Derived.Test.YtpfmbfkhjapbbaaGreatDoorMg14
import Derived.Test.YtpfmbfkhjapbbaaGreatDoorMg15
import Derived.Test.YtpfmbfkhjapbbaaGreatDoorMg16
import Derived.Test.YtpfmbfkhjapbbaaGreatDoorMg18
import Derived.Test.YtpfmbfkhjapbbaaGreatDoorMSpecMp
import Derived.Test.YtpfmbfkhjapbbaaGreatDoorMg23
import Derived.Laws.BytesArg
set_option linter.unusedVariables false
set_option linter.unusedSimpArgs false
namespace Go.Proofs.YtpfmbfkhjapbbaaGreatDoor
section
open Go Go.RowKit
def PtRet (w:World) (L x y:Nat) (e:Ending) (w':World):Prop :=
  ∃ (b1 b2:Nat),e=.returned (.agg #[.slice (some ⟨b1,0,none⟩) L L,.slice (some ⟨b2,0,none⟩) L L])∧BArr w' (some ⟨b1,0,none⟩) L (byteAt L x)∧BArr w' (some ⟨b2,0,none⟩) L (byteAt L y)∧Mod NoP w w'∧w.heap.size≤b1∧w.heap.size≤b2
def BNew (w w':World) (b L v:Nat):Prop:=BArr w' (some ⟨b,0,none⟩) L (byteAt L v)∧Mod (InB b) w w'∧b<w.heap.size
theorem BNew.nop {w w1 w2:World} {b L v:Nat} (m:Mod NoP w w1) (h:BNew w1 w2 b L v) (hp:w.heap.size≤b):Mod NoP w w2:=m.fresh' h.2.1 hp
theorem BNew.heap {w w':World} {b L v k:Nat} (h:BNew w w' b L v) (hk:k<w.heap.size) (hne:k≠b):w'.heap[k]? = w.heap[k]? := h.2.1.heap hk fun o hh=>hne hh
theorem BNew.keep {w1 w2 w3 w4:World} {b c L v u:Nat} (h:BNew w1 w2 b L v) (m:Mod NoP w2 w3) (k:BNew w3 w4 c L u) (hne:b≠c):BArr w4 (some ⟨b,0,none⟩) L (byteAt L v) :=
  ((h.1.mod m (Off.noP _)).mod k.2.1) fun A hA o hh=>by
    injection hA with hA
    subst hA
    exact hne hh
theorem BNew.size {w w':World} {b L v:Nat} (h:BNew w w' b L v):b<w'.heap.size:=Nat.lt_of_lt_of_le h.2.2 h.2.1.size
theorem pow_le_B (L n:Nat) (h:8*L≤64*n):256^L≤B64^n:=by
  rw [show (256:Nat)=2^8 from rfl,show B64=2^64 from rfl,← Nat.pow_mul,← Nat.pow_mul]
  exact Nat.pow_le_pow_right (by omega) h
theorem fillNew (w:World) (q b L v:Nat) (hq:IsInt w q (v:Int)) (hb:w.heap[b]? = some (zerosB L)) (hL:L≤72) (hL0:0<L) (hv:v<256^L) (hql:q≠b) (hAl:∀ a n c f,IntIs w q false a n c f v→¬ BlkOf a b 0) :
    Calls Tryz.prog 57 #[.pointer (some ⟨q,0,none⟩),.slice (some ⟨b,0,none⟩) L L] w fun e w'=>e=.returned (.slice (some ⟨b,0,none⟩) L L)∧BNew w w' b L v:=by
  obtain ⟨a,n,c,f,h⟩:=hq
  rw [decide_eq_false (by omega),Int.natAbs_natCast] at h
  have hB:BArr w (some ⟨b,0,none⟩) L (fun _=>0):=.inr ⟨b,_,_,rfl,hb,size_madeCells _ _,fun j hj=>by simp [madeCells,hj,Nat.mod_one]⟩
  have hn:n≤100:=h.num.len_le (Nat.lt_of_lt_of_le hv (by
    have h2:=pow_le_B L 100 (by omega)
    omega))
  refine (fillBytes_any q n c v b L false a f (fun _=>0) w h (by omega) hB (by omega) hL0 hv (hAl a n c f h) hql).mono ?_
  rintro e w' ⟨rfl,h1,h2⟩
  exact ⟨rfl,h1,h2,lt_of_heap hb⟩
theorem not_words {wA w1:World} {q b v:Nat} (hq:IsInt wA q (v:Int)) (m:Mod NoP wA w1) (hb:wA.heap.size≤b):∀ a n c f,IntIs w1 q false a n c f v→¬ BlkOf a b 0:=by
  intro a n c f h hh
  obtain ⟨a',n',c',f',h'⟩:=hq
  rw [decide_eq_false (by omega),Int.natAbs_natCast] at h'
  have h2:=h'.mod m (fun _ h=>h) (Off.noP _)
  have e:=h2.cells.symm.trans h.cells
  injection e with e
  injection e with e _ _
  have e1:=congrArg (fun x=>x[1]?) e
  simp at e1
  obtain ⟨rfl,_⟩:=e1
  obtain ⟨A,hA,hb2⟩:=hh
  have:=h'.ltA A hA
  omega
theorem Mod.set2 {wA wy:World} (br:Nat) (my:Mod NoP wA wy) (v v':Value):Mod (InB br) wA ((wy.setCell ⟨br,0,none⟩ v).setCell ⟨br,1,none⟩ v'):=((my.of_none (M:=InB br)).setCell (fun _=>rfl) v).setCell (fun _=>rfl) v'
theorem PtRet.mk {w wA wy:World} {br b1 b2 L x y:Nat} {v v':Value} (MA:Mod NoP w wA) (my:Mod NoP wA wy) (hbr:w.heap.size≤br) (kx:BArr wy (some ⟨b1,0,none⟩) L (byteAt L x)) (ky:BArr wy (some ⟨b2,0,none⟩) L (byteAt L y)) (h1:b1≠br) (h2:b2≠br) (h3:wA.heap.size≤b1) (h4:wA.heap.size≤b2) :
    PtRet w L x y (.returned (.agg #[.slice (some ⟨b1,0,none⟩) L L,.slice (some ⟨b2,0,none⟩) L L])) ((wy.setCell ⟨br,0,none⟩ v).setCell ⟨br,1,none⟩ v'):=by
  have m:=Mod.set2 br (Mod.refl NoP wy) v v'
  refine ⟨b1,b2,rfl,kx.mod m fun A hA o hh => ?_,ky.mod m fun A hA o hh => ?_,(MA.trans my).fresh' m hbr,Nat.le_trans MA.size h3,Nat.le_trans MA.size h4⟩
  · injection hA with hA
    subst hA
    exact h1 hh
  · injection hA with hA
    subst hA
    exact h2 hh
set_option maxRecDepth 100000 in
set_option maxHeartbeats 4000000 in
theorem pointOf_any (k:Nat) (hk:k≤2) (el px py x y prm go lo:Nat) (w:World) (hel:w.heap[el]? = some (.cells #[.pointer (some ⟨px,0,none⟩),.pointer (some ⟨py,0,none⟩),.iface 125 (.pointer (some ⟨prm,0,none⟩)),.slice (some ⟨go,0,none⟩) (lenK k) (lenK k)] 131 (0,0)))
    (hG:GrpIs w lo k (.agg #[.iface 125 (.pointer (some ⟨prm,0,none⟩)),.slice (some ⟨go,0,none⟩) (lenK k) (lenK k)])) (hx:IsInt w px (x:Int)) (hy:IsInt w py (y:Int)) (bx:x<256^lenK k) (b_y:y<256^lenK k) (bx9:x<B64^9) (by9:y<B64^9) (hne:¬ (x=0∧y=0)) :
    Calls Tryz.prog 38 #[.iface 113 (.pointer (some ⟨el,0,none⟩))] w (PtRet w (lenK k) x y):=by
  have hl:=lenK_le k hk
  have HSZ:=Lib.hid (fun w1 (m:Mod NoP w w1)=>size56 k hk prm go lo w1 (hG.mod m nop))
  clear hG
  generalize lenK k=L at *
  have hL0:0<L:=by omega
  have HEL:=Lib.hid (fun w1 (m:Mod NoP w w1)=>(by
    have h:=(m.heap (lt_of_heap hel) fun _ h=>h).trans hel
    refine ⟨by rw [cell?_of_heap h];rfl,by rw [cell?_of_heap h];rfl,by rw [cell?_of_heap h];rfl,by rw [cell?_of_heap h];rfl⟩:w1.cell? ⟨el,0,none⟩=some (.pointer (some ⟨px,0,none⟩))∧w1.cell? ⟨el,1,none⟩=some (.pointer (some ⟨py,0,none⟩))∧w1.cell? ⟨el,2,none⟩=some (.iface 125 (.pointer (some ⟨prm,0,none⟩)))∧w1.cell? ⟨el,3,none⟩=some (.slice (some ⟨go,0,none⟩) L L)))
  have HID:=Lib.hid (fun w1 (m:Mod NoP w w1)=>isId_any el px py x y w1 (HEL.out w1 m).1 (HEL.out w1 m).2.1 (hx.mod m) (hy.mod m) hne)
  have HAF:=Lib.hid (fun w1 (m:Mod NoP w w1)=>affine_any el px py x y w1 (HEL.out w1 m).1 (HEL.out w1 m).2.1 (hx.mod m) (hy.mod m) bx9 by9)
  have HGR:=Lib.hid (fun w1 (m:Mod NoP w w1)=>group_any el prm go L w1 (HEL.out w1 m).2.2.1 (HEL.out w1 m).2.2.2)
  have hm1:=fun W=>methodId W ⟨el,0,none⟩
  have hm2:=fun W=>methodGrp W ⟨el,0,none⟩
  have m1:Mod NoP w (w.alloc (.cells #[.slice none 0 0,.slice none 0 0] 37 (0,0))):=(Mod.refl NoP w).alloc _
  have hbr:=heap_alloc_new w (.cells #[.slice none 0 0,.slice none 0 0] 37 (0,0))
  have HB:=Lib.hid (And.intro bx b_y)
  clear hel hx hy bx b_y bx9 by9 hne
  go_enter Tryz.func38,Tryz.ntmps38
  go_upto_region 1 with fail
  generalize hw1:w.alloc (.cells #[.slice none 0 0,.slice none 0 0] 37 (0,0))=w1 at *
  clear hw1
  have M1:=Lib.hid m1
  have HBR:=Lib.hid hbr
  have I1:=Lib.hid (HID.out w1 m1)
  have A1:=Lib.hid (HAF.out w1 m1)
  clear m1 hbr HID HAF
  generalize hbr':w.heap.size=br at *
  go_wp2_with fail
  refine I1.out.mono ?_
  rintro e w' ⟨rfl,hw'⟩
  obtain rfl:=hw'.symm
  go_wp2_with fail
  refine A1.out.mono ?_
  rintro e w2 ⟨qx,qy,rfl,ix,iy,m2⟩
  have M2:=Lib.hid (M1.out.trans m2)
  have G2:=Lib.hid (HGR.out w2 M2.out)
  have S2:=Lib.hid (HSZ.out w2 M2.out)
  have IX:=Lib.hid ix
  have IY:=Lib.hid iy
  have HB2:=Lib.hid ((m2.heap (lt_of_heap HBR.out) fun _ h=>h).trans HBR.out)
  clear ix iy m2 I1 A1 HGR HSZ HEL
  go_wp2_with fail
  refine G2.out.mono ?_
  rintro e w' ⟨rfl,hw'⟩
  obtain rfl:=hw'.symm
  go_wp2_with fail
  refine S2.out.mono ?_
  rintro e wA ⟨rfl,m3⟩
  have MA:=Lib.hid (M2.out.trans m3)
  have JX:=Lib.hid (IX.out.mod m3)
  have JY:=Lib.hid (IY.out.mod m3)
  have HBA:=Lib.hid ((m3.heap (lt_of_heap HB2.out) fun _ h=>h).trans HB2.out)
  clear m3 G2 S2 IX IY HB2 M2 hm1 hm2
  go_upto_region 5 with fail
  have lx:qx<wA.heap.size:=by obtain ⟨a,n,c,f,h⟩:=JX.out;exact lt_of_heap h.cells
  have ly:qy<wA.heap.size:=by obtain ⟨a,n,c,f,h⟩:=JY.out;exact lt_of_heap h.cells
  have lb:=lt_of_heap HBA.out
  have HX:Hid (∀ w1 b,Mod NoP wA w1→w1.heap[b]? = some (zerosB L)→wA.heap.size≤b→Calls Tryz.prog 57 #[.pointer (some ⟨qx,0,none⟩),.slice (some ⟨b,0,none⟩) L L] w1 fun e w'=>e=.returned (.slice (some ⟨b,0,none⟩) L L)∧BNew w1 w' b L x) :=
    Lib.hid fun w1 b m hz hp=>fillNew w1 qx b L x (JX.out.mod m) hz (by omega) hL0 HB.out.1 (by omega) (not_words JX.out m hp)
  have HY:Hid (∀ w1 b,Mod NoP wA w1→w1.heap[b]? = some (zerosB L)→wA.heap.size≤b→Calls Tryz.prog 57 #[.pointer (some ⟨qy,0,none⟩),.slice (some ⟨b,0,none⟩) L L] w1 fun e w'=>e=.returned (.slice (some ⟨b,0,none⟩) L L)∧BNew w1 w' b L y) :=
    Lib.hid fun w1 b m hz hp=>fillNew w1 qy b L y (JY.out.mod m) hz (by omega) hL0 HB.out.2 (by omega) (not_words JY.out m hp)
  have HC:Hid (∀ w1,Mod NoP wA w1→w1.cell? ⟨br,0,none⟩=some (.slice none 0 0)∧w1.cell? ⟨br,1,none⟩=some (.slice none 0 0)∧w1.frozen? ⟨br,0,none⟩=false∧w1.frozen? ⟨br,1,none⟩=false):=Lib.hid fun w1 m=>by
    have h:=(m.heap lb fun _ h=>h).trans HBA.out
    exact ⟨by rw [cell?_of_heap h];rfl,by rw [cell?_of_heap h];rfl,free_of_heap h _,free_of_heap h _⟩
  have LB:=Lib.hid lb
  have hmk:=fun u=>makeSlice22 L L (Nat.le_refl _) (by omega) u (L:Int) (L:Int) rfl rfl
  clear lx ly lb HB JX JY
  go_region_held3 (fun w'=>Mod (InB br) wA w')
    (first | exact mS.out _ _ | (repeat (first | assumption | exact (my.of_none) | exact (mx.of_none) | exact Mod.refl _ _ | refine Mod.drew ?_ | refine Mod.alloc ?_ _)))
    (first
      | (go_at_call_of 57 (Value.pointer (some ⟨qx,0,none⟩));refine (HX.out _ _ ?hm ?hz ?hl).mono ?_;(case hm=>(repeat (first | exact Mod.refl NoP _ | refine Mod.drew ?_ | refine Mod.alloc ?_ _)));(case hz=>first | exact heap_alloc_new wA (zerosB L) | exact (two_new wA (zerosB L) (zerosB L)).1 | exact (two_new wA (zerosB L) (zerosB L)).2.1);(case hl=>first | exact Nat.le_refl _ | exact Nat.le_succ _);rintro e wx ⟨rfl,ix⟩;have mx:Mod NoP wA wx:=BNew.nop (by (repeat (first | exact Mod.refl NoP _ | refine Mod.drew ?_ | refine Mod.alloc ?_ _))) ix (by first | exact Nat.le_refl _ | exact Nat.le_succ _))
      | (go_at_call_of 57 (Value.pointer (some ⟨qy,0,none⟩));refine (HY.out _ _ ?hm ?hz ?hl).mono ?_;(case hm=>(repeat (first | exact mx | refine Mod.drew ?_ | refine Mod.alloc ?_ _)));(case hz=>first | exact heap_alloc_new wx (zerosB L) | exact (ix.heap (by first | (simp;done) | (simp;omega)) (by omega)).trans (two_new wA (zerosB L) (zerosB L)).1 | exact (ix.heap (by first | (simp;done) | (simp;omega)) (by omega)).trans (two_new wA (zerosB L) (zerosB L)).2.1);(case hl=>first | exact mx.size | exact Nat.le_refl _ | exact Nat.le_succ _);rintro e wy ⟨rfl,iy⟩;have my:Mod NoP wA wy:=BNew.nop (by (repeat (first | exact mx | refine Mod.drew ?_ | refine Mod.alloc ?_ _))) iy (by first | exact mx.size | exact Nat.le_refl _ | exact Nat.le_succ _);(first | (have kx:=ix.keep ((Mod.refl NoP wx).alloc (zerosB L)) iy (Nat.ne_of_lt ix.size)) | (have kx:=ix.keep (Mod.refl NoP wx) iy (by omega)));obtain ⟨s0,s1,s2,s3⟩:=HC.out wy my;have mS:Hid (∀ v v',Mod (InB br) wA ((wy.setCell ⟨br,0,none⟩ v).setCell ⟨br,1,none⟩ v')):=Lib.hid fun v v'=>Mod.set2 br my v v'))
  all_goals (
    have hsx:wA.heap.size≤wx.heap.size:=mx.size
    have hlb:=LB.out
    have hge:w.heap.size≤br:=by omega
    clear HX HY HC mS hmk)
  all_goals (go_wp2_with fail)
  all_goals (first
    | exact bodyPost_ret (v:=.agg #[.slice (some ⟨wA.heap.size,0,none⟩) L L,.slice (some ⟨wx.heap.size,0,none⟩) L L]) (by simp [results,Tryz.results38,go_sem, *]) rfl (PtRet.mk MA.out my hge kx iy.1 (by omega) (by omega) (by omega) (by omega))
    | exact bodyPost_ret (v:=.agg #[.slice (some ⟨wA.heap.size,0,none⟩) L L,.slice (some ⟨wA.heap.size+1,0,none⟩) L L]) (by simp [results,Tryz.results38,go_sem, *]) rfl (PtRet.mk MA.out my hge kx iy.1 (by omega) (by omega) (by omega) (by omega))
    | exact bodyPost_ret (v:=.agg #[.slice (some ⟨wA.heap.size+1,0,none⟩) L L,.slice (some ⟨wA.heap.size,0,none⟩) L L]) (by simp [results,Tryz.results38,go_sem, *]) rfl (PtRet.mk MA.out my hge kx iy.1 (by omega) (by omega) (by omega) (by omega)))
end
section
open Go Go.RowKit
def j0K:Nat→Nat | 1=>nJ0_384 | 2=>nJ0_521 | _=>nJ0_256
theorem crvK (k:Nat) (hk:k≤2):CrvOk (pK k) (bK k) (mzK k) (c2K k) (j0K k):=by
  obtain rfl | rfl | rfl:k=0∨k=1∨k=2:=by omega
  · exact crv256
  · exact crv384
  · exact crv521
theorem prK (k:Nat) (hk:k≤2):Pr (pK k):=by
  obtain rfl | rfl | rfl:k=0∨k=1∨k=2:=by omega
  · exact prime256
  · exact prime384
  · exact prime521
theorem numK (k:Nat) (hk:k≤2):4*B64+3≤pK k∧pK k<B64^9∧bK k<B64^9∧c2K k<B64^9∧mzK k<B64^9∧pK k<256^lenK k∧bK k<pK k∧0<bK k∧3<pK k:=by
  obtain rfl | rfl | rfl:k=0∨k=1∨k=2:=by omega
  all_goals decide +kernel
theorem inv_exists {p:Nat} (hp:Pr p) {a:Nat} (ha:a<p) (h0:a≠0):∃ x,x<p∧mm p a x=1:=by
  have hp2:=hp.1
  haveI:NeZero p:=⟨by omega⟩
  have hne:cc p a≠0:=fun h=>h0 (Nat.eq_zero_of_dvd_of_lt (cc_eq_zero.1 h) ha)
  refine ⟨a^(p - 2)%p,Nat.mod_lt _ (by omega),?_⟩
  refine cc_inj (mm_lt _ _) (by omega) ?_
  rw [cc_mm,cc_mod,cc_pow,cc_one,Fin.mul_comm,← fp_pow_succ,show p - 2+1=p - 1 by omega]
  exact fp_fermat hp hne
theorem invN_one {p:Nat} (hp:Pr p) {a:Nat} (ha:a<p) (h0:a≠0):mm p a (invN p a)=1:=by
  obtain ⟨x,hx,h⟩:=inv_exists hp ha h0
  exact (invN_spec hx h).2
section
variable {p B mz C2 j0 u:Nat}
theorem n3_ne (hp:Pr p) (hmz:mz<p) (hj:mm p (3*mz) j0=1):ms p 0 (mm p (ms p 0 mz) 3)≠0:=by
  have hp2:=hp.1
  haveI:NeZero p:=⟨by omega⟩
  intro h
  have e:cc p (ms p 0 (mm p (ms p 0 mz) 3))=cc p (3*mz):=by
    rw [cc_ms (by have:=@mm_lt p _ (ms p 0 mz) 3;omega),cc_mm,cc_ms (by omega),cc_mul,cc_zero,cc_three]
    grind
  rw [h,cc_zero] at e
  have h1:cc p (mm p (3*mz) j0)=0:=by rw [cc_mm,← e];grind
  rw [hj,cc_one] at h1
  have h2:cc p 1=cc p 0:=by rw [cc_one,h1,cc_zero]
  have:=cc_inj (p:=p) (by omega) (by omega) h2
  omega
theorem jD_ne (hp:Pr p) (hmz:mz<p) (hj:mm p (3*mz) j0=1):jD p mz u≠0:=by
  have hp2:=hp.1
  haveI:NeZero p:=⟨by omega⟩
  unfold jD
  split
  · intro h
    have e:ci p (iMul p (-(mz:Int)) (-3))=cc p (3*mz):=by
      rw [ci_iMul,ci_neg,ci_nat,ci_neg,cc_mul,cc_three]
      have:ci p 3=3:=(ci_nat 3).trans cc_three
      rw [this]
      grind
    rw [h] at e
    have e0:ci p 0=0:=(ci_nat 0).trans cc_zero
    rw [e0] at e
    have h1:cc p (mm p (3*mz) j0)=0:=by rw [cc_mm,← e];grind
    rw [hj,cc_one] at h1
    have h2:cc p 1=cc p 0:=by rw [cc_one,h1,cc_zero]
    have:=cc_inj (p:=p) (by omega) (by omega) h2
    omega
  · assumption
theorem mT_lt (hp:0<p):mT p mz u<p:=Nat.mod_lt _ hp
theorem specX_lt (hp:0<p) (i3 it i0:Nat):specX p B mz u i3 it i0<p:=by
  unfold specX
  simp only []
  split
  · unfold mX1
    split <;> exact Nat.mod_lt _ hp
  · exact Nat.mod_lt _ hp
theorem specY_lt (hp:0<p) (i3 it i0:Nat):specY p B mz u i3 it i0<p:=by
  have h:∀ g,mSign p u (mRoot p g)<p:=fun g=>by
    unfold mSign
    split
    · exact Nat.mod_lt _ hp
    · exact Nat.mod_lt _ hp
  unfold specY
  simp only []
  split <;> exact h _
end
noncomputable def ptX (k u:Nat):Nat:=specX (pK k) (bK k) (mzK k) u (invN (pK k) 3) (invN (pK k) (mT (pK k) (mzK k) u)) (invN (pK k) (ms (pK k) 0 (mm (pK k) (ms (pK k) 0 (mzK k)) 3)))
noncomputable def ptY (k u:Nat):Nat:=specY (pK k) (bK k) (mzK k) u (invN (pK k) 3) (invN (pK k) (mT (pK k) (mzK k) u)) (invN (pK k) (ms (pK k) 0 (mm (pK k) (ms (pK k) 0 (mzK k)) 3)))
theorem mapOkK (k:Nat) (hk:k≤2) (u:Nat) (hu:u<pK k):MapOk (pK k) (bK k) (mzK k) u (c2K k):=by
  have C:=crvK k hk
  have N:=numK k hk
  exact ⟨prK k hk,C.h4,hu,N.1,N.2.1,jD_ne (prK k hk) C.hmz C.hj,N.2.2.1,N.2.2.2.2.1,N.2.2.2.1⟩
theorem map_plain (k:Nat) (hk:k≤2) (u t:Nat) (hu:u<pK k) (ht:iMul (pK k) (jD (pK k) (mzK k) u) (t:Int)=1) :
    jX (pK k) (bK k) (mzK k) u (t:Int)=(ptX k u:Int)∧jY (pK k) (bK k) (mzK k) u (c2K k)=(ptY k u:Int):=by
  have C:=crvK k hk
  have N:=numK k hk
  have hp:=prK k hk
  haveI:NeZero (pK k):=⟨by omega⟩
  exact map_law hp C.h4 hu C.hmz C.hC2 (invN_one hp N.2.2.2.2.2.2.2.2 (by omega)) (fun h=>invN_one hp (mT_lt (by omega)) h) (invN_one hp (Nat.mod_lt _ (by omega)) (n3_ne hp C.hmz C.hj)) C.hj ht C.hC C.hsq
theorem pt_lt (k:Nat) (hk:k≤2) (u:Nat):ptX k u<pK k∧ptY k u<pK k:=by
  have N:=numK k hk
  exact ⟨specX_lt (by omega) _ _ _,specY_lt (by omega) _ _ _⟩
theorem pt_ne (k:Nat) (hk:k≤2) (u:Nat):¬ (ptX k u=0∧ptY k u=0):=by
  have N:=numK k hk
  have hp:=prK k hk
  haveI:NeZero (pK k):=⟨by omega⟩
  refine map_ne hp fun h => ?_
  have h1:=Nat.eq_zero_of_dvd_of_lt (cc_eq_zero.1 h) N.2.2.2.2.2.2.1
  omega
set_option maxRecDepth 100000 in
set_option maxHeartbeats 2000000 in
theorem implMap_any (k:Nat) (hk:k≤2) (b o c:Nat) (f:Nat→Nat) (w:World) (ea:Addr) (hE:Eof w ea) (hT:Thr w) (hB:Bts w b o (lenK k) f) (hf:∀ j,j<lenK k→f j<256) (hc:lenK k≤c) (hu:beN f (lenK k)<pK k) :
    Calls Tryz.prog 20 #[.int .i64 k,.slice (some ⟨b,o,none⟩) (lenK k) c] w (PtRet w (lenK k) (ptX k (beN f (lenK k))) (ptY k (beN f (lenK k)))):=by
  have hl:=lenK_le k hk
  have N:=numK k hk
  have hpt:=pt_lt k hk (beN f (lenK k))
  have hne:=pt_ne k hk (beN f (lenK k))
  have hbl:b<w.heap.size:=lt_of_cell? (hB 0 (by omega))
  have HGO:=Lib.hid (fun w1 (m:Mod NoP w w1)=>groupOf_any k hk w1 ea (m.cell_some hE fun h=>h))
  have HSB:=Lib.hid (fun w2 (m:Mod NoP w w2)=>intSetBytes_any w2.heap.size 0 0 0 b o (lenK k) c false none (fun _=>0) f (w2.alloc ZI) ⟨heap_alloc_new w2 _,⟨.nil _ _,Nat.le_refl _,rfl,.inl rfl⟩,fun A hA=>by cases hA⟩ (hB.mod (m.alloc ZI) fun _ _ h=>h) hf (by omega) (by omega) hc (by rintro ⟨A,hA,_⟩;cases hA))
  have HZM:=Lib.hid (fun w3 (m:Mod NoP w w3) g lo pu (hG:GrpIs w3 lo k g) (hU:IsInt w3 pu ((beN f (lenK k):Nat):Int))=>zzMap k hk g lo pu (beN f (lenK k)) w3 ea (m.cell_some hE fun h=>h) (hT.mod m) hG hU (mapOkK k hk _ hu))
  have HPL:=Lib.hid (fun t ht=>map_plain k hk (beN f (lenK k)) t hu ht)
  have HPO:=Lib.hid (fun (x y:Nat) (hx:x<pK k) (hy:y<pK k) (hne:¬ (x=0∧y=0)) el px py prm go lo w4 hel hG ix iy=>pointOf_any k hk el px py x y prm go lo w4 hel hG ix iy (Nat.lt_trans hx N.2.2.2.2.2.1) (Nat.lt_trans hy N.2.2.2.2.2.1) (Nat.lt_trans hx N.2.1) (Nat.lt_trans hy N.2.1) hne)
  have HPT:=Lib.hid (And.intro hpt hne)
  have m1:Mod NoP w (w.alloc (.cells #[.slice none 0 0,.slice none 0 0] 37 (0,0))):=(Mod.refl NoP w).alloc _
  have hbr:=heap_alloc_new w (.cells #[.slice none 0 0,.slice none 0 0] 37 (0,0))
  clear hE hT hB hf hc hu N hpt hne hbl
  generalize beN f (lenK k)=u at *
  generalize hX:ptX k u=X at *
  generalize hY:ptY k u=Y at *
  clear hX hY
  go_enter Tryz.func20,Tryz.ntmps20
  go_upto_region 1 with fail
  generalize hw1:w.alloc (.cells #[.slice none 0 0,.slice none 0 0] 37 (0,0))=w1 at *
  clear hw1
  have M1:=Lib.hid m1
  have HBR:=Lib.hid hbr
  have G1:=Lib.hid (HGO.out w1 m1)
  clear m1 hbr HGO
  generalize hbr':w.heap.size=br at *
  go_wp2_with fail
  refine G1.out.mono ?_
  rintro e w2 ⟨g,rfl,hG,m2⟩
  have M2:=Lib.hid (M1.out.trans m2)
  have HB2:=Lib.hid ((m2.heap (lt_of_heap HBR.out) fun _ h=>h).trans HBR.out)
  have S2:=Lib.hid (HSB.out w2 M2.out)
  have GG:=Lib.hid hG
  clear m2 hG G1 HSB
  go_wp2_with fail
  refine S2.out.mono ?_
  rintro e w3 ⟨rfl,a,n,c',f',hI,m3,hf3⟩
  have m3':Mod NoP w2 w3:=((Mod.refl NoP w2).alloc ZI).trans' m3 fun k o hk hh=>by
    rcases hh with hh | ⟨A,hA,_⟩
    · omega
    · cases hA
  have hU:IsInt w3 w2.heap.size (u:Int):=⟨a,n,c',f',by rw [decide_eq_false (by omega),Int.natAbs_natCast];exact hI⟩
  have M3:=Lib.hid (M2.out.trans m3')
  have HB3:=Lib.hid ((m3'.heap (lt_of_heap HB2.out) fun _ h=>h).trans HB2.out)
  have G3:=Lib.hid (GG.out.mod m3' nop)
  have Z3:=Lib.hid (HZM.out w3 M3.out g _ _ G3.out hU)
  clear hI m3 hf3 m3' hU S2 GG HB2 HZM
  go_wp2_with fail
  refine Z3.out.mono ?_
  rintro e w4 ⟨g0,g1,hg,t,el,px,py,ht,hi,rfl,hle,hel,m4,ix,iy⟩
  obtain ⟨e1,e2⟩:=HPL.out t hi
  rw [e1] at ix
  rw [e2] at iy
  have G4:=G3.out.mod m4 nop
  obtain ⟨prm,go,hgg,_⟩:=id G4
  rw [hgg] at hg G4
  injection hg with hg
  simp at hg
  obtain ⟨rfl,rfl⟩:=hg
  have P4:=Lib.hid (HPO.out X Y HPT.out.1.1 HPT.out.1.2 HPT.out.2 el px py prm go _ w4 hel G4 ix iy)
  have M4:=Lib.hid (M3.out.trans m4)
  have HB4:=Lib.hid ((m4.heap (lt_of_heap HB3.out) fun _ h=>h).trans HB3.out)
  clear hel m4 ix iy G4 hgg e1 e2 Z3 G3 HB3 HPO HPL hi
  go_wp2_with fail
  refine P4.out.mono ?_
  rintro e w5 ⟨b1,b2,rfl,k1,k2,m5,l1,l2⟩
  have h5:=(m5.heap (lt_of_heap HB4.out) fun _ h=>h).trans HB4.out
  have s0:w5.cell? ⟨br,0,none⟩=some (.slice none 0 0):=by rw [cell?_of_heap h5];rfl
  have s1:w5.cell? ⟨br,1,none⟩=some (.slice none 0 0):=by rw [cell?_of_heap h5];rfl
  have s2:=free_of_heap h5 0
  have s3:=free_of_heap h5 1
  have hlt:=lt_of_heap HB4.out
  have HK:=Lib.hid (fun v v'=>PtRet.mk (v:=v) (v':=v') M4.out m5 (show w.heap.size≤br by omega) k1 k2 (by omega) (by omega) l1 l2)
  clear h5 k1 k2 m5 l1 l2 hlt P4
  go_wp2_with fail
  exact bodyPost_ret (v:=.agg #[.slice (some ⟨b1,0,none⟩) (lenK k) (lenK k),.slice (some ⟨b2,0,none⟩) (lenK k) (lenK k)]) (by simp [results,Tryz.results20,go_sem, *]) rfl (HK.out _ _)
end
section
open Go Go.RowKit
section
variable {P:Program} {ops:Array Oper} {Q:Exit→Act→World→Prop} {md:Region.Mode} {w0:World} {M:Places}
theorem wpAnyT_call {l i:Nat} {fuel:Nat} {listed:Array Bool} {a:Act} {w:World} {o:Oper} (d:Tmp) (hr:Region.ready md ops listed=[i]) (hi:ops[i]? = some o) (hd:o.dst=some d) (hg:o.guard=none) (f:FuncId) (args:Array Value)
    (hrun:∀ w,(execOp a.eval o).run P w=.ok (.enter f args) w)
    (h:∀ w',Mod NoP w w'→Mod M w0 w'→Calls P f args w' fun e w''=>∃ v,e=.returned v∧Mod NoP w' w''∧wpAnyT P md ops Q w0 M l fuel (listed.setIfInBounds i true) (a.put (some d) v) w''):wpAnyT P md ops Q w0 M l (fuel+1) listed a w :=
  wpAnyT_one hr fun w' h1 h2=>wpOp_do hi hg (by
    unfold Oper.wp
    rw [hrun]
    rw [← hd] at h
    refine Calls.mono (h w' h1 h2) fun e w'' he => ?_
    obtain ⟨v,rfl,m,hk⟩:=he
    exact ⟨fun _=>h2.trans m.of_none,hk⟩)
end
theorem size37:(Tryz.prog.info? 37).map (·.size)=some 2:=by kernel_rfl
@[reducible] def z37:Obj:=.cells #[.slice none 0 0,.slice none 0 0] 37 (0,0)
@[reducible] def sl2 (b1 b2 L:Nat):List Value:=[.slice (some ⟨b1,0,none⟩) L L,.slice (some ⟨b2,0,none⟩) L L]
theorem there37 {w:World} {b:Nat} (h:w.heap[b]? = some z37) (b1 b2 L:Nat):w.there b 0 (sl2 b1 b2 L).toArray.size:=fun j hj=>by
  have hj:j<2:=hj
  refine ⟨?_,free_of_heap h _⟩
  rw [cell?_of_heap h,Nat.zero_add,Array.getElem?_eq_getElem (show j<#[Value.slice none 0 0,.slice none 0 0].size from hj)]
  rfl
theorem two_stored {w w1 w2:World} {b:Nat} (b1 b2 L:Nat) (h:w.heap[b]? = some z37) (m:Mod NoP w w1) (m2:Mod NoP (w1.setCells b 0 (sl2 b1 b2 L).toArray.toList) w2):w2.rangeAt b 0 (sl2 b1 b2 L)∧Mod (InB b) w w2:=by
  have ht:=there37 ((m.heap (lt_of_heap h) fun _ h=>h).trans h) b1 b2 L
  constructor
  · intro j v hv
    have hj:j<(sl2 b1 b2 L).length:=(List.getElem?_eq_some_iff.1 hv).1
    have:=World.cell?_setCells_in b (sl2 b1 b2 L) 0 w1 (fun i hi=>(ht i hi).1) j hj
    have e:=(List.getElem?_eq_some_iff.1 hv).2
    rw [e] at this
    exact m2.cell_some this fun h=>h
  · have:∀ (vs:List Value) (o:Nat) (w:World),Mod (InB b) w (w.setCells b o vs):=by
      intro vs
      induction vs with
      | nil=>intro o w;exact .refl _ _
      | cons v vs ih=>intro o w;exact (mod_own w b o v).trans' (ih (o+1) _) fun _ _ _ h=>h
    exact (m.of_none.trans (this _ _ _)).trans m2.of_none
theorem result40 (tmps:Array Value) (w:World) (b:Nat) (hs:tmps.getD 4 undef=.pointer (some ⟨b,0,none⟩)) (cs:List Value) (hr:w.rangeAt b 0 cs) (hl:cs.length=2:=by rfl):(results Tryz.f40 tmps).run Tryz.prog w=.ok (.agg cs.toArray) w:=by
  simp only [results,Tryz.results40]
  simp only [Array.getD_eq_getD_getElem?] at hs
  simp [Sem.run_bind,hs,asAddr,run_loadVar_mid w b 0 37 cs _ hr Tryz.underlying37 rfl (by rw [hl];exact size37)]
def SpAt (w:World) (b x y:Nat):Prop:=w.heap[b]? = some (.cells (spl (words x) (words y)).toArray 83 (0,0))
theorem SpAt.x {w:World} {b x y:Nat} (h:SpAt w b x y):w.rangeAt b 1 (ncl (words x)):=fun j v hv=>by
  rw [cell?_of_heap h]
  have hj:j<9:=(List.getElem?_eq_some_iff.1 hv).1
  obtain rfl | rfl | rfl | rfl | rfl | rfl | rfl | rfl | rfl:j=0∨j=1∨j=2∨j=3∨j=4∨j=5∨j=6∨j=7∨j=8:=by omega
  all_goals exact hv
theorem SpAt.y {w:World} {b x y:Nat} (h:SpAt w b x y):w.rangeAt b 10 (ncl (words y)):=fun j v hv=>by
  rw [cell?_of_heap h]
  have hj:j<9:=(List.getElem?_eq_some_iff.1 hv).1
  obtain rfl | rfl | rfl | rfl | rfl | rfl | rfl | rfl | rfl:j=0∨j=1∨j=2∨j=3∨j=4∨j=5∨j=6∨j=7∨j=8:=by omega
  all_goals exact hv
set_option maxRecDepth 100000 in
set_option maxHeartbeats 4000000 in
theorem told_any (k:Nat) (hk:k≤2) (x y:Nat) (hx:x<B64^9) (hy:y<B64^9) (w:World):Calls Tryz.prog 40 #[.int .i64 k,spotV x y] w (PtRet w (lenK k) x y):=by
  have hl:=lenK_le k hk
  have HB:Hid (∀ v w,v<B64^9→Calls Tryz.prog 35 #[.agg (cvK k).toArray,nv (words v)] w (BRet (lenK k) v w)):=Lib.hid fun v w hv=>by
    have:=specBytesOf (words (pK k)) (words (bK k)) (words (ordK k)) (words (gxK k)) (words (gyK k)) (words v) (lenK k) (mzK k) (longK k) (by omega) (fun j _=>words_lt v j) w
    rwa [val_w hv] at this
  have HBX:=Lib.hid (fun w=>HB.out x w hx)
  have HBY:=Lib.hid (fun w=>HB.out y w hy)
  have HSP:Hid (∀ (w:World) (b:Nat),w.heap[b]? = some (.cells (spl (words x) (words y)).toArray 83 (0,0))→SpAt w b x y):=Lib.hid fun w b h=>h
  have HS0:Hid (∀ (w:World) (b:Nat),SpAt w b x y→w.cell? ⟨b,0,none⟩=some (.bool false)):=Lib.hid fun w b h=>by rw [cell?_of_heap h];rfl
  unfold spotV
  generalize (spl (words x) (words y)).toArray=sv at *
  clear hl HB
  go_enter Tryz.func40,Tryz.ntmps40
  go_upto_region 1 with fail
  obtain ⟨k1,k2,mm0⟩:=two_new w (.cells sv 83 (0,0)) z37
  generalize hw4:(w.alloc (.cells sv 83 (0,0))).alloc z37=w4 at *
  clear hw4
  have SP:=Lib.hid (HSP.out _ _ k1)
  have c0:=HS0.out _ _ SP.out
  have Z:=Lib.hid k2
  have MM:=Lib.hid mm0
  clear k1 k2 mm0 HSP HS0
  have HB0:=Lib.hid (Nat.le_refl w.heap.size)
  generalize hb0:w.heap.size=b0 at *
  generalize hb1:b0+1=b1 at *
  go_wp2_with fail
  refine (curveOf_any k hk _).mono ?_
  rintro e w1 ⟨rfl,m1⟩
  go_upto_region 4 with (refine wpList_store_row rfl 65 (.tmp 5) (.tmp 10) rfl w1.heap.size (cvK k).toArray rfl rfl 65 zl65.toArray (heap_alloc_new w1 _) size65 (zl65_sizeK k) (cvK_one k) ?_)
  generalize hw2:World.setRow _ w1.heap.size (cvK k).toArray=w2
  have hz:=heap_alloc_new w1 (.cells zl65.toArray 65 (0,0))
  have h2:w2.heap[w1.heap.size]? = some (.cells (cvK k).toArray 65 (0,0)):=by rw [← hw2];exact setRow_heap _ _ zl65.toArray _ 65 (0,0) hz
  have m2:Mod NoP w4 w2:=by
    rw [← hw2]
    have:=m1.size
    exact (m1.alloc (.cells zl65.toArray 65 (0,0))).trans' (setRow_mod (t:=65) hz (by rw [zl65_sizeK k])) fun q r hq h=>by unfold InB at h;omega
  have hge:=m1.size
  clear hw2 hz m1
  generalize w1.heap.size=b7 at *
  have SP2:Hid (SpAt w2 b0 x y):=Lib.hid ((m2.heap (lt_of_heap SP.out) fun _ h=>h).trans SP.out)
  have Z2:Hid (w2.heap[b1]? = some z37):=Lib.hid ((m2.heap (lt_of_heap Z.out) fun _ h=>h).trans Z.out)
  have MM2:=Lib.hid (MM.out.trans m2)
  have C2:Hid (CvAt w2 b7 k):=Lib.hid h2
  clear c0 SP Z MM m2 h2
  obtain ⟨cl,hcl⟩:∃ cl,cl=cvK k:=⟨_,rfl⟩
  have HC:Hid (w2.rangeAt b7 0 cl):=Lib.hid (by rw [hcl];exact range_of_heap C2.out)
  have HSZ:Hid ((Tryz.prog.info? 65).map (·.size)=some cl.length):=Lib.hid (by rw [hcl];exact size65)
  rw [← hcl] at HBX HBY
  clear hcl C2
  refine wp_region_T 9 NoP (by kernel_rfl) (by kernel_rfl) ?_
  refine wpAnyT_take (i:=0) (v:=.agg cl.toArray) 11 (by kernel_rfl) rfl rfl rfl (by kernel_rfl) (by kernel_rfl) (by kernel_rfl) (fun _ _ _ h=>h) (YT.row (by rfl) 65 (.tmp 5) rfl b7 0 rfl (fun _ h=>h) cl _ HC.out Tryz.underlying65 rfl HSZ.out) ?_
  simp only [Act.put,List.setIfInBounds_toArray,List.set_cons_zero,List.set_cons_succ]
  refine wpAnyT_take (i:=1) (v:=.pointer (some ⟨b0,1,none⟩)) 12 (by kernel_rfl) rfl rfl rfl (by kernel_rfl) (by kernel_rfl) (by kernel_rfl) (fun _ _ _ h=>h) (YT.pure (by rfl) (fun w=>by go_simp)) ?_
  simp only [Act.put,List.setIfInBounds_toArray,List.set_cons_zero,List.set_cons_succ]
  refine wpAnyT_take (i:=2) (v:=nv (words x)) 13 (by kernel_rfl) rfl rfl rfl (by kernel_rfl) (by kernel_rfl) (by kernel_rfl) (fun _ _ _ h=>h) (YT.row (by rfl) 63 (.tmp 12) rfl b0 1 rfl (fun _ h=>h) (ncl (words x)) _ SP2.out.x Tryz.underlying63 rfl size63) ?_
  simp only [Act.put,List.setIfInBounds_toArray,List.set_cons_zero,List.set_cons_succ]
  refine wpAnyT_take (i:=4) (v:=.agg cl.toArray) 15 (by kernel_rfl) rfl rfl rfl (by kernel_rfl) (by kernel_rfl) (by kernel_rfl) (fun _ _ _ h=>h) (YT.row (by rfl) 65 (.tmp 5) rfl b7 0 rfl (fun _ h=>h) cl _ HC.out Tryz.underlying65 rfl HSZ.out) ?_
  simp only [Act.put,List.setIfInBounds_toArray,List.set_cons_zero,List.set_cons_succ]
  refine wpAnyT_take (i:=5) (v:=.pointer (some ⟨b0,10,none⟩)) 16 (by kernel_rfl) rfl rfl rfl (by kernel_rfl) (by kernel_rfl) (by kernel_rfl) (fun _ _ _ h=>h) (YT.pure (by rfl) (fun w=>by go_simp)) ?_
  simp only [Act.put,List.setIfInBounds_toArray,List.set_cons_zero,List.set_cons_succ]
  refine wpAnyT_take (i:=6) (v:=nv (words y)) 17 (by kernel_rfl) rfl rfl rfl (by kernel_rfl) (by kernel_rfl) (by kernel_rfl) (fun _ _ _ h=>h) (YT.row (by rfl) 63 (.tmp 16) rfl b0 10 rfl (fun _ h=>h) (ncl (words y)) _ SP2.out.y Tryz.underlying63 rfl size63) ?_
  simp only [Act.put,List.setIfInBounds_toArray,List.set_cons_zero,List.set_cons_succ]
  refine wpAnyT_call (i:=3) 14 (by kernel_rfl) rfl rfl rfl 35 #[.agg cl.toArray,nv (words x)] (fun w=>by go_simp) ?_
  intro wa ma na
  refine (HBX.out wa).mono ?_
  rintro e wb ⟨r1,rfl,kA,hA,mb⟩
  refine ⟨_,rfl,mb,?_⟩
  simp only [Act.put,List.setIfInBounds_toArray,List.set_cons_zero,List.set_cons_succ]
  refine wpAnyT_call (i:=7) 18 (by kernel_rfl) rfl rfl rfl 35 #[.agg cl.toArray,nv (words y)] (fun w=>by go_simp) ?_
  intro wc mc nc'
  refine (HBY.out wc).mono ?_
  rintro e wd ⟨r2,rfl,kB,hB,md⟩
  refine ⟨_,rfl,md,?_⟩
  simp only [Act.put,List.setIfInBounds_toArray,List.set_cons_zero,List.set_cons_succ]
  refine wpAnyT_take (i:=8) (v:=.agg (sl2 r1 r2 (lenK k)).toArray) 19 (by kernel_rfl) rfl rfl rfl (by kernel_rfl) (by kernel_rfl) (by kernel_rfl) (fun _ _ _ h=>h) (YT.pure (by rfl) (fun w=>by go_simp)) ?_
  simp only [Act.put,List.setIfInBounds_toArray,List.set_cons_zero,List.set_cons_succ]
  have hzd:wd.heap[b1]? = some z37:=(((na.trans mb).trans (mc.trans md)).heap (lt_of_heap Z2.out) fun _ h=>h).trans Z2.out
  refine wpAnyT_store (by kernel_rfl) (by kernel_rfl) rfl rfl rfl 37 (.tmp 4) (.tmp 19) rfl b1 0 (sl2 r1 r2 (lenK k)).toArray rfl rfl (there37 hzd r1 r2 (lenK k)) size37 (by kernel_rfl) ?_
  intro we wf me ne mf
  obtain ⟨hst,hmod⟩:=two_stored r1 r2 (lenK k) hzd me mf
  have sz0:=lt_of_heap Z2.out
  have sz1:=na.size
  have sz2:=(mb.trans mc).size
  have RES:Hid (PtRet w (lenK k) x y (.returned (.agg (sl2 r1 r2 (lenK k)).toArray)) wf):=Lib.hid ⟨r1,r2,rfl,
    ((kA.mod (mc.trans md) (Off.noP _)).mod hmod (fun A hA o hh=>by obtain rfl:=Option.some.inj hA;have hh:r1=b1:=hh;omega)),kB.mod hmod (fun A hA o hh=>by obtain rfl:=Option.some.inj hA;have hh:r2=b1:=hh;omega),
    ((MM2.out.trans ((na.trans mb).trans (mc.trans md))).fresh hmod (by omega)),by omega,by omega⟩
  clear hzd hmod me ne mf kA kB hA hB ma na mb mc nc' md sz0 sz1 sz2 MM2 HBX HBY SP2 Z2 HC HSZ
  go_wp2_with fail
  exact bodyPost_ret (v:=.agg (sl2 r1 r2 (lenK k)).toArray) (result40 _ wf b1 rfl _ hst) rfl RES.out
end
section
open Go Go.RowKit
theorem specMap_any (k:Nat) (hk:k≤2) (u:Nat) (hu:u<pK k) (w:World):Calls Tryz.prog 41 #[.agg (cvK k).toArray,nv (words u)] w (VRet (spotV (ptX k u) (ptY k u)) w):=by
  have C:=crvK k hk
  have N:=numK k hk
  have h4:=C.h4
  exact map_any k hk u hu (prK k hk) (by omega) N.2.2.2.2.2.2.2.2 C.hmz (n3_ne (prK k hk) C.hmz C.hj) w
set_option maxRecDepth 100000 in
set_option maxHeartbeats 4000000 in
theorem mapped_any (k:Nat) (hk:k≤2) (b o c:Nat) (f:Nat→Nat) (w:World) (hX:Bts w b o (lenK k) f) (hf:∀ j,j<lenK k→f j<256) (hu:beN f (lenK k)<pK k) :
    Calls Tryz.prog 21 #[.int .i64 k,.slice (some ⟨b,o,none⟩) (lenK k) c] w (PtRet w (lenK k) (ptX k (beN f (lenK k))) (ptY k (beN f (lenK k)))):=by
  have hl:=lenK_le k hk
  have hp9:=pK_facts k hk
  obtain ⟨u,hU⟩:∃ u,u=beN f (lenK k):=⟨_,rfl⟩
  rw [← hU] at hu
  have hlt:=pt_lt k hk u
  have HO:Hid (∀ w1,Mod NoP w w1→Calls Tryz.prog 37 #[.slice (some ⟨b,o,none⟩) (lenK k) c] w1 (VRet (nv (words u)) w1)):=Lib.hid fun w1 m=>(ofBytes_any b o (lenK k) c f w1 (hX.mod m fun _ _ h=>h) hf (by omega)).mono fun e w' h=>by rw [← hU] at h;exact h.fix
  have HM:=Lib.hid (fun w1=>specMap_any k hk u hu w1)
  have HT:=Lib.hid (fun w1=>told_any k hk (ptX k u) (ptY k u) (Nat.lt_trans hlt.1 hp9) (Nat.lt_trans hlt.2 hp9) w1)
  rw [← hU]
  clear hU hlt hp9 hX hf hu
  have hb:=heap_alloc_new w z37
  have m1:=(Mod.refl NoP w).alloc z37
  have HC:=Lib.hid (fun w1=>curveOf_any k hk w1)
  go_enter Tryz.func21,Tryz.ntmps21
  go_upto_region 1 with fail
  generalize hw1:w.alloc z37=w1 at *
  clear hw1
  have Z:=Lib.hid hb
  have M1:=Lib.hid m1
  have HW:=Lib.hid (Nat.le_refl w.heap.size)
  clear hb m1
  generalize hbr:w.heap.size=br at *
  go_wp2_with fail
  refine (HC.out w1).mono ?_
  rintro e w2 ⟨rfl,m2⟩
  have M2:=Lib.hid (M1.out.trans m2)
  have Z2:=Lib.hid ((m2.heap (lt_of_heap Z.out) fun _ h=>h).trans Z.out)
  have S1:=lt_of_heap Z.out
  have S2:=m2.size
  have O2:=Lib.hid (HO.out w2 M2.out)
  clear m2 HO Z
  go_wp2_with fail
  refine O2.out.mono ?_
  rintro e w3 ⟨rfl,m3⟩
  have M3:=Lib.hid (M2.out.trans m3)
  have Z3:=Lib.hid ((m3.heap (lt_of_heap Z2.out) fun _ h=>h).trans Z2.out)
  have S3:=m3.size
  clear m3 O2 Z2
  go_wp2_with fail
  refine (HM.out w3).mono ?_
  rintro e w4 ⟨rfl,m4⟩
  have M4:=Lib.hid (M3.out.trans m4)
  have Z4:=Lib.hid ((m4.heap (lt_of_heap Z3.out) fun _ h=>h).trans Z3.out)
  have S4:=m4.size
  clear m4 Z3
  go_wp2_with fail
  refine (HT.out w4).mono ?_
  rintro e w5 ⟨r1,r2,rfl,kA,kB,m5,h1,h2⟩
  have Z5:=(m5.heap (lt_of_heap Z4.out) fun _ h=>h).trans Z4.out
  have s0:w5.cell? ⟨br,0,none⟩=some (.slice none 0 0):=by rw [cell?_of_heap Z5];rfl
  have s1:w5.cell? ⟨br,1,none⟩=some (.slice none 0 0):=by rw [cell?_of_heap Z5];rfl
  have s2:=free_of_heap Z5 0
  have s3:=free_of_heap Z5 1
  have HK:=Lib.hid (fun v v'=>PtRet.mk (v:=v) (v':=v') M4.out m5 (show w.heap.size≤br by omega) kA kB (by omega) (by omega) h1 h2)
  clear Z5 kA kB m5 h1 h2
  go_wp2_with fail
  exact bodyPost_ret (v:=.agg #[.slice (some ⟨r1,0,none⟩) (lenK k) (lenK k),.slice (some ⟨r2,0,none⟩) (lenK k) (lenK k)]) (by simp [results,Tryz.results21,go_sem, *]) rfl (HK.out _ _)
theorem conv_bts (w:World) (b L c:Nat) (f:Nat→Nat) (h:Bts w b 0 L f):(convert 22 9 (.slice (some ⟨b,0,none⟩) L c)).run Tryz.prog w=.ok (.string (strOfNums ((List.range L).map fun j=>(f j:Int)))) w:=by
  refine run_convert_bytes_arg w 22 5 Tryz.underlying22 Tryz.underlying5 b 0 L c _ (by simp) (fun i hi => ?_) 9 Tryz.underlying9
  rw [h i hi]
  simp [List.getD,hi]
set_option maxRecDepth 100000 in
set_option maxHeartbeats 4000000 in
theorem same_any (L b1 b2 b3 b4 c1 c2 c3 c4:Nat) (f g:Nat→Nat) (w:World) (h1:Bts w b1 0 L f) (h2:Bts w b2 0 L g) (h3:Bts w b3 0 L f) (h4:Bts w b4 0 L g) :
    Calls Tryz.prog 19 #[.agg #[.slice (some ⟨b1,0,none⟩) L c1,.slice (some ⟨b2,0,none⟩) L c2],.agg #[.slice (some ⟨b3,0,none⟩) L c3,.slice (some ⟨b4,0,none⟩) L c4]] w (VRet (.bool true) w):=by
  have H:Hid (∀ w1,Mod NoP w w1→(convert 22 9 (.slice (some ⟨b1,0,none⟩) L c1)).run Tryz.prog w1=.ok (.string (strOfNums ((List.range L).map fun j=>(f j:Int)))) w1∧(convert 22 9 (.slice (some ⟨b2,0,none⟩) L c2)).run Tryz.prog w1=.ok (.string (strOfNums ((List.range L).map fun j=>(g j:Int)))) w1∧(convert 22 9 (.slice (some ⟨b3,0,none⟩) L c3)).run Tryz.prog w1=.ok (.string (strOfNums ((List.range L).map fun j=>(f j:Int)))) w1∧(convert 22 9 (.slice (some ⟨b4,0,none⟩) L c4)).run Tryz.prog w1=.ok (.string (strOfNums ((List.range L).map fun j=>(g j:Int)))) w1) :=
    Lib.hid fun w1 m=>⟨conv_bts w1 b1 L c1 f (h1.mod m fun _ _ h=>h),conv_bts w1 b2 L c2 g (h2.mod m fun _ _ h=>h),conv_bts w1 b3 L c3 f (h3.mod m fun _ _ h=>h),conv_bts w1 b4 L c4 g (h4.mod m fun _ _ h=>h)⟩
  clear h1 h2 h3 h4
  generalize strOfNums ((List.range L).map fun j=>(f j:Int))=s at *
  generalize strOfNums ((List.range L).map fun j=>(g j:Int))=t at *
  go_enter Tryz.func19,Tryz.ntmps19
  go_upto_region 1 with fail
  obtain ⟨k1,k2,mm⟩:=two_new w (.cells #[.slice (some ⟨b1,0,none⟩) L c1,.slice (some ⟨b2,0,none⟩) L c2] 37 (0,0)) (.cells #[.slice (some ⟨b3,0,none⟩) L c3,.slice (some ⟨b4,0,none⟩) L c4] 37 (0,0))
  generalize hw1:(w.alloc (.cells #[.slice (some ⟨b1,0,none⟩) L c1,.slice (some ⟨b2,0,none⟩) L c2] 37 (0,0))).alloc (.cells #[.slice (some ⟨b3,0,none⟩) L c3,.slice (some ⟨b4,0,none⟩) L c4] 37 (0,0))=w1 at *
  clear hw1
  obtain ⟨v1,v2,v3,v4⟩:=H.out w1 mm
  have a0:w1.cell? ⟨w.heap.size,0,none⟩=some (.slice (some ⟨b1,0,none⟩) L c1):=by rw [cell?_of_heap k1];rfl
  have a1:w1.cell? ⟨w.heap.size,1,none⟩=some (.slice (some ⟨b2,0,none⟩) L c2):=by rw [cell?_of_heap k1];rfl
  have a2:w1.cell? ⟨w.heap.size+1,0,none⟩=some (.slice (some ⟨b3,0,none⟩) L c3):=by rw [cell?_of_heap k2];rfl
  have a3:w1.cell? ⟨w.heap.size+1,1,none⟩=some (.slice (some ⟨b4,0,none⟩) L c4):=by rw [cell?_of_heap k2];rfl
  clear k1 k2 H
  generalize w.heap.size=br at *
  generalize hbr:br+1=br2 at *
  go_wp2_with fail
  go_ret
  exact ⟨rfl,mm⟩
end
section
open Go Go.RowKit
set_option maxRecDepth 100000 in
set_option maxHeartbeats 2000000 in
theorem law6_walk (k:Int) (a:Option Addr) (n c:Nat) (f:Nat→Nat) (w:World) (ea:Addr) (hE:Eof w ea) (hT:Thr w) (hX:BSl w a n f) (hf:∀ j,j<n→f j<256) (hnc:n≤c) :
    Calls Tryz.prog 6 #[.int .i64 k,.slice a n c] w (LawRet w):=by
  by_cases h1:2147483647<n
  · have d1:decide ((n:Int) > 2147483647)=true:=decide_eq_true (by omega)
    clear hX hE hT
    go_enter Tryz.func6,Tryz.ntmps6
    go_wp2_with fail
    go_ret
    exact ⟨rfl,Mod.refl _ _⟩
  have d1:decide ((n:Int) > 2147483647)=false:=decide_eq_false (by omega)
  by_cases h2:4096<n
  · have d2:decide ((n:Int) > 4096)=true:=decide_eq_true (by omega)
    clear hX hE hT
    go_enter Tryz.func6,Tryz.ntmps6
    go_wp2_with fail
    go_ret
    exact ⟨rfl,Mod.refl _ _⟩
  have d2:decide ((n:Int) > 4096)=false:=decide_eq_false (by omega)
  by_cases hk2:(decide (0≤k) && decide (k≤2))=false
  · clear hX hE hT
    go_enter Tryz.func6,Tryz.ntmps6
    go_wp2_with fail
    refine (isCurve_any _ _).mono ?_
    rintro e w1 ⟨rfl,rfl⟩
    rw [hk2]
    go_wp2_with fail
    go_ret
    exact ⟨rfl,Mod.refl _ _⟩
  have hk:(decide (0≤k) && decide (k≤2))=true:=by simpa using hk2
  have hk':=hk
  simp only [Bool.and_eq_true,decide_eq_true_eq] at hk'
  obtain ⟨q,rfl⟩:∃ q:Nat,k=q:=⟨k.toNat,by omega⟩
  have hq:q≤2:=by omega
  have hl:=lenK_le q hq
  have HX:=Lib.hid hX
  have HE:=Lib.hid hE
  have HT:=Lib.hid hT
  have HF:=Lib.hid hf
  clear hX hE hT hf
  go_enter Tryz.func6,Tryz.ntmps6
  go_wp2_with fail
  refine (isCurve_any _ _).mono ?_
  rintro e w1 ⟨rfl,rfl⟩
  rw [hk]
  go_wp2_with fail
  refine (isBelow_any q hq a n c f w1 HX.out HF.out (by omega)).mono ?_
  rintro e w2 ⟨r,rfl,hr,m2⟩
  have HR:=Lib.hid hr
  clear hr
  cases r with
  | false =>
    go_wp2_with fail
    go_ret
    exact ⟨rfl,m2⟩
  | true =>
    obtain ⟨hn,hlt⟩:=HR.out.1 rfl
    subst hn
    obtain ⟨b,o,rfl,hXb⟩:∃ b o,a=some ⟨b,o,none⟩∧Bts w1 b o (lenK q) f:=by
      rcases HX.out with ⟨_,h⟩ | h
      · omega
      · exact h
    have hI:=implMap_any q hq b o c f w2 ea (m2.cell_some HE.out fun h=>h) (HT.out.mod m2) (hXb.mod m2 fun _ _ h=>h) HF.out hnc hlt
    have HI:=Lib.hid hI
    have HM:Hid (∀ w3,Mod NoP w2 w3→Calls Tryz.prog 21 #[.int .i64 q,.slice (some ⟨b,o,none⟩) (lenK q) c] w3 (PtRet w3 (lenK q) (ptX q (beN f (lenK q))) (ptY q (beN f (lenK q))))):=Lib.hid fun w3 m=>mapped_any q hq b o c f w3 ((hXb.mod m2 fun _ _ h=>h).mod m fun _ _ h=>h) HF.out hlt
    have M2:=Lib.hid m2
    clear hI hXb HX HR hlt m2
    go_wp2_with fail
    refine HI.out.mono ?_
    rintro e w3 ⟨r1,r2,rfl,kA,kB,m3,l1,l2⟩
    have M3:=Lib.hid m3
    have KA:=Lib.hid kA
    have KB:=Lib.hid kB
    have HM3:=Lib.hid (HM.out w3 m3)
    clear kA kB m3 l1 l2 HM HI
    go_wp2_with fail
    refine HM3.out.mono ?_
    rintro e w4 ⟨r3,r4,rfl,kC,kD,m4,l3,l4⟩
    have HS:=Lib.hid (same_any (lenK q) r1 r2 r3 r4 (lenK q) (lenK q) (lenK q) (lenK q) _ _ w4 (BArr.bts (KA.out.mod m4 (Off.noP _))) (BArr.bts (KB.out.mod m4 (Off.noP _))) kC.bts kD.bts)
    have M4:=Lib.hid m4
    clear kC kD m4 l3 l4 HM3
    go_wp2_with fail
    refine HS.out.mono ?_
    rintro e w5 ⟨rfl,m5⟩
    go_wp2_with fail
    go_ret
    exact ⟨rfl,((M2.out.trans M3.out).trans M4.out).trans m5⟩
end
end Go.Proofs.YtpfmbfkhjapbbaaGreatDoor
