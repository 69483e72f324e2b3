/-
  The specification's add and mod: sums modulo a number. Condition: the modulus is at most half of 2^576.
-/
import Derived.Test.YtpfmbfkhjapbbaaGreatDoorMg04
import Derived.Test.YtpfmbfkhjapbbaaGreatDoorMg05
import Derived.Deep.RegionHeld3
import Derived.Deep.RegionLaw
import Derived.Deep.DeepCutAuto
set_option linter.unusedVariables false
set_option linter.unusedSimpArgs false
namespace Go.Proofs.YtpfmbfkhjapbbaaGreatDoor
open Go Go.RowKit
def NRet (v:Nat) (w:World) (e:Ending) (w':World):Prop :=
  ∃ h:Nat→Nat,e=.returned (nv h)∧(∀ j,j<9→h j<B64)∧val h 9=v∧Mod NoP w w'
theorem NIs.setNine {w:World} {b:Nat} {f:Nat→Nat} (h:NIs w b f) (g:Nat→Nat) :
    NIs (((((((((w.setCell ⟨b,0,none⟩ (U (g 0))).setCell ⟨b,1,none⟩ (U (g 1))).setCell ⟨b,2,none⟩ (U (g 2))).setCell ⟨b,3,none⟩ (U (g 3))).setCell ⟨b,4,none⟩ (U (g 4))).setCell ⟨b,5,none⟩ (U (g 5))).setCell ⟨b,6,none⟩ (U (g 6))).setCell ⟨b,7,none⟩ (U (g 7))).setCell ⟨b,8,none⟩ (U (g 8))) b g:=by
  have h0:=heap_set (heap_set (heap_set (heap_set (heap_set (heap_set (heap_set (heap_set (heap_set h 0 (U (g 0))) 1 (U (g 1))) 2 (U (g 2))) 3 (U (g 3))) 4 (U (g 4))) 5 (U (g 5))) 6 (U (g 6))) 7 (U (g 7))) 8 (U (g 8))
  simpa [NIs,nc] using h0
theorem setNine_mod {M:Places} {a w:World} {b:Nat} (m:Mod M a w) (hb:∀ o,b<a.heap.size→M b o) (g:Nat→Value) :
    Mod M a (((((((((w.setCell ⟨b,0,none⟩ (g 0)).setCell ⟨b,1,none⟩ (g 1)).setCell ⟨b,2,none⟩ (g 2)).setCell ⟨b,3,none⟩ (g 3)).setCell ⟨b,4,none⟩ (g 4)).setCell ⟨b,5,none⟩ (g 5)).setCell ⟨b,6,none⟩ (g 6)).setCell ⟨b,7,none⟩ (g 7)).setCell ⟨b,8,none⟩ (g 8)) :=
  ((((((((m.setCell (hb _) _).setCell (hb _) _).setCell (hb _) _).setCell (hb _) _).setCell (hb _) _).setCell (hb _) _).setCell (hb _) _).setCell (hb _) _).setCell (hb _) _
def setNine (w:World) (b:Nat) (g:Nat→Nat):World :=
  ((((((((w.setCell ⟨b,0,none⟩ (U (g 0))).setCell ⟨b,1,none⟩ (U (g 1))).setCell ⟨b,2,none⟩ (U (g 2))).setCell ⟨b,3,none⟩ (U (g 3))).setCell ⟨b,4,none⟩ (U (g 4))).setCell ⟨b,5,none⟩ (U (g 5))).setCell ⟨b,6,none⟩ (U (g 6))).setCell ⟨b,7,none⟩ (U (g 7))).setCell ⟨b,8,none⟩ (U (g 8))
theorem setNine_fold (w:World) (b:Nat) (g:Nat→Nat) :
    ((((((((w.setCell ⟨b,0,none⟩ (U (g 0))).setCell ⟨b,1,none⟩ (U (g 1))).setCell ⟨b,2,none⟩ (U (g 2))).setCell ⟨b,3,none⟩ (U (g 3))).setCell ⟨b,4,none⟩ (U (g 4))).setCell ⟨b,5,none⟩ (U (g 5))).setCell ⟨b,6,none⟩ (U (g 6))).setCell ⟨b,7,none⟩ (U (g 7))).setCell ⟨b,8,none⟩ (U (g 8))=setNine w b g:=rfl
theorem setNine_is {w:World} {b:Nat} {f:Nat→Nat} (h:NIs w b f) (g:Nat→Nat):NIs (setNine w b g) b g:=h.setNine g
theorem setNine_own (w:World) (b:Nat) (g:Nat→Nat):Mod (InB b) w (setNine w b g):=setNine_mod (Mod.refl _ w) (fun _ _=>rfl) (fun j=>U (g j))
set_option maxRecDepth 100000 in
set_option maxHeartbeats 1000000 in
theorem add9_any (f g m:Nat→Nat) (hf:∀ j,j<9→f j<B64) (hg:∀ j,j<9→g j<B64) (hm:∀ j,j<9→m j<B64) (hfm:val f 9<val m 9) (hgm:val g 9<val m 9) (h2:2*val m 9≤B64^9) (w:World) :
    Calls Tryz.prog 43 #[nv f,nv g,nv m] w (NRet ((val f 9+val g 9)%val m 9) w):=by
  have hsum:val (addW f g) 9=val f 9+val g 9:=by
    have h:=add_val f g 9
    have h3:addC f g 9≤1:=addC_le hf hg 9 (by omega)
    have h4:addC f g 9=0:=by
      refine Classical.byContradiction fun hne => ?_
      have:addC f g 9=1:=by omega
      rw [this] at h
      omega
    rw [h4] at h
    omega
  have hsw:∀ j,j<9→addW f g j<B64:=fun j hj=>wAdd_lt _ _ _
  have hS:=fun w1=>sum_any f g hf hg w1
  have HS:=Lib.hid hS
  clear hS
  generalize hh:addW f g=h at *
  have hdif:val m 9≤val h 9→val (subW h m) 9=val h 9 - val m 9:=fun hle=>by
    have h1:=sub_val h m 9 hsw hm
    have h3:=subC_le h m 9
    have h5:val (subW h m) 9<B64^9:=val_lt fun j hj=>wSub_lt _ _ _
    have h4:subC h m 9=0:=by
      refine Classical.byContradiction fun hne => ?_
      have:subC h m 9=1:=by omega
      rw [this] at h1
      omega
    rw [h4] at h1
    omega
  go_enter Tryz.func43,Tryz.ntmps43
  go_wp2_with fail
  obtain ⟨k1,k2,k3,k4,mm⟩:=four_new w (.cells (nc f) 63 (0,0)) (.cells (nc g) 63 (0,0)) (.cells (nc m) 63 (0,0)) zN
  generalize hw4:(((w.alloc (.cells (nc f) 63 (0,0))).alloc (.cells (nc g) 63 (0,0))).alloc (.cells (nc m) 63 (0,0))).alloc zN=w4 at *
  clear hw4 k1 k2
  have v3:NIs w4 (w.heap.size+1+1) m:=k3
  have v4:NIs w4 (w.heap.size+1+1+1) (fun _=>0):=k4
  clear k3 k4
  refine (HS.out w4).mono ?_
  rintro e w1 ⟨rfl,m1⟩
  have u3:=v3.mod m1 (fun _ h=>h)
  have u4:=v4.mod m1 (fun _ h=>h)
  have hl3:=lt_of_heap u3
  have hl4:=lt_of_heap u4
  have mt:=mm.trans m1
  clear v3 v4 mm m1
  generalize hb0:w.heap.size=b0 at *
  generalize hb2:b0+1+1=b2 at *
  generalize hb3:b2+1=b3 at *
  have A:=u3.nine
  obtain ⟨a0,a1,a2,a3,a4,a5,a6,a7,a8⟩:=A
  have hrem:val h 9<val m 9→(val f 9+val g 9)%val m 9=val h 9:=fun hlt=>by rw [← hsum,Nat.mod_eq_of_lt hlt]
  have hrem2:¬ val h 9<val m 9→(val f 9+val g 9)%val m 9=val (subW h m) 9:=fun hlt=>by
    rw [hdif (by omega),← hsum,Nat.mod_eq_sub_mod (by omega),Nat.mod_eq_of_lt (by omega)]
  generalize (val f 9+val g 9)%val m 9=r at *
  go_wp2_with fail
  have n1:NIs (w1.alloc (.cells (nc h) 63 (0,0))) w1.heap.size h:=heap_alloc_new w1 _
  have n3:=u3.mod ((Mod.refl NoP w1).alloc (.cells (nc h) 63 (0,0))) (fun _ h=>h)
  have n4:=u4.mod ((Mod.refl NoP w1).alloc (.cells (nc h) 63 (0,0))) (fun _ h=>h)
  have mn:=mt.alloc (.cells (nc h) 63 (0,0))
  refine (less_any h m hsw hm _).mono ?_
  rintro e w2 ⟨rfl,m2⟩
  have q1:=n1.mod m2 (fun _ h=>h)
  have q3:=n3.mod m2 (fun _ h=>h)
  have q4:=n4.mod m2 (fun _ h=>h)
  have mq:=mn.trans m2
  clear n1 n3 n4 mn mt m2 a0 a1 a2 a3 a4 a5 a6 a7 a8 u3 u4
  generalize hb4:w1.heap.size=b4 at *
  have A:=q1.nine
  obtain ⟨a0,a1,a2,a3,a4,a5,a6,a7,a8⟩:=A
  by_cases hlt:val h 9<val m 9
  · have hr:=hrem hlt
    have B:=q4.nine
    obtain ⟨d0,d1,d2,d3,d4,d5,d6,d7,d8⟩:=B
    have F:=q4.free
    obtain ⟨e0,e1,e2,e3,e4,e5,e6,e7,e8⟩:=F
    have htrue:=decide_eq_true hlt
    clear hrem hrem2 hdif
    go_wp2_with fail
    refine bodyPost_ret (v:=nv h) (by simp [results,Tryz.results43,go_sem, *]) rfl ⟨h,rfl,hsw,hr.symm,?_⟩
    exact setNine_mod mq (fun _ hh=>by omega) (fun j=>U (h j))
  · have hr:=hrem2 hlt
    have B:=q3.nine
    obtain ⟨d0,d1,d2,d3,d4,d5,d6,d7,d8⟩:=B
    have htrue:=decide_eq_false hlt
    clear hrem hrem2 hdif
    go_wp2_with fail
    refine (difference_any h m hsw hm _).mono ?_
    rintro e w3 ⟨rfl,m3⟩
    have t4:=q4.mod m3 (fun _ h=>h)
    have mq3:=mq.trans m3
    have hsub:∀ j,j<9→subW h m j<B64:=fun j hj=>wSub_lt _ _ _
    clear q1 q3 q4 mq m3 a0 a1 a2 a3 a4 a5 a6 a7 a8 d0 d1 d2 d3 d4 d5 d6 d7 d8
    generalize subW h m=x at *
    have B:=t4.nine
    obtain ⟨d0,d1,d2,d3,d4,d5,d6,d7,d8⟩:=B
    have F:=t4.free
    obtain ⟨e0,e1,e2,e3,e4,e5,e6,e7,e8⟩:=F
    go_wp2_with fail
    refine bodyPost_ret (v:=nv x) (by simp [results,Tryz.results43,go_sem, *]) rfl ⟨x,rfl,hsub,hr.symm,?_⟩
    exact setNine_mod mq3 (fun _ hh=>by omega) (fun j=>U (x j))
def beN (f:Nat→Nat):Nat→Nat
  | 0=>0
  | i+1=>beN f i*256+f i
theorem three_new (w:World) (o1 o2 o3:Obj) :
    (((w.alloc o1).alloc o2).alloc o3).heap[w.heap.size]? = some o1∧(((w.alloc o1).alloc o2).alloc o3).heap[w.heap.size+1]? = some o2 ∧
    (((w.alloc o1).alloc o2).alloc o3).heap[w.heap.size+1+1]? = some o3∧Mod NoP w (((w.alloc o1).alloc o2).alloc o3):=by
  have s1:(w.alloc o1).heap.size=w.heap.size+1:=by simp
  have s2:((w.alloc o1).alloc o2).heap.size=w.heap.size+1+1:=by simp
  refine ⟨?_,?_,?_,(((Mod.refl _ w).alloc _).alloc _).alloc _⟩
  · rw [heap_alloc_old _ _ (by omega),heap_alloc_old _ _ (by omega)]
    exact heap_alloc_new w o1
  · rw [heap_alloc_old _ _ (by omega),← s1]
    exact heap_alloc_new _ o2
  · rw [← s2]
    exact heap_alloc_new _ o3
@[reducible] def ncl (f:Nat→Nat):List Value:=[U (f 0),U (f 1),U (f 2),U (f 3),U (f 4),U (f 5),U (f 6),U (f 7),U (f 8)]
theorem NIs.range {w:World} {b:Nat} {f:Nat→Nat} (h:NIs w b f):w.rangeAt b 0 (ncl f):=fun j v hv=>by
  rw [cell?_of_heap h,Nat.zero_add,← hv]
  exact List.getElem?_toArray ..
theorem NIs.there {w:World} {b:Nat} {f:Nat→Nat} (h:NIs w b f):w.there b 0 9:=fun j hj=>⟨by rw [cell?_of_heap h,Nat.zero_add,nc_at f j hj];rfl,free_of_heap h _⟩
theorem size63:(Tryz.prog.info? 63).map (·.size)=some 9:=by kernel_rfl
end Go.Proofs.YtpfmbfkhjapbbaaGreatDoor
