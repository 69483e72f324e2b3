/-
  The specification's sub: differences modulo a number. Condition: the modulus is at most half of 2^576.
-/
import Derived.Test.YtpfmbfkhjapbbaaGreatDoorMg02
import Derived.Test.YtpfmbfkhjapbbaaGreatDoorMSpecMod
set_option linter.unusedVariables false
set_option linter.unusedSimpArgs false
namespace Go.Proofs.YtpfmbfkhjapbbaaGreatDoor
open Go Go.RowKit
theorem sum_val9 {f g:Nat→Nat} (hf:∀ j,j<9→f j<B64) (hg:∀ j,j<9→g j<B64) (h:val f 9+val g 9<B64^9):val (addW f g) 9=val f 9+val g 9:=by
  have h1:=add_val f g 9
  have h3:addC f g 9≤1:=addC_le hf hg 9 (by omega)
  have h4:addC f g 9=0:=by
    refine Classical.byContradiction fun hne => ?_
    have:addC f g 9=1:=by omega
    rw [this] at h1
    omega
  rw [h4] at h1
  omega
theorem dif_val9 {f g:Nat→Nat} (hf:∀ j,j<9→f j<B64) (hg:∀ j,j<9→g j<B64) (h:val g 9≤val f 9):val (subW f g) 9=val f 9 - val g 9:=by
  have h1:=sub_val f g 9 hf hg
  have h3:=subC_le f g 9
  have h5:val (subW f g) 9<B64^9:=val_lt fun j hj=>wSub_lt _ _ _
  have h4:subC f g 9=0:=by
    refine Classical.byContradiction fun hne => ?_
    have:subC f g 9=1:=by omega
    rw [this] at h1
    omega
  rw [h4] at h1
  omega
theorem NRet.mk' {v:Nat} {w w':World} (h:Nat→Nat) (h1:∀ j,j<9→h j<B64) (h2:val h 9=v) (h3:Mod NoP w w'):NRet v w (.returned (nv h)) w':=⟨h,rfl,h1,h2,h3⟩
set_option maxRecDepth 100000 in
set_option maxHeartbeats 2000000 in
theorem sub9_any (f g m:Nat→Nat) (hf:∀ j,j<9→f j<B64) (hg:∀ j,j<9→g j<B64) (hm:∀ j,j<9→m j<B64) (hfm:val f 9<val m 9) (hgm:val g 9<val m 9) (h2:2*val m 9≤B64^9) (w:World) :
    Calls Tryz.prog 34 #[nv f,nv g,nv m] w (NRet ((val f 9+val m 9 - val g 9)%val m 9) w):=by
  have HL:=Lib.hid (fun w1=>less_any f g hf hg w1)
  have HD:=Lib.hid (fun w1=>difference_any f g hf hg w1)
  have HS:=Lib.hid (fun w1=>sum_any f m hf hm w1)
  have hsw:∀ j,j<9→addW f m j<B64:=fun j hj=>wAdd_lt _ _ _
  have HD2:=Lib.hid (fun w1=>difference_any (addW f m) g hsw hg w1)
  have hlt:val f 9<val g 9→val (subW (addW f m) g) 9=(val f 9+val m 9 - val g 9)%val m 9:=fun h=>by
    rw [dif_val9 hsw hg (by rw [sum_val9 hf hm (by omega)];omega),sum_val9 hf hm (by omega),Nat.mod_eq_of_lt (by omega)]
  have hge:¬ val f 9<val g 9→val (subW f g) 9=(val f 9+val m 9 - val g 9)%val m 9:=fun h=>by
    rw [dif_val9 hf hg (by omega),show val f 9+val m 9 - val g 9=val f 9 - val g 9+val m 9 by omega,Nat.add_mod_right,Nat.mod_eq_of_lt (by omega)]
  have HLT:=Lib.hid hlt
  have HGE:=Lib.hid hge
  have w1:∀ j,j<9→subW f g j<B64:=fun j hj=>wSub_lt _ _ _
  have w2:∀ j,j<9→subW (addW f m) g j<B64:=fun j hj=>wSub_lt _ _ _
  have HW1:=Lib.hid w1
  have HW2:=Lib.hid w2
  clear hlt hge w1 w2 hsw hfm hgm h2
  generalize (val f 9+val m 9 - val g 9)%val m 9=r at *
  generalize subW f g=d at *
  generalize subW (addW f m) g=dx at *
  generalize addW f m=sm at *
  go_enter Tryz.func34,Tryz.ntmps34
  go_wp2_with fail
  obtain ⟨k1,k2,k3,k4,mm⟩:=four_new w (.cells (nc f) 63 (0,0)) (.cells (nc g) 63 (0,0)) (.cells (nc m) 63 (0,0)) zN
  generalize hw4:(((w.alloc (.cells (nc f) 63 (0,0))).alloc (.cells (nc g) 63 (0,0))).alloc (.cells (nc m) 63 (0,0))).alloc zN=w4 at *
  clear hw4
  have v1:NIs w4 w.heap.size f:=k1
  have v2:NIs w4 (w.heap.size+1) g:=k2
  have v3:NIs w4 (w.heap.size+1+1) m:=k3
  have v4:NIs w4 (w.heap.size+1+1+1) (fun _=>0):=k4
  clear k1 k2 k3 k4
  refine (HL.out w4).mono ?_
  rintro e w5 ⟨rfl,m5⟩
  have u1:=v1.mod m5 (fun _ h=>h)
  have u2:=v2.mod m5 (fun _ h=>h)
  have u3:=v3.mod m5 (fun _ h=>h)
  have u4:=v4.mod m5 (fun _ h=>h)
  have mt:=mm.trans m5
  clear v1 v2 v3 v4 mm m5 HL
  generalize hb0:w.heap.size=b0 at *
  generalize hb1:b0+1=b1 at *
  generalize hb2:b1+1=b2 at *
  generalize hb3:b2+1=b3 at *
  obtain ⟨a0,a1,a2,a3,a4,a5,a6,a7,a8⟩:=u1.nine
  obtain ⟨c0,c1,c2,c3,c4,c5,c6,c7,c8⟩:=u2.nine
  obtain ⟨p0,p1,p2,p3,p4,p5,p6,p7,p8⟩:=u3.nine
  obtain ⟨d0,d1,d2,d3,d4,d5,d6,d7,d8⟩:=u4.nine
  obtain ⟨q0,q1,q2,q3,q4,q5,q6,q7,q8⟩:=u4.free
  by_cases hlt:val f 9<val g 9
  · have htrue:=decide_eq_true hlt
    have HR:=Lib.hid (HLT.out hlt)
    clear HGE HLT HD
    go_wp2_with fail
    go_region_with (first | (go_at_call 53;refine (HS.out _).mono ?_;rintro e w7 ⟨rfl,m7⟩;have mm7:=(Mod.refl NoP w5).drew.trans m7;have n7:=(u2.mod mm7 (fun _ h=>h)).nine;obtain ⟨i0,i1,i2,i3,i4,i5,i6,i7,i8⟩:=(u2.mod mm7 (fun _ h=>h)).nine) | (go_at_call 52;refine (HD2.out _).mono ?_;rintro e w8 ⟨rfl,m8⟩;have mm8:=mm7.trans m8;obtain ⟨j0,j1,j2,j3,j4,j5,j6,j7,j8⟩:=(u4.mod mm8 (fun _ h=>h)).nine;obtain ⟨t0,t1,t2,t3,t4,t5,t6,t7,t8⟩:=(u4.mod mm8 (fun _ h=>h)).free))
    all_goals (go_wp2_with fail)
    all_goals (refine bodyPost_ret (v:=nv dx) (by simp [results,Tryz.results34,go_sem, *]) rfl (NRet.mk' dx HW2.out HR.out ?_))
    all_goals exact setNine_mod (mt.trans mm8) (fun _ hh=>by omega) (fun j=>U (dx j))
  · have htrue:=decide_eq_false hlt
    have HR:=Lib.hid (HGE.out hlt)
    clear HGE HLT HD2 HS
    go_wp2_with fail
    refine (HD.out _).mono ?_
    rintro e w6 ⟨rfl,m6⟩
    have t4:=u4.mod m6 (fun _ h=>h)
    have mq:=mt.trans m6
    clear a0 a1 a2 a3 a4 a5 a6 a7 a8 c0 c1 c2 c3 c4 c5 c6 c7 c8 p0 p1 p2 p3 p4 p5 p6 p7 p8 d0 d1 d2 d3 d4 d5 d6 d7 d8 q0 q1 q2 q3 q4 q5 q6 q7 q8 u1 u2 u3 u4 mt m6
    obtain ⟨d0,d1,d2,d3,d4,d5,d6,d7,d8⟩:=t4.nine
    obtain ⟨q0,q1,q2,q3,q4,q5,q6,q7,q8⟩:=t4.free
    go_wp2_with fail
    refine bodyPost_ret (v:=nv d) (by simp [results,Tryz.results34,go_sem, *]) rfl (NRet.mk' d HW1.out HR.out ?_)
    exact setNine_mod mq (fun _ hh=>by omega) (fun j=>U (d j))
end Go.Proofs.YtpfmbfkhjapbbaaGreatDoor
