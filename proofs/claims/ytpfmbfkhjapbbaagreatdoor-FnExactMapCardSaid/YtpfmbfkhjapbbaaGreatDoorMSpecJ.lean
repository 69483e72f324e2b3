/-
  The specification's inverse of a number that is not 0, by halves. Condition: the modulus is an odd prime, at most half of 2^576.
-/
import Derived.Test.YtpfmbfkhjapbbaaGreatDoorMSpecI
import Derived.Deep.DeepCutAuto
set_option linter.unusedVariables false
set_option linter.unusedSimpArgs false
namespace Go.Proofs.YtpfmbfkhjapbbaaGreatDoor
open Go Go.RowKit
set_option maxRecDepth 100000 in
set_option maxHeartbeats 32000000 in
theorem inverse_pos (f m:Nat→Nat) (hf:∀ j,j<9→f j<B64) (hm:∀ j,j<9→m j<B64) (hf0:val f 9≠0) (hfm:val f 9<val m 9) (hp:Pr (val m 9)) (hodd:val m 9%2=1) (h2:2*val m 9≤B64^9) (w:World) :
    Calls Tryz.prog 45 #[nv f,nv m] w (InvRet (val m 9) (val f 9) w):=by
  haveI:NeZero (val m 9):=⟨by omega⟩
  obtain ⟨on,hon⟩:∃ on:Nat→Nat,on=fun j=>if j=0 then 1 else 0:=⟨_,rfl⟩
  have hsm:=fun w1=>small_any 1 w1
  rw [← hon] at hsm
  have HOW:=Lib.hid (show ∀ j,j<9→on j<B64 by rw [hon];intro j _;show (if j=0 then 1 else 0)<B64;split <;> decide)
  have HOV:=Lib.hid (show val on 9=1 by rw [hon];decide)
  clear hon
  have hnz:∀ w,(binOp .neq 63 (nv f) (.agg #[.int .u64 0,.int .u64 0,.int .u64 0,.int .u64 0,.int .u64 0,.int .u64 0,.int .u64 0,.int .u64 0,.int .u64 0])).run Tryz.prog w=.ok (.bool true) w:=fun w=>by
    have h:=neN_run f (fun _=>0) hf (fun _ _=>B64_pos) w
    rw [decide_eq_false (show ¬ val f 9=val (fun _=>0) 9 from hf0)] at h
    exact h
  have HNZ:=Lib.hid hnz
  have HNE:=Lib.hid (fun (g:Nat→Nat) (hg:∀ j,j<9→g j<B64)=>(show ∀ w,(binOp .neq 63 (nv g) (nv on)).run Tryz.prog w=.ok (.bool (!decide (val g 9=1))) w from fun w=>by have h:=neN_run g on hg HOW.out w;rw [HOV.out] at h;exact h))
  have HEQ:=Lib.hid (fun (g:Nat→Nat) (hg:∀ j,j<9→g j<B64)=>(show ∀ w,(binOp .eql 63 (nv g) (nv on)).run Tryz.prog w=.ok (.bool (decide (val g 9=1))) w from fun w=>by have h:=eqN_run g on hg HOW.out w;rw [HOV.out] at h;exact h))
  have HHF:=Lib.hid (fun (g:Nat→Nat) (hg:∀ j,j<9→g j<B64) w1=>half_any g hg w1)
  have HHD:=Lib.hid (fun (g:Nat→Nat) (hg:∀ j,j<9→g j<B64) (h:val g 9<val m 9) w1=>halved_any g m hg hm h h2 w1)
  have HLS:=Lib.hid (fun (g h:Nat→Nat) (hg:∀ j,j<9→g j<B64) (hh:∀ j,j<9→h j<B64) w1=>less_any g h hg hh w1)
  have HDF:=Lib.hid (fun (g h:Nat→Nat) (hg:∀ j,j<9→g j<B64) (hh:∀ j,j<9→h j<B64) w1=>difference_any g h hg hh w1)
  have HSB:=Lib.hid (fun (g h:Nat→Nat) (hg:∀ j,j<9→g j<B64) (hh:∀ j,j<9→h j<B64) (lg:val g 9<val m 9) (lh:val h 9<val m 9) w1=>sub9_any g h m hg hh hm lg lh h2 w1)
  have HP:=Lib.hid hp
  have HODD:=Lib.hid hodd
  have HI0:=Lib.hid (InvSt.start hp (Nat.pos_of_ne_zero hf0) hfm)
  have HF:=Lib.hid hf
  have HMW:=Lib.hid hm
  clear hnz hf0 hfm hp hodd h2 hf hm
  have HSM:=Lib.hid hsm
  go_enter Tryz.func45,Tryz.ntmps45
  go_upto_region 3 with fail
  obtain ⟨k1,k2,k3,k4,k5,mm1⟩:=five_new w (.cells (nc f) 63 (0,0)) (.cells (nc m) 63 (0,0)) zN (.cells (nc f) 63 (0,0)) (.cells (nc m) 63 (0,0))
  generalize hw4:((((w.alloc (.cells (nc f) 63 (0,0))).alloc (.cells (nc m) 63 (0,0))).alloc zN).alloc (.cells (nc f) 63 (0,0))).alloc (.cells (nc m) 63 (0,0))=w4 at *
  clear hw4
  have v0:NIs w4 w.heap.size f:=k1
  have v1:NIs w4 (w.heap.size+1) m:=k2
  have v2:NIs w4 (w.heap.size+1+1) (fun _=>0):=k3
  have v3:NIs w4 (w.heap.size+1+1+1) f:=k4
  have v4:NIs w4 (w.heap.size+1+1+1+1) m:=k5
  clear k1 k2 k3 k4 k5
  generalize hb0:w.heap.size=b0 at *
  generalize hb1:b0+1=b1 at *
  generalize hb2:b1+1=b2 at *
  generalize hb3:b2+1=b3 at *
  generalize hb4:b3+1=b4 at *
  have hl4:=lt_of_heap v4
  go_wp2_with fail
  refine (HSM.out _).mono ?_
  rintro e w5 ⟨rfl,m5⟩
  go_upto_region 5 with fail
  have hs5:=m5.size
  obtain ⟨j1,j2,ma⟩:=two_new w5 (.cells (nc on) 63 (0,0)) zN
  have m57:=m5.trans ma
  generalize hw7:(w5.alloc (.cells (nc on) 63 (0,0))).alloc zN=w7 at *
  clear hw7
  have v5:NIs w7 w5.heap.size on:=j1
  have v6:NIs w7 (w5.heap.size+1) (fun _=>0):=j2
  have v0:=v0.mod m57 (fun _ h=>h)
  have v1:=v1.mod m57 (fun _ h=>h)
  have v2:=v2.mod m57 (fun _ h=>h)
  have v3:=v3.mod m57 (fun _ h=>h)
  have v4:=v4.mod m57 (fun _ h=>h)
  have M7:=Lib.hid (mm1.trans m57)
  clear j1 j2 m5 ma m57 mm1
  generalize hb5:w5.heap.size=b5 at *
  generalize hb6:b5+1=b6 at *
  have hne:b4<b5∧w.heap.size≤b0:=by omega
  have HLT:=Lib.hid (show b0<b3∧b1<b3∧b2<b3∧b3<b4∧b4<b5∧b5<b6∧w.heap.size≤b2∧w.heap.size≤b0 from by omega)
  clear hne hl4 hs5
  have V0:=Lib.hid (fun wx (h:Mod (Four b3 b4 b5 b6) w7 wx)=>v0.mod h (fun o hh=>by have:=HLT.out;unfold Four at hh;omega))
  have V1:=Lib.hid (fun wx (h:Mod (Four b3 b4 b5 b6) w7 wx)=>v1.mod h (fun o hh=>by have:=HLT.out;unfold Four at hh;omega))
  have V2:=Lib.hid (fun wx (h:Mod (Four b3 b4 b5 b6) w7 wx)=>v2.mod h (fun o hh=>by have:=HLT.out;unfold Four at hh;omega))
  have ST0:=Lib.hid (⟨v3,v4,v5,v6,HF.out,HMW.out,HOW.out,fun _ _=>B64_pos,.refl _ _⟩:IvSt w7 b3 b4 b5 b6 f m on (fun _=>0) w7)
  have i34:b3≠b4:=by have:=HLT.out;omega
  have i35:b3≠b5:=by have:=HLT.out;omega
  have i36:b3≠b6:=by have:=HLT.out;omega
  have i45:b4≠b5:=by have:=HLT.out;omega
  have i46:b4≠b6:=by have:=HLT.out;omega
  have i56:b5≠b6:=by have:=HLT.out;omega
  have IN:=Lib.hid (And.intro i34 (And.intro i35 (And.intro i36 (And.intro i45 (And.intro i46 i56)))))
  clear v0 v1 v2 v3 v4 v5 v6 i34 i35 i36 i45 i46 i56
  go_loopg [] (val f 9+val m 9) (fun k wr=>∃ fu fv fx fy,Hid (IvSt w7 b3 b4 b5 b6 fu fv fx fy wr)∧Hid (InvSt (val m 9) (val f 9) (val fu 9) (val fv 9) (val fx 9) (val fy 9))∧Hid (val fu 9+val fv 9≤k))
  case atStart=>exact ⟨f,m,on,fun _=>0,ST0.out,by have h:=HI0.out;rw [← HOV.out] at h;exact h,Nat.le_refl _⟩
  case round =>
    obtain ⟨fu,fv,fx,fy,st,inv,hk⟩:=hrel
    go_wp2_with fail
    go_cut [25] from 13 to 60 (fun s25 wx=>s25=.bool (!decide (val fu 9=1) && !decide (val fv 9=1))∧Hid (Mod NoP wr wx))
    case first =>
      obtain ⟨a0,a1,a2,a3,a4,a5,a6,a7,a8⟩:=(V0.out wr st.out.mod).nine
      obtain ⟨c0,c1,c2,c3,c4,c5,c6,c7,c8⟩:=st.out.u.nine
      obtain ⟨d0,d1,d2,d3,d4,d5,d6,d7,d8⟩:=st.out.v.nine
      have hz:=HNZ.out
      have hnu:=HNE.out fu st.out.uw
      have hnv:=HNE.out fv st.out.vw
      by_cases hu:val fu 9=1
      · rw [decide_eq_true hu] at hnu
        have HD:=Lib.hid (decide_eq_true hu)
        clear hu hnv d0 d1 d2 d3 d4 d5 d6 d7 d8
        go_region_with (go_at_call 51;refine (HSM.out _).mono ?_;rintro e w9 ⟨rfl,m9⟩;have m9':=(Mod.refl NoP wr).drew.trans m9;obtain ⟨s0,s1,s2,s3,s4,s5,s6,s7,s8⟩:=(st.out.u.mod m9' (fun _ h=>h)).nine;obtain ⟨t0,t1,t2,t3,t4,t5,t6,t7,t8⟩:=((V0.out wr st.out.mod).mod m9' (fun _ h=>h)).nine)
        all_goals (have M9:=Lib.hid m9';clear m9 m9';go_wp2_with fail;go_meet;case rel=>exact ⟨by rw [HD.out];rfl,M9.out⟩)
      · rw [decide_eq_false hu] at hnu
        have HD:=Lib.hid (decide_eq_false hu)
        clear hu
        go_region_with (go_at_call 51;refine (HSM.out _).mono ?_;rintro e wN ⟨rfl,mN⟩;(first | (have m9:=m9.trans mN) | (have m9:=(Mod.refl NoP wr).drew.trans mN));obtain ⟨s0,s1,s2,s3,s4,s5,s6,s7,s8⟩:=(st.out.u.mod m9 (fun _ h=>h)).nine;obtain ⟨t0,t1,t2,t3,t4,t5,t6,t7,t8⟩:=((V0.out wr st.out.mod).mod m9 (fun _ h=>h)).nine;obtain ⟨r0,r1,r2,r3,r4,r5,r6,r7,r8⟩:=(st.out.v.mod m9 (fun _ h=>h)).nine)
        all_goals (have M9:=Lib.hid m9;clear m9 mN;go_wp2_with fail;go_meet;case rel=>exact ⟨by rw [HD.out,Bool.not_false,Bool.true_and],M9.out⟩)
    case rest =>
      obtain ⟨rfl,hm9⟩:=hcut
      have ST:=Lib.hid (st.out.still hm9.out)
      by_cases hc:val fu 9=1∨val fv 9=1
      · have hb:(!decide (val fu 9=1) && !decide (val fv 9=1))=false:=by
          rcases hc with h | h
          · rw [decide_eq_true h];rfl
          · rw [decide_eq_true h];cases decide (val fu 9=1) <;> rfl
        rw [hb]
        clear st hm9 hb
        have S2:=Lib.hid (V2.out wc ST.out.mod)
        have heq:=HEQ.out fu ST.out.uw
        obtain ⟨a0,a1,a2,a3,a4,a5,a6,a7,a8⟩:=ST.out.u.nine
        go_wp2_with fail
        go_cut [63] from 61 to 63 (fun s63 wx=>s63=.bool (decide (val fu 9=1))∧Hid (Mod NoP wc wx))
        case first =>
          go_region_with (go_at_call 51;refine (HSM.out _).mono ?_;rintro e w10 ⟨rfl,m10⟩;have m11:=(Mod.refl NoP wc).drew.trans m10;obtain ⟨s0,s1,s2,s3,s4,s5,s6,s7,s8⟩:=(ST.out.u.mod m11 (fun _ h=>h)).nine)
          all_goals (have M11:=Lib.hid m11;clear m10 m11;go_wp2_with fail;go_meet;case rel=>exact ⟨rfl,M11.out⟩)
        case rest =>
          obtain ⟨rfl,hm11⟩:=hcut
          have ST2:=Lib.hid (ST.out.still hm11.out)
          have S3:=S2.out.mod hm11.out (fun _ h=>h)
          have MEND:=Lib.hid (M7.out.trans' ST2.out.mod fun q o hq hh=>by have:=HLT.out;unfold Four at hh;omega)
          clear a0 a1 a2 a3 a4 a5 a6 a7 a8 heq hm11
          obtain ⟨q0,q1,q2,q3,q4,q5,q6,q7,q8⟩:=S3.nine
          obtain ⟨p0,p1,p2,p3,p4,p5,p6,p7,p8⟩:=S3.free
          obtain ⟨c0,c1,c2,c3,c4,c5,c6,c7,c8⟩:=ST2.out.x.nine
          obtain ⟨d0,d1,d2,d3,d4,d5,d6,d7,d8⟩:=ST2.out.y.nine
          clear S3
          by_cases hu:val fu 9=1
          · have RX:=Lib.hid (InvSt.done HP.out (by have h:=inv.out;rw [hu] at h;exact h))
            have XL:=Lib.hid inv.out.xlt
            rw [decide_eq_true hu]
            clear hu hc
            go_wp2_with fail
            refine bodyPost_ret (v:=nv fx) (by simp [results,Tryz.results45,go_sem, *]) rfl (⟨fx,rfl,ST2.out.xw,XL.out,fun _=>RX.out,?_⟩:InvRet _ _ w _ _)
            exact setNine_mod MEND.out (fun _ hh=>by have:=HLT.out;omega) (fun j=>U (fx j))
          · have hv:val fv 9=1:=hc.resolve_left hu
            have RX:=Lib.hid (InvSt.done HP.out (by have h:=inv.out.turn;rw [hv] at h;exact h))
            have XL:=Lib.hid inv.out.ylt
            rw [decide_eq_false hu]
            clear hu hc hv
            go_wp2_with fail
            refine bodyPost_ret (v:=nv fy) (by simp [results,Tryz.results45,go_sem, *]) rfl (⟨fy,rfl,ST2.out.yw,XL.out,fun _=>RX.out,?_⟩:InvRet _ _ w _ _)
            exact setNine_mod MEND.out (fun _ hh=>by have:=HLT.out;omega) (fun j=>U (fy j))
      · have hu1:val fu 9≠1:=fun h=>hc (.inl h)
        have hv1:val fv 9≠1:=fun h=>hc (.inr h)
        have hb:(!decide (val fu 9=1) && !decide (val fv 9=1))=true:=by rw [decide_eq_false hu1,decide_eq_false hv1];rfl
        rw [hb]
        have HU1:=Lib.hid hu1
        have HV1:=Lib.hid hv1
        clear st hm9 hb hc hu1 hv1
        go_wp2_with fail
        go_loopg [] (val fu 9) (fun k2 wx=>∃ gu gx,Hid (IvSt w7 b3 b4 b5 b6 gu fv gx fy wx)∧Hid (InvSt (val m 9) (val f 9) (val gu 9) (val fv 9) (val gx 9) (val fy 9))∧Hid (val gu 9≤k2∧val gu 9≤val fu 9∧(val gu 9≠1∨val fv 9%2=1)))
        case atStart=>exact ⟨fu,fx,ST.out,inv.out,Nat.le_refl _,Nat.le_refl _,.inl HU1.out⟩
        case round =>
          obtain ⟨gu,gx,st2,inv2,hk2⟩:=hrel
          have hpar:=val_mod2 gu 9 (by omega)
          obtain ⟨a0,a1,a2,a3,a4,a5,a6,a7,a8⟩:=st2.out.u.nine
          by_cases hev:val gu 9%2=0
          · have hpb:((gu 0:Int)%2 == 0)=true:=by simp;omega
            have HEV:=Lib.hid hev
            have HC1:=Lib.hid (HHF.out gu st2.out.uw)
            clear hpar hev
            go_wp2_with fail
            refine (HC1.out _).mono ?_
            rintro e w10 ⟨h1,rfl,hh1,hv1,m10⟩
            have st10:=Lib.hid (st2.out.still m10)
            have HV10:=Lib.hid hv1
            clear a0 a1 a2 a3 a4 a5 a6 a7 a8 HC1 m10 hv1 hpb
            obtain ⟨a0,a1,a2,a3,a4,a5,a6,a7,a8⟩:=st10.out.u.nine
            obtain ⟨e0,e1,e2,e3,e4,e5,e6,e7,e8⟩:=st10.out.u.free
            go_upto_region 8 with fail
            rw [setNine_fold w10 b3 h1]
            have st11:=Lib.hid (st10.out.set_u hh1 IN.out.1.symm IN.out.2.1.symm IN.out.2.2.1.symm)
            generalize setNine w10 b3 h1=w11 at *
            clear a0 a1 a2 a3 a4 a5 a6 a7 a8 e0 e1 e2 e3 e4 e5 e6 e7 e8 st10
            obtain ⟨a0,a1,a2,a3,a4,a5,a6,a7,a8⟩:=st11.out.x.nine
            obtain ⟨c0,c1,c2,c3,c4,c5,c6,c7,c8⟩:=(V1.out w11 st11.out.mod).nine
            have HC2:=Lib.hid (HHD.out gx st11.out.xw inv2.out.xlt)
            go_wp2_with fail
            refine (HC2.out _).mono ?_
            rintro e w12 ⟨h2,rfl,hh2,hv2,m12⟩
            have st12:=Lib.hid (st11.out.still m12)
            have HV12:=Lib.hid hv2
            clear a0 a1 a2 a3 a4 a5 a6 a7 a8 c0 c1 c2 c3 c4 c5 c6 c7 c8 HC2 m12 hv2
            obtain ⟨a0,a1,a2,a3,a4,a5,a6,a7,a8⟩:=st12.out.x.nine
            obtain ⟨e0,e1,e2,e3,e4,e5,e6,e7,e8⟩:=st12.out.x.free
            go_wp2_with fail
            go_roundg (val gu 9/2)
            case measure=>have h1:=inv2.out.u0;have h2:=hk2.out.1;omega
            case rel =>
              refine ⟨h1,h2,st12.out.set_x hh2 IN.out.2.1 IN.out.2.2.2.1 IN.out.2.2.2.2.2.symm,?_,?_⟩
              · have:=inv2.out.half HP.out HODD.out HEV.out
                rw [HV10.out,HV12.out];exact this
              · rw [HV10.out]
                have h2:=hk2.out.2.1
                exact ⟨Nat.le_refl _,by omega,.inr (even_of inv2.out.co HEV.out)⟩
          · have hpb:((gu 0:Int)%2 == 0)=false:=by simp;omega
            have HOU:=Lib.hid hev
            clear hpar hev
            go_wp2_with fail
            go_loopg [] (val fv 9) (fun k3 wx=>∃ gv gy,Hid (IvSt w7 b3 b4 b5 b6 gu gv gx gy wx)∧Hid (InvSt (val m 9) (val f 9) (val gu 9) (val gv 9) (val gx 9) (val gy 9))∧Hid (val gv 9≤k3∧val gv 9≤val fv 9∧(val gu 9≠1∨(val gv 9%2=1∧val gv 9≠1))))
            case atStart=>exact ⟨fv,fy,st2.out,inv2.out,Nat.le_refl _,Nat.le_refl _,hk2.out.2.2.imp id fun h=>⟨h,HV1.out⟩⟩
            case round =>
              obtain ⟨gv,gy,st3,inv3,hk3⟩:=hrel
              have hpar:=val_mod2 gv 9 (by omega)
              clear a0 a1 a2 a3 a4 a5 a6 a7 a8 hpb
              obtain ⟨a0,a1,a2,a3,a4,a5,a6,a7,a8⟩:=st3.out.v.nine
              by_cases hev:val gv 9%2=0
              · have hpb:((gv 0:Int)%2 == 0)=true:=by simp;omega
                have HEV:=Lib.hid hev
                have HC1:=Lib.hid (HHF.out gv st3.out.vw)
                clear hpar hev
                go_wp2_with fail
                refine (HC1.out _).mono ?_
                rintro e w10 ⟨h1,rfl,hh1,hv1,m10⟩
                have st10:=Lib.hid (st3.out.still m10)
                have HV10:=Lib.hid hv1
                clear a0 a1 a2 a3 a4 a5 a6 a7 a8 HC1 m10 hv1 hpb
                obtain ⟨a0,a1,a2,a3,a4,a5,a6,a7,a8⟩:=st10.out.v.nine
                obtain ⟨e0,e1,e2,e3,e4,e5,e6,e7,e8⟩:=st10.out.v.free
                go_upto_region 11 with fail
                rw [setNine_fold w10 b4 h1]
                have st11:=Lib.hid (st10.out.set_v hh1 IN.out.1 IN.out.2.2.2.1.symm IN.out.2.2.2.2.1.symm)
                generalize setNine w10 b4 h1=w11 at *
                clear a0 a1 a2 a3 a4 a5 a6 a7 a8 e0 e1 e2 e3 e4 e5 e6 e7 e8 st10
                obtain ⟨a0,a1,a2,a3,a4,a5,a6,a7,a8⟩:=st11.out.y.nine
                obtain ⟨c0,c1,c2,c3,c4,c5,c6,c7,c8⟩:=(V1.out w11 st11.out.mod).nine
                have HC2:=Lib.hid (HHD.out gy st11.out.yw inv3.out.ylt)
                go_wp2_with fail
                refine (HC2.out _).mono ?_
                rintro e w12 ⟨h2,rfl,hh2,hv2,m12⟩
                have st12:=Lib.hid (st11.out.still m12)
                have HV12:=Lib.hid hv2
                clear a0 a1 a2 a3 a4 a5 a6 a7 a8 c0 c1 c2 c3 c4 c5 c6 c7 c8 HC2 m12 hv2
                obtain ⟨a0,a1,a2,a3,a4,a5,a6,a7,a8⟩:=st12.out.y.nine
                obtain ⟨e0,e1,e2,e3,e4,e5,e6,e7,e8⟩:=st12.out.y.free
                go_wp2_with fail
                go_roundg (val gv 9/2)
                case measure=>have h1:=inv3.out.v0;have h2:=hk3.out.1;omega
                case rel =>
                  refine ⟨h1,h2,st12.out.set_y hh2 IN.out.2.2.1 IN.out.2.2.2.2.1 IN.out.2.2.2.2.2,?_,?_⟩
                  · have:=(inv3.out.turn.half HP.out HODD.out HEV.out).turn
                    rw [HV10.out,HV12.out];exact this
                  · rw [HV10.out]
                    have h2:=hk3.out.2.1
                    have h3:=HEV.out
                    exact ⟨Nat.le_refl _,by omega,.inl (hk3.out.2.2.resolve_right fun h=>by omega)⟩
              · have hpb:((gv 0:Int)%2 == 0)=false:=by simp;omega
                clear hpar
                obtain ⟨c0,c1,c2,c3,c4,c5,c6,c7,c8⟩:=st3.out.u.nine
                have HC1:=Lib.hid (HLS.out gu gv st3.out.uw st3.out.vw)
                have HOV2:=Lib.hid hev
                clear hev
                go_wp2_with fail
                refine (HC1.out _).mono ?_
                rintro e w10 ⟨rfl,m10⟩
                have st10:=Lib.hid (st3.out.still m10)
                clear a0 a1 a2 a3 a4 a5 a6 a7 a8 c0 c1 c2 c3 c4 c5 c6 c7 c8 HC1 m10 hpb
                obtain ⟨a0,a1,a2,a3,a4,a5,a6,a7,a8⟩:=st10.out.u.nine
                obtain ⟨c0,c1,c2,c3,c4,c5,c6,c7,c8⟩:=st10.out.v.nine
                by_cases hlt:val gu 9<val gv 9
                · have hd:=decide_eq_true hlt
                  have HLT2:=Lib.hid hlt
                  have HC2:=Lib.hid (HDF.out gv gu st10.out.vw st10.out.uw)
                  clear hlt
                  go_wp2_with fail
                  refine (HC2.out _).mono ?_
                  rintro e w11 ⟨rfl,m11⟩
                  have st11:=Lib.hid (st10.out.still m11)
                  have hw:∀ j,j<9→subW gv gu j<B64:=fun j hj=>wSub_lt _ _ _
                  have HVd:=Lib.hid (dif_val9 st10.out.vw st10.out.uw (Nat.le_of_lt HLT2.out))
                  clear a0 a1 a2 a3 a4 a5 a6 a7 a8 c0 c1 c2 c3 c4 c5 c6 c7 c8 HC2 m11 hd
                  generalize subW gv gu=h1 at *
                  obtain ⟨a0,a1,a2,a3,a4,a5,a6,a7,a8⟩:=st11.out.v.nine
                  obtain ⟨e0,e1,e2,e3,e4,e5,e6,e7,e8⟩:=st11.out.v.free
                  go_upto_region 14 with fail
                  rw [setNine_fold w11 b4 h1]
                  have st12:=Lib.hid (st11.out.set_v hw IN.out.1 IN.out.2.2.2.1.symm IN.out.2.2.2.2.1.symm)
                  generalize setNine w11 b4 h1=w12 at *
                  clear a0 a1 a2 a3 a4 a5 a6 a7 a8 e0 e1 e2 e3 e4 e5 e6 e7 e8 st11 st10
                  obtain ⟨a0,a1,a2,a3,a4,a5,a6,a7,a8⟩:=st12.out.y.nine
                  obtain ⟨c0,c1,c2,c3,c4,c5,c6,c7,c8⟩:=st12.out.x.nine
                  obtain ⟨d0,d1,d2,d3,d4,d5,d6,d7,d8⟩:=(V1.out w12 st12.out.mod).nine
                  have HC3:=Lib.hid (HSB.out gy gx st12.out.yw st12.out.xw inv3.out.ylt inv3.out.xlt)
                  go_wp2_with fail
                  refine (HC3.out _).mono ?_
                  rintro e w13 ⟨h2,rfl,hh2,hv2,m13⟩
                  have st13:=Lib.hid (st12.out.still m13)
                  have HV13:=Lib.hid hv2
                  clear a0 a1 a2 a3 a4 a5 a6 a7 a8 c0 c1 c2 c3 c4 c5 c6 c7 c8 d0 d1 d2 d3 d4 d5 d6 d7 d8 HC3 m13 hv2
                  obtain ⟨a0,a1,a2,a3,a4,a5,a6,a7,a8⟩:=st13.out.y.nine
                  obtain ⟨e0,e1,e2,e3,e4,e5,e6,e7,e8⟩:=st13.out.y.free
                  go_wp2_with fail
                  go_roundg (val gu 9+val h1 9)
                  case measure =>
                    have q1:=hk.out
                    have q2:=hk2.out.2.1
                    have q3:=hk3.out.2.1
                    have q4:=inv3.out.u0
                    rw [HVd.out]
                    have q5:=HLT2.out
                    omega
                  case rel =>
                    refine ⟨gu,h1,gx,h2,st13.out.set_y hh2 IN.out.2.2.1 IN.out.2.2.2.2.1 IN.out.2.2.2.2.2,?_,Nat.le_refl _⟩
                    have:=(inv3.out.turn.take (Nat.le_of_lt HLT2.out) (by have:=inv3.out.u0;have:=HLT2.out;omega)).turn
                    rw [HVd.out,HV13.out];exact this
                · have hd:=decide_eq_false hlt
                  have HLT2:=Lib.hid (Nat.le_of_not_lt hlt)
                  have HC2:=Lib.hid (HDF.out gu gv st10.out.uw st10.out.vw)
                  clear hlt
                  go_wp2_with fail
                  refine (HC2.out _).mono ?_
                  rintro e w11 ⟨rfl,m11⟩
                  have st11:=Lib.hid (st10.out.still m11)
                  have hw:∀ j,j<9→subW gu gv j<B64:=fun j hj=>wSub_lt _ _ _
                  have HVd:=Lib.hid (dif_val9 st10.out.uw st10.out.vw HLT2.out)
                  clear a0 a1 a2 a3 a4 a5 a6 a7 a8 c0 c1 c2 c3 c4 c5 c6 c7 c8 HC2 m11 hd
                  generalize subW gu gv=h1 at *
                  obtain ⟨a0,a1,a2,a3,a4,a5,a6,a7,a8⟩:=st11.out.u.nine
                  obtain ⟨e0,e1,e2,e3,e4,e5,e6,e7,e8⟩:=st11.out.u.free
                  go_upto_region 16 with fail
                  rw [setNine_fold w11 b3 h1]
                  have st12:=Lib.hid (st11.out.set_u hw IN.out.1.symm IN.out.2.1.symm IN.out.2.2.1.symm)
                  generalize setNine w11 b3 h1=w12 at *
                  clear a0 a1 a2 a3 a4 a5 a6 a7 a8 e0 e1 e2 e3 e4 e5 e6 e7 e8 st11 st10
                  obtain ⟨a0,a1,a2,a3,a4,a5,a6,a7,a8⟩:=st12.out.x.nine
                  obtain ⟨c0,c1,c2,c3,c4,c5,c6,c7,c8⟩:=st12.out.y.nine
                  obtain ⟨d0,d1,d2,d3,d4,d5,d6,d7,d8⟩:=(V1.out w12 st12.out.mod).nine
                  have HC3:=Lib.hid (HSB.out gx gy st12.out.xw st12.out.yw inv3.out.xlt inv3.out.ylt)
                  go_wp2_with fail
                  refine (HC3.out _).mono ?_
                  rintro e w13 ⟨h2,rfl,hh2,hv2,m13⟩
                  have st13:=Lib.hid (st12.out.still m13)
                  have HV13:=Lib.hid hv2
                  clear a0 a1 a2 a3 a4 a5 a6 a7 a8 c0 c1 c2 c3 c4 c5 c6 c7 c8 d0 d1 d2 d3 d4 d5 d6 d7 d8 HC3 m13 hv2
                  obtain ⟨a0,a1,a2,a3,a4,a5,a6,a7,a8⟩:=st13.out.x.nine
                  obtain ⟨e0,e1,e2,e3,e4,e5,e6,e7,e8⟩:=st13.out.x.free
                  go_wp2_with fail
                  go_roundg (val h1 9+val gv 9)
                  case measure =>
                    have q1:=hk.out
                    have q2:=hk2.out.2.1
                    have q3:=hk3.out.2.1
                    have q4:=inv3.out.v0
                    rw [HVd.out]
                    have q5:=HLT2.out
                    omega
                  case rel =>
                    refine ⟨h1,gv,h2,gy,st13.out.set_x hh2 IN.out.2.1 IN.out.2.2.2.1 IN.out.2.2.2.2.2.symm,?_,Nat.le_refl _⟩
                    have:=inv3.out.take HLT2.out (fun h=>by
                      have q1:=hk3.out.2.2
                      have q2:=inv3.out.v0
                      have q3:=HLT2.out
                      rcases q1 with q1 | q1
                      · exact q1 h
                      · omega)
                    rw [HVd.out,HV13.out];exact this
end Go.Proofs.YtpfmbfkhjapbbaaGreatDoor
