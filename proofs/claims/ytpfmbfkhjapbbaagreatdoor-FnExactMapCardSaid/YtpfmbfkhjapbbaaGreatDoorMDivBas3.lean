/-
  nat.divBasic: the long division by rounds. Conditions: at most 60 words in the divisor, whose highest bit is set; the leading word of the dividend is below the divisor's.
-/
import Derived.Test.YtpfmbfkhjapbbaaGreatDoorMg11
import Derived.Test.YtpfmbfkhjapbbaaGreatDoorMg17
import Derived.StillTailTactics
set_option linter.unusedVariables false
set_option linter.unusedSimpArgs false
namespace Go.Proofs.YtpfmbfkhjapbbaaGreatDoor
open Go Go.RowKit
def winF (f:Nat→Nat) (j n u:Nat) (i:Nat):Nat:=if i=n then u else f (j+i)
theorem winF_top (f:Nat→Nat) (j n u:Nat):winF f j n u n=u:=by unfold winF;rw [if_pos rfl]
theorem winF_lo (f:Nat→Nat) (j n u:Nat) {i:Nat} (h:i<n):winF f j n u i=f (j+i):=by unfold winF;rw [if_neg (by omega)]
def DvW (w2:World) (bq bu bh oh cq cu CH n m:Nat) (fu fv:Nat→Nat) (k uj:Nat) (wr:World):Prop :=
  ∃ f g,Arr wr (some ⟨bu,0,none⟩) cu f∧Arr wr (some ⟨bq,0,none⟩) cq g∧(∃ h,Arr wr (some ⟨bh,0,none⟩) CH h)∧Mod (fun b o=>b=bq∨b=bu∨(b=bh∧oh≤o)) w2 wr ∧
    ((k=m+1∧(∀ i,i<m+n→f i=fu i)∧uj=0)∨(DvSt n m fu fv f g k∧uj=f (k+n - 1)))
theorem wrap_add_zero {a b:Nat} (h:(a+b)%B64=0):IntKind.u64.wrap ((a:Int)+(b:Int))=0:=by
  rw [IntKind.wrap_u64,← Int.natCast_add]
  rw [B64_eq] at h
  generalize a+b=z at h
  omega
theorem DvG.zero {n:Nat} {F V:Nat→Nat} {q r:Nat} (h:DvG n F V q r):F n=0→F (n - 1)<V (n - 1)→q=0:=fun h0 h1=>by
  have he:=h.e
  rw [h0,Nat.zero_mul,Nat.zero_add] at he
  refine Classical.byContradiction fun hq => ?_
  have:1*V (n - 1)≤q*V (n - 1):=Nat.mul_le_mul_right _ (by omega)
  omega
def mulH (V:Nat→Nat) (q n i:Nat):Nat:=if i<n then mulW V q 0 i else mulC V q 0 n
theorem mulH_val (V:Nat→Nat) (q n:Nat):val (mulH V q n) (n+1)=q*val V n:=by
  show val (mulH V q n) n+mulH V q n n*_=_
  rw [val_congr (g:=mulW V q 0) fun i hi=>by unfold mulH;rw [if_pos hi]]
  unfold mulH
  rw [if_neg (by omega),mul_val,Nat.add_zero,Nat.mul_comm]
theorem mulH_lt {V:Nat→Nat} {q n:Nat} (hV:∀ i,i<n→V i<B64) (hq:q<B64):∀ i,i<n+1→mulH V q n i<B64:=fun i hi=>by
  unfold mulH
  split
  · exact wLo_lt _ _ _
  · exact mulC_lt hV hq B64_pos n (Nat.le_refl _)
theorem mulH_zero (V:Nat→Nat) (n:Nat):∀ i,i<n+1→mulH V 0 n i=0:=by
  have h:=mulH_val V 0 n
  rw [Nat.zero_mul] at h
  intro i hi
  refine Classical.byContradiction fun hne => ?_
  have h1:B64^i≤val (mulH V 0 n) (i+1):=le_val_of_top hne
  have h2:val (mulH V 0 n) (i+1)≤val (mulH V 0 n) (n+1):=by
    obtain ⟨d,hd⟩:∃ d,n+1=i+1+d:=⟨n - i,by omega⟩
    rw [hd,val_add (mulH V 0 n) (i+1) d]
    omega
  have:=pow_pos i
  omega
theorem subC_zero (F H:Nat→Nat) {L:Nat} (hH:∀ i,i<L→H i=0):∀ k,k≤L→subC F H k=0
  | 0,_=>rfl
  | k+1,h=>by
    show wBor (F k) (H k) (subC F H k)=0
    rw [subC_zero F H hH k (by omega),hH k (by omega)]
    unfold wBor
    rw [if_neg (by omega)]
theorem subW_zero (F H:Nat→Nat) {L:Nat} (hF:∀ i,i<L→F i<B64) (hH:∀ i,i<L→H i=0):∀ k,k<L→subW F H k=F k:=fun k hk=>by
  show wSub (F k) (H k) (subC F H k)=F k
  rw [subC_zero F H hH k (by omega),hH k hk]
  unfold wSub
  rw [Nat.sub_zero,Nat.sub_zero,Nat.add_mod_right,Nat.mod_eq_of_lt (hF k hk)]
theorem dv_start2 {n m:Nat} {fu V f' g:Nat→Nat} (hn:0<n) (hV:∀ i,i<n→V i<B64) (hf:∀ i,i<m+n→fu i<B64) (ht:fu (m+n - 1)<V (n - 1)) (hlo:∀ i,i<m→f' i=fu i)
    (hw:val (fun i=>f' (m+i)) n=val (fun i=>fu (m+i)) n):DvSt n m fu V f' g m:=by
  have h:=DvSt.start (g:=g) hn hV hf ht
  have he:val f' (m+n)=val fu (m+n):=by rw [val_add,val_add,hw,val_congr hlo]
  exact ⟨Nat.le_refl _,fun i h1 h2=>by omega,by rw [he];exact h.val,by rw [he];exact h.lt⟩
def DvE (w2:World) (bq bu bh oh cq cu CH n m j:Nat) (fv F f g:Nat→Nat) (q:Nat) (wx:World):Prop :=
  ∃ f',Arr wx (some ⟨bu,0,none⟩) cu f'∧Arr wx (some ⟨bq,0,none⟩) cq g∧(∃ h,Arr wx (some ⟨bh,0,none⟩) CH h)∧Mod (fun b o=>b=bq∨b=bu∨(b=bh∧oh≤o)) w2 wx ∧
    q=val F (n+1)/val fv n∧q<B64∧val (fun i=>f' (j+i)) n=val F (n+1)%val fv n∧(∀ i,i<j→f' i=f i)∧(j<m→f' (j+n)=0)∧(∀ i,j+n<i→i<m+n→f' i=f i)
theorem dv_back {w2 w5 w6:World} {bq bu bh oh cq cu CH n m j qq:Nat} {fv F f g D A:Nat→Nat} (hD:Arr w5 (some ⟨bu,0,none⟩) cu (lay f j (n+1) D)) (a2:Arr w5 (some ⟨bq,0,none⟩) cq g) (a3:∃ h,Arr w5 (some ⟨bh,0,none⟩) CH h)
    (a4:Mod (fun b o=>b=bq∨b=bu∨(b=bh∧oh≤o)) w2 w5) (hV6:Vec w6 bu j n A) (m6:Mod (InR bu j n) w5 w6) (hq:qq=val F (n+1)/val fv n) (hqB:qq<B64) (hval:val A n=val F (n+1)%val fv n)
    (hcu:j+n<cu) (e1:bq≠bu) (e2:bh≠bu) :
    w6.cell? ⟨bu,j+n,none⟩=some (U (D n))∧w6.frozen? ⟨bu,j+n,none⟩=false∧DvE w2 bq bu bh oh cq cu CH n m j fv F f g qq (w6.setCell ⟨bu,j+n,none⟩ (U 0)):=by
  have hA6:=hD.wroteAt hV6 m6
  have hc:=hA6.vec (j+n) hcu
  rw [Nat.zero_add] at hc
  have hcv:lay (lay f j (n+1) D) j n A (j+n)=D n:=by
    unfold lay
    rw [if_neg (by omega),if_pos (by omega),Nat.add_sub_cancel_left]
  rw [hcv] at hc
  have hA7:=hA6.store (i:=j+n) (x:=0) B64_pos
  obtain ⟨g5,hg5⟩:=a3
  have m7:Mod (InB bu) w5 (w6.setCell ⟨bu,j+n,none⟩ (U 0)):=(m6.mono fun b o _ hh=>hh.1).setCell (fun _=>rfl) _
  refine ⟨hc.1,hc.2.1,_,hA7,a2.mod m7 (by rintro A hA o hh;cases hA;exact e1 hh),⟨g5,hg5.mod m7 (by rintro A hA o hh;cases hA;exact e2 hh)⟩,a4.trans' m7 fun b o _ hh=>.inr (.inl hh),hq,hqB,?_,fun i hi => ?_,fun _=>put_same _ _ _,fun i h1 h2 => ?_⟩
  · rw [← hval]
    exact val_congr fun i hi=>by
      show put _ (j+n) 0 (j+i)=_
      rw [put_other _ _ (by omega)]
      unfold lay
      rw [if_pos (by omega),Nat.add_sub_cancel_left]
  · rw [put_other _ _ (by omega)];unfold lay;rw [if_neg (by omega),if_neg (by omega)]
  · rw [put_other _ _ (by omega)];unfold lay;rw [if_neg (by omega),if_neg (by omega)]
set_option maxRecDepth 100000 in
set_option maxHeartbeats 64000000 in
theorem divBasic_any (bq cq bu cu bv ov cv s N n m nu:Nat) (fq fu fv:Nat→Nat) (w:World) (hQ:Arr w (some ⟨bq,0,none⟩) cq fq) (hmq:m≤cq) (hU:Arr w (some ⟨bu,0,none⟩) cu fu) (hnu:nu=m+n) (hmu:nu≤cu)
    (hV:Vec w bv ov n fv) (hcv:n≤cv) (hn2:2≤n) (hn:n≤60) (hm1:1≤m) (hm:m≤1000) (hnorm:B64≤2*fv (n - 1)) (htop:fu (m+n - 1)<fv (n - 1))
    (hS:StkPre w s N bq bu bv ov n) (hN:N≤w.heap.size) (e1:bq≠bu) (e2:bv≠bq) (e3:bv≠bu) (e4:s≠bq) (e5:s≠bu) (e6:s≠bv) :
    Calls Tryz.prog 175 #[.slice (some ⟨bq,0,none⟩) m cq,.pointer (some ⟨s,0,none⟩),.slice (some ⟨bu,0,none⟩) nu cu,.slice (some ⟨bv,ov,none⟩) n cv] w fun e w' =>
      e=.returned (.tuple #[])∧∃ f g,Arr w' (some ⟨bu,0,none⟩) cu f∧Arr w' (some ⟨bq,0,none⟩) cq g∧val g m=val fu nu/val fv n∧val f nu=val fu nu%val fv n∧StkIs w' s N∧Mod (fun b o=>b=bq∨b=bu∨b=s∨N≤b) w w':=by
  have hvlt:bv<w.heap.size:=lt_of_cell? (hV 0 (by omega)).1
  obtain ⟨sv,hsave,hnat⟩:=stk_pre w s N bq bu bv ov n (n+1) hS (by omega) (by omega) hN e4 e5 e6 hQ.lt hU.lt hvlt
  have HSV:=Lib.hid hsave
  have HNT:=Lib.hid hnat
  have HQ:=Lib.hid hQ
  have HU:=Lib.hid hU
  have HV:=Lib.hid hV
  have HNU:=Lib.hid hnu
  have hmn:(nu:Int) - (n:Int)=(m:Int):=by omega
  have HVw:=Lib.hid (fun i (h:i<n)=>(hV i h).2.2)
  have HVP:=Lib.hid (show 0<val fv n by
    have:=le_val_of_top (f:=fv) (n:=n - 1) (by rw [B64_eq] at hnorm;omega)
    rw [show n - 1+1=n by omega] at this
    have:=pow_pos (n - 1)
    omega)
  have HNORM:=Lib.hid hnorm
  have HTOP:=Lib.hid htop
  have HE:=Lib.hid (show bq≠bu∧bv≠bq∧bv≠bu∧s≠bq∧s≠bu∧s≠bv from ⟨e1,e2,e3,e4,e5,e6⟩)
  have i1:(0:Int)≤(n:Int) - 1:=by omega
  have i2:(n:Int) - 1<(n:Int):=by omega
  have i3:((n:Int) - 1).toNat=n - 1:=by omega
  have i4:(0:Int)≤(n:Int) - 2:=by omega
  have i5:(n:Int) - 2<(n:Int):=by omega
  have i6:((n:Int) - 2).toNat=n - 2:=by omega
  have hvn1:0<fv (n - 1):=by rw [B64_eq] at hnorm;omega
  have HR:=Lib.hid (fun w=>recip_any (fv (n - 1)) hvn1 (HVw.out _ (by omega)) w)
  have HD:=Lib.hid (fun x1 x0 (h1:x1<fv (n - 1)) (h0:x0<B64) w=>divWW_any x1 x0 (fv (n - 1)) h1 h0 (HVw.out _ (by omega)) w)
  have HVN1:=Lib.hid hvn1
  clear hS hsave hnat hQ hU hV hnu hnorm htop e1 e2 e3 e4 e5 e6 hvlt hvn1
  generalize hrc:rcp (fv (n - 1))=rc at *
  obtain ⟨vn1,hvn1⟩:∃ k,k=fv (n - 1):=⟨_,rfl⟩
  obtain ⟨vn2,hvn2⟩:∃ k,k=fv (n - 2):=⟨_,rfl⟩
  rw [← hvn1] at HR HD HVN1
  have HV1:=Lib.hid hvn1
  have HV2:=Lib.hid hvn2
  clear hrc hvn1 hvn2
  go_enter_defers Tryz.func175,Tryz.ntmps175
  go_wp2_with fail
  refine HSV.out.mono ?_
  rintro e w' ⟨rfl,rfl⟩
  go_wp2_with fail
  refine HNT.out.mono ?_
  rintro e w1 ⟨bh,oh,ch,CH,rfl,got⟩
  have GOT:=Lib.hid got
  have hv1:Vec w1 bv ov n fv:=HV.out.mod got.mod fun j hj hh=>by have:=hh.2.2.2 rfl;omega
  have c1:=(hv1 (n - 1) (by omega)).1
  rw [← HV1.out] at c1
  have HV1w:=Lib.hid hv1
  have hQ1:=HQ.out.mod got.mod (by rintro A hA o hh;cases hA;exact hh.2.1 rfl)
  have hU1:=HU.out.mod got.mod (by rintro A hA o hh;cases hA;exact hh.2.2.1 rfl)
  have HQ1:=Lib.hid hQ1
  have HU1:=Lib.hid hU1
  clear got hv1 hQ1 hU1 HSV HNT
  go_wp2_with fail
  refine (HR.out _).mono ?_
  rintro e w2 ⟨rfl,kd,rfl⟩
  have HV2w:=Lib.hid (HV1w.out.drewN kd)
  have HQ2:=Lib.hid (HQ1.out.drewN kd)
  have HU2:=Lib.hid (HU1.out.drewN kd)
  have HM2:=Lib.hid ((Mod.refl NoP w1).drewN kd)
  clear HV1w HQ1 HU1 c1
  generalize w1.drewN kd=w2 at *
  have HH2:=Lib.hid (show ∃ h,Arr w2 (some ⟨bh,0,none⟩) CH h from (by obtain ⟨g,hg⟩:=GOT.out.arr;exact ⟨g,hg.mod HM2.out (Off.noP _)⟩))
  have hneh:bh≠bq∧bh≠bu:=⟨GOT.out.nq,GOT.out.nu⟩
  go_wp2_with fail
  go_loopw [13,14] (fun uj jj wr=>∃ k u:Nat,k≤m+1∧jj=.int .i64 ((k:Int) - 1)∧uj=U u∧Hid (DvW w2 bq bu bh oh cq cu CH n m fu fv k u wr)) (fun _ jj _=>(intOf jj+1).toNat)
  case atStart=>exact ⟨m+1,0,Nat.le_refl _,by go_num,rfl,⟨fu,fq,HU2.out,HQ2.out,HH2.out,.refl _ _,.inl ⟨rfl,fun _ _=>rfl,rfl⟩⟩⟩
  case round =>
    obtain ⟨k,u,hk,rfl,rfl,hst⟩:=hrel
    by_cases hk0:k=0
    · subst hk0
      have hfin:=hst.out
      obtain ⟨f,g,hA,hB,hC,hM,hD⟩:=hfin
      have hD':DvSt n m fu fv f g 0:=by
        rcases hD with ⟨h,_⟩ | ⟨h,_⟩
        · omega
        · exact h
      have hfin:=hD'.fin HVP.out
      rw [← HNU.out] at hfin
      have hM1:Mod (fun b o=>b=bq∨b=bu∨b=bh) w1 wr:=(HM2.out.of_none).trans (hM.mono fun b o _ hh=>by
        rcases hh with h | h | h
        · exact .inl h
        · exact .inr (.inl h)
        · exact .inr (.inr h.1))
      have HRST:=Lib.hid ((GOT.out.rst wr hM1 hC).mono fun e u' w' h=>(⟨h.1,h.2.1,⟨f,g,hA.mod h.2.2.2 (by rintro A hA o hh;cases hA;exact hh.2.2 rfl),hB.mod h.2.2.2 (by rintro A hA o hh;cases hA;exact hh.2.1 rfl),hfin.1,hfin.2,h.2.2.1,
        (GOT.out.mod.mono fun b o _ hh=>by rcases hh.1 with h | h;exact .inr (.inr (.inl h));exact .inr (.inr (.inr h))).trans' ((hM1.mono (M':=fun b o=>b=bq∨b=bu∨N≤b) fun b o _ hh=>by rcases hh with h | h | h;exact .inl h;exact .inr (.inl h);exact .inr (.inr (h ▸ GOT.out.lo))).trans' h.2.2.2 fun b o _ hh=>.inr (.inr hh.1)) (fun b o _ hh=>by
          rcases hh with h | h | h
          · exact .inl h
          · exact .inr (.inl h)
          · exact .inr (.inr (.inr h)))⟩⟩:u'=.returning∧e=.returned (.tuple #[])∧∃ f g,Arr w' (some ⟨bu,0,none⟩) cu f∧Arr w' (some ⟨bq,0,none⟩) cq g∧val g m=val fu nu/val fv n∧val f nu=val fu nu%val fv n∧StkIs w' s N∧Mod (fun b o=>b=bq∨b=bu∨b=s∨N≤b) _ w'))
      clear hst hD hD' hfin hM1 hM hA hB hC
      go_wp2_with fail
      refine leaves_cons (f:=153) (args:=#[.pointer (some ⟨s,0,none⟩),.int .i64 (sv:Int)]) (by simp) (by simp [go_sem]) ?_
      refine HRST.out.mono ?_
      rintro e u' w'' ⟨rfl,rfl,hres⟩
      exact ⟨_,results_none rfl _ _ _,rfl,hres⟩
    · obtain ⟨j,rfl⟩:∃ j,k=j+1:=⟨k - 1,by omega⟩
      rw [show (((j+1:Nat):Int) - 1)=(j:Int) by omega]
      obtain ⟨f,g,hA,hB,hC,hM,hD⟩:=hst.out
      obtain ⟨F,hF⟩:∃ F,F=winF f j n u:=⟨_,rfl⟩
      have hAw:=hA.words
      have hjm:j≤m:=by omega
      have hnu:=HNU.out
      have hin:DvIn n F fv∧(j=m→F n=0∧F (n - 1)<fv (n - 1)∧∀ i,i<m+n→f i=fu i):=by
        rcases hD with ⟨h1,h2,h3⟩ | ⟨h1,h2⟩
        · obtain rfl:j=m:=by omega
          have hlo:val F n<val fv n:=by
            refine val_lt_of_word (m:=n - 1) (fun i hi=>by rw [hF,winF_lo _ _ _ _ hi];exact hAw _ (by omega)) (by omega) (fun i h4 h5=>by omega) ?_
            rw [hF,winF_lo _ _ _ _ (by omega),h2 _ (by omega),show j+(n - 1)=j+n - 1 by omega]
            exact HTOP.out
          have hFn:F n=0:=by rw [hF,winF_top];exact h3
          refine ⟨⟨hn2,fun i hi => ?_,HVw.out,HNORM.out,?_⟩,fun _=>⟨hFn,by rw [hF,winF_lo _ _ _ _ (by omega),h2 _ (by omega),show j+(n - 1)=j+n - 1 by omega];exact HTOP.out,h2⟩⟩
          · by_cases e:i=n
            · rw [e,hFn];exact B64_pos
            · rw [hF,winF_lo _ _ _ _ (by omega)];exact hAw _ (by omega)
          · show val F n+F n*_<_
            rw [hFn,Nat.zero_mul,Nat.add_zero]
            have:1*val fv n≤B64*val fv n:=Nat.mul_le_mul_right _ (by decide)
            omega
        · have hkm:=h1.km
          refine ⟨⟨hn2,fun i hi => ?_,HVw.out,HNORM.out,?_⟩,fun h=>by omega⟩
          · by_cases e:i=n
            · rw [e,hF,winF_top,h2];exact hAw _ (by omega)
            · rw [hF,winF_lo _ _ _ _ (by omega)];exact hAw _ (by omega)
          · rw [show val F (n+1)=val (fun i=>f (j+i)) (n+1) from val_congr fun i hi=>by
              by_cases e:i=n
              · rw [e,hF,winF_top,h2];show f (j+1+n - 1)=f (j+n);congr 1;omega
              · rw [hF,winF_lo _ _ _ _ (by omega)]]
            exact h1.win
      have HIN:=Lib.hid hin.1
      have HFM:=Lib.hid hin.2
      have HFn:=Lib.hid (show F n=u by rw [hF,winF_top])
      obtain ⟨u1,hu1e⟩:∃ k,k=F (n - 1):=⟨_,rfl⟩
      obtain ⟨u2,hu2e⟩:∃ k,k=F (n - 2):=⟨_,rfl⟩
      have HF1:=Lib.hid hu1e.symm
      have HF2:=Lib.hid hu2e.symm
      have hu1:u1<B64:=by rw [hu1e];exact hin.1.Fw _ (by omega)
      have hu2:u2<B64:=by rw [hu2e];exact hin.1.Fw _ (by omega)
      have huB:u<B64:=by have:=hin.1.Fw n (Nat.le_refl _);rwa [HFn.out] at this
      have cu1:wr.cell? ⟨bu,j+n - 1,none⟩=some (U u1):=by
        have:=(hA.vec (j+n - 1) (by omega)).1
        rw [Nat.zero_add] at this
        rw [this,hu1e,hF,winF_lo _ _ _ _ (by omega),show j+(n - 1)=j+n - 1 by omega]
      have cu2:wr.cell? ⟨bu,j+n - 2,none⟩=some (U u2):=by
        have:=(hA.vec (j+n - 2) (by omega)).1
        rw [Nat.zero_add] at this
        rw [this,hu2e,hF,winF_lo _ _ _ _ (by omega),show j+(n - 2)=j+n - 2 by omega]
      have hvr:Vec wr bv ov n fv:=HV2w.out.mod hM fun i hi hh=>by
        rcases hh with h | h | ⟨h,ho⟩
        · exact HE.out.2.1 h
        · exact HE.out.2.2.1 h
        · have:=GOT.out.apv h.symm;omega
      have cv2:wr.cell? ⟨bv,ov+(n - 2),none⟩=some (U vn2):=by
        have:=(hvr (n - 2) (by omega)).1
        rw [← HV2.out] at this
        exact this
      have HVR:=Lib.hid hvr
      have HST:=Lib.hid (show DvW w2 bq bu bh oh cq cu CH n m fu fv (j+1) u wr from hst.out)
      have k1:(0:Int)≤(j:Int)+(n:Int) - 1:=by omega
      have k2:(j:Int)+(n:Int) - 1<(nu:Int):=by omega
      have k3:((j:Int)+(n:Int) - 1).toNat=j+n - 1:=by omega
      have k4:(0:Int)≤(j:Int)+(n:Int) - 2:=by omega
      have k5:(j:Int)+(n:Int) - 2<(nu:Int):=by omega
      have k6:((j:Int)+(n:Int) - 2).toNat=j+n - 2:=by omega
      have hFH:=Lib.hid hF
      have HOLD:=Lib.hid hD
      have HA:=Lib.hid hA
      have HB:=Lib.hid hB
      have HC:=Lib.hid hC
      have HM:=Lib.hid hM
      have HAW:=Lib.hid hAw
      clear hst hA hB hC hM hD hAw hin hu1e hu2e hvr hF hnu
      go_upto_if 51 with fail
      go_cut [15,16,17,18,19,20] from 45 to 200 (fun s15 s16 s17 s18 s19 s20 wx=>wx=wr∧∃ qh:Nat,s15=U qh∧Hid (Guess (val F (n+1)) (val fv n) qh)∧Hid (F n=0→F (n - 1)<fv (n - 1)→qh=0))
      case first =>
        by_cases huv:u=vn1
        · have HEQ:=Lib.hid (HIN.out.eq (by rw [HFn.out,huv];exact HV1.out))
          have hbb:((u:Int) == (vn1:Int))=true:=by simp [huv]
          have HZ:=Lib.hid (show F n=0→F (n - 1)<fv (n - 1)→18446744073709551615=0 from fun h0 _=>by
            have:=HVN1.out
            have h2:=HFn.out
            omega)
          clear huv
          go_wp2_with fail
          go_meet
          case rel=>exact ⟨rfl,18446744073709551615,rfl,HEQ.out,HZ.out⟩
        · have hbb:((u:Int) == (vn1:Int))=false:=by simp;omega
          have hlt:u<vn1:=by
            have:=HIN.out.top_le
            rw [HFn.out,← HV1.out] at this
            omega
          have hst0:=HIN.out.start (by rw [HFn.out,← HV1.out];exact hlt)
          rw [HFn.out,HF1.out,← HV1.out] at hst0
          have HD1:=Lib.hid (HD.out u u1 hlt hu1)
          have hq0:=hst0.qB
          have hr0:(u*B64+u1)%vn1<vn1:=Nat.mod_lt _ HVN1.out
          have hv1B:=HVw.out (n - 1) (by omega)
          rw [← HV1.out] at hv1B
          have hv2B:=HVw.out (n - 2) (by omega)
          rw [← HV2.out] at hv2B
          generalize (u*B64+u1)/vn1=q0 at *
          generalize (u*B64+u1)%vn1=r0 at *
          have HST0:=Lib.hid hst0
          have HMW:=Lib.hid (fun w=>mulWW_any q0 vn2 hq0 hv2B w)
          have hx0:=wHi_lo q0 vn2 0
          have hx1:=wHi_lt hq0 hv2B B64_pos
          have hx2:=wLo_lt q0 vn2 0
          obtain ⟨xh,hxh⟩:∃ k,k=wHi q0 vn2 0:=⟨_,rfl⟩
          obtain ⟨xl,hxl⟩:∃ k,k=wLo q0 vn2 0:=⟨_,rfl⟩
          rw [← hxh,← hxl] at HMW hx0
          rw [← hxh] at hx1
          rw [← hxl] at hx2
          have HX0:=Lib.hid (show xh*B64+xl=q0*vn2 by omega)
          clear hst0 hxh hxl hx0
          go_wp2_with fail
          refine (HD1.out _).mono ?_
          rintro e w' ⟨rfl,rfl⟩
          go_wp2_with fail
          refine (HMW.out _).mono ?_
          rintro e w' ⟨rfl,rfl⟩
          go_wp2_with fail
          go_loop [15,16,18,19] (fun a b c d=>∃ q r x1 x2:Nat,a=U q∧b=U r∧c=U x1∧d=U x2∧r<B64∧x1<B64∧x2<B64∧Hid (x1*B64+x2=q*vn2)∧Hid (DvG n F fv q r)) (fun a _ _ _=>(intOf a).toNat)
          case atStart=>exact ⟨q0,r0,xh,xl,rfl,rfl,rfl,rfl,by omega,hx1,hx2,HX0.out,HST0.out⟩
          case round =>
            obtain ⟨q,r,x1,x2,rfl,rfl,rfl,rfl,hr,hx1',hx2',hxe,hg⟩:=hrel
            have HG:=Lib.hid (fun w=>greater_any x1 x2 r u2 hx1' hx2' hr hu2 w)
            clear HX0 HST0 HMW HD1 hx1 hx2
            by_cases hc:r*B64+u2<x1*B64+x2
            · rw [decide_eq_true hc] at HG
              obtain ⟨hq,hg2⟩:=HIN.out.down hg.out (by rw [HF2.out,← HV2.out,← hxe.out];exact hc)
              rw [← HV1.out] at hg2
              have hqB:=hg.out.qB
              obtain ⟨qq,hqq⟩:∃ k,k=q - 1:=⟨_,rfl⟩
              have a1:IntKind.u64.wrap ((q:Int) - 1)=(qq:Int):=by rw [IntKind.wrap_u64];rw [B64_eq] at hqB;omega
              rw [← hqq] at hg2
              have hqlt:qq<q:=by omega
              have hxm:x1*B64+x2=qq*vn2+vn2:=by rw [hxe.out,show q=qq+1 by omega,Nat.add_mul,Nat.one_mul]
              have HG2:=Lib.hid hg2
              clear hg2 hqq hc hg hxe
              by_cases hb:r+vn1<B64
              · obtain ⟨rr,hrr⟩:∃ k,k=r+vn1:=⟨_,rfl⟩
                have a2:IntKind.u64.wrap ((r:Int)+(vn1:Int))=(rr:Int):=by rw [IntKind.wrap_u64];rw [B64_eq] at hb;omega
                have a3:¬ (rr:Int)<(vn1:Int):=by omega
                rw [← hrr] at HG2 hb
                clear hrr
                by_cases hx:x2<vn2
                · obtain ⟨y1,hy1⟩:∃ k,k=x1 - 1:=⟨_,rfl⟩
                  obtain ⟨y2,hy2⟩:∃ k,k=x2+B64 - vn2:=⟨_,rfl⟩
                  have hx10:0<x1:=by
                    rcases Nat.eq_zero_or_pos x1 with h | h
                    · subst h;omega
                    · exact h
                  have a4:IntKind.u64.wrap ((x1:Int) - 1)=(y1:Int):=by rw [IntKind.wrap_u64];rw [B64_eq] at hx1';omega
                  have a5:IntKind.u64.wrap ((x2:Int) - (vn2:Int))=(y2:Int):=by rw [IntKind.wrap_u64];rw [B64_eq] at *;omega
                  have a6:(x2:Int)<(vn2:Int):=by omega
                  have hyy:y1*B64+y2=qq*vn2:=by
                    have:x1*B64=y1*B64+B64:=by rw [show x1=y1+1 by omega,Nat.add_mul,Nat.one_mul]
                    omega
                  have HYY:=Lib.hid hyy
                  have l1:y1<B64:=by omega
                  have l2:y2<B64:=by omega
                  clear hyy hy1 hy2 hxm hx
                  go_wp2_with fail
                  refine (HG.out _).mono ?_
                  rintro e w' ⟨rfl,rfl⟩
                  go_wp2_with fail
                  go_round
                  case rel=>exact ⟨qq,rr,y1,y2,rfl,rfl,rfl,rfl,hb,l1,l2,HYY.out,HG2.out⟩
                  case measure=>simp [intOf];omega
                · obtain ⟨y2,hy2⟩:∃ k,k=x2 - vn2:=⟨_,rfl⟩
                  have a5:IntKind.u64.wrap ((x2:Int) - (vn2:Int))=(y2:Int):=by rw [IntKind.wrap_u64];rw [B64_eq] at *;omega
                  have a6:¬ (x2:Int)<(vn2:Int):=by omega
                  have hyy:x1*B64+y2=qq*vn2:=by omega
                  have HYY:=Lib.hid hyy
                  have l2:y2<B64:=by omega
                  clear hyy hy2 hxm hx
                  go_wp2_with fail
                  refine (HG.out _).mono ?_
                  rintro e w' ⟨rfl,rfl⟩
                  go_wp2_with fail
                  go_round
                  case rel=>exact ⟨qq,rr,x1,y2,rfl,rfl,rfl,rfl,hb,hx1',l2,HYY.out,HG2.out⟩
                  case measure=>simp [intOf];omega
              · obtain ⟨rr,hrr⟩:∃ k,k=r+vn1 - B64:=⟨_,rfl⟩
                have a2:IntKind.u64.wrap ((r:Int)+(vn1:Int))=(rr:Int):=by rw [IntKind.wrap_u64];rw [B64_eq] at *;omega
                have a3:(rr:Int)<(vn1:Int):=by omega
                have HDN:=Lib.hid (HIN.out.done2 HG2.out (by omega))
                have HZ:=Lib.hid HG2.out.zero
                clear hrr hxm hb
                go_wp2_with fail
                refine (HG.out _).mono ?_
                rintro e w' ⟨rfl,rfl⟩
                go_wp2_with fail
                go_meet
                case rel=>exact ⟨rfl,qq,rfl,HDN.out,HZ.out⟩
            · rw [decide_eq_false hc] at HG
              have HDN:=Lib.hid (HIN.out.done hg.out (by rw [HF2.out,← HV2.out,← hxe.out];omega))
              have HZ:=Lib.hid hg.out.zero
              clear hc hg hxe
              go_wp2_with fail
              refine (HG.out _).mono ?_
              rintro e w' ⟨rfl,rfl⟩
              go_wp2_with fail
              go_meet
              case rel=>exact ⟨rfl,q,rfl,HDN.out,HZ.out⟩
      case rest =>
        obtain ⟨rfl,qh,rfl,hg,hz⟩:=hcut
        have HG:=hg
        have hqB:=hg.out.lt
        have HZ':=Lib.hid (fun h:j=m=>hz.out (HFM.out h).1 (HFM.out h).2.1)
        obtain ⟨mc,hmc⟩:∃ k,k=mulC fv qh 0 n:=⟨_,rfl⟩
        have hmc0:j=m→mc=0:=fun h=>by
          have h1:=mulH_zero fv n n (by omega)
          unfold mulH at h1
          rw [if_neg (by omega)] at h1
          rw [hmc,HZ'.out h];exact h1
        have HMC0:=Lib.hid hmc0
        obtain ⟨gh,hgh⟩:=HC.out
        have hco:=GOT.out.c2
        have hhn:=hgh.vec (oh+n) (by omega)
        rw [Nat.zero_add] at hhn
        have hhv:Vec wc bh oh n (fun i=>gh (oh+i)):=fun i hi=>by
          have:=hgh.vec (oh+i) (by omega)
          rw [Nat.zero_add] at this
          exact this
        have HMA:=Lib.hid (mulAddVWW_any bh oh ch bv ov cv n qh 0 fv _ wc HVR.out hhv (by omega) hqB B64_pos (fun e=>.inr (GOT.out.apv e.symm)))
        rw [← hmc] at HMA
        have hP4:=Lib.hid (fun (w3:World) (hV3:Vec w3 bh oh n (mulW fv qh 0)) (m3:Mod (InR bh oh n) wc w3)=>by
          have hnr:¬ InR bh oh n bh (oh+n):=fun hh=>by have:=hh.2.2;omega
          have hc3:=m3.cell_some hhn.1 hnr
          have hf3:=m3.free hhn.1 hhn.2.1
          have c4:=cell_same hc3 (U mc)
          have m4:Mod (fun k o=>k=bh∧oh≤o) wc (w3.setCell ⟨bh,oh+n,none⟩ (U mc)):=(m3.mono fun k o _ hh=>⟨hh.1,hh.2.1⟩).setCell (fun _=>⟨rfl,by omega⟩) _
          have hA3:=hgh.wroteAt hV3 m3
          have hA4:=hA3.store (i:=oh+n) (x:=mc) (by rw [hmc];exact mulC_lt HVw.out hqB B64_pos n (Nat.le_refl _))
          have hV4:Vec (w3.setCell ⟨bh,oh+n,none⟩ (U mc)) bh oh (n+1) (mulH fv qh n):=fun i hi=>by
            have h1:=hA4.vec (oh+i) (by omega)
            rw [Nat.zero_add] at h1
            have e:put (lay gh oh n (mulW fv qh 0)) (oh+n) mc (oh+i)=mulH fv qh n i:=by
              by_cases hi2:i<n
              · rw [put_other _ _ (by omega)]
                unfold lay mulH
                rw [if_pos (by omega),if_pos hi2,Nat.add_sub_cancel_left]
              · obtain rfl:i=n:=by omega
                rw [put_same]
                unfold mulH
                rw [if_neg hi2];exact hmc
            rw [e] at h1
            exact h1
          exact (⟨⟨hc3,hf3,c4⟩,m4,hV4,⟨_,hA4⟩⟩:(w3.cell? ⟨bh,oh+n,none⟩=some (U (gh (oh+n)))∧w3.frozen? ⟨bh,oh+n,none⟩=false∧(w3.setCell ⟨bh,oh+n,none⟩ (U mc)).cell? ⟨bh,oh+n,none⟩=some (U mc))∧Mod (fun k o=>k=bh∧oh≤o) wc (w3.setCell ⟨bh,oh+n,none⟩ (U mc))∧Vec (w3.setCell ⟨bh,oh+n,none⟩ (U mc)) bh oh (n+1) (mulH fv qh n)∧∃ h,Arr (w3.setCell ⟨bh,oh+n,none⟩ (U mc)) (some ⟨bh,0,none⟩) CH h))
        have hsl0:=slice_mid 49 bh oh (n+1) ch 0 n (by omega) (by have:=GOT.out.c1;omega) (by have:=GOT.out.c1;omega) (.inr rfl) 0 (n:Int) rfl rfl
        rw [Nat.add_zero,Nat.sub_zero,Nat.sub_zero] at hsl0
        clear hmc hmc0 hco hhn hhv hz hg hgh
        go_wp2_with fail
        refine HMA.out.mono ?_
        rintro e w3 ⟨rfl,hV3,m3⟩
        obtain ⟨⟨hc3,hf3,c4⟩,hm4,hv4,hc4⟩:=hP4.out w3 hV3 m3
        have HM4:=Lib.hid hm4
        have HV4:=Lib.hid hv4
        have HC4:=Lib.hid hc4
        clear hP4 hm4 hv4 hc4 hV3 m3 HMA hsl0
        by_cases hjm:j=m
        · have hmcz:((mc:Int) == 0)=true:=by simp [HMC0.out hjm]
          obtain rfl:qh=0:=HZ'.out hjm
          have g1:(nu:Int)<(j:Int)+((n:Int)+1):=by omega
          have wr1:IntKind.i64.wrap ((j:Int)+(n:Int))=(j:Int)+(n:Int):=by rw [IntKind.wrap_i64];omega
          have wr2:IntKind.i64.wrap ((j:Int)+((n:Int)+1))=(j:Int)+((n:Int)+1):=by rw [IntKind.wrap_i64];omega
          have wr3:IntKind.i64.wrap ((n:Int)+1 - 1)=(n:Int):=by rw [IntKind.wrap_i64];omega
          have wr4:IntKind.i64.wrap (n:Int)=(n:Int):=by rw [IntKind.wrap_i64];omega
          have hsU:∀ w,(Instr.slice 49 (.slice (some ⟨bu,0,none⟩) nu cu) (some (.int .i64 (j:Int))) (some (.int .i64 ((j:Int)+(n:Int)))) none).run Tryz.prog w=.ok (.slice (some ⟨bu,j,none⟩) n (cu - j)) w:=fun w=>slice_win 49 bu nu cu j n (by omega) (by omega) (.inr rfl) w
          have hsH:∀ w,(Instr.slice 49 (.slice (some ⟨bh,oh,none⟩) (n+1) ch) none (some (.int .i64 (n:Int))) none).run Tryz.prog w=.ok (.slice (some ⟨bh,oh,none⟩) n ch) w:=fun w=>slice_to bh oh (n+1) ch n (by have:=GOT.out.c1;omega) w
          have hsH2:∀ w,(Instr.slice 49 (.slice (some ⟨bh,oh,none⟩) (n+1) ch) none (some (.int .i64 ((n:Int)+1 - 1))) none).run Tryz.prog w=.ok (.slice (some ⟨bh,oh,none⟩) n ch) w:=fun w=>by rw [show (n:Int)+1 - 1=(n:Int) by omega];exact hsH w
          generalize hw4:w3.setCell ⟨bh,oh+n,none⟩ (U mc)=w4 at *
          have hF0:=(HFM.out hjm).1
          have hUw:Vec w4 bu j n F:=fun i hi=>by
            have h1:=(HA.out.vec (j+i) (by omega))
            rw [Nat.zero_add] at h1
            rw [hFH.out,winF_lo _ _ _ _ hi]
            exact ⟨HM4.out.cell_some h1.1 (fun hh=>hneh.2 hh.1.symm),HM4.out.free h1.1 h1.2.1,h1.2.2⟩
          have HSV:=Lib.hid (fun w' (m:Mod NoP w4 w')=>subVV_any bu j (cu - j) bu j (cu - j) bh oh ch n F (mulH fv 0 n) F w' (hUw.mod m fun _ _ h=>h) ((HV4.out.take (by omega)).mod m fun _ _ h=>h) (hUw.mod m fun _ _ h=>h) (by omega) (fun _=>.inl (Nat.le_refl _)) (fun h=>absurd h hneh.2))
          have hsc:=subC_zero F (mulH fv 0 n) (L:=n) (fun i hi=>mulH_zero fv n i (by omega)) n (Nat.le_refl _)
          have hsw:=subW_zero F (mulH fv 0 n) (L:=n) (fun i hi=>HIN.out.Fw i (by omega)) (fun i hi=>mulH_zero fv n i (by omega))
          rw [hsc] at HSV
          have hAw:=HA.out.mod HM4.out (by rintro A hA o hh;cases hA;exact hneh.2 hh.1.symm)
          have hBw:=HB.out.mod HM4.out (by rintro A hA o hh;cases hA;exact hneh.1 hh.1.symm)
          have HPOST:=Lib.hid (fun (w5:World) (hV5:Vec w5 bu j n (subW F (mulH fv 0 n))) (m5:Mod (InR bu j n) w4 w5)=>by
            have hA5:=hAw.wroteAt hV5 m5
            have hB5:=hBw.mod m5 (by rintro A hA o hh;cases hA;exact HE.out.1 hh.1)
            obtain ⟨g4,hg4⟩:=HC4.out
            have hC5:=hg4.mod m5 (by rintro A hA o hh;cases hA;exact hneh.2 hh.1)
            have hM5:Mod (fun b o=>b=bq∨b=bu∨(b=bh∧oh≤o)) w2 w5:=(HM.out.trans' HM4.out fun b o _ hh=>.inr (.inr hh)).trans' m5 fun b o _ hh=>.inr (.inl hh.1)
            have hold:=(HFM.out hjm).2.2
            have hvw:val (fun i=>lay f j n (subW F (mulH fv 0 n)) (j+i)) n=val (fun i=>fu (m+i)) n:=val_congr fun i hi=>by
              show lay f j n _ (j+i)=_
              unfold lay
              rw [if_pos (by omega),Nat.add_sub_cancel_left,hsw i hi,hFH.out,winF_lo _ _ _ _ hi,hold _ (by omega),hjm]
            have hst':DvSt n m fu fv (lay f j n (subW F (mulH fv 0 n))) g m:=by
              refine dv_start2 (by omega) HVw.out (fun i hi=>by rw [← hold i hi];exact HAW.out _ (by have:=HNU.out;omega)) HTOP.out (fun i hi => ?_) (by rw [← hvw,hjm])
              unfold lay
              rw [if_neg (by omega)]
              exact hold i (by omega)
            have hc:=hA5.vec (j+n - 1) (by omega)
            rw [Nat.zero_add] at hc
            have hstj:∀ k,k=m→DvSt n m fu fv (lay f j n (subW F (mulH fv 0 n))) g k:=fun k hk=>by rw [hk];exact hst'
            exact (⟨_,hc.1,lay f j n (subW F (mulH fv 0 n)),g,hA5,hB5,⟨_,hC5⟩,hM5,.inr ⟨hstj j hjm,rfl⟩⟩:∃ ujn,w5.cell? ⟨bu,j+n - 1,none⟩=some (U ujn)∧DvW w2 bq bu bh oh cq cu CH n m fu fv j ujn w5))
          have HJM:=Lib.hid hjm
          clear hUw hAw hBw hsc hsw hF0 hjm
          go_wp2_with fail
          go_still_tail 15,(by kernel_rfl)
          simp only [World.drew_eq]
          go_wp2_with fail
          refine (HSV.out _ (Mod.refl NoP w4).drew).mono ?_
          rintro e w5 ⟨rfl,hV5,m5⟩
          obtain ⟨ujn,hcu,hdv⟩:=HPOST.out w5 hV5 ((Mod.refl _ w4).drew.trans m5)
          have HDV:=Lib.hid hdv
          clear hV5 m5 hdv HPOST
          have b1:((j:Int) == (m:Int))=true:=by simp [HJM.out]
          have b2:((m:Int) == (m:Int))=true:=by simp
          go_wp2_with fail
          go_roundw
          case rel=>exact ⟨j,ujn,by omega,by go_num,rfl,HDV.out⟩
          case measure=>first | (simp [intOf];done) | (simp [intOf];omega)
        · have g1:¬ (nu:Int)<(j:Int)+((n:Int)+1):=by omega
          have wr1:IntKind.i64.wrap ((j:Int)+(n:Int))=(j:Int)+(n:Int):=by rw [IntKind.wrap_i64];omega
          have wr2:IntKind.i64.wrap ((j:Int)+((n:Int)+1))=(j:Int)+((n:Int)+1):=by rw [IntKind.wrap_i64];omega
          have wr3:IntKind.i64.wrap ((n:Int)+1 - 1)=(n:Int):=by rw [IntKind.wrap_i64];omega
          have wr4:IntKind.i64.wrap (n:Int)=(n:Int):=by rw [IntKind.wrap_i64];omega
          have hsU:∀ w,(Instr.slice 49 (.slice (some ⟨bu,0,none⟩) nu cu) (some (.int .i64 (j:Int))) (some (.int .i64 ((j:Int)+((n:Int)+1)))) none).run Tryz.prog w=.ok (.slice (some ⟨bu,j,none⟩) (n+1) (cu - j)) w:=fun w=>slice_win 49 bu nu cu j (n+1) (by omega) (by omega) (.inr rfl) w
          have hsH:∀ w,(Instr.slice 49 (.slice (some ⟨bh,oh,none⟩) (n+1) ch) none (some (.int .i64 ((n:Int)+1))) none).run Tryz.prog w=.ok (.slice (some ⟨bh,oh,none⟩) (n+1) ch) w:=fun w=>slice_to bh oh (n+1) ch (n+1) (by have:=GOT.out.c1;omega) w
          generalize hw4:w3.setCell ⟨bh,oh+n,none⟩ (U mc)=w4 at *
          have hjlt:j<m:=by omega
          have hDv:DvSt n m fu fv f g (j+1)∧u=f (j+n):=by
            rcases HOLD.out with ⟨h,_⟩ | ⟨h1,h2⟩
            · omega
            · exact ⟨h1,by rw [h2];congr 1;omega⟩
          have hFj:∀ i,i<n+1→F i=f (j+i):=fun i hi=>by
            by_cases e:i=n
            · rw [e,HFn.out];exact hDv.2
            · rw [hFH.out,winF_lo _ _ _ _ (by omega)]
          have hUw:Vec w4 bu j (n+1) F:=fun i hi=>by
            have h1:=(HA.out.vec (j+i) (by omega))
            rw [Nat.zero_add] at h1
            rw [hFj i hi]
            exact ⟨HM4.out.cell_some h1.1 (fun hh=>hneh.2 hh.1.symm),HM4.out.free h1.1 h1.2.1,h1.2.2⟩
          have HSV:=Lib.hid (fun w' (m:Mod NoP w4 w')=>subVV_any bu j (cu - j) bu j (cu - j) bh oh ch (n+1) F (mulH fv qh n) F w' (hUw.mod m fun _ _ h=>h) (HV4.out.mod m fun _ _ h=>h) (hUw.mod m fun _ _ h=>h) (by omega) (fun _=>.inl (Nat.le_refl _)) (fun h=>absurd h hneh.2))
          have hAw:=HA.out.mod HM4.out (by rintro A hA o hh;cases hA;exact hneh.2 hh.1.symm)
          have hBw:=HB.out.mod HM4.out (by rintro A hA o hh;cases hA;exact hneh.1 hh.1.symm)
          have hVw4:Vec w4 bv ov n fv:=HVR.out.mod HM4.out fun i hi hh=>by have:=GOT.out.apv hh.1.symm;omega
          have HDVS:=Lib.hid hDv.1
          have HFJ:=Lib.hid hFj
          
          have HSUB:=Lib.hid (fun (w5:World) (hV5:Vec w5 bu j (n+1) (subW F (mulH fv qh n))) (m5:Mod (InR bu j (n+1)) w4 w5)=>by
            have hA5:=hAw.wroteAt hV5 m5
            have hB5:=hBw.mod m5 (by rintro A hA o hh;cases hA;exact HE.out.1 hh.1)
            obtain ⟨g4,hg4⟩:=HC4.out
            have hC5:=hg4.mod m5 (by rintro A hA o hh;cases hA;exact hneh.2 hh.1)
            have hM5:Mod (fun b o=>b=bq∨b=bu∨(b=bh∧oh≤o)) w2 w5:=(HM.out.trans' HM4.out fun b o _ hh=>.inr (.inr hh)).trans' m5 fun b o _ hh=>.inr (.inl hh.1)
            have hV55:=hVw4.mod m5 fun i hi hh=>HE.out.2.2.1 hh.1
            exact (⟨hA5,hB5,⟨_,hC5⟩,hM5,hV55⟩:Arr w5 (some ⟨bu,0,none⟩) cu (lay f j (n+1) (subW F (mulH fv qh n)))∧Arr w5 (some ⟨bq,0,none⟩) cq g∧(∃ h,Arr w5 (some ⟨bh,0,none⟩) CH h)∧Mod (fun b o=>b=bq∨b=bu∨(b=bh∧oh≤o)) w2 w5∧Vec w5 bv ov n fv))
          clear hUw hAw hBw hVw4 hDv hFj
          go_wp2_with fail
          go_still_tail 15,(by kernel_rfl)
          simp only [World.drew_eq]
          go_wp2_with fail
          refine (HSV.out _ (Mod.refl NoP w4).drew).mono ?_
          rintro e w5 ⟨rfl,hV5,m5⟩
          have hsub:=HSUB.out w5 hV5 ((Mod.refl _ w4).drew.trans m5)
          have HS5:=Lib.hid hsub
          have hHv:=mulH_val fv qh n
          have hHl:=mulH_lt (n:=n) HVw.out hqB
          have hcle:=subC_le F (mulH fv qh n) (n+1)
          obtain ⟨cs,hcse⟩:∃ k,k=subC F (mulH fv qh n) (n+1):=⟨_,rfl⟩
          rw [← hcse] at hcle
          have HCS:=Lib.hid hcse.symm
          rw [HCS.out]
          have HHV:=Lib.hid hHv
          have HHL:=Lib.hid hHl
          clear hV5 m5 hsub hcse hHv hHl HSUB HSV
          go_upto_if 148 with fail
          go_cut [15,23] from 45 to 200 (fun s15 s23 wx=>∃ q':Nat,s15=U q'∧Hid (DvE w2 bq bu bh oh cq cu CH n m j fv F f g q' wx))
          case first =>
            by_cases hc0:cs=0
            · subst hc0
              obtain ⟨d1,d2,d3⟩:=HIN.out.sub0 HG.out HHV.out HHL.out HCS.out
              have hend:DvE w2 bq bu bh oh cq cu CH n m j fv F f g qh w5:=by
                obtain ⟨a1,a2,a3,a4,a5⟩:=HS5.out
                refine ⟨_,a1,a2,a3,a4,d1.symm,hqB,?_,fun i hi => ?_,fun _ => ?_,fun i h1 h2 => ?_⟩
                · rw [← d2]
                  exact val_congr fun i hi=>by
                    show lay f j (n+1) _ (j+i)=_
                    unfold lay
                    rw [if_pos (by omega),Nat.add_sub_cancel_left]
                · unfold lay;rw [if_neg (by omega)]
                · unfold lay;rw [if_pos (by omega),Nat.add_sub_cancel_left];exact d3
                · unfold lay;rw [if_neg (by omega)]
              have HEND:=Lib.hid hend
              clear hend d1 d2 d3
              go_wp2_with fail
              go_meet
              case rel=>exact ⟨qh,rfl,HEND.out⟩
            · have hcs1:cs=1:=by omega
              subst hcs1
              obtain ⟨d0,d1,d2,d3⟩:=HIN.out.sub1 HG.out HHV.out HHL.out (by rw [HCS.out];omega)
              obtain ⟨a1,a2,a3,a4,a5⟩:=HS5.out
              have hsU2:∀ w,(Instr.slice 49 (.slice (some ⟨bu,0,none⟩) nu cu) (some (.int .i64 (j:Int))) (some (.int .i64 ((j:Int)+(n:Int)))) none).run Tryz.prog w=.ok (.slice (some ⟨bu,j,none⟩) n (cu - j)) w:=fun w=>slice_win 49 bu nu cu j n (by omega) (by omega) (.inr rfl) w
              have hUw5:Vec w5 bu j n (subW F (mulH fv qh n)):=fun i hi=>by
                have h1:=(a1.vec (j+i) (by omega))
                rw [Nat.zero_add] at h1
                unfold lay at h1
                rw [if_pos (by omega),Nat.add_sub_cancel_left] at h1
                exact h1
              have HAV:=Lib.hid (fun w' (m:Mod NoP w5 w')=>addVV_any bu j (cu - j) bu j (cu - j) bv ov cv n (subW F (mulH fv qh n)) fv (subW F (mulH fv qh n)) w' (hUw5.mod m fun _ _ h=>h) (a5.mod m fun _ _ h=>h) (hUw5.mod m fun _ _ h=>h) (by omega) (fun _=>.inl (Nat.le_refl _)) (fun h=>absurd h HE.out.2.2.1))
              obtain ⟨qq,hqq⟩:∃ k,k=qh - 1:=⟨_,rfl⟩
              have z1:IntKind.u64.wrap ((qh:Int) - 1)=(qq:Int):=by rw [IntKind.wrap_u64];rw [B64_eq] at hqB;omega
              have hdn:subW F (mulH fv qh n) n<B64:=wSub_lt _ _ _
              have hce:=addC_le (X:=subW F (mulH fv qh n)) (Y:=fv) (n:=n) (fun i hi=>wSub_lt _ _ _) HVw.out n (Nat.le_refl _)
              have HPOST:=Lib.hid (fun (w6:World) (hV6:Vec w6 bu j n (addW (subW F (mulH fv qh n)) fv)) (m6:Mod (InR bu j n) w5 w6)=>dv_back (m:=m) a1 a2 a3 a4 hV6 m6 (by rw [hqq];exact d1.symm) (show qq<B64 by omega) d2 (by omega) HE.out.1 hneh.2)
              have z2:=wrap_add_zero d3
              generalize hDN:subW F (mulH fv qh n) n=dn at *
              generalize hCE:addC (subW F (mulH fv qh n)) fv n=ce at *
              have n1:(n:Int)<(n:Int)+1:=by omega
              have n2:(0:Int)≤(j:Int)+(n:Int):=by omega
              have n3:(j:Int)+(n:Int)<(nu:Int):=by omega
              have n4:((j:Int)+(n:Int)).toNat=j+n:=by omega
              have z3:IntKind.u64.wrap ((ce:Int)+(dn:Int))=0:=by rw [Int.add_comm];exact z2
              clear d0 d1 d2 d3 a1 a2 a3 a4 a5 hUw5 hqq hDN hCE
              go_wp2_with fail
              go_still_tail 13,(by kernel_rfl)
              simp only [World.drew_eq]
              go_wp2_with fail
              refine (HAV.out _ (Mod.refl NoP w5).drew).mono ?_
              rintro e w6 ⟨rfl,hV6,m6⟩
              obtain ⟨hcc,hff,hend⟩:=HPOST.out w6 hV6 ((Mod.refl _ w5).drew.trans m6)
              have HEND:=Lib.hid hend
              clear hV6 m6 hend HPOST
              go_wp2_with fail
              go_meet
              case rel=>exact ⟨qq,rfl,HEND.out⟩
          case rest =>
            obtain ⟨q',rfl,hend⟩:=hcut
            obtain ⟨f',b1,b2,b3,b4,b5,b6,b7,b8,b9,b10⟩:=hend.out
            have hst':DvSt n m fu fv f' (put g j q') j:=by
              have hFv:val F (n+1)=val (fun i=>f (j+i)) (n+1):=val_congr HFJ.out
              rw [hFv] at b5 b7
              exact HDVS.out.step HVP.out b8 b7 (fun i h1 h2=>by
                by_cases e:i=j+n
                · rw [e];exact b9 hjlt
                · rw [b10 i (by omega) h2];exact HDVS.out.top i (by omega) h2) (by rw [put_same];exact b5) (fun i hi=>put_other _ _ hi) (fun i hi=>HAW.out i (by omega))
            have hcu:=(b1.vec (j+n - 1) (by omega)).1
            have hcq:=(b2.vec j (by omega))
            rw [Nat.zero_add] at hcu hcq
            have hcq1:=hcq.1
            have hcq2:=hcq.2.1
            have hB':=b2.store (i:=j) b6
            have mq:=mod_own wc bq j (U q')
            have hdv:DvW w2 bq bu bh oh cq cu CH n m fu fv j (f' (j+n - 1)) (wc.setCell ⟨bq,j,none⟩ (U q')):=by
              obtain ⟨g5,hg5⟩:=b3
              exact ⟨f',_,b1.mod mq (by rintro A hA o hh;cases hA;exact HE.out.1 hh.symm),hB',⟨g5,hg5.mod mq (by rintro A hA o hh;cases hA;exact hneh.1 hh)⟩,b4.trans' mq fun b o _ hh=>.inl hh,.inr ⟨hst',rfl⟩⟩
            have HDV:=Lib.hid hdv
            have z1:((j:Int) == (m:Int))=false:=by simp;omega
            generalize f' (j+n - 1)=ujn at *
            clear hend b1 b2 b3 b4 b5 b7 b8 b9 b10 hst' hcq hB' mq hdv
            go_wp2_with fail
            go_roundw
            case rel=>exact ⟨j,ujn,by omega,by go_num,rfl,HDV.out⟩
            case measure=>first | (simp [intOf];done) | (simp [intOf];omega)
end Go.Proofs.YtpfmbfkhjapbbaaGreatDoor
