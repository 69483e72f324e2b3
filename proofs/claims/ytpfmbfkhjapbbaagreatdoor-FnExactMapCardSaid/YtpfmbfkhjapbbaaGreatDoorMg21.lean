/-
  lehmerUpdate and Int.Abs over the ghost map of owners. Conditions: at most 30 words.
  QuoRem over the ghost map of owners. Conditions: the numbers are not negative, the divisor not 0; at most 30 words; a divisor of one word takes a longer dividend.
  euclidUpdate over the ghost map of owners. Conditions: the numbers are not negative, the divisor not 0; at most 10 words.
  What stands while lehmerGCD runs: six Ints and their numbers, over the ghost map of owners; the bound of the first cosequence. No condition; no program's function in sight.
-/
import Derived.Test.YtpfmbfkhjapbbaaGreatDoorMg02
import Derived.Test.YtpfmbfkhjapbbaaGreatDoorMQuoRem
import Derived.Test.YtpfmbfkhjapbbaaGreatDoorMg20
set_option linter.unusedVariables false
set_option linter.unusedSimpArgs false
namespace Go.Proofs.YtpfmbfkhjapbbaaGreatDoor
section
open Go Go.RowKit
theorem abs_mul_lt {d m:Nat} {i:Int} (hd:d<B64) (hi:i.natAbs<B64^m):((d:Int)*i).natAbs<B64^(m+1):=by
  rw [Int.natAbs_mul,Int.natAbs_natCast,Nat.pow_succ,Nat.mul_comm]
  have h1:i.natAbs*d≤i.natAbs*B64:=Nat.mul_le_mul_left _ (Nat.le_of_lt hd)
  have h2:i.natAbs*B64<B64^m*B64:=Nat.mul_lt_mul_of_pos_right hi B64_pos
  omega
theorem abs_if {b:Bool} {x:Int} {m:Nat} (h:x.natAbs<m):(if b then -x else x).natAbs<m:=by
  cases b
  · exact h
  · show (-x).natAbs<m
    rw [Int.natAbs_neg];exact h
def Set4 (a b q r:Nat) (z:Nat):Prop:=z=a∨z=b∨z=q∨z=r
theorem Ext.one {Z:Nat→Prop} {z:Nat} {o1 o2:Nat→Option Nat} {w1 w2:World} (h:Ext (·=z) o1 o2 w1 w2) (hz:Z z):Ext Z o1 o2 w1 w2:=h.mono fun y hy=>by rw [hy];exact hz
def UpdRet (own:Nat→Option Nat) (w:World) (pa pb pq pr:Nat) (a b:Int) (e:Ending) (w':World):Prop :=
  e=.returned (.tuple #[])∧∃ own',Ext (Set4 pa pb pq pr) own own' w w'∧IntO own' w' pa a∧IntO own' w' pb b∧(∃ k,IntL own' w' pq k)∧∃ k,IntL own' w' pr k
set_option maxRecDepth 100000 in
set_option maxHeartbeats 4000000 in
theorem lehUpd_o (own:Nat→Option Nat) (w:World) (pa pb pq pr u0 u1 v0 v1:Nat) (ev:Bool) (a b kq kr a' b':Int) (m:Nat) (hA':a'=(if ev then 1 else -1)*(u0*a - v0*b)) (hB':b'=(if ev then 1 else -1)*(v1*b - u1*a)) (E:OEnv own w) (ha:IntO own w pa a) (hb:IntO own w pb b) (hq:IntL own w pq kq) (hr:IntL own w pr kr)
    (oa:own pa=some pa) (ob:own pb=some pb) (oq:own pq=some pq) (or_:own pr=some pr) (n1:pa≠pb) (n2:pa≠pq) (n3:pa≠pr) (n4:pb≠pq) (n5:pb≠pr) (n6:pq≠pr)
    (hm:m≤500) (ba:a.natAbs<B64^m) (bb:b.natAbs<B64^m) (d0:u0<B64) (d1:u1<B64) (d2:v0<B64) (d3:v1<B64) :
    Calls Tryz.prog 165 #[.pointer (some ⟨pa,0,none⟩),.pointer (some ⟨pb,0,none⟩),.pointer (some ⟨pq,0,none⟩),.pointer (some ⟨pr,0,none⟩),U u0,U u1,U v0,U v1,.bool ev] w (UpdRet own w pa pb pq pr a' b'):=by
  have H1:=Lib.hid (mulW_o own w pq pb v0 kq b ev m E hq oq hb (by omega) bb d2)
  have hal:=ha.lt
  have hbl:=hb.lt
  have hql:=hq.lt
  have hrl:=hr.lt
  have HE:=Lib.hid E
  have HA:=Lib.hid ha
  have HB:=Lib.hid hb
  have HR:=Lib.hid hr
  have HO:=Lib.hid (And.intro oa (And.intro ob (And.intro oq or_)))
  have HN:=Lib.hid (And.intro n1 (And.intro n2 (And.intro n3 (And.intro n4 (And.intro n5 n6)))))
  have HBA:=Lib.hid ba
  have HBB:=Lib.hid bb
  have HA':=Lib.hid hA'
  have HB':=Lib.hid hB'
  clear E ha hb hq hr oa ob oq or_ n1 n2 n3 n4 n5 n6 ba bb hA' hB'
  go_enter Tryz.func165,Tryz.ntmps165
  go_wp2_with fail
  refine H1.out.mono ?_
  rintro e w1 ⟨rfl,own1,x1,q1⟩
  have X1:=Lib.hid x1
  have Q1:=Lib.hid q1
  have A1:=Lib.hid (HA.out.keep x1 HN.out.2.1)
  have B1:=Lib.hid (HB.out.keep x1 HN.out.2.2.2.1)
  have R1:=Lib.hid (HR.out.keep x1 (fun h=>HN.out.2.2.2.2.2 h.symm))
  have E1:=Lib.hid (HE.out.ext x1)
  have H2:=Lib.hid (mulW_o own1 w1 pr pa u1 kr a ev m E1.out R1.out ((x1.old pr hrl).trans HO.out.2.2.2) A1.out (by omega) HBA.out d1)
  have O1:=Lib.hid (And.intro ((x1.old pa hal).trans HO.out.1) (And.intro ((x1.old pb hbl).trans HO.out.2.1) (And.intro ((x1.old pq hql).trans HO.out.2.2.1) ((x1.old pr hrl).trans HO.out.2.2.2))))
  have hs1:=x1.mod.size
  clear x1 q1 H1
  go_wp2_with fail
  refine H2.out.mono ?_
  rintro e w2 ⟨rfl,own2,x2,r2⟩
  have X2:=Lib.hid x2
  have R2:=Lib.hid r2
  have A2:=Lib.hid (A1.out.keep x2 HN.out.2.2.1)
  have B2:=Lib.hid (B1.out.keep x2 HN.out.2.2.2.2.1)
  have Q2:=Lib.hid (Q1.out.keep x2 HN.out.2.2.2.2.2)
  have E2:=Lib.hid (E1.out.ext x2)
  have H3:=Lib.hid (mulW_o own2 w2 pa pa u0 _ a (!ev) m E2.out A2.out.loose ((x2.old pa (by omega)).trans O1.out.1) A2.out (by omega) HBA.out d0)
  have O2:=Lib.hid (And.intro ((x2.old pa (by omega)).trans O1.out.1) (And.intro ((x2.old pb (by omega)).trans O1.out.2.1) (And.intro ((x2.old pq (by omega)).trans O1.out.2.2.1) ((x2.old pr (by omega)).trans O1.out.2.2.2))))
  have hs2:=x2.mod.size
  clear x2 r2 H2
  go_wp2_with fail
  refine H3.out.mono ?_
  rintro e w3 ⟨rfl,own3,x3,a3⟩
  have X3:=Lib.hid x3
  have A3:=Lib.hid a3
  have B3:=Lib.hid (B2.out.keep x3 (fun h=>HN.out.1 h.symm))
  have Q3:=Lib.hid (Q2.out.keep x3 (fun h=>HN.out.2.1 h.symm))
  have R3:=Lib.hid (R2.out.keep x3 (fun h=>HN.out.2.2.1 h.symm))
  have E3:=Lib.hid (E2.out.ext x3)
  have H4:=Lib.hid (mulW_o own3 w3 pb pb v1 _ b (!ev) m E3.out B3.out.loose ((x3.old pb (by omega)).trans O2.out.2.1) B3.out (by omega) HBB.out d3)
  have O3:=Lib.hid (And.intro ((x3.old pa (by omega)).trans O2.out.1) (And.intro ((x3.old pb (by omega)).trans O2.out.2.1) (And.intro ((x3.old pq (by omega)).trans O2.out.2.2.1) ((x3.old pr (by omega)).trans O2.out.2.2.2))))
  have hs3:=x3.mod.size
  clear x3 a3 H3
  go_wp2_with fail
  refine H4.out.mono ?_
  rintro e w4 ⟨rfl,own4,x4,b4⟩
  have X4:=Lib.hid x4
  have B4:=Lib.hid b4
  have A4:=Lib.hid (A3.out.keep x4 HN.out.1)
  have Q4:=Lib.hid (Q3.out.keep x4 (fun h=>HN.out.2.2.2.1 h.symm))
  have R4:=Lib.hid (R3.out.keep x4 (fun h=>HN.out.2.2.2.2.1 h.symm))
  have E4:=Lib.hid (E3.out.ext x4)
  have H5:=Lib.hid (intAdd_l own4 w4 pa pa pq _ _ _ (m+1) E4.out A4.out ((x4.old pa (by omega)).trans O3.out.1) A4.out Q4.out (by omega) (abs_if (abs_mul_lt d0 HBA.out)) (abs_if (abs_mul_lt d2 HBB.out)))
  have O4:=Lib.hid (And.intro ((x4.old pa (by omega)).trans O3.out.1) (And.intro ((x4.old pb (by omega)).trans O3.out.2.1) (And.intro ((x4.old pq (by omega)).trans O3.out.2.2.1) ((x4.old pr (by omega)).trans O3.out.2.2.2))))
  have hs4:=x4.mod.size
  clear x4 b4 H4
  go_wp2_with fail
  refine H5.out.mono ?_
  rintro e w5 ⟨rfl,own5,x5,a5⟩
  have X5:=Lib.hid x5
  have A5:=Lib.hid a5
  have B5:=Lib.hid (B4.out.keep x5 (fun h=>HN.out.1 h.symm))
  have Q5:=Lib.hid (Q4.out.keep x5 (fun h=>HN.out.2.1 h.symm))
  have R5:=Lib.hid (R4.out.keep x5 (fun h=>HN.out.2.2.1 h.symm))
  have E5:=Lib.hid (E4.out.ext x5)
  have H6:=Lib.hid (intAdd_l own5 w5 pb pb pr _ _ _ (m+1) E5.out B5.out ((x5.old pb (by omega)).trans O4.out.2.1) B5.out R5.out (by omega) (abs_if (abs_mul_lt d3 HBB.out)) (abs_if (abs_mul_lt d1 HBA.out)))
  clear x5 a5 H5
  go_wp2_with fail
  refine H6.out.mono ?_
  rintro e w6 ⟨rfl,own6,x6,b6⟩
  have X6:=Lib.hid x6
  have B6:=Lib.hid b6
  have A6:=Lib.hid (A5.out.keep x6 HN.out.1)
  have Q6:=Lib.hid (Q5.out.keep x6 (fun h=>HN.out.2.2.2.1 h.symm))
  have R6:=Lib.hid (R5.out.keep x6 (fun h=>HN.out.2.2.2.2.1 h.symm))
  clear x6 b6 H6
  go_wp2_with fail
  go_end0
  refine ⟨rfl,own6,?_,?_,?_,⟨_,Q6.out⟩,⟨_,R6.out⟩⟩
  · exact (((((X1.out.one (.inr (.inr (.inl rfl)))).trans (X2.out.one (.inr (.inr (.inr rfl))))).trans (X3.out.one (.inl rfl))).trans (X4.out.one (.inr (.inl rfl)))).trans (X5.out.one (.inl rfl))).trans (X6.out.one (.inr (.inl rfl)))
  · have h:=A6.out
    have e:(if (!ev)=true then -((u0:Int)*a) else (u0:Int)*a)+(if ev=true then -((v0:Int)*b) else (v0:Int)*b)=(if ev then 1 else -1)*(u0*a - v0*b):=by
      cases ev <;> simp <;> omega
    rw [e,← HA'.out] at h
    exact h
  · have h:=B6.out
    have e:(if (!ev)=true then -((v1:Int)*b) else (v1:Int)*b)+(if ev=true then -((u1:Int)*a) else (u1:Int)*a)=(if ev then 1 else -1)*(v1*b - u1*a):=by
      cases ev <;> simp <;> omega
    rw [e,← HB'.out] at h
    exact h
set_option maxHeartbeats 1000000 in
theorem intAbs_o (own:Nat→Option Nat) (w:World) (pz px:Nat) (k i:Int) (m:Nat) (E:OEnv own w) (hz:IntO own w pz k) (oz:own pz=some pz) (hx:IntO own w px i) (hm:m≤1000000) (bi:i.natAbs<B64^m) (hne:pz≠px) :
    Calls Tryz.prog 163 #[.pointer (some ⟨pz,0,none⟩),.pointer (some ⟨px,0,none⟩)] w (OwnRet own w pz (i.natAbs:Int)):=by
  have HS:=Lib.hid (intSet_o own w pz px k i m E hz oz hx hm bi hne)
  have hzl:=hz.lt
  have OZ:=Lib.hid oz
  clear hz hx E oz bi
  go_enter Tryz.func163,Tryz.ntmps163
  go_wp2_with fail
  refine HS.out.mono ?_
  rintro e w1 ⟨rfl,own1,x1,i1⟩
  have hsg:=OwnSet.sign (j:=(i.natAbs:Int)) x1.ok i1 ((x1.old pz hzl).trans OZ.out) (by omega)
  obtain ⟨a,n,c,f,hI,_,_⟩:=i1.any
  have c0:=hI.c0
  have f0:=free_of_heap hI.cells 0
  have HRES:=Lib.hid (hsg.trans (e:=x1):OwnSet own w pz (i.natAbs:Int) _)
  rw [decide_eq_false (show ¬ (i.natAbs:Int)<0 by omega)] at HRES
  clear hI hsg i1 x1 HS
  go_wp2_with fail
  go_ret
  exact ⟨rfl,HRES.out⟩
end
section
open Go Go.RowKit
def qrOwn (own:Nat→Option Nat) (N:Nat) (a:Option Addr) (pq pr k:Nat):Option Nat :=
  if k<N then own k else match a with
    | some A=>if A.block=k then some pq else some pr
    | none=>some pr
def Set2 (q r:Nat) (z:Nat):Prop:=z=q∨z=r
theorem QrDone.own {own:Nat→Option Nat} {w W:World} {pq pr:Nat} {aq ar:Option Addr} {sq sr:Bool} {q r:Nat} (h:QrDone w pq pr aq ar sq sr q r W) (ok:OwnOk own w) (oq:own pq=some pq) (or_:own pr=some pr)
    (ha:∀ A,aq=some A→own A.block=some pq) (hb:∀ A,ar=some A→own A.block=some pr) (lq:pq<w.heap.size) (lr:pr<w.heap.size) (la:∀ A,aq=some A→A.block<w.heap.size) (lb:∀ A,ar=some A→A.block<w.heap.size)
    {i j:Int} (h1:sq=decide (i<0)) (h2:q=i.natAbs) (h3:sr=decide (j<0)) (h4:r=j.natAbs) :
    ∃ own',Ext (Set2 pq pr) own own' w W∧IntO own' W pq i∧IntO own' W pr j:=by
  subst h1 h2 h3 h4
  obtain ⟨a,n,c,f,a',n',c',f',i1,i2,g,g',mm,hap⟩:=h
  have hlt:∀ k,k<w.heap.size→qrOwn own w.heap.size a pq pr k=own k:=fun k hk=>if_pos hk
  refine ⟨qrOwn own w.heap.size a pq pr,⟨hlt,mm.mono ?_,?_⟩,⟨a,n,c,f,i1,.inl ⟨(hlt _ lq).trans oq,?_⟩⟩,⟨a',n',c',f',i2,.inl ⟨(hlt _ lr).trans or_,?_⟩⟩⟩
  · rintro k o hk ((rfl | ⟨A,hA,rfl⟩) | (rfl | ⟨A,hA,rfl⟩))
    · exact ⟨_,.inl rfl,oq⟩
    · exact ⟨_,.inl rfl,ha A hA⟩
    · exact ⟨_,.inr rfl,or_⟩
    · exact ⟨_,.inr rfl,hb A hA⟩
  · intro k z hk hz
    unfold qrOwn at hz
    have hsz:=mm.size
    by_cases hl:k<w.heap.size
    · rw [if_pos hl] at hz
      exact Nat.lt_of_lt_of_le (ok k z hl hz) hsz
    · rw [if_neg hl] at hz
      split at hz
      · split at hz <;> (cases hz;omega)
      · cases hz;omega
  · intro A hA
    rcases g with rfl | ⟨k,e,hk⟩
    · rw [hlt _ (la A hA)];exact ha A hA
    · have h5:A.block=k:=congrArg Addr.block (Option.some.inj (hA.symm.trans e))
      unfold qrOwn
      rw [if_neg (by omega),hA]
      exact if_pos rfl
  · intro A hA
    rcases g' with rfl | ⟨k,e,hk⟩
    · rw [hlt _ (lb A hA)];exact hb A hA
    · have h5:A.block=k:=congrArg Addr.block (Option.some.inj (hA.symm.trans e))
      unfold qrOwn
      rw [if_neg (by omega)]
      cases ha2:a with
      | none=>rfl
      | some A2 =>
        have:=hap A2 A ha2 hA
        exact if_neg this
theorem quoRem_o (own:Nat→Option Nat) (w:World) (pq px py pr a b:Nat) (kq kr:Int) (E:OEnv own w) (hq:IntL own w pq kq) (oq:own pq=some pq) (hr:IntL own w pr kr) (or_:own pr=some pr) (hx:IntO own w px (a:Int)) (hy:IntO own w py (b:Int))
    (hb:0<b) (ba:a<B64^30) (bb:b<B64^30) (hbig:b<B64→B64≤a) (n1:pq≠px) (n2:pq≠py) (n3:pq≠pr) (n4:pr≠py) (n5:pr≠px) :
    Calls Tryz.prog 115 #[.pointer (some ⟨pq,0,none⟩),.pointer (some ⟨px,0,none⟩),.pointer (some ⟨py,0,none⟩),.pointer (some ⟨pr,0,none⟩)] w
      fun e w'=>e=.returned (.tuple #[.pointer (some ⟨pq,0,none⟩),.pointer (some ⟨pr,0,none⟩)])∧∃ own',Ext (Set2 pq pr) own own' w w'∧IntO own' w' pq ((a/b:Nat):Int)∧IntO own' w' pr ((a%b:Nat):Int):=by
  obtain ⟨bq,aq,nq,cq,fq,vq,hQ,_,q2,q3⟩:=hq.any
  obtain ⟨br,ar,nr,cr,fr,vr,hR,_,r2,r3⟩:=hr.any
  obtain ⟨ax,nx,cx,fx,hX,x2,x3⟩:=hx.any
  obtain ⟨ay,ny,cy,fy,hY,y2,y3⟩:=hy.any
  rw [decide_eq_false (by omega),Int.natAbs_natCast] at hX hY
  have hX2:IntIs w px false ax nx cx fx a:=hX
  have hY2:IntIs w py false ay ny cy fy b:=hY
  have hnx:=hX2.num.len_le ba
  have hny:=hY2.num.len_le bb
  have hny1:1≤ny:=by
    have:=hY2.num.zero_iff
    omega
  have hny2:ny=1→2≤nx:=fun e=>by
    have h1:=hY2.num.lt
    rw [e,Nat.pow_one] at h1
    have h2:=hbig h1
    have h3:=hX2.num.lt
    rcases Nat.lt_or_ge nx 2 with h4 | h4
    · have:B64^nx≤B64^1:=Nat.pow_le_pow_right B64_pos (by omega)
      rw [Nat.pow_one] at this
      omega
    · exact h4
  have h6:¬ BlkOf ar 6 0:=by
    rintro ⟨A,hA,e⟩
    have:=r2 A hA
    rw [e,E.n 6 (by omega),or_] at this
    cases this
  have ap:∀ {pz pk nz cz vz:Nat} {bz:Bool} {az:Option Addr} {fz:Nat→Nat},IntIs w pz bz az nz cz fz vz→(∀ A,az=some A→own A.block=own pz)→own pz=some pz→(own pk=some pk∨own pk=none)→∀ A,az=some A→A.block≠pk:=fun h1 h2 h3 h4=>own_apart h1 h2 h3 h4
  refine (quoRem_any pq px py pr nq cq vq nx cx a ny cy b nr cr vr bq false br aq ax ay ar fq fx fy fr w E.g6 hQ hX2 hY2 hR hny1 (by omega) hny2 (by omega) n3 (ap hQ q2 oq (.inl or_)) (ap hR r2 or_ (.inl oq))
    (own_words q2 oq r2 r3 n3) (fun A A' hA hA'=>(own_words r2 or_ y2 y3 n4 A' A hA' hA).symm) h6 n1 n2 n4 (fun A hA=>⟨ap hQ q2 oq x3 A hA,ap hQ q2 oq y3 A hA⟩) (fun A hA=>⟨ap hR r2 or_ x3 A hA,ap hR r2 or_ y3 A hA⟩)).mono ?_
  rintro e w' ⟨rfl,hd⟩
  rw [Bool.false_and,Bool.false_and] at hd
  exact ⟨rfl,hd.own E.ok oq or_ (fun A hA=>(q2 A hA).trans oq) (fun A hA=>(r2 A hA).trans or_) hQ.lt hR.lt hQ.ltA hR.ltA (by rw [decide_eq_false (Int.not_lt.2 (Int.natCast_nonneg _))]) (by rw [Int.natAbs_natCast]) (by rw [decide_eq_false (Int.not_lt.2 (Int.natCast_nonneg _))]) (by rw [Int.natAbs_natCast])⟩
end
section
open Go Go.RowKit
def EucRet (own:Nat→Option Nat) (w:World) (pa pb pu pv pq pr:Nat) (r u:Int) (e:Ending) (w':World):Prop :=
  e=.returned (.tuple #[.pointer (some ⟨pb,0,none⟩),.pointer (some ⟨pr,0,none⟩),.pointer (some ⟨pa,0,none⟩),.pointer (some ⟨pv,0,none⟩),.pointer (some ⟨pu,0,none⟩)]) ∧
    ∃ own',Ext (fun z=>z=pq∨z=pr∨z=pu) own own' w w'∧IntO own' w' pr r∧IntO own' w' pu u∧∃ k,IntO own' w' pq k
set_option maxRecDepth 100000 in
set_option maxHeartbeats 4000000 in
theorem euclid_o (own:Nat→Option Nat) (w:World) (pa pb pu pv pq pr a b:Nat) (x y kq kr:Int) (E:OEnv own w) (ha:IntO own w pa (a:Int)) (hb:IntO own w pb (b:Int)) (hu:IntO own w pu x) (hv:IntO own w pv y) (hq:IntL own w pq kq) (hr:IntL own w pr kr)
    (ou:own pu=some pu) (oq:own pq=some pq) (or_:own pr=some pr) (d1:pq≠pa) (d2:pq≠pb) (d3:pq≠pr) (d4:pr≠pb) (d5:pr≠pa) (d6:pq≠pv) (d7:pr≠pv) (d8:pq≠pu) (d9:pr≠pu) (d10:pu≠pv)
    (hb0:0<b) (ba:a<B64^10) (bb:b<B64^10) (bx:x.natAbs<B64^10) (by_:y.natAbs<B64^10) (hbig:b<B64→B64≤a) (u':Int) (hu':u'=x - (a/b:Nat)*y) :
    Calls Tryz.prog 166 #[.pointer (some ⟨pa,0,none⟩),.pointer (some ⟨pb,0,none⟩),.pointer (some ⟨pu,0,none⟩),.pointer (some ⟨pv,0,none⟩),.pointer (some ⟨pq,0,none⟩),.pointer (some ⟨pr,0,none⟩),.bool true] w (EucRet own w pa pb pu pv pq pr ((a%b:Nat):Int) u'):=by
  have p10:B64^10<B64^30:=Nat.pow_lt_pow_right (by decide) (by omega)
  have hqlt:a/b<B64^10:=Nat.lt_of_le_of_lt (Nat.div_le_self _ _) ba
  have H1:=Lib.hid (quoRem_o own w pq pa pb pr a b kq kr E hq oq hr or_ ha hb hb0 (by omega) (by omega) hbig d1 d2 d3 d4 d5)
  have hul:=hu.lt
  have hql:=hq.lt
  have HE:=Lib.hid E
  have HU:=Lib.hid hu
  have HV:=Lib.hid hv
  have HO:=Lib.hid (And.intro ou oq)
  have HD:=Lib.hid (And.intro d6 (And.intro d7 (And.intro d8 (And.intro d9 d10))))
  have HD3:=Lib.hid d3
  have HBX:=Lib.hid bx
  have HBY:=Lib.hid by_
  have HQL:=Lib.hid hqlt
  have HU':=Lib.hid hu'
  clear E ha hb hu hv hq hr ou oq or_ d1 d2 d3 d4 d5 d6 d7 d8 d9 d10 ba bb bx by_ hbig p10 hqlt hu' hb0
  go_enter Tryz.func166,Tryz.ntmps166
  go_wp2_with fail
  refine H1.out.mono ?_
  rintro e w1 ⟨rfl,own1,x1,q1,r1⟩
  have X1:=Lib.hid x1
  have Q1:=Lib.hid q1
  have R1:=Lib.hid r1
  have E1:=Lib.hid (HE.out.ext x1)
  have U1:=Lib.hid (HU.out.keep x1 (fun h=>by have:=HD.out;rcases h with h | h;exact this.2.2.1 h.symm;exact this.2.2.2.1 h.symm))
  have V1:=Lib.hid (HV.out.keep x1 (fun h=>by have:=HD.out;rcases h with h | h;exact this.1 h.symm;exact this.2.1 h.symm))
  have O1:=Lib.hid (And.intro ((x1.old pu hul).trans HO.out.1) ((x1.old pq hql).trans HO.out.2))
  have H2:=Lib.hid (intMul_o own1 w1 pq pq pv _ _ _ E1.out q1 O1.out.2 q1 V1.out (by rw [Int.natAbs_natCast];exact Nat.lt_trans HQL.out (Nat.pow_lt_pow_right (by decide) (by omega))) (Nat.lt_trans HBY.out (Nat.pow_lt_pow_right (by decide) (by omega))) (fun h=>absurd h HD.out.1))
  have hs1:=x1.mod.size
  clear x1 q1 r1 H1
  go_wp2_with fail
  refine H2.out.mono ?_
  rintro e w2 ⟨rfl,own2,x2,q2⟩
  have X2:=Lib.hid x2
  have Q2:=Lib.hid q2
  have R2:=Lib.hid (R1.out.keep x2 (fun h=>HD3.out h.symm))
  have U2:=Lib.hid (U1.out.keep x2 (fun h=>HD.out.2.2.1 h.symm))
  have V2:=Lib.hid (V1.out.keep x2 (fun h=>HD.out.1 h.symm))
  have E2:=Lib.hid (E1.out.ext x2)
  have H3:=Lib.hid (intSub_o own2 w2 pu pu pq _ _ _ 21 E2.out U2.out ((x2.old pu (by omega)).trans O1.out.1) U2.out Q2.out (by omega) (Nat.lt_trans HBX.out (Nat.pow_lt_pow_right (by decide) (by omega))) (by
    rw [Int.natAbs_mul,Int.natAbs_natCast]
    have h1:a/b*y.natAbs≤B64^10*B64^10:=Nat.mul_le_mul (Nat.le_of_lt HQL.out) (Nat.le_of_lt HBY.out)
    rw [← Nat.pow_add] at h1
    exact Nat.lt_of_le_of_lt h1 (Nat.pow_lt_pow_right (by decide) (by omega))))
  clear x2 q2 H2
  go_wp2_with fail
  refine H3.out.mono ?_
  rintro e w3 ⟨rfl,own3,x3,u3⟩
  have X3:=Lib.hid x3
  have U3:=Lib.hid u3
  have R3:=Lib.hid (R2.out.keep x3 (fun h=>HD.out.2.2.2.1 h))
  have Q3:=Lib.hid (Q2.out.keep x3 (fun h=>HD.out.2.2.1 h))
  clear x3 u3 H3
  go_wp2_with fail
  refine bodyPost_ret (v:=.tuple #[.pointer (some ⟨pb,0,none⟩),.pointer (some ⟨pr,0,none⟩),.pointer (some ⟨pa,0,none⟩),.pointer (some ⟨pv,0,none⟩),.pointer (some ⟨pu,0,none⟩)]) (by simp [results,Tryz.results166,go_sem]) rfl ?_
  refine ⟨rfl,own3,?_,R3.out,?_,_,Q3.out⟩
  · exact ((X1.out.mono fun z h=>by rcases h with h | h;exact .inl h;exact .inr (.inl h)).trans (X2.out.mono fun z h=>.inl h)).trans (X3.out.mono fun z h=>.inr (.inr h))
  · rw [HU'.out];exact U3.out
end
section
open Go Go.RowKit
theorem Sim.pos {x y S u0 u1 v0 v1 A B:Nat} {ev:Bool} {B':Int} (h:Sim x y u0 u1 v0 v1 ev) (hA2:A<(x+1)*S) (hA1:x*S≤A) (hB1:y*S≤B) (hB2:B<(y+1)*S)
    (hB':B'=(if ev then 1 else -1)*(v1*B - u1*A)):0<B':=by
  obtain ⟨⟨a1,a2,⟨c1,c2,c3,c4⟩,d1,d2⟩,l0,l1⟩:=h
  have c1':(a1:Int)*v1+a2*v0=x:=by exact_mod_cast c1
  have c2':(a1:Int)*u1+a2*u0=y:=by exact_mod_cast c2
  have hS:0<S:=by
    rcases Nat.eq_zero_or_pos S with h | h
    · rw [h,Nat.mul_zero] at hA2;omega
    · exact h
  cases ev with
  | true =>
    have hdet:=c3 rfl
    have f2:v1*y=u1*x+a2:=by
      have:(v1:Int)*y=u1*x+a2:=by
        have hd':(u0:Int)*v1=u1*v0+1:=by exact_mod_cast hdet
        rw [← c1',← c2'];grind
      exact_mod_cast this
    have hv:0<v1:=by
      rcases Nat.eq_zero_or_pos v1 with h | h
      · rw [h] at hdet;omega
      · exact h
    have g1:v1*(y*S)≤v1*B:=Nat.mul_le_mul_left _ hB1
    rw [← Nat.mul_assoc,f2,Nat.add_mul] at g1
    have g2:a2*S=(a2 - u1)*S+u1*S:=by rw [← Nat.add_mul];congr 1;omega
    have g3:u1*(A+1)≤u1*((x+1)*S):=Nat.mul_le_mul_left _ (by omega)
    rw [← Nat.mul_assoc,Nat.mul_add u1 x,Nat.mul_one,Nat.add_mul,Nat.mul_add,Nat.mul_one] at g3
    have g4:u1*A<v1*B:=by
      rcases Nat.eq_zero_or_pos u1 with h | h
      · rw [h] at *
        have:1*S≤a2*S:=Nat.mul_le_mul_right _ (by omega)
        simp at *
        omega
      · omega
    rw [hB',if_pos rfl,← Int.natCast_mul,← Int.natCast_mul]
    omega
  | false =>
    have hdet:=c4 rfl
    have f2:u1*x=v1*y+a2:=by
      have:(u1:Int)*x=v1*y+a2:=by
        have hd':(u1:Int)*v0=u0*v1+1:=by exact_mod_cast hdet
        rw [← c1',← c2'];grind
      exact_mod_cast this
    have hv:0<v1:=by
      rcases Nat.eq_zero_or_pos v1 with h | h
      · have:u1=0:=by omega
        rw [this] at hdet;omega
      · exact h
    have g1:u1*(x*S)≤u1*A:=Nat.mul_le_mul_left _ hA1
    rw [← Nat.mul_assoc,f2,Nat.add_mul] at g1
    have g2:v1*S≤a2*S:=Nat.mul_le_mul_right _ d1
    have g3:v1*(B+1)≤v1*((y+1)*S):=Nat.mul_le_mul_left _ (by omega)
    rw [← Nat.mul_assoc,Nat.mul_add v1 y,Nat.mul_one,Nat.add_mul,Nat.mul_add,Nat.mul_one] at g3
    rw [hB',if_neg (by decide),← Int.natCast_mul,← Int.natCast_mul]
    omega
structure GcdB (a b A B:Nat) (U V:Int):Prop where
  st:GcdSt a b A B U V
  u:U.natAbs≤b
theorem GcdB.pos {a b A B:Nat} {U V:Int} (h:GcdB a b A B U V) (hb:0<b):0<A:=by
  have h1:=h.st.le
  have h2:=h.st.gcd
  rcases Nat.eq_zero_or_pos A with h3 | h3
  · have h4:B=0:=by omega
    rw [h3,h4,Nat.gcd_zero_left] at h2
    have:=Nat.gcd_pos_of_pos_right a hb
    omega
  · exact h3
theorem GcdB.v {a b A B:Nat} {U V:Int} (h:GcdB a b A B U V) (hb:0<b):V.natAbs≤b:=by
  have h1:=h.pos hb
  have h2:V.natAbs*1≤V.natAbs*A:=Nat.mul_le_mul_left _ h1
  have:=h.st.size
  omega
theorem GcdB.euclid {a b A B:Nat} {U V:Int} (h:GcdB a b A B U V) (hB:0<B):GcdB a b B (A%B) V (U - (A/B:Nat)*V):=⟨h.st.euclid hB,(h.st.bounds hB).2⟩
theorem GcdB.lehmer {a b A B:Nat} {U V:Int} (h:GcdB a b A B U V) {x y S u0 u1 v0 v1:Nat} {ev:Bool} (hS:Sim x y u0 u1 v0 v1 ev)
    (hA1:x*S≤A) (hA2:A<(x+1)*S) (hB1:y*S≤B) (hB2:B<(y+1)*S) (hv0:v0≠0) (hB0:0<B) :
    ∃ A' B':Nat,(A':Int)=(if ev then 1 else -1)*(u0*A - v0*B)∧(B':Int)=(if ev then 1 else -1)*(v1*B - u1*A)∧0<B' ∧
      GcdB a b A' B' ((if ev then 1 else -1)*(u0*U - v0*V)) ((if ev then 1 else -1)*(v1*V - u1*U))∧A'+B'<A+B:=by
  obtain ⟨A',B',h1,h2,h3,h4⟩:=h.st.lehmer hS hA1 (by omega) hB1 (by omega) hv0 hB0
  have h5:=hS.pos hA2 hA1 hB1 hB2 h2
  have h6:0<B':=by omega
  exact ⟨A',B',h1,h2,h6,⟨h3,(h3.bounds h6).1⟩,h4⟩
structure LgSt (own0:Nat→Option Nat) (w0:World) (own:Nat→Option Nat) (w:World) (pA pB pU pV pq pr:Nat) (A B U V kq kr:Int):Prop where
  env:OEnv own w
  ext:Ext (fun z=>w0.heap.size≤z) own0 own w0 w
  iA:IntO own w pA A
  iB:IntO own w pB B
  iU:IntO own w pU U
  iV:IntO own w pV V
  iq:IntL own w pq kq
  ir:IntL own w pr kr
  o:∀ p,p ∈ [pA,pB,pU,pV,pq,pr]→own p=some p∧w0.heap.size≤p
  nd:[pA,pB,pU,pV,pq,pr].Nodup
theorem LgSt.ne {own0 own:Nat→Option Nat} {w0 w:World} {pA pB pU pV pq pr:Nat} {A B U V kq kr:Int} (h:LgSt own0 w0 own w pA pB pU pV pq pr A B U V kq kr) :
    pA≠pB∧pA≠pU∧pA≠pV∧pA≠pq∧pA≠pr∧pB≠pU∧pB≠pV∧pB≠pq∧pB≠pr∧pU≠pV∧pU≠pq∧pU≠pr∧pV≠pq∧pV≠pr∧pq≠pr:=by
  have:=h.nd
  simp at this
  omega
theorem LgSt.oA {own0 own:Nat→Option Nat} {w0 w:World} {pA pB pU pV pq pr:Nat} {A B U V kq kr:Int} (h:LgSt own0 w0 own w pA pB pU pV pq pr A B U V kq kr):own pA=some pA:=(h.o pA (by simp)).1
theorem LgSt.oB {own0 own:Nat→Option Nat} {w0 w:World} {pA pB pU pV pq pr:Nat} {A B U V kq kr:Int} (h:LgSt own0 w0 own w pA pB pU pV pq pr A B U V kq kr):own pB=some pB:=(h.o pB (by simp)).1
theorem LgSt.oU {own0 own:Nat→Option Nat} {w0 w:World} {pA pB pU pV pq pr:Nat} {A B U V kq kr:Int} (h:LgSt own0 w0 own w pA pB pU pV pq pr A B U V kq kr):own pU=some pU:=(h.o pU (by simp)).1
theorem LgSt.oV {own0 own:Nat→Option Nat} {w0 w:World} {pA pB pU pV pq pr:Nat} {A B U V kq kr:Int} (h:LgSt own0 w0 own w pA pB pU pV pq pr A B U V kq kr):own pV=some pV:=(h.o pV (by simp)).1
theorem LgSt.oq {own0 own:Nat→Option Nat} {w0 w:World} {pA pB pU pV pq pr:Nat} {A B U V kq kr:Int} (h:LgSt own0 w0 own w pA pB pU pV pq pr A B U V kq kr):own pq=some pq:=(h.o pq (by simp)).1
theorem LgSt.or {own0 own:Nat→Option Nat} {w0 w:World} {pA pB pU pV pq pr:Nat} {A B U V kq kr:Int} (h:LgSt own0 w0 own w pA pB pU pV pq pr A B U V kq kr):own pr=some pr:=(h.o pr (by simp)).1
theorem LgSt.lt {own0 own:Nat→Option Nat} {w0 w:World} {pA pB pU pV pq pr:Nat} {A B U V kq kr:Int} (h:LgSt own0 w0 own w pA pB pU pV pq pr A B U V kq kr):∀ p,p ∈ [pA,pB,pU,pV,pq,pr]→p<w.heap.size:=by
  intro p hp
  simp at hp
  rcases hp with rfl | rfl | rfl | rfl | rfl | rfl
  · exact h.iA.lt
  · exact h.iB.lt
  · exact h.iU.lt
  · exact h.iV.lt
  · exact h.iq.lt
  · exact h.ir.lt
theorem LgSt.up {own0 own own':Nat→Option Nat} {w0 w w':World} {pA pB pU pV pq pr qA qB qU qV qq qr:Nat} {A B U V kq kr A' B' U' V' kq' kr':Int} (h:LgSt own0 w0 own w pA pB pU pV pq pr A B U V kq kr)
    {Z:Nat→Prop} (e:Ext Z own own' w w') (hZ:∀ z,Z z→w0.heap.size≤z) (iA:IntO own' w' qA A') (iB:IntO own' w' qB B') (iU:IntO own' w' qU U') (iV:IntO own' w' qV V') (iq:IntL own' w' qq kq') (ir:IntL own' w' qr kr')
    (hs:∀ p,p ∈ [qA,qB,qU,qV,qq,qr]→p ∈ [pA,pB,pU,pV,pq,pr]) (nd:[qA,qB,qU,qV,qq,qr].Nodup):LgSt own0 w0 own' w' qA qB qU qV qq qr A' B' U' V' kq' kr' :=
  ⟨h.env.ext e,h.ext.trans (e.mono hZ),iA,iB,iU,iV,iq,ir,fun p hp=>⟨(e.old p (h.lt p (hs p hp))).trans (h.o p (hs p hp)).1,(h.o p (hs p hp)).2⟩,nd⟩
theorem LgSt.euc {own0 own:Nat→Option Nat} {w0 w w':World} {pA pB pU pV pq pr:Nat} {A B U V kq kr r u:Int} {e:Ending} (h:LgSt own0 w0 own w pA pB pU pV pq pr A B U V kq kr) (hr:EucRet own w pA pB pU pV pq pr r u e w') :
    ∃ own' kq',LgSt own0 w0 own' w' pB pr pV pU pq pA B r V u kq' A:=by
  obtain ⟨_,own',x,ir,iu,k,iq⟩:=hr
  have hn:=h.ne
  refine ⟨own',k,h.up x ?_ (h.iB.keep x (by omega)) ir (h.iV.keep x (by omega)) iu iq.loose (h.iA.keep x (by omega)).loose ?_ ?_⟩
  · rintro z (rfl | rfl | rfl)
    · exact (h.o z (by simp)).2
    · exact (h.o z (by simp)).2
    · exact (h.o z (by simp)).2
  · intro p hp
    simp at hp ⊢
    omega
  · simp
    omega
theorem LgSt.updA {own0 own:Nat→Option Nat} {w0 w w':World} {pA pB pU pV pq pr:Nat} {A B U V kq kr a b:Int} {e:Ending} (h:LgSt own0 w0 own w pA pB pU pV pq pr A B U V kq kr) (hr:UpdRet own w pA pB pq pr a b e w') :
    ∃ own' kq' kr',LgSt own0 w0 own' w' pA pB pU pV pq pr a b U V kq' kr':=by
  obtain ⟨_,own',x,ia,ib,⟨k,iq⟩,k',ir⟩:=hr
  have hn:=h.ne
  refine ⟨own',k,k',h.up x ?_ ia ib (h.iU.keep x (by unfold Set4;omega)) (h.iV.keep x (by unfold Set4;omega)) iq ir (fun p hp=>hp) h.nd⟩
  rintro z (rfl | rfl | rfl | rfl) <;> exact (h.o z (by simp)).2
theorem LgSt.updU {own0 own:Nat→Option Nat} {w0 w w':World} {pA pB pU pV pq pr:Nat} {A B U V kq kr a b:Int} {e:Ending} (h:LgSt own0 w0 own w pA pB pU pV pq pr A B U V kq kr) (hr:UpdRet own w pU pV pq pr a b e w') :
    ∃ own' kq' kr',LgSt own0 w0 own' w' pA pB pU pV pq pr A B a b kq' kr':=by
  obtain ⟨_,own',x,ia,ib,⟨k,iq⟩,k',ir⟩:=hr
  have hn:=h.ne
  refine ⟨own',k,k',h.up x ?_ (h.iA.keep x (by unfold Set4;omega)) (h.iB.keep x (by unfold Set4;omega)) ia ib iq ir (fun p hp=>hp) h.nd⟩
  rintro z (rfl | rfl | rfl | rfl) <;> exact (h.o z (by simp)).2
theorem GcdB.last {a b A B g u0 u1 v0 v1:Nat} {U V:Int} {ev:Bool} (h:GcdB a b A B U V) (c:Cont A B g 0 u0 u1 v0 v1 ev) (hg:0<g) (h1:u0≤u1) (h2:v0≤v1) :
    g=Nat.gcd a b∧∃ W:Int,W=(if ev then 1 else -1)*(u0*U - v0*V)∧W.natAbs≤b∧∃ k:Int,W*a=g+k*b:=by
  obtain ⟨ca,cb,c3,c4⟩:=c
  simp only [Nat.zero_mul,Nat.add_zero] at ca cb
  have ca':(A:Int)=g*v1:=by exact_mod_cast ca.symm
  have cb':(B:Int)=g*u1:=by exact_mod_cast cb.symm
  have hco:Nat.gcd v1 u1=1:=by
    have d1:=Nat.gcd_dvd_left v1 u1
    have d2:=Nat.gcd_dvd_right v1 u1
    cases ev with
    | true =>
      have:=c3 rfl
      have h3:Nat.gcd v1 u1 ∣ u0*v1 - u1*v0:=Nat.dvd_sub (Nat.dvd_mul_left_of_dvd d1 _) (Nat.dvd_mul_right_of_dvd d2 _)
      rw [this,Nat.add_sub_cancel_left] at h3
      exact Nat.dvd_one.1 h3
    | false =>
      have:=c4 rfl
      have h3:Nat.gcd v1 u1 ∣ u1*v0 - u0*v1:=Nat.dvd_sub (Nat.dvd_mul_right_of_dvd d2 _) (Nat.dvd_mul_left_of_dvd d1 _)
      rw [this,Nat.add_sub_cancel_left] at h3
      exact Nat.dvd_one.1 h3
  refine ⟨?_,_,rfl,?_,?_⟩
  · rw [← h.st.gcd,← ca,← cb,Nat.gcd_mul_left,hco,Nat.mul_one]
  · have hs:=h.st.size
    rw [← ca,← cb] at hs
    have e1:((if ev then 1 else -1)*((u0:Int)*U - v0*V)).natAbs=u0*U.natAbs+v0*V.natAbs:=by
      have hsn:(if ev then (1:Int) else -1).natAbs=1:=by cases ev <;> rfl
      rw [Int.natAbs_mul,hsn,Nat.one_mul,Int.sub_eq_add_neg,abs_add_same,Int.natAbs_neg,Int.natAbs_mul,Int.natAbs_mul]
      · rfl
      · rcases h.st.sign with ⟨h1,h2⟩ | ⟨h1,h2⟩
        · right;exact ⟨mul_nat_nonpos h1,by have:=@mul_nat_nonneg v0 _ h2;omega⟩
        · left;exact ⟨mul_nat_nonneg h1,by have:=@mul_nat_nonpos v0 _ h2;omega⟩
    rw [e1,← hs]
    have g1:u0*U.natAbs≤U.natAbs*(g*u1):=by
      rw [Nat.mul_comm]
      refine Nat.mul_le_mul_left _ ?_
      have:1*u1≤g*u1:=Nat.mul_le_mul_right _ hg
      omega
    have g2:v0*V.natAbs≤V.natAbs*(g*v1):=by
      rw [Nat.mul_comm]
      refine Nat.mul_le_mul_left _ ?_
      have:1*v1≤g*v1:=Nat.mul_le_mul_right _ hg
      omega
    omega
  · obtain ⟨k1,hk1⟩:=h.st.ca
    obtain ⟨k2,hk2⟩:=h.st.cb
    refine ⟨(if ev then 1 else -1)*(u0*k1 - v0*k2),?_⟩
    cases ev with
    | true =>
      have hd:(u0:Int)*v1=u1*v0+1:=by exact_mod_cast c3 rfl
      simp only [if_true]
      grind
    | false =>
      have hd:(u1:Int)*v0=u0*v1+1:=by exact_mod_cast c4 rfl
      simp only [Bool.false_eq_true,if_false]
      grind
theorem GcdB.end_ {a b A:Nat} {U V:Int} (h:GcdB a b A 0 U V):A=Nat.gcd a b∧U.natAbs≤b∧∃ k:Int,U*a=A+k*b :=
  ⟨by rw [← h.st.gcd,Nat.gcd_zero_right],h.u,h.st.ca⟩
end
end Go.Proofs.YtpfmbfkhjapbbaaGreatDoor
