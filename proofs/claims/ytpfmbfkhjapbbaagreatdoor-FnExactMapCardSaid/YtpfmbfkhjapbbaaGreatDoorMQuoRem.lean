/-
  big's Int.QuoRem. Conditions: the divisor is positive, of at most 39 words (one alone: the dividend has more), the dividend of at most 900.
-/
import Derived.Test.YtpfmbfkhjapbbaaGreatDoorMIntSet
import Derived.Test.YtpfmbfkhjapbbaaGreatDoorMg19
import Derived.BigRegion
import Derived.Deep.DeepCutAuto
set_option linter.unusedVariables false
set_option linter.unusedSimpArgs false
namespace Go.Proofs.YtpfmbfkhjapbbaaGreatDoor
open Go Go.RowKit
def QrMid (w:World) (pq pr:Nat) (aq ar:Option Addr) (q r:Nat) (W:World):Prop :=
  ∃ a n c f a' n' c' f' s s',IntIs W pq s a n c f q∧IntIs W pr s' a' n' c' f' r∧(a=aq∨Fresh w a)∧(a'=ar∨Fresh w a')∧(∀ A,a=some A→A.block≠pr)∧(∀ A,a'=some A→A.block≠pq) ∧
    (∀ A A',a=some A→a'=some A'→A.block≠A'.block)∧Mod (fun k o=>IntP pq aq k o∨IntP pr ar k o) w W
def QrDone (w:World) (pq pr:Nat) (aq ar:Option Addr) (sq sr:Bool) (q r:Nat) (W:World):Prop :=
  ∃ a n c f a' n' c' f',IntIs W pq sq a n c f q∧IntIs W pr sr a' n' c' f' r∧(a=aq∨Fresh w a)∧(a'=ar∨Fresh w a') ∧
    Mod (fun k o=>IntP pq aq k o∨IntP pr ar k o) w W∧(∀ A A',a=some A→a'=some A'→A.block≠A'.block)
theorem IntIs.setNeg {w:World} {p n c v:Nat} {s:Bool} {a:Option Addr} {f:Nat→Nat} (h:IntIs w p s a n c f v) (t:Bool):IntIs (w.setCell ⟨p,0,none⟩ (.bool t)) p t a n c f v :=
  ⟨by rw [heap_set h.cells 0];rfl,h.num.mod (mod_own w p 0 _) fun A hA o hh=>h.apart A hA hh,h.apart⟩
theorem IntIs.setOther {w:World} {p n c v:Nat} {s:Bool} {a:Option Addr} {f:Nat→Nat} (h:IntIs w p s a n c f v) {k o:Nat} {u:Value} (hk:k≠p) (ha:∀ A,a=some A→A.block≠k):IntIs (w.setCell ⟨k,o,none⟩ u) p s a n c f v :=
  h.mod (mod_own w k o u) (fun _ hh=>hk hh.symm) fun A hA o hh=>ha A hA hh
theorem IntIs.setAbs {w:World} {p n c v:Nat} {s:Bool} {a:Option Addr} {y:Value} {f:Nat→Nat} (h:w.heap[p]? = some (.cells #[.bool s,y] 51 (0,0))) (hN:NatIs w a n c f v) (ha:∀ A,a=some A→A.block≠p) :
    IntIs (w.setCell ⟨p,1,none⟩ (.slice a n c)) p s a n c f v :=
  ⟨set2' h _,hN.mod (mod_own w p 1 _) fun A hA o hh=>ha A hA hh,ha⟩
theorem qrMid {w w2:World} {pq pr:Nat} {aq ar:Option Addr} {nq cq vq nr cr vr:Nat} {fq fr:Nat→Nat} {bq br:Bool} {q r:Nat} (hQ:IntIs w pq bq aq nq cq fq vq) (hR:IntIs w pr br ar nr cr fr vr)
    (hne:pq≠pr) (h1:∀ A,aq=some A→A.block≠pr) (h2:∀ A,ar=some A→A.block≠pq) (m2:Mod NoP w w2) {e:Ending} {w4:World} (hD:DivRet0 w2 aq ar q r e w4) :
    ∃ a n c a' n' c',e=.returned (.tuple #[.slice a n c,.slice a' n' c'])∧w4.cell? ⟨pq,1,none⟩=some (.slice aq nq cq)∧w4.frozen? ⟨pq,1,none⟩=false∧w4.cell? ⟨pr,1,none⟩=some (.slice ar nr cr)∧w4.frozen? ⟨pr,1,none⟩=false ∧
      (w4.setCell ⟨pq,1,none⟩ (.slice a n c)).cell? ⟨pr,1,none⟩=some (.slice ar nr cr)∧(w4.setCell ⟨pq,1,none⟩ (.slice a n c)).frozen? ⟨pr,1,none⟩=false ∧
      QrMid w pq pr aq ar q r ((w4.setCell ⟨pq,1,none⟩ (.slice a n c)).setCell ⟨pr,1,none⟩ (.slice a' n' c'))∧(n=0 ↔ q=0)∧(n'=0 ↔ r=0):=by
  obtain ⟨a,n,c,f,a',n',c',f',rfl,hN,hN',hf,hf',hap,hm⟩:=hD
  have mm:Mod (fun k o=>BlkOf aq k o∨BlkOf ar k o) w w4:=(m2.of_none (M:=fun k o=>BlkOf aq k o∨BlkOf ar k o)).trans hm
  have hpq:w4.heap[pq]? = some (.cells #[.bool bq,.slice aq nq cq] 51 (0,0)):=by
    rw [mm.heap (lt_of_heap hQ.cells) (fun o hh=>hh.elim (hQ.offP o) fun ⟨A,hA,e⟩=>h2 A hA e),hQ.cells]
  have hpr:w4.heap[pr]? = some (.cells #[.bool br,.slice ar nr cr] 51 (0,0)):=by
    rw [mm.heap (lt_of_heap hR.cells) (fun o hh=>hh.elim (fun ⟨A,hA,e⟩=>h1 A hA e) (hR.offP o)),hR.cells]
  have g:=hf.imp id fun h=>h.mono (w:=w) m2.size
  have g':=hf'.imp id fun h=>h.mono (w:=w) m2.size
  have k1:∀ A,a=some A→A.block≠pq:=apart_of (lt_of_heap hQ.cells) hQ.apart g
  have k2:∀ A,a=some A→A.block≠pr:=apart_of (lt_of_heap hR.cells) h1 g
  have k3:∀ A,a'=some A→A.block≠pq:=apart_of (lt_of_heap hQ.cells) h2 g'
  have k4:∀ A,a'=some A→A.block≠pr:=apart_of (lt_of_heap hR.cells) hR.apart g'
  have i1:=IntIs.setAbs hpq hN k1
  have hpr2:(w4.setCell ⟨pq,1,none⟩ (.slice a n c)).heap[pr]? = some (.cells #[.bool br,.slice ar nr cr] 51 (0,0)):=by rw [heap_set_other hne.symm];exact hpr
  have i2:=IntIs.setAbs hpr2 (hN'.mod (mod_own w4 pq 1 (.slice a n c)) fun A hA o hh=>k3 A hA hh) k4
  refine ⟨a,n,c,a',n',c',rfl,(cell?_of_heap hpq 1).trans rfl,free_of_heap hpq 1,(cell?_of_heap hpr 1).trans rfl,free_of_heap hpr 1,(cell?_of_heap hpr2 1).trans rfl,free_of_heap hpr2 1,⟨a,n,c,f,a',n',c',f',_,_,i1.setOther (k:=pr) (o:=1) (u:=.slice a' n' c') hne.symm k2,i2,g,g',k2,k3,hap,?_⟩,hN.zero_iff,hN'.zero_iff⟩
  exact ((mm.mono fun k o _ hh=>hh.imp .inr .inr).setCell (fun _=>.inl (.inl rfl)) _).setCell (fun _=>.inr (.inl rfl)) _
theorem QrMid.done {w W:World} {pq pr:Nat} {aq ar:Option Addr} {q r:Nat} (h:QrMid w pq pr aq ar q r W) (hne:pq≠pr) (sq sr:Bool):QrDone w pq pr aq ar sq sr q r ((W.setCell ⟨pq,0,none⟩ (.bool sq)).setCell ⟨pr,0,none⟩ (.bool sr)):=by
  obtain ⟨a,n,c,f,a',n',c',f',s,s',i1,i2,g,g',k2,k3,hap,m⟩:=h
  have j1:=i1.setNeg sq
  have j2:=(i2.setOther (k:=pq) (o:=0) (u:=.bool sq) hne k3).setNeg sr
  exact ⟨a,n,c,f,a',n',c',f',j1.setOther (k:=pr) (o:=0) (u:=.bool sr) hne.symm k2,j2,g,g',(m.setCell (fun _=>.inl (.inl rfl)) _).setCell (fun _=>.inr (.inl rfl)) _,hap⟩
theorem QrDone.drewN {w W:World} {pq pr:Nat} {aq ar:Option Addr} {sq sr:Bool} {q r:Nat} (h:QrDone w pq pr aq ar sq sr q r W) (m:Nat):QrDone w pq pr aq ar sq sr q r (W.drewN m):=by
  obtain ⟨a,n,c,f,a',n',c',f',i1,i2,g,g',mm,hap⟩:=h
  exact ⟨a,n,c,f,a',n',c',f',⟨i1.cells,i1.num.drewN m,i1.apart⟩,⟨i2.cells,i2.num.drewN m,i2.apart⟩,g,g',mm.drewN m,hap⟩
theorem qrFacts {w w2:World} {pq pr px py:Nat} {aq ar ax ay:Option Addr} {nq cq vq nr cr vr nx cx vx ny cy vy:Nat} {fq fr fx fy:Nat→Nat} {bq br bx by_:Bool} {q r:Nat} (hQ:IntIs w pq bq aq nq cq fq vq) (hR:IntIs w pr br ar nr cr fr vr)
    (hX:IntIs w px bx ax nx cx fx vx) (hY:IntIs w py by_ ay ny cy fy vy)
    (hne:pq≠pr) (h1:∀ A,aq=some A→A.block≠pr) (h2:∀ A,ar=some A→A.block≠pq) (x1:∀ A,aq=some A→A.block≠px∧A.block≠py) (x2:∀ A,ar=some A→A.block≠px∧A.block≠py)
    (m2:Mod NoP w w2) {e:Ending} {w4:World} (hD:DivRet0 w2 aq ar q r e w4) :
    ∃ a n c a' n' c' s s',e=.returned (.tuple #[.slice a n c,.slice a' n' c'])∧w4.cell? ⟨pq,1,none⟩=some (.slice aq nq cq)∧w4.frozen? ⟨pq,1,none⟩=false∧w4.cell? ⟨pr,1,none⟩=some (.slice ar nr cr)∧w4.frozen? ⟨pr,1,none⟩=false ∧
      (w4.setCell ⟨pq,1,none⟩ (.slice a n c)).cell? ⟨pr,1,none⟩=some (.slice ar nr cr)∧(w4.setCell ⟨pq,1,none⟩ (.slice a n c)).frozen? ⟨pr,1,none⟩=false ∧
      Hid (QrMid w pq pr aq ar q r ((w4.setCell ⟨pq,1,none⟩ (.slice a n c)).setCell ⟨pr,1,none⟩ (.slice a' n' c')))∧Hid (n=0 ↔ q=0)∧Hid (n'=0 ↔ r=0) ∧
      (((w4.setCell ⟨pq,1,none⟩ (.slice a n c)).setCell ⟨pr,1,none⟩ (.slice a' n' c')).cell? ⟨pq,1,none⟩=some (.slice a n c)∧((w4.setCell ⟨pq,1,none⟩ (.slice a n c)).setCell ⟨pr,1,none⟩ (.slice a' n' c')).cell? ⟨pr,1,none⟩=some (.slice a' n' c') ∧
       ((w4.setCell ⟨pq,1,none⟩ (.slice a n c)).setCell ⟨pr,1,none⟩ (.slice a' n' c')).cell? ⟨pq,0,none⟩=some (.bool s)∧((w4.setCell ⟨pq,1,none⟩ (.slice a n c)).setCell ⟨pr,1,none⟩ (.slice a' n' c')).cell? ⟨pr,0,none⟩=some (.bool s') ∧
       ((w4.setCell ⟨pq,1,none⟩ (.slice a n c)).setCell ⟨pr,1,none⟩ (.slice a' n' c')).frozen? ⟨pq,0,none⟩=false∧((w4.setCell ⟨pq,1,none⟩ (.slice a n c)).setCell ⟨pr,1,none⟩ (.slice a' n' c')).frozen? ⟨pr,0,none⟩=false ∧
       ((w4.setCell ⟨pq,1,none⟩ (.slice a n c)).setCell ⟨pr,1,none⟩ (.slice a' n' c')).cell? ⟨px,0,none⟩=some (.bool bx)∧((w4.setCell ⟨pq,1,none⟩ (.slice a n c)).setCell ⟨pr,1,none⟩ (.slice a' n' c')).cell? ⟨py,0,none⟩=some (.bool by_)):=by
  have hD':=hD
  obtain ⟨_,_,_,_,_,_,_,_,_,_,_,_,_,_,hm⟩:=hD'
  obtain ⟨a,n,c,a',n',c',rfl,e1,e2,e3,e4,e5,e6,mid,z1,z2⟩:=qrMid hQ hR hne h1 h2 m2 hD
  have mm:Mod (fun k o=>BlkOf aq k o∨BlkOf ar k o) w w4:=(m2.of_none (M:=fun k o=>BlkOf aq k o∨BlkOf ar k o)).trans hm
  have hx:w4.cell? ⟨px,0,none⟩=some (.bool bx):=mm.cell_some hX.c0 fun hh=>hh.elim (fun ⟨A,hA,e⟩=>(x1 A hA).1 e) fun ⟨A,hA,e⟩=>(x2 A hA).1 e
  have hy:w4.cell? ⟨py,0,none⟩=some (.bool by_):=mm.cell_some hY.c0 fun hh=>hh.elim (fun ⟨A,hA,e⟩=>(x1 A hA).2 e) fun ⟨A,hA,e⟩=>(x2 A hA).2 e
  have hq0:w4.cell? ⟨pq,0,none⟩=some (.bool bq):=mm.cell_some hQ.c0 fun hh=>hh.elim (hQ.offP 0) fun ⟨A,hA,e⟩=>h2 A hA e
  have hr0:w4.cell? ⟨pr,0,none⟩=some (.bool br):=mm.cell_some hR.c0 fun hh=>hh.elim (fun ⟨A,hA,e⟩=>h1 A hA e) (hR.offP 0)
  have fq0:w4.frozen? ⟨pq,0,none⟩=false:=mm.free hQ.c0 (free_of_heap hQ.cells 0)
  have fr0:w4.frozen? ⟨pr,0,none⟩=false:=mm.free hR.c0 (free_of_heap hR.cells 0)
  have two:∀ {k:Nat} {u:Value},w4.cell? ⟨k,0,none⟩=some u→((w4.setCell ⟨pq,1,none⟩ (.slice a n c)).setCell ⟨pr,1,none⟩ (.slice a' n' c')).cell? ⟨k,0,none⟩=some u:=fun h=>by
    rw [cell_other (.inr (by omega)),cell_other (.inr (by omega))];exact h
  refine ⟨a,n,c,a',n',c',bq,br,rfl,e1,e2,e3,e4,e5,e6,mid,z1,z2,?_,cell_same e5 _,two hq0,two hr0,?_,?_,two hx,two hy⟩
  · rw [cell_other (.inl hne.symm)];exact cell_same e1 _
  · rw [World.frozen?_setCell,World.frozen?_setCell];exact fq0
  · rw [World.frozen?_setCell,World.frozen?_setCell];exact fr0
def QrSt (w:World) (pq pr px py:Nat) (aq ar:Option Addr) (bx by_:Bool) (q r:Nat) (a:Option Addr) (n c:Nat) (a':Option Addr) (n' c':Nat) (s s':Bool) (W:World):Prop :=
  QrMid w pq pr aq ar q r W∧(n=0 ↔ q=0)∧(n'=0 ↔ r=0)∧W.cell? ⟨pq,1,none⟩=some (.slice a n c)∧W.cell? ⟨pr,1,none⟩=some (.slice a' n' c')∧W.cell? ⟨pq,0,none⟩=some (.bool s)∧W.cell? ⟨pr,0,none⟩=some (.bool s') ∧
    W.frozen? ⟨pq,0,none⟩=false∧W.frozen? ⟨pr,0,none⟩=false∧W.cell? ⟨px,0,none⟩=some (.bool bx)∧W.cell? ⟨py,0,none⟩=some (.bool by_)
set_option maxRecDepth 100000 in
set_option maxHeartbeats 8000000 in
theorem quoRem_any (pq px py pr nq cq vq nx cx vx ny cy vy nr cr vr:Nat) (bq bx br:Bool) (aq ax ay ar:Option Addr) (fq fx fy fr:Nat→Nat) (w:World) (hG:Glo w 6 40)
    (hQ:IntIs w pq bq aq nq cq fq vq) (hX:IntIs w px bx ax nx cx fx vx) (hY:IntIs w py false ay ny cy fy vy) (hR:IntIs w pr br ar nr cr fr vr)
    (hny:1≤ny) (hny2:ny≤39) (hny1:ny=1→2≤nx) (hnx2:nx≤900) (hne:pq≠pr) (h1:∀ A,aq=some A→A.block≠pr) (h2:∀ A,ar=some A→A.block≠pq)
    (hqr:∀ A A',aq=some A→ar=some A'→A.block≠A'.block) (hyr:∀ A A',ay=some A→ar=some A'→A.block≠A'.block) (hg:¬ BlkOf ar 6 0)
    (hqx:pq≠px) (hqy:pq≠py) (hry:pr≠py) (x1:∀ A,aq=some A→A.block≠px∧A.block≠py) (x2:∀ A,ar=some A→A.block≠px∧A.block≠py) :
    Calls Tryz.prog 115 #[.pointer (some ⟨pq,0,none⟩),.pointer (some ⟨px,0,none⟩),.pointer (some ⟨py,0,none⟩),.pointer (some ⟨pr,0,none⟩)] w
      fun e w'=>e=.returned (.tuple #[.pointer (some ⟨pq,0,none⟩),.pointer (some ⟨pr,0,none⟩)])∧QrDone w pq pr aq ar (bx && decide (0<vx/vy)) (bx && decide (0<vx%vy)) (vx/vy) (vx%vy) w':=by
  have q1:=hQ.c1
  have x1':=hX.c1
  have y1':=hY.c1
  have r1:=hR.c1
  have HA:=Lib.hid (fun w1 (m:Mod NoP w w1)=>(div_any aq ar ax ay nq cq nr cr nx cx ny cy vx vy w1 fq fr fx fy (m.cell_some hG fun h=>h) (hQ.num.arr.mod m (Off.noP _)) hQ.num.le (hR.num.arr.mod m (Off.noP _)) hR.num.le (hX.num.mod m (Off.noP _)) (hY.num.mod m (Off.noP _)) hny hny2 hny1 hnx2 hqr hyr hg).mono fun e w4=>qrFacts hQ hR hX hY hne h1 h2 x1 x2 m)
  clear hQ hX hY hR hG hqr hyr hg x1 x2 h1 h2 hny hny2 hny1 hnx2
  generalize vx/vy=q at *
  generalize vx%vy=r at *
  go_enter Tryz.func115,Tryz.ntmps115
  go_upto_region 1 with fail
  go_cut [10] from 10 to 35 (fun s10 wx=>∃ a n c a' n' c' s s',Hid (QrSt w pq pr px py aq ar bx false q r a n c a' n' c' s s' wx))
  case first =>
    go_region_with (go_at_call 129;refine (HA.out _ ?_).mono ?_;((first | exact (Mod.refl NoP w).drew | exact (Mod.refl NoP w).drewN _));rintro e w4 ⟨a,n,c,a',n',c',s,s',rfl,e1,e2,e3,e4,e5,e6,MID,z1,z2,D⟩)
    all_goals (have HD:=Lib.hid D;clear D;go_wp2_with fail;go_meet;case rel=>exact ⟨a,n,c,a',n',c',s,s',MID.out,z1.out,z2.out,HD.out⟩)
  case rest =>
    obtain ⟨a,n,c,a',n',c',s,s',hst⟩:=hcut
    obtain ⟨mid,z1,z2,d1,d2,d3,d4,d5,d6,d7,d8⟩:=hst.out
    have MID:=Lib.hid mid
    have Z1:=Lib.hid z1
    have Z2:=Lib.hid z2
    clear mid z1 z2 hst HA q1 x1' y1' r1
    have HNE:=Lib.hid hne
    have HE:=Lib.hid (fun (sq sr:Bool)=>(MID.out.done hne sq sr))
    have hqp:(0<n)=(0<q):=by
      have:=Z1.out
      exact propext ⟨fun h=>by omega,fun h=>by omega⟩
    have hrp:(0<n')=(0<r):=by
      have:=Z2.out
      exact propext ⟨fun h=>by omega,fun h=>by omega⟩
    have HQP:=Lib.hid hqp
    have HRP:=Lib.hid hrp
    clear hqp hrp
    rcases Nat.eq_zero_or_pos n with h0 | h0 <;> rcases Nat.eq_zero_or_pos n' with h0' | h0' <;> cases bx
    · subst h0
      subst h0'
      have RES:=Lib.hid (HE.out false false)
      have eq1:decide (0<q)=false:=decide_eq_false (fun h=>by rw [← HQP.out] at h;omega)
      have eq2:decide (0<r)=false:=decide_eq_false (fun h=>by rw [← HRP.out] at h;omega)
      have EQ1:=Lib.hid eq1
      have EQ2:=Lib.hid eq2
      clear eq1 eq2 HE MID Z1 Z2 HQP HRP
      go_wp2_with fail
      go_region
      all_goals (go_wp2_with fail;go_ret2;refine ⟨rfl,?_⟩;rw [EQ1.out,EQ2.out];first | exact RES.out | exact RES.out.drewN 1)
    · subst h0
      subst h0'
      have RES:=Lib.hid (HE.out false false)
      have eq1:decide (0<q)=false:=decide_eq_false (fun h=>by rw [← HQP.out] at h;omega)
      have eq2:decide (0<r)=false:=decide_eq_false (fun h=>by rw [← HRP.out] at h;omega)
      have EQ1:=Lib.hid eq1
      have EQ2:=Lib.hid eq2
      clear eq1 eq2 HE MID Z1 Z2 HQP HRP
      go_wp2_with fail
      go_region
      all_goals (go_wp2_with fail;go_ret2;refine ⟨rfl,?_⟩;rw [EQ1.out,EQ2.out];first | exact RES.out | exact RES.out.drewN 1)
    · subst h0
      have g1':(0:Int)<(n':Int):=by omega
      have g2':decide ((n':Int) > 0)=true:=decide_eq_true g1'
      have g3':decide ((0:Int)<(n':Int))=true:=decide_eq_true g1'
      have g4':decide (0<n')=true:=decide_eq_true h0'
      have RES:=Lib.hid (HE.out false false)
      have eq1:decide (0<q)=false:=decide_eq_false (fun h=>by rw [← HQP.out] at h;omega)
      have eq2:decide (0<r)=true:=decide_eq_true (by rw [← HRP.out];omega)
      have EQ1:=Lib.hid eq1
      have EQ2:=Lib.hid eq2
      clear eq1 eq2 HE MID Z1 Z2 HQP HRP
      go_wp2_with fail
      go_region
      all_goals (go_wp2_with fail;go_ret2;refine ⟨rfl,?_⟩;rw [EQ1.out,EQ2.out];first | exact RES.out | exact RES.out.drewN 1)
    · subst h0
      have g1':(0:Int)<(n':Int):=by omega
      have g2':decide ((n':Int) > 0)=true:=decide_eq_true g1'
      have g3':decide ((0:Int)<(n':Int))=true:=decide_eq_true g1'
      have g4':decide (0<n')=true:=decide_eq_true h0'
      have RES:=Lib.hid (HE.out false true)
      have eq1:decide (0<q)=false:=decide_eq_false (fun h=>by rw [← HQP.out] at h;omega)
      have eq2:decide (0<r)=true:=decide_eq_true (by rw [← HRP.out];omega)
      have EQ1:=Lib.hid eq1
      have EQ2:=Lib.hid eq2
      clear eq1 eq2 HE MID Z1 Z2 HQP HRP
      go_wp2_with fail
      go_region
      all_goals (go_wp2_with fail;go_ret2;refine ⟨rfl,?_⟩;rw [EQ1.out,EQ2.out];first | exact RES.out | exact RES.out.drewN 1)
    · have g1:(0:Int)<(n:Int):=by omega
      have g2:decide ((n:Int) > 0)=true:=decide_eq_true g1
      have g3:decide ((0:Int)<(n:Int))=true:=decide_eq_true g1
      have g4:decide (0<n)=true:=decide_eq_true h0
      subst h0'
      have RES:=Lib.hid (HE.out false false)
      have eq1:decide (0<q)=true:=decide_eq_true (by rw [← HQP.out];omega)
      have eq2:decide (0<r)=false:=decide_eq_false (fun h=>by rw [← HRP.out] at h;omega)
      have EQ1:=Lib.hid eq1
      have EQ2:=Lib.hid eq2
      clear eq1 eq2 HE MID Z1 Z2 HQP HRP
      go_wp2_with fail
      go_region
      all_goals (go_wp2_with fail;go_ret2;refine ⟨rfl,?_⟩;rw [EQ1.out,EQ2.out];first | exact RES.out | exact RES.out.drewN 1)
    · have g1:(0:Int)<(n:Int):=by omega
      have g2:decide ((n:Int) > 0)=true:=decide_eq_true g1
      have g3:decide ((0:Int)<(n:Int))=true:=decide_eq_true g1
      have g4:decide (0<n)=true:=decide_eq_true h0
      subst h0'
      have RES:=Lib.hid (HE.out true false)
      have eq1:decide (0<q)=true:=decide_eq_true (by rw [← HQP.out];omega)
      have eq2:decide (0<r)=false:=decide_eq_false (fun h=>by rw [← HRP.out] at h;omega)
      have EQ1:=Lib.hid eq1
      have EQ2:=Lib.hid eq2
      clear eq1 eq2 HE MID Z1 Z2 HQP HRP
      go_wp2_with fail
      go_region
      all_goals (go_wp2_with fail;go_ret2;refine ⟨rfl,?_⟩;rw [EQ1.out,EQ2.out];first | exact RES.out | exact RES.out.drewN 1)
    · have g1:(0:Int)<(n:Int):=by omega
      have g2:decide ((n:Int) > 0)=true:=decide_eq_true g1
      have g3:decide ((0:Int)<(n:Int))=true:=decide_eq_true g1
      have g4:decide (0<n)=true:=decide_eq_true h0
      have g1':(0:Int)<(n':Int):=by omega
      have g2':decide ((n':Int) > 0)=true:=decide_eq_true g1'
      have g3':decide ((0:Int)<(n':Int))=true:=decide_eq_true g1'
      have g4':decide (0<n')=true:=decide_eq_true h0'
      have RES:=Lib.hid (HE.out false false)
      have eq1:decide (0<q)=true:=decide_eq_true (by rw [← HQP.out];omega)
      have eq2:decide (0<r)=true:=decide_eq_true (by rw [← HRP.out];omega)
      have EQ1:=Lib.hid eq1
      have EQ2:=Lib.hid eq2
      clear eq1 eq2 HE MID Z1 Z2 HQP HRP
      go_wp2_with fail
      go_region
      all_goals (go_wp2_with fail;go_ret2;refine ⟨rfl,?_⟩;rw [EQ1.out,EQ2.out];first | exact RES.out | exact RES.out.drewN 1)
    · have g1:(0:Int)<(n:Int):=by omega
      have g2:decide ((n:Int) > 0)=true:=decide_eq_true g1
      have g3:decide ((0:Int)<(n:Int))=true:=decide_eq_true g1
      have g4:decide (0<n)=true:=decide_eq_true h0
      have g1':(0:Int)<(n':Int):=by omega
      have g2':decide ((n':Int) > 0)=true:=decide_eq_true g1'
      have g3':decide ((0:Int)<(n':Int))=true:=decide_eq_true g1'
      have g4':decide (0<n')=true:=decide_eq_true h0'
      have RES:=Lib.hid (HE.out true true)
      have eq1:decide (0<q)=true:=decide_eq_true (by rw [← HQP.out];omega)
      have eq2:decide (0<r)=true:=decide_eq_true (by rw [← HRP.out];omega)
      have EQ1:=Lib.hid eq1
      have EQ2:=Lib.hid eq2
      clear eq1 eq2 HE MID Z1 Z2 HQP HRP
      go_wp2_with fail
      go_region
      all_goals (go_wp2_with fail;go_ret2;refine ⟨rfl,?_⟩;rw [EQ1.out,EQ2.out];first | exact RES.out | exact RES.out.drewN 1)
end Go.Proofs.YtpfmbfkhjapbbaaGreatDoor
