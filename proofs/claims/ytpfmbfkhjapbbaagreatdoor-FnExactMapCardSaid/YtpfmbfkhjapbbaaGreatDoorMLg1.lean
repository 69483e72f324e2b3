/-
  lehmerGCD (extended in x alone): the gcd of two positive Ints and a cosequence of the first. Conditions: at most 9 words; the four Ints apart.
-/
import Derived.Test.YtpfmbfkhjapbbaaGreatDoorMg21
import Derived.Test.YtpfmbfkhjapbbaaGreatDoorMLeh4
set_option linter.unusedVariables false
set_option linter.unusedSimpArgs false
namespace Go.Proofs.YtpfmbfkhjapbbaaGreatDoor
open Go Go.RowKit
theorem Ext.fresh {own own':Nat→Option Nat} {w w':World} (ok:OwnOk own w) (h:Ext (fun z=>w.heap.size≤z) own own' w w') (Z:Nat→Prop):Ext Z own own' w w' :=
  ⟨h.old,h.mod.mono fun k o hk ⟨z,hz,e⟩=>absurd (ok k z hk e) (by omega),h.ok⟩
structure BSt (own0:Nat→Option Nat) (w0:World) (own:Nat→Option Nat) (w:World) (K:Nat) (P:List Nat) (V:List Int):Prop where
  st:OSt own w K P V
  ext:Ext (fun z=>w0.heap.size≤z) own0 own w0 w
  ge:w0.heap.size≤w.heap.size
theorem BSt.start {own:Nat→Option Nat} {w:World} {K:Nat} {P:List Nat} {V:List Int} (h:OSt own w K P V):BSt own w own w K P V:=⟨h,.refl h.env.ok,Nat.le_refl _⟩
theorem BSt.new {own0 own:Nat→Option Nat} {w0 w:World} {K:Nat} {P:List Nat} {V:List Int} (h:BSt own0 w0 own w K P V) :
    ∃ own',BSt own0 w0 own' (w.alloc (.cells #[.bool false,.slice none 0 0] 51 (0,0))) (K+1) (w.heap.size :: P) (0 :: V):=by
  obtain ⟨own',e,s⟩:=h.st.new
  have:=e.mod.size
  have hg:=h.ge
  exact ⟨own',s,h.ext.trans (e.mono fun z hz=>hz.elim),by omega⟩
theorem BSt.put {own0 own:Nat→Option Nat} {w0 w w':World} {K:Nat} {P:List Nat} {V:List Int} (h:BSt own0 w0 own w K P V) {z:Nat} {i:Int} (c:Nat) (hc:P[c]? = some z) (hz:w0.heap.size≤z) (hs:OwnSet own w z i w') :
    ∃ own',BSt own0 w0 own' w' K P (V.set c i):=by
  obtain ⟨own',e,s⟩:=h.st.put c hc hs
  have:=e.mod.size
  have hg:=h.ge
  exact ⟨own',s,h.ext.trans (e.mono fun y hy=>by rw [hy];exact hz),by omega⟩
def GcdRet (own:Nat→Option Nat) (w:World) (pd px a b:Nat) (e:Ending) (w':World):Prop :=
  e=.returned (.pointer (some ⟨pd,0,none⟩))∧∃ own' W,Ext (fun z=>z=pd∨z=px) own own' w w'∧IntO own' w' pd ((Nat.gcd a b:Nat):Int)∧IntO own' w' px W∧W.natAbs≤b∧∃ k:Int,W*a=(Nat.gcd a b:Nat)+k*b
theorem OwnSet.word {own:Nat→Option Nat} {w:World} {p x:Nat} {i:Int} {b o c:Nat} (ok:OwnOk own w) (h:IntO own w p i) (op:own p=some p) (hp:0<i) (hb:i.natAbs<B64) (hx:0<x) (hxb:x<B64)
    (h1:w.cell? ⟨p,1,none⟩=some (.slice (some ⟨b,o,none⟩) 1 c)):OwnSet own w p (x:Int) (w.setCell ⟨b,o,none⟩ (U x)):=by
  obtain ⟨a,n,c',f,hI,hB⟩:=h
  have hc:=hI.c1
  rw [h1] at hc
  injection hc with hc
  injection hc with ha hn hc'
  subst ha hc'
  obtain rfl:n=1:=by exact_mod_cast hn.symm
  obtain ⟨b',hb'⟩:=hI.num.arr.form (by have:=hI.num.le;omega)
  injection hb' with hb'
  injection hb' with e1 e2
  subst e1 e2
  have hle:=hI.num.le
  have hv:=hI.num.arr.vec
  have ob:own b=some p:=by
    rcases hB with h | h
    · exact h.2 _ rfl
    · rw [h.1] at op;cases op
  have hbp:=hI.apart _ rfl
  have hset:Vec (w.setCell ⟨b,0,none⟩ (U x)) b 0 c (fun j=>if j=0 then x else f j):=by
    intro j hj
    obtain ⟨g1,g2,g3⟩:=hv j hj
    by_cases h0:j=0
    · subst h0
      show _=some (U (if 0=0 then x else f 0))∧_∧(if 0=0 then x else f 0)<B64
      rw [if_pos rfl]
      exact ⟨cell_same g1 _,by rw [World.frozen?_setCell];exact g2,hxb⟩
    · show _=some (U (if j=0 then x else f j))∧_∧(if j=0 then x else f j)<B64
      rw [if_neg h0]
      exact ⟨(cell_other (.inr (by omega)) _).trans g1,by rw [World.frozen?_setCell];exact g2,g3⟩
  have hm:=setCell_mod w b 0 (U x)
  refine ⟨own,⟨fun _ _=>rfl,hm.mono fun k o _ hh=>⟨p,rfl,by rw [hh.1];exact ob⟩,fun k z hk hz => ?_⟩,_,1,c,_,⟨?_,⟨hI.num.arr.turned hm hset,hle,?_,.inr ?_⟩,?_⟩,.inl ⟨op,fun A hA => ?_⟩⟩
  · have hs:(w.setCell ⟨b,0,none⟩ (U x)).heap.size=w.heap.size:=by simp
    rw [hs] at hk ⊢
    exact ok k z hk hz
  · rw [hm.heap (lt_of_heap hI.cells) (fun o hh=>hbp hh.1.symm),hI.cells]
    have h3:decide (i<0)=decide ((x:Int)<0):=by rw [decide_eq_false (by omega),decide_eq_false (by omega)]
    rw [h3]
  · rw [val_one,if_pos rfl,Int.natAbs_natCast]
  · show (if (1 - 1:Nat)=0 then x else _)≠0
    rw [if_pos rfl];omega
  · intro A hA
    injection hA with hA
    subst hA
    exact hbp
  · injection hA with hA
    subst hA
    exact ob
theorem IntO.zero_c {own:Nat→Option Nat} {w:World} {p:Nat} (h:IntO own w p ((0:Nat):Int)):∃ a c,w.cell? ⟨p,1,none⟩=some (.slice a 0 c):=by
  obtain ⟨a,n,c,f,hI,_⟩:=h.any
  have h0:=hI.words_le (m:=0) (by simp)
  obtain rfl:n=0:=by omega
  exact ⟨a,c,hI.c1⟩
theorem IntO.one_c {own:Nat→Option Nat} {w:World} {p v:Nat} (h:IntO own w p (v:Int)) (h0:0<v) (h1:v<B64):∃ b c,w.cell? ⟨p,1,none⟩=some (.slice (some ⟨b,0,none⟩) 1 c)∧w.cell? ⟨b,0,none⟩=some (U v)∧w.frozen? ⟨b,0,none⟩=false:=by
  obtain ⟨a,n,c,f,hI,_⟩:=h.any
  have hn:=hI.words_le (m:=1) (by rw [Int.natAbs_natCast,Nat.pow_one];exact h1)
  have hv:=hI.num.val
  rw [Int.natAbs_natCast] at hv
  have hn1:n=1:=by
    rcases Nat.eq_zero_or_pos n with h | h
    · subst h
      have:val f 0=0:=rfl
      omega
    · omega
  subst hn1
  obtain ⟨b,rfl⟩:=hI.num.arr.form (by have:=hI.num.le;omega)
  obtain ⟨g1,g2,_⟩:=hI.num.arr.vec 0 (by have:=hI.num.le;omega)
  rw [Nat.add_zero] at g1 g2
  rw [val_one] at hv
  rw [hv] at g1
  exact ⟨b,c,hI.c1,g1,g2⟩
theorem IntO.long_c {own:Nat→Option Nat} {w:World} {p v:Nat} (h:IntO own w p (v:Int)) (h1:¬ v<B64):∃ a n c,2≤n∧w.cell? ⟨p,1,none⟩=some (.slice a n c):=by
  obtain ⟨a,n,c,f,hI,_⟩:=h.any
  have hl:=hI.num.lt
  rw [Int.natAbs_natCast] at hl
  refine ⟨a,n,c,?_,hI.c1⟩
  rcases Nat.lt_or_ge n 2 with h | h
  · have:B64^n≤B64^1:=Nat.pow_le_pow_right B64_pos (by omega)
    rw [Nat.pow_one] at this
    omega
  · exact h
theorem LgSt.still {own0 own:Nat→Option Nat} {w0 w w':World} {pA pB pU pV pq pr:Nat} {A B U V kq kr:Int} (h:LgSt own0 w0 own w pA pB pU pV pq pr A B U V kq kr) (m:Mod NoP w w') :
    ∃ own',LgSt own0 w0 own' w' pA pB pU pV pq pr A B U V kq kr:=by
  obtain ⟨own',e⟩:=Ext.quiet (Z:=fun _=>False) h.env.ok m
  exact ⟨own',h.up e (fun z hz=>hz.elim) (h.iA.keep e id) (h.iB.keep e id) (h.iU.keep e id) (h.iV.keep e id) (h.iq.keep e id) (h.ir.keep e id) (fun p hp=>hp) h.nd⟩
theorem LgSt.swap {own0 own:Nat→Option Nat} {w0 w:World} {pA pB pU pV pq pr:Nat} {A B U V kq kr:Int} (h:LgSt own0 w0 own w pA pB pU pV pq pr A B U V kq kr):LgSt own0 w0 own w pB pA pV pU pq pr B A V U kq kr :=
  h.up (.refl h.env.ok) (Z:=fun _=>False) (fun z hz=>hz.elim) h.iB h.iA h.iV h.iU h.iq h.ir (fun p hp=>by simp at hp ⊢;omega) (by have:=h.ne;simp;omega)
def EndSt (own:Nat→Option Nat) (w:World) (a b:Nat) (pA pU:Nat) (w':World):Prop :=
  ∃ own' W,OEnv own' w'∧Ext (fun z=>w.heap.size≤z) own own' w w'∧IntO own' w' pA ((Nat.gcd a b:Nat):Int)∧IntO own' w' pU W∧W.natAbs≤b∧(∃ k:Int,W*a=(Nat.gcd a b:Nat)+k*b)∧w.heap.size≤pA∧w.heap.size≤pU
theorem LgSt.end_ {own0 own:Nat→Option Nat} {w0 w:World} {a b A pA pB pU pV pq pr:Nat} {U V kq kr:Int} (h:LgSt own0 w0 own w pA pB pU pV pq pr (A:Int) ((0:Nat):Int) U V kq kr) (g:GcdB a b A 0 U V):EndSt own0 w0 a b pA pU w:=by
  obtain ⟨g1,g2,g3⟩:=g.end_
  subst g1
  exact ⟨own,U,h.env,h.ext,h.iA,h.iU,g2,g3,(h.o pA (by simp)).2,(h.o pU (by simp)).2⟩
structure EuW (A B x y u0 u1 v0 v1:Nat) (ev:Bool):Prop where
  c:Cont A B x y u0 u1 v0 v1 ev
  x0:0<x
  yx:y≤x
  xb:x<B64
  b0:u0<B64
  b1:u1<B64
  b2:v0<B64
  b3:v1<B64
  m:y=B∨(u0≤u1∧v0≤v1)
theorem EuW.start {A B:Nat} (h:B≤A) (h0:0<A) (hA:A<B64):EuW A B A B 1 0 0 1 true:=⟨.start A B,h0,h,hA,by decide,by decide,by decide,by decide,.inl rfl⟩
theorem EuW.step {A B x y u0 u1 v0 v1:Nat} {ev:Bool} (h:EuW A B x y u0 u1 v0 v1 ev) (hA:A<B64) (hB:B<B64) (hy:0<y) :
    EuW A B y (x%y) u1 (u0+x/y*u1) v1 (v0+x/y*v1) (!ev):=by
  have hc:=h.c.step
  have h1:=hc.u1_le hy
  have h2:=hc.v1_le hy
  have hq:1≤x/y:=Nat.div_pos h.yx hy
  have g1:1*u1≤x/y*u1:=Nat.mul_le_mul_right _ hq
  have g2:1*v1≤x/y*v1:=Nat.mul_le_mul_right _ hq
  have:=h.yx
  have:=h.xb
  exact ⟨hc,hy,Nat.le_of_lt (Nat.mod_lt _ hy),by omega,h.b1,by omega,h.b3,by omega,.inr ⟨by omega,by omega⟩⟩
theorem cmpV_neg (a b:Nat):decide (cmpV a b<0)=decide (a<b):=by
  unfold cmpV
  repeat' split
  all_goals (simp;omega)
set_option maxRecDepth 100000 in
set_option maxHeartbeats 4000000 in
theorem lehGcd_o (own:Nat→Option Nat) (w:World) (pd px pa pb a b:Nat) (kd kx:Int) (h:OSt own w 2 [pd,px,pa,pb] [kd,kx,(a:Int),(b:Int)]) (ha0:0<a) (hb0:0<b) (ba:a<B64^9) (bb:b<B64^9) :
    Calls Tryz.prog 134 #[.pointer (some ⟨pd,0,none⟩),.pointer (some ⟨px,0,none⟩),.pointer none,.pointer (some ⟨pa,0,none⟩),.pointer (some ⟨pb,0,none⟩)] w (GcdRet own w pd px a b):=by
  have HBA:=Lib.hid (show ((a:Nat):Int).natAbs<B64^9 by rw [Int.natAbs_natCast];exact ba)
  have HBB:=Lib.hid (show ((b:Nat):Int).natAbs<B64^9 by rw [Int.natAbs_natCast];exact bb)
  have HA0:=Lib.hid ha0
  have HB0:=Lib.hid hb0
  obtain ⟨own1,s1⟩:=(BSt.start h).new
  have H1:=Lib.hid (intAbs_o own1 _ w.heap.size pa 0 a 9 s1.st.env (s1.st.get 0 rfl rfl) (s1.st.own 0 (by omega) rfl).2 (s1.st.get 3 rfl rfl) (by omega) HBA.out (s1.st.ne 0 3 (by omega) rfl rfl))
  have H0:=Lib.hid h
  have S1:=Lib.hid s1
  clear h s1 ba bb ha0 hb0
  go_enter Tryz.func134,Tryz.ntmps134
  go_wp2_with fail
  refine H1.out.mono ?_
  rintro e w1 ⟨rfl,hs⟩
  rw [Int.natAbs_natCast] at hs
  obtain ⟨own2,s2⟩:=S1.out.put 0 rfl (Nat.le_refl _) hs
  obtain ⟨own3,s3⟩:=s2.new
  have H3:=Lib.hid (intAbs_o own3 _ w1.heap.size pb 0 b 9 s3.st.env (s3.st.get 0 rfl rfl) (s3.st.own 0 (by omega) rfl).2 (s3.st.get 5 rfl rfl) (by omega) HBB.out (s3.st.ne 0 5 (by omega) rfl rfl))
  have S3:=Lib.hid s3
  have HG1:=Lib.hid s2.ge
  clear hs s2 s3 H1 S1
  go_wp2_with fail
  refine H3.out.mono ?_
  rintro e w2 ⟨rfl,hs⟩
  rw [Int.natAbs_natCast] at hs
  obtain ⟨own4,s4⟩:=S3.out.put 0 rfl HG1.out hs
  obtain ⟨own5,s5⟩:=s4.new
  have H5:=Lib.hid (intSetI64_o own5 _ w2.heap.size 0 1 s5.st.env (s5.st.get 0 rfl rfl) (s5.st.own 0 (by omega) rfl).2 (by decide))
  have S5:=Lib.hid s5
  have HG2:=Lib.hid s4.ge
  clear hs s4 s5 H3 S3
  go_wp2_with fail
  refine H5.out.mono ?_
  rintro e w3 ⟨rfl,hs⟩
  obtain ⟨own6,s6⟩:=S5.out.put 0 rfl HG2.out hs
  obtain ⟨own7,s7⟩:=s6.new
  obtain ⟨own8,s8⟩:=s7.new
  obtain ⟨own9,s9⟩:=s8.new
  have LG:∃ kq kr,LgSt own w own9 (((w3.alloc (.cells #[.bool false,.slice none 0 0] 51 (0,0))).alloc (.cells #[.bool false,.slice none 0 0] 51 (0,0))).alloc (.cells #[.bool false,.slice none 0 0] 51 (0,0))) w.heap.size w1.heap.size w2.heap.size w3.heap.size (w3.alloc (.cells #[.bool false,.slice none 0 0] 51 (0,0))).heap.size ((w3.alloc (.cells #[.bool false,.slice none 0 0] 51 (0,0))).alloc (.cells #[.bool false,.slice none 0 0] 51 (0,0))).heap.size (a:Int) (b:Int) 1 0 kq kr:=by
    have n1:=s9.st.ne 5 4 (by omega) rfl rfl
    have n2:=s9.st.ne 5 3 (by omega) rfl rfl
    have n3:=s9.st.ne 5 2 (by omega) rfl rfl
    have n4:=s9.st.ne 5 1 (by omega) rfl rfl
    have n5:=s9.st.ne 5 0 (by omega) rfl rfl
    have n6:=s9.st.ne 4 3 (by omega) rfl rfl
    have n7:=s9.st.ne 4 2 (by omega) rfl rfl
    have n8:=s9.st.ne 4 1 (by omega) rfl rfl
    have n9:=s9.st.ne 4 0 (by omega) rfl rfl
    have n10:=s9.st.ne 3 2 (by omega) rfl rfl
    have n11:=s9.st.ne 3 1 (by omega) rfl rfl
    have n12:=s9.st.ne 3 0 (by omega) rfl rfl
    have n13:=s9.st.ne 2 1 (by omega) rfl rfl
    have n14:=s9.st.ne 2 0 (by omega) rfl rfl
    have n15:=s9.st.ne 1 0 (by omega) rfl rfl
    refine ⟨0,0,s9.st.env,s9.ext,s9.st.get 5 rfl rfl,s9.st.get 4 rfl rfl,s9.st.get 3 rfl rfl,s9.st.get 2 rfl rfl,(s9.st.get 1 rfl rfl).loose,(s9.st.get 0 rfl rfl).loose,?_,?_⟩
    · intro p hp
      have g1:=HG1.out
      have g2:=HG2.out
      have g3:=s6.ge
      have g4:=s7.ge
      have g5:=s8.ge
      simp only [List.mem_cons,List.not_mem_nil,or_false] at hp
      rcases hp with rfl | rfl | rfl | rfl | rfl | rfl
      · exact ⟨(s9.st.own 5 (by omega) rfl).2,Nat.le_refl _⟩
      · exact ⟨(s9.st.own 4 (by omega) rfl).2,g1⟩
      · exact ⟨(s9.st.own 3 (by omega) rfl).2,g2⟩
      · exact ⟨(s9.st.own 2 (by omega) rfl).2,g3⟩
      · exact ⟨(s9.st.own 1 (by omega) rfl).2,g4⟩
      · exact ⟨(s9.st.own 0 (by omega) rfl).2,g5⟩
    · simp only [List.nodup_cons,List.mem_cons,List.not_mem_nil,or_false,not_or,List.nodup_nil,and_true,not_false_eq_true]
      exact ⟨⟨n1,n2,n3,n4,n5⟩,⟨n6,n7,n8,n9⟩,⟨n10,n11,n12⟩,⟨n13,n14⟩,n15⟩
  have l1:(w3.alloc (.cells #[.bool false,.slice none 0 0] 51 (0,0))).heap.size=w3.heap.size+1:=by simp
  have l2:((w3.alloc (.cells #[.bool false,.slice none 0 0] 51 (0,0))).alloc (.cells #[.bool false,.slice none 0 0] 51 (0,0))).heap.size=w3.heap.size+1+1:=by simp
  rw [l2,l1] at LG
  have HLG:=Lib.hid LG
  clear l1 l2
  clear hs s6 s7 s8 s9 H5 S5 LG
  go_wp2_with fail
  generalize w3.heap.size+1+1=pr0 at *
  generalize w3.heap.size+1=pq at *
  generalize ((w3.alloc (Obj.cells #[Value.bool false,Value.slice none 0 0] 51)).alloc (Obj.cells #[Value.bool false,Value.slice none 0 0] 51)).alloc (Obj.cells #[Value.bool false,Value.slice none 0 0] 51)=w6 at *
  generalize w3.heap.size=p4 at *
  generalize w2.heap.size=p3 at *
  generalize w1.heap.size=p2 at *
  generalize hbase:w.heap.size=p1 at *
  clear hbase
  obtain ⟨kq,kr,lg⟩:=HLG.out
  obtain ⟨aA,nA,cA,fA,hA,_⟩:=lg.iA.any
  obtain ⟨aB,nB,cB,fB,hB,_⟩:=lg.iB.any
  have c1:=hA.c1
  have c2:=hB.c1
  have nA9:=hA.words_le HBA.out
  have nB9:=hB.words_le HBB.out
  have hc:∀ q,Calls Tryz.prog 110 #[.slice aA nA cA,.slice aB nB cB] (w6.drewN q) fun e w'=>e=.returned (.int .i64 (cmpV a b))∧∃ k,w'=(w6.drewN q).drewN k:=fun q =>
    cmp_any aA aB nA cA nB cB a b fA fB (w6.drewN q) (hA.num.mod ((Mod.refl NoP w6).drewN q) (Off.noP _)) (hB.num.mod ((Mod.refl NoP w6).drewN q) (Off.noP _)) (by omega) (by omega)
  have HC:=Lib.hid hc
  have HCN:=Lib.hid (cmpV_neg a b)
  have LG:=Lib.hid lg
  clear lg hA hB nA9 nB9 hc HLG
  generalize cmpV a b=cv at *
  go_quiet ((go_at_call 110;exact Calls.quiet_of (HC.out _)))
  clear c1 c2 HC
  obtain ⟨own',lg'⟩:=LG.out.still ((Mod.refl NoP w6).drewN nq)
  have LG':=Lib.hid lg'
  clear lg'
  go_upto_if 60 with fail
  go_cut [11,12,13,14] from 60 to 64 (fun s11 s12 s13 s14 wx=>∃ own' pA pB pU pV,∃ (A B:Nat),∃ (U V:Int),s11=Value.pointer (some ⟨pA,0,none⟩)∧s12=Value.pointer (some ⟨pB,0,none⟩)∧s13=Value.pointer (some ⟨pU,0,none⟩)∧s14=Value.pointer (some ⟨pV,0,none⟩)∧Hid (∃ kq kr,LgSt own w own' wx pA pB pU pV pq pr0 (A:Int) (B:Int) U V kq kr)∧Hid (GcdB a b A B U V∧A+B≤a+b))
  case first =>
    by_cases hab:a<b
    · have hcv:decide (cv<0)=true:=by rw [HCN.out];exact decide_eq_true hab
      have hc2:cv<0:=of_decide_eq_true hcv
      go_wp2_with fail
      go_meet
      case rel =>
        exact ⟨own',_,_,_,_,b,a,0,1,rfl,rfl,rfl,rfl,⟨kq,kr,LG'.out.swap⟩,⟨.start2 (Nat.le_of_lt hab),by simp⟩,by rw [Nat.add_comm];exact Nat.le_refl _⟩
    · have hcv:decide (cv<0)=false:=by rw [HCN.out];exact decide_eq_false hab
      have hc2:¬ cv<0:=of_decide_eq_false hcv
      go_wp2_with fail
      go_meet
      case rel =>
        exact ⟨own',_,_,_,_,a,b,1,0,rfl,rfl,rfl,rfl,⟨kq,kr,LG'.out⟩,⟨.start1 (by omega),HB0.out⟩,Nat.le_refl _⟩
  case rest =>
    obtain ⟨own',pA,pB,pU,pV,A,B,U',V',rfl,rfl,rfl,rfl,hlg,hg⟩:=hcut
    go_wp2_with fail
    go_loopg [11,12,13,14,17] (a+b) (fun k s11 s12 s13 s14 s17 wx=>∃ own' pA pB pU pV pr,∃ (A B:Nat),∃ (U V:Int),s11=Value.pointer (some ⟨pA,0,none⟩)∧s12=Value.pointer (some ⟨pB,0,none⟩)∧s13=Value.pointer (some ⟨pU,0,none⟩)∧s14=Value.pointer (some ⟨pV,0,none⟩)∧s17=Value.pointer (some ⟨pr,0,none⟩)∧Hid (∃ kq kr,LgSt own w own' wx pA pB pU pV pq pr (A:Int) (B:Int) U V kq kr)∧Hid (GcdB a b A B U V∧A+B≤a+b∧A+B≤k))
    case atStart=>exact ⟨own',pA,pB,pU,pV,pr0,A,B,U',V',rfl,rfl,rfl,rfl,rfl,hlg.out,hg.out.1,hg.out.2,hg.out.2⟩
    case round =>
      clear hlg hg
      clear own' pA pB pU pV A B U' V'
      obtain ⟨own2,pA,pB,pU,pV,pr,A,B,U2,V2,rfl,rfl,rfl,rfl,rfl,hlg,hg⟩:=hrel
      obtain ⟨kq,kr,lg⟩:=hlg.out
      obtain ⟨g1,g2,g3⟩:=hg.out
      obtain ⟨aA,nA,cA,fA,hA,_⟩:=lg.iA.any
      obtain ⟨aB,nB,cB,fB,hB,_⟩:=lg.iB.any
      have c1:=hA.c1
      have c2:=hB.c1
      have z1:=HBA.out
      have z2:=HBB.out
      have z3:2*B64^9≤B64^10:=by rw [Nat.pow_succ B64 9,Nat.mul_comm];exact Nat.mul_le_mul_left _ (by decide)
      rw [Int.natAbs_natCast] at z1 z2
      have lA:A<B64^10:=by omega
      have lB:B<B64^10:=by omega
      have lU:U2.natAbs<B64^10:=by have:=g1.u;omega
      have lV:V2.natAbs<B64^10:=by have:=g1.v HB0.out;omega
      have LG:=Lib.hid lg
      have HLA:=Lib.hid lA
      have HLB:=Lib.hid lB
      have HLU:=Lib.hid lU
      have HLV:=Lib.hid lV
      have hB':=hB.num.lt
      have hnA:=hA.words_le (m:=10) (by rw [Int.natAbs_natCast];exact lA)
      rw [Int.natAbs_natCast] at hB'
      clear lA lB lU lV z1 z2 z3
      by_cases hBB:B<B64
      · have hn1:=hB.words_le (m:=1) (by rw [Int.natAbs_natCast,Nat.pow_one];exact hBB)
        have n1:¬ (1:Int)<(nB:Int):=by omega
        have HBW:=Lib.hid hBB
        have HG:=Lib.hid g1
        clear hlg hg lg g1 g2 g3 hA hB hB' hnA hBB hn1
        go_upto_if 122 with fail
        go_cut [11,12,13,14,17,23,24,25,26,27,28,29,30,31] from 122 to 212 (fun s11 s12 s13 s14 s17 s23 s24 s25 s26 s27 s28 s29 s30 s31 wx=>∃ pA pU,s11=Value.pointer (some ⟨pA,0,none⟩)∧s13=Value.pointer (some ⟨pU,0,none⟩)∧Hid (EndSt own w a b pA pU wx))
        case first =>
          by_cases hB0:B=0
          · subst hB0
            obtain ⟨a0,c0,h0⟩:=LG.out.iB.zero_c
            rw [c2] at h0
            injection h0 with h0
            injection h0 with h01 h02 h03
            obtain rfl:nB=0:=by exact_mod_cast h02
            clear h01 h02 h03
            go_wp2_with fail
            go_meet
            case rel=>exact ⟨pA,pU,rfl,rfl,LG.out.end_ HG.out⟩
          · obtain ⟨bB,CB,h0,w8,w9⟩:=LG.out.iB.one_c (by omega) HBW.out
            clear w8 w9
            have h0':=h0
            rw [c2] at h0
            injection h0 with h0
            injection h0 with h01 h02 h03
            obtain rfl:nB=1:=by exact_mod_cast h02
            have HBP:=Lib.hid (show 0<B by omega)
            clear h01 h02 h03 h0' hB0 n1
            go_upto_if 128 with fail
            go_cut [11,12,13,14,17] from 128 to 142 (fun s11 s12 s13 s14 s17 wx=>∃ own' pA pB pU pV pr,∃ (A B:Nat),∃ (U V:Int),s11=Value.pointer (some ⟨pA,0,none⟩)∧s12=Value.pointer (some ⟨pB,0,none⟩)∧s13=Value.pointer (some ⟨pU,0,none⟩)∧s14=Value.pointer (some ⟨pV,0,none⟩)∧s17=Value.pointer (some ⟨pr,0,none⟩)∧Hid (∃ kq kr,LgSt own w own' wx pA pB pU pV pq pr (A:Int) (B:Int) U V kq kr)∧Hid (GcdB a b A B U V∧A<B64∧B<B64))
            case first =>
              by_cases hA:A<B64
              · obtain ⟨bA,CA,c1',_,_⟩:=LG.out.iA.one_c (HG.out.pos HB0.out) hA
                rw [c1] at c1'
                injection c1' with c1'
                injection c1' with h01 h02 h03
                have m1:¬ (1:Int)<(nA:Int):=by omega
                clear h01 h02 h03
                go_wp2_with fail
                go_meet
                case rel=>exact ⟨own2,pA,pB,pU,pV,pr,A,B,U2,V2,rfl,rfl,rfl,rfl,rfl,⟨kq,kr,LG.out⟩,HG.out,hA,HBW.out⟩
              · obtain ⟨xA,mA,CA,hmA,c1'⟩:=LG.out.iA.long_c hA
                rw [c1] at c1'
                injection c1' with c1'
                injection c1' with h01 h02 h03
                have m1:(1:Int)<(nA:Int):=by omega
                have hn:=LG.out.ne
                have HEU:=Lib.hid (euclid_o own2 wr pA pB pU pV pq pr A B U2 V2 kq kr LG.out.env LG.out.iA LG.out.iB LG.out.iU LG.out.iV LG.out.iq LG.out.ir LG.out.oU LG.out.oq LG.out.or (by omega) (by omega) (by omega) (by omega) (by omega) (by omega) (by omega) (by omega) (by omega) (by omega)
                  HBP.out HLA.out HLB.out HLU.out HLV.out (fun _=>by omega) _ rfl)
                clear h01 h02 h03 hn hA
                go_wp2_with fail
                refine HEU.out.mono ?_
                rintro e wz he
                obtain ⟨rfl,_⟩:=id he
                obtain ⟨own4,kq4,lg4⟩:=LG.out.euc he
                have LG4:=Lib.hid lg4
                clear he lg4 HEU
                go_wp2_with fail
                go_meet
                case rel=>exact ⟨own4,pB,pr,pV,pU,pA,B,A%B,V2,_,rfl,rfl,rfl,rfl,rfl,⟨kq4,_,LG4.out⟩,HG.out.euclid HBP.out,HBW.out,by have:=Nat.mod_lt A HBP.out;have:=HBW.out;omega⟩
            case rest =>
              clear c1 c2 LG HLA HLB HLU HLV HBW HG HBP
              obtain ⟨own2,pA,pB,pU,pV,pr,A,B,U2,V2,rfl,rfl,rfl,rfl,rfl,hlg,hg⟩:=hcut
              obtain ⟨kq,kr,lg⟩:=hlg.out
              obtain ⟨g1,g2,g3⟩:=hg.out
              have LG:=Lib.hid lg
              have HG:=Lib.hid g1
              have HAW:=Lib.hid g2
              have HBW:=Lib.hid g3
              have z2:=HBB.out
              rw [Int.natAbs_natCast] at z2
              have z3:B64^9≤B64^10:=Nat.pow_le_pow_right B64_pos (by omega)
              have HLU:=Lib.hid (show U2.natAbs<B64^10 by have:=g1.u;omega)
              have HLV:=Lib.hid (show V2.natAbs<B64^10 by have:=g1.v HB0.out;omega)
              clear hlg hg lg g1 g2 g3 z2 z3
              by_cases hB0:B=0
              · subst hB0
                obtain ⟨a0,c0,c2⟩:=LG.out.iB.zero_c
                go_wp2_with fail
                go_meet
                case rel=>exact ⟨pA,pU,rfl,rfl,LG.out.end_ HG.out⟩
              · have HBP:=Lib.hid (show 0<B by omega)
                obtain ⟨bA,CA,c1,d1,_⟩:=LG.out.iA.one_c (HG.out.pos HB0.out) HAW.out
                obtain ⟨bB,CB,c2,d2,_⟩:=LG.out.iB.one_c HBP.out HBW.out
                have HST:=Lib.hid (EuW.start HG.out.st.le (HG.out.pos HB0.out) HAW.out)
                have HST0:=Lib.hid HBP
                clear hB0
                go_wp2_with fail
                go_quiet (fail)
                clear c1 c2 d1 d2
                go_wp2_with fail
                obtain ⟨w7,hw7⟩:∃ k,k=wc.drewN nq:=⟨_,rfl⟩
                rw [← hw7]
                have HW7:=Lib.hid hw7
                clear hw7
                go_loopw [23,24,25,26,27,28,29] (fun s23 s24 s25 s26 s27 s28 s29 wx=>∃ (x y u0 u1 v0 v1:Nat) (ev:Bool),s23=U x∧s24=U y∧s25=U u0∧s26=U u1∧s27=U v0∧s28=U v1∧s29=.bool ev∧Hid (EuW A B x y u0 u1 v0 v1 ev)∧Hid (∃ q,wx=w7.drewN q)) (fun _ s24 _ _ _ _ _ _=>(intOf s24).toNat)
                case atStart=>exact ⟨A,B,1,0,0,1,true,rfl,rfl,rfl,rfl,rfl,rfl,rfl,HST.out,0,rfl⟩
                case round =>
                  obtain ⟨x,y,u0,u1,v0,v1,ev,rfl,rfl,rfl,rfl,rfl,rfl,rfl,hl,hw⟩:=hrel
                  by_cases hy:y=0
                  · have hyb:((y:Int) != 0)=false:=by simp;omega
                    have hyb':((y:Int) == 0)=true:=by simp;omega
                    have hyn:(y:Int)=0:=by omega
                    obtain ⟨q,hq⟩:=hw.out
                    have m7:Mod NoP wc wr:=by rw [hq,HW7.out];exact ((Mod.refl NoP wc).drewN _).drewN _
                    obtain ⟨own3,lg⟩:=LG.out.still m7
                    have H1:=Lib.hid (mulW_o own3 wr pU pU u0 U2 U2 (!ev) 10 lg.env lg.iU.loose lg.oU lg.iU (by omega) HLU.out hl.out.b0)
                    have LG3:=Lib.hid lg
                    have HY:=Lib.hid hy
                    clear lg m7 hq hw HST hy hyn
                    go_wp2_with fail
                    refine H1.out.mono ?_
                    rintro e w8 ⟨rfl,own4,x4,i4⟩
                    have hn:=LG3.out.ne
                    have V4:=LG3.out.iV.keep x4 (by omega)
                    have H2:=Lib.hid (mulW_o own4 w8 pV pV v0 V2 V2 ev 10 (LG3.out.env.ext x4) V4.loose ((x4.old pV LG3.out.iV.lt).trans LG3.out.oV) V4 (by omega) HLV.out hl.out.b2)
                    have I4:=Lib.hid i4
                    have X4:=Lib.hid x4
                    clear H1 i4 x4 V4 hn
                    go_wp2_with fail
                    refine H2.out.mono ?_
                    rintro e w9 ⟨rfl,own5,x5,i5⟩
                    have hn:=LG3.out.ne
                    have U5:=I4.out.keep x5 (by omega)
                    have H3:=Lib.hid (intAdd_l own5 w9 pU pU pV _ _ _ 11 ((LG3.out.env.ext X4.out).ext x5) U5 ((x5.old pU I4.out.lt).trans ((X4.out.old pU LG3.out.iU.lt).trans LG3.out.oU)) U5 i5 (by omega) (abs_if (abs_mul_lt hl.out.b0 HLU.out)) (abs_if (abs_mul_lt hl.out.b2 HLV.out)))
                    have X5:=Lib.hid x5
                    clear H2 i5 x5 U5 hn
                    go_wp2_with fail
                    refine H3.out.mono ?_
                    rintro e w10 ⟨rfl,own6,x6,i6⟩
                    have hn:=LG3.out.ne
                    have A6:=Lib.hid (((LG3.out.iA.keep X4.out (by omega)).keep X5.out (by omega)).keep x6 (by omega))
                    have oA4:=(X4.out.old pA LG3.out.iA.lt).trans LG3.out.oA
                    have oA5:=(X5.out.old pA (LG3.out.iA.keep X4.out (by omega)).lt).trans oA4
                    have OA6:=Lib.hid ((x6.old pA ((LG3.out.iA.keep X4.out (by omega)).keep X5.out (by omega)).lt).trans oA5)
                    have E6:=Lib.hid (((LG3.out.env.ext X4.out).ext X5.out).ext x6)
                    have gU:=(LG3.out.o pU (by simp)).2
                    have gV:=(LG3.out.o pV (by simp)).2
                    have X6:=Lib.hid (((LG3.out.ext.trans (X4.out.mono fun z hz=>by rw [hz];exact gU)).trans (X5.out.mono fun z hz=>by rw [hz];exact gV)).trans (x6.mono fun z hz=>by rw [hz];exact gU))
                    obtain ⟨bA,CA,c1,d1,f1⟩:=A6.out.one_c (HG.out.pos HB0.out) HAW.out
                    have I6:=Lib.hid i6
                    clear H3 i6 x6 hn oA4 oA5 gU gV
                    go_wp2_with fail
                    go_meet
                    case rel =>
                      have hf:=HY.out
                      have hE:=hl.out
                      rw [hf] at hE
                      obtain ⟨r1,W,r2,r3,r4⟩:=HG.out.last hE.c hE.x0 (hE.m.resolve_left (by have:=HBP.out;omega)).1 (hE.m.resolve_left (by have:=HBP.out;omega)).2
                      have hn:=LG3.out.ne
                      obtain ⟨own7,x7,i7⟩:=OwnSet.word (x:=x) E6.out.ok A6.out OA6.out (by have:=HG.out.pos HB0.out;omega) (by rw [Int.natAbs_natCast];exact HAW.out) hE.x0 hE.xb c1
                      have gA:=(LG3.out.o pA (by simp)).2
                      have gU:=(LG3.out.o pU (by simp)).2
                      have hsum:(if (!ev)=true then -((u0:Int)*U2) else (u0:Int)*U2)+(if ev=true then -((v0:Int)*V2) else (v0:Int)*V2)=W:=by
                        rw [r2]
                        cases ev <;> simp <;> omega
                      have hI6:=I6.out
                      rw [hsum] at hI6
                      refine ⟨pA,pU,rfl,rfl,own7,W,E6.out.ext x7,X6.out.trans (x7.mono fun z hz=>by rw [hz];exact gA),by rw [← r1];exact i7,hI6.keep x7 (by omega),r3,by rw [← r1];exact r4,gA,gU⟩
                  · have hyb:((y:Int) != 0)=true:=by simp;omega
                    have hyb':((y:Int) == 0)=false:=by simp;omega
                    have e8:(0:Int)<(y:Int):=by omega
                    have hst:=hl.out.step HAW.out HBW.out (by omega)
                    obtain ⟨qq,hqq⟩:∃ k,k=x/y:=⟨_,rfl⟩
                    obtain ⟨rr,hrr⟩:∃ k,k=x%y:=⟨_,rfl⟩
                    rw [← hqq,← hrr] at hst
                    have hyp:0<y:=by omega
                    have hrl:rr<y:=by rw [hrr];exact Nat.mod_lt _ hyp
                    have e1:(x:Int)/(y:Int)=(qq:Int):=by rw [hqq,Int.natCast_ediv]
                    have e2:(x:Int)%(y:Int)=(rr:Int):=by rw [hrr,Int.natCast_emod]
                    obtain ⟨m1,hm1⟩:∃ k,k=qq*u1:=⟨_,rfl⟩
                    obtain ⟨m2,hm2⟩:∃ k,k=qq*v1:=⟨_,rfl⟩
                    rw [← hm1,← hm2] at hst
                    have hu3:=hst.b1
                    have hv3:=hst.b3
                    have e3:IntKind.u64.wrap ((qq:Int)*(u1:Int))=(m1:Int):=by rw [← Int.natCast_mul,← hm1,IntKind.wrap_u64];rw [B64_eq] at hu3;omega
                    have e4:IntKind.u64.wrap ((qq:Int)*(v1:Int))=(m2:Int):=by rw [← Int.natCast_mul,← hm2,IntKind.wrap_u64];rw [B64_eq] at hv3;omega
                    obtain ⟨n1,hn1⟩:∃ k,k=u0+m1:=⟨_,rfl⟩
                    obtain ⟨n2,hn2⟩:∃ k,k=v0+m2:=⟨_,rfl⟩
                    rw [← hn1] at hst hu3
                    rw [← hn2] at hst hv3
                    have e5:IntKind.u64.wrap ((u0:Int)+(m1:Int))=(n1:Int):=by rw [IntKind.wrap_u64,hn1];rw [B64_eq] at hu3;omega
                    have e6:IntKind.u64.wrap ((v0:Int)+(m2:Int))=(n2:Int):=by rw [IntKind.wrap_u64,hn2];rw [B64_eq] at hv3;omega
                    have hqb:qq≤x:=by rw [hqq];exact Nat.div_le_self _ _
                    have q6:=hl.out.xb
                    have e9:IntKind.u64.wrap (qq:Int)=(qq:Int):=by rw [IntKind.wrap_u64];rw [B64_eq] at q6;omega
                    have HST2:=Lib.hid hst
                    have HE2:=Lib.hid e2
                    have HWR:=Lib.hid hw
                    clear hst hqq hrr hm1 hm2 hn1 hn2 hl hu3 hv3 hqb hw q6 hy
                    go_wp2_with fail
                    go_quiet (fail)
                    go_wp2_with fail
                    go_roundw
                    case rel=>exact ⟨y,rr,u1,n1,v1,n2,!ev,(by first | rfl | exact congrArg (Value.int .u64) HE2.out),(by first | rfl | exact congrArg (Value.int .u64) HE2.out),(by first | rfl | exact congrArg (Value.int .u64) HE2.out),(by first | rfl | exact congrArg (Value.int .u64) HE2.out),(by first | rfl | exact congrArg (Value.int .u64) HE2.out),(by first | rfl | exact congrArg (Value.int .u64) HE2.out),rfl,HST2.out,by obtain ⟨q3,h3⟩:=HWR.out.out;exact ⟨_,by rw [h3];exact (World.drewN_drewN _ _ _)⟩⟩
                    case measure=>first | (simp [intOf];done) | (simp [intOf];omega)
        case rest =>
          clear c1 c2 LG HLA HLB HLU HLV HBW HG n1
          obtain ⟨qA,qU,rfl,rfl,hend⟩:=hcut
          obtain ⟨own3,W,e3,x3,iA,iU,hW,hk,gA,gU⟩:=hend.out
          obtain ⟨w0a,w0b⟩:=H0.out.own 0 (by omega) rfl
          obtain ⟨_,w1b⟩:=H0.out.own 1 (by omega) rfl
          have hd:=H0.out.get 0 rfl rfl
          have hx:=H0.out.get 1 rfl rfl
          have ha:=H0.out.get 2 rfl rfl
          have hdl:=hd.lt
          have hxl:=hx.lt
          have hal:=ha.lt
          have hdx:=H0.out.ne 0 1 (by omega) rfl rfl
          have z2:=HBB.out
          rw [Int.natAbs_natCast] at z2
          have hgl:Nat.gcd a b≤b:=Nat.gcd_le_right _ HB0.out
          have H1:=Lib.hid (intSet_o own3 wc px qU _ W 9 e3 (hx.keep x3 (by omega)) ((x3.old px hxl).trans w1b) iU (by omega) (by omega) (by omega))
          obtain ⟨aa,na,ca,fa,hIa,_⟩:=(ha.keep x3 (by omega)).any
          have c0:=hIa.c0
          rw [decide_eq_false (by omega)] at c0
          have HX3:=Lib.hid x3
          have HE3:=Lib.hid e3
          have HK:=Lib.hid (And.intro hW (And.intro hk (And.intro gA gU)))
          have HA3:=Lib.hid iA
          have HD3:=Lib.hid (hd.keep x3 (by omega))
          have HOD:=Lib.hid ((x3.old pd hdl).trans w0b)
          have HL:=Lib.hid (And.intro hdl (And.intro hxl (And.intro hdx (show ((Nat.gcd a b:Nat):Int).natAbs<B64^9 by rw [Int.natAbs_natCast];omega))))
          clear hIa hend iA iU hW hk gA gU w0a w0b w1b hd hx ha hdl hxl hal hdx z2 hgl x3 e3
          go_wp2_with fail
          refine H1.out.mono ?_
          rintro e w8 ⟨rfl,own4,x4,i4⟩
          have hgA:=HK.out.2.2.1
          have hgU:=HK.out.2.2.2
          have hl:=HL.out
          have D4:=HD3.out.keep x4 hl.2.2.1
          have A4:=HA3.out.keep x4 (by omega)
          have H2:=Lib.hid (intSet_o own4 w8 pd qA _ _ 9 (HE3.out.ext x4) D4 ((x4.old pd HD3.out.lt).trans HOD.out) A4 (by omega) hl.2.2.2 (by omega))
          have X4:=Lib.hid x4
          have I4:=Lib.hid i4
          clear H1 x4 i4 D4 A4 hgA hgU hl c0
          go_wp2_with fail
          refine H2.out.mono ?_
          rintro e w9 ⟨rfl,own5,x5,i5⟩
          have HRES:=Lib.hid (show GcdRet own w pd px a b (.returned (.pointer (some ⟨pd,0,none⟩))) w9 from
            ⟨rfl,own5,W,(((HX3.out.fresh H0.out.env.ok _).trans (X4.out.mono fun z hz=>.inr hz)).trans (x5.mono fun z hz=>.inl hz)),i5,I4.out.keep x5 (fun h=>HL.out.2.2.1 h.symm),HK.out.1,HK.out.2.1⟩)
          clear H2 x5 i5
          go_wp2_with fail
          go_ret
          exact HRES.out
      · have hn2:2≤nB:=by
          rcases Nat.lt_or_ge nB 2 with h | h
          · have:B64^nB≤B64^1:=Nat.pow_le_pow_right B64_pos (by omega)
            rw [Nat.pow_one] at this
            omega
          · exact h
        have n1:(1:Int)<(nB:Int):=by omega
        have hBp:0<B:=by have:=B64_pos;omega
        have HS:=Lib.hid (lehSim_any pA pB nA cA nB cB A B _ _ fA fB aA aB wr (by have h:=hA;rw [Int.natAbs_natCast] at h;exact h) (by have h:=hB;rw [Int.natAbs_natCast] at h;exact h) hn2 g1.st.le (by omega))
        have HBW:=Lib.hid hBB
        have HG:=Lib.hid (And.intro g1 (And.intro g2 (And.intro g3 hBp)))
        clear hlg hg lg g1 g2 g3 hA hB hB' hnA hBB hn2 hBp c1
        go_wp2_with fail
        refine HS.out.mono ?_
        rintro e wy ⟨u0,u1,v0,v1,ev,rfl,b0,b1,b2,b3,hs,q,rfl⟩
        obtain ⟨own3,lg⟩:=LG.out.still ((Mod.refl NoP wr).drewN q)
        by_cases hv:v0=0
        · subst hv
          have HEU:=Lib.hid (euclid_o own3 (wr.drewN q) pA pB pU pV pq pr A B U2 V2 kq kr lg.env lg.iA lg.iB lg.iU lg.iV lg.iq lg.ir lg.oU lg.oq lg.or (by have:=lg.ne;omega) (by have:=lg.ne;omega) (by have:=lg.ne;omega) (by have:=lg.ne;omega) (by have:=lg.ne;omega) (by have:=lg.ne;omega) (by have:=lg.ne;omega) (by have:=lg.ne;omega) (by have:=lg.ne;omega) (by have:=lg.ne;omega)
            HG.out.2.2.2 HLA.out HLB.out HLU.out HLV.out (fun h=>absurd h HBW.out) _ rfl)
          have LG3:=Lib.hid lg
          clear lg hs n1 c2 b0 b1 b2 b3 HS
          go_wp2_with fail
          refine HEU.out.mono ?_
          rintro e wz he
          obtain ⟨rfl,_⟩:=id he
          obtain ⟨own4,kq4,lg4⟩:=LG3.out.euc he
          have LG4:=Lib.hid lg4
          clear he lg4 HEU
          go_wp2_with fail
          go_roundg (B+A%B)
          case measure=>have:=HG.out.2.2.1;have:=Nat.mod_lt A HG.out.2.2.2;have:=HG.out.1.st.le;omega
          case rel =>
            have:=HG.out.2.1
            have:=Nat.mod_lt A HG.out.2.2.2
            have:=HG.out.1.st.le
            exact ⟨own4,pB,pr,pV,pU,pA,B,A%B,V2,_,rfl,rfl,rfl,rfl,rfl,⟨kq4,_,LG4.out⟩,HG.out.1.euclid HG.out.2.2.2,by omega,Nat.le_refl _⟩
        · obtain ⟨x,y,S,hSim,s1,s2,s3,s4⟩:=hs.resolve_left hv
          obtain ⟨A',B',hA',hB',hBp',g',hlt⟩:=HG.out.1.lehmer hSim s1 s2 s3 s4 hv HG.out.2.2.2
          obtain ⟨U',hU'⟩:∃ x,x=(if ev then (1:Int) else -1)*(u0*U2 - v0*V2):=⟨_,rfl⟩
          obtain ⟨V',hV'⟩:∃ x,x=(if ev then (1:Int) else -1)*(v1*V2 - u1*U2):=⟨_,rfl⟩
          rw [← hU',← hV'] at g'
          have hn:=lg.ne
          have HUP:=Lib.hid (lehUpd_o own3 (wr.drewN q) pA pB pq pr u0 u1 v0 v1 ev A B kq kr A' B' 10 hA' hB' lg.env lg.iA lg.iB lg.iq lg.ir lg.oA lg.oB lg.oq lg.or (by omega) (by omega) (by omega) (by omega) (by omega) (by omega) (by omega) (by rw [Int.natAbs_natCast];exact HLA.out) (by rw [Int.natAbs_natCast];exact HLB.out) b0 b1 b2 b3)
          have hvb:((v0:Int) != 0)=true:=by simp;omega
          have hvb':((v0:Int) == 0)=false:=by simp;omega
          have hvn:¬ (v0:Int)=0:=by omega
          have LG3:=Lib.hid lg
          have HUV:=Lib.hid (And.intro hU' hV')
          have HGN:=Lib.hid (And.intro g' (And.intro hlt hBp'))
          have HBN:=Lib.hid (And.intro b0 (And.intro b1 (And.intro b2 b3)))
          clear lg hs n1 c2 b0 b1 b2 b3 HS hSim s1 s2 s3 s4 hA' hB' g' hlt hU' hV' hBp' hn
          go_wp2_with fail
          refine HUP.out.mono ?_
          rintro e wz he
          obtain ⟨rfl,_⟩:=id he
          obtain ⟨own4,kq4,kr4,lg4⟩:=LG3.out.updA he
          have hn:=lg4.ne
          have HUP2:=Lib.hid (lehUpd_o own4 wz pU pV pq pr u0 u1 v0 v1 ev U2 V2 kq4 kr4 U' V' 10 HUV.out.1 HUV.out.2 lg4.env lg4.iU lg4.iV lg4.iq lg4.ir lg4.oU lg4.oV lg4.oq lg4.or (by omega) (by omega) (by omega) (by omega) (by omega) (by omega) (by omega) HLU.out HLV.out HBN.out.1 HBN.out.2.1 HBN.out.2.2.1 HBN.out.2.2.2)
          have LG4:=Lib.hid lg4
          clear he lg4 HUP hn
          go_wp2_with fail
          refine HUP2.out.mono ?_
          rintro e wz2 he
          obtain ⟨rfl,_⟩:=id he
          obtain ⟨own5,kq5,kr5,lg5⟩:=LG4.out.updU he
          have LG5:=Lib.hid lg5
          clear he lg5 HUP2
          go_wp2_with fail
          go_roundg (A'+B')
          case measure=>have:=HG.out.2.2.1;have:=HGN.out.2.1;omega
          case rel =>
            have:=HG.out.2.1
            have:=HGN.out.2.1
            exact ⟨own5,pA,pB,pU,pV,pr,A',B',U',V',rfl,rfl,rfl,rfl,rfl,⟨kq5,kr5,LG5.out⟩,HGN.out.1,by omega,Nat.le_refl _⟩
end Go.Proofs.YtpfmbfkhjapbbaaGreatDoor
