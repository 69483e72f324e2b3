/-
  GCD, ModInverse over the ghost map of owners. Conditions: positive numbers of at most 9 words; GCD: extended in x alone; ModInverse: g and n coprime, 1 < n, the three Ints apart.
  The function literals of sswu3mod4Map over the ghost map of owners: sums, products, squares, powers modulo p, the parity, a choice. Conditions: numbers of at most 9 words, p of 2 to 9 words; the Int that is set is not p's.
  What stands while sswu3mod4Map runs: the Ints that it sets and their numbers, those that it reads, the cells that nobody owns; each step's law. No condition; no program's text in sight but the function literals' contracts.
-/
import Derived.Test.YtpfmbfkhjapbbaaGreatDoorMg01
import Derived.Test.YtpfmbfkhjapbbaaGreatDoorMInts4
import Derived.Test.YtpfmbfkhjapbbaaGreatDoorMg20
import Derived.Test.YtpfmbfkhjapbbaaGreatDoorMLg1
set_option linter.unusedVariables false
set_option linter.unusedSimpArgs false
namespace Go.Proofs.YtpfmbfkhjapbbaaGreatDoor
section
open Go Go.RowKit
theorem IntO.pos_c {own:Nat→Option Nat} {w:World} {p v:Nat} (h:IntO own w p (v:Int)) (h0:0<v):∃ a n c,1≤n∧w.cell? ⟨p,1,none⟩=some (.slice a n c):=by
  obtain ⟨a,n,c,f,hI,_⟩:=h.any
  have hl:=hI.num.lt
  rw [Int.natAbs_natCast] at hl
  refine ⟨a,n,c,?_,hI.c1⟩
  rcases Nat.eq_zero_or_pos n with h | h
  · rw [h,Nat.pow_zero] at hl;omega
  · exact h
theorem IntO.c0 {own:Nat→Option Nat} {w:World} {p:Nat} {i:Int} (h:IntO own w p i):w.cell? ⟨p,0,none⟩=some (.bool (decide (i<0))):=by
  obtain ⟨a,n,c,f,hI,_⟩:=h.any
  exact hI.c0
set_option maxRecDepth 100000 in
set_option maxHeartbeats 4000000 in
theorem gcd_o (own:Nat→Option Nat) (w:World) (pd px pa pb a b:Nat) (kd kx:Int) (h:OSt own w 2 [pd,px,pa,pb] [kd,kx,(a:Int),(b:Int)]) (ha0:0<a) (hb0:0<b) (ba:a<B64^9) (bb:b<B64^9) :
    Calls Tryz.prog 119 #[.pointer (some ⟨pd,0,none⟩),.pointer (some ⟨px,0,none⟩),.pointer none,.pointer (some ⟨pa,0,none⟩),.pointer (some ⟨pb,0,none⟩)] w (GcdRet own w pd px a b):=by
  have H1:=Lib.hid (lehGcd_o own w pd px pa pb a b kd kx h ha0 hb0 ba bb)
  obtain ⟨xa,na,ca,hna,c1⟩:=(h.get 2 rfl rfl).pos_c ha0
  obtain ⟨xb,nb,cb,hnb,c2⟩:=(h.get 3 rfl rfl).pos_c hb0
  have e1:((na:Int) == 0)=false:=by simp;omega
  have e2:((nb:Int) == 0)=false:=by simp;omega
  have e3:¬ (na:Int)=0:=by omega
  have e4:¬ (nb:Int)=0:=by omega
  have e5:¬ na=0:=by omega
  have e6:¬ nb=0:=by omega
  clear h ha0 hb0 ba bb hna hnb
  go_enter Tryz.func119,Tryz.ntmps119
  go_wp2_with fail
  refine H1.out.mono ?_
  rintro e w1 hr
  obtain ⟨rfl,_⟩:=id hr
  have HR:=Lib.hid hr
  clear hr c1 c2 H1
  go_wp2_with fail
  go_ret
  exact HR.out
theorem OSt.nil {own:Nat→Option Nat} {w:World} (E:OEnv own w):OSt own w 0 [] [] :=
  ⟨E,E.ok,rfl,fun j p i h=>by simp at h,fun j p h=>absurd h (Nat.not_lt_zero j),fun i j p h=>by simp at h⟩
theorem OSt.consW {own:Nat→Option Nat} {w:World} {K p:Nat} {i:Int} {P:List Nat} {V:List Int} (h:OSt own w K P V) (hi:IntO own w p i) (ho:own p=some p) (hn:p ∉ P):OSt own w (K+1) (p :: P) (i :: V):=by
  refine ⟨h.env,h.env.ok,by simp [h.st.len],fun j q x hq hx => ?_,fun j q hj hq => ?_,fun a b q ha hb => ?_⟩
  · cases j with
    | zero=>simp at hq hx;subst hq hx;exact hi
    | succ j=>simp at hq hx;exact h.st.ints j q x hq hx
  · cases j with
    | zero=>simp at hq;subst hq;exact ho
    | succ j=>simp at hq;exact h.st.wr j q (by omega) hq
  · cases a with
    | zero =>
      cases b with
      | zero=>rfl
      | succ b=>simp at ha hb;subst ha;exact absurd (List.mem_of_getElem? hb) hn
    | succ a =>
      cases b with
      | zero=>simp at ha hb;subst hb;exact absurd (List.mem_of_getElem? ha) hn
      | succ b=>simp at ha hb;rw [h.st.inj a b q ha hb]
theorem OSt.consR {own:Nat→Option Nat} {w:World} {p:Nat} {i:Int} {P:List Nat} {V:List Int} (h:OSt own w 0 P V) (hi:IntO own w p i) (hn:p ∉ P):OSt own w 0 (p :: P) (i :: V):=by
  refine ⟨h.env,h.env.ok,by simp [h.st.len],fun j q x hq hx => ?_,fun j q hj hq=>absurd hj (Nat.not_lt_zero j),fun a b q ha hb => ?_⟩
  · cases j with
    | zero=>simp at hq hx;subst hq hx;exact hi
    | succ j=>simp at hq hx;exact h.st.ints j q x hq hx
  · cases a with
    | zero =>
      cases b with
      | zero=>rfl
      | succ b=>simp at ha hb;subst ha;exact absurd (List.mem_of_getElem? hb) hn
    | succ a =>
      cases b with
      | zero=>simp at ha hb;subst hb;exact absurd (List.mem_of_getElem? ha) hn
      | succ b=>simp at ha hb;rw [h.st.inj a b q ha hb]
theorem inv_of {g n:Nat} {W k:Int} (hn:1<n) (h:W*g=(1:Nat)+k*n) (hW:W.natAbs≤n):∃ i:Nat,i<n∧i*g%n=1∧(W<0→W+n=i)∧(¬ W<0→W=i):=by
  have key:∀ (i:Nat) (k:Int),(i:Int)*g=1+k*n→i≤n→i<n∧i*g%n=1:=by
    intro i k hk hi
    have h1:((i*g:Nat):Int)%n=1:=by
      rw [Int.natCast_mul,hk,Int.add_mul_emod_self_right]
      exact Int.emod_eq_of_lt (by omega) (by omega)
    have h2:i*g%n=1:=by exact_mod_cast h1
    refine ⟨?_,h2⟩
    rcases Nat.lt_or_ge i n with h | h
    · exact h
    · obtain rfl:i=n:=by omega
      rw [Nat.mul_mod_right] at h2
      omega
  by_cases h0:W<0
  · obtain ⟨i,hi⟩:∃ i:Nat,W+n=i:=⟨(W+n).toNat,by omega⟩
    obtain ⟨h1,h2⟩:=key i (k+g) (by
      rw [← hi,Int.add_mul,h,Int.add_mul]
      have:(n:Int)*g=g*n:=Int.mul_comm _ _
      omega) (by omega)
    exact ⟨i,h1,h2,fun _=>hi,fun h=>absurd h0 h⟩
  · obtain ⟨i,hi⟩:∃ i:Nat,W=i:=⟨W.toNat,by omega⟩
    obtain ⟨h1,h2⟩:=key i k (by rw [← hi,h];rfl) (by omega)
    exact ⟨i,h1,h2,fun h=>absurd h h0,fun _=>hi⟩
set_option maxRecDepth 100000 in
set_option maxHeartbeats 4000000 in
theorem modInv_o (own:Nat→Option Nat) (w:World) (pz pg pn g n:Nat) (k:Int) (h:OSt own w 1 [pz,pg,pn] [k,(g:Int),(n:Int)]) (hg0:0<g) (hn1:1<n) (hco:Nat.gcd g n=1) (bg:g<B64^9) (bn:n<B64^9) :
    Calls Tryz.prog 106 #[.pointer (some ⟨pz,0,none⟩),.pointer (some ⟨pg,0,none⟩),.pointer (some ⟨pn,0,none⟩)] w fun e w'=>∃ i:Nat,i<n∧i*g%n=1∧OwnRet own w pz (i:Int) e w':=by
  have c1:=(h.get 1 rfl rfl).c0
  have c2:=(h.get 2 rfl rfl).c0
  rw [decide_eq_false (by omega)] at c1 c2
  obtain ⟨own1,s1⟩:=(BSt.start h).new
  obtain ⟨own2,s2⟩:=s1.new
  have hl:(w.alloc (.cells #[.bool false,.slice none 0 0] 51 (0,0))).heap.size=w.heap.size+1:=by simp
  rw [hl] at s2
  have hG:OSt own2 ((w.alloc (.cells #[.bool false,.slice none 0 0] 51 (0,0))).alloc (.cells #[.bool false,.slice none 0 0] 51 (0,0))) 2 [w.heap.size,w.heap.size+1,pg,pn] [0,0,(g:Int),(n:Int)]:=by
    have n1:=s2.st.ne 1 0 (by omega) rfl rfl
    have n2:=s2.st.ne 1 3 (by omega) rfl rfl
    have n3:=s2.st.ne 1 4 (by omega) rfl rfl
    have n4:=s2.st.ne 0 3 (by omega) rfl rfl
    have n5:=s2.st.ne 0 4 (by omega) rfl rfl
    have n6:=s2.st.ne 3 4 (by omega) rfl rfl
    refine ((((OSt.nil s2.st.env).consR (s2.st.get 4 rfl rfl) (by simp)).consR (s2.st.get 3 rfl rfl) (by simp;exact n6)).consW (s2.st.get 0 rfl rfl) (s2.st.own 0 (by omega) rfl).2 (by simp;exact ⟨n4,n5⟩)).consW (s2.st.get 1 rfl rfl) (s2.st.own 1 (by omega) rfl).2 (by simp;exact ⟨n2,n3⟩)
  have H1:=Lib.hid (gcd_o own2 _ w.heap.size (w.heap.size+1) pg pn g n 0 0 hG hg0 (by omega) bg bn)
  have S2:=Lib.hid s2
  have H0:=Lib.hid h
  have HC:=Lib.hid (And.intro hn1 (And.intro hco (And.intro bg bn)))
  clear h s1 s2 hG hl hg0 hn1 hco bg bn
  go_enter Tryz.func106,Tryz.ntmps106
  go_wp2_with fail
  refine H1.out.mono ?_
  rintro e w3 ⟨rfl,own3,W,x3,i1,i2,hW,k3,hk⟩
  rw [HC.out.2.1] at i1 hk
  have X3:=Lib.hid (S2.out.ext.trans (x3.mono fun z hz=>by rcases hz with rfl | rfl <;> omega))
  have E3:=Lib.hid (S2.out.st.env.ext x3)
  have m1:=S2.out.st.ne 2 0 (by omega) rfl rfl
  have m2:=S2.out.st.ne 2 1 (by omega) rfl rfl
  have m3:=S2.out.st.ne 4 0 (by omega) rfl rfl
  have m4:=S2.out.st.ne 4 1 (by omega) rfl rfl
  have Z3:=Lib.hid ((S2.out.st.get 2 rfl rfl).keep x3 (by omega))
  have N3:=Lib.hid ((S2.out.st.get 4 rfl rfl).keep x3 (by omega))
  have OZ3:=Lib.hid ((x3.old pz (S2.out.st.get 2 rfl rfl).lt).trans (S2.out.st.own 2 (by omega) rfl).2)
  have HW:=Lib.hid (And.intro hW hk)
  have I1:=Lib.hid i1
  have I2:=Lib.hid i2
  have HM:=Lib.hid (And.intro m1 (And.intro m2 (And.intro m3 m4)))
  have HONE:=Lib.hid (intOne_any w3)
  clear x3 i1 i2 hW hk m1 m2 m3 m4 H1 c2
  go_wp2_with fail
  refine HONE.out.mono ?_
  rintro e w4 ⟨po,a,no,co,fo,rfl,hI,m,hp,ha⟩
  obtain ⟨own4,x4,s4⟩:=(OSt.nil E3.out).push m hI hp ha
  obtain ⟨xa,na,ca,fa,hA,_⟩:=(I1.out.keep x4 id).any
  have hpo:w.heap.size≠po:=by have:=I1.out.lt;omega
  have hna:=hA.words_le (m:=1) (by decide)
  have hno:=hI.words_le (m:=1) (by decide)
  have HCMP:=Lib.hid (intCmp_any w.heap.size po na ca no co _ _ xa a fa fo w4 hA hI (by omega) (by omega) hpo)
  have X4:=Lib.hid x4
  have E4:=Lib.hid s4.env
  clear hI m hp ha x4 s4 hA hpo hna hno HONE
  go_wp2_with fail
  refine HCMP.out.mono ?_
  rintro e w5 ⟨rfl,q,rfl⟩
  obtain ⟨own5,x5,s5⟩:=(OSt.nil E4.out).still ((Mod.refl NoP w4).drewN q)
  have c2:=((I2.out.keep X4.out id).keep x5 id).c0
  have I5:=Lib.hid ((I2.out.keep X4.out id).keep x5 id)
  have Z5:=Lib.hid ((Z3.out.keep X4.out id).keep x5 id)
  have N5:=Lib.hid ((N3.out.keep X4.out id).keep x5 id)
  have OZ5:=Lib.hid ((x5.old pz (Z3.out.keep X4.out id).lt).trans ((X4.out.old pz Z3.out.lt).trans OZ3.out))
  have X5:=Lib.hid ((X3.out.trans (X4.out.mono fun z hz=>hz.elim)).trans (x5.mono fun z hz=>hz.elim))
  have E5:=Lib.hid s5.env
  clear x5 s5 HCMP
  have hcc:cmpV (((1:Nat):Int).natAbs) ((1:Int).natAbs)=0:=by decide
  rw [hcc]
  obtain ⟨i,hi1,hi2,hi3,hi4⟩:=inv_of HC.out.1 HW.out.2 HW.out.1
  have HI:=Lib.hid (And.intro hi1 hi2)
  by_cases hneg:W<0
  · have hd:decide (W<0)=true:=decide_eq_true hneg
    have HADD:=Lib.hid (intAdd_o own5 _ pz (w.heap.size+1) pn _ W n 9 E5.out Z5.out OZ5.out I5.out N5.out (by omega) (by have:=HC.out.2.2.2;have:=HW.out.1;omega) (by have:=HC.out.2.2.2;rw [Int.natAbs_natCast];exact this))
    have HV:=Lib.hid (hi3 hneg)
    rw [hd] at c2
    clear hcc hi1 hi2 hi3 hi4 hd hneg
    go_wp2_with fail
    refine HADD.out.mono ?_
    rintro e w6 ⟨rfl,own6,x6,i6⟩
    have RES:=Lib.hid (show ∃ i:Nat,i<n∧i*g%n=1∧OwnRet own w pz (i:Int) (.returned (.pointer (some ⟨pz,0,none⟩))) w6 from
      ⟨i,HI.out.1,HI.out.2,rfl,own6,(X5.out.fresh H0.out.env.ok _).trans x6,by rw [← HV.out];exact i6⟩)
    clear x6 i6 HADD c2
    go_wp2_with fail
    go_ret
    exact RES.out
  · have hd:decide (W<0)=false:=decide_eq_false hneg
    have HSET:=Lib.hid (intSet_o own5 _ pz (w.heap.size+1) _ W 9 E5.out Z5.out OZ5.out I5.out (by omega) (by have:=HC.out.2.2.2;have:=HW.out.1;omega) HM.out.1)
    have HV:=Lib.hid (hi4 hneg)
    rw [hd] at c2
    clear hcc hi1 hi2 hi3 hi4 hd hneg
    go_wp2_with fail
    refine HSET.out.mono ?_
    rintro e w6 ⟨rfl,own6,x6,i6⟩
    have RES:=Lib.hid (show ∃ i:Nat,i<n∧i*g%n=1∧OwnRet own w pz (i:Int) (.returned (.pointer (some ⟨pz,0,none⟩))) w6 from
      ⟨i,HI.out.1,HI.out.2,rfl,own6,(X5.out.fresh H0.out.env.ok _).trans x6,by rw [← HV.out];exact i6⟩)
    clear x6 i6 HSET c2
    go_wp2_with fail
    go_ret
    exact RES.out
end
section
open Go Go.RowKit
theorem Ext.still {Z:Nat→Prop} {own:Nat→Option Nat} {w w':World} (h:OwnOk own w) (m:Mod NoP w w'):∃ own',Ext Z own own' w w'∧∀ k,w.heap.size≤k→own' k=none:=by
  refine ⟨fun k=>if k<w.heap.size then own k else none,⟨fun k hk=>if_pos hk,m.of_none,fun k z hk hz => ?_⟩,fun k hk=>if_neg (by omega)⟩
  by_cases hl:k<w.heap.size
  · exact Nat.lt_of_lt_of_le (h k z hl ((if_pos hl).symm.trans hz)) m.size
  · have hz':none=some z:=(if_neg hl).symm.trans hz
    cases hz'
theorem IntO.uniq {own:Nat→Option Nat} {w:World} {p:Nat} {i j:Int} (h:IntO own w p i) (k:IntO own w p j):i=j:=by
  obtain ⟨a,n,c,f,hI,_⟩:=h
  obtain ⟨a',n',c',f',hJ,_⟩:=k
  have e:=hI.cells.symm.trans hJ.cells
  injection e with e
  injection e with e _ _
  have e0:=congrArg (fun x=>x[0]?) e
  have e1:=congrArg (fun x=>x[1]?) e
  simp at e0 e1
  obtain ⟨rfl,h2,h3⟩:=e1
  obtain rfl:n=n':=by exact_mod_cast h2
  obtain rfl:c=c':=by exact_mod_cast h3
  have hv:i.natAbs=j.natAbs:=by
    rw [← hI.num.val,← hJ.num.val]
    refine val_congr fun q hq => ?_
    have hc:=hI.num.le
    obtain ⟨b,rfl⟩:=hI.num.arr.form (by omega)
    have g1:=(hI.num.arr.vec q (by omega)).1
    have g2:=(hJ.num.arr.vec q (by omega)).1
    rw [g1] at g2
    simp at g2
    exact_mod_cast g2
  have hs:(i<0) ↔ (j<0):=by simpa using e0
  omega
structure Opd (own:Nat→Option Nat) (w:World) (bp pp p:Nat):Prop where
  env:OEnv own w
  int:IntO own w pp (p:Int)
  cap:Cap own w bp 0 (.pointer (some ⟨pp,0,none⟩))
  big:B64≤p
  lt:p<B64^9
theorem Opd.keep {own own':Nat→Option Nat} {w w':World} {bp pp p:Nat} {Z:Nat→Prop} (h:Opd own w bp pp p) (x:Ext Z own own' w w') (hz:¬ Z pp):Opd own' w' bp pp p :=
  ⟨h.env.ext x,h.int.keep x hz,h.cap.ext x,h.big,h.lt⟩
theorem modSet (own:Nat→Option Nat) (w:World) (bp pp p pz:Nat) (i:Int) (O:Opd own w bp pp p) (oz:own pz=some pz) (hzl:pz<w.heap.size) (d:pz≠pp) (bi:i.natAbs<B64^30) (w1:World) (h:OwnSet own w pz i w1) :
    Calls Tryz.prog 95 #[.pointer (some ⟨pz,0,none⟩),.pointer (some ⟨pz,0,none⟩),.pointer (some ⟨pp,0,none⟩)] w1 fun e w'=>e=.returned (.pointer (some ⟨pz,0,none⟩))∧OwnSet own w pz (i%(p:Int)) w':=by
  obtain ⟨own1,x1,i1⟩:=h
  have O1:=O.keep x1 (fun e=>d e.symm)
  have hp0:(0:Int)<p:=by have:=O.big;have:=B64_pos;omega
  refine (intMod_o own1 w1 pz pz pp i i p O1.env i1 ((x1.old pz hzl).trans oz) i1 O1.int hp0 d bi ?_ ?_).mono ?_
  · rw [Int.natAbs_natCast]
    exact Nat.lt_of_lt_of_le O.lt (Nat.pow_le_pow_right B64_pos (by omega))
  · rw [Int.natAbs_natCast];exact O.big
  · rintro e w2 ⟨rfl,h2⟩
    exact ⟨rfl,OwnSet.trans x1 h2⟩
theorem prod_bound {i j:Int} (bi:i.natAbs<B64^9) (bj:j.natAbs<B64^9):(i*j).natAbs<B64^30:=by
  rw [Int.natAbs_mul]
  have h1:i.natAbs*j.natAbs≤B64^9*j.natAbs:=Nat.mul_le_mul_right _ (Nat.le_of_lt bi)
  have h2:B64^9*j.natAbs<B64^9*B64^9:=Nat.mul_lt_mul_of_pos_left bj (pow_pos 9)
  rw [← Nat.pow_add] at h2
  have h3:B64^(9+9)≤B64^30:=Nat.pow_le_pow_right B64_pos (by omega)
  omega
theorem sum_bound {i j:Int} (bi:i.natAbs<B64^9) (bj:j.natAbs<B64^9):(i+j).natAbs<B64^30:=by
  have h3:B64^9*B64≤B64^30:=by rw [← Nat.pow_succ];exact Nat.pow_le_pow_right B64_pos (by omega)
  have h4:B64^9*2≤B64^9*B64:=Nat.mul_le_mul_left _ (by decide)
  omega
theorem mulStep (own:Nat→Option Nat) (w:World) (pz px py:Nat) (k i j:Int) (E:OEnv own w) (hz:IntO own w pz k) (oz:own pz=some pz) (hx:IntO own w px i) (hy:IntO own w py j) (bi:i.natAbs<B64^9) (bj:j.natAbs<B64^9) (w1:World) (m:Mod NoP w w1) :
    Calls Tryz.prog 97 #[.pointer (some ⟨pz,0,none⟩),.pointer (some ⟨px,0,none⟩),.pointer (some ⟨py,0,none⟩)] w1 fun e w'=>e=.returned (.pointer (some ⟨pz,0,none⟩))∧OwnSet own w pz (i*j) w':=by
  obtain ⟨own1,x1⟩:=Ext.quiet (Z:=fun _=>False) E.ok m
  have b9:∀ x:Nat,x<B64^9→x<B64^11:=fun x h=>Nat.lt_of_lt_of_le h (Nat.pow_le_pow_right B64_pos (by omega))
  refine (intMul_o own1 w1 pz px py k i j (E.ext x1) (hz.keep x1 id) ((x1.old pz hz.lt).trans oz) (hx.keep x1 id) (hy.keep x1 id) (b9 _ bi) (b9 _ bj) (fun e=>by subst e;exact hx.uniq hy)).mono ?_
  rintro e w2 ⟨rfl,h2⟩
  exact ⟨rfl,OwnSet.trans (x1.mono fun z hz=>hz.elim) h2⟩
theorem addStep (own:Nat→Option Nat) (w:World) (pz px py:Nat) (k i j:Int) (E:OEnv own w) (hz:IntO own w pz k) (oz:own pz=some pz) (hx:IntO own w px i) (hy:IntO own w py j) (bi:i.natAbs<B64^9) (bj:j.natAbs<B64^9) (w1:World) (m:Mod NoP w w1) :
    Calls Tryz.prog 94 #[.pointer (some ⟨pz,0,none⟩),.pointer (some ⟨px,0,none⟩),.pointer (some ⟨py,0,none⟩)] w1 fun e w'=>e=.returned (.pointer (some ⟨pz,0,none⟩))∧OwnSet own w pz (i+j) w':=by
  obtain ⟨own1,x1⟩:=Ext.quiet (Z:=fun _=>False) E.ok m
  refine (intAdd_o own1 w1 pz px py k i j 9 (E.ext x1) (hz.keep x1 id) ((x1.old pz hz.lt).trans oz) (hx.keep x1 id) (hy.keep x1 id) (by omega) bi bj).mono ?_
  rintro e w2 ⟨rfl,h2⟩
  exact ⟨rfl,OwnSet.trans (x1.mono fun z hz=>hz.elim) h2⟩
def CloRet (own:Nat→Option Nat) (w:World) (z:Nat) (i:Int) (e:Ending) (w':World):Prop:=e=.returned (.tuple #[])∧OwnSet own w z i w'
set_option maxRecDepth 100000 in
set_option maxHeartbeats 1000000 in
theorem cloMul (own:Nat→Option Nat) (w:World) (bp pp p pz px py:Nat) (k i j:Int) (O:Opd own w bp pp p) (hz:IntO own w pz k) (oz:own pz=some pz) (hx:IntO own w px i) (hy:IntO own w py j) (d:pz≠pp) (bi:i.natAbs<B64^9) (bj:j.natAbs<B64^9) :
    Calls Tryz.prog 96 #[.pointer (some ⟨pz,0,none⟩),.pointer (some ⟨px,0,none⟩),.pointer (some ⟨py,0,none⟩),.pointer (some ⟨bp,0,none⟩)] w (CloRet own w pz (i*j%(p:Int))):=by
  have H1:=Lib.hid (mulStep own w pz px py k i j O.env hz oz hx hy bi bj)
  have H2:=Lib.hid (modSet own w bp pp p pz (i*j) O oz hz.lt d (prod_bound bi bj))
  have c0:=O.cap.cell
  have HC:=Lib.hid (fun w1 (h:OwnSet own w pz (i*j) w1)=>(by obtain ⟨own1,x1,_⟩:=h;exact (O.cap.ext x1).cell:w1.cell? ⟨bp,0,none⟩=some (.pointer (some ⟨pp,0,none⟩))))
  clear O hz oz hx hy bi bj
  go_enter Tryz.func96,Tryz.ntmps96
  go_region_with (first | (go_at_call 97;refine (H1.out _ ?_).mono ?_;((first | exact (Mod.refl NoP w).drew | exact (Mod.refl NoP w).drewN _));rintro e w1 ⟨rfl,s1⟩;have c1:=HC.out w1 s1;have S1:=Lib.hid s1;clear s1) | (go_at_call 95;refine (H2.out _ S1.out).mono ?_;rintro e w2 ⟨rfl,s2⟩;have S2:=Lib.hid s2;clear s2))
  all_goals (go_wp2_with fail)
  all_goals (go_end0;exact ⟨rfl,S2.out⟩)
set_option maxRecDepth 100000 in
set_option maxHeartbeats 1000000 in
theorem cloSqr (own:Nat→Option Nat) (w:World) (bp pp p pz px:Nat) (k i:Int) (O:Opd own w bp pp p) (hz:IntO own w pz k) (oz:own pz=some pz) (hx:IntO own w px i) (d:pz≠pp) (bi:i.natAbs<B64^9) :
    Calls Tryz.prog 98 #[.pointer (some ⟨pz,0,none⟩),.pointer (some ⟨px,0,none⟩),.pointer (some ⟨bp,0,none⟩)] w (CloRet own w pz (i*i%(p:Int))):=by
  have H1:=Lib.hid (mulStep own w pz px px k i i O.env hz oz hx hx bi bi)
  have H2:=Lib.hid (modSet own w bp pp p pz (i*i) O oz hz.lt d (prod_bound bi bi))
  have c0:=O.cap.cell
  have HC:=Lib.hid (fun w1 (h:OwnSet own w pz (i*i) w1)=>(by obtain ⟨own1,x1,_⟩:=h;exact (O.cap.ext x1).cell:w1.cell? ⟨bp,0,none⟩=some (.pointer (some ⟨pp,0,none⟩))))
  clear O hz oz hx bi
  go_enter Tryz.func98,Tryz.ntmps98
  go_region_with (first | (go_at_call 97;refine (H1.out _ ?_).mono ?_;((first | exact (Mod.refl NoP w).drew | exact (Mod.refl NoP w).drewN _));rintro e w1 ⟨rfl,s1⟩;have c1:=HC.out w1 s1;have S1:=Lib.hid s1;clear s1) | (go_at_call 95;refine (H2.out _ S1.out).mono ?_;rintro e w2 ⟨rfl,s2⟩;have S2:=Lib.hid s2;clear s2))
  all_goals (go_wp2_with fail)
  all_goals (go_end0;exact ⟨rfl,S2.out⟩)
set_option maxRecDepth 100000 in
set_option maxHeartbeats 1000000 in
theorem cloAdd (own:Nat→Option Nat) (w:World) (bp pp p pz px py:Nat) (k i j:Int) (O:Opd own w bp pp p) (hz:IntO own w pz k) (oz:own pz=some pz) (hx:IntO own w px i) (hy:IntO own w py j) (d:pz≠pp) (bi:i.natAbs<B64^9) (bj:j.natAbs<B64^9) :
    Calls Tryz.prog 93 #[.pointer (some ⟨pz,0,none⟩),.pointer (some ⟨px,0,none⟩),.pointer (some ⟨py,0,none⟩),.pointer (some ⟨bp,0,none⟩)] w (CloRet own w pz ((i+j)%(p:Int))):=by
  have H1:=Lib.hid (addStep own w pz px py k i j O.env hz oz hx hy bi bj)
  have H2:=Lib.hid (modSet own w bp pp p pz (i+j) O oz hz.lt d (sum_bound bi bj))
  have c0:=O.cap.cell
  have HC:=Lib.hid (fun w1 (h:OwnSet own w pz (i+j) w1)=>(by obtain ⟨own1,x1,_⟩:=h;exact (O.cap.ext x1).cell:w1.cell? ⟨bp,0,none⟩=some (.pointer (some ⟨pp,0,none⟩))))
  clear O hz oz hx hy bi bj
  go_enter Tryz.func93,Tryz.ntmps93
  go_region_with (first | (go_at_call 94;refine (H1.out _ ?_).mono ?_;((first | exact (Mod.refl NoP w).drew | exact (Mod.refl NoP w).drewN _));rintro e w1 ⟨rfl,s1⟩;have c1:=HC.out w1 s1;have S1:=Lib.hid s1;clear s1) | (go_at_call 95;refine (H2.out _ S1.out).mono ?_;rintro e w2 ⟨rfl,s2⟩;have S2:=Lib.hid s2;clear s2))
  all_goals (go_wp2_with fail)
  all_goals (go_end0;exact ⟨rfl,S2.out⟩)
set_option maxRecDepth 100000 in
set_option maxHeartbeats 1000000 in
theorem cloExp (own:Nat→Option Nat) (w:World) (bp pp p pz px py:Nat) (k:Int) (x y:Nat) (O:Opd own w bp pp p) (hz:IntO own w pz k) (oz:own pz=some pz) (hx:IntO own w px (x:Int)) (hy:IntO own w py (y:Int)) (d1:pz≠px) (d2:pz≠py) (d:pz≠pp)
    (hxp:x<p) (hodd:p%2=1) (by1:B64≤y) (by2:y<B64^9) :
    Calls Tryz.prog 99 #[.pointer (some ⟨pz,0,none⟩),.pointer (some ⟨px,0,none⟩),.pointer (some ⟨py,0,none⟩),.pointer (some ⟨bp,0,none⟩)] w (CloRet own w pz ((x^y%p:Nat):Int)):=by
  have H1:=Lib.hid (intExp_o own w pz px py pp k x y p O.env hz oz hx hy O.int d1 d2 d hxp hodd by1 by2 O.big O.lt)
  have c0:=O.cap.cell
  clear O hz oz hx hy
  generalize ((x^y%p:Nat):Int)=v at *
  go_enter Tryz.func99,Tryz.ntmps99
  go_wp2_with fail
  refine H1.out.mono ?_
  rintro e w1 ⟨rfl,s1⟩
  have S1:=Lib.hid s1
  clear s1 H1
  go_wp2_with fail
  go_end0
  exact ⟨rfl,S1.out⟩
theorem parity_any (p:Nat) (own:Nat→Option Nat) (w:World) (i:Int) (h:IntO own w p i):Calls Tryz.prog 102 #[.pointer (some ⟨p,0,none⟩),.int .i64 0] w fun e w'=>e=.returned (U (i.natAbs%2))∧w'=w:=by
  obtain ⟨a,n,c,f,hI,_⟩:=h
  exact intBit0_any p n c _ _ a f w hI
set_option maxRecDepth 100000 in
set_option maxHeartbeats 1000000 in
theorem cloSgn (own:Nat→Option Nat) (w:World) (bp pp p pz:Nat) (i:Int) (O:Opd own w bp pp p) (hz:IntO own w pz i) (oz:own pz=some pz) (d:pz≠pp) (bi:i.natAbs<B64^9) :
    Calls Tryz.prog 101 #[.pointer (some ⟨pz,0,none⟩),.pointer (some ⟨bp,0,none⟩)] w fun e w'=>e=.returned (U ((i%(p:Int)).natAbs%2))∧OwnSet own w pz (i%(p:Int)) w':=by
  have H1:=Lib.hid (modSet own w bp pp p pz i O oz hz.lt d (Nat.lt_of_lt_of_le bi (Nat.pow_le_pow_right B64_pos (by omega))) w ⟨own,.refl O.env.ok,hz⟩)
  have c0:=O.cap.cell
  clear O hz oz bi
  generalize i%(p:Int)=v at *
  go_enter Tryz.func101,Tryz.ntmps101
  go_wp2_with fail
  refine H1.out.mono ?_
  rintro e w1 ⟨rfl,s1⟩
  obtain ⟨own1,x1,i1⟩:=id s1
  have H2:=Lib.hid (parity_any pz own1 w1 v i1)
  have S1:=Lib.hid s1
  clear s1 H1 x1 i1
  go_wp2_with fail
  refine H2.out.mono ?_
  rintro e w' ⟨rfl,hw'⟩
  obtain rfl:=hw'.symm
  clear H2
  go_wp2_with fail
  go_ret
  exact ⟨rfl,S1.out⟩
theorem ptr_same_neq {w:World} {b:Nat}:(binOp .neq 47 (.pointer (some ⟨b,0,none⟩)) (.pointer (some ⟨b,0,none⟩))).run Tryz.prog w=.ok (.bool false) w:=by
  obtain ⟨j,hj,hs⟩:=info47
  have h:∀ d:Nat,(Op.equalIn (d+1) 47 (.pointer (some ⟨b,0,none⟩)) (.pointer (some ⟨b,0,none⟩))).run Tryz.prog w=.ok true w:=fun d=>by
    simp [Op.equalIn,run_underlying Tryz.underlying47,sizeOf,typeInfo,hj,hs,sameAddr]
  simp only [binOp]
  simp [Op.equal,Op.maxDepth,h 9999]
theorem intSet_self (pz:Nat) (w:World):Calls Tryz.prog 47 #[.pointer (some ⟨pz,0,none⟩),.pointer (some ⟨pz,0,none⟩)] w fun e w'=>e=.returned (.pointer (some ⟨pz,0,none⟩))∧w'=w:=by
  have hp:=@ptr_same_neq w pz
  go_enter Tryz.func47,Tryz.ntmps47
  go_wp2_with fail
  go_ret
  exact ⟨rfl,rfl⟩
theorem setStep (own:Nat→Option Nat) (w:World) (pz px:Nat) (k i:Int) (E:OEnv own w) (hz:IntO own w pz k) (oz:own pz=some pz) (hx:IntO own w px i) (bi:i.natAbs<B64^9) :
    Calls Tryz.prog 47 #[.pointer (some ⟨pz,0,none⟩),.pointer (some ⟨px,0,none⟩)] w fun e w'=>e=.returned (.pointer (some ⟨pz,0,none⟩))∧OwnSet own w pz i w':=by
  by_cases h:pz=px
  · subst h
    refine (intSet_self pz w).mono ?_
    rintro e w' ⟨rfl,rfl⟩
    exact ⟨rfl,own,.refl E.ok,hx⟩
  · exact intSet_o own w pz px k i 9 E hz oz hx (by omega) bi h
set_option maxRecDepth 100000 in
set_option maxHeartbeats 1000000 in
theorem cloCmv (own:Nat→Option Nat) (w:World) (pz px py:Nat) (k i j:Int) (b:Bool) (E:OEnv own w) (hz:IntO own w pz k) (oz:own pz=some pz) (hx:IntO own w px i) (hy:IntO own w py j) (bi:i.natAbs<B64^9) (bj:j.natAbs<B64^9) :
    Calls Tryz.prog 103 #[.pointer (some ⟨pz,0,none⟩),.pointer (some ⟨px,0,none⟩),.pointer (some ⟨py,0,none⟩),.bool b] w (CloRet own w pz (if b then j else i)):=by
  have H1:=Lib.hid (setStep own w pz px k i E hz oz hx bi)
  have H2:=Lib.hid (setStep own w pz py k j E hz oz hy bj)
  clear E hz oz hx hy bi bj
  cases b with
  | true =>
    clear H1
    go_enter Tryz.func103,Tryz.ntmps103
    go_wp2_with fail
    refine H2.out.mono ?_
    rintro e w1 ⟨rfl,s1⟩
    have S1:=Lib.hid s1
    clear s1 H2
    go_wp2_with fail
    go_end0
    exact ⟨rfl,S1.out⟩
  | false =>
    clear H2
    go_enter Tryz.func103,Tryz.ntmps103
    go_wp2_with fail
    refine H1.out.mono ?_
    rintro e w1 ⟨rfl,s1⟩
    have S1:=Lib.hid s1
    clear s1 H1
    go_wp2_with fail
    go_end0
    exact ⟨rfl,S1.out⟩
end
section
open Go Go.RowKit
structure Sw (own0:Nat→Option Nat) (w0:World) (R:List Nat) (T:List Int) (C:List (Nat × Nat × Value)) (own:Nat→Option Nat) (w:World) (P:List Nat) (V:List Int):Prop where
  env:OEnv own w
  ext:Ext (fun z=>w0.heap.size≤z) own0 own w0 w
  len:P.length=V.length
  ints:∀ (j q:Nat) (i:Int),P[j]? = some q→V[j]? = some i→IntO own w q i
  wr:∀ (j q:Nat),P[j]? = some q→own q=some q∧w0.heap.size≤q
  inj:∀ (i j q:Nat),P[i]? = some q→P[j]? = some q→i=j
  rd:∀ (j q:Nat) (i:Int),R[j]? = some q→T[j]? = some i→IntO own w q i∧own q=none
  caps:∀ (j k o:Nat) (v:Value),C[j]? = some (k,o,v)→Cap own w k o v
  bdV:∀ i,i ∈ V→i.natAbs<B64^9
  bdT:∀ i,i ∈ T→i.natAbs<B64^9
section
variable {own0 own own':Nat→Option Nat} {w0 w w':World} {R P:List Nat} {T V:List Int} {C:List (Nat × Nat × Value)}
theorem Sw.ge (h:Sw own0 w0 R T C own w P V):w0.heap.size≤w.heap.size:=h.ext.mod.size
theorem Sw.rdKeep (h:Sw own0 w0 R T C own w P V) {Z:Nat→Prop} (e:Ext Z own own' w w'):∀ (j q:Nat) (i:Int),R[j]? = some q→T[j]? = some i→IntO own' w' q i∧own' q=none:=by
  intro j q i hq hi
  obtain ⟨⟨a,n,c,f,hI,hB⟩,hn⟩:=h.rd j q i hq hi
  have hB':Blk own q a none:=by
    rcases hB with h1 | h1
    · rw [h1.1] at hn;cases hn
    · exact h1
  refine ⟨⟨a,n,c,f,hI.mod e.mod ?_ ?_,.inr ⟨(e.old _ hI.lt).trans hB'.1,fun A hA=>(e.old _ (hI.ltA A hA)).trans (hB'.2 A hA)⟩⟩,(e.old _ hI.lt).trans hn⟩
  · rintro o ⟨z,hz,hk⟩
    rw [hB'.1] at hk;cases hk
  · rintro A hA o ⟨z,hz,hk⟩
    rw [hB'.2 A hA] at hk;cases hk
theorem Sw.put (h:Sw own0 w0 R T C own w P V) {c z:Nat} {i:Int} (hc:P[c]? = some z) (hi:i.natAbs<B64^9) (hs:OwnSet own w z i w'):∃ own',Sw own0 w0 R T C own' w' P (V.set c i)∧Ext (·=z) own own' w w':=by
  obtain ⟨own',e,hI⟩:=hs
  have hlt:∀ (j p:Nat),P[j]? = some p→p<w.heap.size:=fun j p hp=>by
    have hj:j<V.length:=by rw [← h.len];exact (List.getElem?_eq_some_iff.1 hp).1
    exact (h.ints j p V[j] hp (List.getElem?_eq_getElem hj)).lt
  refine ⟨own',⟨h.env.ext e,h.ext.trans (e.mono fun y hy=>by rw [hy];exact (h.wr c z hc).2),by rw [List.length_set];exact h.len,?_,fun j p hp=>⟨(e.old p (hlt j p hp)).trans (h.wr j p hp).1,(h.wr j p hp).2⟩,h.inj,h.rdKeep e,fun j k o v hk=>(h.caps j k o v hk).ext e,?_,h.bdT⟩,e⟩
  · intro j p i' hp hi'
    by_cases hj:j=c
    · subst hj
      obtain rfl:p=z:=by rw [hc] at hp;exact (Option.some.inj hp).symm
      have hl:j<V.length:=by rw [← h.len];exact (List.getElem?_eq_some_iff.1 hp).1
      rw [List.getElem?_set_self hl] at hi'
      cases hi'
      exact hI
    · rw [List.getElem?_set_ne (Ne.symm hj)] at hi'
      exact (h.ints j p i' hp hi').keep e fun hpz=>hj (h.inj j c z (hpz ▸ hp) hc)
  · intro x hx
    rcases List.mem_or_eq_of_mem_set hx with hx | rfl
    · exact h.bdV x hx
    · exact hi
theorem Sw.still (h:Sw own0 w0 R T C own w P V) (m:Mod NoP w w'):∃ own',Sw own0 w0 R T C own' w' P V∧Ext (fun _=>False) own own' w w'∧∀ k,w.heap.size≤k→own' k=none:=by
  obtain ⟨own',e,hn⟩:=Ext.still (Z:=fun _=>False) h.env.ok m
  have hlt:∀ (j p:Nat),P[j]? = some p→p<w.heap.size:=fun j p hp=>by
    have hj:j<V.length:=by rw [← h.len];exact (List.getElem?_eq_some_iff.1 hp).1
    exact (h.ints j p V[j] hp (List.getElem?_eq_getElem hj)).lt
  exact ⟨own',⟨h.env.ext e,h.ext.trans (e.mono fun z hz=>hz.elim),h.len,fun j p i hp hi=>(h.ints j p i hp hi).keep e id,fun j p hp=>⟨(e.old p (hlt j p hp)).trans (h.wr j p hp).1,(h.wr j p hp).2⟩,h.inj,h.rdKeep e,fun j k o v hk=>(h.caps j k o v hk).ext e,h.bdV,h.bdT⟩,e,hn⟩
theorem Sw.push (h:Sw own0 w0 R T C own w P V) (m:Mod NoP w w') {p n c:Nat} {i:Int} {a:Option Addr} {f:Nat→Nat} (hI:IntIs w' p (decide (i<0)) a n c f i.natAbs) (hp:w.heap.size≤p) (ha:∀ A,a=some A→w.heap.size≤A.block) (hi:i.natAbs<B64^9) :
    ∃ own',Sw own0 w0 R T C own' w' (p :: P) (i :: V):=by
  have hlt:∀ (j p:Nat),P[j]? = some p→p<w.heap.size:=fun j p hp=>by
    have hj:j<V.length:=by rw [← h.len];exact (List.getElem?_eq_some_iff.1 hp).1
    exact (h.ints j p V[j] hp (List.getElem?_eq_getElem hj)).lt
  have e:Ext (fun _=>False) own (fun k=>if k<w.heap.size then own k else some p) w w':=by
    refine ⟨fun k hk=>if_pos hk,m.of_none,fun k z hk hz => ?_⟩
    by_cases hl:k<w.heap.size
    · exact Nat.lt_of_lt_of_le (h.env.ok k z hl ((if_pos hl).symm.trans hz)) m.size
    · have hz':some p=some z:=(if_neg hl).symm.trans hz
      cases hz';exact hI.lt
  have hge:=h.ge
  refine ⟨_,h.env.ext e,h.ext.trans (e.mono fun z hz=>hz.elim),by simp [h.len],?_,?_,?_,h.rdKeep e,fun j k o v hk=>(h.caps j k o v hk).ext e,?_,h.bdT⟩
  · rintro (_ | j) q i' hq hi'
    · simp only [List.getElem?_cons_zero] at hq hi'
      cases hq;cases hi'
      exact ⟨a,n,c,f,hI,.inl ⟨if_neg (by omega),fun A hA=>if_neg (by have:=ha A hA;omega)⟩⟩
    · simp only [List.getElem?_cons_succ] at hq hi'
      exact (h.ints j q i' hq hi').keep e id
  · rintro (_ | j) q hq
    · simp only [List.getElem?_cons_zero] at hq
      cases hq
      exact ⟨if_neg (by omega),by omega⟩
    · simp only [List.getElem?_cons_succ] at hq
      exact ⟨(e.old q (hlt j q hq)).trans (h.wr j q hq).1,(h.wr j q hq).2⟩
  · rintro (_ | i) (_ | j) q hi hj
    · rfl
    · simp only [List.getElem?_cons_zero,List.getElem?_cons_succ] at hi hj
      cases hi
      have:=hlt j _ hj
      omega
    · simp only [List.getElem?_cons_zero,List.getElem?_cons_succ] at hi hj
      cases hj
      have:=hlt i _ hi
      omega
    · simp only [List.getElem?_cons_succ] at hi hj
      rw [h.inj i j q hi hj]
  · intro x hx
    rcases List.mem_cons.1 hx with rfl | hx
    · exact hi
    · exact h.bdV x hx
theorem Sw.cell (h:Sw own0 w0 R T C own w P V) (m:Mod NoP w w') {b o:Nat} {v:Value} (hc:w'.cell? ⟨b,o,none⟩=some v) (hb:w.heap.size≤b):∃ own',Sw own0 w0 R T ((b,o,v) :: C) own' w' P V:=by
  obtain ⟨own',s,e,hn⟩:=h.still m
  refine ⟨own',s.env,s.ext,s.len,s.ints,s.wr,s.inj,s.rd,?_,s.bdV,s.bdT⟩
  rintro (_ | j) k o' v' hk
  · simp only [List.getElem?_cons_zero] at hk
    cases hk
    exact ⟨hc,hn _ hb⟩
  · simp only [List.getElem?_cons_succ] at hk
    exact s.caps j k o' v' hk
end
def SwE (own0:Nat→Option Nat) (w0:World) (R:List Nat) (T:List Int) (C:List (Nat × Nat × Value)) (w:World) (P:List Nat) (V:List Int):Prop:=∃ own,Sw own0 w0 R T C own w P V
inductive Look (P:List Nat) (V:List Int) (R:List Nat) (T:List Int) (q:Nat) (i:Int):Prop where
  | w (j:Nat) (h:P[j]? = some q) (k:V[j]? = some i):Look P V R T q i
  | r (j:Nat) (h:R[j]? = some q) (k:T[j]? = some i):Look P V R T q i
section
variable {own0 own:Nat→Option Nat} {w0 w w':World} {R P:List Nat} {T V:List Int} {C:List (Nat × Nat × Value)} {q:Nat} {i j:Int}
theorem Sw.int (h:Sw own0 w0 R T C own w P V) (l:Look P V R T q i):IntO own w q i:=by
  rcases l with ⟨j,h1,h2⟩ | ⟨j,h1,h2⟩
  · exact h.ints j q i h1 h2
  · exact (h.rd j q i h1 h2).1
theorem Sw.bd (h:Sw own0 w0 R T C own w P V) (l:Look P V R T q i):i.natAbs<B64^9:=by
  rcases l with ⟨j,h1,h2⟩ | ⟨j,h1,h2⟩
  · exact h.bdV i (List.mem_of_getElem? h2)
  · exact h.bdT i (List.mem_of_getElem? h2)
theorem Sw.at_ (h:Sw own0 w0 R T C own w P V) {c z:Nat} (hc:P[c]? = some z):∃ k,IntO own w z k:=by
  have hj:c<V.length:=by rw [← h.len];exact (List.getElem?_eq_some_iff.1 hc).1
  exact ⟨_,h.ints c z V[c] hc (List.getElem?_eq_getElem hj)⟩
structure Base (R:List Nat) (T:List Int) (C:List (Nat × Nat × Value)) (bp pp p:Nat):Prop where
  r:∃ j:Nat,R[j]? = some pp∧T[j]? = some (p:Int)
  c:∃ j:Nat,C[j]? = some (bp,0,.pointer (some ⟨pp,0,none⟩))
  big:B64≤p
  lt:p<B64^9
theorem Sw.opd (h:Sw own0 w0 R T C own w P V) {bp pp p:Nat} (B:Base R T C bp pp p):Opd own w bp pp p∧own pp=none:=by
  obtain ⟨j,h1,h2⟩:=B.r
  obtain ⟨k,h3⟩:=B.c
  exact ⟨⟨h.env,(h.rd j pp p h1 h2).1,h.caps k _ _ _ h3,B.big,B.lt⟩,(h.rd j pp p h1 h2).2⟩
theorem Sw.ne_rd (h:Sw own0 w0 R T C own w P V) {c z r:Nat} (hc:P[c]? = some z) (hr:own r=none):z≠r:=fun e=>by
  have:=(h.wr c z hc).1
  rw [e,hr] at this
  cases this
theorem mod_bound {p:Nat} {x:Int} (h1:B64≤p) (h2:p<B64^9):(x%(p:Int)).natAbs<B64^9:=by
  have hp:(p:Int)≠0:=by have:=B64_pos;omega
  have h3:=Int.emod_nonneg x hp
  have h4:=Int.emod_lt_of_pos x (show (0:Int)<p by have:=B64_pos;omega)
  omega
def Step (own0:Nat→Option Nat) (w0:World) (R:List Nat) (T:List Int) (C:List (Nat × Nat × Value)) (P:List Nat) (V:List Int) (e:Ending) (w':World):Prop:=e=.returned (.tuple #[])∧SwE own0 w0 R T C w' P V
theorem SwE.mul {bp pp p:Nat} (h:SwE own0 w0 R T C w P V) (B:Base R T C bp pp p) (c:Nat) {pz px py:Nat} (hc:P[c]? = some pz) (hx:Look P V R T px i) (hy:Look P V R T py j) (V':List Int) (hV:V.set c (i*j%(p:Int))=V') :
    Calls Tryz.prog 96 #[.pointer (some ⟨pz,0,none⟩),.pointer (some ⟨px,0,none⟩),.pointer (some ⟨py,0,none⟩),.pointer (some ⟨bp,0,none⟩)] w (Step own0 w0 R T C P V'):=by
  obtain ⟨own,s⟩:=h
  obtain ⟨k,hz⟩:=s.at_ hc
  obtain ⟨O,hn⟩:=s.opd B
  refine (cloMul own w bp pp p pz px py k i j O hz (s.wr c pz hc).1 (s.int hx) (s.int hy) (s.ne_rd hc hn) (s.bd hx) (s.bd hy)).mono ?_
  rintro e w' ⟨rfl,hs⟩
  obtain ⟨own',s',_⟩:=s.put hc (mod_bound B.big B.lt) hs
  exact ⟨rfl,own',hV ▸ s'⟩
theorem SwE.sqr {bp pp p:Nat} (h:SwE own0 w0 R T C w P V) (B:Base R T C bp pp p) (c:Nat) {pz px:Nat} (hc:P[c]? = some pz) (hx:Look P V R T px i) (V':List Int) (hV:V.set c (i*i%(p:Int))=V') :
    Calls Tryz.prog 98 #[.pointer (some ⟨pz,0,none⟩),.pointer (some ⟨px,0,none⟩),.pointer (some ⟨bp,0,none⟩)] w (Step own0 w0 R T C P V'):=by
  obtain ⟨own,s⟩:=h
  obtain ⟨k,hz⟩:=s.at_ hc
  obtain ⟨O,hn⟩:=s.opd B
  refine (cloSqr own w bp pp p pz px k i O hz (s.wr c pz hc).1 (s.int hx) (s.ne_rd hc hn) (s.bd hx)).mono ?_
  rintro e w' ⟨rfl,hs⟩
  obtain ⟨own',s',_⟩:=s.put hc (mod_bound B.big B.lt) hs
  exact ⟨rfl,own',hV ▸ s'⟩
theorem SwE.add {bp pp p:Nat} (h:SwE own0 w0 R T C w P V) (B:Base R T C bp pp p) (c:Nat) {pz px py:Nat} (hc:P[c]? = some pz) (hx:Look P V R T px i) (hy:Look P V R T py j) (V':List Int) (hV:V.set c ((i+j)%(p:Int))=V') :
    Calls Tryz.prog 93 #[.pointer (some ⟨pz,0,none⟩),.pointer (some ⟨px,0,none⟩),.pointer (some ⟨py,0,none⟩),.pointer (some ⟨bp,0,none⟩)] w (Step own0 w0 R T C P V'):=by
  obtain ⟨own,s⟩:=h
  obtain ⟨k,hz⟩:=s.at_ hc
  obtain ⟨O,hn⟩:=s.opd B
  refine (cloAdd own w bp pp p pz px py k i j O hz (s.wr c pz hc).1 (s.int hx) (s.int hy) (s.ne_rd hc hn) (s.bd hx) (s.bd hy)).mono ?_
  rintro e w' ⟨rfl,hs⟩
  obtain ⟨own',s',_⟩:=s.put hc (mod_bound B.big B.lt) hs
  exact ⟨rfl,own',hV ▸ s'⟩
theorem SwE.add1 {bp pp p:Nat} (h:SwE own0 w0 R T C w P V) (B:Base R T C bp pp p) (c:Nat) {pz px:Nat} (hc:P[c]? = some pz) (hx:Look P V R T px i) (hj:j.natAbs<B64^9) (V':List Int) (hV:V.set c ((i+j)%(p:Int))=V') {e:Ending} (hr:NewRet w j e w') :
    ∃ q,e=.returned (.pointer (some ⟨q,0,none⟩))∧Calls Tryz.prog 93 #[.pointer (some ⟨pz,0,none⟩),.pointer (some ⟨px,0,none⟩),.pointer (some ⟨q,0,none⟩),.pointer (some ⟨bp,0,none⟩)] w' (Step own0 w0 R T C P V'):=by
  obtain ⟨own,s⟩:=h
  obtain ⟨q,a,n,c',f,rfl,hI,m,hq,ha⟩:=hr
  obtain ⟨own1,s1,x1,hn1⟩:=s.still m
  refine ⟨q,rfl,?_⟩
  obtain ⟨k,hz⟩:=s1.at_ hc
  obtain ⟨O,hn⟩:=s1.opd B
  have hy:IntO own1 w' q j:=⟨a,n,c',f,hI,.inr ⟨hn1 q hq,fun A hA=>hn1 _ (ha A hA)⟩⟩
  refine (cloAdd own1 w' bp pp p pz px q k i j O hz (s1.wr c pz hc).1 (s1.int hx) hy (s1.ne_rd hc hn) (s1.bd hx) hj).mono ?_
  rintro e w2 ⟨rfl,hs⟩
  obtain ⟨own',s',_⟩:=s1.put hc (mod_bound B.big B.lt) hs
  exact ⟨rfl,own',hV ▸ s'⟩
theorem SwE.exp {bp pp p:Nat} (h:SwE own0 w0 R T C w P V) (B:Base R T C bp pp p) (c d e:Nat) {pz px py n:Nat} (hc:P[c]? = some pz) (hd:P[d]? = some px) (hx:V[d]? = some i) (he:P[e]? = some py) (hy:V[e]? = some (n:Int)) (hcd:c≠d) (hce:c≠e)
    (hi0:0≤i) (hip:i<p) (hodd:p%2=1) (hn1:B64≤n) (V':List Int) (hV:V.set c (i^n%(p:Int))=V') :
    Calls Tryz.prog 99 #[.pointer (some ⟨pz,0,none⟩),.pointer (some ⟨px,0,none⟩),.pointer (some ⟨py,0,none⟩),.pointer (some ⟨bp,0,none⟩)] w (Step own0 w0 R T C P V'):=by
  obtain ⟨own,s⟩:=h
  obtain ⟨k,hz⟩:=s.at_ hc
  obtain ⟨O,hn⟩:=s.opd B
  obtain ⟨x,rfl⟩:∃ x:Nat,i=x:=⟨i.toNat,by omega⟩
  have hb:=s.bdV _ (List.mem_of_getElem? hy)
  rw [Int.natAbs_natCast] at hb
  refine (cloExp own w bp pp p pz px py k x n O hz (s.wr c pz hc).1 (s.ints d px x hd hx) (s.ints e py n he hy) (fun e'=>hcd (s.inj c d pz hc (e' ▸ hd))) (fun e'=>hce (s.inj c e pz hc (e' ▸ he))) (s.ne_rd hc hn) (by omega) hodd hn1 hb).mono ?_
  rintro e w' ⟨rfl,hs⟩
  have e1:((x^n%p:Nat):Int)=(x:Int)^n%(p:Int):=by rw [Int.natCast_emod,Int.natCast_pow]
  rw [e1] at hs
  obtain ⟨own',s',_⟩:=s.put hc (mod_bound B.big B.lt) hs
  exact ⟨rfl,own',hV ▸ s'⟩
theorem SwE.cmv (h:SwE own0 w0 R T C w P V) (c:Nat) {pz px py:Nat} (b:Bool) (hc:P[c]? = some pz) (hx:Look P V R T px i) (hy:Look P V R T py j) (V':List Int) (hV:V.set c (if b then j else i)=V') :
    Calls Tryz.prog 103 #[.pointer (some ⟨pz,0,none⟩),.pointer (some ⟨px,0,none⟩),.pointer (some ⟨py,0,none⟩),.bool b] w (Step own0 w0 R T C P V'):=by
  obtain ⟨own,s⟩:=h
  obtain ⟨k,hz⟩:=s.at_ hc
  refine (cloCmv own w pz px py k i j b s.env hz (s.wr c pz hc).1 (s.int hx) (s.int hy) (s.bd hx) (s.bd hy)).mono ?_
  rintro e w' ⟨rfl,hs⟩
  have hbd:(if b=true then j else i).natAbs<B64^9:=by
    cases b
    · exact s.bd hx
    · exact s.bd hy
  obtain ⟨own',s',_⟩:=s.put hc hbd hs
  exact ⟨rfl,own',hV ▸ s'⟩
theorem SwE.sgn {bp pp p:Nat} (h:SwE own0 w0 R T C w P V) (B:Base R T C bp pp p) (c:Nat) {pz:Nat} (hc:P[c]? = some pz) (hx:V[c]? = some i) (hi0:0≤i) (hip:i<p) :
    Calls Tryz.prog 101 #[.pointer (some ⟨pz,0,none⟩),.pointer (some ⟨bp,0,none⟩)] w fun e w'=>e=.returned (U (i.natAbs%2))∧SwE own0 w0 R T C w' P V:=by
  obtain ⟨own,s⟩:=h
  obtain ⟨O,hn⟩:=s.opd B
  have hb:=s.bdV _ (List.mem_of_getElem? hx)
  refine (cloSgn own w bp pp p pz i O (s.ints c pz i hc hx) (s.wr c pz hc).1 (s.ne_rd hc hn) hb).mono ?_
  rintro e w' ⟨rfl,hs⟩
  rw [Int.emod_eq_of_lt hi0 hip] at hs ⊢
  obtain ⟨own',s',_⟩:=s.put hc hb hs
  refine ⟨rfl,own',?_⟩
  have:V.set c i=V:=by
    obtain ⟨hl,hv⟩:=List.getElem?_eq_some_iff.1 hx
    rw [← hv,List.set_getElem_self]
  rw [this] at s'
  exact s'
theorem SwE.neg (h:SwE own0 w0 R T C w P V) (c d:Nat) {pz px:Nat} (hc:P[c]? = some pz) (hd:P[d]? = some px) (hx:V[d]? = some i) (hcd:c≠d) (V':List Int) (hV:V.set c (-i)=V') :
    Calls Tryz.prog 29 #[.pointer (some ⟨pz,0,none⟩),.pointer (some ⟨px,0,none⟩)] w fun e w'=>e=.returned (.pointer (some ⟨pz,0,none⟩))∧SwE own0 w0 R T C w' P V':=by
  obtain ⟨own,s⟩:=h
  obtain ⟨k,hz⟩:=s.at_ hc
  have hb:=s.bdV _ (List.mem_of_getElem? hx)
  refine (intNeg_o own w pz px k i 9 s.env hz (s.wr c pz hc).1 (s.ints d px i hd hx) (by omega) hb (fun e'=>hcd (s.inj c d pz hc (e' ▸ hd)))).mono ?_
  rintro e w' ⟨rfl,hs⟩
  obtain ⟨own',s',_⟩:=s.put hc (by rw [Int.natAbs_neg];exact hb) hs
  exact ⟨rfl,own',hV ▸ s'⟩
theorem SwE.mod {bp pp p:Nat} (h:SwE own0 w0 R T C w P V) (B:Base R T C bp pp p) (c:Nat) {pz:Nat} (hc:P[c]? = some pz) (hx:V[c]? = some i) (V':List Int) (hV:V.set c (i%(p:Int))=V') :
    Calls Tryz.prog 95 #[.pointer (some ⟨pz,0,none⟩),.pointer (some ⟨pz,0,none⟩),.pointer (some ⟨pp,0,none⟩)] w fun e w'=>e=.returned (.pointer (some ⟨pz,0,none⟩))∧SwE own0 w0 R T C w' P V':=by
  obtain ⟨own,s⟩:=h
  obtain ⟨O,hn⟩:=s.opd B
  have hb:=s.bdV _ (List.mem_of_getElem? hx)
  have hz:=s.ints c pz i hc hx
  refine (modSet own w bp pp p pz i O (s.wr c pz hc).1 hz.lt (s.ne_rd hc hn) (Nat.lt_of_lt_of_le hb (Nat.pow_le_pow_right B64_pos (by omega))) w ⟨own,.refl s.env.ok,hz⟩).mono ?_
  rintro e w' ⟨rfl,hs⟩
  obtain ⟨own',s',_⟩:=s.put hc (mod_bound B.big B.lt) hs
  exact ⟨rfl,own',hV ▸ s'⟩
theorem SwE.inv {bp pp p:Nat} (h:SwE own0 w0 R T C w P V) (B:Base R T C bp pp p) (c d:Nat) {pz px g:Nat} (hc:P[c]? = some pz) (hd:P[d]? = some px) (hx:V[d]? = some (g:Int)) (hcd:c≠d) (hg0:0<g) (hgp:g<p) (hco:Nat.gcd g p=1) :
    Calls Tryz.prog 106 #[.pointer (some ⟨pz,0,none⟩),.pointer (some ⟨px,0,none⟩),.pointer (some ⟨pp,0,none⟩)] w fun e w'=>e=.returned (.pointer (some ⟨pz,0,none⟩))∧∃ t:Nat,t<p∧t*g%p=1∧SwE own0 w0 R T C w' P (V.set c (t:Int)):=by
  obtain ⟨own,s⟩:=h
  obtain ⟨k,hz⟩:=s.at_ hc
  obtain ⟨O,hn⟩:=s.opd B
  have hX:=s.ints d px g hd hx
  have hne:pz≠px:=fun e'=>hcd (s.inj c d pz hc (e' ▸ hd))
  have n1:=s.ne_rd hc hn
  have n2:=s.ne_rd hd hn
  have hO:OSt own w 1 [pz,px,pp] [k,(g:Int),(p:Int)] :=
    (((OSt.nil s.env).consR O.int (by simp)).consR hX (by simp;exact n2)).consW hz (s.wr c pz hc).1 (by simp;exact ⟨hne,n1⟩)
  have hlt:=B.lt
  refine (modInv_o own w pz px pp g p k hO hg0 (by have:=B.big;rw [B64_eq] at this;omega) hco (by omega) hlt).mono ?_
  rintro e w' ⟨t,ht,hi,rfl,hs⟩
  obtain ⟨own',s',_⟩:=s.put hc (by rw [Int.natAbs_natCast];omega) hs
  exact ⟨rfl,t,ht,hi,own',s'⟩
theorem SwE.new (h:SwE own0 w0 R T C w P V):SwE own0 w0 R T C (w.alloc (.cells #[.bool false,.slice none 0 0] 51 (0,0))) (w.heap.size :: P) (0 :: V):=by
  obtain ⟨own,s⟩:=h
  exact s.push ((Mod.refl NoP w).alloc _) (intNew w) (Nat.le_refl _) (fun A hA=>by cases hA) (pow_pos 9)
theorem SwE.push (h:SwE own0 w0 R T C w P V) (hi:i.natAbs<B64^9) {e:Ending} (hr:NewRet w i e w'):∃ q,e=.returned (.pointer (some ⟨q,0,none⟩))∧SwE own0 w0 R T C w' (q :: P) (i :: V):=by
  obtain ⟨own,s⟩:=h
  obtain ⟨q,a,n,c',f,rfl,hI,m,hq,ha⟩:=hr
  exact ⟨q,rfl,s.push m hI hq ha hi⟩
theorem SwE.still (h:SwE own0 w0 R T C w P V) (m:Mod NoP w w'):SwE own0 w0 R T C w' P V:=by
  obtain ⟨own,s⟩:=h
  obtain ⟨own',s',_⟩:=s.still m
  exact ⟨own',s'⟩
theorem SwE.cell (h:SwE own0 w0 R T C w P V) (m:Mod NoP w w') {b o:Nat} {v:Value} (hc:w'.cell? ⟨b,o,none⟩=some v) (hb:w.heap.size≤b):SwE own0 w0 R T ((b,o,v) :: C) w' P V:=by
  obtain ⟨own,s⟩:=h
  exact s.cell m hc hb
theorem SwE.cap (h:SwE own0 w0 R T C w P V) (j:Nat) {k o:Nat} {v:Value} (hj:C[j]? = some (k,o,v)):w.cell? ⟨k,o,none⟩=some v:=by
  obtain ⟨own,s⟩:=h
  exact (s.caps j k o v hj).cell
theorem signZero (p:Nat) (own:Nat→Option Nat) (w:World) (i:Int) (h:IntO own w p i) (hi:0≤i):Calls Tryz.prog 104 #[.pointer (some ⟨p,0,none⟩)] w fun e w'=>(∃ s:Int,e=.returned (.int .i64 s)∧(s == 0)=decide (i=0))∧w'=w:=by
  obtain ⟨a,n,c,f,hI,_⟩:=h
  rw [decide_eq_false (by omega)] at hI
  by_cases h0:i=0
  · subst h0
    have hn:n=0:=hI.num.zero_iff.2 rfl
    subst hn
    have h1:=hI.c1
    have h2:=hI.c0
    clear hI
    go_enter Tryz.func104,Tryz.ntmps104
    go_wp2_with fail
    go_ret
    exact ⟨⟨0,rfl,rfl⟩,rfl⟩
  · refine (sign_any p n c _ false a f w hI (by omega)).mono ?_
    rintro e w' ⟨rfl,rfl⟩
    exact ⟨⟨1,rfl,by rw [decide_eq_false h0];rfl⟩,rfl⟩
theorem SwE.sign (h:SwE own0 w0 R T C w P V) {q:Nat} (hx:Look P V R T q i) (hi:0≤i):Calls Tryz.prog 104 #[.pointer (some ⟨q,0,none⟩)] w fun e w'=>(∃ s:Int,e=.returned (.int .i64 s)∧(s == 0)=decide (i=0))∧w'=w:=by
  obtain ⟨own,s⟩:=h
  exact signZero q own w i (s.int hx) hi
theorem SwE.cmp (h:SwE own0 w0 R T C w P V) (c d:Nat) {px py:Nat} (hc:P[c]? = some px) (hx:V[c]? = some i) (hd:P[d]? = some py) (hy:V[d]? = some j) (hcd:c≠d) (hi:0≤i) (hj:0≤j) :
    Calls Tryz.prog 105 #[.pointer (some ⟨px,0,none⟩),.pointer (some ⟨py,0,none⟩)] w fun e w'=>(∃ s:Int,e=.returned (.int .i64 s)∧(s == 0)=decide (i=j))∧SwE own0 w0 R T C w' P V:=by
  obtain ⟨own,s⟩:=h
  have hI:=s.ints c px i hc hx
  have hJ:=s.ints d py j hd hy
  have hne:px≠py:=fun e'=>hcd (s.inj c d px hc (e' ▸ hd))
  have bi:=s.bdV _ (List.mem_of_getElem? hx)
  have bj:=s.bdV _ (List.mem_of_getElem? hy)
  obtain ⟨a,n,cc,f,hI,_⟩:=hI
  obtain ⟨a',n',cc',f',hJ,_⟩:=hJ
  have l1:=hI.words_le bi
  have l2:=hJ.words_le bj
  rw [decide_eq_false (by omega)] at hI hJ
  refine (intCmp_any px py n cc n' cc' _ _ a a' f f' w hI hJ (by omega) (by omega) hne).mono ?_
  rintro e w' ⟨rfl,q,rfl⟩
  refine ⟨⟨_,rfl,?_⟩,SwE.still ⟨own,s⟩ ((Mod.refl NoP w).drewN q)⟩
  unfold cmpV
  by_cases h1:i=j
  · subst h1
    rw [decide_eq_true rfl]
    simp
  · rw [decide_eq_false h1]
    split
    · rfl
    · split
      · first | rfl | (exfalso;omega)
      · first | rfl | (exfalso;omega)
theorem SwE.three (h:SwE own0 w0 R T C w P V) {w1:World} (m:Mod NoP w w1):Calls Tryz.prog 90 #[.int .i64 3] w1 fun e w'=>∃ q,e=.returned (.pointer (some ⟨q,0,none⟩))∧∃ own,Sw own0 w0 R T C own w' P V∧IntO own w' q 3:=by
  refine (newInt_any w1 3 (by omega) (by omega)).mono ?_
  intro e w' hr
  obtain ⟨own,s⟩:=h.still m
  obtain ⟨q,a,n,c',f,rfl,hI,m,hq,ha⟩:=hr
  obtain ⟨own1,s1,x1,hn1⟩:=s.still m
  exact ⟨q,rfl,own1,s1,a,n,c',f,hI,.inr ⟨hn1 q hq,fun A hA=>hn1 _ (ha A hA)⟩⟩
theorem SwE.sub3 {bp pp p:Nat} (B:Base R T C bp pp p) (c:Nat) {pz q:Nat} (hc:P[c]? = some pz) (h:∃ own,Sw own0 w0 R T C own w P V∧IntO own w q 3) (V':List Int) (hV:V.set c ((p:Int) - 3)=V') :
    Calls Tryz.prog 91 #[.pointer (some ⟨pz,0,none⟩),.pointer (some ⟨pp,0,none⟩),.pointer (some ⟨q,0,none⟩)] w fun e w'=>e=.returned (.pointer (some ⟨pz,0,none⟩))∧SwE own0 w0 R T C w' P V':=by
  obtain ⟨own,s,hq⟩:=h
  obtain ⟨k,hz⟩:=s.at_ hc
  obtain ⟨O,hn⟩:=s.opd B
  have hlt:=B.lt
  have hbig:=B.big
  rw [B64_eq] at hbig
  refine (intSub_o own w pz pp q k p 3 9 s.env hz (s.wr c pz hc).1 O.int hq (by omega) (by rw [Int.natAbs_natCast];exact hlt) (by rw [B64_eq];decide)).mono ?_
  rintro e w' ⟨rfl,hs⟩
  obtain ⟨own',s',_⟩:=s.put hc (by omega) hs
  exact ⟨rfl,own',hV ▸ s'⟩
theorem SwE.rsh2 (h:SwE own0 w0 R T C w P V) (c:Nat) {pz v:Nat} (hc:P[c]? = some pz) (hx:V[c]? = some (v:Int)) (V':List Int) (hV:V.set c ((v/2^2:Nat):Int)=V') :
    Calls Tryz.prog 92 #[.pointer (some ⟨pz,0,none⟩),.pointer (some ⟨pz,0,none⟩),.int .u64 2] w fun e w'=>e=.returned (.pointer (some ⟨pz,0,none⟩))∧SwE own0 w0 R T C w' P V':=by
  obtain ⟨own,s⟩:=h
  have hI:=s.ints c pz v hc hx
  have hb:=s.bdV _ (List.mem_of_getElem? hx)
  rw [Int.natAbs_natCast] at hb
  refine (intRsh_o own w pz pz v v 2 9 s.env hI (s.wr c pz hc).1 hI (by omega) hb (by omega) (by omega)).mono ?_
  rintro e w' ⟨rfl,hs⟩
  obtain ⟨own',s',_⟩:=s.put hc (by rw [Int.natAbs_natCast];exact Nat.lt_of_le_of_lt (Nat.div_le_self _ _) hb) hs
  exact ⟨rfl,own',hV ▸ s'⟩
end
end
end Go.Proofs.YtpfmbfkhjapbbaaGreatDoor
