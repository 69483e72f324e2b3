/-
  ZZMapToCurve, walked: an element whose Ints are the plain law's point. Conditions: a group of one of the three curves; a number below its prime; the thresholds hold what they were set to; io.EOF holds an errors.errorString's pointer.
  The row of laws.FnExactMap: its list of variables, what it says of the thresholds, and a world for the witness. No condition.
  What is read of an element: is it the identity, its group, the size of a coordinate, copies of its Ints. Condition: numbers that are not negative, of at most 9 words.
  ZZAffine, walked: copies of an element's Ints. Condition: numbers of at most 9 words.
-/
import Derived.Test.YtpfmbfkhjapbbaaGreatDoorMg02
import Derived.Test.YtpfmbfkhjapbbaaGreatDoorMg04
import Derived.Test.YtpfmbfkhjapbbaaGreatDoorMPar
import Derived.Test.YtpfmbfkhjapbbaaGreatDoorMSwMap
import Derived.Deep.RegionHeld3
set_option linter.unusedVariables false
set_option linter.unusedSimpArgs false
namespace Go.Proofs.YtpfmbfkhjapbbaaGreatDoor
section
open Go Go.RowKit
def noOwn:Nat→Option Nat:=fun _=>none
structure Thr (w:World):Prop where
  g3:Glo w 3 12
  g4:Glo w 4 80
  g5:Glo w 5 40
  g6:Glo w 6 40
theorem Thr.mod {w w':World} (h:Thr w) (m:Mod NoP w w'):Thr w':=⟨m.cell_some h.g3 fun h=>h,m.cell_some h.g4 fun h=>h,m.cell_some h.g5 fun h=>h,m.cell_some h.g6 fun h=>h⟩
def IsInt (w:World) (q:Nat) (i:Int):Prop:=∃ a n c f,IntIs w q (decide (i<0)) a n c f i.natAbs
theorem IsInt.mod {w w':World} {q:Nat} {i:Int} (h:IsInt w q i) (m:Mod NoP w w'):IsInt w' q i:=by
  obtain ⟨a,n,c,f,h⟩:=h
  exact ⟨a,n,c,f,h.mod m (fun _ h=>h) (Off.noP _)⟩
theorem swStart {w0 w:World} (m:Mod NoP w0 w) (t:Thr w) {R:List Nat} {T:List Int} {C:List (Nat × Nat × Value)} (hR:∀ (j q:Nat) (i:Int),R[j]? = some q→T[j]? = some i→IsInt w q i) (hC:∀ (j k o:Nat) (v:Value),C[j]? = some (k,o,v)→w.cell? ⟨k,o,none⟩=some v)
    (hT:∀ i,i ∈ T→i.natAbs<B64^9):SwE noOwn w0 R T C w [] []:=by
  refine ⟨noOwn,⟨fun k z _ h=>(by cases h),t.g3,t.g4,t.g5,t.g6,fun _ _=>rfl⟩,⟨fun _ _=>rfl,m.of_none,fun k z _ h=>(by cases h)⟩,rfl,fun j q i h=>by simp at h,fun j q h=>by simp at h,fun i j q h=>by simp at h,fun j q i hq hi => ?_,fun j k o v h=>⟨hC j k o v h,rfl⟩,fun i h=>by simp at h,hT⟩
  obtain ⟨a,n,c,f,h⟩:=hR j q i hq hi
  exact ⟨⟨a,n,c,f,h,.inr ⟨rfl,fun _ _=>rfl⟩⟩,rfl⟩
theorem SwE.set {own0:Nat→Option Nat} {w0 w:World} {R P:List Nat} {T V:List Int} {C:List (Nat × Nat × Value)} {i:Int} (h:SwE own0 w0 R T C w P V) (c:Nat) {pz px:Nat} (hc:P[c]? = some pz) (hx:Look P V R T px i) (V':List Int) (hV:V.set c i=V') :
    Calls Tryz.prog 47 #[.pointer (some ⟨pz,0,none⟩),.pointer (some ⟨px,0,none⟩)] w fun e w'=>e=.returned (.pointer (some ⟨pz,0,none⟩))∧SwE own0 w0 R T C w' P V':=by
  obtain ⟨own,s⟩:=h
  obtain ⟨k,hz⟩:=s.at_ hc
  refine (setStep own w pz px k i s.env hz (s.wr c pz hc).1 (s.int hx) (s.bd hx)).mono ?_
  rintro e w' ⟨rfl,hs⟩
  obtain ⟨own',s',_⟩:=s.put hc (s.bd hx) hs
  exact ⟨rfl,own',hV ▸ s'⟩
theorem SwE.dropR {own0:Nat→Option Nat} {w0 w:World} {P:List Nat} {V:List Int} {C:List (Nat × Nat × Value)} {q0 q1 q2 q3 q4:Nat} {i0 i1 i2 i3 i4:Int} (h:SwE own0 w0 [q0,q1,q2,q3,q4] [i0,i1,i2,i3,i4] C w P V):SwE own0 w0 [q0,q1,q2,q3] [i0,i1,i2,i3] C w P V:=by
  obtain ⟨own,s⟩:=h
  refine ⟨own,s.env,s.ext,s.len,s.ints,s.wr,s.inj,fun j q i hq hi => ?_,s.caps,s.bdV,fun i hi=>s.bdT i (by simp at hi ⊢;rcases hi with h | h | h | h <;> simp [h])⟩
  have hj:j<4:=by have:=(List.getElem?_eq_some_iff.1 hq).1;simpa using this
  obtain rfl | rfl | rfl | rfl:j=0∨j=1∨j=2∨j=3:=by omega
  · exact s.rd 0 q i hq hi
  · exact s.rd 1 q i hq hi
  · exact s.rd 2 q i hq hi
  · exact s.rd 3 q i hq hi
theorem SwE.dropC {own0:Nat→Option Nat} {w0 w:World} {R P:List Nat} {T V:List Int} {C:List (Nat × Nat × Value)} {a b:Nat × Nat × Value} (h:SwE own0 w0 R T (a :: b :: C) w P V):SwE own0 w0 R T C w P V:=by
  obtain ⟨own,s⟩:=h
  exact ⟨own,s.env,s.ext,s.len,s.ints,s.wr,s.inj,s.rd,fun j k o v hj=>s.caps (j+2) k o v (by simpa using hj),s.bdV,s.bdT⟩
structure MapOk (p B mz u C2:Nat):Prop where
  pr:Pr p
  h4:p%4=3
  ub:u<p
  big:4*B64+3≤p
  lt:p<B64^9
  d:jD p mz u≠0
  bB:B<B64^9
  bm:mz<B64^9
  bC:C2<B64^9
set_option maxRecDepth 100000 in
set_option maxHeartbeats 1000000 in
theorem clo80 (own0:Nat→Option Nat) (w0 w:World) (p B mz u C2 pu pZ pC2 pB pp prm go L bg:Nat) (O:MapOk p B mz u C2) (c0:w.cell? ⟨bg,0,none⟩=some (.iface 125 (.pointer (some ⟨prm,0,none⟩)))) (c1:w.cell? ⟨bg,1,none⟩=some (.slice (some ⟨go,0,none⟩) L L))
    (h:SwE own0 w0 [pZ,pC2,pB,pp] [-(mz:Int),(C2:Int),(B:Int),(p:Int)] [(prm,0,.pointer (some ⟨pp,0,none⟩)),(prm,2,.pointer (some ⟨pB,0,none⟩))] w [pu] [(u:Int)]) :
    Calls Tryz.prog 80 #[.pointer (some ⟨pu,0,none⟩),.pointer (some ⟨bg,0,none⟩),.pointer (some ⟨pZ,0,none⟩),.pointer (some ⟨pC2,0,none⟩)] w
      (MapRet own0 w0 p B mz u C2 (.iface 125 (.pointer (some ⟨prm,0,none⟩))) (.slice (some ⟨go,0,none⟩) L L)):=by
  have H:=Lib.hid (sswu_any own0 w0 w p B mz u C2 pu pZ pC2 pB pp prm go L O.pr O.h4 O.ub O.big O.lt O.d h)
  clear h O
  go_enter Tryz.func80,Tryz.ntmps80
  go_wp2_with fail
  refine H.out.mono ?_
  rintro e w' hr
  have HR:=Lib.hid hr
  obtain ⟨t,el,px,py,_,_,rfl,_⟩:=hr
  clear H c0 c1
  go_wp2_with fail
  go_ret
  exact HR.out
theorem assertG (W:World) (v:Value):(Instr.typeAssert (.iface 108 v) 58 108 false).run Tryz.prog W=.ok v W:=by kernel_rfl
def EltRet (w:World) (p B mz u C2:Nat) (g0 g1:Value) (e:Ending) (w':World):Prop :=
  ∃ (t el px py:Nat),t<p∧iMul p (jD p mz u) (t:Int)=1∧e=.returned (.iface 113 (.pointer (some ⟨el,0,none⟩)))∧w.heap.size≤el ∧
    w'.heap[el]? = some (.cells #[.pointer (some ⟨px,0,none⟩),.pointer (some ⟨py,0,none⟩),g0,g1] 131 (0,0))∧Mod NoP w w'∧IsInt w' px (jX p B mz u (t:Int))∧IsInt w' py (jY p B mz u C2)
theorem MapRet.elt {w w':World} {p B mz u C2:Nat} {g0 g1:Value} {e:Ending} (h:MapRet noOwn w p B mz u C2 g0 g1 e w'):∃ el,e=.returned (.pointer (some ⟨el,0,none⟩))∧EltRet w p B mz u C2 g0 g1 (.returned (.iface 113 (.pointer (some ⟨el,0,none⟩)))) w':=by
  obtain ⟨t,el,px,py,h1,h2,rfl,h4,h5,own',E,x,hx,hy,_⟩:=h
  obtain ⟨a,n,c,f,hI,_⟩:=hx
  obtain ⟨a',n',c',f',hJ,_⟩:=hy
  exact ⟨el,rfl,t,el,px,py,h1,h2,rfl,h4,h5,x.mod.mono (fun k o _ ⟨z,_,hz⟩=>(by cases hz)),⟨a,n,c,f,hI⟩,⟨a',n',c',f',hJ⟩⟩
set_option maxRecDepth 100000 in
set_option maxHeartbeats 2000000 in
theorem zzMap (k:Nat) (hk:k≤2) (g:Value) (lo pu u:Nat) (w:World) (ea:Addr) (hE:Eof w ea) (hT:Thr w) (hG:GrpIs w lo k g) (hU:IsInt w pu (u:Int)) (O:MapOk (pK k) (bK k) (mzK k) u (c2K k)) :
    Calls Tryz.prog 39 #[.iface 108 g,.pointer (some ⟨pu,0,none⟩)] w fun e w'=>∃ g0 g1,g=.agg #[g0,g1]∧EltRet w (pK k) (bK k) (mzK k) u (c2K k) g0 g1 e w':=by
  obtain ⟨prm,go,rfl,hl1,hl2,⟨bp,bn,bb,bXX,bY,nm,hc,hl3,hP,hN,hB,hXY⟩,hO⟩:=hG
  have hmk:∀ (q v:Nat) (w:World) (lo:Nat),IntAt w lo q v→IsInt w q (v:Int):=fun q v w lo ⟨a,n,c,f,h,_⟩=>⟨a,n,c,f,by rw [decide_eq_false (by omega),Int.natAbs_natCast];exact h⟩
  have hPI:=hmk _ _ _ _ hP
  have hBI:=hmk _ _ _ _ hB
  have c5:w.cell? ⟨prm,5,none⟩=some (.int .i64 (bitsK k:Int)):=by rw [cell?_of_heap hc];rfl
  have cc0:w.cell? ⟨prm,0,none⟩=some (.pointer (some ⟨bp,0,none⟩)):=by rw [cell?_of_heap hc];rfl
  have cc2:w.cell? ⟨prm,2,none⟩=some (.pointer (some ⟨bb,0,none⟩)):=by rw [cell?_of_heap hc];rfl
  have bx:=box2 w (.iface 125 (.pointer (some ⟨prm,0,none⟩))) (.slice (some ⟨go,0,none⟩) (lenK k) (lenK k)) 108
  have m1:Mod NoP w (w.alloc (.cells #[.iface 125 (.pointer (some ⟨prm,0,none⟩)),.slice (some ⟨go,0,none⟩) (lenK k) (lenK k)] 108 (0,0))):=(Mod.refl NoP w).alloc _
  have HPAR:=Lib.hid (par_any k hk prm go (lenK k) _ ea (m1.cell_some hE fun h=>h) (m1.cell_some c5 fun h=>h))
  have HF:=Lib.hid (And.intro hT (And.intro hPI (And.intro hBI (And.intro cc0 (And.intro cc2 hU)))))
  have HO:=Lib.hid O
  have ha:=fun W v=>assertG W v
  clear hE hT hc hP hN hB hXY hO c5 cc0 cc2 hPI hBI hU hmk O hl1 hl2 hl3 nm bY bn bXX
  obtain ⟨L,hL⟩:∃ L,L=lenK k:=⟨_,rfl⟩
  rw [← hL] at bx m1 HPAR ⊢
  clear hL
  go_enter Tryz.func39,Tryz.ntmps39
  go_upto_region 2 with fail
  generalize hw1:w.alloc (.cells #[.iface 125 (.pointer (some ⟨prm,0,none⟩)),.slice (some ⟨go,0,none⟩) L L] 108 (0,0))=w1 at *
  clear hw1
  obtain ⟨bx0,bx1⟩:=bx
  have M1:=Lib.hid m1
  clear m1
  go_wp2_with fail
  refine HPAR.out.mono ?_
  rintro e w2 ⟨bg,pz,pc,az,ac,nz,cz,nc,cc,fz,fc,h,l,rfl,r1,r2,r3,r4,r5,r6,r7,r8,r9⟩
  have m2:Mod NoP w w2:=M1.out.trans r4
  have ST:=Lib.hid (swStart (w0:=w) m2 (HF.out.1.mod m2) (R:=[pz,pc,bb,bp,pu]) (T:=[-(mzK k:Int),(c2K k:Int),(bK k:Int),(pK k:Int),(u:Int)])
    (C:=[(bg,0,.iface 125 (.pointer (some ⟨prm,0,none⟩))),(bg,1,.slice (some ⟨go,0,none⟩) L L),(prm,0,.pointer (some ⟨bp,0,none⟩)),(prm,2,.pointer (some ⟨bb,0,none⟩))]) (by
      intro j q i hq hi
      have hj:j<5:=by have:=(List.getElem?_eq_some_iff.1 hq).1;simpa using this
      obtain rfl | rfl | rfl | rfl | rfl:j=0∨j=1∨j=2∨j=3∨j=4:=by omega
      · cases hq;cases hi
        have hmz:0<mzK k:=by
          obtain rfl | rfl | rfl:k=0∨k=1∨k=2:=by omega
          all_goals decide
        exact ⟨az,nz,cz,fz,by rw [decide_eq_true (by omega),Int.natAbs_neg,Int.natAbs_natCast];exact r2⟩
      · cases hq;cases hi
        exact ⟨ac,nc,cc,fc,by rw [decide_eq_false (by omega),Int.natAbs_natCast];exact r3⟩
      · cases hq;cases hi
        exact HF.out.2.2.1.mod m2
      · cases hq;cases hi
        exact HF.out.2.1.mod m2
      · cases hq;cases hi
        exact HF.out.2.2.2.2.2.mod m2) (by
      intro j k' o v hq
      have hj:j<4:=by have:=(List.getElem?_eq_some_iff.1 hq).1;simpa using this
      obtain rfl | rfl | rfl | rfl:j=0∨j=1∨j=2∨j=3:=by omega
      · cases hq;rw [cell?_of_heap r1];rfl
      · cases hq;rw [cell?_of_heap r1];rfl
      · cases hq;exact m2.cell_some HF.out.2.2.2.1 fun h=>h
      · cases hq;exact m2.cell_some HF.out.2.2.2.2.1 fun h=>h) (by
      intro i hi
      have hO:=HO.out
      simp at hi
      rcases hi with rfl | rfl | rfl | rfl | rfl
      · rw [Int.natAbs_neg,Int.natAbs_natCast];exact hO.bm
      · rw [Int.natAbs_natCast];exact hO.bC
      · rw [Int.natAbs_natCast];exact hO.bB
      · rw [Int.natAbs_natCast];exact hO.lt
      · rw [Int.natAbs_natCast];exact Nat.lt_trans hO.ub hO.lt))
  have S1:=Lib.hid ST.out.new
  clear r1 r2 r3 r4 r5 r6 r7 r8 r9 m2 ST HF bx0 bx1 HPAR
  have HSET:=Lib.hid (S1.out.set 0 rfl (.r 4 rfl rfl) [(u:Int)] rfl)
  clear S1
  go_wp2_with fail
  refine HSET.out.mono ?_
  rintro e w3 ⟨rfl,s⟩
  have HCL:=Lib.hid (clo80 noOwn w w3 (pK k) (bK k) (mzK k) u (c2K k) _ pz pc bb bp prm go L bg HO.out (s.cap 0 rfl) (s.cap 1 rfl) s.dropC.dropR)
  clear s HSET
  go_wp2_with fail
  refine HCL.out.mono ?_
  rintro e w4 hr
  obtain ⟨el,rfl,hel⟩:=hr.elt
  have RES:=Lib.hid hel
  clear hr hel HCL
  go_wp2_with fail
  go_ret
  exact ⟨_,_,rfl,RES.out⟩
end
section
open Go Go.ChangeShapes Go.WideShapes Go.ChangeAt Go.RowKit Go.WideElems
section
variable {H:Type} {enc:TypeId × Value→H} {P:Program} {w:World} {spare:Nat→Bool}
theorem trodVars_six {n0 n1 n2 n3 n4 n5:String} {gs:List (DataW H)} {ps:List MemPlace} (h:DataW.TrodVars enc P w spare [n0,n1,n2,n3,n4,n5] gs ps):∃ d0 d1 d2 d3 d4 d5,gs=[d0,d1,d2,d3,d4,d5]:=by
  cases gs with
  | nil=>simp [DataW.TrodVars] at h
  | cons d0 gs =>
  obtain ⟨_,_,_,_,_,_,_,_,_,_,h,_⟩:=h
  cases gs with
  | nil=>simp [DataW.TrodVars] at h
  | cons d1 gs =>
  obtain ⟨_,_,_,_,_,_,_,_,_,_,h,_⟩:=h
  cases gs with
  | nil=>simp [DataW.TrodVars] at h
  | cons d2 gs =>
  obtain ⟨_,_,_,_,_,_,_,_,_,_,h,_⟩:=h
  cases gs with
  | nil=>simp [DataW.TrodVars] at h
  | cons d3 gs =>
  obtain ⟨_,_,_,_,_,_,_,_,_,_,h,_⟩:=h
  obtain ⟨_,_,_,_,_,_,_,_,_,_,_,_,rfl,_⟩:=trodVars_two h
  exact ⟨_,_,_,_,_,_,rfl⟩
theorem laid_int {n:String} {z:Int} {r:List (String × DataW Unit)} {g t:Nat} (h:laidMet P ((n,.lit (.int .i64 z)) :: r) w) (hg:P.globalNamed n=some g) (ht:(P.globals[g]?).map (·.type)=some t) (hi:P.underlying t=some (.int .i64)):w.cell? ⟨g,0,none⟩=some (.int .i64 z):=by
  obtain ⟨ps,⟨g0,t0,cs0,f0,p0,q0,hg0,ht0,hv0,hd0,_,e0⟩,_,_⟩:=h
  obtain rfl:=Option.some.inj (hg.symm.trans hg0)
  obtain rfl:=Option.some.inj (ht.symm.trans ht0)
  obtain ⟨m,h,hx,hw⟩:=DataW.trod_int hi hd0
  simp only [Prod.mk.injEq,DataW.lit.injEq,Lit.int.injEq] at hx
  obtain ⟨⟨_,rfl⟩,_⟩:=hx
  have:=World.var?_cell hg0 hv0 0
  obtain ⟨l⟩:=cs0
  simp at h
  subst h
  simpa using this
end
abbrev mapLaid:List (String × DataW Unit):=Rows.fnExactMapRow.laid
theorem gSqr:Tryz.prog.globalNamed "loop.example/pub-pointsofhashes/pub/bigall.basicSqrThreshold" = some 3:=by kernel_rfl
theorem gKSqr:Tryz.prog.globalNamed "loop.example/pub-pointsofhashes/pub/bigall.karatsubaSqrThreshold" = some 4:=by kernel_rfl
theorem gKar:Tryz.prog.globalNamed "loop.example/pub-pointsofhashes/pub/bigall.karatsubaThreshold" = some 5:=by kernel_rfl
theorem gDiv:Tryz.prog.globalNamed "loop.example/pub-pointsofhashes/pub/bigall.divRecursiveThreshold" = some 6:=by kernel_rfl
theorem gSqrT:(Tryz.prog.globals[3]?).map (·.type)=some 3:=by kernel_rfl
theorem gKSqrT:(Tryz.prog.globals[4]?).map (·.type)=some 3:=by kernel_rfl
theorem gKarT:(Tryz.prog.globals[5]?).map (·.type)=some 3:=by kernel_rfl
theorem gDivT:(Tryz.prog.globals[6]?).map (·.type)=some 3:=by kernel_rfl
theorem thr_of_laid {W:World} (h:laidMet Tryz.prog mapLaid W):Thr W:=by
  have h3:=h.tail.tail.tail.tail.tail
  have a6:=laid_int h3 gDiv gDivT Tryz.underlying3
  have a5:=laid_int h3.tail gKar gKarT Tryz.underlying3
  have a3:=laid_int h3.tail.tail gSqr gSqrT Tryz.underlying3
  have a4:=laid_int h3.tail.tail.tail gKSqr gKSqrT Tryz.underlying3
  exact ⟨a3,a4,a5,a6⟩
theorem eof_of_map {W:World} (h:laidMet Tryz.prog mapLaid W):∃ a:Addr,W.cell? ⟨0,0,none⟩=some (.iface 254 (.pointer (some a))):=eof_of_laid h.tail.tail
def putVar (h:Array Obj) (g:Nat) (cs:Array Value):Array Obj:=h.modify g fun
  | .cells _ t frozen=>.cells cs t frozen
  | o=>o
noncomputable def mapWorld (os:Os):World :=
  let w0:=World.holding Tryz.prog os ⟨#[.cells #[.string eofS] 316,.cells #[.string invalSepS] 316,.cells #[.string noDigitsS] 316],#[],[]⟩
  let h0:=putVar (putVar (putVar w0.heap 0 #[.iface 254 (.pointer (some ⟨low,0,none⟩))]) 1 #[.iface 254 (.pointer (some ⟨low+1,0,none⟩))]) 2 #[.iface 254 (.pointer (some ⟨low+2,0,none⟩))]
  let h1:=putVar (putVar (putVar (putVar h0 3 #[.int .i64 12]) 4 #[.int .i64 80]) 5 #[.int .i64 40]) 6 #[.int .i64 40]
  { w0 with heap:=putVar (putVar h1 7 #[.int .u8 0,.int .u8 1,.int .u8 28,.int .u8 2,.int .u8 29,.int .u8 14,.int .u8 24,.int .u8 3,.int .u8 30,.int .u8 22,.int .u8 20,.int .u8 15,.int .u8 25,.int .u8 17,.int .u8 4,.int .u8 8,.int .u8 31,.int .u8 27,.int .u8 13,.int .u8 23,.int .u8 21,.int .u8 19,.int .u8 16,.int .u8 7,.int .u8 26,.int .u8 12,.int .u8 18,.int .u8 6,.int .u8 11,.int .u8 5,.int .u8 10,.int .u8 9]) 8 #[.int .u8 0,.int .u8 1,.int .u8 56,.int .u8 2,.int .u8 57,.int .u8 49,.int .u8 28,.int .u8 3,.int .u8 61,.int .u8 58,.int .u8 42,.int .u8 50,.int .u8 38,.int .u8 29,.int .u8 17,.int .u8 4,.int .u8 62,.int .u8 47,.int .u8 59,.int .u8 36,.int .u8 45,.int .u8 43,.int .u8 51,.int .u8 22,.int .u8 53,.int .u8 39,.int .u8 33,.int .u8 30,.int .u8 24,.int .u8 18,.int .u8 12,.int .u8 5,.int .u8 63,.int .u8 55,.int .u8 48,.int .u8 27,.int .u8 60,.int .u8 41,.int .u8 37,.int .u8 16,.int .u8 46,.int .u8 35,.int .u8 44,.int .u8 21,.int .u8 52,.int .u8 32,.int .u8 23,.int .u8 11,.int .u8 54,.int .u8 26,.int .u8 40,.int .u8 15,.int .u8 34,.int .u8 20,.int .u8 31,.int .u8 10,.int .u8 25,.int .u8 14,.int .u8 19,.int .u8 9,.int .u8 13,.int .u8 8,.int .u8 7,.int .u8 6] }
set_option maxRecDepth 1000000 in
theorem mapWorld_met (os:Os) (args:Array Value):laidMet Tryz.prog mapLaid ((mapWorld os).forCall (fun _ _=>0) ⟨#[],args,[]⟩).memory :=
  laidMet_of_run' 8 (by kernel_rfl) (by kernel_rfl)
end
section
open Go Go.RowKit
theorem IsInt.own {w:World} {q:Nat} {i:Int} (h:IsInt w q i):IntO noOwn w q i:=by
  obtain ⟨a,n,c,f,h⟩:=h
  exact ⟨a,n,c,f,h,.inr ⟨rfl,fun _ _=>rfl⟩⟩
set_option maxRecDepth 100000 in
theorem isId_any (el px py x y:Nat) (w:World) (c0:w.cell? ⟨el,0,none⟩=some (.pointer (some ⟨px,0,none⟩))) (c1:w.cell? ⟨el,1,none⟩=some (.pointer (some ⟨py,0,none⟩))) (hx:IsInt w px (x:Int)) (hy:IsInt w py (y:Int)) (hne:¬ (x=0∧y=0)) :
    Calls Tryz.prog 255 #[.pointer (some ⟨el,0,none⟩)] w fun e w'=>e=.returned (.bool false)∧w'=w:=by
  have HX:=Lib.hid (signZero px noOwn w x hx.own (by omega))
  have HY:=Lib.hid (signZero py noOwn w y hy.own (by omega))
  clear hx hy
  by_cases h:x=0
  · have e1:decide ((x:Int)=0)=true:=decide_eq_true (by omega)
    have e2:decide ((y:Int)=0)=false:=decide_eq_false (by omega)
    rw [e1] at HX
    rw [e2] at HY
    clear e1 e2 h hne
    go_enter Tryz.func255,Tryz.ntmps255
    go_wp2_with fail
    refine HX.out.mono ?_
    rintro e w' ⟨⟨s,rfl,hs⟩,hw'⟩
    obtain rfl:=hw'.symm
    go_wp2_with fail
    refine HY.out.mono ?_
    rintro e w' ⟨⟨s2,rfl,hs2⟩,hw'⟩
    obtain rfl:=hw'.symm
    go_wp2_with fail
    go_ret
    exact ⟨by simp [hs2],rfl⟩
  · have e1:decide ((x:Int)=0)=false:=decide_eq_false (by omega)
    rw [e1] at HX
    clear e1 h hne HY
    go_enter Tryz.func255,Tryz.ntmps255
    go_wp2_with fail
    refine HX.out.mono ?_
    rintro e w' ⟨⟨s,rfl,hs⟩,hw'⟩
    obtain rfl:=hw'.symm
    go_wp2_with fail
    go_ret
    exact ⟨by simp [hs],rfl⟩
set_option maxRecDepth 100000 in
theorem group_any (el prm go L:Nat) (w:World) (c2:w.cell? ⟨el,2,none⟩=some (.iface 125 (.pointer (some ⟨prm,0,none⟩)))) (c3:w.cell? ⟨el,3,none⟩=some (.slice (some ⟨go,0,none⟩) L L)) :
    Calls Tryz.prog 253 #[.pointer (some ⟨el,0,none⟩)] w fun e w'=>e=.returned (.iface 108 (.agg #[.iface 125 (.pointer (some ⟨prm,0,none⟩)),.slice (some ⟨go,0,none⟩) L L]))∧w'=w:=by
  go_enter Tryz.func253,Tryz.ntmps253
  go_wp2_with fail
  go_ret
  exact ⟨rfl,rfl⟩
set_option maxRecDepth 100000 in
theorem params238 (k:Nat) (hk:k≤2) (prm go lo:Nat) (w:World) (hG:GrpIs w lo k (.agg #[.iface 125 (.pointer (some ⟨prm,0,none⟩)),.slice (some ⟨go,0,none⟩) (lenK k) (lenK k)])) :
    Calls Tryz.prog 238 #[.agg #[.iface 125 (.pointer (some ⟨prm,0,none⟩)),.slice (some ⟨go,0,none⟩) (lenK k) (lenK k)]] w fun e w'=>∃ p,e=.returned (.pointer (some ⟨p,0,none⟩))∧w'.cell? ⟨p,2,none⟩=some (.int .u64 (lenK k:Int))∧Mod NoP w w':=by
  have hl:=lenK_le k hk
  have m1:Mod NoP w (w.alloc (.cells #[.iface 125 (.pointer (some ⟨prm,0,none⟩)),.slice (some ⟨go,0,none⟩) (lenK k) (lenK k)] 108 (0,0))):=(Mod.refl NoP w).alloc _
  have H:=Lib.hid (byteSize_any k hk _ lo _ (hG.mod m1 nop))
  have bx:=box2 w (.iface 125 (.pointer (some ⟨prm,0,none⟩))) (.slice (some ⟨go,0,none⟩) (lenK k) (lenK k)) 108
  obtain ⟨bx0,bx1⟩:=bx
  have M1:=Lib.hid m1
  clear hG m1
  generalize lenK k=L at *
  have w1:IntKind.u64.wrap (L:Int)=(L:Int):=by rw [IntKind.wrap_u64];omega
  go_enter Tryz.func238,Tryz.ntmps238
  go_upto_region 1 with fail
  generalize hw1:w.alloc (.cells #[.iface 125 (.pointer (some ⟨prm,0,none⟩)),.slice (some ⟨go,0,none⟩) L L] 108 (0,0))=wb at *
  clear hw1
  go_wp2_with fail
  refine H.out.mono ?_
  rintro e w2 ⟨rfl,m2⟩
  have M2:=Lib.hid (M1.out.trans m2)
  clear m2 H bx0 bx1
  go_wp2_with fail
  go_ret
  exact ⟨_,rfl,by rw [cell?_of_heap (heap_alloc_new w2 _)];rfl,M2.out.alloc _⟩
theorem methodPar (W:World) (g:Value):(method 424 108 g "Params").run Tryz.prog W=.ok (238,g) W:=by kernel_rfl
theorem methodId (W:World) (a:Addr):(method 424 113 (.pointer (some a)) "IsIdentity").run Tryz.prog W=.ok (255,.pointer (some a)) W:=by kernel_rfl
theorem methodGrp (W:World) (a:Addr):(method 424 113 (.pointer (some a)) "Group").run Tryz.prog W=.ok (253,.pointer (some a)) W:=by kernel_rfl
theorem assertE (W:World) (v:Value):(Instr.typeAssert (.iface 113 v) 79 113 false).run Tryz.prog W=.ok v W:=by kernel_rfl
set_option maxRecDepth 100000 in
theorem size56 (k:Nat) (hk:k≤2) (prm go lo:Nat) (w:World) (hG:GrpIs w lo k (.agg #[.iface 125 (.pointer (some ⟨prm,0,none⟩)),.slice (some ⟨go,0,none⟩) (lenK k) (lenK k)])) :
    Calls Tryz.prog 56 #[.iface 108 (.agg #[.iface 125 (.pointer (some ⟨prm,0,none⟩)),.slice (some ⟨go,0,none⟩) (lenK k) (lenK k)])] w fun e w'=>e=.returned (.int .i64 (lenK k:Int))∧Mod NoP w w':=by
  have hl:=lenK_le k hk
  have H:=Lib.hid (params238 k hk prm go lo w hG)
  have hme:=fun W g=>methodPar W g
  clear hG
  generalize lenK k=L at *
  have w1:IntKind.i64.wrap (L:Int)=(L:Int):=by rw [IntKind.wrap_i64];omega
  go_enter Tryz.func56,Tryz.ntmps56
  go_wp2_with fail
  refine H.out.mono ?_
  rintro e w2 ⟨p,rfl,c2,m2⟩
  have M2:=Lib.hid m2
  clear m2 H
  go_wp2_with fail
  go_ret
  exact ⟨by first | rfl | simp [w1],M2.out⟩
def IntNew (w w':World) (pn v:Nat):Prop:=∃ a n c f,IntIs w' pn false a n c f v∧Mod (InB pn) w w'∧(a=none∨Fresh w a)
theorem setNew (w:World) (pn q v:Nat) (hz:w.heap[pn]? = some (.cells #[.bool false,.slice none 0 0] 51 (0,0))) (hx:IsInt w q (v:Int)) (hv:v<B64^9) (hne:pn≠q) :
    Calls Tryz.prog 47 #[.pointer (some ⟨pn,0,none⟩),.pointer (some ⟨q,0,none⟩)] w fun e w'=>e=.returned (.pointer (some ⟨pn,0,none⟩))∧IntNew w w' pn v:=by
  obtain ⟨a,n,c,f,h⟩:=hx
  rw [decide_eq_false (by omega),Int.natAbs_natCast] at h
  refine (intSet_any pn q 0 0 n c 0 v false false none a (fun _=>0) f w ⟨hz,⟨.nil _ _,Nat.le_refl _,rfl,.inl rfl⟩,fun A hA=>by cases hA⟩ h (by have:=h.num.len_le hv;omega) hne (fun A hA=>by cases hA)).mono ?_
  rintro e w' ⟨rfl,a',n',c',f',hI,hm,hf⟩
  exact ⟨rfl,a',n',c',f',hI,hm.mono fun k o _ hh=>(by
    rcases hh with hh | ⟨A,hA,_⟩
    · exact hh
    · cases hA),hf⟩
end
section
open Go Go.RowKit
theorem Mod.fresh' {w0 wa w2:World} {b:Nat} (m:Mod NoP w0 wa) (h:Mod (InB b) wa w2) (hb:w0.heap.size≤b):Mod NoP w0 w2:=m.trans' h fun k o hk hh=>by unfold InB at hh;omega
def AffRet (w:World) (x y:Nat) (e:Ending) (w':World):Prop :=
  ∃ (px py:Nat),e=.returned (.tuple #[.pointer (some ⟨px,0,none⟩),.pointer (some ⟨py,0,none⟩)])∧IsInt w' px (x:Int)∧IsInt w' py (y:Int)∧Mod NoP w w'
theorem IntNew.nop {w w1 w2:World} {pn v:Nat} (m:Mod NoP w w1) (h:IntNew w1 w2 pn v) (hp:w.heap.size≤pn):Mod NoP w w2∧IsInt w2 pn (v:Int):=by
  obtain ⟨a,n,c,f,hI,hm,_⟩:=h
  exact ⟨m.fresh' hm hp,a,n,c,f,by rw [decide_eq_false (by omega),Int.natAbs_natCast];exact hI⟩
theorem IntNew.keep {w1 w2 w3 w4:World} {pn pm v u:Nat} (h:IntNew w1 w2 pn v) (m:Mod NoP w2 w3) (k:IntNew w3 w4 pm u) (hne:pn≠pm) (hlt:pm<w1.heap.size∨w2.heap.size≤pm) (hA:True):IsInt w4 pn (v:Int):=by
  obtain ⟨a,n,c,f,hI,hm,hf⟩:=h
  obtain ⟨_,_,_,_,_,hm2,_⟩:=k
  have hI3:=hI.mod m (fun _ h=>h) (Off.noP _)
  have hI4:IntIs w4 pn false a n c f v:=hI3.mod hm2 (fun o hh=>hne hh) fun A hA o hh=>by
    unfold InB at hh
    have h1:A.block<w2.heap.size:=hI.ltA A hA
    have h2:=m.size
    rcases hlt with h | h
    · rcases hf with rfl | ⟨k,e,hk⟩
      · cases hA
      · have:A.block=k:=by rw [e] at hA;cases hA;rfl
        omega
    · omega
  exact ⟨a,n,c,f,by rw [decide_eq_false (by omega),Int.natAbs_natCast];exact hI4⟩
theorem IntNew.lt {w w':World} {pn v:Nat} (h:IntNew w w' pn v):pn<w'.heap.size:=by
  obtain ⟨a,n,c,f,hI,_⟩:=h
  exact lt_of_heap hI.cells
theorem IntNew.heap {w w':World} {pn v k:Nat} (h:IntNew w w' pn v) (hk:k<w.heap.size) (hne:k≠pn):w'.heap[k]? = w.heap[k]? := by
  obtain ⟨a,n,c,f,hI,hm,_⟩:=h
  exact hm.heap hk fun o hh=>hne hh
@[reducible] def ZI:Obj:=.cells #[.bool false,.slice none 0 0] 51 (0,0)
set_option maxRecDepth 100000 in
set_option maxHeartbeats 4000000 in
theorem affine_any (el px py x y:Nat) (w:World) (c0:w.cell? ⟨el,0,none⟩=some (.pointer (some ⟨px,0,none⟩))) (c1:w.cell? ⟨el,1,none⟩=some (.pointer (some ⟨py,0,none⟩))) (hx:IsInt w px (x:Int)) (hy:IsInt w py (y:Int)) (bx:x<B64^9) (b_y:y<B64^9) :
    Calls Tryz.prog 55 #[.iface 113 (.pointer (some ⟨el,0,none⟩))] w (AffRet w x y):=by
  have lx:px<w.heap.size:=by obtain ⟨a,n,c,f,h⟩:=hx;exact lt_of_heap h.cells
  have ly:py<w.heap.size:=by obtain ⟨a,n,c,f,h⟩:=hy;exact lt_of_heap h.cells
  have HX:Hid (∀ w1 pn,Mod NoP w w1→w1.heap[pn]? = some (.cells #[.bool false,.slice none 0 0] 51 (0,0))→w.heap.size≤pn→Calls Tryz.prog 47 #[.pointer (some ⟨pn,0,none⟩),.pointer (some ⟨px,0,none⟩)] w1 fun e w'=>e=.returned (.pointer (some ⟨pn,0,none⟩))∧IntNew w1 w' pn x) :=
    Lib.hid fun w1 pn m hz hp=>setNew w1 pn px x hz (hx.mod m) bx (by omega)
  have HY:Hid (∀ w1 pn,Mod NoP w w1→w1.heap[pn]? = some (.cells #[.bool false,.slice none 0 0] 51 (0,0))→w.heap.size≤pn→Calls Tryz.prog 47 #[.pointer (some ⟨pn,0,none⟩),.pointer (some ⟨py,0,none⟩)] w1 fun e w'=>e=.returned (.pointer (some ⟨pn,0,none⟩))∧IntNew w1 w' pn y) :=
    Lib.hid fun w1 pn m hz hp=>setNew w1 pn py y hz (hy.mod m) b_y (by omega)
  have hK:∀ w',Mod NoP w w'→(w'.cell? ⟨el,0,none⟩=some (.pointer (some ⟨px,0,none⟩))∧w'.cell? ⟨el,1,none⟩=some (.pointer (some ⟨py,0,none⟩))∧Mod NoP w w'):=fun w' m=>⟨m.cell_some c0 fun h=>h,m.cell_some c1 fun h=>h,m⟩
  have HK:=Lib.hid hK
  have ha:=fun W v=>assertE W v
  clear hx hy hK lx ly c0 c1 bx b_y
  go_enter Tryz.func55,Tryz.ntmps55
  go_upto_region 2 with fail
  clear ha
  have hd:=HK.out w.drew (Mod.refl NoP w).drew
  go_region_held3 (fun w'=>w'.cell? ⟨el,0,none⟩=some (.pointer (some ⟨px,0,none⟩))∧w'.cell? ⟨el,1,none⟩=some (.pointer (some ⟨py,0,none⟩))∧Mod NoP w w')
    (first | exact hd | (go_split_ands;refine HK.out _ ?_;(repeat (first | assumption | exact Mod.refl NoP _ | refine Mod.drew ?_ | refine Mod.alloc ?_ _))))
    (first
      | (go_at_call_of 47 (Value.pointer (some ⟨px,0,none⟩));refine (HX.out _ _ ?hm ?hz ?hl).mono ?_;(case hm=>go_split_ands;assumption);(case hz=>first | exact heap_alloc_new w ZI | exact (two_new w ZI ZI).1 | exact (two_new w ZI ZI).2.1);(case hl=>first | exact Nat.le_refl _ | exact Nat.le_succ _);rintro e wx ⟨rfl,ix⟩;obtain ⟨mx,_⟩:=IntNew.nop (w:=w) (by go_split_ands;assumption) ix (by first | exact Nat.le_refl _ | exact Nat.le_succ _))
      | (go_at_call_of 47 (Value.pointer (some ⟨py,0,none⟩));refine (HY.out _ _ ?hm ?hz ?hl).mono ?_;(case hm=>go_split_ands;assumption);(case hz=>first | exact heap_alloc_new wx ZI | exact (ix.heap (by first | (simp;done) | (simp;omega)) (by omega)).trans (two_new w ZI ZI).1 | exact (ix.heap (by first | (simp;done) | (simp;omega)) (by omega)).trans (two_new w ZI ZI).2.1);(case hl=>first | exact mx.size | exact Nat.le_refl _ | exact Nat.le_succ _);rintro e wy ⟨rfl,iy⟩;obtain ⟨my,jy⟩:=IntNew.nop (w:=w) (by go_split_ands;assumption) iy (by first | exact mx.size | exact Nat.le_refl _ | exact Nat.le_succ _);(first | (have kx:=ix.keep ((Mod.refl NoP wx).alloc ZI) iy (Nat.ne_of_lt ix.lt) (.inr (Nat.le_refl _)) trivial) | (have kx:=ix.keep (Mod.refl NoP wx) iy (by omega) (.inl (by first | (simp;done) | (simp;omega))) trivial))))
  all_goals (go_wp2_with fail)
  all_goals (go_ret2;exact ⟨_,_,rfl,kx,jy,my⟩)
end
end Go.Proofs.YtpfmbfkhjapbbaaGreatDoor
