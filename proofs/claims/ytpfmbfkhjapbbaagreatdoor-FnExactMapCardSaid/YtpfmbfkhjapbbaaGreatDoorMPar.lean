/-
  mapToCurveParams, walked: the constants of the map of each curve, a function literal. Condition: a group of one of the three curves; io.EOF holds an errors.errorString's pointer.
-/
import Derived.Test.YtpfmbfkhjapbbaaGreatDoorMg01
import Derived.Test.YtpfmbfkhjapbbaaGreatDoorMGroups
import Derived.Test.YtpfmbfkhjapbbaaGreatDoorMg06
import Derived.Test.YtpfmbfkhjapbbaaGreatDoorMg08
import Derived.Test.YtpfmbfkhjapbbaaGreatDoorMg12
import Derived.Test.YtpfmbfkhjapbbaaGreatDoorMIntSet
set_option linter.unusedVariables false
set_option linter.unusedSimpArgs false
namespace Go.Proofs.YtpfmbfkhjapbbaaGreatDoor
open Go Go.RowKit
def ok0 (s:ByteArray) (n:Nat):Bool:=decide (s.size=n+2) && decide (0<n) && decide (n≤900) && (chr s 0 == 48) && (chr s 1 == 120) && (List.range n).all fun j=>(decide (48≤chr s (j+2)) && decide (chr s (j+2)<58)) || (decide (97≤chr s (j+2)) && decide (chr s (j+2)<103))
theorem scans_pre {s:ByteArray} {n:Nat} (h:ok0 s n=true):Scans 0 s (numOf 16 (fun j=>dig16 s (j+2)) n)∧0<s.size∧s.size≤1000∧(∀ h:0<s.size,s[0].toNat≠45∧s[0].toNat≠43):=by
  simp only [ok0,Bool.and_eq_true,Bool.or_eq_true,decide_eq_true_eq,List.all_eq_true,List.mem_range,beq_iff_eq] at h
  obtain ⟨⟨⟨⟨⟨h1,h2⟩,h3⟩,h4⟩,h5⟩,h6⟩:=h
  refine ⟨scans0 (D:=fun j=>dig16 s (j+2)) (C:=fun j=>chr s (j+2)) h1 (by rw [chr_eq];exact h4) (by rw [chr_eq];exact h5) (fun j hj=>chr_eq s (j+2) hj) (fun j hj => ?_) h2 (by omega),by omega,by omega,fun h => ?_⟩
  · have:=h6 j hj
    show (chr s (j+2)=48+dig16 s (j+2)∧dig16 s (j+2)<10)∨(chr s (j+2)=87+dig16 s (j+2)∧10≤dig16 s (j+2)∧dig16 s (j+2)<16)
    unfold dig16
    split <;> omega
  · rw [chr_eq,h4]
    omega
theorem setPre (p n:Nat) (s:ByteArray) (v:Nat) (h:ok0 s n=true) (hv:numOf 16 (fun j=>dig16 s (j+2)) n=v) (w:World) (ea:Addr) (hE:Eof w ea) (hp0:0<p) (hp:w.heap[p]? = some (.cells #[.bool false,.slice none 0 0] 51 (0,0))) :
    Calls Tryz.prog 79 #[.pointer (some ⟨p,0,none⟩),.string s,.int .i64 0] w fun e w' =>
      ∃ (a:Option Addr) (n c:Nat) (f:Nat→Nat),e=.returned (.tuple #[.pointer (some ⟨p,0,none⟩),.bool true])∧IntIs w' p false a n c f v∧(a=none∨Fresh w a)∧Mod (InB p) w w':=by
  obtain ⟨h1,h2,h3,h4⟩:=scans_pre h
  rw [hv] at h1
  exact setString_any p s w ea 0 v h1 hE h2 h3 (h4 h2).1 (h4 h2).2 hp0 hp
def strC256:ByteArray:={ data:=([48,120,55,56,98,99,55,49,97,48,50,100,56,57,101,99,48,55,50,49,52,54,50,51,102,54,100,48,102,57,53,53,48].append [55,50,99,55,99,99,48,53,54,48,52,97,53,97,54,101,50,51,102,102,98,102,54,55,49,49,53,102,97,53,51,48,49]).toArray }
def strC384:ByteArray:={ data:=([48,120,49,57,56,55,55,99,99,49,48,52,49,98,55,53,53,53,55,52,51,99,48,97,101,50,101,51,97,51,101,54,49,102,98,50,97,97,97,50,101,48,101,56,55,101,97,53].append [53,55,97,53,54,51,100,56,98,53,57,56,97,48,57,52,48,100,48,97,54,57,55,97,57,101,48,98,57,101,57,50,99,102,97,97,51,49,52,102,53,56,51,99,57,100,48,54,54]).toArray }
theorem okC256:ok0 strC256 64=true:=by kernel_rfl
theorem okC384:ok0 strC384 95=true:=by kernel_rfl
theorem valC256:numOf 16 (fun j=>dig16 strC256 (j+2)) 64=nC2_256:=by kernel_rfl
theorem valC384:numOf 16 (fun j=>dig16 strC384 (j+2)) 95=nC2_384:=by kernel_rfl
def c2K:Nat→Nat | 1=>nC2_384 | 2=>nC2_521 | _=>nC2_256
def ParRet (w:World) (k:Nat) (g0 g1:Value) (e:Ending) (w':World):Prop :=
  ∃ (bg pz pc:Nat) (az ac:Option Addr) (nz cz nc cc:Nat) (fz fc:Nat→Nat) (h l:Int),e=.returned (.tuple #[.func (.func 80) #[] #[.pointer (some ⟨bg,0,none⟩),.pointer (some ⟨pz,0,none⟩),.pointer (some ⟨pc,0,none⟩)],.int .u64 h,.int .u64 l]) ∧
    w'.heap[bg]? = some (.cells #[g0,g1] 108 (0,0))∧IntIs w' pz true az nz cz fz (mzK k)∧IntIs w' pc false ac nc cc fc (c2K k)∧Mod NoP w w'∧w.heap.size≤bg∧w.heap.size≤pz∧w.heap.size≤pc∧(∀ A,az=some A→w.heap.size≤A.block)∧(∀ A,ac=some A→w.heap.size≤A.block)
theorem parRet_of {w w0 w2 w3:World} {k bg pz pc:Nat} {g0 g1:Value} {e1:Ending} {ac:Option Addr} {nc cc:Nat} {fc:Nat→Nat} (m0:Mod NoP w w0) (hb:w0.heap[bg]? = some (.cells #[g0,g1] 108 (0,0))) (l1:w.heap.size≤bg) (l2:w.heap.size≤pz) (l3:w.heap.size≤pc) (d1:bg≠pz) (d2:bg≠pc) (d3:pz≠pc) (l4:pc<w0.heap.size)
    (hz:IntRet w0 pz none true (mzK k) e1 w2) (hI:IntIs w3 pc false ac nc cc fc (c2K k)) (m3:Mod (IntP pc none) w2 w3) (ha:ac=none∨Fresh w2 ac) (h l:Int) :
    ParRet w k g0 g1 (.returned (.tuple #[.func (.func 80) #[] #[.pointer (some ⟨bg,0,none⟩),.pointer (some ⟨pz,0,none⟩),.pointer (some ⟨pc,0,none⟩)],.int .u64 h,.int .u64 l])) w3:=by
  obtain ⟨_,az,nz,cz,fz,hI1,m2,hf⟩:=hz
  have hs:=m0.size
  have hs2:=m2.size
  have p1:∀ k o,IntP pz none k o→k=pz:=by
    rintro k o (h | ⟨A,hA,_⟩)
    · exact h
    · cases hA
  have p2:∀ k o,IntP pc none k o→k=pc:=by
    rintro k o (h | ⟨A,hA,_⟩)
    · exact h
    · cases hA
  have hb2:w2.heap[bg]? = some (.cells #[g0,g1] 108 (0,0)):=by rw [m2.heap (lt_of_heap hb) (fun o hh=>d1 (p1 _ _ hh)),hb]
  have hb3:w3.heap[bg]? = some (.cells #[g0,g1] 108 (0,0)):=by rw [m3.heap (lt_of_heap hb2) (fun o hh=>d2 (p2 _ _ hh)),hb2]
  have haz:∀ A,az=some A→w0.heap.size≤A.block:=fun A hA=>by
    rcases hf with rfl | ⟨k,e,hk⟩
    · cases hA
    · have:A.block=k:=by rw [e] at hA;cases hA;rfl
      omega
  have hoff:Off az (IntP pc none):=fun A hA o hh=>by
    have h1:=p2 _ _ hh
    have h2:=haz A hA
    have h3:=hI1.apart A hA
    omega
  refine ⟨bg,pz,pc,az,ac,nz,cz,nc,cc,fz,fc,h,l,rfl,hb3,hI1.mod m3 (fun o hh=>d3 (p2 _ _ hh)) hoff,hI,?_,l1,l2,l3,fun A hA=>by have:=haz A hA;omega,fun A hA => ?_⟩
  · exact (m0.trans' m2 fun k o hk hh=>by have:=p1 _ _ hh;omega).trans' m3 fun k o hk hh=>by have:=p2 _ _ hh;omega
  · rcases ha with rfl | ⟨k,e,hk⟩
    · cases hA
    · have:A.block=k:=by rw [e] at hA;cases hA;rfl
      omega
set_option maxRecDepth 100000 in
set_option maxHeartbeats 2000000 in
theorem par0 (prm go L:Nat) (w:World) (ea:Addr) (hE:Eof w ea) (hc:w.cell? ⟨prm,5,none⟩=some (.int .i64 256)) :
    Calls Tryz.prog 58 #[.agg #[.iface 125 (.pointer (some ⟨prm,0,none⟩)),.slice (some ⟨go,0,none⟩) L L]] w (ParRet w 0 (.iface 125 (.pointer (some ⟨prm,0,none⟩))) (.slice (some ⟨go,0,none⟩) L L)):=by
  have hme:=fun W=>methodParams W ⟨prm,0,none⟩
  have hmf:∀ (fn:Fn) (first cap:Array Value) (w:World),(Instr.makeFunc fn first cap).run Tryz.prog w=.ok (.func fn first cap) w:=fun _ _ _ _=>rfl
  have h0:0<w.heap.size:=lt_of_cell? hE
  obtain ⟨k1,k2,k3,mm0⟩:=three_new w (.cells #[.iface 125 (.pointer (some ⟨prm,0,none⟩)),.slice (some ⟨go,0,none⟩) L L] 108 (0,0)) (.cells #[.bool false,.slice none 0 0] 51 (0,0)) (.cells #[.bool false,.slice none 0 0] 51 (0,0))
  have HE:=Lib.hid hE
  clear hE
  go_enter Tryz.func58,Tryz.ntmps58
  go_upto_region 2 with fail
  generalize hw4:((w.alloc (.cells #[.iface 125 (.pointer (some ⟨prm,0,none⟩)),.slice (some ⟨go,0,none⟩) L L] 108 (0,0))).alloc (.cells #[.bool false,.slice none 0 0] 51 (0,0))).alloc (.cells #[.bool false,.slice none 0 0] 51 (0,0))=w4 at *
  clear hw4
  have hc4:=mm0.cell_some hc fun h=>h
  have hg0:w4.cell? ⟨w.heap.size,0,none⟩=some (.iface 125 (.pointer (some ⟨prm,0,none⟩))):=by rw [cell?_of_heap k1];rfl
  have HG:=Lib.hid k1
  have HZ:Hid (IntIs w4 (w.heap.size+1) false none 0 0 (fun _=>0) 0):=Lib.hid ⟨k2,⟨.nil _ _,Nat.le_refl _,rfl,.inl rfl⟩,fun A hA=>by cases hA⟩
  have HC:=Lib.hid k3
  have MM:=Lib.hid mm0
  have hl:=lt_of_heap k3
  clear k1 k2 k3 mm0 hc
  generalize hb0:w.heap.size=b0 at *
  generalize hb1:b0+1=b1 at *
  generalize hb2:b1+1=b2 at *
  have NE:Hid (0<b2∧b0≠b1∧b0≠b2∧b1≠b2∧w.heap.size≤b0∧w.heap.size≤b1∧w.heap.size≤b2∧b2<w4.heap.size):=Lib.hid (by omega)
  have HS:Hid (Calls Tryz.prog 78 #[.pointer (some ⟨b1,0,none⟩),.int .i64 (-10)] w4 (IntRet w4 b1 none true 10)):=Lib.hid (intSetI64_neg b1 0 0 0 10 false none (fun _=>0) w4 HZ.out (by decide) (by decide))
  clear hl
  go_wp2_with fail
  refine (params_any prm _).mono ?_
  rintro e w' ⟨rfl,hw'⟩
  obtain rfl:=hw'.symm
  go_wp2_with fail
  refine HS.out.mono ?_
  rintro e w2 hr
  obtain ⟨rfl,_⟩:=id hr
  have HR:=Lib.hid hr
  have hm2:Mod (fun k _=>k=b1) w4 w2:=by
    obtain ⟨_,_,_,_,_,_,m,_⟩:=hr
    refine m.mono fun k o _ h => ?_
    rcases h with h | ⟨A,hA,_⟩
    · exact h
    · cases hA
  have HC2:=Lib.hid (show w2.heap[b2]? = some (.cells #[.bool false,.slice none 0 0] 51 (0,0)) by rw [hm2.heap (lt_of_heap HC.out) (fun o h=>NE.out.2.2.2.1 h.symm),HC.out])
  have HE2:Hid (Eof w2 ea):=Lib.hid (by
    have h1:Eof w4 ea:=MM.out.cell_some HE.out fun h=>h
    exact hm2.cell_some h1 (by have:=NE.out;omega))
  have HT:=Lib.hid (setPre b2 64 strC256 _ okC256 valC256 w2 ea HE2.out NE.out.1 HC2.out)
  clear hr hm2 hg0 hc4 hme HS
  go_wp2_with fail
  refine HT.out.mono ?_
  rintro e w3 ⟨a,n,c,f,rfl,hI,hf,m3⟩
  have RES:=Lib.hid (fun h l=>parRet_of (k:=0) MM.out HG.out NE.out.2.2.2.2.1 NE.out.2.2.2.2.2.1 NE.out.2.2.2.2.2.2.1 NE.out.2.1 NE.out.2.2.1 NE.out.2.2.2.1 NE.out.2.2.2.2.2.2.2 HR.out hI (m3.mono fun k o _ h=>.inl h) hf h l)
  clear hI hf m3 HT
  go_wp2_with fail
  go_ret3
  exact RES.out _ _
set_option maxRecDepth 100000 in
set_option maxHeartbeats 2000000 in
theorem par1 (prm go L:Nat) (w:World) (ea:Addr) (hE:Eof w ea) (hc:w.cell? ⟨prm,5,none⟩=some (.int .i64 384)) :
    Calls Tryz.prog 58 #[.agg #[.iface 125 (.pointer (some ⟨prm,0,none⟩)),.slice (some ⟨go,0,none⟩) L L]] w (ParRet w 1 (.iface 125 (.pointer (some ⟨prm,0,none⟩))) (.slice (some ⟨go,0,none⟩) L L)):=by
  have hme:=fun W=>methodParams W ⟨prm,0,none⟩
  have hmf:∀ (fn:Fn) (first cap:Array Value) (w:World),(Instr.makeFunc fn first cap).run Tryz.prog w=.ok (.func fn first cap) w:=fun _ _ _ _=>rfl
  have h0:0<w.heap.size:=lt_of_cell? hE
  obtain ⟨k1,k2,k3,mm0⟩:=three_new w (.cells #[.iface 125 (.pointer (some ⟨prm,0,none⟩)),.slice (some ⟨go,0,none⟩) L L] 108 (0,0)) (.cells #[.bool false,.slice none 0 0] 51 (0,0)) (.cells #[.bool false,.slice none 0 0] 51 (0,0))
  have HE:=Lib.hid hE
  clear hE
  go_enter Tryz.func58,Tryz.ntmps58
  go_upto_region 2 with fail
  generalize hw4:((w.alloc (.cells #[.iface 125 (.pointer (some ⟨prm,0,none⟩)),.slice (some ⟨go,0,none⟩) L L] 108 (0,0))).alloc (.cells #[.bool false,.slice none 0 0] 51 (0,0))).alloc (.cells #[.bool false,.slice none 0 0] 51 (0,0))=w4 at *
  clear hw4
  have hc4:=mm0.cell_some hc fun h=>h
  have hg0:w4.cell? ⟨w.heap.size,0,none⟩=some (.iface 125 (.pointer (some ⟨prm,0,none⟩))):=by rw [cell?_of_heap k1];rfl
  have HG:=Lib.hid k1
  have HZ:Hid (IntIs w4 (w.heap.size+1) false none 0 0 (fun _=>0) 0):=Lib.hid ⟨k2,⟨.nil _ _,Nat.le_refl _,rfl,.inl rfl⟩,fun A hA=>by cases hA⟩
  have HC:=Lib.hid k3
  have MM:=Lib.hid mm0
  have hl:=lt_of_heap k3
  clear k1 k2 k3 mm0 hc
  generalize hb0:w.heap.size=b0 at *
  generalize hb1:b0+1=b1 at *
  generalize hb2:b1+1=b2 at *
  have NE:Hid (0<b2∧b0≠b1∧b0≠b2∧b1≠b2∧w.heap.size≤b0∧w.heap.size≤b1∧w.heap.size≤b2∧b2<w4.heap.size):=Lib.hid (by omega)
  have HS:Hid (Calls Tryz.prog 78 #[.pointer (some ⟨b1,0,none⟩),.int .i64 (-12)] w4 (IntRet w4 b1 none true 12)):=Lib.hid (intSetI64_neg b1 0 0 0 12 false none (fun _=>0) w4 HZ.out (by decide) (by decide))
  clear hl
  go_wp2_with fail
  refine (params_any prm _).mono ?_
  rintro e w' ⟨rfl,hw'⟩
  obtain rfl:=hw'.symm
  go_wp2_with fail
  refine HS.out.mono ?_
  rintro e w2 hr
  obtain ⟨rfl,_⟩:=id hr
  have HR:=Lib.hid hr
  have hm2:Mod (fun k _=>k=b1) w4 w2:=by
    obtain ⟨_,_,_,_,_,_,m,_⟩:=hr
    refine m.mono fun k o _ h => ?_
    rcases h with h | ⟨A,hA,_⟩
    · exact h
    · cases hA
  have HC2:=Lib.hid (show w2.heap[b2]? = some (.cells #[.bool false,.slice none 0 0] 51 (0,0)) by rw [hm2.heap (lt_of_heap HC.out) (fun o h=>NE.out.2.2.2.1 h.symm),HC.out])
  have HE2:Hid (Eof w2 ea):=Lib.hid (by
    have h1:Eof w4 ea:=MM.out.cell_some HE.out fun h=>h
    exact hm2.cell_some h1 (by have:=NE.out;omega))
  have HT:=Lib.hid (setPre b2 95 strC384 _ okC384 valC384 w2 ea HE2.out NE.out.1 HC2.out)
  clear hr hm2 hg0 hc4 hme HS
  go_wp2_with fail
  refine HT.out.mono ?_
  rintro e w3 ⟨a,n,c,f,rfl,hI,hf,m3⟩
  have RES:=Lib.hid (fun h l=>parRet_of (k:=1) MM.out HG.out NE.out.2.2.2.2.1 NE.out.2.2.2.2.2.1 NE.out.2.2.2.2.2.2.1 NE.out.2.1 NE.out.2.2.1 NE.out.2.2.2.1 NE.out.2.2.2.2.2.2.2 HR.out hI (m3.mono fun k o _ h=>.inl h) hf h l)
  clear hI hf m3 HT
  go_wp2_with fail
  go_ret3
  exact RES.out _ _
set_option maxRecDepth 100000 in
set_option maxHeartbeats 2000000 in
theorem par2 (prm go L:Nat) (w:World) (ea:Addr) (hE:Eof w ea) (hc:w.cell? ⟨prm,5,none⟩=some (.int .i64 521)) :
    Calls Tryz.prog 58 #[.agg #[.iface 125 (.pointer (some ⟨prm,0,none⟩)),.slice (some ⟨go,0,none⟩) L L]] w (ParRet w 2 (.iface 125 (.pointer (some ⟨prm,0,none⟩))) (.slice (some ⟨go,0,none⟩) L L)):=by
  have hme:=fun W=>methodParams W ⟨prm,0,none⟩
  have hmf:∀ (fn:Fn) (first cap:Array Value) (w:World),(Instr.makeFunc fn first cap).run Tryz.prog w=.ok (.func fn first cap) w:=fun _ _ _ _=>rfl
  have h0:0<w.heap.size:=lt_of_cell? hE
  obtain ⟨k1,k2,k3,mm0⟩:=three_new w (.cells #[.iface 125 (.pointer (some ⟨prm,0,none⟩)),.slice (some ⟨go,0,none⟩) L L] 108 (0,0)) (.cells #[.bool false,.slice none 0 0] 51 (0,0)) (.cells #[.bool false,.slice none 0 0] 51 (0,0))
  have HE:=Lib.hid hE
  clear hE
  go_enter Tryz.func58,Tryz.ntmps58
  go_upto_region 2 with fail
  generalize hw4:((w.alloc (.cells #[.iface 125 (.pointer (some ⟨prm,0,none⟩)),.slice (some ⟨go,0,none⟩) L L] 108 (0,0))).alloc (.cells #[.bool false,.slice none 0 0] 51 (0,0))).alloc (.cells #[.bool false,.slice none 0 0] 51 (0,0))=w4 at *
  clear hw4
  have hc4:=mm0.cell_some hc fun h=>h
  have hg0:w4.cell? ⟨w.heap.size,0,none⟩=some (.iface 125 (.pointer (some ⟨prm,0,none⟩))):=by rw [cell?_of_heap k1];rfl
  have HG:=Lib.hid k1
  have HZ:Hid (IntIs w4 (w.heap.size+1) false none 0 0 (fun _=>0) 0):=Lib.hid ⟨k2,⟨.nil _ _,Nat.le_refl _,rfl,.inl rfl⟩,fun A hA=>by cases hA⟩
  have HC:=Lib.hid k3
  have MM:=Lib.hid mm0
  have hl:=lt_of_heap k3
  clear k1 k2 k3 mm0 hc
  generalize hb0:w.heap.size=b0 at *
  generalize hb1:b0+1=b1 at *
  generalize hb2:b1+1=b2 at *
  have NE:Hid (0<b2∧b0≠b1∧b0≠b2∧b1≠b2∧w.heap.size≤b0∧w.heap.size≤b1∧w.heap.size≤b2∧b2<w4.heap.size):=Lib.hid (by omega)
  have HS:Hid (Calls Tryz.prog 78 #[.pointer (some ⟨b1,0,none⟩),.int .i64 (-4)] w4 (IntRet w4 b1 none true 4)):=Lib.hid (intSetI64_neg b1 0 0 0 4 false none (fun _=>0) w4 HZ.out (by decide) (by decide))
  clear hl
  go_wp2_with fail
  refine (params_any prm _).mono ?_
  rintro e w' ⟨rfl,hw'⟩
  obtain rfl:=hw'.symm
  go_wp2_with fail
  refine HS.out.mono ?_
  rintro e w2 hr
  obtain ⟨rfl,_⟩:=id hr
  have HR:=Lib.hid hr
  have hm2:Mod (fun k _=>k=b1) w4 w2:=by
    obtain ⟨_,_,_,_,_,_,m,_⟩:=hr
    refine m.mono fun k o _ h => ?_
    rcases h with h | ⟨A,hA,_⟩
    · exact h
    · cases hA
  have HC2:=Lib.hid (show w2.heap[b2]? = some (.cells #[.bool false,.slice none 0 0] 51 (0,0)) by rw [hm2.heap (lt_of_heap HC.out) (fun o h=>NE.out.2.2.2.1 h.symm),HC.out])
  have HE2:Hid (Eof w2 ea):=Lib.hid (by
    have h1:Eof w4 ea:=MM.out.cell_some HE.out fun h=>h
    exact hm2.cell_some h1 (by have:=NE.out;omega))
  have HT:Hid (Calls Tryz.prog 78 #[.pointer (some ⟨b2,0,none⟩),.int .i64 8] w2 (IntRet w2 b2 none false 8)):=Lib.hid (intSetI64_pos b2 0 0 0 8 false none (fun _=>0) w2 ⟨HC2.out,⟨.nil _ _,Nat.le_refl _,rfl,.inl rfl⟩,fun A hA=>by cases hA⟩ (by decide))
  clear hr hm2 hg0 hc4 hme HS
  go_wp2_with fail
  refine HT.out.mono ?_
  rintro e w3 ⟨rfl,a,n,c,f,hI,m3,hf⟩
  have RES:=Lib.hid (fun h l=>parRet_of (k:=2) MM.out HG.out NE.out.2.2.2.2.1 NE.out.2.2.2.2.2.1 NE.out.2.2.2.2.2.2.1 NE.out.2.1 NE.out.2.2.1 NE.out.2.2.2.1 NE.out.2.2.2.2.2.2.2 HR.out hI m3 hf h l)
  clear hI hf m3 HT
  go_wp2_with fail
  go_ret3
  exact RES.out _ _
theorem par_any (k:Nat) (hk:k≤2) (prm go L:Nat) (w:World) (ea:Addr) (hE:Eof w ea) (hc:w.cell? ⟨prm,5,none⟩=some (.int .i64 (bitsK k:Int))) :
    Calls Tryz.prog 58 #[.agg #[.iface 125 (.pointer (some ⟨prm,0,none⟩)),.slice (some ⟨go,0,none⟩) L L]] w (ParRet w k (.iface 125 (.pointer (some ⟨prm,0,none⟩))) (.slice (some ⟨go,0,none⟩) L L)):=by
  obtain rfl | rfl | rfl:k=0∨k=1∨k=2:=by omega
  · exact par0 prm go L w ea hE hc
  · exact par1 prm go L w ea hE hc
  · exact par2 prm go L w ea hE hc
end Go.Proofs.YtpfmbfkhjapbbaaGreatDoor
