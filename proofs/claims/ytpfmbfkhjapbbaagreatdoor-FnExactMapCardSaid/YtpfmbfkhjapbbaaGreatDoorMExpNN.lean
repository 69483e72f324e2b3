/-
  nat.expNN with no stack given, modulo an odd number. Conditions: a number below the modulus; an exponent of at least two words; the modulus of 2 to 39 words; the receiver apart from all of them.
-/
import Derived.Test.YtpfmbfkhjapbbaaGreatDoorMg13
import Derived.Test.YtpfmbfkhjapbbaaGreatDoorMExpM
set_option linter.unusedVariables false
set_option linter.unusedSimpArgs false
namespace Go.Proofs.YtpfmbfkhjapbbaaGreatDoor
open Go Go.RowKit
theorem alias_no (a b:Option Addr) (n c m d:Nat) (f g:Nat→Nat) (w:World) (hX:Arr w a c f) (hY:Arr w b d g) (hn:n≤c) (hm:m≤d) (hne:∀ A A',a=some A→b=some A'→A.block≠A'.block) :
    Calls Tryz.prog 114 #[.slice a n c,.slice b m d] w fun e w'=>e=.returned (.bool false)∧∃ q,w'=w.drewN q:=by
  refine (alias_any a b n c m d f g w hX hY hn hm).mono ?_
  rintro e w' ⟨rfl,hq⟩
  refine ⟨?_,hq⟩
  rw [decide_eq_false]
  rintro ⟨rfl,hc⟩
  obtain ⟨k,rfl⟩:=hX.form hc
  exact hne _ _ rfl rfl rfl
theorem word_and1 (x:Nat) (h:x<B64):bits .and .u64 (x:Int) 1=((x%2:Nat):Int):=by
  have h:=(bits_nat .u64 64 (by decide) (fun n h0 h1=>by rw [IntKind.wrap_u64];omega) x 1 (by rw [B64_eq] at h;omega) (by decide)).1
  rw [Nat.and_one_is_mod] at h
  exact h
theorem NatRet.drewN {w:World} {az:Option Addr} {v:Nat} {e:Ending} {w':World} {q:Nat} (h:NatRet (w.drewN q) az v e w'):NatRet w az v e w':=by
  obtain ⟨a,n,c,f,h1,h2,h3,h4⟩:=h
  exact ⟨a,n,c,f,h1,h2,((Mod.refl (BlkOf az) w).drewN q).trans h3,h4⟩
theorem val_odd {f:Nat→Nat} {n:Nat} (h:0<n):val f n%2=f 0%2:=by
  obtain ⟨k,rfl⟩:∃ k,n=1+k:=⟨n - 1,by omega⟩
  rw [val_add,val_one,Nat.pow_one,show B64=2*9223372036854775808 from rfl,Nat.mul_assoc,Nat.add_mul_mod_self_left]
theorem one_pow_mod {n m:Nat} (h:1<m):1^n%m=1:=by rw [Nat.one_pow,Nat.mod_eq_of_lt h]
theorem zero_pow_mod {n m:Nat} (h:0<n):0^n%m=0:=by rw [Nat.zero_pow h,Nat.zero_mod]
set_option maxRecDepth 100000 in
set_option maxHeartbeats 4000000 in
theorem expNN_zero (nz cz cx by_ ny cy bm n cm:Nat) (az ax:Option Addr) (fz fx fy fm:Nat→Nat) (w:World) (hZ:Arr w az cz fz) (hnz:nz≤cz)
    (hX:Arr w ax cx fx) (hY:Arr w (some ⟨by_,0,none⟩) cy fy) (hny:2≤ny) (hyc:ny≤cy) (hn:2≤n)
    (zy:∀ A,az=some A→A.block≠by_) (zx:∀ A A',az=some A→ax=some A'→A.block≠A'.block) :
    Calls Tryz.prog 132 #[.slice az nz cz,.pointer none,.slice ax 0 cx,.slice (some ⟨by_,0,none⟩) ny cy,.slice (some ⟨bm,0,none⟩) n cm,.bool false] w (NatRet w az 0):=by
  have H1:=Lib.hid (fun w1 (m:Mod NoP w w1)=>alias_no az ax nz cz 0 cx fz fx w1 (hZ.mod m (Off.noP _)) (hX.mod m (Off.noP _)) hnz (Nat.zero_le _) zx)
  have H2:=Lib.hid (fun w1 (m:Mod NoP w w1)=>alias_no az (some ⟨by_,0,none⟩) nz cz ny cy fz fy w1 (hZ.mod m (Off.noP _)) (hY.mod m (Off.noP _)) hnz hyc (fun A A' hA hA'=>by injection hA' with hA';subst hA';exact zy A hA))
  have H3:=Lib.hid (fun w1 (m:Mod NoP w w1)=>(setWord_any az nz cz 0 w1 fz (hZ.mod m (Off.noP _)) hnz B64_pos:Calls Tryz.prog 107 #[.slice az nz cz,.int .u64 0] w1 (NatRet w1 az 0)))
  have b1:((n:Int) == 1)=false:=by simp;omega
  have b2:((ny:Int) == 0)=false:=by simp;omega
  clear hZ hX hY zy zx
  have HA:=Lib.hid (H1.out w (.refl _ _))
  go_enter_defers Tryz.func132,Tryz.ntmps132
  go_wp2_with fail
  refine HA.out.mono ?_
  rintro e w1 ⟨rfl,q,rfl⟩
  have HB:=Lib.hid (H2.out _ ((Mod.refl NoP w).drewN q))
  clear HA
  go_wp2_with fail
  refine HB.out.mono ?_
  rintro e w1 ⟨rfl,q2,rfl⟩
  have HC:=Lib.hid (H3.out (w.drewN (q+q2)) ((Mod.refl NoP w).drewN (q+q2)))
  clear HB
  go_wp2_with fail
  refine HC.out.mono ?_
  rintro e w3 hr
  obtain ⟨a,n',c',f',rfl,h1,h2,h3⟩:=hr
  have HR:=Lib.hid (show NatRet w az 0 (.returned (.slice a n' c')) w3 from NatRet.drewN (q:=q+q2) ⟨a,n',c',f',rfl,h1,h2,h3⟩)
  clear h1 h2 h3 HC
  go_wp2_with fail
  refine ⟨_,results_tmp rfl _ _ _,?_⟩
  exact HR.out
set_option maxRecDepth 100000 in
set_option maxHeartbeats 4000000 in
theorem expNN_one (nz cz bx cx by_ ny cy bm n cm:Nat) (az:Option Addr) (fz fx fy fm:Nat→Nat) (w:World) (hZ:Arr w az cz fz) (hnz:nz≤cz)
    (hX:Arr w (some ⟨bx,0,none⟩) cx fx) (hx1:fx 0=1) (hcx:1≤cx) (hY:Arr w (some ⟨by_,0,none⟩) cy fy) (hny:2≤ny) (hyc:ny≤cy) (hn:2≤n)
    (zy:∀ A,az=some A→A.block≠by_) (zx:∀ A,az=some A→A.block≠bx) :
    Calls Tryz.prog 132 #[.slice az nz cz,.pointer none,.slice (some ⟨bx,0,none⟩) 1 cx,.slice (some ⟨by_,0,none⟩) ny cy,.slice (some ⟨bm,0,none⟩) n cm,.bool false] w (NatRet w az 1):=by
  have H1:=Lib.hid (fun w1 (m:Mod NoP w w1)=>alias_no az (some ⟨bx,0,none⟩) nz cz 1 cx fz fx w1 (hZ.mod m (Off.noP _)) (hX.mod m (Off.noP _)) hnz hcx (fun A A' hA hA'=>by injection hA' with hA';subst hA';exact zx A hA))
  have H2:=Lib.hid (fun w1 (m:Mod NoP w w1)=>alias_no az (some ⟨by_,0,none⟩) nz cz ny cy fz fy w1 (hZ.mod m (Off.noP _)) (hY.mod m (Off.noP _)) hnz hyc (fun A A' hA hA'=>by injection hA' with hA';subst hA';exact zy A hA))
  have H3:=Lib.hid (fun w1 (m:Mod NoP w w1)=>(setWord_any az nz cz 1 w1 fz (hZ.mod m (Off.noP _)) hnz (by decide):Calls Tryz.prog 107 #[.slice az nz cz,.int .u64 1] w1 (NatRet w1 az 1)))
  have b1:((n:Int) == 1)=false:=by simp;omega
  have b2:((ny:Int) == 0)=false:=by simp;omega
  have cx0:w.cell? ⟨bx,0,none⟩=some (.int .u64 1):=by have:=(hX.vec 0 (by omega)).1;rw [hx1] at this;exact this
  clear hZ hX hY zy zx hx1
  have HA:=Lib.hid (H1.out w (.refl _ _))
  go_enter_defers Tryz.func132,Tryz.ntmps132
  go_wp2_with fail
  refine HA.out.mono ?_
  rintro e w1 ⟨rfl,q,rfl⟩
  have HB:=Lib.hid (H2.out _ ((Mod.refl NoP w).drewN q))
  clear HA
  go_wp2_with fail
  refine HB.out.mono ?_
  rintro e w1 ⟨rfl,q2,rfl⟩
  have HC:=Lib.hid (H3.out (w.drewN (q+q2)) ((Mod.refl NoP w).drewN (q+q2)))
  clear HB
  go_wp2_with fail
  refine HC.out.mono ?_
  rintro e w3 hr
  obtain ⟨a,n',c',f',rfl,h1,h2,h3⟩:=hr
  have HR:=Lib.hid (show NatRet w az 1 (.returned (.slice a n' c')) w3 from NatRet.drewN (q:=q+q2) ⟨a,n',c',f',rfl,h1,h2,h3⟩)
  clear h1 h2 h3 HC
  go_wp2_with fail
  refine ⟨_,results_tmp rfl _ _ _,?_⟩
  exact HR.out
set_option maxRecDepth 100000 in
set_option maxHeartbeats 4000000 in
theorem expNN_mont (nz cz bx nx cx vx by_ ny cy vy bm n cm vm:Nat) (az:Option Addr) (fz fx fy fm:Nat→Nat) (w:World) (hG:Glo w 6 40) (hZ:Arr w az cz fz) (hnz:nz≤cz)
    (hX:NatIs w (some ⟨bx,0,none⟩) nx cx fx vx) (hY:NatIs w (some ⟨by_,0,none⟩) ny cy fy vy) (hM:NatIs w (some ⟨bm,0,none⟩) n cm fm vm) (hnx:1≤nx) (hxn:nx≤n) (hx1:1<vx) (hny:2≤ny) (hny2:ny≤1000) (hn2:2≤n) (hn:n≤39) (hodd:vm%2=1)
    (zx:∀ A,az=some A→A.block≠bx∧A.block≠by_∧A.block≠bm∧A.block≠6) :
    Calls Tryz.prog 132 #[.slice az nz cz,.pointer none,.slice (some ⟨bx,0,none⟩) nx cx,.slice (some ⟨by_,0,none⟩) ny cy,.slice (some ⟨bm,0,none⟩) n cm,.bool false] w (NatRet w az (vx^vy%vm)):=by
  have hxc:=hX.le
  have hyc:=hY.le
  have hmc:=hM.le
  have H1:=Lib.hid (fun w1 (m:Mod NoP w w1)=>alias_no az (some ⟨bx,0,none⟩) nz cz nx cx fz fx w1 (hZ.mod m (Off.noP _)) (hX.arr.mod m (Off.noP _)) hnz hxc (fun A A' hA hA'=>by injection hA' with hA';subst hA';exact (zx A hA).1))
  have H2:=Lib.hid (fun w1 (m:Mod NoP w w1)=>alias_no az (some ⟨by_,0,none⟩) nz cz ny cy fz fy w1 (hZ.mod m (Off.noP _)) (hY.arr.mod m (Off.noP _)) hnz hyc (fun A A' hA hA'=>by injection hA' with hA';subst hA';exact (zx A hA).2.1))
  have H3:=Lib.hid (fun w1 (m:Mod NoP w w1)=>make_any az nz cz n w1 fz (hZ.mod m (Off.noP _)) hnz (by omega))
  have HGS:=Lib.hid (fun w1=>getStack_any w1)
  have HXB:=Lib.hid hX.arr.lt
  have HYB:=Lib.hid hY.arr.lt
  have HMB:=Lib.hid hM.arr.lt
  have hglt:=lt_of_cell? hG
  have H4:Hid (∀ (w0 w2:World) (a2:Option Addr) (c2:Nat) (f2:Nat→Nat) (s:Nat),s=w0.heap.size→Mod NoP w w0→Mod NoP (w0.alloc (.cells #[.pointer none] 230)) w2→Arr w2 a2 c2 f2→n≤c2→(a2=az∨Fresh (w0.alloc (.cells #[.pointer none] 230)) a2) →
      Calls Tryz.prog 158 #[.slice a2 n c2,.pointer (some ⟨s,0,none⟩),.slice (some ⟨bx,0,none⟩) nx cx,.slice (some ⟨by_,0,none⟩) ny cy,.slice (some ⟨bm,0,none⟩) n cm] w2 (ExpRet w2 s a2 (vx^vy%vm))):=by
    intro w0 w2 a2 c2 f2 s hs m0 m2 hA2 hc2 hf
    have m02:Mod NoP w w2:=(m0.alloc (.cells #[.pointer none] 230)).trans m2
    subst hs
    have hs0:=m0.size
    have hx:=hX.arr.lt
    have hy:=hY.arr.lt
    have hm:=hM.arr.lt
    have hst:StkNil w2 w0.heap.size:=(show StkNil (w0.alloc (.cells #[.pointer none] 230)) w0.heap.size by show (w0.heap.push _)[w0.heap.size]? = _;simp).mod m2 (fun _ h=>h)
    refine expMont_any w0.heap.size n c2 bx nx cx vx by_ ny cy vy bm n cm vm a2 f2 fx fy fm w2 (m02.cell_some hG fun h=>h) hst hA2 hc2 (hX.mod m02 (Off.noP _)) (hY.mod m02 (Off.noP _)) (hM.mod m02 (Off.noP _)) hnx hxn (by omega) hny2 hn2 hn hodd ?_ (by omega) (by omega) (by omega) (by omega)
    intro A hA
    rcases hf with rfl | ⟨k,e,hk⟩
    · obtain ⟨z1,z2,z3,z4⟩:=zx A hA
      have:A.block<w.heap.size:=Arr.ltA hZ A hA
      exact ⟨z1,z2,z3,by omega,z4⟩
    · have h9:A.block=k:=by rw [e] at hA;cases hA;rfl
      have hk':w0.heap.size+1≤k:=by simpa using hk
      omega
  have b1:((n:Int) == 1)=false:=by simp;omega
  have b2:((ny:Int) == 0)=false:=by simp;omega
  have b3:((nx:Int) == 0)=false:=by simp;omega
  have b4:((ny:Int) == 1)=false:=by simp;omega
  have b5:((n:Int) == 0)=false:=by simp;omega
  have b6:¬ (n:Int)=0:=by omega
  have b7:(ny:Int) > 1:=by omega
  have cx0:=(hX.arr.vec 0 (by omega)).1
  have cm0:=(hM.arr.vec 0 (by omega)).1
  have hfm:fm 0<B64:=(hM.arr.vec 0 (by omega)).2.2
  have hfm1:fm 0%2=1:=by rw [← hodd,← hM.val,val_odd (by omega)]
  have e1:bits .and .u64 (fm 0:Int) 1=1:=by rw [word_and1 _ hfm,hfm1];rfl
  have e2:nx=1→((fx 0:Int) == 1)=false:=fun h=>by
    have h1:=hX.val
    rw [h,val_one] at h1
    simp;omega
  have HZ:=Lib.hid hZ
  rw [Nat.zero_add] at cx0 cm0
  clear hZ hX hY hM zx hG hfm hfm1 hodd hx1
  generalize vx^vy%vm=v at *
  have HA:=Lib.hid (H1.out w (.refl _ _))
  by_cases hnx1:nx=1
  · subst hnx1
    have e3:=e2 rfl
    clear e2 b3
    go_enter_defers Tryz.func132,Tryz.ntmps132
    go_wp2_with fail
    refine HA.out.mono ?_
    rintro e w1 ⟨rfl,q,rfl⟩
    have HB:=Lib.hid (H2.out _ ((Mod.refl NoP w).drewN q))
    clear HA
    go_wp2_with fail
    refine HB.out.mono ?_
    rintro e w1 ⟨rfl,q2,rfl⟩
    have M0:Mod NoP w (w.drewN (q+q2)):=(Mod.refl NoP w).drewN (q+q2)
    have HG1:=Lib.hid (HGS.out (w.drewN (q+q2)))
    have HM:=Lib.hid (H3.out ((w.drewN (q+q2)).alloc (.cells #[.pointer none] 230)) (M0.alloc _))
    have HE0:=Lib.hid (fun w2 a2 c2 f2=>H4.out (w.drewN (q+q2)) w2 a2 c2 f2 w.heap.size rfl M0)
    have HM0:=Lib.hid M0
    clear HB HGS H1 H2 H3 H4 M0
    go_wp2_with fail
    refine HG1.out.mono ?_
    rintro e w1 ⟨rfl,rfl⟩
    clear HG1
    go_wp2_with fail
    refine HM.out.mono ?_
    rintro e w2 ⟨a2,c2,f2,rfl,k1,k2,k3,k4⟩
    have HE:=Lib.hid (HE0.out w2 a2 c2 f2 k3 k1 k2 k4)
    have K3:=Lib.hid k3
    have K4:=Lib.hid k4
    have dx0:=(HM0.out.alloc (.cells #[.pointer none] 230)).cell_some cm0 (fun h=>h)
    have dx1:=k3.cell_some dx0 (fun h=>h)
    clear k1 k2 k3 k4 HM HE0 dx0
    go_wp2_with fail
    refine HE.out.mono ?_
    rintro e w3 ⟨a,n3,c3,f3,rfl,l1,l2,l3,l4⟩
    have HF:=Lib.hid (show CallsD Tryz.prog 146 #[.pointer (some ⟨w.heap.size,0,none⟩)] .returning w3 fun e u' w4=>u'=.returning∧e=.returned (.tuple #[])∧NatRet w az v (.returned (.slice a n3 c3)) w4 from (stk_free1 w3 _ _ l4).mono fun e u' w4 h=>by
      obtain ⟨g1,g2,g3,g4⟩:=h
      have ms:w.heap.size≤w2.heap.size:=by have:=K3.out.size;simp at this;omega
      refine ⟨g1,g2,_,_,_,_,rfl,⟨g4 _ _ _ l1.arr,l1.le,l1.val,l1.top⟩,?_,?_⟩
      · refine ((((HM0.out.alloc (.cells #[.pointer none] 230)).trans K3.out).of_none (M:=BlkOf az)).trans' l3 fun k o hk hh => ?_).trans' g3 fun k o hk hh=>by omega
        rcases hh with hh | hh
        · rcases K4.out with rfl | ⟨k',e',hk'⟩
          · exact hh
          · obtain ⟨A,hA,hb⟩:=hh
            have h9:A.block=k':=by rw [e'] at hA;cases hA;rfl
            have hk2:w.heap.size+1≤k':=by simpa using hk'
            omega
        · omega
      · rcases l2 with rfl | h
        · exact K4.out.imp id fun h=>h.mono (by simp)
        · exact .inr (h.mono ms))
    clear l1 l2 l3 l4 HE dx1
    go_wp2_with fail
    refine leaves_cons (f:=146) (args:=#[.pointer (some ⟨w.heap.size,0,none⟩)]) (by simp) (by simp [go_sem]) ?_
    refine HF.out.mono ?_
    rintro e u' w'' ⟨rfl,rfl,hres⟩
    refine ⟨_,results_tmp rfl _ _ _,?_⟩
    exact hres
  · have b8:((nx:Int) == 1)=false:=by simp;omega
    clear e2
    go_enter_defers Tryz.func132,Tryz.ntmps132
    go_wp2_with fail
    refine HA.out.mono ?_
    rintro e w1 ⟨rfl,q,rfl⟩
    have HB:=Lib.hid (H2.out _ ((Mod.refl NoP w).drewN q))
    clear HA
    go_wp2_with fail
    refine HB.out.mono ?_
    rintro e w1 ⟨rfl,q2,rfl⟩
    have M0:Mod NoP w (w.drewN (q+q2)):=(Mod.refl NoP w).drewN (q+q2)
    have HG1:=Lib.hid (HGS.out (w.drewN (q+q2)))
    have HM:=Lib.hid (H3.out ((w.drewN (q+q2)).alloc (.cells #[.pointer none] 230)) (M0.alloc _))
    have HE0:=Lib.hid (fun w2 a2 c2 f2=>H4.out (w.drewN (q+q2)) w2 a2 c2 f2 w.heap.size rfl M0)
    have HM0:=Lib.hid M0
    clear HB HGS H1 H2 H3 H4 M0
    go_wp2_with fail
    refine HG1.out.mono ?_
    rintro e w1 ⟨rfl,rfl⟩
    clear HG1
    go_wp2_with fail
    refine HM.out.mono ?_
    rintro e w2 ⟨a2,c2,f2,rfl,k1,k2,k3,k4⟩
    have HE:=Lib.hid (HE0.out w2 a2 c2 f2 k3 k1 k2 k4)
    have K3:=Lib.hid k3
    have K4:=Lib.hid k4
    have dx0:=(HM0.out.alloc (.cells #[.pointer none] 230)).cell_some cm0 (fun h=>h)
    have dx1:=k3.cell_some dx0 (fun h=>h)
    clear k1 k2 k3 k4 HM HE0 dx0
    go_wp2_with fail
    refine HE.out.mono ?_
    rintro e w3 ⟨a,n3,c3,f3,rfl,l1,l2,l3,l4⟩
    have HF:=Lib.hid (show CallsD Tryz.prog 146 #[.pointer (some ⟨w.heap.size,0,none⟩)] .returning w3 fun e u' w4=>u'=.returning∧e=.returned (.tuple #[])∧NatRet w az v (.returned (.slice a n3 c3)) w4 from (stk_free1 w3 _ _ l4).mono fun e u' w4 h=>by
      obtain ⟨g1,g2,g3,g4⟩:=h
      have ms:w.heap.size≤w2.heap.size:=by have:=K3.out.size;simp at this;omega
      refine ⟨g1,g2,_,_,_,_,rfl,⟨g4 _ _ _ l1.arr,l1.le,l1.val,l1.top⟩,?_,?_⟩
      · refine ((((HM0.out.alloc (.cells #[.pointer none] 230)).trans K3.out).of_none (M:=BlkOf az)).trans' l3 fun k o hk hh => ?_).trans' g3 fun k o hk hh=>by omega
        rcases hh with hh | hh
        · rcases K4.out with rfl | ⟨k',e',hk'⟩
          · exact hh
          · obtain ⟨A,hA,hb⟩:=hh
            have h9:A.block=k':=by rw [e'] at hA;cases hA;rfl
            have hk2:w.heap.size+1≤k':=by simpa using hk'
            omega
        · omega
      · rcases l2 with rfl | h
        · exact K4.out.imp id fun h=>h.mono (by simp)
        · exact .inr (h.mono ms))
    clear l1 l2 l3 l4 HE dx1
    go_wp2_with fail
    refine leaves_cons (f:=146) (args:=#[.pointer (some ⟨w.heap.size,0,none⟩)]) (by simp) (by simp [go_sem]) ?_
    refine HF.out.mono ?_
    rintro e u' w'' ⟨rfl,rfl,hres⟩
    refine ⟨_,results_tmp rfl _ _ _,?_⟩
    exact hres
theorem expNN_any (nz cz nx cx vx by_ ny cy vy bm n cm vm:Nat) (az ax:Option Addr) (fz fx fy fm:Nat→Nat) (w:World) (hG:Glo w 6 40) (hZ:Arr w az cz fz) (hnz:nz≤cz)
    (hX:NatIs w ax nx cx fx vx) (hY:NatIs w (some ⟨by_,0,none⟩) ny cy fy vy) (hM:NatIs w (some ⟨bm,0,none⟩) n cm fm vm) (hxm:vx<vm) (hny:2≤ny) (hny2:ny≤1000) (hn2:2≤n) (hn:n≤39) (hodd:vm%2=1)
    (zx:∀ A,az=some A→A.block≠by_∧A.block≠bm∧A.block≠6) (zx2:∀ A A',az=some A→ax=some A'→A.block≠A'.block) :
    Calls Tryz.prog 132 #[.slice az nz cz,.pointer none,.slice ax nx cx,.slice (some ⟨by_,0,none⟩) ny cy,.slice (some ⟨bm,0,none⟩) n cm,.bool false] w (NatRet w az (vx^vy%vm)):=by
  have hxn:nx≤n:=by
    rcases Nat.lt_or_ge n nx with h | h
    · have:=hM.less_len hX h;omega
    · exact h
  have hvy:0<vy:=by
    rcases Nat.eq_zero_or_pos vy with h | h
    · subst h
      have:=hY.zero_iff.2 rfl
      omega
    · exact h
  by_cases h0:nx=0
  · subst h0
    obtain rfl:vx=0:=hX.zero_iff.1 rfl
    rw [zero_pow_mod hvy]
    exact expNN_zero nz cz cx by_ ny cy bm n cm az ax fz fx fy fm w hZ hnz hX.arr hY.arr hny hY.le hn2 (fun A hA=>(zx A hA).1) zx2
  · obtain ⟨bx,rfl⟩:=hX.arr.form (by have:=hX.le;omega)
    have hv0:vx≠0:=fun h=>h0 (hX.zero_iff.2 h)
    by_cases h1:vx=1
    · subst h1
      have hn1:nx=1:=by
        have:=hX.len_le (m:=1) (by decide)
        omega
      subst hn1
      rw [one_pow_mod hxm]
      have hx1:fx 0=1:=by have:=hX.val;rw [val_one] at this;exact this
      exact expNN_one nz cz bx cx by_ ny cy bm n cm az fz fx fy fm w hZ hnz hX.arr hx1 hX.le hY.arr hny hY.le hn2 (fun A hA=>(zx A hA).1) (fun A hA=>zx2 A _ hA rfl)
    · exact expNN_mont nz cz bx nx cx vx by_ ny cy vy bm n cm vm az fz fx fy fm w hG hZ hnz hX hY hM (by omega) hxn (by omega) hny hny2 hn2 hn hodd (fun A hA=>⟨zx2 A _ hA rfl,(zx A hA).1,(zx A hA).2.1,(zx A hA).2.2⟩)
end Go.Proofs.YtpfmbfkhjapbbaaGreatDoor
