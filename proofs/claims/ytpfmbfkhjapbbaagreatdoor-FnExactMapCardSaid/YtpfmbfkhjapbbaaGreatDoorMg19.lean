/-
  nat.divLarge. Conditions: from 2 to 39 words in the divisor; the quotient's and the rest's arrays lie apart from each other and from the divisor.
  nat.div. Conditions: from 1 to 39 words in the divisor (with one, at least two in the dividend); the quotient's and the rest's arrays lie apart from each other and the rest's from the divisor.
  A copy into a longer row; the numbers ahead of a power by Montgomery's way. No condition.
  The table of powers in Montgomery's form; one call of montgomery on numbers. No condition.
  The state of the power's loop in Montgomery's form: z holds a power, zz is free; one call of montgomery turns them. Conditions: as montgomery's.
  cmp of two rows of words of one length. No condition but the length.
-/
import Derived.Test.YtpfmbfkhjapbbaaGreatDoorMg02
import Derived.Test.YtpfmbfkhjapbbaaGreatDoorMg13
import Derived.Test.YtpfmbfkhjapbbaaGreatDoorMg15
import Derived.Test.YtpfmbfkhjapbbaaGreatDoorMg17
import Derived.Test.YtpfmbfkhjapbbaaGreatDoorMDivBas3
set_option linter.unusedVariables false
set_option linter.unusedSimpArgs false
namespace Go.Proofs.YtpfmbfkhjapbbaaGreatDoor
section
open Go Go.RowKit
def DivRet (w:World) (s:Nat) (z z2:Option Addr) (q r:Nat) (e:Ending) (w':World):Prop :=
  ∃ a n c f a' n' c' f',e=.returned (.tuple #[.slice a n c,.slice a' n' c'])∧NatIs w' a n c f q∧NatIs w' a' n' c' f' r∧(a=z∨Fresh w a)∧(a'=z2∨Fresh w a') ∧
    (∀ A A',a=some A→a'=some A'→A.block≠A'.block)∧Mod (fun k o=>BlkOf z k o∨BlkOf z2 k o∨k=s) w w'∧StkIs w' s w.heap.size
structure DlSt (w2 wc:World) (bv CV bu cu nx ny vx vy sh:Nat):Prop where
  st:∃ V X,Arr wc (some ⟨bv,0,none⟩) CV V∧Arr wc (some ⟨bu,0,none⟩) cu X∧val V ny=vy*2^sh∧val X (nx+1)=vx*2^sh∧B64≤2*V (ny - 1)∧X nx<V (ny - 1)
  mod:Mod (fun k o=>k=bv∨k=bu) w2 wc
theorem dl_mk {w2 w3 w4:World} {bv CV bu cu nx ny vx vy sh c:Nat} {gv gu V' U':Nat→Nat} (hV:Arr w2 (some ⟨bv,0,none⟩) CV gv) (hny:ny≤CV) (hny0:0<ny) (hU:Arr w2 (some ⟨bu,0,none⟩) cu gu) (hnu:nx+1≤cu) (hne:bu≠bv)
    (v3:Vec w3 bv 0 ny V') (m3:Mod (InR bv 0 ny) w2 w3) (u4:Vec w4 bu 0 nx U') (m4:Mod (InR bu 0 nx) w3 w4) (hc:c<B64)
    (e1:val V' ny=vy*2^sh) (e2:B64≤2*V' (ny - 1)) (e3:val U' nx+c*B64^nx=vx*2^sh) (e4:c<V' (ny - 1)) :
    (∃ v,w4.cell? ⟨bu,nx,none⟩=some v)∧w4.frozen? ⟨bu,nx,none⟩=false∧DlSt w2 (w4.setCell ⟨bu,nx,none⟩ (U c)) bv CV bu cu nx ny vx vy sh:=by
  have hV3:=hV.wrote v3 m3
  have hU3:=hU.mod m3 (by rintro A hA o hh;cases hA;exact hne hh.1)
  have hU4:=hU3.wrote u4 m4
  have hV4:=hV3.mod m4 (by rintro A hA o hh;cases hA;exact hne hh.1.symm)
  have hcl:=hU4.vec nx (by omega)
  rw [Nat.zero_add] at hcl
  have hU5:=hU4.store (i:=nx) hc
  have hV5:=hV4.mod (setCell_mod w4 bu nx (U c)) (by rintro A hA o hh;cases hA;exact hne hh.1.symm)
  refine ⟨⟨_,hcl.1⟩,hcl.2.1,⟨_,_,hV5,hU5,?_,?_,?_,?_⟩,?_⟩
  · rw [val_splice _ _ (Nat.le_refl _),e1]
  · show val _ nx+put _ nx c nx*B64^nx=_
    rw [val_put_ge _ (Nat.le_refl _),val_splice _ _ (Nat.le_refl _),put_same,e3]
  · rw [splice_lt _ _ (by omega)];exact e2
  · rw [put_same,splice_lt _ _ (by omega)];exact e4
  · exact ((m3.mono (M':=fun k _=>k=bv∨k=bu) fun k o _ hh=>.inl hh.1).trans' m4 fun k o _ hh=>.inr hh.1).setCell (fun _=>.inr rfl) _
theorem dl_lead {X Y:Nat→Nat} {nx ny sh:Nat} (hX:∀ j,j<nx→X j<B64) (hY:∀ j,j<ny→Y j<B64) (hny:0<ny) (h0:0<sh) (h64:sh<64) (hs1:Y (ny - 1)*2^sh<B64) (hs2:B64≤2*(Y (ny - 1)*2^sh)) :
    val (shlW Y sh) ny=val Y ny*2^sh∧B64≤2*shlW Y sh (ny - 1)∧shlC X sh nx<shlW Y sh (ny - 1)∧shlC X sh nx<B64:=by
  have hv:=shl_val Y sh ny h64
  have hc0:shlC Y sh ny=0:=by
    unfold shlC
    rw [if_pos hny,← shl_div _ _ h64]
    exact Nat.div_eq_of_lt hs1
  have htop:Y (ny - 1)*2^sh≤shlW Y sh (ny - 1):=by
    unfold shlW
    rw [Nat.mod_eq_of_lt hs1]
    exact Nat.le_add_right _ _
  have hcl:=shlC_lt (k:=nx) h64 hX
  have hp:2*2^sh≤B64:=by
    rw [show 2*2^sh=2^(sh+1) by rw [Nat.pow_succ,Nat.mul_comm]]
    exact Nat.pow_le_pow_right (by omega) (show sh+1≤64 by omega)
  rw [hc0,Nat.zero_mul,Nat.add_zero] at hv
  refine ⟨hv,by omega,?_,by omega⟩
  generalize 2^sh=p at *
  omega
theorem arr_cap {w:World} {b c c':Nat} {f f':Nat→Nat} (h:Arr w (some ⟨b,0,none⟩) c f) (h':Arr w (some ⟨b,0,none⟩) c' f'):c=c':=by
  rcases h with ⟨e1,_⟩ | ⟨b1,C1,t1,e1,hb1,hs1,hc1⟩
  · cases e1
  · obtain rfl:b=b1:=by simpa using e1
    rcases h' with ⟨e2,_⟩ | ⟨b2,C2,t2,e2,hb2,hs2,hc2⟩
    · cases e2
    · obtain rfl:b=b2:=by simpa using e2
      rw [hb1] at hb2
      obtain ⟨rfl,_⟩:C1=C2∧t1=t2:=by simpa using hb2
      omega
theorem StkSome.off {w:World} {s q l c b c':Nat} {a:Option Addr} {f:Nat→Nat} (h:StkSome w s q a l c) (hA:Arr w (some ⟨b,0,none⟩) c' f):b≠q:=by
  rintro rfl
  rcases hA with ⟨e,_⟩ | ⟨b1,C,t,e,hb,hs,hc⟩
  · cases e
  · obtain rfl:b=b1:=by simpa using e
    rw [h.hq] at hb
    obtain ⟨rfl,_⟩:#[Value.slice a l c]=C∧235=t:=by simpa using hb
    have hs':1=c':=hs.1
    have:=(hc 0 (by omega)).1
    cases this
theorem Arr.offS {w w':World} {s q l c c':Nat} {a z:Option Addr} {f:Nat→Nat} (h:StkSome w s q a l c) (hA:Arr w z c' f) (m:Mod (fun k _=>k=q) w w'):Arr w' z c' f:=by
  refine hA.mod m ?_
  rintro A rfl o hh
  have hA':=hA
  rcases hA' with ⟨e,_⟩ | ⟨b1,C,t,e,hb,hs,hc⟩
  · cases e
  · cases e
    exact h.off hA hh
def StkRel (w:World) (s N:Nat) (w':World):Prop:=StkIs w' s N∧Mod (fun k o=>N≤k) w w'∧∀ z c f,Arr w z c f→Arr w' z c f
theorem stk_restore1 (w:World) (s N:Nat) (hS:StkIs w s N):CallsD Tryz.prog 153 #[.pointer (some ⟨s,0,none⟩),.int .i64 0] .returning w fun e u' w'=>u'=.returning∧(e=.returned (.tuple #[])∧StkRel w s N w'):=by
  rcases hS with h | ⟨q,a,l,c,h,h1,h2⟩
  · refine (restoreD_nil s 0 .returning w h).mono ?_
    rintro e u' w' ⟨rfl,rfl,rfl⟩
    exact ⟨rfl,rfl,.inl h,.refl _ _,fun _ _ _ h=>h⟩
  · refine (restoreD_some s q l c 0 a .returning w h (by omega)).mono ?_
    rintro e u' w' ⟨rfl,rfl,rfl⟩
    have m:=mod_own w q 0 (.slice a 0 c)
    refine ⟨rfl,rfl,.inr ⟨q,a,0,c,h.cut (by omega),h1,h2⟩,m.mono fun k o hk hh => ?_,fun z c f hA=>Arr.offS h hA (m.mono fun k o _ hh=>hh)⟩
    unfold InB at hh;subst hh;exact h1
theorem stk_free1 (w:World) (s N:Nat) (hS:StkIs w s N):CallsD Tryz.prog 146 #[.pointer (some ⟨s,0,none⟩)] .returning w fun e u' w'=>u'=.returning∧(e=.returned (.tuple #[])∧Mod (fun k o=>N≤k) w w'∧∀ z c f,Arr w z c f→Arr w' z c f):=by
  rcases hS with h | ⟨q,a,l,c,h,h1,h2⟩
  · refine (freeD_nil s .returning w h).mono ?_
    rintro e u' w' ⟨rfl,rfl,rfl⟩
    exact ⟨rfl,rfl,.refl _ _,fun _ _ _ h=>h⟩
  · refine (freeD_some s q l c a .returning w h).mono ?_
    rintro e u' w' ⟨rfl,rfl,rfl⟩
    have m:=mod_own w q 0 (.slice a 0 c)
    refine ⟨rfl,rfl,m.mono fun k o hk hh => ?_,fun z c f hA=>Arr.offS h hA (m.mono fun k o _ hh=>hh)⟩
    unfold InB at hh;subst hh;exact h1
set_option maxRecDepth 100000 in
set_option maxHeartbeats 16000000 in
theorem divLarge_any (az a2 ax ay:Option Addr) (nz cz n2 c2 nx cx ny cy vx vy s:Nat) (w:World) (fz f2 fx fy:Nat→Nat) (hG:Glo w 6 40) (hS:StkNil w s) (hZ:Arr w az cz fz) (hnz:nz≤cz) (h2:Arr w a2 c2 f2) (hn2:n2≤c2)
    (hX:NatIs w ax nx cx fx vx) (hY:NatIs w ay ny cy fy vy) (hny:2≤ny) (hny2:ny≤39) (hnx:ny≤nx) (hnx2:nx≤900)
    (hsz:¬ BlkOf az s 0) (hs2:¬ BlkOf a2 s 0) (hsx:¬ BlkOf ax s 0) (hsy:¬ BlkOf ay s 0) (hz2:∀ A A',az=some A→a2=some A'→A.block≠A'.block) (hy2:∀ A A',ay=some A→a2=some A'→A.block≠A'.block)
    (hg2:¬ BlkOf a2 6 0) (hgs:s≠6) :
    Calls Tryz.prog 147 #[.slice az nz cz,.pointer (some ⟨s,0,none⟩),.slice a2 n2 c2,.slice ax nx cx,.slice ay ny cy] w (DivRet w s az a2 (vx/vy) (vx%vy)):=by
  obtain ⟨bx,rfl⟩:=hX.arr.form (by have:=hX.le;omega)
  obtain ⟨by_,rfl⟩:=hY.arr.form (by have:=hY.le;omega)
  have hbxs:bx≠s:=fun h=>hsx ⟨_,rfl,h⟩
  have hbys:by_≠s:=fun h=>hsy ⟨_,rfl,h⟩
  have hbxl:=hX.arr.lt
  have hbyl:=hY.arr.lt
  have hsl:=lt_of_heap hS
  have hyt:=hY.arr.vec (ny - 1) (by have:=hY.le;omega)
  rw [Nat.zero_add] at hyt
  have cy1:=hyt.1
  have hytop:fy (ny - 1)≠0:=by
    rcases hY.top with h | h
    · omega
    · exact h
  obtain ⟨yt,hyte⟩:∃ k,k=fy (ny - 1):=⟨_,rfl⟩
  rw [← hyte] at cy1 hyt
  have hytB:=hyt.2.2
  have HL:=Lib.hid (fun w=>nlz_any yt hytB w)
  have hlz:=lz_norm (x:=yt) (by omega) hytB
  obtain ⟨sh,hshe⟩:∃ k,k=lz yt:=⟨_,rfl⟩
  rw [← hshe] at HL hlz
  have HSH:=Lib.hid hlz
  have HYT:=Lib.hid hyte
  have hsh64:sh<64:=hlz.1
  have HSV:=Lib.hid (save_nil s w hS)
  have HNT:=Lib.hid (stkNat_nil s ny w hS (by omega) (by omega))
  have HX:=Lib.hid hX
  have HY:=Lib.hid hY
  have HZ:=Lib.hid hZ
  have H2:=Lib.hid h2
  have HS:=Lib.hid hS
  have HG:=Lib.hid hG
  have hmm:(nx:Int) - (ny:Int)=((nx - ny:Nat):Int):=by omega
  have i1:(0:Int)≤(ny:Int) - 1:=by omega
  have i2:(ny:Int) - 1<(ny:Int):=by omega
  have i3:((ny:Int) - 1).toNat=ny - 1:=by omega
  clear hX hY hZ h2 hS hG hyt hytop hyte hshe hlz
  generalize hmd:nx - ny=md at *
  have HMD:=Lib.hid hmd
  clear hmd
  go_enter_defers Tryz.func147,Tryz.ntmps147
  go_wp2_with fail
  refine HSV.out.mono ?_
  rintro e w' ⟨rfl,hw'⟩
  obtain rfl:=hw'.symm
  go_wp2_with fail
  refine (HL.out _).mono ?_
  rintro e w' ⟨rfl,hw'⟩
  obtain rfl:=hw'.symm
  go_wp2_with fail
  refine HNT.out.mono ?_
  rintro e w1 ⟨bv,cv,gv,CV,rfl,k1,k2,k3,k4,k5,k6⟩
  have h21:=H2.out.mod k5 (fun A hA o hh=>hs2 ⟨A,hA,hh⟩)
  have HMK:=make_any a2 n2 c2 (nx+1) w1 f2 h21 hn2 (by omega)
  rw [show ((nx+1:Nat):Int)=(nx:Int)+1 by omega] at HMK
  have HMKu:=Lib.hid HMK
  have K3:=Lib.hid k3
  have K5:=Lib.hid k5
  have K6:=Lib.hid k6
  clear h21 HMK k3 k5 k6 HSV HNT HL
  go_wp2_with fail
  refine HMKu.out.mono ?_
  rintro e w2 ⟨au,cu,gu,rfl,u1,u2,u3,u4⟩
  obtain ⟨bu,rfl⟩:=u1.form (by omega)
  have hbvl:=K3.out.lt
  have hne:bu≠bv:=by
    rcases u4 with h | ⟨k,h,hk⟩
    · have h9:bu<w.heap.size:=Arr.ltA H2.out _ h.symm;omega
    · obtain rfl:bu=k:=congrArg Addr.block (Option.some.inj h);omega
  have hus:bu≠s:=by
    rcases u4 with h | ⟨k,h,hk⟩
    · exact fun e=>hs2 ⟨_,h.symm,e⟩
    · obtain rfl:bu=k:=congrArg Addr.block (Option.some.inj h);have:=K5.out.size;omega
  have hu6:bu≠6:=by
    have h6:=lt_of_cell? HG.out
    rcases u4 with h | ⟨k,h,hk⟩
    · exact fun e=>hg2 ⟨_,h.symm,e⟩
    · obtain rfl:bu=k:=congrArg Addr.block (Option.some.inj h);have:=K5.out.size;omega
  have m12:Mod (InB s) w w2:=K5.out.trans' u3 fun _ _ _ h=>h.elim
  have hX2:=HX.out.mod m12 (by rintro A hA o hh;cases hA;exact hbxs hh)
  have hY2:=HY.out.mod m12 (by rintro A hA o hh;cases hA;exact hbys hh)
  have hZ2:=HZ.out.mod m12 (by rintro A hA o hh;exact hsz ⟨A,hA,hh⟩)
  have hV2:=K3.out.mod u3 (Off.noP _)
  have hfru:(some ⟨bu,0,none⟩:Option Addr)=a2∨Fresh w (some ⟨bu,0,none⟩):=u4.imp id fun h=>h.mono K5.out.size
  have HX2:=Lib.hid hX2
  have HY2:=Lib.hid hY2
  have HZ2:=Lib.hid hZ2
  have HV2:=Lib.hid hV2
  have HU2:=Lib.hid u1
  have HM2:=Lib.hid m12
  have HU3:=Lib.hid u3
  have HFRU:=Lib.hid hfru
  have HFR1:=Lib.hid u4
  clear u1 u3 u4 hX2 hY2 hZ2 hV2 m12 HMKu hfru
  go_upto_if 40 with fail
  go_cut [2] from 40 to 68 (fun s2 wx=>s2=.slice (some ⟨bu,0,none⟩) (nx+1) cu∧Hid (DlSt w2 wx bv CV bu cu nx ny vx vy sh))
  case first =>
    have l1:=HX2.out.le
    have l2:=HY2.out.le
    have hXv:=HX2.out.arr.vec.take l1
    have hYv:=HY2.out.arr.vec.take l2
    have hXw:∀ j,j<nx→fx j<B64:=fun j hj=>(hXv j hj).2.2
    have hYw:∀ j,j<ny→fy j<B64:=fun j hj=>(hYv j hj).2.2
    have hyv:=hYv (ny - 1) (by omega)
    have hxb:bx≠bv:=by omega
    by_cases hsh:sh=0
    · subst hsh
      have hs2':=HSH.out.2.2
      rw [HYT.out,Nat.pow_zero,Nat.mul_one] at hs2'
      obtain ⟨w3,hcp,hV3,m3⟩:=copyV_run w2 49 3 Tryz.underlying49 48 bv 0 ny cv CV gv HV2.out (by omega) by_ 0 cy fy hYv
      have hX3:=hXv.mod m3 (fun j hj hh=>hxb hh.1)
      have hU3:=HU2.out.mod m3 (by rintro A hA o hh;cases hA;exact hne hh.1)
      obtain ⟨w4,hcp4,hU4,m4⟩:=copyV_run w3 49 3 Tryz.underlying49 48 bu 0 nx cu cu gu hU3 (by omega) bx 0 cx fx hX3
      obtain ⟨⟨v0,hc0⟩,hf0,hst⟩:=dl_mk (sh:=0) (vx:=vx) (vy:=vy) (c:=0) HV2.out k2 (by omega) HU2.out u2 hne hV3 m3 hU4 m4 B64_pos (by rw [HY2.out.val,Nat.pow_zero,Nat.mul_one]) hs2' (by rw [HX2.out.val,Nat.pow_zero,Nat.mul_one,Nat.zero_mul,Nat.add_zero]) (by rw [B64_eq] at hs2';omega)
      have HST:=Lib.hid hst
      have hsl1:=slice_to bu 0 (nx+1) cu nx (by omega)
      clear hst hXv hYv hXw hYw hyv hX3 hU3 hV3 hU4 m3 m4 hs2'
      go_wp2_with (first | (refine wpList_copy rfl (.tmp 41) (.tmp 42) 49 49 rfl _ _ rfl rfl hcp ?_;go_simp) | (refine wpList_copy rfl (.tmp 47) (.tmp 48) 49 49 rfl _ _ rfl rfl hcp4 ?_;go_simp))
      go_meet
      case rel=>exact ⟨rfl,HST.out⟩
    · have hs1':=HSH.out.2.1
      have hs2':=HSH.out.2.2
      rw [HYT.out] at hs1' hs2'
      obtain ⟨e1,e2,e3,e4⟩:=dl_lead (X:=fx) (nx:=nx) hXw hYw (by omega) (by omega) hsh64 hs1' hs2'
      have hbsh:((sh:Int) == 0)=false:=by simp [hsh]
      have HA:=Lib.hid (lshVU_any bv 0 cv by_ 0 cy ny sh fy gv w2 hYv (HV2.out.vec.take k2) (by omega) (by omega) (by omega) hsh64 (fun _=>rfl))
      have HB:=Lib.hid (fun w3 (m3:Mod (InR bv 0 ny) w2 w3)=>lshVU_any bu 0 cu bx 0 cx nx sh fx gu w3 (hXv.mod m3 fun j hj hh=>hxb hh.1) ((HU2.out.vec.take (by omega)).mod m3 fun j hj hh=>hne hh.1) (by omega) (by omega) (by omega) hsh64 (fun _=>rfl))
      have HC:=Lib.hid (fun w3 w4 (hV3:Vec w3 bv 0 ny (shlW fy sh)) (m3:Mod (InR bv 0 ny) w2 w3) (hU4:Vec w4 bu 0 nx (shlW fx sh)) (m4:Mod (InR bu 0 nx) w3 w4)=>dl_mk (sh:=sh) (vx:=vx) (vy:=vy) (c:=shlC fx sh nx) HV2.out k2 (by omega) HU2.out u2 hne hV3 m3 hU4 m4 e4 (by rw [e1,HY2.out.val]) e2 (by rw [shl_val _ _ _ hsh64,HX2.out.val]) e3)
      have hsl1:=slice_to bu 0 (nx+1) cu nx (by omega)
      have p1:(nx:Int)<(nx:Int)+1:=by omega
      clear hXv hYv hXw hYw hyv hs2' hs1' e1 e2 e3 e4 hsh
      generalize shlC fx sh nx=sc at *
      go_wp2_with fail
      refine HA.out.mono ?_
      rintro e w3 ⟨rfl,hV3,m3⟩
      have HB3:=Lib.hid (HB.out _ m3)
      have HC3:=Lib.hid (fun w4=>HC.out _ w4 hV3 m3)
      clear hV3 m3 HA HB HC
      go_wp2_with fail
      refine HB3.out.mono ?_
      rintro e w4 ⟨rfl,hU4,m4⟩
      obtain ⟨⟨v0,hc0⟩,hf0,hst⟩:=HC3.out w4 hU4 m4
      have HST:=Lib.hid hst
      clear hst hU4 m4 HC3 HB3
      go_wp2_with fail
      go_meet
      case rel=>exact ⟨rfl,HST.out⟩
  case rest =>
    obtain ⟨rfl,hd⟩:=hcut
    obtain ⟨V,X,d1,d2,d3,d4,d5,d6⟩:=hd.out.st
    have md2:=hd.out.mod
    have hbzu:∀ A,az=some A→A.block≠bu∧A.block≠bv∧A.block<w.heap.size:=fun A hA=>by
      have h9:A.block<w.heap.size:=Arr.ltA HZ.out _ hA
      refine ⟨?_,by omega,h9⟩
      rcases HFRU.out with h | ⟨k,h,hk⟩
      · exact hz2 A _ hA h.symm
      · obtain rfl:bu=k:=congrArg Addr.block (Option.some.inj h);omega
    have hZc:=HZ2.out.mod md2 (by rintro A hA o hh;have:=hbzu A hA;rcases hh with hh | hh <;> omega)
    have hal:=alias_any az (some ⟨bu,0,none⟩) nz cz (nx+1) cu fz X wc hZc d2 hnz u2
    rw [decide_eq_false (show ¬ (az=some ⟨bu,0,none⟩∧0<cz) from fun h=>(hbzu _ h.1).1 rfl)] at hal
    have HAL:=Lib.hid hal
    have HMK:=Lib.hid (fun q=>make_any az nz cz (md+1) (wc.drewN q) fz (hZc.drewN q) hnz (by omega))
    have c6:wc.cell? ⟨6,0,none⟩=some (.int .i64 40):=by
      have h6:=lt_of_cell? HG.out
      have g2:=HM2.out.cell_some HG.out (fun hh=>hgs hh.symm)
      exact md2.cell_some g2 (fun hh=>by rcases hh with hh | hh <;> omega)
    have hlt40:(ny:Int)<40:=by omega
    have HD1:=Lib.hid d1
    have HD2:=Lib.hid d2
    have HD3:=Lib.hid d3
    have HD4:=Lib.hid d4
    have HD5:=Lib.hid d5
    have HD6:=Lib.hid d6
    have HMD2:=Lib.hid md2
    have HZC:=Lib.hid hZc
    have HBZU:=Lib.hid hbzu
    rw [show ((md+1:Nat):Int)=(md:Int)+1 by omega] at HMK
    clear hd d1 d2 d3 d4 d5 d6 md2 hZc hal hbzu
    go_wp2_with fail
    refine HAL.out.mono ?_
    rintro e w' ⟨rfl,qd,rfl⟩
    have HMK1:=Lib.hid (HMK.out qd)
    clear HMK HAL
    go_wp2_with fail
    refine HMK1.out.mono ?_
    rintro e w5 ⟨aq,cq,gq,rfl,q1,q2,q3,q4⟩
    obtain ⟨bq,rfl⟩:=q1.form (by omega)
    have hwcs:wc.heap.size≤(wc.drewN qd).heap.size:=Nat.le_refl _
    have hs12:=HM2.out.size
    have hsc:=HMD2.out.size
    have hbvl2:bv<wc.heap.size:=HD1.out.lt
    have hbul2:bu<wc.heap.size:=HD2.out.lt
    have hq:(some ⟨bq,0,none⟩:Option Addr)=az∨wc.heap.size≤bq:=by
      rcases q4 with h | ⟨k,h,hk⟩
      · exact .inl h
      · obtain rfl:bq=k:=congrArg Addr.block (Option.some.inj h);exact .inr hk
    have hbq:bq≠bu∧bq≠bv∧bq≠s:=by
      rcases hq with h | h
      · have:=HBZU.out _ h.symm
        exact ⟨this.1,this.2.1,fun e=>hsz ⟨_,h.symm,e⟩⟩
      · exact ⟨by omega,by omega,by omega⟩
    have m25:Mod (fun k o=>k=bv∨k=bu) w2 w5:=HMD2.out.trans' (((Mod.refl NoP wc).drewN qd).trans q3) fun _ _ _ h=>h.elim
    have m15:Mod (fun k o=>k=bv∨k=bu) w1 w5:=HU3.out.of_none.trans m25
    have hV5:=HD1.out.mod (((Mod.refl NoP wc).drewN qd).trans q3) (Off.noP _)
    have hU5:=HD2.out.mod (((Mod.refl NoP wc).drewN qd).trans q3) (Off.noP _)
    have hpre:StkPre w5 s w.heap.size bq bu bv 0 ny:=by
      rcases K6.out with h | ⟨q,l,cc,h,g1,g2,g3⟩
      · exact .inl (h.mod m15 fun o hh=>by rcases hh with hh | hh <;> omega)
      · obtain ⟨f1,hf1⟩:=h.hA
        obtain rfl:=arr_cap hf1 K3.out
        have hql:=lt_of_heap h.hq
        have hbqq:q≠bq:=by
          rcases hq with e | e
          · have:=(HBZU.out _ e.symm).2.2
            have e9:(⟨bq,0,none⟩:Addr).block=bq:=rfl
            rw [e9] at this
            omega
          · have:=HU3.out.size;omega
        have hbuq:q≠bu:=by
          rcases HFR1.out with e | ⟨k,e,hk⟩
          · have h9:bu<w.heap.size:=Arr.ltA H2.out _ e.symm;omega
          · obtain rfl:bu=k:=congrArg Addr.block (Option.some.inj e)
            omega
        have hbvq:q≠bv:=fun e=>(h.ap _ rfl).1 e.symm
        exact .inr ⟨q,_,l,_,h.mod m15 (fun o hh=>by rcases hh with hh | hh <;> omega) (fun o hh=>by rcases hh with hh | hh <;> omega) ⟨_,hV5⟩,g3,fun A hA=>by cases hA;exact k4,by omega,hbqq,hbuq,hbvq,fun A hA=>by cases hA;exact ⟨fun e=>hbq.2.1 e.symm,fun e=>hne e.symm,fun _=>by omega⟩⟩
    have HDB:=Lib.hid (divBasic_any bq cq bu cu bv 0 cv s w.heap.size ny (md+1) (nx+1) gq X V w5 q1 q2 hU5 (by have:=HMD.out;omega) u2 (hV5.vec.take k2) k1 hny (by omega) (by omega) (by omega) HD5.out (by rw [show md+1+ny - 1=nx by have:=HMD.out;omega];exact HD6.out) hpre (by have:=q3.size;omega) hbq.1 (fun e=>hbq.2.1 e.symm) (fun e=>hne e.symm) (fun e=>hbq.2.2 e.symm) (fun e=>hus e.symm) (by omega))
    have HQN:=Lib.hid (unscale (X:=vx) (y:=vy) (l:=sh) (q:=vx*2^sh/(vy*2^sh)) (r:=vx*2^sh%(vy*2^sh)) (by have:=HY.out.ge (by omega);have:=pow_pos (ny - 1);omega) rfl rfl)
    
    have HEND:=Lib.hid (fun (w7:World) (g f7:Nat→Nat) (hg:Arr w7 (some ⟨bq,0,none⟩) cq g) (hgv:val g (md+1)=vx/vy) (hf:Arr w7 (some ⟨bu,0,none⟩) cu f7) (hfv:val f7 (nx+1)=vx%vy) (hs7:StkIs w7 s w.heap.size)
        (m7:Mod (fun b o=>b=bq∨b=bu∨b=s∨w.heap.size≤b) w5 w7) (mq mu:Nat) (hq7:NatIs w7 (some ⟨bq,0,none⟩) mq cq g (val g (md+1))) (hu7:NatIs w7 (some ⟨bu,0,none⟩) mu cu f7 (val f7 (nx+1))) =>
      (show CallsD Tryz.prog 153 #[.pointer (some ⟨s,0,none⟩),.int .i64 0] .returning w7 fun e u' w8=>u'=.returning∧e=.returned (.tuple #[])∧DivRet w s az a2 (vx/vy) (vx%vy) (.returned (.tuple #[.slice (some ⟨bq,0,none⟩) mq cq,.slice (some ⟨bu,0,none⟩) mu cu])) w8 from (stk_restore1 w7 s w.heap.size hs7).mono fun e u' w8 h=>by
        obtain ⟨h1,h2,h3,h4,h5⟩:=h
        refine ⟨h1,h2,_,_,_,_,_,_,_,_,rfl,⟨h5 _ _ _ hg,hq7.le,by rw [← hgv];exact hq7.val,hq7.top⟩,⟨h5 _ _ _ hf,hu7.le,by rw [← hfv];exact hu7.val,hu7.top⟩,?_,HFRU.out,?_,?_,h3⟩
        · rcases hq with e | e
          · exact .inl e
          · exact .inr ⟨_,rfl,by omega⟩
        · rintro A A' hA hA'
          cases hA;cases hA'
          exact hbq.1
        · have ma:Mod (fun k o=>BlkOf az k o∨BlkOf a2 k o∨k=s) w w2:=HM2.out.mono fun k o _ hh=>.inr (.inr hh)
          have mb:Mod (fun k o=>BlkOf az k o∨BlkOf a2 k o∨k=s) w w5:=ma.trans' m25 fun k o hk hh=>by
            rcases hh with rfl | rfl
            · omega
            · exact .inr (.inl (blk_of HFRU.out hk o))
          have mc:Mod (fun k o=>BlkOf az k o∨BlkOf a2 k o∨k=s) w w7:=mb.trans' m7 fun k o hk hh=>by
            rcases hh with rfl | rfl | rfl | hh
            · rcases hq with e | e
              · exact .inl ⟨_,e.symm,rfl⟩
              · omega
            · exact .inr (.inl (blk_of HFRU.out hk o))
            · exact .inr (.inr rfl)
            · omega
          exact mc.trans' h4 fun k o hk hh=>by omega))
    have HBQ:=Lib.hid hbq
    have c65:=(((Mod.refl NoP wc).drewN qd).trans q3).cell_some c6 (fun h=>h)
    clear c6 hq hwcs hV5 hU5 q1 q3 q4 m25 m15 hpre hbq K6 K5 HU3 HMK1
    go_wp2_with fail
    refine HDB.out.mono ?_
    rintro e w6 ⟨rfl,f6,g6,a1,a2',a3,a4,a5,a6⟩
    rw [HD3.out,HD4.out] at a3 a4
    rw [(HQN.out).1.symm] at a3
    have HNQ:=Lib.hid (norm_any (some ⟨bq,0,none⟩) (md+1) cq w6 g6 a2' q2 (by omega))
    have A1:=Lib.hid a1
    have A2:=Lib.hid a2'
    have A3:=Lib.hid a3
    have A4:=Lib.hid a4
    have A5:=Lib.hid a5
    have A6:=Lib.hid a6
    clear a1 a2' a3 a4 a5 a6 HDB
    go_wp2_with fail
    refine HNQ.out.mono ?_
    rintro e w' ⟨mq,rfl,hw',hmq,hnq⟩
    obtain rfl:=hw'.symm
    have NQ:=Lib.hid hnq
    clear hnq HNQ
    by_cases hsh:sh=0
    · subst hsh
      have HNU:=Lib.hid (norm_any (some ⟨bu,0,none⟩) (nx+1) cu w6 f6 A1.out u2 (by omega))
      go_wp2_with fail
      refine HNU.out.mono ?_
      rintro e w' ⟨mu,rfl,hw',hmu,hnu⟩
      obtain rfl:=hw'.symm
      have hv:val f6 (nx+1)=vx%vy:=by rw [A4.out,Nat.pow_zero,Nat.mul_one,Nat.mul_one]
      have HE9:=Lib.hid (HEND.out w6 g6 f6 A2.out A3.out A1.out hv A5.out A6.out mq mu NQ.out hnu)
      clear hnu hv HNU HEND
      go_wp2_with fail
      refine leaves_cons (f:=153) (args:=#[.pointer (some ⟨s,0,none⟩),.int .i64 0]) (by simp) (by simp [go_sem]) ?_
      refine HE9.out.mono ?_
      rintro e u' w'' ⟨rfl,rfl,hres⟩
      refine ⟨_,results_tmp2 rfl _ _ _,?_⟩
      exact hres
    · have hbsh:((sh:Int) == 0)=false:=by simp [hsh]
      have hbsh2:((sh:Int) != 0)=true:=by simp [hsh]
      have HR:=Lib.hid (rshVU_any bu 0 cu bu 0 cu (nx+1) sh f6 f6 w6 (A1.out.vec.take u2) (A1.out.vec.take u2) (by omega) (by omega) (by omega) hsh64 (fun _=>.inl (Nat.le_refl _)))
      go_wp2_with fail
      refine HR.out.mono ?_
      rintro e w7 ⟨⟨cc,rfl⟩,hV7,m7⟩
      have hU7:=A1.out.wrote hV7 m7
      have hB7:=A2.out.mod m7 (by rintro A hA o hh;cases hA;exact HBQ.out.1 hh.1)
      have hNQ7:=NQ.out.mod m7 (by rintro A hA o hh;cases hA;exact HBQ.out.1 hh.1)
      have hs7:StkIs w7 s w.heap.size:=by
        rcases A5.out with h | ⟨q,a,l,c,h,h1,h2⟩
        · exact .inl (h.mod m7 fun o hh=>hus hh.1.symm)
        · have hbu:=h.off A1.out
          refine .inr ⟨q,a,l,c,h.mod m7 (fun o hh=>hus hh.1.symm) (fun o hh=>hbu hh.1.symm) ?_,h1,h2⟩
          obtain ⟨f9,hf9⟩:=h.hA
          by_cases e:a=some ⟨bu,0,none⟩
          · subst e
            obtain rfl:=arr_cap hf9 A1.out
            exact ⟨_,hU7⟩
          · refine ⟨_,hf9.mod m7 ?_⟩
            rintro A rfl o hh
            rcases hf9 with ⟨e1,_⟩ | ⟨b1,C,t,e1,_⟩
            · cases e1
            · cases e1
              have h9:b1=bu:=hh.1
              exact e (by rw [h9])
      have hv:val (splice (shrW f6 (nx+1) sh) (nx+1) f6) (nx+1)=vx%vy:=by
        rw [val_splice _ _ (Nat.le_refl _),shr_val _ _ _ (by omega) hsh64,A4.out,(HQN.out).2]
      have HNU:=Lib.hid (norm_any (some ⟨bu,0,none⟩) (nx+1) cu w7 _ hU7 u2 (by omega))
      have HE8:=Lib.hid (fun mu=>HEND.out w7 g6 _ hB7 A3.out hU7 hv hs7 (A6.out.trans' m7 fun k o _ hh=>.inr (.inl hh.1)) mq mu hNQ7)
      clear hV7 hU7 hB7 hNQ7 hs7 m7 hv HEND HR
      go_wp2_with fail
      refine HNU.out.mono ?_
      rintro e w' ⟨mu,rfl,hw',hmu,hnu⟩
      obtain rfl:=hw'.symm
      have HE9:=Lib.hid (HE8.out mu hnu)
      clear hnu HNU HE8
      go_wp2_with fail
      refine leaves_cons (f:=153) (args:=#[.pointer (some ⟨s,0,none⟩),.int .i64 0]) (by simp) (by simp [go_sem]) ?_
      refine HE9.out.mono ?_
      rintro e u' w'' ⟨rfl,rfl,hres⟩
      refine ⟨_,results_tmp2 rfl _ _ _,?_⟩
      exact hres
end
section
open Go Go.RowKit
def DivRet0 (w:World) (z z2:Option Addr) (q r:Nat) (e:Ending) (w':World):Prop :=
  ∃ a n c f a' n' c' f',e=.returned (.tuple #[.slice a n c,.slice a' n' c'])∧NatIs w' a n c f q∧NatIs w' a' n' c' f' r∧(a=z∨Fresh w a)∧(a'=z2∨Fresh w a') ∧
    (∀ A A',a=some A→a'=some A'→A.block≠A'.block)∧Mod (fun k o=>BlkOf z k o∨BlkOf z2 k o) w w'
theorem NatIs.drewN {w:World} {a:Option Addr} {n c v:Nat} {f:Nat→Nat} (h:NatIs w a n c f v) (q:Nat):NatIs (w.drewN q) a n c f v:=⟨h.arr.drewN q,h.le,h.val,h.top⟩
set_option maxRecDepth 100000 in
set_option maxHeartbeats 2000000 in
theorem div_word (az a2 ax ay:Option Addr) (nz cz n2 c2 nx cx cy vx vy:Nat) (sv:Value) (w:World) (fz f2 fx fy:Nat→Nat) (hZ:Arr w az cz fz) (hnz:nz≤cz) (h2:Arr w a2 c2 f2) (hn2:n2≤c2)
    (hX:NatIs w ax nx cx fx vx) (hY:NatIs w ay 1 cy fy vy) (hnx:2≤nx) (hnx2:nx≤900) (hz2:∀ A A',az=some A→a2=some A'→A.block≠A'.block) :
    Calls Tryz.prog 129 #[.slice az nz cz,sv,.slice a2 n2 c2,.slice ax nx cx,.slice ay 1 cy] w (DivRet0 w az a2 (vx/vy) (vx%vy)):=by
  obtain ⟨by_,rfl⟩:=hY.arr.form (by have:=hY.le;omega)
  have hy:=hY.arr.vec 0 (by have:=hY.le;omega)
  have hv:vy=fy 0:=by rw [← hY.val,val_one]
  rw [Nat.zero_add,← hv] at hy
  have cy0:=hy.1
  have hy0:0<vy:=by
    rcases hY.top with h | h
    · omega
    · rw [show 1 - 1=0 by omega,← hv] at h;omega
  have HD:=Lib.hid (divW_any az ax nz cz nx cx vx vy w fz fx hZ hnz hX (by omega) hnx hy0 hy.2.2)
  have hrB:vx%vy<B64:=Nat.lt_trans (Nat.mod_lt _ hy0) hy.2.2
  have H2:=Lib.hid h2
  have HZ:=Lib.hid hZ
  clear hX hY hZ h2 hy hv hy0
  generalize vx/vy=q at *
  generalize vx%vy=r at *
  go_enter_defers Tryz.func129,Tryz.ntmps129
  go_wp2_with fail
  refine HD.out.mono ?_
  rintro e w1 ⟨a,n,c,f,rfl,k1,k2,k3⟩
  have h21:=H2.out.mod k2 (by rintro A hA o ⟨A',hA',hb⟩;exact hz2 A' A hA' hA hb)
  have HW:=Lib.hid (setWord_any a2 n2 c2 r w1 f2 h21 hn2 hrB)
  have K1:=Lib.hid k1
  have K2:=Lib.hid k2
  clear k1 k2 h21 HD
  go_wp2_with fail
  refine HW.out.mono ?_
  rintro e w2 ⟨a',n',c',f',rfl,l1,l2,l3⟩
  have hne:∀ A A',a=some A→a'=some A'→A.block≠A'.block:=by
    intro A A' hA hA'
    have hAl:A.block<w1.heap.size:=Arr.ltA K1.out.arr A hA
    rcases l3 with rfl | ⟨k,e,hk⟩
    · have hAl':A'.block<w.heap.size:=Arr.ltA H2.out A' hA'
      rcases k3 with rfl | ⟨k,e,hk⟩
      · exact hz2 A A' hA hA'
      · have h9:A.block=k:=by rw [e] at hA;cases hA;rfl
        omega
    · have h9:A'.block=k:=by rw [e] at hA';cases hA';rfl
      omega
  have hq:=K1.out.mod l2 (by
    rintro A hA o ⟨A',hA',hb⟩
    rcases l3 with rfl | h
    · exact hne A A' hA hA' hb.symm
    · have hAl':A'.block<w.heap.size:=Arr.ltA H2.out A' hA'
      rcases k3 with rfl | ⟨k,e,hk⟩
      · exact hz2 A A' hA hA' hb.symm
      · have h9:A.block=k:=by rw [e] at hA;cases hA;rfl
        omega)
  have HE:=Lib.hid (show DivRet0 w az a2 q r (.returned (.tuple #[.slice a n c,.slice a' n' c'])) w2 from
    ⟨_,_,_,_,_,_,_,_,rfl,hq,l1,k3,l3.imp id fun h=>h.mono K2.out.size,hne,(K2.out.mono fun k o _ h=>.inl h).trans' l2 fun k o _ h=>.inr h⟩)
  clear l1 l2 hq hne HW
  go_wp2_with fail
  refine ⟨_,results_tmp2 rfl _ _ _,?_⟩
  exact HE.out
set_option maxRecDepth 100000 in
set_option maxHeartbeats 2000000 in
theorem div_less (az a2 ax ay:Option Addr) (nz cz n2 c2 nx cx ny cy vx vy:Nat) (sv:Value) (w:World) (fz f2 fx fy:Nat→Nat) (hZ:Arr w az cz fz) (hnz:nz≤cz) (h2:Arr w a2 c2 f2) (hn2:n2≤c2)
    (hX:NatIs w ax nx cx fx vx) (hY:NatIs w ay ny cy fy vy) (hny:2≤ny) (hny2:ny≤39) (hlt:vx<vy) (hz2:∀ A A',az=some A→a2=some A'→A.block≠A'.block) :
    Calls Tryz.prog 129 #[.slice az nz cz,sv,.slice a2 n2 c2,.slice ax nx cx,.slice ay ny cy] w (DivRet0 w az a2 (vx/vy) (vx%vy)):=by
  rw [Nat.div_eq_of_lt hlt,Nat.mod_eq_of_lt hlt]
  have hnx:nx≤ny:=by
    rcases Nat.lt_or_ge ny nx with h | h
    · have:=hY.less_len hX h;omega
    · exact h
  have HC:=Lib.hid (cmp_any ax ay nx cx ny cy vx vy fx fy w hX hY (by omega) (by omega))
  rw [cmpV_lt hlt] at HC
  have hs:∀ w',(Instr.slice 49 (.slice az nz cz) none (some (.int .i64 0)) none).run Tryz.prog w'=.ok (.slice az 0 cz) w':=fun w'=>by
    rcases hZ with ⟨rfl,rfl⟩ | ⟨b,C,t,rfl,hb,hsz,hc⟩
    · obtain rfl:nz=0:=by omega
      simp [go_sem]
    · simp [go_sem]
  have HS:=Lib.hid (fun q=>natSet_any a2 ax n2 c2 nx cx vx (w.drewN q) f2 fx (h2.drewN q) hn2 (hX.drewN q) (by omega))
  have b1:((ny:Int) == 0)=false:=by simp;omega
  have b2:((ny:Int) == 1)=false:=by simp;omega
  have HZ:=Lib.hid hZ
  have H2:=Lib.hid h2
  clear hX hY hZ h2 hlt
  go_enter_defers Tryz.func129,Tryz.ntmps129
  go_wp2_with fail
  refine HC.out.mono ?_
  rintro e w' ⟨rfl,q,rfl⟩
  have HS1:=Lib.hid (HS.out q)
  clear HS HC
  go_wp2_with fail
  refine HS1.out.mono ?_
  rintro e w2 ⟨a',n',c',f',rfl,l1,l2,l3⟩
  have hq:Arr w2 az cz fz:=(HZ.out.drewN q).mod l2 (by rintro A hA o ⟨A',hA',hb⟩;exact hz2 A A' hA hA' hb.symm)
  have l3':a'=a2∨Fresh w a':=l3
  have HE:=Lib.hid (show DivRet0 w az a2 0 vx (.returned (.tuple #[.slice az 0 cz,.slice a' n' c'])) w2 from
    ⟨_,_,_,_,_,_,_,_,rfl,.zero hq,l1,.inl rfl,l3',by
      intro A A' hA hA'
      have hAl:A.block<w.heap.size:=Arr.ltA HZ.out A hA
      rcases l3' with rfl | ⟨k,e,hk⟩
      · exact hz2 A A' hA hA'
      · have h9:A'.block=k:=by rw [e] at hA';cases hA';rfl
        omega,((Mod.refl (fun k o=>BlkOf az k o∨BlkOf a2 k o) w).drewN q).trans' l2 fun k o _ h=>.inr h⟩)
  clear l1 l2 hq HS1
  go_wp2_with fail
  refine ⟨_,results_tmp2 rfl _ _ _,?_⟩
  exact HE.out
set_option maxRecDepth 100000 in
set_option maxHeartbeats 2000000 in
theorem div_large0 (az a2 ax ay:Option Addr) (nz cz n2 c2 nx cx ny cy vx vy:Nat) (w:World) (fz f2 fx fy:Nat→Nat) (hG:Glo w 6 40) (hZ:Arr w az cz fz) (hnz:nz≤cz) (h2:Arr w a2 c2 f2) (hn2:n2≤c2)
    (hX:NatIs w ax nx cx fx vx) (hY:NatIs w ay ny cy fy vy) (hny:2≤ny) (hny2:ny≤39) (hge:vy≤vx) (hnx2:nx≤900)
    (hz2:∀ A A',az=some A→a2=some A'→A.block≠A'.block) (hy2:∀ A A',ay=some A→a2=some A'→A.block≠A'.block) (hg2:¬ BlkOf a2 6 0) :
    Calls Tryz.prog 129 #[.slice az nz cz,.pointer none,.slice a2 n2 c2,.slice ax nx cx,.slice ay ny cy] w (DivRet0 w az a2 (vx/vy) (vx%vy)):=by
  have hnx:ny≤nx:=by
    rcases Nat.lt_or_ge nx ny with h | h
    · have:=hX.less_len hY h;omega
    · exact h
  have HC:=Lib.hid (cmp_any ax ay nx cx ny cy vx vy fx fy w hX hY (by omega) (by omega))
  have hcv:0≤cmpV vx vy:=by unfold cmpV;rw [if_neg (by omega)];split <;> omega
  generalize cmpV vx vy=cv at *
  have hcv2:¬ cv<0:=by omega
  have hcv3:decide (cv<0)=false:=decide_eq_false hcv2
  have b1:((ny:Int) == 0)=false:=by simp;omega
  have b2:((ny:Int) == 1)=false:=by simp;omega
  have HD:=Lib.hid (fun q=>by
    have m:Mod NoP w ((w.drewN q).alloc (.cells #[.pointer none] 230)):=((Mod.refl NoP w).drewN q).alloc _
    have off:∀ z c f,Arr w z c f→¬ BlkOf z w.heap.size 0:=fun z c f h ⟨A,hA,hb⟩=>by have:A.block<w.heap.size:=Arr.ltA h A hA;omega
    exact divLarge_any az a2 ax ay nz cz n2 c2 nx cx ny cy vx vy w.heap.size ((w.drewN q).alloc (.cells #[.pointer none] 230)) fz f2 fx fy (m.cell_some hG fun h=>h) (by show (w.heap.push _)[w.heap.size]? = _;simp) (hZ.mod m (Off.noP _)) hnz (h2.mod m (Off.noP _)) hn2
      (hX.mod m (Off.noP _)) (hY.mod m (Off.noP _)) hny hny2 hnx hnx2 (off _ _ _ hZ) (off _ _ _ h2) (off _ _ _ hX.arr) (off _ _ _ hY.arr) hz2 hy2 hg2 (by have:=lt_of_cell? hG;omega))
  have HZ:=Lib.hid hZ
  have H2:=Lib.hid h2
  clear hX hY hZ h2 hG
  generalize vx/vy=qq at *
  generalize vx%vy=rr at *
  have HGS:=Lib.hid (fun q=>getStack_any (w.drewN q))
  go_enter_defers Tryz.func129,Tryz.ntmps129
  go_wp2_with fail
  refine HC.out.mono ?_
  rintro e w' ⟨rfl,q,rfl⟩
  have HGS1:=Lib.hid (HGS.out q)
  have HD1:=Lib.hid (HD.out q)
  clear HC HGS HD
  go_wp2_with fail
  refine HGS1.out.mono ?_
  rintro e w1 ⟨rfl,rfl⟩
  go_wp2_with fail
  refine HD1.out.mono ?_
  rintro e w2 ⟨a,n,c,f,a',n',c',f',rfl,l1,l2,l3,l4,l5,l6,l7⟩
  have HE:=Lib.hid (show CallsD Tryz.prog 146 #[.pointer (some ⟨w.heap.size,0,none⟩)] .returning w2 fun e u' w3=>u'=.returning∧e=.returned (.tuple #[])∧DivRet0 w az a2 qq rr (.returned (.tuple #[.slice a n c,.slice a' n' c'])) w3 from (stk_free1 w2 _ _ l7).mono fun e u' w3 h=>by
    obtain ⟨h1,h2,h3,h4⟩:=h
    have ms:w.heap.size≤((w.drewN q).alloc (.cells #[.pointer none] 230)).heap.size:=by show w.heap.size≤(w.heap.push _).size;simp
    refine ⟨h1,h2,_,_,_,_,_,_,_,_,rfl,⟨h4 _ _ _ l1.arr,l1.le,l1.val,l1.top⟩,⟨h4 _ _ _ l2.arr,l2.le,l2.val,l2.top⟩,l3.imp id fun h=>h.mono ms,l4.imp id fun h=>h.mono ms,l5,?_⟩
    refine ((((Mod.refl (fun k o=>BlkOf az k o∨BlkOf a2 k o) w).drewN q).alloc _).trans' l6 fun k o hk hh => ?_).trans' h3 fun k o hk hh=>by omega
    rcases hh with hh | hh | hh
    · exact .inl hh
    · exact .inr hh
    · omega)
  clear l1 l2 l3 l4 l5 l6 l7 HD1 HGS1
  go_wp2_with fail
  refine leaves_cons (f:=146) (args:=#[.pointer (some ⟨w.heap.size,0,none⟩)]) (by simp) (by simp [go_sem]) ?_
  refine HE.out.mono ?_
  rintro e u' w'' ⟨rfl,rfl,hres⟩
  refine ⟨_,results_tmp2 rfl _ _ _,?_⟩
  exact hres
theorem div_any (az a2 ax ay:Option Addr) (nz cz n2 c2 nx cx ny cy vx vy:Nat) (w:World) (fz f2 fx fy:Nat→Nat) (hG:Glo w 6 40) (hZ:Arr w az cz fz) (hnz:nz≤cz) (h2:Arr w a2 c2 f2) (hn2:n2≤c2)
    (hX:NatIs w ax nx cx fx vx) (hY:NatIs w ay ny cy fy vy) (hny:1≤ny) (hny2:ny≤39) (hny1:ny=1→2≤nx) (hnx2:nx≤900)
    (hz2:∀ A A',az=some A→a2=some A'→A.block≠A'.block) (hy2:∀ A A',ay=some A→a2=some A'→A.block≠A'.block) (hg2:¬ BlkOf a2 6 0) :
    Calls Tryz.prog 129 #[.slice az nz cz,.pointer none,.slice a2 n2 c2,.slice ax nx cx,.slice ay ny cy] w (DivRet0 w az a2 (vx/vy) (vx%vy)):=by
  by_cases h1:ny=1
  · subst h1
    exact div_word az a2 ax ay nz cz n2 c2 nx cx cy vx vy _ w fz f2 fx fy hZ hnz h2 hn2 hX hY (hny1 rfl) hnx2 hz2
  · rcases Nat.lt_or_ge vx vy with hlt | hge
    · exact div_less az a2 ax ay nz cz n2 c2 nx cx ny cy vx vy _ w fz f2 fx fy hZ hnz h2 hn2 hX hY (by omega) hny2 hlt hz2
    · exact div_large0 az a2 ax ay nz cz n2 c2 nx cx ny cy vx vy w fz f2 fx fy hG hZ hnz h2 hn2 hX hY (by omega) hny2 hge hnx2 hz2 hy2 hg2
set_option maxRecDepth 100000 in
set_option maxHeartbeats 2000000 in
theorem div_large1 (az a2 ax ay:Option Addr) (nz cz n2 c2 nx cx ny cy vx vy s:Nat) (w:World) (fz f2 fx fy:Nat→Nat) (hG:Glo w 6 40) (hS:StkNil w s) (hZ:Arr w az cz fz) (hnz:nz≤cz) (h2:Arr w a2 c2 f2) (hn2:n2≤c2)
    (hX:NatIs w ax nx cx fx vx) (hY:NatIs w ay ny cy fy vy) (hny:2≤ny) (hny2:ny≤39) (hge:vy≤vx) (hnx2:nx≤900)
    (hsz:¬ BlkOf az s 0) (hs2:¬ BlkOf a2 s 0) (hsx:¬ BlkOf ax s 0) (hsy:¬ BlkOf ay s 0)
    (hz2:∀ A A',az=some A→a2=some A'→A.block≠A'.block) (hy2:∀ A A',ay=some A→a2=some A'→A.block≠A'.block) (hg2:¬ BlkOf a2 6 0) (hgs:s≠6) :
    Calls Tryz.prog 129 #[.slice az nz cz,.pointer (some ⟨s,0,none⟩),.slice a2 n2 c2,.slice ax nx cx,.slice ay ny cy] w (DivRet w s az a2 (vx/vy) (vx%vy)):=by
  have hnx:ny≤nx:=by
    rcases Nat.lt_or_ge nx ny with h | h
    · have:=hX.less_len hY h;omega
    · exact h
  have HC:=Lib.hid (cmp_any ax ay nx cx ny cy vx vy fx fy w hX hY (by omega) (by omega))
  have hcv:0≤cmpV vx vy:=by unfold cmpV;rw [if_neg (by omega)];split <;> omega
  generalize cmpV vx vy=cv at *
  have hcv2:¬ cv<0:=by omega
  have hcv3:decide (cv<0)=false:=decide_eq_false hcv2
  have b1:((ny:Int) == 0)=false:=by simp;omega
  have b2:((ny:Int) == 1)=false:=by simp;omega
  have HD:=Lib.hid (fun q=>divLarge_any az a2 ax ay nz cz n2 c2 nx cx ny cy vx vy s (w.drewN q) fz f2 fx fy hG hS (hZ.drewN q) hnz (h2.drewN q) hn2 (hX.drewN q) (hY.drewN q) hny hny2 hnx hnx2 hsz hs2 hsx hsy hz2 hy2 hg2 hgs)
  clear hX hY hZ h2 hG hS
  generalize vx/vy=qq at *
  generalize vx%vy=rr at *
  go_enter_defers Tryz.func129,Tryz.ntmps129
  go_wp2_with fail
  refine HC.out.mono ?_
  rintro e w' ⟨rfl,q,rfl⟩
  have HD1:=Lib.hid (HD.out q)
  clear HC HD
  go_wp2_with fail
  refine HD1.out.mono ?_
  rintro e w2 ⟨a,n,c,f,a',n',c',f',rfl,l1,l2,l3,l4,l5,l6,l7⟩
  have HE:=Lib.hid (show DivRet w s az a2 qq rr (.returned (.tuple #[.slice a n c,.slice a' n' c'])) w2 from ⟨_,_,_,_,_,_,_,_,rfl,l1,l2,l3,l4,l5,((Mod.refl (fun k o=>BlkOf az k o∨BlkOf a2 k o∨k=s) w).drewN q).trans l6,l7⟩)
  clear l1 l2 l3 l4 l5 l6 l7 HD1
  go_wp2_with fail
  refine ⟨_,results_tmp2 rfl _ _ _,?_⟩
  exact HE.out
end
section
open Go Go.RowKit
theorem copyP_run (w:World) (tt ty:TypeId) (ht:Tryz.prog.underlying tt=some (.slice 121)) (t2:TypeId) (b o N n c cc:Nat) (f:Nat→Nat) (hA:Arr w (some ⟨b,0,none⟩) cc f) (hN:n≤N) (hfit:o+N≤cc) (sb so sc:Nat) (X:Nat→Nat) (hX:Vec w sb so n X) :
    ∃ w',(Builtin.copy_ #[tt,t2] ty #[.slice (some ⟨b,o,none⟩) N c,.slice (some ⟨sb,so,none⟩) n sc]).run Tryz.prog w=.ok (.int .i64 (n:Nat)) w'∧Vec w' b o n X∧Mod (InR b o n) w w':=by
  rcases hA with ⟨h,_⟩ | ⟨b',C,t,e,hb,hs,hc⟩
  · cases h
  obtain rfl:b=b':=by simpa using e
  have hcs:∀ j,j<n→((List.range n).map fun j=>U (X j))[j]? = some (U (X j)):=fun j hj=>by simp [hj]
  have hr:=run_copy_row (P:=Tryz.prog) w tt t2 ty 121 b o N c ⟨sb,so,none⟩ n sc C t ((List.range n).map fun j=>U (X j)) ht size121 hb (by simp only [List.length_map,List.length_range];exact (show n=Nat.min n N from (Nat.min_eq_left hN).symm)) (fun j v hv=>by
    obtain ⟨hj,rfl⟩:j<n∧U (X j)=v:=by
      rw [List.getElem?_map,Option.map_eq_some_iff] at hv
      obtain ⟨k,hk,rfl⟩:=hv
      obtain ⟨hj,rfl⟩:=List.getElem?_eq_some_iff.1 hk
      simp at hj
      simp [hj]
    rw [Addr.add_lit]
    exact (hX j hj).1) (by simp;omega) (by
    intro v hv
    obtain ⟨j,_,rfl⟩:=List.mem_map.1 hv
    rfl)
  have hh:=setRow_heap w b C (C.toList.take o ++ ((List.range n).map fun j=>U (X j)) ++ C.toList.drop (o+((List.range n).map fun j=>U (X j)).length)).toArray t (0,0) hb
  generalize hR:(C.toList.take o ++ ((List.range n).map fun j=>U (X j)) ++ C.toList.drop (o+((List.range n).map fun j=>U (X j)).length))=R at *
  have hRs:R.length=cc:=by rw [← hR];simp;omega
  have hRg:∀ j,R[j]? = if o≤j∧j<o+n then some (U (X (j - o))) else C[j]? := fun j=>by
    rw [← hR,List.append_assoc,List.getElem?_append]
    simp only [List.length_take,Array.length_toList,hs.1,Nat.min_eq_left (show o≤cc by omega)]
    by_cases h1':j<o
    · rw [if_pos h1',if_neg (by omega)]
      simp [h1']
    · rw [if_neg h1',List.getElem?_append]
      simp only [List.length_map,List.length_range]
      by_cases h2':j<o+n
      · rw [if_pos (by omega),if_pos (by omega),hcs _ (by omega)]
      · rw [if_neg (by omega),if_neg (by omega)]
        simp only [List.getElem?_drop,Array.getElem?_toList]
        rw [show o+n+(j - o - n)=j by omega]
  refine ⟨_,?_,fun j hj=>⟨?_,free_of_heap hh _,(hX j hj).2.2⟩,rfl,rfl,rfl,by simp,fun k hk => ?_⟩
  · rw [hr]
    simp [goInt,Nat.min_eq_left hN]
  · rw [cell?_of_heap hh,List.getElem?_toArray,hRg,if_pos (by omega),Nat.add_sub_cancel_left]
  · by_cases hkb:k=b
    · subst hkb
      refine .inr ⟨C,_,t,(0,0),hb,hh,by simp [hRs,hs.1],fun j hj => ?_⟩
      rw [List.getElem?_toArray,hRg,if_neg (fun h=>hj ⟨rfl,h⟩)]
    · exact .inl (setRow_other w b k _ hkb)
end
section
open Go Go.RowKit
structure Num (w:World) (b n c:Nat) (v:Nat):Prop where
  arr:∃ f,Arr w (some ⟨b,0,none⟩) c f∧val f n=v
  le:n≤c
theorem Num.mod {w w':World} {b n c v:Nat} {M:Places} (h:Num w b n c v) (m:Mod M w w') (hb:∀ o,¬ M b o):Num w' b n c v:=by
  obtain ⟨⟨f,hA,hv⟩,hle⟩:=h
  exact ⟨⟨f,hA.mod m (fun A hA o hh=>by injection hA with hA;subst hA;exact hb o hh),hv⟩,hle⟩
theorem Num.lt {w:World} {b n c v:Nat} (h:Num w b n c v):b<w.heap.size:=by
  obtain ⟨⟨f,hA,hv⟩,hle⟩:=h
  exact hA.lt
theorem NatIs.toNum {w:World} {b n c v:Nat} {f:Nat→Nat} (h:NatIs w (some ⟨b,0,none⟩) n c f v):Num w b n c v:=⟨⟨f,h.arr,h.val⟩,h.le⟩
def MontEq (n vx vy vm v:Nat):Prop:=∃ T q,(v+q*vm)*B64^n=vx*vy+T*vm∧T<B64^n
def MontNum (w:World) (az:Option Addr) (n vx vy vm:Nat) (e:Ending) (w':World):Prop :=
  ∃ b c v,e=.returned (.slice (some ⟨b,0,none⟩) n c)∧Num w' b n c v∧MontEq n vx vy vm v∧Mod (BlkOf az) w w'∧(some ⟨b,0,none⟩=az∨w.heap.size≤b)
theorem mont_num (az:Option Addr) (nz cz bx cx by_ cy bm cm n k vx vy vm:Nat) (fz fm:Nat→Nat) (w:World) (hZ:Arr w az cz fz) (hnz:nz≤cz) (hX:Num w bx n cx vx) (hY:Num w by_ n cy vy) (hM:NatIs w (some ⟨bm,0,none⟩) n cm fm vm) (hn0:0<n) (hn:n≤1000)
    (hk:k<B64) (hkm:(fm 0*k+1)%B64=0) (hvm:0<vm) (zx:∀ A,az=some A→A.block≠bx∧A.block≠by_∧A.block≠bm) :
    Calls Tryz.prog 184 #[.slice az nz cz,.slice (some ⟨bx,0,none⟩) n cx,.slice (some ⟨by_,0,none⟩) n cy,.slice (some ⟨bm,0,none⟩) n cm,U k,.int .i64 (n:Int)] w (MontNum w az n vx vy vm):=by
  obtain ⟨⟨X,hXa,hXv⟩,hxl⟩:=hX
  obtain ⟨⟨Y,hYa,hYv⟩,hyl⟩:=hY
  have hv:=hM.val
  refine (mont_any az nz cz bx cx by_ cy bm cm n k fz X Y fm w hZ hnz (hXa.vec.take hxl) (hYa.vec.take hyl) (hM.arr.vec.take hM.le) hn0 hn hxl hyl hM.le hk hkm (by omega) zx).mono fun e w' h => ?_
  rw [hXv,hYv,hv] at h
  obtain ⟨b,c,f,rfl,hA,hle,hT,hm,hfr⟩:=h
  refine ⟨b,c,_,rfl,⟨⟨f,hA,rfl⟩,hle⟩,hT,hm,hfr.imp id ?_⟩
  rintro ⟨q,h,hq⟩
  injection h with h
  injection h with h
  omega
theorem MontEq.rep {n vx vy vm v a b:Nat} (h:MontEq n vx vy vm v) (hc:Nat.Coprime vm (B64^n)) (hx:Rep (B64^n) vm vx a) (hy:Rep (B64^n) vm vy b):Rep (B64^n) vm v (a*b):=by
  obtain ⟨T,q,h1,_⟩:=h
  exact Rep.mul hc h1 hx hy
theorem MontEq.into {n u vm v:Nat} (h:MontEq n u (B64^(2*n)%vm) vm v) (hc:Nat.Coprime vm (B64^n)):Rep (B64^n) vm v u:=by
  obtain ⟨T,q,h1,_⟩:=h
  refine cancel_mod hc ?_
  have h2:((v+q*vm)*B64^n)%vm=(u*(B64^(2*n)%vm))%vm:=by rw [h1,Nat.add_mul_mod_self_right]
  rw [Nat.add_mul,show q*vm*B64^n=q*B64^n*vm by ac_rfl,Nat.add_mul_mod_self_right] at h2
  rw [h2,Nat.mul_mod,Nat.mod_mod,← Nat.mul_mod,Nat.mul_comm 2 n,Nat.pow_mul,Nat.pow_two,Nat.mul_assoc]
structure PwSt (vm x n bp k:Nat) (w:World):Prop where
  lt:bp<w.heap.size
  cells:∀ i,i<k→∃ b c v,w.cell? ⟨bp,i,none⟩=some (.slice (some ⟨b,0,none⟩) n c)∧Num w b n c v∧Rep (B64^n) vm v (x^i)∧bp<b
  nils:∀ i,k≤i→i<16→w.cell? ⟨bp,i,none⟩=some (.slice none 0 0)
  free:∀ i,i<16→w.frozen? ⟨bp,i,none⟩=false
theorem PwSt.mod {vm x n bp k:Nat} {w w':World} {M:Places} (h:PwSt vm x n bp k w) (m:Mod M w w') (hM:∀ j o,M j o→j<bp∨w.heap.size≤j) (hk:k≤16):PwSt vm x n bp k w':=by
  have hbp:∀ o,¬ M bp o:=fun o hh=>by have:=hM _ _ hh;have:=h.lt;omega
  refine ⟨Nat.lt_of_lt_of_le h.lt m.size,fun i hi => ?_,fun i hi hi'=>m.cell_some (h.nils i hi hi') (hbp i),fun i hi => ?_⟩
  · obtain ⟨b,c,v,h1,h2,h3,h4⟩:=h.cells i hi
    exact ⟨b,c,v,m.cell_some h1 (hbp i),h2.mod m (fun o hh=>by have:=hM _ _ hh;have:=h2.lt;omega),h3,h4⟩
  · rw [m.frozen h.lt];exact h.free i hi
theorem PwSt.step {vm x n bp k b c v:Nat} {w:World} (h:PwSt vm x n bp k w) (hN:Num w b n c v) (hr:Rep (B64^n) vm v (x^k)) (hb:bp<b) (hk:k<16) :
    PwSt vm x n bp (k+1) (w.setCell ⟨bp,k,none⟩ (.slice (some ⟨b,0,none⟩) n c)):=by
  have m:=setCell_mod w bp k (.slice (some ⟨b,0,none⟩) n c)
  refine ⟨Nat.lt_of_lt_of_le h.lt m.size,fun i hi => ?_,fun i hi hi'=>(cell_other (.inr (by omega)) _).trans (h.nils i (by omega) hi'),fun i hi => ?_⟩
  · by_cases hik:i=k
    · subst hik
      exact ⟨b,c,v,cell_same (h.nils i (Nat.le_refl _) hk) _,hN.mod m (fun o hh=>by have:=hh.1;omega),hr,hb⟩
    · obtain ⟨b',c',v',h1,h2,h3,h4⟩:=h.cells i (by omega)
      exact ⟨b',c',v',(cell_other (.inr (by omega)) _).trans h1,h2.mod m (fun o hh=>by have:=hh.1;omega),h3,h4⟩
  · rw [World.frozen?_setCell];exact h.free i hi
theorem PwSt.start (vm x n:Nat) (w:World):PwSt vm x n w.heap.size 0 (w.alloc (.cells #[.slice none 0 0,.slice none 0 0,.slice none 0 0,.slice none 0 0,.slice none 0 0,.slice none 0 0,.slice none 0 0,.slice none 0 0,.slice none 0 0,.slice none 0 0,.slice none 0 0,.slice none 0 0,.slice none 0 0,.slice none 0 0,.slice none 0 0,.slice none 0 0] 236 (0,0))):=by
  have hn:=heap_alloc_new w (.cells #[.slice none 0 0,.slice none 0 0,.slice none 0 0,.slice none 0 0,.slice none 0 0,.slice none 0 0,.slice none 0 0,.slice none 0 0,.slice none 0 0,.slice none 0 0,.slice none 0 0,.slice none 0 0,.slice none 0 0,.slice none 0 0,.slice none 0 0,.slice none 0 0] 236 (0,0))
  refine ⟨lt_of_heap hn,fun i hi=>absurd hi (Nat.not_lt_zero i),fun i _ hi => ?_,fun i hi=>free_of_heap hn i⟩
  rw [cell?_of_heap hn]
  match i,hi with
  | 0,_=>rfl
  | 1,_=>rfl
  | 2,_=>rfl
  | 3,_=>rfl
  | 4,_=>rfl
  | 5,_=>rfl
  | 6,_=>rfl
  | 7,_=>rfl
  | 8,_=>rfl
  | 9,_=>rfl
  | 10,_=>rfl
  | 11,_=>rfl
  | 12,_=>rfl
  | 13,_=>rfl
  | 14,_=>rfl
  | 15,_=>rfl
  | n+16,h=>exact absurd h (by omega)
end
section
open Go Go.RowKit
structure PgBase (wr:World) (vm x n bp bo co bm cm bz bq k:Nat) (fm:Nat→Nat):Prop where
  pw:PwSt vm x n bp 16 wr
  one:Num wr bo n co 1
  m:NatIs wr (some ⟨bm,0,none⟩) n cm fm vm
  dz:bz<bp∨wr.heap.size≤bz
  dq:bq<bp∨wr.heap.size≤bq
  oz:bo≠bz
  oq:bo≠bq
  mz:bm≠bz
  mq:bm≠bq
  hk:k<B64
  hkm:(fm 0*k+1)%B64=0
  hvm:0<vm
  hc:Nat.Coprime vm (B64^n)
  n0:0<n
  n1:n≤1000
structure PgSt (wr:World) (vm x n bz bq z cz q cq v e:Nat) (wx:World):Prop where
  mod:Mod (fun k _=>k=bz∨k=bq) wr wx
  zn:Num wx z n cz v
  rep:Rep (B64^n) vm v (x^e)
  qa:∃ g,Arr wx (some ⟨q,0,none⟩) cq g
  qn:n≤cq
  zq:z≠q
  zok:z=bz∨z=bq∨wr.heap.size≤z
  qok:q=bz∨q=bq∨wr.heap.size≤q
theorem PgBase.keep {wr wx:World} {vm x n bp bo co bm cm bz bq k:Nat} {fm:Nat→Nat} (B:PgBase wr vm x n bp bo co bm cm bz bq k fm) (m:Mod (fun k _=>k=bz∨k=bq) wr wx) :
    PwSt vm x n bp 16 wx∧Num wx bo n co 1∧NatIs wx (some ⟨bm,0,none⟩) n cm fm vm :=
  ⟨B.pw.mod m (fun j o h=>by have:=B.dz;have:=B.dq;omega) (Nat.le_refl _),B.one.mod m (fun o h=>by have:=B.oz;have:=B.oq;omega),B.m.mod m (fun A hA o h=>by injection hA with hA;subst hA;have:=B.mz;have:=B.mq;have h9:bm=bz∨bm=bq:=h;omega)⟩
theorem PgSt.step {wr wx w':World} {vm x n bz bq z cz q cq v e ux uy e':Nat} {en:Ending} (h:PgSt wr vm x n bz bq z cz q cq v e wx) (hr:MontNum wx (some ⟨q,0,none⟩) n ux uy vm en w') (he:∀ v',MontEq n ux uy vm v'→Rep (B64^n) vm v' (x^e')) :
    ∃ b c v',en=.returned (.slice (some ⟨b,0,none⟩) n c)∧PgSt wr vm x n bz bq b c z cz v' e' w':=by
  obtain ⟨b,c,v',rfl,hN,hE,hm,hb⟩:=hr
  have hs:=h.mod.size
  have hzl:=h.zn.lt
  have hm':Mod (fun k _=>k=q) wx w':=hm.mono fun k o _ hh=>by
    obtain ⟨A,hA,hk⟩:=hh
    injection hA with hA
    subst hA
    exact hk.symm
  have hbq:b=q∨wx.heap.size≤b:=hb.imp (fun h=>by injection h with h;injection h) id
  obtain ⟨f,hf,_⟩:=h.zn.mod hm' (fun o hh=>h.zq hh) |>.arr
  refine ⟨b,c,v',rfl,h.mod.trans' hm' (fun k o hk hh => ?_),hN,he v' hE,⟨f,hf⟩,h.zn.le,?_,?_,h.zok⟩
  · have:=h.qok
    omega
  · have:=h.zq
    omega
  · have:=h.qok
    omega
theorem PgBase.sq {wr wx:World} {vm x n bp bo co bm cm bz bq k z cz q cq v e:Nat} {fm:Nat→Nat} (B:PgBase wr vm x n bp bo co bm cm bz bq k fm) (h:PgSt wr vm x n bz bq z cz q cq v e wx) :
    Calls Tryz.prog 184 #[.slice (some ⟨q,0,none⟩) n cq,.slice (some ⟨z,0,none⟩) n cz,.slice (some ⟨z,0,none⟩) n cz,.slice (some ⟨bm,0,none⟩) n cm,U k,.int .i64 (n:Int)] wx
      fun en w'=>∃ b c v',en=.returned (.slice (some ⟨b,0,none⟩) n c)∧PgSt wr vm x n bz bq b c z cz v' (2*e) w':=by
  obtain ⟨g,hg⟩:=h.qa
  obtain ⟨_,_,hM⟩:=B.keep h.mod
  refine (mont_num (some ⟨q,0,none⟩) n cq z cz z cz bm cm n k v v vm g fm wx hg h.qn h.zn h.zn hM B.n0 B.n1 B.hk B.hkm B.hvm ?_).mono fun en w' hr=>h.step hr fun v' hE => ?_
  · intro A hA
    injection hA with hA
    subst hA
    have h1:=h.zq
    have h2:=h.qok
    have h3:=B.mz
    have h4:=B.mq
    have h5:=B.m.arr.lt
    exact ⟨h1.symm,h1.symm,fun hh=>by have h9:q=bm:=hh;omega⟩
  · have:=hE.rep B.hc h.rep h.rep
    rwa [← Nat.pow_add,← Nat.two_mul] at this
theorem PgBase.mulp {wr wx:World} {vm x n bp bo co bm cm bz bq k z cz q cq v e:Nat} {fm:Nat→Nat} (B:PgBase wr vm x n bp bo co bm cm bz bq k fm) (h:PgSt wr vm x n bz bq z cz q cq v e wx) {i:Nat} (hi:i<16) :
    ∃ b c,wx.cell? ⟨bp,i,none⟩=some (.slice (some ⟨b,0,none⟩) n c)∧∀ w1,Mod NoP wx w1→Calls Tryz.prog 184 #[.slice (some ⟨q,0,none⟩) n cq,.slice (some ⟨z,0,none⟩) n cz,.slice (some ⟨b,0,none⟩) n c,.slice (some ⟨bm,0,none⟩) n cm,U k,.int .i64 (n:Int)] w1
      fun en w'=>∃ b c v',en=.returned (.slice (some ⟨b,0,none⟩) n c)∧PgSt wr vm x n bz bq b c z cz v' (e+i) w':=by
  obtain ⟨b,c,vi,hcell,hN,hR,hbp⟩:=(B.keep h.mod).1.cells i hi
  obtain ⟨b0,c0,vi0,hcell0,hN0,_,_⟩:=B.pw.cells i hi
  have hb0:b=b0:=by
    have:=h.mod.cell_some hcell0 (fun hh=>by have:=B.dz;have:=B.dq;have:=B.pw.lt;omega)
    rw [hcell] at this
    injection this with this
    injection this with this
    injection this with this
    injection this
  refine ⟨b,c,hcell,fun w1 m1 => ?_⟩
  have h1:PgSt wr vm x n bz bq z cz q cq v e w1:=⟨h.mod.trans' m1 (fun _ _ _ hh=>hh.elim),h.zn.mod m1 (fun _ hh=>hh),h.rep,(by obtain ⟨g,hg⟩:=h.qa;exact ⟨g,hg.mod m1 (Off.noP _)⟩),h.qn,h.zq,h.zok,h.qok⟩
  obtain ⟨g,hg⟩:=h1.qa
  obtain ⟨_,_,hM⟩:=B.keep h1.mod
  refine (mont_num (some ⟨q,0,none⟩) n cq z cz b c bm cm n k v vi vm g fm w1 hg h.qn h1.zn (hN.mod m1 fun _ hh=>hh) hM B.n0 B.n1 B.hk B.hkm B.hvm ?_).mono fun en w' hr=>h1.step hr fun v' hE => ?_
  · intro A hA
    injection hA with hA
    subst hA
    have h1:=h.zq
    have h2:=h.qok
    have h3:=B.mz
    have h4:=B.mq
    have h5:=B.m.arr.lt
    have h6:=B.dz
    have h7:=B.dq
    have h8:=hN0.lt
    exact ⟨h1.symm,fun hh=>by have h9:q=b:=hh;omega,fun hh=>by have h9:q=bm:=hh;omega⟩
  · have:=hE.rep B.hc h.rep hR
    rwa [← Nat.pow_add] at this
theorem PgBase.last {wr wx:World} {vm x n bp bo co bm cm bz bq k z cz q cq v e:Nat} {fm:Nat→Nat} (B:PgBase wr vm x n bp bo co bm cm bz bq k fm) (h:PgSt wr vm x n bz bq z cz q cq v e wx) :
    Calls Tryz.prog 184 #[.slice (some ⟨q,0,none⟩) n cq,.slice (some ⟨z,0,none⟩) n cz,.slice (some ⟨bo,0,none⟩) n co,.slice (some ⟨bm,0,none⟩) n cm,U k,.int .i64 (n:Int)] wx
      fun en w'=>∃ b c v',en=.returned (.slice (some ⟨b,0,none⟩) n c)∧Num w' b n c v'∧v'%vm=x^e%vm∧v'≤vm∧Mod (fun k _=>k=bz∨k=bq) wr w'∧(b=bz∨b=bq∨wr.heap.size≤b):=by
  obtain ⟨g,hg⟩:=h.qa
  obtain ⟨_,hO,hM⟩:=B.keep h.mod
  have hvl:v<B64^n:=by
    obtain ⟨f,hf,hv⟩:=h.zn.arr
    rw [← hv]
    exact val_lt fun j hj=>hf.words j (by have:=h.zn.le;omega)
  refine (mont_num (some ⟨q,0,none⟩) n cq z cz bo co bm cm n k v 1 vm g fm wx hg h.qn h.zn hO hM B.n0 B.n1 B.hk B.hkm B.hvm ?_).mono fun en w' hr => ?_
  · intro A hA
    injection hA with hA
    subst hA
    have h1:=h.zq
    have h2:=h.qok
    have h3:=B.mz
    have h4:=B.mq
    have h5:=B.m.arr.lt
    have h6:=B.oz
    have h7:=B.oq
    have h8:=B.one.lt
    exact ⟨h1.symm,fun hh=>by have h9:q=bo:=hh;omega,fun hh=>by have h9:q=bm:=hh;omega⟩
  · obtain ⟨b,c,v',rfl,hN,⟨T,qq,hE,hT⟩,hm,hb⟩:=hr
    have hs:=h.mod.size
    obtain ⟨h1,h2⟩:=Rep.out B.hc (pow_pos n) hE h.rep hvl hT
    have h3:v'≤vm:=Nat.le_trans (Nat.le_add_right _ _) h2
    have hqk:=h.qok
    refine ⟨b,c,v',rfl,hN,h1,h3,h.mod.trans' hm (fun k o hk hh => ?_),?_⟩
    · obtain ⟨A,hA,hk'⟩:=hh
      injection hA with hA
      subst hA
      have h9:q=k:=hk'
      omega
    · rcases hb with hb | hb
      · injection hb with hb
        injection hb with hb
        omega
      · omega
end
section
open Go Go.RowKit
set_option maxRecDepth 100000 in
set_option maxHeartbeats 1000000 in
theorem cmp_num (ba bb n c d v u:Nat) (w:World) (hX:Num w ba n c v) (hY:Num w bb n d u) (h0:¬ n=0) (hn:n≤1000000) :
    Calls Tryz.prog 110 #[.slice (some ⟨ba,0,none⟩) n c,.slice (some ⟨bb,0,none⟩) n d] w fun e w'=>e=.returned (.int .i64 (cmpV v u))∧∃ q,w'=w.drewN q:=by
  obtain ⟨⟨f,hA,hv⟩,hl⟩:=hX
  obtain ⟨⟨g,hB,hu⟩,hl2⟩:=hY
  have hXv:=hA.vec.take hl
  have hYv:=hB.vec.take hl2
  have hb0:((n:Int) == 0)=false:=by simp;omega
  have hfin:∀ k,k<n→(∀ j,k+1≤j→j<n→f j=g j)→(k=0∨f k≠g k)→(f k<g k→v<u)∧(g k<f k→u<v)∧(f k=g k→v=u):=fun k hk hj hor=>by
    rw [← hv,← hu]
    refine ⟨fun h=>val_lt_of_word (fun j h=>(hXv j h).2.2) hk hj h,fun h=>val_lt_of_word (fun j h=>(hYv j h).2.2) hk (fun j h1 h2=>(hj j h1 h2).symm) h,fun h=>val_congr fun j hjn => ?_⟩
    rcases hor with rfl | hne
    · by_cases e:j=0
      · rw [e,h]
      · exact hj j (by omega) hjn
    · exact absurd h hne
  have HF:=Lib.hid hfin
  have HX:=Lib.hid hXv
  have HY:=Lib.hid hYv
  clear hA hB hv hu hfin hXv hYv
  go_enter Tryz.func110,Tryz.ntmps110
  go_wp2_with fail
  go_loopw [7] (fun i wr=>∃ k:Nat,k<n∧i=.int .i64 (k:Int)∧(∀ j,k+1≤j→j<n→f j=g j)∧Drew w wr) (fun i _=>(intOf i).toNat)
  case atStart=>exact ⟨n - 1,by omega,by congr 1;omega,fun j h1 h2=>by omega,.refl _⟩
  case round =>
  obtain ⟨k,hk,rfl,hj,hw⟩:=hrel
  have hcx:=hw.cell (HX.out k hk).1
  have hcy:=hw.cell (HY.out k hk).1
  rw [Nat.zero_add] at hcx hcy
  have k0:(0:Int)≤(k:Int):=by omega
  have k1:(k:Int)<(n:Int):=by omega
  have k2:(k:Int).toNat=k:=by omega
  have Hj:=Lib.hid hj
  have Hw:=Lib.hid hw
  clear hj hw
  by_cases hp:0<k∧f k=g k
  · obtain ⟨hp,he⟩:=hp
    have HE:=Lib.hid he
    rw [he] at hcx
    clear he
    generalize hy:g k=y at *
    have Hy:=Lib.hid hy
    clear hy
    have dp:decide ((k:Int) > 0)=true:=decide_eq_true (by omega)
    go_wp2_with fail
    go_quiet (fail)
    go_wp2_with fail
    go_roundw
    case rel=>exact ⟨k - 1,by omega,by congr 1;omega,fun j h1 h2=>by
      by_cases e:j=k
      · rw [e];exact HE.out.trans Hy.out.symm
      · exact Hj.out j (by omega) h2,Hw.out.more _⟩
    case measure=>simp [intOf];omega
  · have HFk:=Lib.hid (HF.out k hk Hj.out (by omega))
    clear HF
    by_cases hk0:k=0
    · have dp:decide (0<(k:Int))=false:=decide_eq_false (by omega)
      have dp':decide (0<k)=false:=decide_eq_false (by omega)
      clear hp
      generalize hx:f k=x at *
      generalize hy:g k=y at *
      have Hx:=Lib.hid hx
      have Hy:=Lib.hid hy
      clear hx hy hk0
      rcases Nat.lt_trichotomy x y with hxy | hxy | hxy
      · have c1:decide ((x:Int)<(y:Int))=true:=decide_eq_true (by omega)
        have HV:=Lib.hid (cmpV_lt (HFk.out.1 hxy)).symm
        clear HFk
        go_wp2_with fail
        go_quiet (fail)
        have Hw1:=Lib.hid (Hw.out.more nq)
        generalize wr.drewN nq=w2 at *
        clear Hw
        have e1:=Hw1.out.cell (HX.out k hk).1
        have e2:=Hw1.out.cell (HY.out k hk).1
        rw [Nat.zero_add,Hx.out] at e1
        rw [Nat.zero_add,Hy.out] at e2
        go_wp2_with fail
        go_quiet (fail)
        have Hw2:=Lib.hid (Hw1.out.more nq)
        generalize w2.drewN nq=w3 at *
        clear Hw1 e1 e2
        go_wp2_with fail
        go_ret
        obtain ⟨q,hq⟩:=Hw2.out
        exact ⟨ret_i64 HV.out,q,hq⟩
      · subst hxy
        have c1:decide ((x:Int)<(x:Int))=false:=decide_eq_false (by omega)
        have c2:decide ((x:Int) > (x:Int))=false:=decide_eq_false (by omega)
        have HV:=Lib.hid (show (0:Int)=cmpV v u by rw [HFk.out.2.2 rfl,cmpV_eq])
        clear HFk
        go_wp2_with fail
        go_quiet (fail)
        have Hw1:=Lib.hid (Hw.out.more nq)
        generalize wr.drewN nq=w2 at *
        clear Hw
        have e1:=Hw1.out.cell (HX.out k hk).1
        have e2:=Hw1.out.cell (HY.out k hk).1
        rw [Nat.zero_add,Hx.out] at e1
        rw [Nat.zero_add,Hy.out] at e2
        go_wp2_with fail
        go_quiet (fail)
        have Hw2:=Lib.hid (Hw1.out.more nq)
        generalize w2.drewN nq=w3 at *
        clear Hw1 e1 e2
        have e1:=Hw2.out.cell (HX.out k hk).1
        have e2:=Hw2.out.cell (HY.out k hk).1
        rw [Nat.zero_add,Hx.out] at e1
        rw [Nat.zero_add,Hy.out] at e2
        go_wp2_with fail
        go_quiet (fail)
        have Hw3:=Lib.hid (Hw2.out.more nq)
        generalize w3.drewN nq=w4 at *
        go_wp2_with fail
        go_ret
        obtain ⟨q,hq⟩:=Hw3.out
        exact ⟨ret_i64 HV.out,q,hq⟩
      · have c1:decide ((x:Int)<(y:Int))=false:=decide_eq_false (by omega)
        have c2:decide ((x:Int) > (y:Int))=true:=decide_eq_true (by omega)
        have HV:=Lib.hid (cmpV_gt (HFk.out.2.1 hxy)).symm
        clear HFk
        go_wp2_with fail
        go_quiet (fail)
        have Hw1:=Lib.hid (Hw.out.more nq)
        generalize wr.drewN nq=w2 at *
        clear Hw
        have e1:=Hw1.out.cell (HX.out k hk).1
        have e2:=Hw1.out.cell (HY.out k hk).1
        rw [Nat.zero_add,Hx.out] at e1
        rw [Nat.zero_add,Hy.out] at e2
        go_wp2_with fail
        go_quiet (fail)
        have Hw2:=Lib.hid (Hw1.out.more nq)
        generalize w2.drewN nq=w3 at *
        clear Hw1 e1 e2
        have e1:=Hw2.out.cell (HX.out k hk).1
        have e2:=Hw2.out.cell (HY.out k hk).1
        rw [Nat.zero_add,Hx.out] at e1
        rw [Nat.zero_add,Hy.out] at e2
        go_wp2_with fail
        go_quiet (fail)
        have Hw3:=Lib.hid (Hw2.out.more nq)
        generalize w3.drewN nq=w4 at *
        go_wp2_with fail
        go_ret
        obtain ⟨q,hq⟩:=Hw3.out
        exact ⟨ret_i64 HV.out,q,hq⟩
    · have dp:decide (0<(k:Int))=true:=decide_eq_true (by omega)
      have dp':decide (0<k)=true:=decide_eq_true (by omega)
      have hne:f k≠g k:=fun h=>hp ⟨by omega,h⟩
      clear hp
      generalize hx:f k=x at *
      generalize hy:g k=y at *
      have Hx:=Lib.hid hx
      have Hy:=Lib.hid hy
      clear hx hy hk0
      have hbe:((x:Int) == (y:Int))=false:=by simp;omega
      rcases Nat.lt_or_gt_of_ne hne with hxy | hxy
      · have c1:decide ((x:Int)<(y:Int))=true:=decide_eq_true (by omega)
        have HV:=Lib.hid (cmpV_lt (HFk.out.1 hxy)).symm
        clear HFk
        go_wp2_with fail
        go_quiet (fail)
        have Hw1:=Lib.hid (Hw.out.more nq)
        generalize wr.drewN nq=w2 at *
        clear Hw
        have e1:=Hw1.out.cell (HX.out k hk).1
        have e2:=Hw1.out.cell (HY.out k hk).1
        rw [Nat.zero_add,Hx.out] at e1
        rw [Nat.zero_add,Hy.out] at e2
        go_wp2_with fail
        go_quiet (fail)
        have Hw2:=Lib.hid (Hw1.out.more nq)
        generalize w2.drewN nq=w3 at *
        clear Hw1 e1 e2
        go_wp2_with fail
        go_ret
        obtain ⟨q,hq⟩:=Hw2.out
        exact ⟨ret_i64 HV.out,q,hq⟩
      · have c1:decide ((x:Int)<(y:Int))=false:=decide_eq_false (by omega)
        have c2:decide ((x:Int) > (y:Int))=true:=decide_eq_true (by omega)
        have HV:=Lib.hid (cmpV_gt (HFk.out.2.1 hxy)).symm
        clear HFk
        go_wp2_with fail
        go_quiet (fail)
        have Hw1:=Lib.hid (Hw.out.more nq)
        generalize wr.drewN nq=w2 at *
        clear Hw
        have e1:=Hw1.out.cell (HX.out k hk).1
        have e2:=Hw1.out.cell (HY.out k hk).1
        rw [Nat.zero_add,Hx.out] at e1
        rw [Nat.zero_add,Hy.out] at e2
        go_wp2_with fail
        go_quiet (fail)
        have Hw2:=Lib.hid (Hw1.out.more nq)
        generalize w2.drewN nq=w3 at *
        clear Hw1 e1 e2
        have e1:=Hw2.out.cell (HX.out k hk).1
        have e2:=Hw2.out.cell (HY.out k hk).1
        rw [Nat.zero_add,Hx.out] at e1
        rw [Nat.zero_add,Hy.out] at e2
        go_wp2_with fail
        go_quiet (fail)
        have Hw3:=Lib.hid (Hw2.out.more nq)
        generalize w3.drewN nq=w4 at *
        go_wp2_with fail
        go_ret
        obtain ⟨q,hq⟩:=Hw3.out
        exact ⟨ret_i64 HV.out,q,hq⟩
end
end Go.Proofs.YtpfmbfkhjapbbaaGreatDoor
