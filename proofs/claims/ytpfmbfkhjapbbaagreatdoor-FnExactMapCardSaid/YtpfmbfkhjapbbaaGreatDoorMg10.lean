/-
  nat.add. Conditions: normal numbers of at most 10^6 words; z an array of its own, or that of an argument.
  The plain laws of a row's multiple added to a row, of Montgomery's product and of the powers made by it. No condition; no program in sight.
  addMulVVWW (a row and a multiple of another one), clear of a row of words, alias. Conditions: the rows are there; the row that is written is the row that is added to, or lies apart.
  The plain law of the long division's rounds: the guess, the subtraction and its mending, the digits so far. Conditions: the divisor's highest bit is set. No program's function in sight.
  big's Int: Sign, SetUint64, Sub, Cmp. Conditions: normal numbers of at most 10^6 words; Sub: the signs are +, the second is no more than the first.
  A scalar out of bytes: wScl's IsZero, unmarshal, UnmarshalBinary; impl.scalarOf, impl.ReadScalar. Conditions: io.EOF holds an errors.errorString's pointer; rows of at most 2^20 bytes.
-/
import Derived.Test.YtpfmbfkhjapbbaaGreatDoorMg02
import Derived.Test.YtpfmbfkhjapbbaaGreatDoorMg04
import Derived.Test.YtpfmbfkhjapbbaaGreatDoorMg05
import Derived.Test.YtpfmbfkhjapbbaaGreatDoorMg09
set_option linter.unusedVariables false
set_option linter.unusedSimpArgs false
namespace Go.Proofs.YtpfmbfkhjapbbaaGreatDoor
section
open Go Go.RowKit
theorem slice_mid (tt:TypeId) (b o n c k h:Nat) (hk:k≤h) (hc:k<c) (hh:h≤c) (ht:tt=48∨tt=49) (K H:Int) (hK:K=k) (hH:H=h) (w:World) :
    (Instr.slice tt (.slice (some ⟨b,o,none⟩) n c) (some (.int .i64 K)) (some (.int .i64 H)) none).run Tryz.prog w=.ok (.slice (some ⟨b,o+k,none⟩) (h - k) (c - k)) w:=by
  subst hK hH
  have h1:(0:Int)≤(k:Int):=by omega
  have h2:(k:Int)≤(h:Int):=by omega
  have h3:(h:Int)≤(c:Int):=by omega
  have e:¬ c=k:=by omega
  rcases ht with rfl | rfl <;> simp [go_sem,h1,h2,h3,e,hk,hh]
theorem add_parts (f' fx fy:Nat→Nat) (nx ny vx vy:Nat) (hle:ny≤nx) (hvx:val fx nx=vx) (hvy:val fy ny=vy) :
    val (put (lay (lay f' 0 ny (addW fx fy)) ny (nx - ny) (awW (fun j=>fx (ny+j)) (addC fx fy ny))) nx (awC (fun j=>fx (ny+j)) (addC fx fy ny) (nx - ny))) (nx+1)=vx+vy:=by
  have h1:=add_val fx fy ny
  have h2:=aw_val (fun j=>fx (ny+j)) (addC fx fy ny) (nx - ny)
  have hlo:val (lay f' 0 ny (addW fx fy)) ny=val (addW fx fy) ny:=by
    have:=val_lay f' 0 ny (addW fx fy)
    rw [Nat.zero_add,Nat.pow_zero,Nat.one_mul] at this
    rw [this];simp [val]
  have ht:=val_lay (lay f' 0 ny (addW fx fy)) ny (nx - ny) (awW (fun j=>fx (ny+j)) (addC fx fy ny))
  rw [show ny+(nx - ny)=nx by omega,hlo] at ht
  have hx:vx=val fx ny+B64^ny*val (fun j=>fx (ny+j)) (nx - ny):=by
    rw [← hvx,← val_add,show ny+(nx - ny)=nx by omega]
  have hpow:B64^nx=B64^ny*B64^(nx - ny):=by rw [← Nat.pow_add,show ny+(nx - ny)=nx by omega]
  show val _ nx+put _ nx _ nx*B64^nx=_
  rw [val_put_ge _ (Nat.le_refl _),put_same,ht,hpow,hx]
  have h3:=congrArg (B64^ny*·) h2
  simp only [Nat.mul_add] at h3
  have e1:awC (fun j=>fx (ny+j)) (addC fx fy ny) (nx - ny)*(B64^ny*B64^(nx - ny))=B64^ny*(awC (fun j=>fx (ny+j)) (addC fx fy ny) (nx - ny)*B64^(nx - ny)):=by ac_rfl
  have e2:B64^ny*addC fx fy ny=addC fx fy ny*B64^ny:=Nat.mul_comm _ _
  rw [hvy] at h1
  omega
theorem awC_zero (X:Nat→Nat) (y:Nat):awC X y 0=y:=rfl
set_option maxRecDepth 100000 in
set_option maxHeartbeats 2000000 in
theorem natAdd_ge (az ax ay:Option Addr) (nz cz nx cx ny cy vx vy:Nat) (w:World) (fz fx fy:Nat→Nat) (hZ:Arr w az cz fz) (hnz:nz≤cz) (hX:NatIs w ax nx cx fx vx) (hY:NatIs w ay ny cy fy vy) (hsx:nx≤1000000) (hnn:ny≤nx) :
    Calls Tryz.prog 109 #[.slice az nz cz,.slice ax nx cx,.slice ay ny cy] w (NatRet w az (vx+vy)):=by
  have d0:decide ((nx:Int)<(ny:Int))=false:=decide_eq_false (by omega)
  by_cases hx0:nx=0
  · subst hx0
    obtain rfl:ny=0:=by omega
    have e1:vx=0:=hX.zero_iff.1 rfl
    have e2:vy=0:=hY.zero_iff.1 rfl
    subst e1 e2
    have hs:=slice_zero az nz cz hZ hnz
    have HN:=Lib.hid (NatIs.zero hZ)
    clear hZ hX hY
    go_enter Tryz.func109,Tryz.ntmps109
    go_wp2_with fail
    go_ret
    exact .mk HN.out (.refl _ _) (.inl rfl)
  have hb0:((nx:Int) == 0)=false:=by simp;omega
  by_cases hy0:ny=0
  · subst hy0
    have e2:vy=0:=hY.zero_iff.1 rfl
    subst e2
    have hset:=natSet_any az ax nz cz nx cx vx w fz fx hZ hnz hX hsx
    have HS:=Lib.hid hset
    clear hset hZ hX hY
    go_enter Tryz.func109,Tryz.ntmps109
    go_wp2_with fail
    refine HS.out.mono ?_
    rintro e w1 ⟨a,n,c,f,rfl,h1,h2,h3⟩
    have H1:=Lib.hid h1
    clear h1
    go_wp2_with fail
    go_ret
    exact .mk H1.out h2 h3
  have hb1:((ny:Int) == 0)=false:=by simp;omega
  obtain ⟨bx,rfl⟩:=hX.arr.form (by have:=hX.le;omega)
  obtain ⟨by_,rfl⟩:=hY.arr.form (by have:=hY.le;omega)
  have HM:=Lib.hid (make_any az nz cz (nx+1) w fz hZ hnz (by omega))
  have HX:=Lib.hid hX
  have HY:=Lib.hid hY
  have hxc:=hX.le
  have hyc:=hY.le
  clear hX hY hZ
  go_enter Tryz.func109,Tryz.ntmps109
  go_wp2_with fail
  refine HM.out.mono ?_
  rintro e w1 ⟨a',c',f',rfl,hA',hm,hmod,hfr⟩
  obtain ⟨b,rfl⟩:=hA'.form (by omega)
  have HX1:=Lib.hid (HX.out.mod hmod (Off.noP _))
  have HY1:=Lib.hid (HY.out.mod hmod (Off.noP _))
  have HA:=Lib.hid hA'
  clear hA'
  have hsv:=fun w2 (m:Mod NoP w1 w2)=>addVV_any b 0 c' bx 0 cx by_ 0 cy ny fx fy f' w2 ((HX1.out.arr.vec.take (by omega)).mod m fun _ _ h=>h) ((HY1.out.arr.vec.take (by omega)).mod m fun _ _ h=>h) ((HA.out.vec.take (by omega)).mod m fun _ _ h=>h) (by omega) (fun _=>.inl (Nat.le_refl _)) (fun _=>.inl (Nat.le_refl _))
  have HSV:=Lib.hid hsv
  clear hsv
  have hs1:=slice_to b 0 (nx+1) c' ny (by omega)
  have hs2:=slice_to bx 0 nx cx ny (by omega)
  have hs3:=slice_to by_ 0 ny cy ny (by omega)
  go_wp2_with fail
  go_still_tail 9,(by kernel_rfl)
  simp only [World.drew_eq]
  go_wp2_with fail
  refine (HSV.out _ (Mod.refl NoP w1).drew).mono ?_
  rintro e w2 ⟨rfl,hV2,m2⟩
  have hA2:=(Arr.drewN HA.out 1).wroteAt (w:=w1.drew) hV2 m2
  have m12:Mod (InR b 0 ny) w1 w2:=(Mod.refl _ w1).drew.trans m2
  have HXV:=Lib.hid (HX1.out.arr.vec.take (show nx≤cx by omega))
  have HXw:=Lib.hid (show ∀ j,j<nx→fx j<B64 from fun j hj=>HX1.out.arr.words j (by omega))
  have HYw:=Lib.hid (show ∀ j,j<ny→fy j<B64 from fun j hj=>HY1.out.arr.words j (by omega))
  have HB:=Lib.hid (row_mod HX1.out.arr.row m12)
  have HA2:=Lib.hid hA2
  have HM12:=Lib.hid m12
  have hc1:=addC_le (fun j hj=>HXw.out j (by omega)) HYw.out ny (Nat.le_refl _)
  have HT:=Lib.hid (add_parts f' fx fy nx ny vx vy hnn HX1.out.val HY1.out.val)
  clear hV2 m2 hA2 m12 HSV HX HY HM hs1 hs2 hs3
  by_cases hgt:ny<nx
  · have hd:decide ((nx:Int) > (ny:Int))=true:=decide_eq_true (by omega)
    have hs1:=slice_mid 49 b 0 (nx+1) c' ny nx (by omega) (by omega) (by omega) (.inr rfl) (ny:Int) (nx:Int) rfl rfl
    obtain ⟨o2,hs2,hk2,hl2⟩:=slice_from 49 bx 0 nx cx ny (by omega) (by omega) (.inr rfl) (ny:Int) rfl
    obtain rfl:o2=ny:=by rw [hk2 (by omega)];omega
    rw [Nat.zero_add] at hs1
    clear hk2 hl2
    have hXh:Vec w2 bx o2 (nx - o2) (fun j=>fx (o2+j)):=fun j hj=>by
      have h:=HXV.out (o2+j) (by omega)
      rw [Nat.zero_add] at h
      exact ⟨HM12.out.cell_some h.1 (fun hh=>by have:=hh.2.2;omega),HM12.out.free h.1 h.2.1,h.2.2⟩
    have hcB:addC fx fy o2<B64:=Nat.lt_of_le_of_lt hc1 (by decide)
    have hsw:=fun w3 (m:Mod NoP w2 w3)=>addVW_any b o2 (c' - o2) bx o2 (cx - o2) (nx - o2) c' _ (fun j=>fx (o2+j)) (addC fx fy o2) w3 (HA2.out.mod m (Off.noP _)) (by omega) (hXh.mod m fun _ _ h=>h) (row_mod HB.out m) hcB (by omega) (by omega) (by omega) (fun _=>rfl)
    have HSW:=Lib.hid hsw
    have hcb2:awC (fun j=>fx (o2+j)) (addC fx fy o2) (nx - o2)<B64:=by
      have h2:=aw_val (fun j=>fx (o2+j)) (addC fx fy o2) (nx - o2)
      have h3:val (fun j=>fx (o2+j)) (nx - o2)<B64^(nx - o2):=val_lt fun j hj=>HXw.out _ (by omega)
      refine Classical.byContradiction fun hge => ?_
      have h4:B64*B64^(nx - o2)≤awC (fun j=>fx (o2+j)) (addC fx fy o2) (nx - o2)*B64^(nx - o2):=Nat.mul_le_mul_right _ (by omega)
      have h5:1≤B64^(nx - o2):=pow_pos _
      have h6:B64*B64^(nx - o2) ≥ 2*B64^(nx - o2):=Nat.mul_le_mul_right _ (by decide)
      omega
    have HCB:=Lib.hid hcb2
    clear hcb2 hcB hXh hsw
    generalize addC fx fy o2=c1 at *
    go_wp2_with fail
    go_still_tail 8,(by kernel_rfl)
    simp only [World.drew_eq]
    go_wp2_with fail
    refine (HSW.out _ (Mod.refl NoP w2).drew).mono ?_
    rintro e w3 ⟨rfl,hV3,m3⟩
    have hA3:=(Arr.drewN HA2.out 1).wroteAt (w:=w2.drew) hV3 m3
    have m13:Mod (InB b) w1 w3:=(HM12.out.mono fun _ _ _ h=>h.1).trans' ((Mod.refl _ w2).drew.trans m3) fun _ _ _ h=>h.1
    have HA3:=Lib.hid hA3
    have HM13:=Lib.hid m13
    have HCB2:=Lib.hid HCB.out
    have hcell:=(hA3.vec nx (by omega)).1
    have hfree:=(hA3.vec nx (by omega)).2.1
    rw [Nat.zero_add] at hcell hfree
    clear hV3 m3 hA3 m13 HSW
    generalize awC (fun j=>fx (o2+j)) c1 (nx - o2)=c2 at *
    go_wp2_with fail
    have hA4:=HA3.out.store (i:=nx) HCB2.out
    refine (norm_any _ (nx+1) c' _ _ hA4 hm (by omega)).mono ?_
    rintro e w4 hr4
    have hres:NatRet w az (vx+vy) e w4:=by
      refine hr4.ret HT.out ?_ hfr
      refine (hmod.of_none (M:=BlkOf az)).trans' (HM13.out.setCell (fun _=>rfl) _) fun k o hk h => ?_
      unfold InB at h
      subst h
      exact blk_of hfr hk o
    obtain ⟨a,n,c,f,rfl,h1,h2,h3⟩:=hres
    have H1:=Lib.hid h1
    clear h1 hA4 hr4
    go_wp2_with fail
    go_ret
    exact .mk H1.out h2 h3
  · obtain rfl:nx=ny:=by omega
    have hd:decide ((nx:Int) > (nx:Int))=false:=decide_eq_false (by omega)
    have hTT:val (put (lay f' 0 nx (addW fx fy)) nx (addC fx fy nx)) (nx+1)=vx+vy:=by
      rw [← HT.out,Nat.sub_self,awC_zero]
      refine val_congr fun j hj => ?_
      by_cases e:j=nx
      · rw [e,put_same,put_same]
      · rw [put_other _ _ e,put_other _ _ e]
        unfold lay
        rw [if_neg (c:=nx≤j∧j<nx+0) (by omega)]
    have HTT:=Lib.hid hTT
    have m13:Mod (InB b) w1 w2:=HM12.out.mono fun _ _ _ h=>h.1
    have HM13:=Lib.hid m13
    have hcB:addC fx fy nx<B64:=Nat.lt_of_le_of_lt hc1 (by decide)
    have HCB2:=Lib.hid hcB
    have hcell:=(HA2.out.vec nx (by omega)).1
    have hfree:=(HA2.out.vec nx (by omega)).2.1
    rw [Nat.zero_add] at hcell hfree
    clear m13 hTT HT hcB
    generalize addC fx fy nx=c2 at *
    go_wp2_with fail
    have hA4:=HA2.out.store (i:=nx) HCB2.out
    refine (norm_any _ (nx+1) c' _ _ hA4 hm (by omega)).mono ?_
    rintro e w4 hr4
    have hres:NatRet w az (vx+vy) e w4:=by
      refine hr4.ret HTT.out ?_ hfr
      refine (hmod.of_none (M:=BlkOf az)).trans' (HM13.out.setCell (fun _=>rfl) _) fun k o hk h => ?_
      unfold InB at h
      subst h
      exact blk_of hfr hk o
    obtain ⟨a,n,c,f,rfl,h1,h2,h3⟩:=hres
    have H1:=Lib.hid h1
    clear h1 hA4 hr4
    go_wp2_with fail
    go_ret
    exact .mk H1.out h2 h3
set_option maxRecDepth 100000 in
set_option maxHeartbeats 1000000 in
theorem natAdd_any (az ax ay:Option Addr) (nz cz nx cx ny cy vx vy:Nat) (w:World) (fz fx fy:Nat→Nat) (hZ:Arr w az cz fz) (hnz:nz≤cz) (hX:NatIs w ax nx cx fx vx) (hY:NatIs w ay ny cy fy vy) (hsx:nx≤1000000) (hsy:ny≤1000000) :
    Calls Tryz.prog 109 #[.slice az nz cz,.slice ax nx cx,.slice ay ny cy] w (NatRet w az (vx+vy)):=by
  by_cases hlt:nx<ny
  · have H:=Lib.hid (natAdd_ge az ay ax nz cz ny cy nx cx vy vx w fz fy fx hZ hnz hY hX hsy (by omega))
    have d0:decide ((nx:Int)<(ny:Int))=true:=decide_eq_true (by omega)
    clear hX hY hZ
    go_enter Tryz.func109,Tryz.ntmps109
    go_wp2_with fail
    refine H.out.mono ?_
    rintro e w1 ⟨a,n,c,f,rfl,h1,h2,h3⟩
    have H1:=Lib.hid (show NatIs w1 a n c f (vx+vy) by rw [Nat.add_comm];exact h1)
    clear h1
    go_wp2_with fail
    go_ret
    exact .mk H1.out h2 h3
  · exact natAdd_ge az ax ay nz cz nx cx ny cy vx vy w fz fx fy hZ hnz hX hY hsx (by omega)
end
section
def amC (X Y:Nat→Nat) (d:Nat):Nat→Nat
  | 0=>0
  | k+1=>(Y k*d+X k+amC X Y d k)/B64
def amW (X Y:Nat→Nat) (d k:Nat):Nat:=(Y k*d+X k+amC X Y d k)%B64
theorem amW_lt (X Y:Nat→Nat) (d k:Nat):amW X Y d k<B64:=Nat.mod_lt _ B64_pos
theorem am_lt {x y d c:Nat} (hx:x<B64) (hy:y<B64) (hd:d<B64) (hc:c<B64):(y*d+x+c)/B64<B64:=by
  have h1:y*d≤(B64 - 1)*(B64 - 1):=Nat.mul_le_mul (by omega) (by omega)
  rw [Nat.div_lt_iff_lt_mul B64_pos]
  simp only [B64_eq] at *
  omega
theorem amC_lt {X Y:Nat→Nat} {d n:Nat} (hx:∀ j,j<n→X j<B64) (hy:∀ j,j<n→Y j<B64) (hd:d<B64):∀ k,k≤n→amC X Y d k<B64
  | 0,_=>B64_pos
  | k+1,h=>am_lt (hx k (by omega)) (hy k (by omega)) hd (amC_lt hx hy hd k (by omega))
theorem am_val (X Y:Nat→Nat) (d n:Nat):val (amW X Y d) n+amC X Y d n*B64^n=val X n+val Y n*d:=by
  induction n with
  | zero=>simp [val,amC]
  | succ n ih =>
    simp only [val,amC]
    have h:=Nat.div_add_mod (Y n*d+X n+amC X Y d n) B64
    have e1:(amW X Y d n+B64*((Y n*d+X n+amC X Y d n)/B64))*B64^n=(Y n*d+X n+amC X Y d n)*B64^n:=by
      congr 1;unfold amW;omega
    simp only [Nat.add_mul] at e1 ⊢
    rw [Nat.pow_succ]
    have e2:(Y n*d+X n+amC X Y d n)/B64*(B64^n*B64)=B64*((Y n*d+X n+amC X Y d n)/B64)*B64^n:=by ac_rfl
    have e3:Y n*B64^n*d=Y n*d*B64^n:=by ac_rfl
    omega
theorem put_val (f:Nat→Nat) (i x:Nat):val (put f i x) (i+1)=val f i+x*B64^i:=by
  show val (put f i x) i+put f i x i*B64^i=_
  rw [val_put_ge f (Nat.le_refl _),put_same]
theorem bm_step (f X:Nat→Nat) (i n d a b:Nat) (h:val f (i+n)=a*b) (hX:val X n=a) :
    val (put (lay f i n (amW (fun j=>f (i+j)) X d)) (i+n) (amC (fun j=>f (i+j)) X d n)) (i+n+1)=a*(b+d*B64^i):=by
  rw [put_val,val_lay,Nat.pow_add,Nat.mul_add,← h,val_add f i n]
  have h1:=am_val (fun j=>f (i+j)) X d n
  rw [hX] at h1
  have h2:=congrArg (B64^i*·) h1
  simp only [Nat.mul_add] at h2
  have e1:amC (fun j=>f (i+j)) X d n*(B64^i*B64^n)=B64^i*(amC (fun j=>f (i+j)) X d n*B64^n):=by ac_rfl
  have e2:a*(d*B64^i)=B64^i*(a*d):=by ac_rfl
  rw [e1,e2]
  omega
theorem mg_round {P B x m S S' d t Y T:Nat} (h1:S*P=x*Y+T*m) (h2:S'*B=S+x*d+m*t):S'*(P*B)=x*(Y+d*P)+(T+t*P)*m:=by
  have e1:S'*(P*B)=(S'*B)*P:=by ac_rfl
  rw [e1,h2,Nat.add_mul,Nat.add_mul,h1,Nat.mul_add,Nat.add_mul]
  have e2:x*d*P=x*(d*P):=Nat.mul_assoc ..
  have e3:m*t*P=t*P*m:=by ac_rfl
  omega
theorem mg_bound {B x m S S' d t:Nat} (hB:0<B) (hS:S<x+m) (hd:d<B) (ht:t<B) (h2:S'*B=S+x*d+m*t):S'<x+m:=by
  refine Nat.lt_of_mul_lt_mul_right (a:=B) ?_
  rw [h2,Nat.add_mul]
  have h3:x*d+x≤x*B:=by have:=Nat.mul_le_mul_left x (show d+1≤B by omega);rwa [Nat.mul_add,Nat.mul_one] at this
  have h4:m*t+m≤m*B:=by have:=Nat.mul_le_mul_left m (show t+1≤B by omega);rwa [Nat.mul_add,Nat.mul_one] at this
  omega
theorem mg_low {k m0 z:Nat} (hk:(m0*k+1)%B64=0):(z+m0*((z*k)%B64))%B64=0:=by
  have h1:(z+m0*((z*k)%B64))%B64=(z+m0*(z*k))%B64:=by
    rw [Nat.add_mod,Nat.mul_mod,Nat.mod_mod,← Nat.mul_mod,← Nat.add_mod]
  rw [h1,show z+m0*(z*k)=z*(m0*k+1) by rw [Nat.mul_add,Nat.mul_one];rw [show m0*(z*k)=z*(m0*k) by ac_rfl];omega,Nat.mul_mod,hk]
  simp
theorem mg_win (f X M:Nat→Nat) (i n d t c c2 c3:Nat) (hn:0<n) (g1 g2:Nat→Nat)
    (h1:val g1 n+c2*B64^n=val (fun j=>f (i+j)) n+val X n*d) (h2:val g2 n+c3*B64^n=val g1 n+val M n*t) (h0:g2 0=0) :
    (val (fun j=>put (lay f i n g2) (i+n) ((c+c2+c3)%B64) (i+1+j)) n+(c+c2+c3)/B64*B64^n)*B64=val (fun j=>f (i+j)) n+c*B64^n+val X n*d+val M n*t:=by
  obtain ⟨k,rfl⟩:∃ k,n=k+1:=⟨n - 1,by omega⟩
  have e1:val (fun j=>put (lay f i (k+1) g2) (i+(k+1)) ((c+c2+c3)%B64) (i+1+j)) (k+1)=val (fun j=>g2 (1+j)) k+(c+c2+c3)%B64*B64^k:=by
    show val _ k+put (lay f i (k+1) g2) (i+(k+1)) ((c+c2+c3)%B64) (i+1+k)*B64^k=_
    rw [show i+1+k=i+(k+1) by omega,put_same]
    congr 1
    refine val_congr fun j hj => ?_
    rw [put_other _ _ (by omega)]
    unfold lay
    rw [if_pos (by omega)]
    congr 1
    omega
  have e2:val g2 (k+1)=B64*val (fun j=>g2 (1+j)) k:=by
    rw [show k+1=1+k by omega,val_add,val_one,h0,Nat.pow_one,Nat.zero_add]
  rw [e1,Nat.add_mul,Nat.add_mul,Nat.mul_comm (val _ k) B64,← e2]
  have e3:(c+c2+c3)%B64*B64^k*B64=(c+c2+c3)%B64*B64^(k+1):=by rw [Nat.pow_succ,Nat.mul_assoc]
  have e4:(c+c2+c3)/B64*B64^(k+1)*B64=B64*((c+c2+c3)/B64)*B64^(k+1):=by ac_rfl
  have e5:(c+c2+c3)%B64*B64^(k+1)+B64*((c+c2+c3)/B64)*B64^(k+1)=c*B64^(k+1)+c2*B64^(k+1)+c3*B64^(k+1):=by
    rw [← Nat.add_mul,Nat.add_comm _ (B64*_),Nat.div_add_mod,Nat.add_mul,Nat.add_mul]
  omega
theorem k0_step {m0 k t:Nat} {z:Int} (h:(m0:Int)*k+t*t=1+(B64:Int)*z) :
    ∃ z':Int,(m0:Int)*((k*((t*t%B64+1)%B64)%B64:Nat):Int)+((t*t%B64:Nat):Int)*((t*t%B64:Nat):Int)=1+(B64:Int)*z':=by
  have h1:((t*t:Nat):Int)=(t*t%B64:Nat)+(B64:Int)*(t*t/B64:Nat):=by
    rw [← Int.natCast_mul B64,← Int.natCast_add]
    congr 1
    have:=Nat.div_add_mod (t*t) B64
    omega
  generalize t*t%B64=t' at *
  have h2:((t'+1:Nat):Int)=((t'+1)%B64:Nat)+(B64:Int)*((t'+1)/B64:Nat):=by
    rw [← Int.natCast_mul B64,← Int.natCast_add]
    congr 1
    have:=Nat.div_add_mod (t'+1) B64
    omega
  generalize (t'+1)%B64=t'' at *
  have h3:((k*t'':Nat):Int)=(k*t''%B64:Nat)+(B64:Int)*(k*t''/B64:Nat):=by
    rw [← Int.natCast_mul B64,← Int.natCast_add]
    congr 1
    have:=Nat.div_add_mod (k*t'') B64
    omega
  generalize ((t*t/B64:Nat):Int)=a at *
  generalize (((t'+1)/B64:Nat):Int)=b at *
  generalize ((k*t''/B64:Nat):Int)=c at *
  generalize ((k*t''%B64:Nat):Int)=k' at *
  rw [Int.natCast_mul] at h1 h3
  rw [Int.natCast_add] at h2
  refine ⟨(z - a)*(1+t') - m0*k*b - m0*c,?_⟩
  have e3:k'=k*t'' - (B64:Int)*c:=by omega
  have e2:(t'':Int)=t'+1 - (B64:Int)*b:=by omega
  rw [e3,e2]
  rw [h1] at h
  generalize (B64:Int)=B at *
  grind
theorem k0_dvd {t i:Nat} (h:2^i ∣ t) (hi:i+i≤64):2^(i+i) ∣ t*t%B64:=by
  rw [Nat.dvd_mod_iff (by rw [B64_pow];exact Nat.pow_dvd_pow 2 hi),Nat.pow_add]
  exact Nat.mul_dvd_mul h h
theorem k0_end {m0 k t:Nat} {z:Int} (h:(m0:Int)*k+t*t=1+(B64:Int)*z) (ht:2^64 ∣ t) (htB:t<B64) (hk:k<B64):(m0*((B64 - k)%B64)+1)%B64=0:=by
  have h0:t=0:=Nat.eq_zero_of_dvd_of_lt ht (by rw [← B64_pow];exact htB)
  subst h0
  have h1:(m0:Int)*k=1+(B64:Int)*z:=by simpa using h
  have h2:(m0*(B64 - k)+1)%B64=0:=by
    have:((m0*(B64 - k)+1:Nat):Int)=(B64:Int)*(m0 - z):=by
      rw [Int.natCast_add,Int.natCast_mul,Int.natCast_sub (by omega)]
      generalize (B64:Int)=B at *
      grind
    have hd:(B64:Int) ∣ ((m0*(B64 - k)+1:Nat):Int):=⟨_,this⟩
    exact Nat.mod_eq_zero_of_dvd (Int.natCast_dvd_natCast.1 hd)
  rw [Nat.add_mod,Nat.mul_mod,Nat.mod_mod,← Nat.mul_mod,← Nat.add_mod]
  exact h2
theorem cancel_mod {R m a b:Nat} (hc:Nat.Coprime m R) (h:(a*R)%m=(b*R)%m):a%m=b%m:=by
  have key:∀ a b,a≤b→(a*R)%m=(b*R)%m→a%m=b%m:=fun a b hab h=>by
    have h1:(b*R - a*R)%m=0:=Nat.sub_mod_eq_zero_of_mod_eq h.symm
    rw [← Nat.sub_mul] at h1
    obtain ⟨k,hk⟩:=hc.dvd_of_dvd_mul_right (Nat.dvd_of_mod_eq_zero h1)
    have:b=a+m*k:=by omega
    rw [this,Nat.add_mul_mod_self_left]
  rcases Nat.le_total a b with hab | hab
  · exact key a b hab h
  · exact (key b a hab h.symm).symm
def Rep (R m v a:Nat):Prop:=v%m=(a*R)%m
theorem Rep.mul {R m r u v a b T e:Nat} (hc:Nat.Coprime m R) (h:(r+e*m)*R=u*v+T*m) (hu:Rep R m u a) (hv:Rep R m v b):Rep R m r (a*b):=by
  refine cancel_mod hc ?_
  have h1:(r*R)%m=(u*v)%m:=by
    have h2:((r+e*m)*R)%m=(u*v)%m:=by rw [h,Nat.add_mul_mod_self_right]
    rw [← h2,Nat.add_mul,show e*m*R=e*R*m by ac_rfl,Nat.add_mul_mod_self_right]
  rw [h1,Nat.mul_mod,hu,hv,← Nat.mul_mod]
  congr 1
  ac_rfl
theorem Rep.out {R m r u a T e:Nat} (hc:Nat.Coprime m R) (hR:0<R) (h:(r+e*m)*R=u*1+T*m) (hu:Rep R m u a) (hlt:u<R) (hT:T<R):r%m=a%m∧r+e*m≤m:=by
  constructor
  · refine cancel_mod hc ?_
    have h2:((r+e*m)*R)%m=(u*1)%m:=by rw [h,Nat.add_mul_mod_self_right]
    rw [Nat.add_mul,show e*m*R=e*R*m by ac_rfl,Nat.add_mul_mod_self_right,Nat.mul_one] at h2
    rw [h2];exact hu
  · have h3:(r+e*m)*R<(m+1)*R:=by
      rw [h,Nat.add_mul,Nat.one_mul]
      have:T*m≤m*R:=by rw [Nat.mul_comm];exact Nat.mul_le_mul_left _ (by omega)
      omega
    have:=Nat.lt_of_mul_lt_mul_right h3
    omega
theorem coprime_B {m:Nat} (h:m%2=1) (n:Nat):Nat.Coprime m (B64^n):=by
  rw [B64_pow,← Nat.pow_mul]
  refine Nat.Coprime.pow_right _ ?_
  show Nat.gcd m 2=1
  rw [Nat.gcd_comm,Nat.gcd_rec,h]
  rfl
end
section
open Go Go.RowKit
theorem words_set {w:World} {b c o n:Nat} {C:Array Value} {t:TypeId} (hb:w.heap[b]? = some (.cells C t (0,0))) (hs:C.size=c) (hfit:o+n≤c) (X:Nat→Nat) (hX:∀ j,j<n→X j<B64)
    (cs:List Value) (hl:cs.length=n) (hcs:∀ j,j<n→cs[j]? = some (U (X j))) :
    Vec (w.setRow b (C.toList.take o ++ cs ++ C.toList.drop (o+cs.length)).toArray) b o n X∧Mod (InR b o n) w (w.setRow b (C.toList.take o ++ cs ++ C.toList.drop (o+cs.length)).toArray):=by
  have hh:=setRow_heap w b C (C.toList.take o ++ cs ++ C.toList.drop (o+cs.length)).toArray t (0,0) hb
  generalize hR:(C.toList.take o ++ cs ++ C.toList.drop (o+cs.length))=R at *
  have hRs:R.length=c:=by rw [← hR];simp;omega
  have hRg:∀ j,R[j]? = if o≤j∧j<o+n then some (U (X (j - o))) else C[j]? := fun j=>by
    rw [← hR,List.append_assoc,List.getElem?_append]
    simp only [List.length_take,Array.length_toList,hs,Nat.min_eq_left (show o≤c by omega)]
    by_cases h1':j<o
    · rw [if_pos h1',if_neg (by omega)]
      simp [h1']
    · rw [if_neg h1',List.getElem?_append]
      rw [hl]
      by_cases h2':j<o+n
      · rw [if_pos (by omega),if_pos (by omega),hcs _ (by omega)]
      · rw [if_neg (by omega),if_neg (by omega)]
        simp only [List.getElem?_drop,Array.getElem?_toList]
        rw [show o+n+(j - o - n)=j by omega]
  refine ⟨fun j hj=>⟨?_,free_of_heap hh _,hX j hj⟩,rfl,rfl,rfl,by simp,fun k hk => ?_⟩
  · rw [cell?_of_heap hh,List.getElem?_toArray,hRg,if_pos (by omega),Nat.add_sub_cancel_left]
  · by_cases hkb:k=b
    · subst hkb
      refine .inr ⟨C,_,t,(0,0),hb,hh,by simp [hRs,hs],fun j hj => ?_⟩
      rw [List.getElem?_toArray,hRg,if_neg (fun h=>hj ⟨rfl,h⟩)]
    · exact .inl (setRow_other w b k _ hkb)
theorem zero121 (w:World):(zeroValue 121).run Tryz.prog w=.ok (.int .u64 0) w:=by kernel_rfl
theorem clearV_run (w:World) (ty:TypeId) (b o n cap c:Nat) (f:Nat→Nat) (hA:Arr w (some ⟨b,0,none⟩) c f) (hfit:o+n≤c) (hn:0<n) :
    ∃ w',(Builtin.clear_ #[49] ty #[.slice (some ⟨b,o,none⟩) n cap]).run Tryz.prog w=.ok (.tuple #[]) w'∧Vec w' b o n (fun _=>0)∧Mod (InR b o n) w w':=by
  rcases hA with ⟨h,_⟩ | ⟨b',C,t,e,hb,hs,hc⟩
  · cases h
  obtain rfl:b=b':=by simpa using e
  have hzc:(Builtin.zeroCells (Value.cells (.int .u64 0)) n).toList=List.replicate n (.int .u64 0):=by
    simp [Builtin.zeroCells,Value.cells]
    apply List.ext_getElem
    · simp
    · intro i h1 h2
      simp [Nat.mod_one]
  have hst:=run_storeCells_at Tryz.prog b o t (List.replicate n (.int .u64 0)) 0 C w hb (by simp;omega) (by intro v hv';rw [List.eq_of_mem_replicate hv'];rfl)
  have hset:=words_set hb hs.1 (o:=o) (n:=n) hfit (fun _=>0) (fun _ _=>B64_pos) (List.replicate n (.int .u64 0)) (by simp) (fun j hj=>by simp [hj])
  refine ⟨_,?_,hset.1,hset.2⟩
  simp only [Nat.add_zero] at hst
  obtain ⟨m,rfl⟩:∃ m,n=m+1:=⟨n - 1,by omega⟩
  simp [Builtin.clear_,run_underlying Tryz.underlying49,zero121,hzc,hst]
theorem am_parts {x y d c:Nat}:wHi y d x+wCar (wLo y d x) c 0=(y*d+x+c)/B64∧wAdd (wLo y d x) c 0=(y*d+x+c)%B64:=by
  unfold wHi wLo wCar wAdd
  rw [B64_eq]
  constructor <;> omega
set_option maxHeartbeats 1000000 in
theorem addMulVVWW_g_any (bz oz cz bx ox cx by_ oy cy n d:Nat) (X Y Z:Nat→Nat) (w:World)
   (hX:Vec w bx ox n X) (hY:Vec w by_ oy n Y) (hZ:Vec w bz oz n Z) (hn:n<4611686018427387904) (hd:d<B64) (ax:Up bz oz bx ox n) (ay:Up bz oz by_ oy n) :
    Calls Tryz.prog 200 #[.slice (some ⟨bz,oz,none⟩) n cz,.slice (some ⟨bx,ox,none⟩) n cx,.slice (some ⟨by_,oy,none⟩) n cy,U d,U 0] w
      fun e w'=>e=.returned (U (amC X Y d n))∧Vec w' bz oz n (amW X Y d)∧Mod (InR bz oz n) w w':=by
  go_enter Tryz.func200,Tryz.ntmps200
  go_wp2
  go_loopw [10,32] (fun c i wr=>∃ k:Nat,k≤n∧i=.int .i64 (k:Int)∧c=U (amC X Y d k)∧Written w wr bz oz k (amW X Y d)) (fun _ i _=>n - (intOf i).toNat)
  case atStart=>exact ⟨0,Nat.zero_le _,rfl,rfl,.zero _ _ _ _⟩
  case round =>
    obtain ⟨k,hk,rfl,rfl,hw⟩:=hrel
    by_cases hlt:k<n
    · have hcx:=hw.read hX ax hlt
      have hcy:=hw.read hY ay hlt
      obtain ⟨zk,hcz⟩:=hw.there hZ hlt
      have hfz:=hw.free hZ hlt
      have hcl:=amC_lt (fun j hj=>(hX j hj).2.2) (fun j hj=>(hY j hj).2.2) hd k hk
      have hxl:=(hX k hlt).2.2
      have hyl:=(hY k hlt).2.2
      have hp:=@am_parts (X k) (Y k) d (amC X Y d k)
      have Hs:=Lib.hid (show (Y k*d+X k+amC X Y d k)%B64=amW X Y d k from rfl)
      have Hc:=Lib.hid (show (Y k*d+X k+amC X Y d k)/B64=amC X Y d (k+1) from rfl)
      have Hw:=Lib.hid hw
      have HZ:=Lib.hid (hZ k hlt).1
      clear hw
      generalize amC X Y d k=c at *
      generalize X k=xk at *
      generalize Y k=yk at *
      have hq:=am_lt hxl hyl hd hcl
      have hcl2:=wHi_lt hyl hd hxl
      have hll:=wLo_lt yk d xk
      have hcc:=wCar_le (c:=0) hll hcl (by omega)
      have HA:=Lib.hid (fun w=>mulAddWWW_g_any yk d xk hyl hd hxl w)
      have HP:=Lib.hid hp
      have hsum:wCar (wLo yk d xk) c 0+wHi yk d xk=(yk*d+xk+c)/B64:=by rw [Nat.add_comm];exact hp.1
      have Hsum:=Lib.hid hsum
      have hsl:wCar (wLo yk d xk) c 0+wHi yk d xk<B64:=by rw [hsum];exact hq
      have HB:=Lib.hid (fun w=>add_any (wLo yk d xk) c 0 (by omega) w)
      have HP2:=Lib.hid hp.2
      clear hp hsum hq HP
      generalize wCar (wLo yk d xk) c 0=cc at *
      generalize wHi yk d xk=hi at *
      generalize wAdd (wLo yk d xk) c 0=lo2 at *
      generalize wLo yk d xk=lo at *
      have hw64:IntKind.u64.wrap ((cc:Int)+(hi:Int))=((cc+hi:Nat):Int):=by rw [IntKind.wrap_u64,B64_eq] at *;omega
      go_wp2_with fail
      go_quiet ((go_at_call 206;exact Calls.quiet_of_same (HA.out _)))
      go_wp2_with (go_at_call 140;refine (HB.out _).mono ?_;rintro e w' ⟨rfl,rfl⟩)
      go_roundw
      case rel=>exact ⟨k+1,by omega,by go_num,by rw [← Hc.out,← Hsum.out];go_num,(Hw.out.drewN _).step HZ.out (HP2.out.trans Hs.out)⟩
      case measure=>simp [intOf];omega
    · obtain rfl:k=n:=by omega
      go_wp2_with fail
      go_ret
      exact ⟨rfl,hw.vec hZ (fun j hj=>amW_lt _ _ _ _),hw.mod⟩
theorem addMulVVWW_any (bz oz cz bx ox cx by_ oy cy n d:Nat) (X Y Z:Nat→Nat) (w:World)
   (hX:Vec w bx ox n X) (hY:Vec w by_ oy n Y) (hZ:Vec w bz oz n Z) (hn:n<4611686018427387904) (hd:d<B64) (ax:Up bz oz bx ox n) (ay:Up bz oz by_ oy n) :
    Calls Tryz.prog 178 #[.slice (some ⟨bz,oz,none⟩) n cz,.slice (some ⟨bx,ox,none⟩) n cx,.slice (some ⟨by_,oy,none⟩) n cy,U d,U 0] w
      fun e w'=>e=.returned (U (amC X Y d n))∧Vec w' bz oz n (amW X Y d)∧Mod (InR bz oz n) w w':=by
  have H:=Lib.hid (fun w' (h:w'=w)=>h ▸ addMulVVWW_g_any bz oz cz bx ox cx by_ oy cy n d X Y Z w hX hY hZ hn hd ax ay)
  clear hX hY hZ
  go_enter Tryz.func178,Tryz.ntmps178
  go_wp2_with (go_at_call 200;refine (H.out _ rfl).mono ?_;rintro e w' ⟨rfl,h1,h2⟩)
  go_ret
  exact ⟨rfl,h1,h2⟩
end
section
theorem val_top2 (f:Nat→Nat) {n:Nat} (hn:2≤n):val f n=(f (n - 1)*B64+f (n - 2))*B64^(n - 2)+val f (n - 2):=by
  obtain ⟨k,rfl⟩:∃ k,n=k+2:=⟨n - 2,by omega⟩
  rw [show k+2 - 1=k+1 by omega,show k+2 - 2=k by omega]
  simp only [val]
  rw [Nat.pow_succ,Nat.add_mul]
  have:f (k+1)*(B64^k*B64)=f (k+1)*B64*B64^k:=by ac_rfl
  omega
theorem val_top3 (f:Nat→Nat) {n:Nat} (hn:2≤n):val f (n+1)=((f n*B64+f (n - 1))*B64+f (n - 2))*B64^(n - 2)+val f (n - 2):=by
  show val f n+f n*B64^n=_
  rw [val_top2 f hn]
  have e:B64^n=B64*B64*B64^(n - 2):=by
    obtain ⟨k,rfl⟩:∃ k,n=k+2:=⟨n - 2,by omega⟩
    rw [show k+2 - 2=k by omega,Nat.pow_succ,Nat.pow_succ];ac_rfl
  rw [e]
  simp only [Nat.add_mul]
  have:f n*(B64*B64*B64^(n - 2))=f n*B64*B64*B64^(n - 2):=by ac_rfl
  omega
structure Guess (X vv q:Nat):Prop where
  lt:q<B64
  hi:X<(q+1)*vv
  lo:q*vv<X+vv
structure DvIn (n:Nat) (F V:Nat→Nat):Prop where
  n2:2≤n
  Fw:∀ i,i≤n→F i<B64
  Vw:∀ i,i<n→V i<B64
  norm:B64≤2*V (n - 1)
  lt:val F (n+1)<B64*val V n
theorem DvIn.top_le {n:Nat} {F V:Nat→Nat} (h:DvIn n F V):F n≤V (n - 1):=by
  have h1:=h.lt
  rw [val_top3 F h.n2,val_top2 V h.n2] at h1
  have hl:val V (n - 2)<B64^(n - 2):=val_lt fun j hj=>h.Vw j (by have:=h.n2;omega)
  have h2:=h.Vw (n - 2) (by have:=h.n2;omega)
  refine Classical.byContradiction fun hn => ?_
  have h3:(V (n - 1)+1)*(B64*B64*B64^(n - 2))≤F n*(B64*B64*B64^(n - 2)):=Nat.mul_le_mul_right _ (by omega)
  have h4:V (n - 2)*B64^(n - 2)+B64^(n - 2)≤B64*B64^(n - 2):=by
    have:=Nat.mul_le_mul_right (B64^(n - 2)) (show V (n - 2)+1≤B64 by omega);rwa [Nat.add_mul,Nat.one_mul] at this
  have h5:B64*(V (n - 2)*B64^(n - 2)+B64^(n - 2))≤B64*(B64*B64^(n - 2)):=Nat.mul_le_mul_left _ h4
  have h6:B64*(val V (n - 2)+1)≤B64*B64^(n - 2):=Nat.mul_le_mul_left _ hl
  simp only [Nat.add_mul,Nat.mul_add,Nat.one_mul,Nat.mul_one] at *
  have e1:F n*B64*B64*B64^(n - 2)=F n*(B64*B64*B64^(n - 2)):=by ac_rfl
  have e2:B64*(V (n - 1)*B64*B64^(n - 2))=V (n - 1)*(B64*B64*B64^(n - 2)):=by ac_rfl
  have e3:B64*(B64*B64^(n - 2))=B64*B64*B64^(n - 2):=by ac_rfl
  have:=B64_pos
  omega
theorem DvIn.eq {n:Nat} {F V:Nat→Nat} (h:DvIn n F V) (he:F n=V (n - 1)):Guess (val F (n+1)) (val V n) (B64 - 1):=by
  have hB:=B64_pos
  refine ⟨by omega,by rw [Nat.sub_add_cancel hB];exact h.lt,?_⟩
  rw [val_top3 F h.n2,val_top2 V h.n2,he]
  exact kn_eq hB (val_lt fun j hj=>h.Vw j (by have:=h.n2;omega)) h.norm (h.Vw _ (by have:=h.n2;omega))
structure DvG (n:Nat) (F V:Nat→Nat) (q r:Nat):Prop where
  e:q*V (n - 1)+r=F n*B64+F (n - 1)
  hi:val F (n+1)<(q+1)*val V n
  qB:q<B64
theorem DvIn.start {n:Nat} {F V:Nat→Nat} (h:DvIn n F V) (hlt:F n<V (n - 1)) :
    DvG n F V ((F n*B64+F (n - 1))/V (n - 1)) ((F n*B64+F (n - 1))%V (n - 1)):=by
  have h2:=h.n2
  have hF:=h.Fw (n - 1) (by omega)
  have hd:=Nat.div_add_mod (F n*B64+F (n - 1)) (V (n - 1))
  have hm:=Nat.mod_lt (F n*B64+F (n - 1)) (show 0<V (n - 1) by omega)
  refine ⟨by rw [Nat.mul_comm];exact hd,?_,?_⟩
  · rw [val_top3 F h2,val_top2 V h2]
    refine kn_init (val_lt fun j hj=>h.Fw j (by omega)) (h.Fw _ (by omega)) ?_
    have hcm:(F n*B64+F (n - 1))/V (n - 1)*V (n - 1)=V (n - 1)*((F n*B64+F (n - 1))/V (n - 1)):=Nat.mul_comm _ _
    rw [Nat.add_mul,Nat.one_mul]
    omega
  · rw [Nat.div_lt_iff_lt_mul (by omega)]
    have:=Nat.mul_le_mul_right B64 (show F n+1≤V (n - 1) by omega)
    rw [Nat.add_mul,Nat.one_mul] at this
    rw [Nat.mul_comm B64]
    omega
theorem DvIn.down {n:Nat} {F V:Nat→Nat} (h:DvIn n F V) {q r:Nat} (hs:DvG n F V q r) (hc:r*B64+F (n - 2)<q*V (n - 2)) :
    0<q∧DvG n F V (q - 1) (r+V (n - 1)):=by
  have h2:=h.n2
  have hq:0<q:=by
    rcases Nat.eq_zero_or_pos q with h0 | h0
    · subst h0;omega
    · exact h0
  obtain ⟨k,rfl⟩:∃ k,q=k+1:=⟨q - 1,by omega⟩
  rw [Nat.add_sub_cancel]
  refine ⟨hq,⟨?_,?_,by have:=hs.qB;omega⟩⟩
  · have:=hs.e
    rw [Nat.add_mul,Nat.one_mul] at this
    omega
  · have:=kn_dec (B:=B64) (P:=B64^(n - 2)) (vl:=val V (n - 2)) (xl:=val F (n - 2)) (val_lt fun j hj=>h.Fw j (by omega)) hs.e hc
    rw [val_top3 F h2,val_top2 V h2]
    exact this
theorem DvIn.done {n:Nat} {F V:Nat→Nat} (h:DvIn n F V) {q r:Nat} (hs:DvG n F V q r) (hc:q*V (n - 2)≤r*B64+F (n - 2)):Guess (val F (n+1)) (val V n) q:=by
  have h2:=h.n2
  refine ⟨hs.qB,hs.hi,?_⟩
  rw [val_top3 F h2,val_top2 V h2]
  exact kn_fin B64_pos (val_lt fun j hj=>h.Vw j (by omega)) (by have:=h.norm;rw [B64_eq] at this;omega) hs.e (Nat.le_of_lt hs.qB) hc
theorem DvIn.done2 {n:Nat} {F V:Nat→Nat} (h:DvIn n F V) {q r:Nat} (hs:DvG n F V q r) (hr:B64≤r):Guess (val F (n+1)) (val V n) q:=by
  refine h.done hs ?_
  have h1:=h.Vw (n - 2) (by have:=h.n2;omega)
  have h3:q*V (n - 2)≤B64*B64:=Nat.mul_le_mul (Nat.le_of_lt hs.qB) (Nat.le_of_lt h1)
  have h4:B64*B64≤r*B64:=Nat.mul_le_mul_right _ hr
  omega
theorem DvIn.sub0 {n:Nat} {F V H:Nat→Nat} (h:DvIn n F V) {q:Nat} (hg:Guess (val F (n+1)) (val V n) q) (hH:val H (n+1)=q*val V n) (hHw:∀ i,i<n+1→H i<B64) (hc:subC F H (n+1)=0) :
    val F (n+1)/val V n=q∧val (subW F H) n=val F (n+1)%val V n∧subW F H n=0:=by
  have h1:=sub_val F H (n+1) (fun j hj=>h.Fw j (by omega)) hHw
  rw [hc,Nat.zero_mul,Nat.add_zero,hH] at h1
  have hhi:=hg.hi
  rw [Nat.add_mul,Nat.one_mul] at hhi
  obtain ⟨d1,d2⟩:=div_of (X:=val F (n+1)) (d:=val V n) (q:=q) (r:=val (subW F H) (n+1)) (by omega) (by omega)
  have hV:val V n<B64^n:=val_lt h.Vw
  have hle:val (subW F H) (n+1)<B64^n:=by omega
  have h0:subW F H n=0:=by
    refine Classical.byContradiction fun hne => ?_
    have:=le_val_of_top (f:=subW F H) (n:=n) hne
    omega
  refine ⟨d1,?_,h0⟩
  rw [d2]
  show _=val (subW F H) n+subW F H n*_
  rw [h0]
  omega
theorem DvIn.sub1 {n:Nat} {F V H:Nat→Nat} (h:DvIn n F V) {q:Nat} (hg:Guess (val F (n+1)) (val V n) q) (hH:val H (n+1)=q*val V n) (hHw:∀ i,i<n+1→H i<B64) (hc:subC F H (n+1)≠0) :
    0<q∧val F (n+1)/val V n=q - 1∧val (addW (subW F H) V) n=val F (n+1)%val V n∧(subW F H n+addC (subW F H) V n)%B64=0:=by
  have h1:=sub_val F H (n+1) (fun j hj=>h.Fw j (by omega)) hHw
  have hcl:=subC_le F H (n+1)
  have hc1:subC F H (n+1)=1:=by omega
  have hdl:val (subW F H) (n+1)<B64^(n+1):=val_lt fun j hj=>wSub_lt _ _ _
  rw [hc1,Nat.one_mul,hH] at h1
  have hq:0<q:=by
    rcases Nat.eq_zero_or_pos q with h0 | h0
    · subst h0;rw [Nat.zero_mul] at h1;omega
    · exact h0
  obtain ⟨k,rfl⟩:∃ k,q=k+1:=⟨q - 1,by omega⟩
  have hlo:=hg.lo
  rw [Nat.add_mul,Nat.one_mul] at h1 hlo
  have h2:=add_val (subW F H) V n
  have hV:val V n<B64^n:=val_lt h.Vw
  have hel:val (addW (subW F H) V) n<B64^n:=val_lt fun j hj=>wAdd_lt _ _ _
  have hdn:subW F H n<B64:=wSub_lt _ _ _
  have hce:=addC_le (X:=subW F H) (Y:=V) (n:=n) (fun j hj=>wSub_lt _ _ _) h.Vw n (Nat.le_refl _)
  have h3:val (subW F H) (n+1)=val (subW F H) n+subW F H n*B64^n:=rfl
  obtain ⟨d1,d2⟩:=div_of (X:=val F (n+1)) (d:=val V n) (q:=k) (r:=val F (n+1) - k*val V n) (by omega) (by omega)
  have hR:val F (n+1) - k*val V n<B64^n:=by omega
  generalize hRR:val F (n+1) - k*val V n=R at *
  
  have key:(subW F H n+addC (subW F H) V n)*B64^n+val (addW (subW F H) V) n=B64*B64^n+R:=by
    rw [Nat.add_mul]
    have hp:B64^(n+1)=B64*B64^n:=by rw [Nat.pow_succ,Nat.mul_comm]
    rw [hp] at h1
    have e9:(k+1)*val V n=k*val V n+val V n:=by rw [Nat.add_mul,Nat.one_mul]
    omega
  have hs:subW F H n+addC (subW F H) V n=B64:=by
    refine Classical.byContradiction fun hne => ?_
    rcases Nat.lt_or_gt_of_ne hne with h4 | h4
    · have:(subW F H n+addC (subW F H) V n+1)*B64^n≤B64*B64^n:=Nat.mul_le_mul_right _ h4
      rw [Nat.add_mul _ 1] at this
      omega
    · omega
  rw [hs] at key
  refine ⟨by omega,by rw [d1];omega,by rw [d2];omega,by rw [hs,Nat.mod_self]⟩
structure DvSt (n m:Nat) (fu V f g:Nat→Nat) (k:Nat):Prop where
  km:k≤m
  top:∀ i,k+n≤i→i<m+n→f i=0
  val:val f (k+n)+val V n*(B64^k*val (fun i=>g (k+i)) (m - k))=val fu (m+n)
  lt:Proofs.YtpfmbfkhjapbbaaGreatDoor.val f (k+n)<Proofs.YtpfmbfkhjapbbaaGreatDoor.val V n*B64^k
theorem DvSt.start {n m:Nat} {fu V g:Nat→Nat} (hn:0<n) (hV:∀ i,i<n→V i<B64) (hf:∀ i,i<m+n→fu i<B64) (ht:fu (m+n - 1)<V (n - 1)):DvSt n m fu V fu g m:=by
  refine ⟨Nat.le_refl _,fun i h1 h2=>by omega,by rw [Nat.sub_self];simp [Proofs.YtpfmbfkhjapbbaaGreatDoor.val],?_⟩
  rw [val_add fu m n,Nat.mul_comm (Proofs.YtpfmbfkhjapbbaaGreatDoor.val V n)]
  have h1:Proofs.YtpfmbfkhjapbbaaGreatDoor.val fu m<B64^m:=val_lt fun j hj=>hf j (by omega)
  have h2:Proofs.YtpfmbfkhjapbbaaGreatDoor.val (fun j=>fu (m+j)) n<Proofs.YtpfmbfkhjapbbaaGreatDoor.val V n :=
    val_lt_of_word (m:=n - 1) (fun j hj=>hf _ (by omega)) (by omega) (fun j h1 h2=>by omega) (by rw [show m+(n - 1)=m+n - 1 by omega];exact ht)
  have h3:B64^m*(Proofs.YtpfmbfkhjapbbaaGreatDoor.val (fun j=>fu (m+j)) n+1)≤B64^m*Proofs.YtpfmbfkhjapbbaaGreatDoor.val V n:=Nat.mul_le_mul_left _ h2
  rw [Nat.mul_add,Nat.mul_one] at h3
  omega
theorem DvSt.win {n m:Nat} {fu V f g:Nat→Nat} {j:Nat} (h:DvSt n m fu V f g (j+1)):Proofs.YtpfmbfkhjapbbaaGreatDoor.val (fun i=>f (j+i)) (n+1)<B64*Proofs.YtpfmbfkhjapbbaaGreatDoor.val V n:=by
  have h1:=h.lt
  rw [show j+1+n=j+(n+1) by omega,val_add f j (n+1),Nat.pow_succ] at h1
  refine Nat.lt_of_mul_lt_mul_left (a:=B64^j) ?_
  rw [show B64^j*(B64*Proofs.YtpfmbfkhjapbbaaGreatDoor.val V n)=Proofs.YtpfmbfkhjapbbaaGreatDoor.val V n*(B64^j*B64) by ac_rfl]
  omega
theorem DvSt.step {n m:Nat} {fu V f g f' g':Nat→Nat} {j:Nat} (h:DvSt n m fu V f g (j+1)) (hV:0<Proofs.YtpfmbfkhjapbbaaGreatDoor.val V n) (hlo:∀ i,i<j→f' i=f i)
    (hw:Proofs.YtpfmbfkhjapbbaaGreatDoor.val (fun i=>f' (j+i)) n=Proofs.YtpfmbfkhjapbbaaGreatDoor.val (fun i=>f (j+i)) (n+1)%Proofs.YtpfmbfkhjapbbaaGreatDoor.val V n) (ht:∀ i,j+n≤i→i<m+n→f' i=0)
    (hg:g' j=Proofs.YtpfmbfkhjapbbaaGreatDoor.val (fun i=>f (j+i)) (n+1)/Proofs.YtpfmbfkhjapbbaaGreatDoor.val V n) (hg2:∀ i,i≠j→g' i=g i) (hfw:∀ i,i<j→f i<B64):DvSt n m fu V f' g' j:=by
  have hd:=Nat.div_add_mod (Proofs.YtpfmbfkhjapbbaaGreatDoor.val (fun i=>f (j+i)) (n+1)) (Proofs.YtpfmbfkhjapbbaaGreatDoor.val V n)
  have hm:=Nat.mod_lt (Proofs.YtpfmbfkhjapbbaaGreatDoor.val (fun i=>f (j+i)) (n+1)) hV
  have hkm:=h.km
  have hv:=h.val
  rw [show j+1+n=j+(n+1) by omega,val_add f j (n+1)] at hv
  have hlow:Proofs.YtpfmbfkhjapbbaaGreatDoor.val f' j=Proofs.YtpfmbfkhjapbbaaGreatDoor.val f j:=val_congr hlo
  have hq:Proofs.YtpfmbfkhjapbbaaGreatDoor.val (fun i=>g' (j+i)) (m - j)=g' j+B64*Proofs.YtpfmbfkhjapbbaaGreatDoor.val (fun i=>g (j+1+i)) (m - (j+1)):=by
    rw [show m - j=1+(m - (j+1)) by omega,val_add,val_one,Nat.pow_one,Nat.add_zero]
    congr 2
    exact val_congr fun i hi=>by rw [← Nat.add_assoc];exact hg2 _ (by omega)
  refine ⟨by omega,ht,?_,?_⟩
  · rw [val_add f' j n,hw,hlow,hq,hg,← hv]
    generalize Proofs.YtpfmbfkhjapbbaaGreatDoor.val (fun i=>f (j+i)) (n+1)/Proofs.YtpfmbfkhjapbbaaGreatDoor.val V n=q at *
    generalize Proofs.YtpfmbfkhjapbbaaGreatDoor.val (fun i=>f (j+i)) (n+1)%Proofs.YtpfmbfkhjapbbaaGreatDoor.val V n=R at *
    generalize Proofs.YtpfmbfkhjapbbaaGreatDoor.val (fun i=>g (j+1+i)) (m - (j+1))=Q at *
    rw [← hd,Nat.pow_succ]
    simp only [Nat.mul_add]
    have e1:Proofs.YtpfmbfkhjapbbaaGreatDoor.val V n*(B64^j*q)=B64^j*(Proofs.YtpfmbfkhjapbbaaGreatDoor.val V n*q):=by ac_rfl
    have e2:Proofs.YtpfmbfkhjapbbaaGreatDoor.val V n*(B64^j*(B64*Q))=Proofs.YtpfmbfkhjapbbaaGreatDoor.val V n*(B64^j*B64*Q):=by ac_rfl
    omega
  · rw [val_add f' j n,hw,hlow,Nat.mul_comm (Proofs.YtpfmbfkhjapbbaaGreatDoor.val V n)]
    have h1:Proofs.YtpfmbfkhjapbbaaGreatDoor.val f j<B64^j:=val_lt hfw
    have h3:B64^j*(Proofs.YtpfmbfkhjapbbaaGreatDoor.val (fun i=>f (j+i)) (n+1)%Proofs.YtpfmbfkhjapbbaaGreatDoor.val V n+1)≤B64^j*Proofs.YtpfmbfkhjapbbaaGreatDoor.val V n:=Nat.mul_le_mul_left _ hm
    rw [Nat.mul_add,Nat.mul_one] at h3
    omega
theorem DvSt.fin {n m:Nat} {fu V f g:Nat→Nat} (h:DvSt n m fu V f g 0) (hV:0<Proofs.YtpfmbfkhjapbbaaGreatDoor.val V n) :
    Proofs.YtpfmbfkhjapbbaaGreatDoor.val g m=Proofs.YtpfmbfkhjapbbaaGreatDoor.val fu (m+n)/Proofs.YtpfmbfkhjapbbaaGreatDoor.val V n∧Proofs.YtpfmbfkhjapbbaaGreatDoor.val f (m+n)=Proofs.YtpfmbfkhjapbbaaGreatDoor.val fu (m+n)%Proofs.YtpfmbfkhjapbbaaGreatDoor.val V n:=by
  have hv:=h.val
  have hl:=h.lt
  simp only [Nat.zero_add,Nat.pow_zero,Nat.one_mul,Nat.mul_one,Nat.sub_zero] at hv hl
  have hgg:Proofs.YtpfmbfkhjapbbaaGreatDoor.val (fun i=>g i) m=Proofs.YtpfmbfkhjapbbaaGreatDoor.val g m:=rfl
  rw [hgg] at hv
  obtain ⟨d1,d2⟩:=div_of (X:=Proofs.YtpfmbfkhjapbbaaGreatDoor.val fu (m+n)) (d:=Proofs.YtpfmbfkhjapbbaaGreatDoor.val V n) (q:=Proofs.YtpfmbfkhjapbbaaGreatDoor.val g m) (r:=Proofs.YtpfmbfkhjapbbaaGreatDoor.val f n) (by rw [Nat.mul_comm];omega) hl
  refine ⟨d1.symm,?_⟩
  rw [d2,val_drop (n:=m+n) (m:=n) (by omega) fun j h1 h2=>h.top j (by omega) h2]
end
section
open Go Go.RowKit
def IntP (p:Nat) (a:Option Addr):Places:=fun k o=>k=p∨BlkOf a k o
def IntRet (w:World) (p:Nat) (a:Option Addr) (neg:Bool) (v:Nat) (e:Ending) (w':World):Prop :=
  e=.returned (.pointer (some ⟨p,0,none⟩))∧∃ a' n c f,IntIs w' p neg a' n c f v∧Mod (IntP p a) w w'∧(a'=a∨Fresh w a')
theorem IntIs.c0 {w:World} {p n c m:Nat} {neg:Bool} {a:Option Addr} {f:Nat→Nat} (h:IntIs w p neg a n c f m):w.cell? ⟨p,0,none⟩=some (.bool neg):=by rw [cell?_of_heap h.cells];rfl
theorem IntIs.c1 {w:World} {p n c m:Nat} {neg:Bool} {a:Option Addr} {f:Nat→Nat} (h:IntIs w p neg a n c f m):w.cell? ⟨p,1,none⟩=some (.slice a n c):=by rw [cell?_of_heap h.cells];rfl
theorem IntIs.offP {w:World} {p n c m:Nat} {neg:Bool} {a:Option Addr} {f:Nat→Nat} (h:IntIs w p neg a n c f m):∀ o,¬ BlkOf a p o:=fun o ⟨A,hA,hp⟩=>h.apart A hA hp
theorem set2 {w:World} {p:Nat} {x y:Value} {t:TypeId} (h:w.heap[p]? = some (.cells #[x,y] t (0,0))) (u v:Value):((w.setCell ⟨p,1,none⟩ v).setCell ⟨p,0,none⟩ u).heap[p]? = some (.cells #[u,v] t (0,0)):=by
  rw [heap_set (heap_set h 1 v) 0 u];rfl
theorem set2' {w:World} {p:Nat} {x y:Value} {t:TypeId} (h:w.heap[p]? = some (.cells #[x,y] t (0,0))) (v:Value):(w.setCell ⟨p,1,none⟩ v).heap[p]? = some (.cells #[x,v] t (0,0)):=by
  rw [heap_set h 1 v];rfl
theorem apart_of {w:World} {p:Nat} {a a':Option Addr} (hp:p<w.heap.size) (h:∀ A,a=some A→A.block≠p) (hf:a'=a∨Fresh w a'):∀ A,a'=some A→A.block≠p:=by
  intro A hA
  rcases hf with rfl | ⟨k,e,hk⟩
  · exact h A hA
  · have h5:A.block=k:=congrArg Addr.block (Option.some.inj (hA.symm.trans e))
    omega
theorem IntRet.mk {w w1:World} {p:Nat} {x y:Value} {a a':Option Addr} {n c v:Nat} {f:Nat→Nat} {neg:Bool} {m:Mod (BlkOf a) w w1}
    (hp:w1.heap[p]? = some (.cells #[x,y] 51 (0,0))) (hlt:p<w.heap.size) (ha:∀ A,a=some A→A.block≠p) (hN:NatIs w1 a' n c f v) (hf:a'=a∨Fresh w a') :
    IntRet w p a neg v (.returned (.pointer (some ⟨p,0,none⟩))) ((w1.setCell ⟨p,1,none⟩ (.slice a' n c)).setCell ⟨p,0,none⟩ (.bool neg)):=by
  have hap:=apart_of hlt ha hf
  have hmm:Mod (InB p) w1 ((w1.setCell ⟨p,1,none⟩ (.slice a' n c)).setCell ⟨p,0,none⟩ (.bool neg)):=(mod_own w1 p 1 _).trans (mod_own _ p 0 _)
  refine ⟨rfl,a',n,c,f,⟨set2 hp _ _,hN.mod hmm fun A hA o h=>hap A hA h,hap⟩,?_,hf⟩
  exact (m.mono fun _ _ _ h=>.inr h).trans (hmm.mono fun _ _ _ h=>.inl h)
theorem sign_any (p n c m:Nat) (neg:Bool) (a:Option Addr) (f:Nat→Nat) (w:World) (hI:IntIs w p neg a n c f m) (hm:0<m) :
    Calls Tryz.prog 104 #[.pointer (some ⟨p,0,none⟩)] w fun e w'=>e=.returned (.int .i64 (if neg then -1 else 1))∧w'=w:=by
  have h0:=hI.c0
  have h1:=hI.c1
  have hb0:((n:Int) == 0)=false:=by
    have:=hI.num.zero_iff
    simp;omega
  clear hI
  cases neg <;>
  · go_enter Tryz.func104,Tryz.ntmps104
    go_wp2_with fail
    go_ret
    exact ⟨rfl,rfl⟩
theorem setU64_any (a:Option Addr) (n c x:Nat) (w:World) (f:Nat→Nat) (hA:Arr w a c f) (hn:n≤c) (hx:x<B64) :
    Calls Tryz.prog 87 #[.slice a n c,U x] w (NatRet w a x):=by
  have HS:=Lib.hid (setWord_any a n c x w f hA hn hx)
  clear hA
  go_enter Tryz.func87,Tryz.ntmps87
  go_wp2_with fail
  refine HS.out.mono ?_
  rintro e w1 ⟨a',n',c',f',rfl,h1,h2,h3⟩
  have H1:=Lib.hid h1
  clear h1
  go_wp2_with fail
  go_ret
  exact .mk H1.out h2 h3
end
section
open Go Go.RowKit
def TellsW (p:Prop) (M:Places) (w:World) (e:Ending) (w':World):Prop:=∃ r:Bool,e=.returned (.bool r)∧(r=true ↔ p)∧Mod M w w'
end
end Go.Proofs.YtpfmbfkhjapbbaaGreatDoor
