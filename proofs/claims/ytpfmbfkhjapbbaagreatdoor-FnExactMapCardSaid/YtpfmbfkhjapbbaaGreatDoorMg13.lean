/-
  montgomery: what its array holds behind i rows, and what a row makes of it. Conditions: the numbers lie apart from the array that is written; the modulus is odd (by its word's inverse).
  montgomery walked. Conditions: the three numbers have n words and lie apart from the array that is written; the modulus is odd (by its word's inverse), not 0.
  alias: whether two numbers lie in one array. Conditions: they are whole arrays.
  nat.lsh by whole words, into a new number. Conditions: at most 100 words, by 1 to 100 words.
-/
import Derived.Test.YtpfmbfkhjapbbaaGreatDoorMg11
import Derived.StillTailTactics
import Derived.Deep.DeepCutAuto
import Derived.LaidEqlPtr
set_option linter.unusedVariables false
set_option linter.unusedSimpArgs false
namespace Go.Proofs.YtpfmbfkhjapbbaaGreatDoor
section
open Go Go.RowKit
structure MgW (n:Nat) (X Y M f:Nat→Nat) (i cy:Nat):Prop where
  c1:cy≤1
  lt:val (fun j=>f (i+j)) n+cy*B64^n<val X n+val M n
  eq:∃ T,(val (fun j=>f (i+j)) n+cy*B64^n)*B64^i=val X n*val Y i+T*val M n∧T<B64^i
theorem MgW.start {n:Nat} {X Y M f:Nat→Nat} (h0:∀ j,j<n→f j=0) (hM:0<val M n):MgW n X Y M f 0 0:=by
  have hv:val (fun j=>f (0+j)) n=0:=val_zero fun j hj=>by rw [Nat.zero_add];exact h0 j hj
  exact ⟨by omega,by rw [hv];omega,0,by rw [hv];simp [val],by simp⟩
theorem MgW.step {n:Nat} {X Y M f:Nat→Nat} {i cy k:Nat} (h:MgW n X Y M f i cy) (hn:0<n) (hi:i<n) (hX:∀ j,j<n→X j<B64) (hY:∀ j,j<n→Y j<B64) (hM:∀ j,j<n→M j<B64) (hk:(M 0*k+1)%B64=0) {g1 g2:Nat→Nat} {c2 c3:Nat}
    (e1:g1=amW (fun j=>f (i+j)) X (Y i)) (e2:c2=amC (fun j=>f (i+j)) X (Y i) n) (e3:g2=amW g1 M (g1 0*k%B64)) (e4:c3=amC g1 M (g1 0*k%B64) n) :
    MgW n X Y M (put (lay f i n g2) (i+n) ((cy+c2+c3)%B64)) (i+1) ((cy+c2+c3)/B64):=by
  have h1:=am_val (fun j=>f (i+j)) X (Y i) n
  rw [← e1,← e2] at h1
  have h2:=am_val g1 M (g1 0*k%B64) n
  rw [← e3,← e4] at h2
  have h0:g2 0=0:=by
    have:=mg_low (z:=g1 0) hk
    rw [e3]
    show (M 0*(g1 0*k%B64)+g1 0+0)%B64=0
    rw [Nat.add_zero,Nat.add_comm]
    exact this
  have hw:=mg_win f X M i n (Y i) (g1 0*k%B64) cy c2 c3 hn g1 g2 h1 h2 h0
  have hlt:=mg_bound B64_pos h.lt (hY i hi) (Nat.mod_lt (g1 0*k) B64_pos) hw
  obtain ⟨T,hT,hTl⟩:=h.eq
  have hr:=mg_round hT hw
  have hvX:val X n<B64^n:=val_lt hX
  have hvM:val M n<B64^n:=val_lt hM
  refine ⟨?_,hlt,T+(g1 0*k%B64)*B64^i,?_,?_⟩
  · refine Classical.byContradiction fun hne => ?_
    have:2*B64^n≤(cy+c2+c3)/B64*B64^n:=Nat.mul_le_mul_right _ (by omega)
    omega
  · rw [Nat.pow_succ]
    show _=val X n*(val Y i+Y i*B64^i)+_
    exact hr
  · have:=Nat.mul_le_mul_right (B64^i) (show g1 0*k%B64+1≤B64 from Nat.mod_lt _ B64_pos)
    rw [Nat.add_mul,Nat.one_mul] at this
    rw [Nat.pow_succ,Nat.mul_comm (B64^i)]
    omega
theorem mg_carry {cy c2 c3:Nat} (h1:cy≤1) (h2:c2<B64) (h3:c3<B64) :
    (cy+c2+c3)%B64=((cy+c2)%B64+c3)%B64∧(cy+c2+c3)/B64=if (cy+c2)%B64<c2∨((cy+c2)%B64+c3)%B64<c3 then 1 else 0:=by
  rw [B64_eq] at *
  refine ⟨by omega,?_⟩
  split <;> omega
def MgSt (w:World) (b c n:Nat) (X Y M:Nat→Nat) (i cy:Nat) (wr:World):Prop :=
  ∃ f,Arr wr (some ⟨b,0,none⟩) c f∧MgW n X Y M f i cy∧Mod (InB b) w wr
def MgMid (w:World) (b c n:Nat) (X Y M:Nat→Nat) (i cy c2 z0:Nat) (wr:World):Prop :=
  ∃ f,Arr wr (some ⟨b,0,none⟩) c (lay f i n (amW (fun j=>f (i+j)) X (Y i)))∧MgW n X Y M f i cy∧Mod (InB b) w wr∧c2=amC (fun j=>f (i+j)) X (Y i) n∧z0=amW (fun j=>f (i+j)) X (Y i) 0∧(∀ j,j<c→f j<B64)
theorem mg_row1 {w wr w2:World} {b c n i cy bx cx:Nat} {X Y M:Nat→Nat} (hX:Vec w bx 0 n X) (hY:∀ j,j<n→Y j<B64) (hxb:bx≠b) (hc:2*n≤c) (hn0:0<n) (hn:n≤100000) (hi:i<n) (hst:MgSt w b c n X Y M i cy wr) (m2:Mod NoP wr w2) :
    Calls Tryz.prog 178 #[.slice (some ⟨b,i,none⟩) n (c - i),.slice (some ⟨b,i,none⟩) n (c - i),.slice (some ⟨bx,0,none⟩) n cx,U (Y i),U 0] w2
      fun e w3=>∃ c2 z0,e=.returned (U c2)∧c2<B64∧z0<B64∧w3.cell? ⟨b,i,none⟩=some (U z0)∧Hid (MgMid w b c n X Y M i cy c2 z0 w3):=by
  obtain ⟨f,hA,hw,hm⟩:=hst
  have hA2:=hA.mod m2 (Off.noP _)
  have hm2:Mod (InB b) w w2:=hm.trans m2.of_none
  have hG:Vec w2 b i n (fun j=>f (i+j)):=fun j hj=>by have:=hA2.vec (i+j) (by omega);rwa [Nat.zero_add] at this
  have hXX:Vec w2 bx 0 n X:=hX.mod hm2 fun j _ h=>hxb h
  refine (addMulVVWW_any b i (c - i) b i (c - i) bx 0 cx n (Y i) _ X _ w2 hG hXX hG (by omega) (hY i hi) (fun _=>.inl (Nat.le_refl _)) (fun h=>absurd h hxb)).mono ?_
  rintro e w3 ⟨rfl,hV3,m3⟩
  have hA3:=hA2.wroteAt hV3 m3
  have hc0:=(hV3 0 hn0).1
  rw [Nat.add_zero] at hc0
  refine ⟨_,_,rfl,amC_lt (fun j hj=>(hG j hj).2.2) (fun j hj=>(hXX j hj).2.2) (hY i hi) n (Nat.le_refl _),amW_lt _ _ _ _,hc0,f,hA3,hw,hm2.trans (m3.mono fun _ _ _ h=>h.1),rfl,rfl,hA.words⟩
theorem mg_row2 {w wr w4:World} {b c n i cy bm cm c2 z0 k t:Nat} {X Y M:Nat→Nat} (hX:∀ j,j<n→X j<B64) (hY:∀ j,j<n→Y j<B64) (hM:Vec w bm 0 n M) (hmb:bm≠b) (hc:2*n≤c) (hn0:0<n) (hn:n≤100000) (hi:i<n) (hk:(M 0*k+1)%B64=0)
    (ht:t=z0*k%B64) (hst:MgMid w b c n X Y M i cy c2 z0 wr) (m4:Mod NoP wr w4) :
    Calls Tryz.prog 178 #[.slice (some ⟨b,i,none⟩) n (c - i),.slice (some ⟨b,i,none⟩) n (c - i),.slice (some ⟨bm,0,none⟩) n cm,U t,U 0] w4
      fun e w5=>∃ c3,e=.returned (U c3)∧c3<B64∧(∃ v,w5.cell? ⟨b,n+i,none⟩=some v)∧w5.frozen? ⟨b,n+i,none⟩=false∧Hid (MgSt w b c n X Y M (i+1) ((cy+c2+c3)/B64) (w5.setCell ⟨b,n+i,none⟩ (U ((cy+c2+c3)%B64)))):=by
  obtain ⟨f,hA,hw,hm,e2,e0,hf⟩:=hst
  have hA4:=hA.mod m4 (Off.noP _)
  have hm4:Mod (InB b) w w4:=hm.trans m4.of_none
  have hG:Vec w4 b i n (amW (fun j=>f (i+j)) X (Y i)):=fun j hj=>by
    have:=hA4.vec (i+j) (by omega)
    rw [Nat.zero_add] at this
    unfold lay at this
    rw [if_pos (by omega),Nat.add_sub_cancel_left] at this
    exact this
  have hMM:Vec w4 bm 0 n M:=hM.mod hm4 fun j _ h=>hmb h
  have htB:t<B64:=by rw [ht];exact Nat.mod_lt _ B64_pos
  refine (addMulVVWW_any b i (c - i) b i (c - i) bm 0 cm n t _ M _ w4 hG hMM hG (by omega) htB (fun _=>.inl (Nat.le_refl _)) (fun h=>absurd h hmb)).mono ?_
  rintro e w5 ⟨rfl,hV5,m5⟩
  have hA5:=hA4.wroteAt hV5 m5
  have hcell:=hA5.vec (i+n) (by omega)
  rw [Nat.zero_add] at hcell
  have hst:=hA5.store (i:=i+n) (x:=(cy+c2+amC (amW (fun j=>f (i+j)) X (Y i)) M t n)%B64) (Nat.mod_lt _ B64_pos)
  have hW:=hw.step hn0 hi hX hY (fun j hj=>(hM j hj).2.2) hk (g1:=amW (fun j=>f (i+j)) X (Y i)) (g2:=amW (amW (fun j=>f (i+j)) X (Y i)) M t) (c2:=c2) (c3:=amC (amW (fun j=>f (i+j)) X (Y i)) M t n) rfl e2 (by rw [ht,e0]) (by rw [ht,e0])
  rw [Nat.add_comm n i]
  refine ⟨_,rfl,amC_lt (fun j hj=>(hG j hj).2.2) (fun j hj=>(hMM j hj).2.2) htB n (Nat.le_refl _),⟨_,hcell.1⟩,hcell.2.1,_,hst.congr fun j hj => ?_,hW,(hm4.trans (m5.mono fun _ _ _ h=>h.1)).setCell (fun _=>rfl) _⟩
  unfold put lay
  split
  · rfl
  · split
    · rfl
    · rfl
def MontRet (w:World) (az:Option Addr) (n vx vy vm:Nat) (e:Ending) (w':World):Prop :=
  ∃ b c f,e=.returned (.slice (some ⟨b,0,none⟩) n c)∧Arr w' (some ⟨b,0,none⟩) c f∧n≤c∧(∃ T q,(val f n+q*vm)*B64^n=vx*vy+T*vm∧T<B64^n)∧Mod (BlkOf az) w w'∧(some ⟨b,0,none⟩=az∨Fresh w (some ⟨b,0,none⟩))
theorem mg_end0 {n:Nat} {X Y M f:Nat→Nat} (h:MgW n X Y M f n 0):∃ T q,(val (fun j=>f (n+j)) n+q*val M n)*B64^n=val X n*val Y n+T*val M n∧T<B64^n:=by
  obtain ⟨T,h1,h2⟩:=h.eq
  exact ⟨T,0,by rw [Nat.zero_mul] at h1 ⊢;exact h1,h2⟩
theorem mg_end1 {n:Nat} {X Y M f:Nat→Nat} (hX:∀ j,j<n→X j<B64) (hM:∀ j,j<n→M j<B64) (hf:∀ j,j<n→f (n+j)<B64) (h:MgW n X Y M f n 1) :
    ∃ T q,(val (subW (fun j=>f (n+j)) M) n+q*val M n)*B64^n=val X n*val Y n+T*val M n∧T<B64^n:=by
  obtain ⟨T,h1,h2⟩:=h.eq
  have hs:=sub_val (fun j=>f (n+j)) M n hf hM
  have hlt:=h.lt
  have hX2:val X n<B64^n:=val_lt hX
  have hM2:val M n<B64^n:=val_lt hM
  have hle:=subC_le (fun j=>f (n+j)) M n
  have hd:val (subW (fun j=>f (n+j)) M) n<B64^n:=val_lt fun j hj=>wSub_lt _ _ _
  have hc:subC (fun j=>f (n+j)) M n=1:=by
    refine Classical.byContradiction fun hne => ?_
    have h0:subC (fun j=>f (n+j)) M n=0:=by omega
    rw [h0] at hs
    omega
  rw [hc,Nat.one_mul] at hs
  exact ⟨T,1,by rw [Nat.one_mul] at h1 ⊢;rw [show val (subW (fun j=>f (n+j)) M) n+val M n=val (fun j=>f (n+j)) n+B64^n by omega];exact h1,h2⟩
end
section
open Go Go.RowKit
set_option maxRecDepth 100000 in
set_option maxHeartbeats 8000000 in
theorem mont_any (az:Option Addr) (nz cz bx cx by_ cy bm cm n k:Nat) (fz X Y M:Nat→Nat) (w:World) (hZ:Arr w az cz fz) (hnz:nz≤cz) (hX:Vec w bx 0 n X) (hY:Vec w by_ 0 n Y) (hM:Vec w bm 0 n M) (hn0:0<n) (hn:n≤1000)
    (hcx:n≤cx) (hcy:n≤cy) (hcm:n≤cm) (hk:k<B64) (hkm:(M 0*k+1)%B64=0) (hvm:0<val M n) (zx:∀ A,az=some A→A.block≠bx∧A.block≠by_∧A.block≠bm) :
    Calls Tryz.prog 184 #[.slice az nz cz,.slice (some ⟨bx,0,none⟩) n cx,.slice (some ⟨by_,0,none⟩) n cy,.slice (some ⟨bm,0,none⟩) n cm,U k,.int .i64 (n:Int)] w (MontRet w az n (val X n) (val Y n) (val M n)):=by
  have HMK:=Lib.hid (make_any az nz cz (n*2) w fz hZ hnz (by omega))
  have e2:((n*2:Nat):Int)=(n:Int)*2:=by omega
  rw [e2] at HMK
  have hXw:∀ j,j<n→X j<B64:=fun j hj=>(hX j hj).2.2
  have hYw:∀ j,j<n→Y j<B64:=fun j hj=>(hY j hj).2.2
  have hMw:∀ j,j<n→M j<B64:=fun j hj=>(hM j hj).2.2
  have HX:=Lib.hid hX
  have HY:=Lib.hid hY
  have HM:=Lib.hid hM
  have HXW:=Lib.hid hXw
  have HYW:=Lib.hid hYw
  have HMW:=Lib.hid hMw
  have HKM:=Lib.hid hkm
  have HZX:=Lib.hid zx
  have hbl:bx<w.heap.size∧by_<w.heap.size∧bm<w.heap.size:=⟨lt_of_cell? (hX 0 hn0).1,lt_of_cell? (hY 0 hn0).1,lt_of_cell? (hM 0 hn0).1⟩
  have HBL:=Lib.hid hbl
  clear e2 hZ hX hY hM hXw hYw hMw hkm zx hbl
  go_enter Tryz.func184,Tryz.ntmps184
  go_wp2_with fail
  refine HMK.out.mono ?_
  rintro e w1 ⟨a',c,f1,rfl,hA1,hc,m1,hfr⟩
  obtain ⟨b,rfl⟩:=hA1.form (by omega)
  have hb:b≠bx∧b≠by_∧b≠bm:=by
    rcases hfr with h | ⟨q,h,hq⟩
    · exact HZX.out _ h.symm
    · obtain rfl:b=q:=congrArg Addr.block (Option.some.inj h)
      have:=HBL.out
      exact ⟨by omega,by omega,by omega⟩
  obtain ⟨w2,hcl,hV2,m2⟩:=clearV_run w1 0 b 0 (n*2) c c f1 hA1 (by omega) (by omega)
  have hA2:=hA1.wroteAt hV2 m2
  have m12:Mod (InB b) w1 w2:=m2.mono fun _ _ _ h=>h.1
  have X2:Vec w2 bx 0 n X:=(HX.out.mod m1 fun _ _ h=>h).mod m12 fun _ _ h=>hb.1 h.symm
  have Y2:Vec w2 by_ 0 n Y:=(HY.out.mod m1 fun _ _ h=>h).mod m12 fun _ _ h=>hb.2.1 h.symm
  have M2:Vec w2 bm 0 n M:=(HM.out.mod m1 fun _ _ h=>h).mod m12 fun _ _ h=>hb.2.2 h.symm
  have hst0:MgSt w2 b c n X Y M 0 0 w2:=⟨_,hA2,MgW.start (fun j hj=>by unfold lay;rw [if_pos (by omega)]) hvm,.refl _ _⟩
  have m02:Mod (fun q o=>BlkOf az q o) w w2:=(m1.of_none (M:=fun q o=>BlkOf az q o)).trans' m12 fun q o hq hh=>by
    rcases hfr with h | ⟨q2,h,hq2⟩
    · exact ⟨_,h.symm,hh.symm⟩
    · have h9:b=q2:=congrArg Addr.block (Option.some.inj h)
      unfold InB at hh;omega
  have HB:=Lib.hid hb
  have HS0:=Lib.hid hst0
  have HX2:=Lib.hid X2
  have HY2:=Lib.hid Y2
  have HM2:=Lib.hid M2
  have HM02:=Lib.hid m02
  have HFR:=Lib.hid hfr
  have hc2:2*n≤c:=by omega
  clear hb hst0 X2 Y2 M2 m02 hfr hV2 m2 hA2 m12 m1 hA1 HX HY HM HMK
  go_wp2_with (simp only [hcl])
  clear hcl
  go_loopw [13,14] (fun cc i wr=>∃ q cy:Nat,q≤n∧i=.int .i64 (q:Int)∧cc=U cy∧Hid (MgSt w2 b c n X Y M q cy wr)) (fun _ i _=>n - (intOf i).toNat)
  case atStart=>exact ⟨0,0,Nat.zero_le _,rfl,rfl,HS0.out⟩
  case round =>
    obtain ⟨i,cy,hi,rfl,rfl,hst⟩:=hrel
    have HCY:=Lib.hid (hst.out.elim fun f h=>h.2.1.c1:cy≤1)
    by_cases hlt:i<n
    · have hd:decide ((i:Int)<(n:Int))=true:=decide_eq_true (by omega)
      have hcy:=(HY2.out.mod (hst.out.elim fun f h=>h.2.2) (fun _ _ h=>HB.out.2.1 h.symm) i hlt).1
      rw [Nat.zero_add] at hcy
      have HR1:=Lib.hid (fun w3 (m:Mod NoP wr w3)=>mg_row1 (w:=w2) (cx:=cx) HX2.out HYW.out (fun e=>HB.out.1 e.symm) hc2 hn0 (by omega) hlt hst.out m)
      have HR2:=Lib.hid (fun c2 z0 t w3 w4 (ht:t=z0*k%B64) (hmid:MgMid w2 b c n X Y M i cy c2 z0 w3) (m:Mod NoP w3 w4)=>mg_row2 (w:=w2) (cm:=cm) HXW.out HYW.out HM2.out (fun e=>HB.out.2.2 e.symm) hc2 hn0 (by omega) hlt HKM.out ht hmid m)
      have hsl:=slice_mid 49 b 0 (n*2) c i (n+i) (by omega) (by omega) (by omega) (.inr rfl) (i:Int) ((n:Int)+(i:Int)) rfl (by omega)
      rw [Nat.zero_add,Nat.add_sub_cancel] at hsl
      have k1:IntKind.i64.wrap ((n:Int)+(i:Int))=(n:Int)+(i:Int):=by rw [IntKind.wrap_i64];omega
      have k3:(0:Int)≤(n:Int)+(i:Int):=by omega
      have k4:(n:Int)+(i:Int)<(n:Int)*2:=by omega
      have k5:((n:Int)+(i:Int)).toNat=n+i:=by omega
      have k6:(i:Int)<(n:Int)*2:=by omega
      clear hst
      generalize Y i=d at *
      go_wp2_with fail
      go_still_tail 14,(by kernel_rfl)
      simp only [World.drew_eq]
      go_wp2_with fail
      refine (HR1.out _ (Mod.refl NoP wr).drew).mono ?_
      rintro e w3 ⟨c2,z0,rfl,hc2l,hz0l,hz0,hmid⟩
      obtain ⟨t,ht⟩:∃ t,t=z0*k%B64:=⟨_,rfl⟩
      have HR3:=Lib.hid (fun w4 (m:Mod NoP w3 w4)=>HR2.out c2 z0 t w3 w4 ht hmid.out m)
      have hmul:IntKind.u64.wrap ((z0:Int)*(k:Int))=(t:Int):=by rw [wrap_mul,ht];rfl
      clear ht hmid HR1 HR2
      go_wp2_with fail
      go_still_tail 14,(by kernel_rfl)
      simp only [World.drew_eq]
      go_wp2_with fail
      refine (HR3.out _ (Mod.refl NoP w3).drew).mono ?_
      rintro e w5 ⟨c3,rfl,hc3l,⟨v5,hc5⟩,hf5,hst5⟩
      have hcar:=mg_carry HCY.out hc2l hc3l
      obtain ⟨cx',hcx'⟩:∃ q,q=(cy+c2)%B64:=⟨_,rfl⟩
      obtain ⟨cz',hcz'⟩:∃ q,q=(cx'+c3)%B64:=⟨_,rfl⟩
      rw [← hcx',← hcz'] at hcar
      rw [hcar.1,hcar.2] at hst5
      have a1:IntKind.u64.wrap ((cy:Int)+(c2:Int))=(cx':Int):=by rw [hcx',IntKind.wrap_u64,B64_eq];omega
      have a2:IntKind.u64.wrap ((cx':Int)+(c3:Int))=(cz':Int):=by rw [hcz',IntKind.wrap_u64,B64_eq];omega
      clear hmul hcar hcx' hcz' HR3 hz0 hcy
      by_cases g1:cx'<c2
      · have b1:decide ((cx':Int)<(c2:Int))=true:=decide_eq_true (by omega)
        have b2:(cx':Int)<(c2:Int):=by omega
        rw [if_pos (.inl g1)] at hst5
        go_wp2_with fail
        go_roundw
        case rel=>exact ⟨i+1,1,by omega,by go_num,rfl,hst5.out⟩
        case measure=>simp [intOf];omega
      · have b1:decide ((cx':Int)<(c2:Int))=false:=decide_eq_false (by omega)
        have b2:¬ (cx':Int)<(c2:Int):=by omega
        by_cases g2:cz'<c3
        · have b3:decide ((cz':Int)<(c3:Int))=true:=decide_eq_true (by omega)
          have b4:(cz':Int)<(c3:Int):=by omega
          rw [if_pos (.inr g2)] at hst5
          go_wp2_with fail
          go_roundw
          case rel=>exact ⟨i+1,1,by omega,by go_num,rfl,hst5.out⟩
          case measure=>simp [intOf];omega
        · have b3:decide ((cz':Int)<(c3:Int))=false:=decide_eq_false (by omega)
          have b4:¬ (cz':Int)<(c3:Int):=by omega
          rw [if_neg (by omega)] at hst5
          go_wp2_with fail
          go_roundw
          case rel=>exact ⟨i+1,0,by omega,by go_num,rfl,hst5.out⟩
          case measure=>simp [intOf];omega
    · obtain rfl:i=n:=by omega
      have hd:decide ((i:Int)<(i:Int))=false:=decide_eq_false (by omega)
      obtain ⟨f,hA,hW,hm⟩:=hst.out
      have hmz:Mod (BlkOf az) w wr:=HM02.out.trans' hm fun q o hq hh=>by
        rcases HFR.out with h | ⟨q2,h,hq2⟩
        · exact ⟨_,h.symm,hh.symm⟩
        · have h9:b=q2:=congrArg Addr.block (Option.some.inj h)
          unfold InB at hh;omega
      have hfr':=HFR.out
      have hsl1:=fun w=>slice_to b 0 (i*2) c i (by omega) w
      obtain ⟨o',hsl2,ho',_⟩:=slice_from 49 b 0 (i*2) c i (by omega) (by omega) (.inr rfl) (i:Int) rfl
      have ho2:=ho' (by omega)
      rw [Nat.zero_add] at ho2
      rw [ho2] at hsl2
      clear ho2
      rw [show i*2 - i=i by omega] at hsl2
      have hfl:=hA.words
      have hW1:Vec wr b i i (fun j=>f (i+j)):=fun j hj=>by have:=hA.vec (i+j) (by omega);rwa [Nat.zero_add] at this
      have hW0:Vec wr b 0 i f:=(hA.vec).take (by omega)
      have hcy1:=HCY.out
      have HM2':=Lib.hid (HM2.out.mod hm (fun _ _ h=>HB.out.2.2 h.symm))
      have HMZ:=Lib.hid hmz
      have HFR':=Lib.hid hfr'
      have HA:=Lib.hid hA
      clear ho' hst hm hmz hfr' HFR HM02
      by_cases hcz:cy=0
      · subst hcz
        have HEND:=Lib.hid (mg_end0 hW)
        obtain ⟨w3,hcp,hV3,m3⟩:=copyV_run wr.drew 49 3 Tryz.underlying49 49 b 0 i c c f (hA.drewN 1) (by omega) b i (c - i) (fun j=>f (i+j)) hW1
        have HR:=Lib.hid (show MontRet w az i (val X i) (val Y i) (val M i) (.returned (.slice (some ⟨b,0,none⟩) i c)) w3 from
          ⟨b,c,_,rfl,(hA.drewN 1).wroteAt hV3 m3,by omega,by
            have e:val (lay f 0 i fun j=>f (i+j)) i=val (fun j=>f (i+j)) i:=val_congr fun j hj=>by unfold lay;rw [if_pos (by omega),Nat.sub_zero]
            rw [e];exact HEND.out,(HMZ.out.drewN 1).trans' m3 (fun q o hq hh=>by
              rcases HFR'.out with h | ⟨q2,h,hq2⟩
              · exact ⟨_,h.symm,hh.1.symm⟩
              · have h9:b=q2:=congrArg Addr.block (Option.some.inj h)
                have:=hh.1;omega),HFR'.out⟩)
        clear hV3 m3 hW hW1 hW0 HEND hA hfl
        go_wp2_with fail
        go_still_tail 6,(by kernel_rfl)
        simp only [World.drew_eq]
        go_wp2_with (refine wpList_copy rfl (.tmp 120) (.tmp 123) 49 49 rfl _ _ rfl rfl hcp ?_;go_simp)
        go_ret
        exact HR.out
      · obtain rfl:cy=1:=by omega
        have HEND:=Lib.hid (mg_end1 HXW.out HMW.out (fun j hj=>hfl (i+j) (by omega)) hW)
        have hb0:(((1:Nat):Int) != 0)=true:=rfl
        have HSB:=Lib.hid (fun w' (m:Mod NoP wr w')=>subVV_any b 0 c b i (c - i) bm 0 cm i (fun j=>f (i+j)) M f w' (hW1.mod m fun _ _ h=>h) (HM2'.out.mod m fun _ _ h=>h) (hW0.mod m fun _ _ h=>h) (by omega) (fun _=>.inl (Nat.zero_le _)) (fun h=>absurd h.symm HB.out.2.2))
        clear hW hW1 hW0 hA hfl
        go_wp2_with fail
        go_still_tail 7,(by kernel_rfl)
        simp only [World.drew_eq]
        go_wp2_with fail
        refine (HSB.out _ (Mod.refl NoP wr).drew).mono ?_
        rintro e w3 ⟨rfl,hV3,m3⟩
        have HR:=Lib.hid (show MontRet w az i (val X i) (val Y i) (val M i) (.returned (.slice (some ⟨b,0,none⟩) i c)) w3 from
          ⟨b,c,_,rfl,(HA.out.drewN 1).wroteAt hV3 m3,by omega,by
            have e:val (lay f 0 i (subW (fun j=>f (i+j)) M)) i=val (subW (fun j=>f (i+j)) M) i:=val_congr fun j hj=>by unfold lay;rw [if_pos (by omega),Nat.sub_zero]
            rw [e];exact HEND.out,(HMZ.out.drewN 1).trans' m3 (fun q o hq hh=>by
              rcases HFR'.out with h | ⟨q2,h,hq2⟩
              · exact ⟨_,h.symm,hh.1.symm⟩
              · have h9:b=q2:=congrArg Addr.block (Option.some.inj h)
                have:=hh.1;omega),HFR'.out⟩)
        clear hV3 m3 HEND HSB
        go_wp2_with fail
        go_ret
        exact HR.out
end
section
open Go Go.RowKit
theorem ptr_eql {w:World} {bz oz bx ox:Nat} {C D:Array Value} {t u:TypeId} (hz:w.heap[bz]? = some (.cells C t (0,0))) (hx:w.heap[bx]? = some (.cells D u (0,0))) (al:bz=bx→oz=ox) :
    (binOp .eql 187 (.pointer (some ⟨bz,oz,none⟩)) (.pointer (some ⟨bx,ox,none⟩))).run Tryz.prog w=.ok (.bool (decide (bz=bx))) w:=by
  obtain ⟨j,hj,hs⟩:=info121''
  by_cases he:bz=bx
  · subst he
    obtain rfl:=al rfl
    rw [run_eql_ptr_same w _ Tryz.underlying187 hj]
    simp
  · have h:∀ d:Nat,(Op.equalIn (d+1) 187 (.pointer (some ⟨bz,oz,none⟩)) (.pointer (some ⟨bx,ox,none⟩))).run Tryz.prog w=.ok false w:=fun d=>by
      simp [Op.equalIn,run_underlying Tryz.underlying187,sizeOf,typeInfo,hj,hs,run_sameAddr_other w (a:=⟨bz,oz,none⟩) (b:=⟨bx,ox,none⟩) (fun h=>he (congrArg Addr.block h)) hz hx]
    simp only [binOp]
    simp [Op.equal,Op.maxDepth,h 9999,he]
set_option maxRecDepth 100000 in
set_option maxHeartbeats 2000000 in
theorem alias_any (a b:Option Addr) (n c m d:Nat) (f g:Nat→Nat) (w:World) (hX:Arr w a c f) (hY:Arr w b d g) (hn:n≤c) (hm:m≤d) :
    Calls Tryz.prog 114 #[.slice a n c,.slice b m d] w fun e w'=>e=.returned (.bool (decide (a=b∧0<c)))∧∃ q,w'=w.drewN q:=by
  by_cases h0:c=0
  · subst h0
    rw [decide_eq_false (show ¬ (a=b∧0<0) by omega)]
    clear hX hY
    go_enter Tryz.func114,Tryz.ntmps114
    go_wp2_with fail
    go_quiet (fail)
    go_wp2_with fail
    go_ret
    exact ⟨rfl,_,rfl⟩
  by_cases h1:d=0
  · subst h1
    have hne:¬ (a=b∧0<c):=by
      rintro ⟨rfl,_⟩
      obtain ⟨bb,rfl⟩:=hX.form (by omega)
      rcases hY with ⟨h,_⟩ | ⟨b',C,t,e,hb,hs,hc⟩
      · cases h
      · obtain rfl:bb=b':=by simpa using e
        rcases hX with ⟨h,_⟩ | ⟨b'',C',t',e',hb',hs',hc'⟩
        · cases h
        · obtain rfl:bb=b'':=by simpa using e'
          rw [hb] at hb'
          obtain ⟨rfl,_⟩:C=C'∧t=t':=by simpa using hb'
          omega
    rw [decide_eq_false hne]
    have hc0:(0:Int)<(c:Int):=by omega
    have hc1:decide ((c:Int) > 0)=true:=decide_eq_true hc0
    have hc2:decide ((0:Int)<(c:Int))=true:=decide_eq_true hc0
    have hc3:0<c:=by omega
    clear hX hY hne
    go_enter Tryz.func114,Tryz.ntmps114
    go_wp2_with fail
    go_quiet (fail)
    go_wp2_with fail
    go_ret
    exact ⟨rfl,_,rfl⟩
  have hc:=hX.cap
  have hd:=hY.cap
  rcases hX with ⟨_,h⟩ | ⟨bx,C,t,rfl,hb,hs,hcx⟩
  · exact absurd h h0
  rcases hY with ⟨_,h⟩ | ⟨by_,D,u,rfl,hb2,hs2,hcy⟩
  · exact absurd h h1
  have hp:=fun w1 (h:w1.heap=w.heap)=>ptr_eql (w:=w1) (oz:=c - 1) (ox:=d - 1) (by rw [h];exact hb) (by rw [h];exact hb2) (fun h=>by
    subst h
    rw [hb] at hb2
    obtain ⟨rfl,_⟩:C=D∧t=u:=by simpa using hb2
    omega)
  have hdec:decide ((some (⟨bx,0,none⟩:Addr))=some ⟨by_,0,none⟩∧0<c)=decide (bx=by_):=by
    by_cases h:bx=by_
    · subst h
      rw [decide_eq_true rfl,decide_eq_true ⟨rfl,by omega⟩]
    · rw [decide_eq_false h,decide_eq_false (fun hh=>h (by simpa using hh.1))]
  rw [hdec]
  have hpp:=hp w rfl
  have hpq:=fun q=>hp (w.drewN q) rfl
  have hpr:=hp w.drew rfl
  have k1:(0:Int)<(c:Int):=by omega
  have hc1:decide ((c:Int) > 0)=true:=decide_eq_true k1
  have hc2:decide ((d:Int) > 0)=true:=decide_eq_true (by omega)
  have hc3:0<c:=by omega
  have hc4:0<d:=by omega
  have k2:(0:Int)<(d:Int):=by omega
  have k3:IntKind.i64.wrap ((c:Int) - 1)=(c:Int) - 1:=by rw [IntKind.wrap_i64];omega
  have k4:IntKind.i64.wrap ((d:Int) - 1)=(d:Int) - 1:=by rw [IntKind.wrap_i64];omega
  have k5:(0:Int)≤(c:Int) - 1:=by omega
  have k6:(0:Int)≤(d:Int) - 1:=by omega
  have k7:(c:Int) - 1<(c:Int):=by omega
  have k8:(d:Int) - 1<(d:Int):=by omega
  have k9:((c:Int) - 1).toNat=c - 1:=by omega
  have k10:((d:Int) - 1).toNat=d - 1:=by omega
  have s1:=slice_mid 49 bx 0 n c 0 c (by omega) (by omega) (Nat.le_refl _) (.inr rfl) 0 (c:Int) rfl rfl
  have s2:=slice_mid 49 by_ 0 m d 0 d (by omega) (by omega) (Nat.le_refl _) (.inr rfl) 0 (d:Int) rfl rfl
  simp only [Nat.add_zero,Nat.sub_zero] at s1 s2
  clear hp hdec hb hb2 hcx hcy hs hs2 hc hd
  go_enter Tryz.func114,Tryz.ntmps114
  go_wp2_with fail
  go_quiet (fail)
  go_wp2_with fail
  go_ret
  exact ⟨rfl,_,rfl⟩
end
section
open Go Go.RowKit
set_option maxRecDepth 100000 in
set_option maxHeartbeats 2000000 in
theorem natLsh_words (bx nx cx vx s t:Nat) (fx:Nat→Nat) (w:World) (hX:NatIs w (some ⟨bx,0,none⟩) nx cx fx vx) (hn0:0<nx) (hn:nx≤100) (hs:s=64*t) (ht0:0<t) (ht:t≤100) :
    Calls Tryz.prog 183 #[.slice none 0 0,.slice (some ⟨bx,0,none⟩) nx cx,U s] w (NatRet w none (vx*B64^t)):=by
  have HMK:=Lib.hid (make_any none 0 0 (nx+t+1) w (fun _=>0) (.nil _ _) (Nat.le_refl _) (by omega))
  have e2:((nx+t+1:Nat):Int)=(nx:Int)+(t:Int)+1:=by omega
  rw [e2] at HMK
  have b0:((s:Int) == 0)=false:=by simp;omega
  have b1:((nx:Int) == 0)=false:=by simp;omega
  have hdiv:(s:Int)/64=(t:Int):=by omega
  have hmod:(s:Int)%64=0:=by omega
  have k1:IntKind.i64.wrap (t:Int)=(t:Int):=by rw [IntKind.wrap_i64];omega
  have k2:IntKind.i64.wrap ((nx:Int)+(t:Int) - (nx:Int))=(t:Int):=by rw [IntKind.wrap_i64];omega
  have k3:(nx:Int)+(t:Int) - (nx:Int)=(t:Int):=by omega
  have k4:(0:Int)≤(nx:Int)+(t:Int):=by omega
  have k5:(nx:Int)+(t:Int)<(nx:Int)+(t:Int)+1:=by omega
  have k6:((nx:Int)+(t:Int)).toNat=nx+t:=by omega
  have HX:=Lib.hid hX
  have hb:bx<w.heap.size:=hX.arr.lt
  clear e2 hX hs
  go_enter Tryz.func183,Tryz.ntmps183
  go_wp2_with fail
  refine HMK.out.mono ?_
  rintro e w1 ⟨a',c,f1,rfl,hA1,hc,m1,hfr⟩
  obtain ⟨b,rfl⟩:=hA1.form (by omega)
  have hfr':Fresh w (some ⟨b,0,none⟩):=hfr.resolve_left (by intro h;cases h)
  have hbb:w.heap.size≤b:=by
    obtain ⟨q,h,hq⟩:=hfr'
    have h9:b=q:=congrArg Addr.block (Option.some.inj h)
    omega
  have hXv:Vec w1 bx 0 nx fx:=((HX.out.arr.vec).take HX.out.le).mod m1 fun _ _ h=>h
  obtain ⟨w2,hcp,hV2,m2⟩:=copyV_run w1 49 3 Tryz.underlying49 49 b t nx (c - t) c f1 hA1 (by omega) bx 0 cx fx hXv
  have hA2:=hA1.wroteAt hV2 m2
  have hc2:=hA2.vec (nx+t) (by omega)
  rw [Nat.zero_add] at hc2
  have hA3:Arr (w2.setCell ⟨b,nx+t,none⟩ (Value.int .u64 0)) (some ⟨b,0,none⟩) c (put (lay f1 t nx fx) (nx+t) 0):=hA2.store (i:=nx+t) (x:=0) B64_pos
  obtain ⟨w4,hcl,hV4,m4⟩:=clearV_run (w2.setCell ⟨b,nx+t,none⟩ (Value.int .u64 0)) 0 b 0 t c c _ hA3 (by omega) ht0
  have hA4:=hA3.wroteAt hV4 m4
  have hval:val (lay (put (lay f1 t nx fx) (nx+t) 0) 0 t (fun _=>0)) (nx+t+1)=vx*B64^t:=by
    show val _ (nx+t)+lay _ 0 t _ (nx+t)*_=_
    have e0:lay (put (lay f1 t nx fx) (nx+t) 0) 0 t (fun _=>0) (nx+t)=0:=by
      unfold lay
      rw [if_neg (by omega),put_same]
    rw [e0,Nat.zero_mul,Nat.add_zero,Nat.add_comm nx t,val_add]
    have e1:val (lay (put (lay f1 t nx fx) (t+nx) 0) 0 t (fun _=>0)) t=0:=val_zero fun j hj=>by unfold lay;rw [if_pos (by omega)]
    have e3:val (fun j=>lay (put (lay f1 t nx fx) (t+nx) 0) 0 t (fun _=>0) (t+j)) nx=vx:=by
      rw [← HX.out.val]
      refine val_congr fun j hj => ?_
      show lay _ 0 t _ (t+j)=fx j
      rw [show lay (put (lay f1 t nx fx) (t+nx) 0) 0 t (fun _=>0) (t+j)=put (lay f1 t nx fx) (t+nx) 0 (t+j) by unfold lay;rw [if_neg (by omega)],put_other _ _ (by omega)]
      unfold lay
      rw [if_pos (by omega),Nat.add_sub_cancel_left]
    rw [e1,e3,Nat.zero_add,Nat.mul_comm]
  have m04:Mod NoP w w4:=((m1.trans' m2 fun q o hq hh=>by have:=hh.1;omega).setCell (fun hq=>by omega) _).trans' m4 fun q o hq hh=>by have:=hh.1;omega
  have HN:=Lib.hid (norm_any (some ⟨b,0,none⟩) (nx+t+1) c w4 _ hA4 (by omega) (by omega))
  have HVL:=Lib.hid hval
  have h2c:=hc2.1
  have h2f:=hc2.2.1
  have hsl:=slice_mid 49 b 0 (nx+t+1) c t (nx+t) (by omega) (by omega) (by omega) (.inr rfl) (t:Int) ((nx:Int)+(t:Int)) rfl (by omega)
  rw [Nat.zero_add,Nat.add_sub_cancel] at hsl
  have hsl2:=slice_mid 49 b 0 (nx+t+1) c 0 t (by omega) (by omega) (by omega) (.inr rfl) 0 (t:Int) rfl rfl
  rw [Nat.zero_add,Nat.sub_zero,Nat.sub_zero] at hsl2
  have hM:=Lib.hid m04
  have HFR:=Lib.hid hfr'
  clear hXv hV2 m2 hA2 hc2 hA3 hV4 m4 hA4 hval m04 hfr hfr' HX m1 hA1 HMK
  go_wp2_with (first | (refine wpList_copy rfl (.tmp 46) (.tmp 47) 49 49 rfl _ _ rfl rfl hcp ?_;go_simp) | (simp only [hcl]))
  refine HN.out.mono ?_
  rintro e w' ⟨m,rfl,hw',hm,hnat⟩
  obtain rfl:=hw'.symm
  rw [HVL.out] at hnat
  have HNN:=Lib.hid hnat
  clear hnat HN hcp hcl
  go_wp2_with fail
  go_ret
  exact ⟨_,_,_,_,rfl,HNN.out,hM.out.of_none,.inr HFR.out⟩
end
end Go.Proofs.YtpfmbfkhjapbbaaGreatDoor
