/-
  reciprocalWord and divWW: two words by one. Condition: the quotient has one word.
  divWW: two words by one, by the reciprocal. Condition: the quotient has one word.
  nat.mul. Conditions: fewer than 40 words, as the threshold holds what it was set to.
  nat.sqr. Conditions: fewer than 12 words, as the thresholds hold what they were set to.
  Which Int owns which block: a ghost map; what a step that sets one Int leaves of the others; a list of Ints with their numbers. No condition; no program's function in sight.
  laws.FnExactReadScalar, walked: it returns true and turns no cell that was there. Conditions: io.EOF holds an errors.errorString's pointer; a slice of bytes.
-/
import Derived.Test.YtpfmbfkhjapbbaaGreatDoorMDivW1
import Derived.Test.YtpfmbfkhjapbbaaGreatDoorMInts4
import Derived.Test.YtpfmbfkhjapbbaaGreatDoorMSpecRd
import Derived.Test.YtpfmbfkhjapbbaaGreatDoorMg13
import Derived.Defers
set_option linter.unusedVariables false
set_option linter.unusedSimpArgs false
namespace Go.Proofs.YtpfmbfkhjapbbaaGreatDoor
section
open Go Go.RowKit
theorem not_word (u:Nat) (h:u<B64):bits .xor .u64 IntKind.u64.max (u:Int)=((B64 - 1 - u:Nat):Int):=by
  have key:bits .xor .u64 IntKind.u64.max (u:Int)=IntKind.u64.wrap (((BitVec.ofInt 64 18446744073709551615 ^^^ BitVec.ofInt 64 (u:Int)).toNat:Nat):Int):=rfl
  have h2 : ~~~ (BitVec.ofNat 64 u)=BitVec.allOnes 64 ^^^ BitVec.ofNat 64 u:=BitVec.not_def
  have h4:BitVec.ofInt 64 18446744073709551615=BitVec.allOnes 64:=by decide
  have h5:BitVec.ofInt 64 (u:Int)=BitVec.ofNat 64 u:=by simp
  rw [key,h4,h5,← h2,BitVec.toNat_not,BitVec.toNat_ofNat,Nat.mod_eq_of_lt (by rw [← B64_pow];exact h),IntKind.wrap_u64,B64_eq]
  rw [B64_eq] at h
  omega
theorem bitsDiv_any (hi lo y:Nat) (hh:hi<y) (hl:lo<B64) (hy:y<B64) (hn:B64≤2*y) (w:World) :
    Calls Tryz.prog 192 #[U hi,U lo,U y] w fun e w'=>e=.returned (.tuple #[U ((hi*B64+lo)/y),U ((hi*B64+lo)%y)])∧∃ k,w'=w.drewN k:=by
  have H:=Lib.hid (fun w' (h:w'=w)=>h ▸ bitsDiv64_any hi lo y hh hl hy hn w)
  have hq:(hi*B64+lo)/y<B64:=by
    rw [Nat.div_lt_iff_lt_mul (by omega)]
    have:(hi+1)*B64≤y*B64:=Nat.mul_le_mul_right _ hh
    rw [Nat.add_mul] at this
    rw [Nat.mul_comm B64]
    omega
  have hr:(hi*B64+lo)%y<B64:=by
    have:=Nat.mod_lt (hi*B64+lo) (show 0<y by omega)
    omega
  generalize (hi*B64+lo)/y=dq at *
  generalize (hi*B64+lo)%y=dr at *
  have e1:IntKind.u64.wrap (dq:Int)=(dq:Int):=by rw [B64_eq] at hq;rw [IntKind.wrap_u64];omega
  have e2:IntKind.u64.wrap (dr:Int)=(dr:Int):=by rw [B64_eq] at hr;rw [IntKind.wrap_u64];omega
  go_enter Tryz.func192,Tryz.ntmps192
  go_wp2_with fail
  refine (H.out _ rfl).mono ?_
  rintro e w' ⟨rfl,k,rfl⟩
  go_wp2_with fail
  go_ret2
  exact ⟨rfl,_,rfl⟩
def rcp (y:Nat):Nat:=(B64*B64 - 1)/(y*2^lz y) - B64
theorem rcp_eq {u:Nat} (hu:u<B64) (hn:B64≤2*u):((B64 - 1 - u)*B64+(B64 - 1))/u=(B64*B64 - 1)/u - B64:=by
  have h0:0<u:=by rw [B64_eq] at hn;omega
  have e:B64*B64 - 1=(B64 - 1 - u)*B64+(B64 - 1)+B64*u:=by
    have e1:B64=(B64 - 1 - u)+u+1:=by omega
    have e2:=congrArg (·*B64) e1
    simp only [Nat.add_mul,Nat.one_mul] at e2
    have e3:B64*u=u*B64:=Nat.mul_comm _ _
    have:=B64_pos
    omega
  rw [e,Nat.add_mul_div_right _ _ h0,Nat.add_sub_cancel]
theorem recip_any (y:Nat) (h0:0<y) (hy:y<B64) (w:World):Calls Tryz.prog 193 #[U y] w fun e w'=>e=.returned (U (rcp y))∧∃ k,w'=w.drewN k:=by
  obtain ⟨l1,l2,l3⟩:=lz_norm h0 hy
  have HN:=Lib.hid (fun w=>nlz_any y hy w)
  have hr:=rcp_eq l2 l3
  have hrd:rcp y=(B64*B64 - 1)/(y*2^lz y) - B64:=rfl
  rw [← hrd] at hr
  generalize rcp y=rc at *
  generalize hu:y*2^lz y=u at *
  have HB:=Lib.hid (fun w=>bitsDiv_any (B64 - 1 - u) (B64 - 1) u (by rw [B64_eq] at *;omega) (by rw [B64_eq];omega) l2 l3 w)
  rw [hr] at HB
  obtain ⟨xx,hxx⟩:∃ k,k=B64 - 1 - u:=⟨_,rfl⟩
  rw [← hxx] at HB
  generalize ((xx*B64+(B64 - 1))%u)=dr at *
  have hsh:IntKind.u64.wrap ((y:Int)*2^lz y)=(u:Int):=by
    rw [← hu,IntKind.wrap_u64]
    rw [← hu,B64_eq] at l2
    have:((y:Int)*2^lz y)=((y*2^lz y:Nat):Int):=by simp
    rw [this]
    generalize y*2^lz y=z at *
    omega
  generalize lz y=l at *
  have hxor:bits .xor .u64 IntKind.u64.max (u:Int)=(xx:Int):=by rw [hxx];exact not_word u l2
  clear hr hrd hu hxx
  go_enter Tryz.func193,Tryz.ntmps193
  go_wp2_with (go_at_call 162;refine (HN.out _).mono ?_;rintro e w' ⟨rfl,rfl⟩)
  all_goals (refine (HB.out _).mono ?_)
  all_goals (rintro e w' ⟨rfl,k,rfl⟩)
  all_goals (go_wp2_with fail)
  all_goals go_ret
  all_goals exact ⟨rfl,_,rfl⟩
end
section
open Go Go.RowKit
theorem or_shl (x y l:Nat) (hx:x<B64) (h1:0<l) (h2:l<64) :
    bits .or .u64 (IntKind.u64.wrap ((y:Int)*2^l)) ((x:Int)/2^(64 - l))=((y*2^l%B64+x/2^(64 - l):Nat):Int):=by
  have hp:2^l*2^(64 - l)=B64:=by rw [← Nat.pow_add,show l+(64 - l)=64 by omega];rfl
  have hx':x/2^(64 - l)<2^l:=Nat.div_lt_of_lt_mul (by rw [Nat.mul_comm,hp];exact hx)
  have hb:y*2^l%B64=2^l*(y%2^(64 - l)):=by
    rw [← hp,Nat.mul_comm y,Nat.mul_mod_mul_left]
  have hlt:y*2^l%B64<B64:=Nat.mod_lt _ B64_pos
  have e1:(x:Int)/2^(64 - l)=((x/2^(64 - l):Nat):Int):=by simp
  have e2:IntKind.u64.wrap ((y:Int)*2^l)=((y*2^l%B64:Nat):Int):=by
    have:=wrap_mul y (2^l)
    simpa [wMul] using this
  have h64:2^l≤B64:=by rw [B64_pow];exact Nat.pow_le_pow_right (by omega) (by omega)
  rw [e1,e2,(bits_nat .u64 64 (by decide) (fun n h h'=>by rw [IntKind.wrap_u64];omega) _ _ (by rw [← B64_pow];exact hlt) (by rw [← B64_pow];omega)).2]
  congr 1
  rw [hb,← Nat.two_pow_add_eq_or_of_lt hx']
theorem scale_two {x1 x0 y l:Nat} (hx1:x1<y) (hx0:x0<B64) (h2:l<64) (hu:y*2^l<B64) :
    (x1*2^l%B64+x0/2^(64 - l))<y*2^l∧(x1*2^l%B64+x0/2^(64 - l))*B64+x0*2^l%B64=(x1*B64+x0)*2^l:=by
  have hp:2^l*2^(64 - l)=B64:=by rw [← Nat.pow_add,show l+(64 - l)=64 by omega];rfl
  have hpos:0<2^(64 - l):=Nat.two_pow_pos _
  have h1:(x1+1)*2^l≤y*2^l:=Nat.mul_le_mul_right _ hx1
  rw [Nat.add_mul,Nat.one_mul] at h1
  have hx':x0/2^(64 - l)<2^l:=Nat.div_lt_of_lt_mul (by rw [Nat.mul_comm,hp];exact hx0)
  generalize 2^(64 - l)=Q at *
  generalize 2^l=P at *
  rw [Nat.mod_eq_of_lt (show x1*P<B64 by omega)]
  generalize hD:x0/Q=D at *
  refine ⟨by omega,?_⟩
  have hb:x0*P%B64=P*(x0%Q):=by
    rw [← hp,Nat.mul_comm x0,Nat.mul_mod_mul_left]
  have hd:=Nat.div_add_mod x0 Q
  rw [hD] at hd
  rw [hb,Nat.add_mul,Nat.add_mul]
  have e1:D*B64=P*(Q*D):=by rw [← hp];ac_rfl
  have e2:x0*P=P*(Q*D)+P*(x0%Q):=by rw [← Nat.mul_add,hd,Nat.mul_comm]
  have e3:x1*P*B64=x1*B64*P:=by ac_rfl
  generalize x0%Q=rem at *
  omega
theorem est_words {u a1 a0 m:Nat} (hu:u<B64) (hn:B64≤2*u) (h1:a1<u) (h0:a0<B64) (hm:m=(B64*B64 - 1)/u - B64) :
    ∃ t R,wAdd (wHi m a1 0) a1 (wCar (wLo m a1 0) a0 0)=t∧t<B64∧m<B64∧wCar (wLo m a1 0) a0 0≤1∧u*t+R=a1*B64+a0∧R<B64+u ∧
      wBor a0 (wLo u t 0) 0≤1∧wSub a1 (wHi u t 0) (wBor a0 (wLo u t 0) 0)=R/B64∧wSub a0 (wLo u t 0) 0=R%B64:=by
  have hup:0<u:=by omega
  obtain ⟨v,hv⟩:∃ v,v=(B64*B64 - 1)/u:=⟨_,rfl⟩
  have hd:=Nat.div_add_mod (B64*B64 - 1) u
  have hml:=Nat.mod_lt (B64*B64 - 1) hup
  rw [← hv] at hd hm
  have hBB:B64*B64=B64*B64 - 1+1:=by have:=Nat.mul_pos B64_pos B64_pos;omega
  have hvB:B64≤v:=by
    rw [hv,Nat.le_div_iff_mul_le hup]
    have:B64*(u+1)≤B64*B64:=Nat.mul_le_mul_left _ hu
    rw [Nat.mul_add] at this
    have:=B64_pos
    omega
  have hv2:v<2*B64:=by
    rw [hv,Nat.div_lt_iff_lt_mul hup]
    have:B64*B64≤B64*(2*u):=Nat.mul_le_mul_left _ hn
    rw [show 2*B64*u=B64*(2*u) by ac_rfl]
    omega
  have hvu:u*v=v*u:=Nat.mul_comm _ _
  obtain ⟨k1,k2,k3⟩:=recip_est (B:=B64) (d:=u) (v:=v) (x1:=a1) (x0:=a0) (by omega) (by omega) (by omega) h1 h0
  have hmv:v=m+B64:=by omega
  have hmB:m<B64:=by omega
  have hcl:=wCar_le (c:=0) (wLo_lt m a1 0) h0 (by omega)
  have ht:(v*a1+a0)/B64=wHi m a1 0+a1+wCar (wLo m a1 0) a0 0:=by
    have e1:=wHi_lo m a1 0
    have e2:=wCar_add (wLo m a1 0) a0 0
    have hwl:=wAdd_lt (wLo m a1 0) a0 0
    have e3:v*a1+a0=B64*(wHi m a1 0+a1+wCar (wLo m a1 0) a0 0)+wAdd (wLo m a1 0) a0 0:=by
      rw [hmv,Nat.add_mul,Nat.mul_add,Nat.mul_add,Nat.mul_comm B64 (wHi m a1 0),Nat.mul_comm B64 (wCar _ _ _)]
      omega
    rw [e3,Nat.mul_add_div B64_pos,Nat.div_eq_of_lt hwl]
    omega
  have hwa:wAdd (wHi m a1 0) a1 (wCar (wLo m a1 0) a0 0)=(v*a1+a0)/B64:=by
    unfold wAdd
    rw [← ht,Nat.mod_eq_of_lt k3]
  generalize (v*a1+a0)/B64=t at *
  refine ⟨t,a1*B64+a0 - u*t,hwa,k3,hmB,hcl,by omega,by omega,wBor_le _ _ _,?_⟩
  have e1:=wHi_lo u t 0
  have hlo:=wLo_lt u t 0
  have hhi:=wHi_lt hu k3 B64_pos
  have s0:=wSub_bor (b:=0) h0 hlo (by omega)
  have hb0:=wBor_le a0 (wLo u t 0) 0
  have s1:=wSub_bor (show a1<B64 by omega) hhi hb0
  have hb1:=wBor_le a1 (wHi u t 0) (wBor a0 (wLo u t 0) 0)
  have l0:=wSub_lt a0 (wLo u t 0) 0
  have l1:=wSub_lt a1 (wHi u t 0) (wBor a0 (wLo u t 0) 0)
  generalize wBor a1 (wHi u t 0) (wBor a0 (wLo u t 0) 0)=b1 at *
  generalize wSub a1 (wHi u t 0) (wBor a0 (wLo u t 0) 0)=r1 at *
  generalize wBor a0 (wLo u t 0) 0=b0 at *
  generalize wSub a0 (wLo u t 0) 0=r0 at *
  generalize wHi u t 0=d1 at *
  generalize wLo u t 0=d0 at *
  have hR:a1*B64+a0 - u*t=r1*B64+r0:=by
    rw [B64_eq] at *
    omega
  rw [hR,Nat.mul_comm,Nat.mul_add_div B64_pos,Nat.div_eq_of_lt l0,Nat.mul_add_mod,Nat.mod_eq_of_lt l0]
  exact ⟨by omega,rfl⟩
theorem unscale {X y l q r:Nat} (hy:0<y) (hq:X*2^l/(y*2^l)=q) (hr:X*2^l%(y*2^l)=r):X/y=q∧X%y=r/2^l:=by
  have hp:=Nat.two_pow_pos l
  constructor
  · rw [← hq,Nat.mul_div_mul_right _ _ hp]
  · rw [← hr,Nat.mul_mod_mul_right,Nat.mul_div_cancel _ hp]
set_option maxRecDepth 100000 in
set_option maxHeartbeats 4000000 in
theorem divWW_norm (x1 x0 y:Nat) (hx1:x1<y) (hx0:x0<B64) (hy:y<B64) (hn:B64≤2*y) (w:World) :
    Calls Tryz.prog 194 #[U x1,U x0,U y,U (rcp y)] w fun e w'=>e=.returned (.tuple #[U ((x1*B64+x0)/y),U ((x1*B64+x0)%y)])∧w'=w:=by
  have hl0:lz y=0:=by
    refine Classical.byContradiction fun h => ?_
    have h1:=(lz_norm (x:=y) (by rw [B64_eq] at hn;omega) hy).2.1
    have:y*2^1≤y*2^lz y:=Nat.mul_le_mul_left _ (Nat.pow_le_pow_right (by omega) (by omega))
    omega
  have HL:=Lib.hid (fun w=>nlz_any y hy w)
  have hm:rcp y=(B64*B64 - 1)/y - B64:=by unfold rcp;rw [hl0,Nat.pow_zero,Nat.mul_one]
  rw [hl0] at HL
  have hE:=est_words hy hn hx1 hx0 hm
  have hmB:rcp y<B64:=by obtain ⟨_,_,_,_,h,_⟩:=hE;exact h
  generalize rcp y=m at *
  obtain ⟨a1,ha1e⟩:∃ k,k=x1:=⟨_,rfl⟩
  obtain ⟨a0,ha0e⟩:∃ k,k=x0:=⟨_,rfl⟩
  obtain ⟨u,hue⟩:∃ k,k=y:=⟨_,rfl⟩
  have hX:x1*B64+x0=a1*B64+a0:=by rw [ha1e,ha0e]
  have FIN:=Lib.hid (fun q r (h1:(x1*B64+x0)/u=q) (h2:(x1*B64+x0)%u=r)=>show (x1*B64+x0)/y=q∧(x1*B64+x0)%y=r∧q<B64 by
    rw [← hue]
    refine ⟨h1,h2,?_⟩
    rw [← h1,Nat.div_lt_iff_lt_mul (by rw [hue];omega),hue]
    have:(x1+1)*B64≤y*B64:=Nat.mul_le_mul_right _ hx1
    rw [Nat.add_mul] at this
    rw [Nat.mul_comm B64]
    omega)
  generalize hQ:(x1*B64+x0)/y=QQ at *
  generalize hR:(x1*B64+x0)%y=RR at *
  subst ha1e ha0e hue
  have ha1:=hx1
  have hu:=hy
  clear hQ hR hm hl0
  have HM1:=Lib.hid (fun w=>mul_any m a1 hmB (Nat.lt_trans ha1 hu) w)
  obtain ⟨hi0,hhi0⟩:∃ k,k=wHi m a1 0:=⟨_,rfl⟩
  obtain ⟨lo0,hlo0⟩:∃ k,k=wLo m a1 0:=⟨_,rfl⟩
  have HA1:=Lib.hid (fun w=>add_any lo0 a0 0 (by omega) w)
  rw [← hhi0,← hlo0] at HM1
  rw [← hhi0,← hlo0] at hE
  obtain ⟨c0,hc0⟩:∃ k,k=wCar lo0 a0 0:=⟨_,rfl⟩
  rw [← hc0] at HA1 hE
  obtain ⟨t,R,ht,htB,_,hcl,hR,hRl,hbl,hr1,hr0⟩:=hE
  have HA2:=Lib.hid (fun w=>add_any hi0 a1 c0 hcl w)
  rw [ht] at HA2
  have HM2:=Lib.hid (fun w=>mul_any u t hu htB w)
  have HS1:=Lib.hid (fun w=>sub_any a0 (wLo u t 0) 0 (by omega) w)
  have HS2:=Lib.hid (fun w=>sub_any a1 (wHi u t 0) (wBor a0 (wLo u t 0) 0) hbl w)
  rw [hr1] at HS2
  rw [hr0] at HS1
  have hF:=recip_fin hn (Nat.le_of_lt hu) (show u*t≤a1*B64+a0 by omega) (show a1*B64+a0<u*t+B64+u by omega)
  rw [show a1*B64+a0 - u*t=R by omega] at hF
  generalize wBor a1 (wHi u t 0) (wBor a0 (wLo u t 0) 0)=bb at *
  generalize wBor a0 (wLo u t 0) 0=b0 at *
  generalize wHi u t 0=d1 at *
  generalize wLo u t 0=d0 at *
  generalize wAdd lo0 a0 0=aa0 at *
  generalize wCar hi0 a1 c0=cc1 at *
  have HX:=Lib.hid hX
  clear ht hr1 hr0 hhi0 hlo0 hc0 hR hX
  have et:IntKind.u64.wrap ((t:Int)+1)=((t+1:Nat):Int)∨t+1=B64:=by
    rcases Nat.lt_or_ge (t+1) B64 with h | h
    · left;rw [IntKind.wrap_u64];rw [B64_eq] at h;omega
    · right;omega
  by_cases hge:B64≤R
  · have hq1:R/B64=1:=by
      rw [Nat.div_eq_iff B64_pos]
      rw [B64_eq] at *
      omega
    have hm1:R%B64=R - B64:=by rw [Nat.mod_eq_sub_mod hge,Nat.mod_eq_of_lt (by rw [B64_eq] at *;omega)]
    rw [hq1] at HS2
    rw [hm1] at HS1
    obtain ⟨r0,hr0⟩:∃ k,k=R - B64:=⟨_,rfl⟩
    obtain ⟨r2,hr2⟩:∃ k,k=R - u:=⟨_,rfl⟩
    rw [← hr0] at HS1
    have e2:IntKind.u64.wrap ((r0:Int) - (u:Int))=(r2:Int):=by rw [IntKind.wrap_u64];rw [B64_eq] at *;omega
    by_cases hg2:u≤r2
    · have hres:=hF.2.2.1 hge (by omega)
      obtain ⟨g1,g2⟩:=hres
      rw [← hr2] at g2
      have hfin:=FIN.out (t+2) (r2 - u) (HX.out ▸ g1) (HX.out ▸ g2)
      obtain ⟨r3,hr3⟩:∃ k,k=r2 - u:=⟨_,rfl⟩
      rw [← hr3] at hfin
      have hqB:t+2<B64:=by
        have:=hfin.2.2
        exact this
      have e1:IntKind.u64.wrap ((t:Int)+1)=((t+1:Nat):Int):=by rw [IntKind.wrap_u64];rw [B64_eq] at hqB;omega
      obtain ⟨t1,ht1⟩:∃ k,k=t+1:=⟨_,rfl⟩
      rw [← ht1] at e1
      have e3:IntKind.u64.wrap ((t1:Int)+1)=((t1+1:Nat):Int):=by rw [IntKind.wrap_u64];rw [B64_eq] at hqB;omega
      obtain ⟨t2,ht2⟩:∃ k,k=t1+1:=⟨_,rfl⟩
      rw [← ht2] at e3
      rw [show t+2=t2 by omega] at hfin
      have e4:IntKind.u64.wrap ((r2:Int) - (u:Int))=(r3:Int):=by rw [IntKind.wrap_u64];rw [B64_eq] at *;omega
      have hc1:(u:Int)≤(r2:Int):=by omega
      have HFIN:=Lib.hid hfin
      clear hF g1 g2 hfin hr0 hr2 hr3 ht1 ht2 et hq1 hm1
      go_enter Tryz.func194,Tryz.ntmps194
      go_wp2_with fail
      refine (HL.out _).mono ?_
      rintro e w' ⟨rfl,rfl⟩
      go_wp2_with fail
      refine (HM1.out _).mono ?_
      rintro e w' ⟨rfl,rfl⟩
      go_wp2_with fail
      refine (HA1.out _).mono ?_
      rintro e w' ⟨rfl,rfl⟩
      go_wp2_with fail
      refine (HA2.out _).mono ?_
      rintro e w' ⟨rfl,rfl⟩
      go_wp2_with fail
      refine (HM2.out _).mono ?_
      rintro e w' ⟨rfl,rfl⟩
      go_wp2_with fail
      refine (HS1.out _).mono ?_
      rintro e w' ⟨rfl,rfl⟩
      go_wp2_with fail
      refine (HS2.out _).mono ?_
      rintro e w' ⟨rfl,rfl⟩
      go_wp2_with fail
      go_ret2
      exact ⟨show Ending.returned (Value.tuple #[U t2,U r3])=_ by rw [HFIN.out.1,HFIN.out.2.1],rfl⟩
    · have hres:=hF.2.2.2 hge (by omega)
      obtain ⟨g1,g2⟩:=hres
      rw [← hr2] at g2
      have hfin:=FIN.out (t+1) r2 (HX.out ▸ g1) (HX.out ▸ g2)
      have hqB:t+1<B64:=hfin.2.2
      have e1:IntKind.u64.wrap ((t:Int)+1)=((t+1:Nat):Int):=by rw [IntKind.wrap_u64];rw [B64_eq] at hqB;omega
      obtain ⟨t1,ht1⟩:∃ k,k=t+1:=⟨_,rfl⟩
      rw [← ht1] at e1 hfin
      have hc1:¬ (u:Int)≤(r2:Int):=by omega
      have HFIN:=Lib.hid hfin
      clear hF g1 g2 hfin hr0 hr2 ht1 et hq1 hm1
      go_enter Tryz.func194,Tryz.ntmps194
      go_wp2_with fail
      refine (HL.out _).mono ?_
      rintro e w' ⟨rfl,rfl⟩
      go_wp2_with fail
      refine (HM1.out _).mono ?_
      rintro e w' ⟨rfl,rfl⟩
      go_wp2_with fail
      refine (HA1.out _).mono ?_
      rintro e w' ⟨rfl,rfl⟩
      go_wp2_with fail
      refine (HA2.out _).mono ?_
      rintro e w' ⟨rfl,rfl⟩
      go_wp2_with fail
      refine (HM2.out _).mono ?_
      rintro e w' ⟨rfl,rfl⟩
      go_wp2_with fail
      refine (HS1.out _).mono ?_
      rintro e w' ⟨rfl,rfl⟩
      go_wp2_with fail
      refine (HS2.out _).mono ?_
      rintro e w' ⟨rfl,rfl⟩
      go_wp2_with fail
      go_ret2
      exact ⟨show Ending.returned (Value.tuple #[U t1,U r2])=_ by rw [HFIN.out.1,HFIN.out.2.1],rfl⟩
  · have hq1:R/B64=0:=Nat.div_eq_of_lt (by omega)
    have hm1:R%B64=R:=Nat.mod_eq_of_lt (by omega)
    rw [hq1] at HS2
    rw [hm1] at HS1
    by_cases hg2:u≤R
    · obtain ⟨g1,g2⟩:=hF.1 (by omega) hg2
      obtain ⟨r2,hr2⟩:∃ k,k=R - u:=⟨_,rfl⟩
      rw [← hr2] at g2
      have hfin:=FIN.out (t+1) r2 (HX.out ▸ g1) (HX.out ▸ g2)
      have hqB:t+1<B64:=hfin.2.2
      have e1:IntKind.u64.wrap ((t:Int)+1)=((t+1:Nat):Int):=by rw [IntKind.wrap_u64];rw [B64_eq] at hqB;omega
      obtain ⟨t1,ht1⟩:∃ k,k=t+1:=⟨_,rfl⟩
      rw [← ht1] at e1 hfin
      have e4:IntKind.u64.wrap ((R:Int) - (u:Int))=(r2:Int):=by rw [IntKind.wrap_u64];rw [B64_eq] at *;omega
      have hc1:(u:Int)≤(R:Int):=by omega
      have HFIN:=Lib.hid hfin
      clear hF g1 g2 hfin hr2 ht1 et hq1 hm1
      go_enter Tryz.func194,Tryz.ntmps194
      go_wp2_with fail
      refine (HL.out _).mono ?_
      rintro e w' ⟨rfl,rfl⟩
      go_wp2_with fail
      refine (HM1.out _).mono ?_
      rintro e w' ⟨rfl,rfl⟩
      go_wp2_with fail
      refine (HA1.out _).mono ?_
      rintro e w' ⟨rfl,rfl⟩
      go_wp2_with fail
      refine (HA2.out _).mono ?_
      rintro e w' ⟨rfl,rfl⟩
      go_wp2_with fail
      refine (HM2.out _).mono ?_
      rintro e w' ⟨rfl,rfl⟩
      go_wp2_with fail
      refine (HS1.out _).mono ?_
      rintro e w' ⟨rfl,rfl⟩
      go_wp2_with fail
      refine (HS2.out _).mono ?_
      rintro e w' ⟨rfl,rfl⟩
      go_wp2_with fail
      go_ret2
      exact ⟨show Ending.returned (Value.tuple #[U t1,U r2])=_ by rw [HFIN.out.1,HFIN.out.2.1],rfl⟩
    · obtain ⟨g1,g2⟩:=hF.2.1 (by omega) (by omega)
      have hfin:=FIN.out t R (HX.out ▸ g1) (HX.out ▸ g2)
      have hc1:¬ (u:Int)≤(R:Int):=by omega
      have HFIN:=Lib.hid hfin
      clear hF g1 g2 hfin et hq1 hm1
      go_enter Tryz.func194,Tryz.ntmps194
      go_wp2_with fail
      refine (HL.out _).mono ?_
      rintro e w' ⟨rfl,rfl⟩
      go_wp2_with fail
      refine (HM1.out _).mono ?_
      rintro e w' ⟨rfl,rfl⟩
      go_wp2_with fail
      refine (HA1.out _).mono ?_
      rintro e w' ⟨rfl,rfl⟩
      go_wp2_with fail
      refine (HA2.out _).mono ?_
      rintro e w' ⟨rfl,rfl⟩
      go_wp2_with fail
      refine (HM2.out _).mono ?_
      rintro e w' ⟨rfl,rfl⟩
      go_wp2_with fail
      refine (HS1.out _).mono ?_
      rintro e w' ⟨rfl,rfl⟩
      go_wp2_with fail
      refine (HS2.out _).mono ?_
      rintro e w' ⟨rfl,rfl⟩
      go_wp2_with fail
      go_ret2
      exact ⟨show Ending.returned (Value.tuple #[U t,U R])=_ by rw [HFIN.out.1,HFIN.out.2.1],rfl⟩
end
section
open Go Go.RowKit
def Glo (w:World) (k:Nat) (v:Int):Prop:=w.cell? ⟨k,0,none⟩=some (.int .i64 v)
theorem mul_tail {w w1:World} {az:Option Addr} {b cz m:Nat} {g:Nat→Nat} {v:Nat} {e:Ending} {w':World} {w2:World} (hmod:Mod NoP w w1) (hfr:some (⟨b,0,none⟩:Addr)=az∨Fresh w (some ⟨b,0,none⟩)) (m2:Mod (InB b) w1 w2) (hv:val g m=v) (h:NormRet w2 (some ⟨b,0,none⟩) m cz g e w'):NatRet w az v e w':=by
  refine h.ret hv ?_ hfr
  refine (hmod.of_none (M:=BlkOf az)).trans' m2 fun k o hk h => ?_
  unfold InB at h
  subst h
  exact blk_of hfr hk o
theorem fresh_ne {w:World} {b bx c:Nat} {f:Nat→Nat} (h:Fresh w (some ⟨b,0,none⟩)) (hx:Arr w (some ⟨bx,0,none⟩) c f):bx≠b:=by
  obtain ⟨k,e,hk⟩:=h
  obtain rfl:b=k:=congrArg Addr.block (Option.some.inj e)
  have:=hx.lt
  omega
theorem made_ne {w:World} {az:Option Addr} {b bx c:Nat} {f:Nat→Nat} (h:some (⟨b,0,none⟩:Addr)=az∨Fresh w (some ⟨b,0,none⟩)) (hx:Arr w (some ⟨bx,0,none⟩) c f) (hne:az≠some ⟨bx,0,none⟩):bx≠b:=by
  rcases h with h | h
  · rintro rfl;exact hne h.symm
  · exact fresh_ne h hx
theorem made_nil {w:World} {az:Option Addr} {b:Nat} (h:some (⟨b,0,none⟩:Addr)=none∨Fresh w (some ⟨b,0,none⟩)):some (⟨b,0,none⟩:Addr)=az∨Fresh w (some ⟨b,0,none⟩):=by
  rcases h with h | h
  · cases h
  · exact .inr h
set_option maxRecDepth 100000 in
set_option maxHeartbeats 4000000 in
theorem natMul_ge (az ax ay:Option Addr) (nz cz nx cx ny cy vx vy:Nat) (sv:Value) (w:World) (fz fx fy:Nat→Nat) (hG:Glo w 5 40) (hZ:Arr w az cz fz) (hnz:nz≤cz) (hX:NatIs w ax nx cx fx vx) (hY:NatIs w ay ny cy fy vy) (hsx:nx≤30000) (hsy:ny<40) (hnn:ny≤nx) :
    Calls Tryz.prog 131 #[.slice az nz cz,sv,.slice ax nx cx,.slice ay ny cy] w (NatRet w az (vx*vy)):=by
  have d0:¬ (nx:Int)<(ny:Int):=by omega
  by_cases hy0:ny=0
  · subst hy0
    have e2:vy=0:=hY.zero_iff.1 rfl
    subst e2
    have hs:=slice_zero az nz cz hZ hnz
    have HN:=Lib.hid (NatIs.zero hZ)
    have HZ0:vx*0=0:=Nat.mul_zero _
    rw [HZ0]
    clear hZ hX hY HZ0
    by_cases hx0:nx=0
    · subst hx0
      go_enter_defers Tryz.func131,Tryz.ntmps131
      go_wp2_with fail
      refine ⟨_,results_tmp rfl _ _ _,?_⟩
      exact .mk HN.out (.refl _ _) (.inl rfl)
    · have hb0:((nx:Int) == 0)=false:=by simp;omega
      go_enter_defers Tryz.func131,Tryz.ntmps131
      go_wp2_with fail
      refine ⟨_,results_tmp rfl _ _ _,?_⟩
      exact .mk HN.out (.refl _ _) (.inl rfl)
  have hx0:0<nx:=by omega
  have hb0:((nx:Int) == 0)=false:=by simp;omega
  have hb1:((ny:Int) == 0)=false:=by simp;omega
  by_cases hy1:ny=1
  · subst hy1
    obtain ⟨by_,rfl⟩:=hY.arr.form (by have:=hY.le;omega)
    have hc:=hY.arr.vec 0 (by have:=hY.le;omega)
    rw [Nat.zero_add] at hc
    have hcell:=hc.1
    have hv:fy 0=vy:=by rw [← hY.val,val_one]
    have HM:=Lib.hid (mulAddWW_any az ax nz cz nx cx (fy 0) 0 vx w fz fx hZ hnz hX (by omega) hc.2.2 B64_pos)
    rw [hv] at hcell HM
    clear hZ hX hY hc hv
    go_enter_defers Tryz.func131,Tryz.ntmps131
    go_wp2_with fail
    refine HM.out.mono ?_
    rintro e w1 ⟨a,n,c,f,rfl,h1,h2,h3⟩
    have H1:=Lib.hid h1
    clear h1
    go_wp2_with fail
    refine ⟨_,results_tmp rfl _ _ _,?_⟩
    exact .mk H1.out h2 h3
  have hb2:((ny:Int) == 1)=false:=by simp;omega
  obtain ⟨bx,rfl⟩:=hX.arr.form (by have:=hX.le;omega)
  obtain ⟨by_,rfl⟩:=hY.arr.form (by have:=hY.le;omega)
  have HA1:=Lib.hid (alias_any az (some ⟨bx,0,none⟩) nz cz nx cx fz fx w hZ hX.arr hnz hX.le)
  have HA2:=Lib.hid (fun q=>alias_any az (some ⟨by_,0,none⟩) nz cz ny cy fz fy (w.drewN q) hZ hY.arr hnz hY.le)
  have HX:=Lib.hid hX
  have HY:=Lib.hid hY
  have HZ:=Lib.hid hZ
  have HG:=Lib.hid hG
  have hsum:((nx:Int)+(ny:Int))=((nx+ny:Nat):Int):=by omega
  clear hX hY hZ hG hsum
  go_enter_defers Tryz.func131,Tryz.ntmps131
  go_wp2_with fail
  refine HA1.out.mono ?_
  rintro e w1 ⟨rfl,q1,rfl⟩
  by_cases hnx:az=some ⟨bx,0,none⟩
  · have hcz0:0<cz:=by
      rcases Nat.eq_zero_or_pos cz with h | h
      · rcases HZ.out with ⟨h1,_⟩ | ⟨b',C,t,e,hb,hs,hc⟩
        · rw [h1] at hnx;cases hnx
        · have hb0:b'=bx:=by rw [e] at hnx;simpa using hnx
          subst hb0
          rcases HX.out.arr with ⟨h2,_⟩ | ⟨b2,C2,t2,e2,hb2',hs2,hc2⟩
          · cases h2
          · obtain rfl:b'=b2:=by simpa using e2
            rw [hb] at hb2'
            obtain ⟨rfl,_⟩:C=C2∧t=t2:=by simpa using hb2'
            have:=HX.out.le
            omega
      · exact h
    rw [decide_eq_true (show az=some ⟨bx,0,none⟩∧0<cz from ⟨hnx,hcz0⟩)]
    clear HA1 HA2 hnx
    have HM:=Lib.hid (make_any none 0 0 (nx+ny) (w.drewN q1) (fun _=>0) (.nil _ _) (Nat.le_refl _) (by omega))
    go_wp2_with fail
    refine HM.out.mono ?_
    rintro e w2 ⟨a',c',f',rfl,hA',hm,hmod,hfr⟩
    obtain ⟨b,rfl⟩:=hA'.form (by omega)
    have m02:Mod NoP w w2:=((Mod.refl NoP w).drewN q1).trans hmod
    have hgl:w2.cell? ⟨5,0,none⟩=some (.int .i64 40):=m02.cell_some HG.out fun h=>h
    have hxb:bx≠b:=fresh_ne (hfr.resolve_left (by intro h;cases h)) (HX.out.arr.drewN q1)
    have hyb:by_≠b:=fresh_ne (hfr.resolve_left (by intro h;cases h)) (HY.out.arr.drewN q1)
    have hfr2:some (⟨b,0,none⟩:Addr)=az∨Fresh w (some ⟨b,0,none⟩):=(made_nil hfr).imp id fun h=>h.mono (Nat.le_refl _)
    have HB:=Lib.hid (basicMul_any b (nx+ny) c' bx nx cx by_ ny cy vx vy f' fx fy w2 hA' (HX.out.mod m02 (Off.noP _)) (HY.out.mod m02 (Off.noP _)) hxb hyb hm (by omega) (by omega) hx0 hm (Nat.le_refl _))
    have hd:decide ((ny:Int)<40)=true:=decide_eq_true (by omega)
    have hd2:(ny:Int)<40:=by omega
    clear hA' HM hfr
    go_wp2_with fail
    refine HB.out.mono ?_
    rintro e w3 ⟨rfl,g,hA3,hv3,m3⟩
    have HN:=Lib.hid ((norm_any (some ⟨b,0,none⟩) (nx+ny) c' w3 g hA3 hm (by omega)).mono fun e w4 h=>mul_tail m02 hfr2 m3 hv3 h)
    clear hA3 HB
    go_wp2_with fail
    refine HN.out.mono ?_
    rintro e w4 ⟨a,n,c,f,rfl,h1,h2,h3⟩
    have H1:=Lib.hid h1
    clear h1
    go_wp2_with fail
    refine ⟨_,results_tmp rfl _ _ _,?_⟩
    exact .mk H1.out h2 h3
  · rw [decide_eq_false (fun h=>hnx h.1)]
    go_wp2_with fail
    refine (HA2.out q1).mono ?_
    rintro e w1 ⟨rfl,q2,hw⟩
    rw [World.drewN_drewN] at hw
    subst hw
    generalize q1+q2=q at *
    by_cases hny:az=some ⟨by_,0,none⟩∧0<cz
    · rw [decide_eq_true hny]
      clear HA1 HA2 hnx hny
      have HM:=Lib.hid (make_any none 0 0 (nx+ny) (w.drewN q) (fun _=>0) (.nil _ _) (Nat.le_refl _) (by omega))
      go_wp2_with fail
      refine HM.out.mono ?_
      rintro e w2 ⟨a',c',f',rfl,hA',hm,hmod,hfr⟩
      obtain ⟨b,rfl⟩:=hA'.form (by omega)
      have m02:Mod NoP w w2:=((Mod.refl NoP w).drewN q).trans hmod
      have hgl:w2.cell? ⟨5,0,none⟩=some (.int .i64 40):=m02.cell_some HG.out fun h=>h
      have hxb:bx≠b:=fresh_ne (hfr.resolve_left (by intro h;cases h)) (HX.out.arr.drewN q)
      have hyb:by_≠b:=fresh_ne (hfr.resolve_left (by intro h;cases h)) (HY.out.arr.drewN q)
      have hfr2:some (⟨b,0,none⟩:Addr)=az∨Fresh w (some ⟨b,0,none⟩):=(made_nil hfr).imp id fun h=>h.mono (Nat.le_refl _)
      have HB:=Lib.hid (basicMul_any b (nx+ny) c' bx nx cx by_ ny cy vx vy f' fx fy w2 hA' (HX.out.mod m02 (Off.noP _)) (HY.out.mod m02 (Off.noP _)) hxb hyb hm (by omega) (by omega) hx0 hm (Nat.le_refl _))
      have hd:decide ((ny:Int)<40)=true:=decide_eq_true (by omega)
      have hd2:(ny:Int)<40:=by omega
      clear hA' HM hfr
      go_wp2_with fail
      refine HB.out.mono ?_
      rintro e w3 ⟨rfl,g,hA3,hv3,m3⟩
      have HN:=Lib.hid ((norm_any (some ⟨b,0,none⟩) (nx+ny) c' w3 g hA3 hm (by omega)).mono fun e w4 h=>mul_tail m02 hfr2 m3 hv3 h)
      clear hA3 HB
      go_wp2_with fail
      refine HN.out.mono ?_
      rintro e w4 ⟨a,n,c,f,rfl,h1,h2,h3⟩
      have H1:=Lib.hid h1
      clear h1
      go_wp2_with fail
      refine ⟨_,results_tmp rfl _ _ _,?_⟩
      exact .mk H1.out h2 h3
    · rw [decide_eq_false hny]
      clear HA1 HA2
      by_cases hcz0:0<cz
      · have hny:az≠some ⟨by_,0,none⟩:=fun h=>hny ⟨h,hcz0⟩
        have HM:=Lib.hid (make_any az nz cz (nx+ny) (w.drewN q) fz (HZ.out.drewN _) hnz (by omega))
        go_wp2_with fail
        refine HM.out.mono ?_
        rintro e w2 ⟨a',c',f',rfl,hA',hm,hmod,hfr⟩
        obtain ⟨b,rfl⟩:=hA'.form (by omega)
        have m02:Mod NoP w w2:=((Mod.refl NoP w).drewN q).trans hmod
        have hgl:w2.cell? ⟨5,0,none⟩=some (.int .i64 40):=m02.cell_some HG.out fun h=>h
        have hxb:bx≠b:=made_ne hfr (HX.out.arr.drewN q) hnx
        have hyb:by_≠b:=made_ne hfr (HY.out.arr.drewN q) hny
        have hfr2:some (⟨b,0,none⟩:Addr)=az∨Fresh w (some ⟨b,0,none⟩):=(hfr).imp id fun h=>h.mono (Nat.le_refl _)
        have HB:=Lib.hid (basicMul_any b (nx+ny) c' bx nx cx by_ ny cy vx vy f' fx fy w2 hA' (HX.out.mod m02 (Off.noP _)) (HY.out.mod m02 (Off.noP _)) hxb hyb hm (by omega) (by omega) hx0 hm (Nat.le_refl _))
        have hd:decide ((ny:Int)<40)=true:=decide_eq_true (by omega)
        have hd2:(ny:Int)<40:=by omega
        clear hA' HM hfr
        go_wp2_with fail
        refine HB.out.mono ?_
        rintro e w3 ⟨rfl,g,hA3,hv3,m3⟩
        have HN:=Lib.hid ((norm_any (some ⟨b,0,none⟩) (nx+ny) c' w3 g hA3 hm (by omega)).mono fun e w4 h=>mul_tail m02 hfr2 m3 hv3 h)
        clear hA3 HB
        go_wp2_with fail
        refine HN.out.mono ?_
        rintro e w4 ⟨a,n,c,f,rfl,h1,h2,h3⟩
        have H1:=Lib.hid h1
        clear h1
        go_wp2_with fail
        refine ⟨_,results_tmp rfl _ _ _,?_⟩
        exact .mk H1.out h2 h3
      · have hny:az≠some ⟨by_,0,none⟩:=by
          obtain rfl:cz=0:=by omega
          rcases HZ.out with ⟨h1,_⟩ | ⟨b',C,t,e,hb,hs,hc⟩
          · rw [h1];intro h;cases h
          · intro h
            have hb0:b'=by_:=by rw [e] at h;simpa using h
            subst hb0
            rcases HY.out.arr with ⟨h2,_⟩ | ⟨b2,C2,t2,e2,hb2',hs2,hc2⟩
            · cases h2
            · obtain rfl:b'=b2:=by simpa using e2
              rw [hb] at hb2'
              obtain ⟨rfl,_⟩:C=C2∧t=t2:=by simpa using hb2'
              have:=HY.out.le
              omega
        have HM:=Lib.hid (make_any az nz cz (nx+ny) (w.drewN q) fz (HZ.out.drewN _) hnz (by omega))
        go_wp2_with fail
        refine HM.out.mono ?_
        rintro e w2 ⟨a',c',f',rfl,hA',hm,hmod,hfr⟩
        obtain ⟨b,rfl⟩:=hA'.form (by omega)
        have m02:Mod NoP w w2:=((Mod.refl NoP w).drewN q).trans hmod
        have hgl:w2.cell? ⟨5,0,none⟩=some (.int .i64 40):=m02.cell_some HG.out fun h=>h
        have hxb:bx≠b:=made_ne hfr (HX.out.arr.drewN q) hnx
        have hyb:by_≠b:=made_ne hfr (HY.out.arr.drewN q) hny
        have hfr2:some (⟨b,0,none⟩:Addr)=az∨Fresh w (some ⟨b,0,none⟩):=(hfr).imp id fun h=>h.mono (Nat.le_refl _)
        have HB:=Lib.hid (basicMul_any b (nx+ny) c' bx nx cx by_ ny cy vx vy f' fx fy w2 hA' (HX.out.mod m02 (Off.noP _)) (HY.out.mod m02 (Off.noP _)) hxb hyb hm (by omega) (by omega) hx0 hm (Nat.le_refl _))
        have hd:decide ((ny:Int)<40)=true:=decide_eq_true (by omega)
        have hd2:(ny:Int)<40:=by omega
        clear hA' HM hfr
        go_wp2_with fail
        refine HB.out.mono ?_
        rintro e w3 ⟨rfl,g,hA3,hv3,m3⟩
        have HN:=Lib.hid ((norm_any (some ⟨b,0,none⟩) (nx+ny) c' w3 g hA3 hm (by omega)).mono fun e w4 h=>mul_tail m02 hfr2 m3 hv3 h)
        clear hA3 HB
        go_wp2_with fail
        refine HN.out.mono ?_
        rintro e w4 ⟨a,n,c,f,rfl,h1,h2,h3⟩
        have H1:=Lib.hid h1
        clear h1
        go_wp2_with fail
        refine ⟨_,results_tmp rfl _ _ _,?_⟩
        exact .mk H1.out h2 h3
set_option maxRecDepth 100000 in
set_option maxHeartbeats 1000000 in
theorem natMul_any (az ax ay:Option Addr) (nz cz nx cx ny cy vx vy:Nat) (sv:Value) (w:World) (fz fx fy:Nat→Nat) (hG:Glo w 5 40) (hZ:Arr w az cz fz) (hnz:nz≤cz) (hX:NatIs w ax nx cx fx vx) (hY:NatIs w ay ny cy fy vy) (hsx:nx<40) (hsy:ny<40) :
    Calls Tryz.prog 131 #[.slice az nz cz,sv,.slice ax nx cx,.slice ay ny cy] w (NatRet w az (vx*vy)):=by
  by_cases hlt:nx<ny
  · have H:=Lib.hid (natMul_ge az ay ax nz cz ny cy nx cx vy vx sv w fz fy fx hG hZ hnz hY hX (by omega) hsx (by omega))
    have d0:(nx:Int)<(ny:Int):=by omega
    rw [Nat.mul_comm] at H
    clear hX hY hZ hG
    go_enter_defers Tryz.func131,Tryz.ntmps131
    go_wp2_with fail
    refine H.out.mono ?_
    rintro e w1 ⟨a,n,c,f,rfl,h1,h2,h3⟩
    have H1:=Lib.hid h1
    clear h1
    go_wp2_with fail
    refine ⟨_,results_tmp rfl _ _ _,?_⟩
    exact .mk H1.out h2 h3
  · exact natMul_ge az ax ay nz cz nx cx ny cy vx vy sv w fz fx fy hG hZ hnz hX hY (by omega) hsy (by omega)
end
section
open Go Go.RowKit
theorem sqr_one (f:Nat→Nat) (d:Nat):val (put (put f 1 (wHi d d 0)) 0 (wLo d d 0)) 2=d*d:=by
  have h:=wHi_lo d d 0
  simp only [val,put]
  simp
  omega
set_option maxRecDepth 100000 in
set_option maxHeartbeats 4000000 in
theorem natSqr_any (az ax:Option Addr) (nz cz nx cx vx:Nat) (sv:Value) (w:World) (fz fx:Nat→Nat) (hG3:Glo w 3 12) (hG4:Glo w 4 80) (hZ:Arr w az cz fz) (hnz:nz≤cz) (hX:NatIs w ax nx cx fx vx) (hsx:nx<12) :
    Calls Tryz.prog 130 #[.slice az nz cz,sv,.slice ax nx cx] w (NatRet w az (vx*vx)):=by
  by_cases hx0:nx=0
  · subst hx0
    have e2:vx=0:=hX.zero_iff.1 rfl
    subst e2
    have hs:=slice_zero az nz cz hZ hnz
    have HN:=Lib.hid (NatIs.zero hZ)
    have HZ0:0*0=0:=Nat.mul_zero _
    clear hZ hX HZ0
    go_enter_defers Tryz.func130,Tryz.ntmps130
    go_wp2_with fail
    refine ⟨_,results_tmp rfl _ _ _,?_⟩
    exact .mk HN.out (.refl _ _) (.inl rfl)
  have hb1:((nx:Int) == 0)=false:=by simp;omega
  obtain ⟨bx,rfl⟩:=hX.arr.form (by have:=hX.le;omega)
  by_cases hx1:nx=1
  · subst hx1
    have hc:=hX.arr.vec 0 (by have:=hX.le;omega)
    rw [Nat.zero_add] at hc
    have hcell:=hc.1
    have hv:fx 0=vx:=by rw [← hX.val,val_one]
    rw [hv] at hc hcell
    have HM:=Lib.hid (make_any az nz cz 2 w fz hZ hnz (by omega))
    have HW:=Lib.hid (fun w1=>mulWW_any vx vx hc.2.2 hc.2.2 w1)
    have hhi:wHi vx vx 0<B64:=wHi_lt hc.2.2 hc.2.2 B64_pos
    have hlo:wLo vx vx 0<B64:=wLo_lt _ _ _
    have HS:=Lib.hid (fun f=>sqr_one f vx)
    clear hZ hX hc hv
    go_enter_defers Tryz.func130,Tryz.ntmps130
    go_wp2_with fail
    refine HM.out.mono ?_
    rintro e w1 ⟨a',c',f',rfl,hA',hm,hmod,hfr⟩
    obtain ⟨b,rfl⟩:=hA'.form (by omega)
    have hA1:=hA'.store (i:=1) hhi
    have hA2:=hA1.store (i:=0) hlo
    have v0:=hA'.vec 0 (by omega)
    have v1:=hA'.vec 1 (by omega)
    rw [Nat.zero_add] at v0 v1
    have c0:=v0.1
    have c1:=v1.1
    have f0:=v0.2.1
    have f1:=v1.2.1
    have m2:Mod (InB b) w1 ((w1.setCell ⟨b,1,none⟩ (U (wHi vx vx 0))).setCell ⟨b,0,none⟩ (U (wLo vx vx 0))):=(mod_own w1 b 1 _).trans (mod_own _ b 0 _)
    have HN:=Lib.hid ((norm_any (some ⟨b,0,none⟩) 2 c' _ _ hA2 hm (by omega)).mono fun e w4 h=>mul_tail hmod hfr m2 (HS.out f') h)
    clear hA' hA1 hA2 v0 v1 m2 HM HS
    generalize wHi vx vx 0=hi at *
    generalize wLo vx vx 0=lo at *
    go_wp2_with (go_at_call 148;refine (HW.out _).mono ?_;rintro e w' ⟨rfl,rfl⟩)
    refine HN.out.mono ?_
    rintro e w4 ⟨a,n,c,f,rfl,h1,h2,h3⟩
    have H1:=Lib.hid h1
    clear h1
    go_wp2_with fail
    refine ⟨_,results_tmp rfl _ _ _,?_⟩
    exact .mk H1.out h2 h3
  have hb2:((nx:Int) == 1)=false:=by simp;omega
  have HA1:=Lib.hid (alias_any az (some ⟨bx,0,none⟩) nz cz nx cx fz fx w hZ hX.arr hnz hX.le)
  have HX:=Lib.hid hX
  have HZ:=Lib.hid hZ
  have HG3:=Lib.hid hG3
  have HG4:=Lib.hid hG4
  clear hX hZ hG3 hG4
  go_enter_defers Tryz.func130,Tryz.ntmps130
  go_wp2_with fail
  refine HA1.out.mono ?_
  rintro e w1 ⟨rfl,q1,rfl⟩
  by_cases hnx:az=some ⟨bx,0,none⟩∧0<cz
  · rw [decide_eq_true hnx]
    clear HA1 hnx
    have HM:=Lib.hid (make_any none 0 0 (2*nx) (w.drewN q1) (fun _=>0) (.nil _ _) (Nat.le_refl _) (by omega))
    go_wp2_with fail
    refine HM.out.mono ?_
    rintro e w2 ⟨a',c',f',rfl,hA',hm,hmod,hfr⟩
    obtain ⟨b,rfl⟩:=hA'.form (by omega)
    have m02:Mod NoP w w2:=((Mod.refl NoP w).drewN q1).trans hmod
    have hgl3:w2.cell? ⟨3,0,none⟩=some (.int .i64 12):=m02.cell_some HG3.out fun h=>h
    have hgl4:w2.cell? ⟨4,0,none⟩=some (.int .i64 80):=m02.cell_some HG4.out fun h=>h
    have hxb:bx≠b:=fresh_ne (hfr.resolve_left (by intro h;cases h)) (HX.out.arr.drewN q1)
    have hfr2:some (⟨b,0,none⟩:Addr)=az∨Fresh w (some ⟨b,0,none⟩):=(made_nil hfr).imp id fun h=>h.mono (Nat.le_refl _)
    have HB:=Lib.hid (basicMul_any b (2*nx) c' bx nx cx bx nx cx vx vx f' fx fx w2 hA' (HX.out.mod m02 (Off.noP _)) (HX.out.mod m02 (Off.noP _)) hxb hxb (by omega) (by omega) (by omega) (by omega) hm (by omega))
    have hd2:(nx:Int)<12:=by omega
    have hd3:(nx:Int)<80:=by omega
    have hd:decide ((nx:Int)<12)=true:=decide_eq_true hd2
    clear hA' HM hfr
    go_wp2_with fail
    refine HB.out.mono ?_
    rintro e w3 ⟨rfl,g,hA3,hv3,m3⟩
    have HN:=Lib.hid ((norm_any (some ⟨b,0,none⟩) (2*nx) c' w3 g hA3 hm (by omega)).mono fun e w4 h=>mul_tail m02 hfr2 m3 (show val g (2*nx)=vx*vx by rw [← hv3];congr 1;omega) h)
    clear hA3 HB
    go_wp2_with fail
    refine HN.out.mono ?_
    rintro e w4 ⟨a,n,c,f,rfl,h1,h2,h3⟩
    have H1:=Lib.hid h1
    clear h1
    go_wp2_with fail
    refine ⟨_,results_tmp rfl _ _ _,?_⟩
    exact .mk H1.out h2 h3
  · rw [decide_eq_false hnx]
    have hnx:az≠some ⟨bx,0,none⟩:=by
      intro h
      by_cases hcz0:0<cz
      · exact hnx ⟨h,hcz0⟩
      · obtain rfl:cz=0:=by omega
        rcases HZ.out with ⟨h1,_⟩ | ⟨b',C,t,e,hb,hs,hc⟩
        · rw [h1] at h;cases h
        · have hb0:b'=bx:=by rw [e] at h;simpa using h
          subst hb0
          rcases HX.out.arr with ⟨h2,_⟩ | ⟨b2,C2,t2,e2,hb2',hs2,hc2⟩
          · cases h2
          · obtain rfl:b'=b2:=by simpa using e2
            rw [hb] at hb2'
            obtain ⟨rfl,_⟩:C=C2∧t=t2:=by simpa using hb2'
            have:=HX.out.le
            omega
    clear HA1
    have HM:=Lib.hid (make_any az nz cz (2*nx) (w.drewN q1) fz (HZ.out.drewN _) hnz (by omega))
    go_wp2_with fail
    refine HM.out.mono ?_
    rintro e w2 ⟨a',c',f',rfl,hA',hm,hmod,hfr⟩
    obtain ⟨b,rfl⟩:=hA'.form (by omega)
    have m02:Mod NoP w w2:=((Mod.refl NoP w).drewN q1).trans hmod
    have hgl3:w2.cell? ⟨3,0,none⟩=some (.int .i64 12):=m02.cell_some HG3.out fun h=>h
    have hgl4:w2.cell? ⟨4,0,none⟩=some (.int .i64 80):=m02.cell_some HG4.out fun h=>h
    have hxb:bx≠b:=made_ne hfr (HX.out.arr.drewN q1) hnx
    have hfr2:some (⟨b,0,none⟩:Addr)=az∨Fresh w (some ⟨b,0,none⟩):=(hfr).imp id fun h=>h.mono (Nat.le_refl _)
    have HB:=Lib.hid (basicMul_any b (2*nx) c' bx nx cx bx nx cx vx vx f' fx fx w2 hA' (HX.out.mod m02 (Off.noP _)) (HX.out.mod m02 (Off.noP _)) hxb hxb (by omega) (by omega) (by omega) (by omega) hm (by omega))
    have hd2:(nx:Int)<12:=by omega
    have hd3:(nx:Int)<80:=by omega
    have hd:decide ((nx:Int)<12)=true:=decide_eq_true hd2
    clear hA' HM hfr
    go_wp2_with fail
    refine HB.out.mono ?_
    rintro e w3 ⟨rfl,g,hA3,hv3,m3⟩
    have HN:=Lib.hid ((norm_any (some ⟨b,0,none⟩) (2*nx) c' w3 g hA3 hm (by omega)).mono fun e w4 h=>mul_tail m02 hfr2 m3 (show val g (2*nx)=vx*vx by rw [← hv3];congr 1;omega) h)
    clear hA3 HB
    go_wp2_with fail
    refine HN.out.mono ?_
    rintro e w4 ⟨a,n,c,f,rfl,h1,h2,h3⟩
    have H1:=Lib.hid h1
    clear h1
    go_wp2_with fail
    refine ⟨_,results_tmp rfl _ _ _,?_⟩
    exact .mk H1.out h2 h3
end
section
open Go Go.RowKit
def sg (neg:Bool) (m:Nat):Int:=if neg then -(m:Int) else (m:Int)
theorem sg_true (m:Nat):sg true m = -(m:Int):=rfl
theorem sg_false (m:Nat):sg false m=(m:Int):=rfl
theorem sg_abs (neg:Bool) (m:Nat):(sg neg m).natAbs=m:=by cases neg <;> simp [sg]
theorem sg_self (i:Int):sg (decide (i<0)) i.natAbs=i:=by
  by_cases h:i<0
  · rw [decide_eq_true h,sg_true];omega
  · rw [decide_eq_false h,sg_false];omega
def OwnOk (own:Nat→Option Nat) (w:World):Prop:=∀ k z,k<w.heap.size→own k=some z→z<w.heap.size
def Blk (own:Nat→Option Nat) (p:Nat) (a:Option Addr) (z:Option Nat):Prop:=own p=z∧∀ A,a=some A→own A.block=z
def IntO (own:Nat→Option Nat) (w:World) (p:Nat) (i:Int):Prop :=
  ∃ a n c f,IntIs w p (decide (i<0)) a n c f i.natAbs∧(Blk own p a (some p)∨Blk own p a none)
structure Ext (Z:Nat→Prop) (own own':Nat→Option Nat) (w w':World):Prop where
  old:∀ k,k<w.heap.size→own' k=own k
  mod:Mod (fun k _=>∃ z,Z z∧own k=some z) w w'
  ok:OwnOk own' w'
theorem IntIs.lt {w:World} {p n c m:Nat} {neg:Bool} {a:Option Addr} {f:Nat→Nat} (h:IntIs w p neg a n c f m):p<w.heap.size:=lt_of_heap h.cells
theorem Arr.ltA {w:World} {c:Nat} {a:Option Addr} {f:Nat→Nat} (h:Arr w a c f):∀ A,a=some A→A.block<w.heap.size:=by
  rintro ⟨b,o,s⟩ rfl
  exact h.lt
theorem IntIs.ltA {w:World} {p n c m:Nat} {neg:Bool} {a:Option Addr} {f:Nat→Nat} (h:IntIs w p neg a n c f m):∀ A,a=some A→A.block<w.heap.size:=h.num.arr.ltA
theorem IntO.lt {own:Nat→Option Nat} {w:World} {p:Nat} {i:Int} (h:IntO own w p i):p<w.heap.size:=by
  obtain ⟨a,n,c,f,hI,hB⟩:=h
  exact hI.lt
theorem IntO.keep {own own':Nat→Option Nat} {w w':World} {p:Nat} {i:Int} {Z:Nat→Prop} (h:IntO own w p i) (e:Ext Z own own' w w') (hp:¬ Z p):IntO own' w' p i:=by
  obtain ⟨a,n,c,f,hI,hB⟩:=h
  refine ⟨a,n,c,f,hI.mod e.mod ?_ ?_,?_⟩
  · rintro o ⟨z,hz,hk⟩
    rcases hB with ⟨h1,_⟩ | ⟨h1,_⟩
    · rw [h1] at hk;cases hk;exact hp hz
    · rw [h1] at hk;cases hk
  · rintro A hA o ⟨z,hz,hk⟩
    rcases hB with ⟨_,h2⟩ | ⟨_,h2⟩
    · rw [h2 A hA] at hk;cases hk;exact hp hz
    · rw [h2 A hA] at hk;cases hk
  · rcases hB with ⟨h1,h2⟩ | ⟨h1,h2⟩
    · exact .inl ⟨(e.old _ hI.lt).trans h1,fun A hA=>(e.old _ (hI.ltA A hA)).trans (h2 A hA)⟩
    · exact .inr ⟨(e.old _ hI.lt).trans h1,fun A hA=>(e.old _ (hI.ltA A hA)).trans (h2 A hA)⟩
theorem Ext.trans {Z:Nat→Prop} {o1 o2 o3:Nat→Option Nat} {w1 w2 w3:World} (h:Ext Z o1 o2 w1 w2) (k:Ext Z o2 o3 w2 w3):Ext Z o1 o3 w1 w3 :=
  ⟨fun j hj=>(k.old j (Nat.lt_of_lt_of_le hj h.mod.size)).trans (h.old j hj),h.mod.trans' k.mod fun j o hj ⟨z,hz,e⟩=>⟨z,hz,(h.old j hj).symm.trans e⟩,k.ok⟩
theorem Ext.mono {Z Z':Nat→Prop} {o1 o2:Nat→Option Nat} {w1 w2:World} (h:Ext Z o1 o2 w1 w2) (hz:∀ z,Z z→Z' z):Ext Z' o1 o2 w1 w2 :=
  ⟨h.old,h.mod.mono fun _ _ _ ⟨z,h1,h2⟩=>⟨z,hz z h1,h2⟩,h.ok⟩
theorem Ext.refl {Z:Nat→Prop} {own:Nat→Option Nat} {w:World} (h:OwnOk own w):Ext Z own own w w:=⟨fun _ _=>rfl,.refl _ _,h⟩
theorem Ext.quiet {Z:Nat→Prop} {own:Nat→Option Nat} {w w':World} (h:OwnOk own w) (m:Mod NoP w w'):∃ own',Ext Z own own' w w':=by
  refine ⟨fun k=>if k<w.heap.size then own k else none,fun k hk=>if_pos hk,m.of_none,fun k z hk hz => ?_⟩
  by_cases hl:k<w.heap.size
  · exact Nat.lt_of_lt_of_le (h k z hl ((if_pos hl).symm.trans hz)) m.size
  · have hz':none=some z:=(if_neg hl).symm.trans hz
    cases hz'
theorem Ext.cell {Z:Nat→Prop} {o1 o2:Nat→Option Nat} {w1 w2:World} (h:Ext Z o1 o2 w1 w2) {b o:Nat} {v:Value} (hc:w1.cell? ⟨b,o,none⟩=some v) (hb:∀ z,o1 b=some z→¬ Z z):w2.cell? ⟨b,o,none⟩=some v :=
  h.mod.cell_some hc fun ⟨z,hz,e⟩=>hb z e hz
def OwnRet (own:Nat→Option Nat) (w:World) (z:Nat) (i:Int) (e:Ending) (w':World):Prop :=
  e=.returned (.pointer (some ⟨z,0,none⟩))∧∃ own',Ext (·=z) own own' w w'∧IntO own' w' z i
theorem IntRet.own {own:Nat→Option Nat} {w:World} {z:Nat} {a:Option Addr} {neg:Bool} {v:Nat} {e:Ending} {w':World} {i:Int} (h:IntRet w z a neg v e w') (ok:OwnOk own w) (hz:own z=some z)
    (ha:∀ A,a=some A→own A.block=some z) (hzl:z<w.heap.size) (hal:∀ A,a=some A→A.block<w.heap.size) (hi:neg=decide (i<0)) (hv:v=i.natAbs):OwnRet own w z i e w':=by
  obtain ⟨he,a',n,c,f,hI,hm,hf⟩:=h
  subst hi hv
  refine ⟨he,fun k=>if k<w.heap.size then own k else some z,⟨fun k hk=>if_pos hk,hm.mono ?_,?_⟩,a',n,c,f,hI,.inl ⟨(if_pos hzl).trans hz,?_⟩⟩
  · rintro k o hk (rfl | ⟨A,hA,rfl⟩)
    · exact ⟨_,rfl,hz⟩
    · exact ⟨_,rfl,ha A hA⟩
  · intro k x hk hx
    by_cases hl:k<w.heap.size
    · exact Nat.lt_of_lt_of_le (ok k x hl ((if_pos hl).symm.trans hx)) hm.size
    · have hx':some z=some x:=(if_neg hl).symm.trans hx
      cases hx'
      exact Nat.lt_of_lt_of_le hzl hm.size
  · intro A hA
    rcases hf with rfl | ⟨k,e1,hk⟩
    · show (if A.block<w.heap.size then own A.block else some z)=some z
      rw [if_pos (hal A hA)];exact ha A hA
    · have h5:A.block=k:=congrArg Addr.block (Option.some.inj (hA.symm.trans e1))
      show (if A.block<w.heap.size then own A.block else some z)=some z
      rw [if_neg (by omega)]
structure St (own:Nat→Option Nat) (w:World) (K:Nat) (P:List Nat) (V:List Int):Prop where
  ok:OwnOk own w
  len:P.length=V.length
  ints:∀ (j p:Nat) (i:Int),P[j]? = some p→V[j]? = some i→IntO own w p i
  wr:∀ (j p:Nat),j<K→P[j]? = some p→own p=some p
  inj:∀ (i j p:Nat),P[i]? = some p→P[j]? = some p→i=j
theorem St.lt {own:Nat→Option Nat} {w:World} {K:Nat} {P:List Nat} {V:List Int} (h:St own w K P V) {j p:Nat} (hp:P[j]? = some p):p<w.heap.size:=by
  have hj:j<V.length:=by rw [← h.len];exact (List.getElem?_eq_some_iff.1 hp).1
  exact (h.ints j p V[j] hp (List.getElem?_eq_getElem hj)).lt
theorem St.put {own own':Nat→Option Nat} {w w':World} {K:Nat} {P:List Nat} {V:List Int} (h:St own w K P V) {c z:Nat} {i:Int} (hc:P[c]? = some z) (e:Ext (·=z) own own' w w') (hI:IntO own' w' z i):St own' w' K P (V.set c i):=by
  refine ⟨e.ok,by rw [List.length_set];exact h.len,?_,fun j p hj hp=>(e.old p (h.lt hp)).trans (h.wr j p hj hp),h.inj⟩
  intro j p i' hp hi
  by_cases hj:j=c
  · subst hj
    obtain rfl:p=z:=by rw [hc] at hp;exact (Option.some.inj hp).symm
    have hl:j<V.length:=by rw [← h.len];exact (List.getElem?_eq_some_iff.1 hp).1
    rw [List.getElem?_set_self hl] at hi
    cases hi
    exact hI
  · rw [List.getElem?_set_ne (Ne.symm hj)] at hi
    refine (h.ints j p i' hp hi).keep e fun hpz=>hj (h.inj j c z (hpz ▸ hp) hc)
theorem St.quiet {own own':Nat→Option Nat} {w w':World} {K:Nat} {P:List Nat} {V:List Int} (h:St own w K P V) {Z:Nat→Prop} (e:Ext Z own own' w w') (hZ:∀ (j p:Nat),P[j]? = some p→¬ Z p):St own' w' K P V :=
  ⟨e.ok,h.len,fun j p i hp hi=>(h.ints j p i hp hi).keep e (hZ j p hp),fun j p hj hp=>(e.old p (h.lt hp)).trans (h.wr j p hj hp),h.inj⟩
theorem St.push {own:Nat→Option Nat} {w w':World} {K:Nat} {P:List Nat} {V:List Int} (h:St own w K P V) (m:Mod NoP w w') {p n c:Nat} {i:Int} {a:Option Addr} {f:Nat→Nat}
    (hI:IntIs w' p (decide (i<0)) a n c f i.natAbs) (hp:w.heap.size≤p) (ha:∀ A,a=some A→w.heap.size≤A.block) :
    ∃ own',Ext (fun _=>False) own own' w w'∧St own' w' (K+1) (p :: P) (i :: V):=by
  have hext:Ext (fun _=>False) own (fun k=>if k<w.heap.size then own k else some p) w w':=by
    refine ⟨fun k hk=>if_pos hk,m.of_none,fun k z hk hz => ?_⟩
    by_cases hl:k<w.heap.size
    · exact Nat.lt_of_lt_of_le (h.ok k z hl ((if_pos hl).symm.trans hz)) m.size
    · have hz':some p=some z:=(if_neg hl).symm.trans hz
      cases hz';exact hI.lt
  refine ⟨_,hext,hext.ok,by simp [h.len],?_,?_,?_⟩
  · rintro (_ | j) q i' hq hi
    · simp only [List.getElem?_cons_zero] at hq hi
      cases hq;cases hi
      refine ⟨a,n,c,f,hI,.inl ⟨if_neg (by omega),fun A hA=>if_neg (by have:=ha A hA;omega)⟩⟩
    · simp only [List.getElem?_cons_succ] at hq hi
      exact (h.ints j q i' hq hi).keep hext fun h=>h
  · rintro (_ | j) q hj hq
    · simp only [List.getElem?_cons_zero] at hq
      cases hq
      exact if_neg (by omega)
    · simp only [List.getElem?_cons_succ] at hq
      exact (hext.old q (h.lt hq)).trans (h.wr j q (by omega) hq)
  · rintro (_ | i) (_ | j) q hi hj
    · rfl
    · simp only [List.getElem?_cons_zero,List.getElem?_cons_succ] at hi hj
      cases hi
      have:=h.lt hj
      omega
    · simp only [List.getElem?_cons_zero,List.getElem?_cons_succ] at hi hj
      cases hj
      have:=h.lt hi
      omega
    · simp only [List.getElem?_cons_succ] at hi hj
      rw [h.inj i j q hi hj]
end
section
open Go Go.RowKit
def LawRet (w:World) (e:Ending) (w':World):Prop:=e=.returned (.bool true)∧Mod NoP w w'
end
end Go.Proofs.YtpfmbfkhjapbbaaGreatDoor
