/-
  nlz; a division of two words by one in halves (bitsDiv64). Condition: the divisor's highest bit is set, the quotient has one word.
-/
import Derived.Test.YtpfmbfkhjapbbaaGreatDoorMg02
import Derived.Test.YtpfmbfkhjapbbaaGreatDoorMg10
import Derived.Lib.ItoaNum
import Derived.Deep.RegionHeld3
import Derived.Deep.DeepCutAuto
set_option linter.unusedVariables false
set_option linter.unusedSimpArgs false
namespace Go.Proofs.YtpfmbfkhjapbbaaGreatDoor
open Go Go.RowKit
theorem lz_le (x:Nat):lz x≤64:=by unfold lz;omega
theorem lz_norm {x:Nat} (h0:0<x) (hx:x<B64):lz x<64∧x*2^lz x<B64∧B64≤2*(x*2^lz x):=by
  rw [B64_pow] at hx
  obtain ⟨b1,b2,b3⟩:=Lib.bitLenAux_bounds 64 x hx (by omega)
  unfold lz
  unfold Lib.bitLen
  generalize Lib.bitLenAux 64 x=m at *
  have hm:m≤64:=by
    refine Classical.byContradiction fun h => ?_
    have:2^64≤2^(m - 1):=Nat.pow_le_pow_right (by omega) (by omega)
    omega
  have e1:2^m*2^(64 - m)=B64:=by rw [← Nat.pow_add,show m+(64 - m)=64 by omega,B64_pow]
  have h1:x*2^(64 - m)<2^m*2^(64 - m):=Nat.mul_lt_mul_of_pos_right b3 (Nat.two_pow_pos _)
  have h2:2^(m - 1)*2^(64 - m)≤x*2^(64 - m):=Nat.mul_le_mul_right _ b2
  have e2:2*(2^(m - 1)*2^(64 - m))=B64:=by
    rw [← e1,← Nat.mul_assoc,← Nat.pow_succ',Nat.succ_eq_add_one,show m - 1+1=m by omega]
  refine ⟨by omega,by omega,by omega⟩
theorem nlz_any (x:Nat) (hx:x<B64) (w:World):Calls Tryz.prog 162 #[U x] w fun e w'=>e=.returned (U (lz x))∧w'=w:=by
  have H:=Lib.hid (fun w=>Tryz.bits_LeadingZeros (x:Int) w (by omega) (by rw [B64_eq] at hx;omega))
  have hb:Lib.bitLen x≤64:=Lib.bitLen_le x 64 (by omega) (by rw [← B64_pow];exact hx)
  have hr:=Lib.hid (show (64 - (Lib.bitLen x:Int))=((lz x:Nat):Int) by unfold lz;omega)
  have hl:=lz_le x
  rw [show ((x:Int)).toNat=x by omega,hr.out] at H
  generalize lz x=l at *
  clear hr hb
  go_enter Tryz.func162,Tryz.ntmps162
  go_wp2_with (go_at_call 190;refine (H.out _).mono ?_;rintro e w' ⟨rfl,rfl⟩)
  go_ret
  exact ⟨rfl,rfl⟩
theorem tdiv_nat (a b:Nat):(a:Int).tdiv (b:Int)=((a/b:Nat):Int):=rfl
theorem tmod_nat (a b:Nat):(a:Int).tmod (b:Int)=((a%b:Nat):Int):=rfl
set_option maxRecDepth 100000 in
set_option maxHeartbeats 16000000 in
theorem bitsDiv64_any (hi lo y:Nat) (hh:hi<y) (hl:lo<B64) (hy:y<B64) (hn:B64≤2*y) (w:World) :
    Calls Tryz.prog 207 #[U hi,U lo,U y] w fun e w'=>e=.returned (.tuple #[U ((hi*B64+lo)/y),U ((hi*B64+lo)%y)])∧∃ k,w'=w.drewN k:=by
  have y0:((y:Int) == 0)=false:=by simp;omega
  have yz:¬ (y:Int)=0:=by omega
  have yh:¬ (y:Int)≤(hi:Int):=by omega
  have hlz:lz y=0:=by
    refine Classical.byContradiction fun h => ?_
    have h1:=(lz_norm (x:=y) (by omega) hy).2.1
    have:y*2^1≤y*2^lz y:=Nat.mul_le_mul_left _ (Nat.pow_le_pow_right (by omega) (by omega))
    omega
  by_cases h0:hi=0
  · subst h0
    rw [Nat.zero_mul,Nat.zero_add]
    have e1:IntKind.u64.wrap ((lo:Int).tdiv (y:Int))=((lo/y:Nat):Int):=by
      have:=Nat.div_le_self lo y
      rw [B64_eq] at hl
      rw [IntKind.wrap_u64,tdiv_nat];generalize lo/y=D at *;omega
    have e2:IntKind.u64.wrap ((lo:Int).tmod (y:Int))=((lo%y:Nat):Int):=by
      have:=Nat.mod_le lo y
      rw [B64_eq] at hl
      rw [IntKind.wrap_u64,tmod_nat];generalize lo%y=D at *;omega
    have e3:IntKind.u64.wrap ((lo:Int)/(y:Int))=((lo/y:Nat):Int):=e1
    have e4:IntKind.u64.wrap ((lo:Int)%(y:Int))=((lo%y:Nat):Int):=e2
    have e5:((lo:Int)%(y:Int))=((lo%y:Nat):Int):=rfl
    have E5:=Lib.hid e5
    generalize lo/y=dq at *
    generalize lo%y=dr at *
    clear hlz
    go_enter Tryz.func207,Tryz.ntmps207
    go_wp2_with fail
    go_quiet (fail)
    go_wp2_with fail
    go_ret2
    exact ⟨by show Ending.returned (Value.tuple #[U dq,.int .u64 ((lo:Int)%(y:Int))])=_;rw [E5.out],_,rfl⟩
  have hi0:((hi:Int) == 0)=false:=by simp;omega
  have HL:=Lib.hid (fun w=>Tryz.bits_LeadingZeros64 (y:Int) w (by omega) (by rw [B64_eq] at hy;omega))
  have hlb:(64 - (Lib.bitLen y:Int))=0:=by
    have hb:Lib.bitLen y≤64:=Lib.bitLen_le y 64 (by omega) (by rw [← B64_pow];exact hy)
    unfold lz at hlz
    omega
  rw [show ((y:Int)).toNat=y by omega,hlb] at HL
  obtain ⟨yn1,hyn1⟩:∃ k,k=y/4294967296:=⟨_,rfl⟩
  obtain ⟨yn0,hyn0⟩:∃ k,k=y%4294967296:=⟨_,rfl⟩
  obtain ⟨lo1,hlo1⟩:∃ k,k=lo/4294967296:=⟨_,rfl⟩
  obtain ⟨lo0,hlo0e⟩:∃ k,k=lo%4294967296:=⟨_,rfl⟩
  have HY:=Lib.hid (show y=yn1*H32+yn0 by rw [H32_eq];omega)
  have HLO:=Lib.hid (show lo=lo1*H32+lo0 by rw [H32_eq];omega)
  have c1:IntKind.u64.wrap (y:Int)=(y:Int):=by rw [B64_eq] at hy;rw [IntKind.wrap_u64];omega
  have c2:IntKind.u64.wrap (hi:Int)=(hi:Int):=by rw [B64_eq] at hy;rw [IntKind.wrap_u64];omega
  have c3:IntKind.u64.wrap (lo:Int)=(lo:Int):=by rw [B64_eq] at hl;rw [IntKind.wrap_u64];omega
  have c4:(y:Int)/4294967296=(yn1:Int):=by omega
  have c5:(lo:Int)/4294967296=(lo1:Int):=by omega
  have c6:(lo:Int)/18446744073709551616=0:=by rw [B64_eq] at hl;omega
  have hand:=fun (x:Nat) (hx:x<B64)=>(bits_nat .u64 64 (by decide) (fun n h₀ h₁=>by rw [IntKind.wrap_u64];omega) x 4294967295 (by rw [← B64_pow];exact hx) (by decide)).1
  have hmask:∀ x:Nat,x &&& 4294967295=x%4294967296:=fun x=>Nat.and_two_pow_sub_one_eq_mod x 32
  have c7:bits .and .u64 (y:Int) 4294967295=(yn0:Int):=by
    have:=hand y hy
    rw [hmask,← hyn0] at this
    exact this
  have c8:bits .and .u64 (lo:Int) 4294967295=(lo0:Int):=by
    have:=hand lo hl
    rw [hmask,← hlo0e] at this
    exact this
  have c9:bits .or .u64 (hi:Int) 0=(hi:Int):=by
    have:=(bits_nat .u64 64 (by decide) (fun n h₀ h₁=>by rw [IntKind.wrap_u64];omega) hi 0 (by rw [← B64_pow];omega) (by decide)).2
    rw [Nat.or_zero] at this
    exact this
  have hlo0':lo0<4294967296:=by omega
  have HI1:=Lib.hid (show HalfIn yn1 yn0 hi lo1 from ⟨by rw [H32_eq];rw [B64_eq] at hn;omega,by rw [H32_eq];rw [B64_eq] at hy;omega,by rw [H32_eq];omega,by rw [← HY.out];exact hh,by rw [H32_eq];rw [B64_eq] at hl;omega⟩)
  have hlo0:=hlo0'
  have hyn:¬ (yn1:Int)=0:=by rw [B64_eq] at hn;omega
  have d1:IntKind.u64.wrap ((hi:Int).tdiv (yn1:Int))=((hi/yn1:Nat):Int):=by
    rw [B64_eq] at hy
    have:=Nat.div_le_self hi yn1
    rw [IntKind.wrap_u64,tdiv_nat]
    generalize hi/yn1=D at *
    omega
  have d2:IntKind.u64.wrap (((hi/yn1:Nat):Int)*(yn1:Int))=((hi/yn1*yn1:Nat):Int):=by
    rw [B64_eq] at hy
    have:=Nat.div_mul_le_self hi yn1
    rw [IntKind.wrap_u64,← Int.natCast_mul]
    generalize hi/yn1*yn1=D at *
    omega
  have d3:IntKind.u64.wrap ((hi:Int) - ((hi/yn1*yn1:Nat):Int))=((hi%yn1:Nat):Int):=by
    rw [B64_eq] at hy
    have h1:=Nat.div_add_mod hi yn1
    rw [Nat.mul_comm] at h1
    rw [IntKind.wrap_u64]
    generalize hi/yn1*yn1=P at *
    generalize hi%yn1=Q at *
    omega
  have d4:IntKind.u64.wrap ((hi:Int)/(yn1:Int))=((hi/yn1:Nat):Int):=d1
  have HS1:=Lib.hid HI1.out.start
  generalize hD1:hi/yn1=k1 at *
  generalize hD2:hi%yn1=k2 at *
  generalize hD3:k1*yn1=k3 at *
  clear hD1 hD2 hD3 hand hmask hyn1 hyn0 hlo1 hlb hlz hlo0' hlo0e
  go_enter Tryz.func207,Tryz.ntmps207
  go_wp2_with (go_at_call 210;refine (HL.out _).mono ?_;rintro e w' ⟨rfl,rfl⟩)
  go_loop [15,16] (fun a c=>∃ q r:Nat,a=U q∧c=U r∧Hid (HalfSt yn1 yn0 hi lo1 q r)) (fun a _=>(intOf a).toNat)
  case atStart=>exact ⟨_,_,rfl,rfl,HS1.out⟩
  case round =>
    obtain ⟨q,r,rfl,rfl,hst⟩:=hrel
    have hqle:=HI1.out.q_le hst.out.e
    have hrl:=hst.out.rl
    have hnl:=HI1.out.l0
    have hn1:=HI1.out.l1
    have hul:=HI1.out.u
    rw [H32_eq] at hqle hrl hnl hn1 hul
    obtain ⟨p,hp⟩:∃ p,p=q*yn0:=⟨_,rfl⟩
    have hpl:p≤4294967297*4294967295:=by rw [hp];exact Nat.mul_le_mul hqle (by omega)
    have e1:IntKind.u64.wrap ((q:Int)*(yn0:Int))=(p:Int):=by
      rw [IntKind.wrap_u64,← Int.natCast_mul,← hp];omega
    obtain ⟨s,hs⟩:∃ s,s=4294967296*r:=⟨_,rfl⟩
    have e2:IntKind.u64.wrap (4294967296*(r:Int))=(s:Int):=by rw [IntKind.wrap_u64,hs];omega
    obtain ⟨v,hv⟩:∃ v,v=s+lo1:=⟨_,rfl⟩
    have e3:IntKind.u64.wrap ((s:Int)+(lo1:Int))=(v:Int):=by rw [IntKind.wrap_u64,hv];omega
    have hvl:v<18446744073709551616:=by omega
    have HV:=Lib.hid (show v=r*H32+lo1 by rw [hv,hs,H32_eq,Nat.mul_comm])
    have HP:=Lib.hid hp
    clear hp hs hv
    by_cases hc:4294967296≤q∨v<p
    · have hstep:=HI1.out.step hst.out (by rw [H32_eq] at *;rw [HV.out,HP.out] at hc;exact hc)
      have HS:=Lib.hid hstep.2
      have hq0:=hstep.1
      have e4:IntKind.u64.wrap ((q:Int) - 1)=((q - 1:Nat):Int):=by rw [IntKind.wrap_u64];omega
      have e5:IntKind.u64.wrap ((r:Int)+(yn1:Int))=((r+yn1:Nat):Int):=by rw [IntKind.wrap_u64];omega
      obtain ⟨qq,hqq⟩:∃ k,k=q - 1:=⟨_,rfl⟩
      obtain ⟨rr,hrr⟩:∃ k,k=r+yn1:=⟨_,rfl⟩
      rw [← hqq] at e4
      rw [← hrr] at e5
      have HQ:=Lib.hid hqq
      have HR:=Lib.hid hrr
      have HQ1:=Lib.hid (show q=qq+1 by omega)
      have hqm:qq<q:=by omega
      clear hstep hqq hrr
      by_cases hbr:rr<4294967296
      · have hb2:¬ (4294967296:Int)≤(rr:Int):=by omega
        by_cases hc1:4294967296≤q
        · have hc2:(4294967296:Int)≤(q:Int):=by omega
          clear hc hc1 hbr
          go_wp2_with fail
          go_round
          case rel=>exact ⟨qq,rr,rfl,rfl,⟨by rw [HQ.out,HR.out];exact HS.out.1,by rw [← HQ1.out];exact HS.out.2,by rw [H32_eq];omega⟩⟩
          case measure=>simp [intOf];omega
        · have hc2:¬ (4294967296:Int)≤(q:Int):=by omega
          have hc3:(v:Int)<(p:Int):=by omega
          clear hc hc1 hbr
          go_wp2_with fail
          go_round
          case rel=>exact ⟨qq,rr,rfl,rfl,⟨by rw [HQ.out,HR.out];exact HS.out.1,by rw [← HQ1.out];exact HS.out.2,by rw [H32_eq];omega⟩⟩
          case measure=>simp [intOf];omega
      · have hb2:(4294967296:Int)≤(rr:Int):=by omega
        have HF2:=HI1.out.fin2 (q:=qq) (r:=rr) (by rw [HQ.out,HR.out];exact HS.out.1) (by rw [← HQ1.out];exact HS.out.2) (by rw [H32_eq];omega) (by rw [H32_eq];omega)
        clear HQ HR HQ1 HS hst HV HP hqm
        by_cases hc1:4294967296≤q
        · have hc2:(4294967296:Int)≤(q:Int):=by omega
          clear hc hc1 hbr
          have F1:=HF2
          clear HF2
          obtain ⟨q1,hq1e⟩:∃ k,k=qq:=⟨_,rfl⟩
          obtain ⟨R1,hR1⟩:∃ k,k=hi*H32+lo1 - qq*y:=⟨_,rfl⟩
          have hRlt:R1<y:=by
            have hd:=Nat.div_add_mod (hi*H32+lo1) (yn1*H32+yn0)
            have hm:=Nat.mod_lt (hi*H32+lo1) (show 0<yn1*H32+yn0 by have:=HI1.out.n1;rw [H32_eq] at *;omega)
            rw [F1.1,Nat.mul_comm,← HY.out] at hd
            rw [← HY.out] at hm
            omega
          have hFle:qq*y≤hi*H32+lo1:=by rw [HY.out];exact F1.2.1
          obtain ⟨x1,hx1⟩:∃ z,z=hi*4294967296%18446744073709551616:=⟨_,rfl⟩
          have a1:IntKind.u64.wrap ((hi:Int)*4294967296)=(x1:Int):=by rw [IntKind.wrap_u64,hx1];omega
          obtain ⟨x2,hx2⟩:∃ z,z=(x1+lo1)%18446744073709551616:=⟨_,rfl⟩
          have a2:IntKind.u64.wrap ((x1:Int)+(lo1:Int))=(x2:Int):=by rw [IntKind.wrap_u64,hx2];omega
          obtain ⟨x3,hx3⟩:∃ z,z=qq*y%18446744073709551616:=⟨_,rfl⟩
          have a3:IntKind.u64.wrap ((qq:Int)*(y:Int))=(x3:Int):=by
            rw [IntKind.wrap_u64,hx3,← Int.natCast_mul]
            generalize qq*y=P
            omega
          have a4:IntKind.u64.wrap ((x2:Int) - (x3:Int))=(R1:Int):=by
            rw [B64_eq] at hy
            rw [H32_eq] at hR1 hFle
            rw [IntKind.wrap_u64,hx2,hx1,hx3,hR1]
            rw [hR1] at hRlt
            generalize qq*y=P at *
            omega
          have HR1:=Lib.hid hR1
          have HI2:=Lib.hid (show HalfIn yn1 yn0 R1 lo0 from ⟨HI1.out.n1,HI1.out.l1,HI1.out.l0,by rw [← HY.out];exact hRlt,by rw [H32_eq];exact hlo0⟩)
          subst hq1e
          clear hx1 hx2 hx3 hR1 hFle
          have a5:IntKind.u64.wrap ((R1:Int).tdiv (yn1:Int))=((R1/yn1:Nat):Int):=by
            rw [B64_eq] at hy
            have:=Nat.div_le_self R1 yn1
            rw [IntKind.wrap_u64,tdiv_nat]
            generalize R1/yn1=D at *
            omega
          have a6:IntKind.u64.wrap (((R1/yn1:Nat):Int)*(yn1:Int))=((R1/yn1*yn1:Nat):Int):=by
            rw [B64_eq] at hy
            have:=Nat.div_mul_le_self R1 yn1
            rw [IntKind.wrap_u64,← Int.natCast_mul]
            generalize R1/yn1*yn1=D at *
            omega
          have a7:IntKind.u64.wrap ((R1:Int) - ((R1/yn1*yn1:Nat):Int))=((R1%yn1:Nat):Int):=by
            rw [B64_eq] at hy
            have h1:=Nat.div_add_mod R1 yn1
            rw [Nat.mul_comm] at h1
            rw [IntKind.wrap_u64]
            generalize R1/yn1*yn1=P at *
            generalize R1%yn1=Q at *
            omega
          have a8:IntKind.u64.wrap ((R1:Int)/(yn1:Int))=((R1/yn1:Nat):Int):=a5
          have HS0:=Lib.hid HI2.out.start
          generalize hD1:R1/yn1=d1 at *
          generalize hD2:R1%yn1=d2 at *
          generalize hD3:d1*yn1=d3 at *
          clear hD1 hD2 hD3
          go_wp2_with fail
          go_loop [18,16] (fun a c=>∃ q r:Nat,a=U q∧c=U r∧Hid (HalfSt yn1 yn0 R1 lo0 q r)) (fun a _=>(intOf a).toNat)
          case atStart=>exact ⟨_,_,rfl,rfl,HS0.out⟩
          case round =>
            obtain ⟨q,r,rfl,rfl,hst⟩:=hrel
            have hqle:=HI2.out.q_le hst.out.e
            have hrl:=hst.out.rl
            have hnl:=HI2.out.l0
            have hn1:=HI2.out.l1
            have hul:=HI2.out.u
            rw [H32_eq] at hqle hrl hnl hn1 hul
            obtain ⟨p,hp⟩:∃ p,p=q*yn0:=⟨_,rfl⟩
            have hpl:p≤4294967297*4294967295:=by rw [hp];exact Nat.mul_le_mul hqle (by omega)
            have e1:IntKind.u64.wrap ((q:Int)*(yn0:Int))=(p:Int):=by
              rw [IntKind.wrap_u64,← Int.natCast_mul,← hp];omega
            obtain ⟨s,hs⟩:∃ s,s=4294967296*r:=⟨_,rfl⟩
            have e2:IntKind.u64.wrap (4294967296*(r:Int))=(s:Int):=by rw [IntKind.wrap_u64,hs];omega
            obtain ⟨v,hv⟩:∃ v,v=s+lo0:=⟨_,rfl⟩
            have e3:IntKind.u64.wrap ((s:Int)+(lo0:Int))=(v:Int):=by rw [IntKind.wrap_u64,hv];omega
            have hvl:v<18446744073709551616:=by omega
            have HV:=Lib.hid (show v=r*H32+lo0 by rw [hv,hs,H32_eq,Nat.mul_comm])
            have HP:=Lib.hid hp
            clear hp hs hv
            by_cases hc:4294967296≤q∨v<p
            · have hstep:=HI2.out.step hst.out (by rw [H32_eq] at *;rw [HV.out,HP.out] at hc;exact hc)
              have HS:=Lib.hid hstep.2
              have hq0:=hstep.1
              have e4:IntKind.u64.wrap ((q:Int) - 1)=((q - 1:Nat):Int):=by rw [IntKind.wrap_u64];omega
              have e5:IntKind.u64.wrap ((r:Int)+(yn1:Int))=((r+yn1:Nat):Int):=by rw [IntKind.wrap_u64];omega
              obtain ⟨qq,hqq⟩:∃ k,k=q - 1:=⟨_,rfl⟩
              obtain ⟨rr,hrr⟩:∃ k,k=r+yn1:=⟨_,rfl⟩
              rw [← hqq] at e4
              rw [← hrr] at e5
              have HQ:=Lib.hid hqq
              have HR:=Lib.hid hrr
              have HQ1:=Lib.hid (show q=qq+1 by omega)
              have hqm:qq<q:=by omega
              clear hstep hqq hrr
              by_cases hbr:rr<4294967296
              · have hb2:¬ (4294967296:Int)≤(rr:Int):=by omega
                by_cases hc1:4294967296≤q
                · have hc2:(4294967296:Int)≤(q:Int):=by omega
                  clear hc hc1 hbr
                  go_wp2_with fail
                  go_round
                  case rel=>exact ⟨qq,rr,rfl,rfl,⟨by rw [HQ.out,HR.out];exact HS.out.1,by rw [← HQ1.out];exact HS.out.2,by rw [H32_eq];omega⟩⟩
                  case measure=>simp [intOf];omega
                · have hc2:¬ (4294967296:Int)≤(q:Int):=by omega
                  have hc3:(v:Int)<(p:Int):=by omega
                  clear hc hc1 hbr
                  go_wp2_with fail
                  go_round
                  case rel=>exact ⟨qq,rr,rfl,rfl,⟨by rw [HQ.out,HR.out];exact HS.out.1,by rw [← HQ1.out];exact HS.out.2,by rw [H32_eq];omega⟩⟩
                  case measure=>simp [intOf];omega
              · have hb2:(4294967296:Int)≤(rr:Int):=by omega
                have HF2:=HI2.out.fin2 (q:=qq) (r:=rr) (by rw [HQ.out,HR.out];exact HS.out.1) (by rw [← HQ1.out];exact HS.out.2) (by rw [H32_eq];omega) (by rw [H32_eq];omega)
                clear HQ HR HQ1 HS hst HV HP hqm
                by_cases hc1:4294967296≤q
                · have hc2:(4294967296:Int)≤(q:Int):=by omega
                  clear hc hc1 hbr
                  have HG:=HF2
                  rw [HR1.out,HY.out] at HG
                  have hpos:0<yn1*H32+yn0:=by
                    have:=HI1.out.n1
                    rw [H32_eq] at *
                    omega
                  have HJ:=Lib.hid (half_join F1.1 F1.2.1 HG.1 HG.2.1 hpos)
                  clear HG
                  have hml:=Nat.mod_lt (hi*B64+(lo1*H32+lo0)) hpos
                  clear hpos
                  rw [HJ.out.2,← HY.out] at hml
                  have hq1:=F1.2.2
                  have hq0:=HF2.2.2
                  have b1:IntKind.u64.wrap ((q1:Int)*4294967296)=((q1*4294967296:Nat):Int):=by rw [IntKind.wrap_u64];rw [H32_eq] at hq1;omega
                  obtain ⟨z1,hz1⟩:∃ z,z=q1*4294967296:=⟨_,rfl⟩
                  rw [← hz1] at b1
                  have b2:IntKind.u64.wrap ((z1:Int)+(qq:Int))=((z1+qq:Nat):Int):=by rw [IntKind.wrap_u64];rw [H32_eq] at hq1 hq0;omega
                  obtain ⟨z2,hz2⟩:∃ z,z=z1+qq:=⟨_,rfl⟩
                  rw [← hz2] at b2
                  
                  obtain ⟨z3,hz3⟩:∃ z,z=R1*4294967296%18446744073709551616:=⟨_,rfl⟩
                  have b3:IntKind.u64.wrap ((R1:Int)*4294967296)=(z3:Int):=by rw [IntKind.wrap_u64,hz3];omega
                  obtain ⟨z4,hz4⟩:∃ z,z=(z3+lo0)%18446744073709551616:=⟨_,rfl⟩
                  have b4:IntKind.u64.wrap ((z3:Int)+(lo0:Int))=(z4:Int):=by rw [IntKind.wrap_u64,hz4];omega
                  obtain ⟨z5,hz5⟩:∃ z,z=qq*y%18446744073709551616:=⟨_,rfl⟩
                  have b5:IntKind.u64.wrap ((qq:Int)*(y:Int))=(z5:Int):=by
                    rw [IntKind.wrap_u64,hz5,← Int.natCast_mul]
                    generalize qq*y=P
                    omega
                  obtain ⟨z6,hz6⟩:∃ z,z=R1*H32+lo0 - qq*y:=⟨_,rfl⟩
                  have hle6:qq*y≤R1*H32+lo0:=by rw [HY.out];exact HF2.2.1
                  have hlt6:z6<y:=by rw [hz6,HR1.out];exact hml
                  have b6:IntKind.u64.wrap ((z4:Int) - (z5:Int))=(z6:Int):=by
                    rw [B64_eq] at hy
                    rw [H32_eq] at hz6 hle6
                    rw [IntKind.wrap_u64,hz4,hz3,hz5,hz6]
                    rw [hz6] at hlt6
                    generalize qq*y=P at *
                    omega
                  have b7:IntKind.u64.wrap (z6:Int)=(z6:Int):=by rw [B64_eq] at hy;rw [IntKind.wrap_u64];omega
                  have HZ2:=Lib.hid (show z2=(hi*B64+lo)/y by rw [HLO.out,HY.out,HJ.out.1,hz2,hz1,H32_eq])
                  have HZ6:=Lib.hid (show z6=(hi*B64+lo)%y by
                    have h:=HJ.out.2
                    rw [← HY.out] at h
                    rw [HLO.out,h,hz6]
                    conv=>lhs;rw [HR1.out])
                  clear hz1 hz2 hz3 hz4 hz5 hz6 hml HJ HF2 F1 hle6 hlt6
                  go_wp2_with fail
                  go_ret2
                  exact ⟨show Ending.returned (Value.tuple #[U z2,U z6])=_ by rw [HZ2.out,HZ6.out],0,rfl⟩
                · have hc2:¬ (4294967296:Int)≤(q:Int):=by omega
                  have hc3:(v:Int)<(p:Int):=by omega
                  clear hc hc1 hbr
                  have HG:=HF2
                  rw [HR1.out,HY.out] at HG
                  have hpos:0<yn1*H32+yn0:=by
                    have:=HI1.out.n1
                    rw [H32_eq] at *
                    omega
                  have HJ:=Lib.hid (half_join F1.1 F1.2.1 HG.1 HG.2.1 hpos)
                  clear HG
                  have hml:=Nat.mod_lt (hi*B64+(lo1*H32+lo0)) hpos
                  clear hpos
                  rw [HJ.out.2,← HY.out] at hml
                  have hq1:=F1.2.2
                  have hq0:=HF2.2.2
                  have b1:IntKind.u64.wrap ((q1:Int)*4294967296)=((q1*4294967296:Nat):Int):=by rw [IntKind.wrap_u64];rw [H32_eq] at hq1;omega
                  obtain ⟨z1,hz1⟩:∃ z,z=q1*4294967296:=⟨_,rfl⟩
                  rw [← hz1] at b1
                  have b2:IntKind.u64.wrap ((z1:Int)+(qq:Int))=((z1+qq:Nat):Int):=by rw [IntKind.wrap_u64];rw [H32_eq] at hq1 hq0;omega
                  obtain ⟨z2,hz2⟩:∃ z,z=z1+qq:=⟨_,rfl⟩
                  rw [← hz2] at b2
                  
                  obtain ⟨z3,hz3⟩:∃ z,z=R1*4294967296%18446744073709551616:=⟨_,rfl⟩
                  have b3:IntKind.u64.wrap ((R1:Int)*4294967296)=(z3:Int):=by rw [IntKind.wrap_u64,hz3];omega
                  obtain ⟨z4,hz4⟩:∃ z,z=(z3+lo0)%18446744073709551616:=⟨_,rfl⟩
                  have b4:IntKind.u64.wrap ((z3:Int)+(lo0:Int))=(z4:Int):=by rw [IntKind.wrap_u64,hz4];omega
                  obtain ⟨z5,hz5⟩:∃ z,z=qq*y%18446744073709551616:=⟨_,rfl⟩
                  have b5:IntKind.u64.wrap ((qq:Int)*(y:Int))=(z5:Int):=by
                    rw [IntKind.wrap_u64,hz5,← Int.natCast_mul]
                    generalize qq*y=P
                    omega
                  obtain ⟨z6,hz6⟩:∃ z,z=R1*H32+lo0 - qq*y:=⟨_,rfl⟩
                  have hle6:qq*y≤R1*H32+lo0:=by rw [HY.out];exact HF2.2.1
                  have hlt6:z6<y:=by rw [hz6,HR1.out];exact hml
                  have b6:IntKind.u64.wrap ((z4:Int) - (z5:Int))=(z6:Int):=by
                    rw [B64_eq] at hy
                    rw [H32_eq] at hz6 hle6
                    rw [IntKind.wrap_u64,hz4,hz3,hz5,hz6]
                    rw [hz6] at hlt6
                    generalize qq*y=P at *
                    omega
                  have b7:IntKind.u64.wrap (z6:Int)=(z6:Int):=by rw [B64_eq] at hy;rw [IntKind.wrap_u64];omega
                  have HZ2:=Lib.hid (show z2=(hi*B64+lo)/y by rw [HLO.out,HY.out,HJ.out.1,hz2,hz1,H32_eq])
                  have HZ6:=Lib.hid (show z6=(hi*B64+lo)%y by
                    have h:=HJ.out.2
                    rw [← HY.out] at h
                    rw [HLO.out,h,hz6]
                    conv=>lhs;rw [HR1.out])
                  clear hz1 hz2 hz3 hz4 hz5 hz6 hml HJ HF2 F1 hle6 hlt6
                  go_wp2_with fail
                  go_ret2
                  exact ⟨show Ending.returned (Value.tuple #[U z2,U z6])=_ by rw [HZ2.out,HZ6.out],0,rfl⟩
            · have hc2:¬ (4294967296:Int)≤(q:Int):=by omega
              have hc3:¬ (v:Int)<(p:Int):=by omega
              have HF2:=HI2.out.fin (q:=q) (r:=r) hst.out.e hst.out.hi (by rw [← HV.out,← HP.out];omega)
              clear hst HV HP hc
              have HG:=HF2
              rw [HR1.out,HY.out] at HG
              have hpos:0<yn1*H32+yn0:=by
                have:=HI1.out.n1
                rw [H32_eq] at *
                omega
              have HJ:=Lib.hid (half_join F1.1 F1.2.1 HG.1 HG.2.1 hpos)
              clear HG
              have hml:=Nat.mod_lt (hi*B64+(lo1*H32+lo0)) hpos
              clear hpos
              rw [HJ.out.2,← HY.out] at hml
              have hq1:=F1.2.2
              have hq0:=HF2.2.2
              have b1:IntKind.u64.wrap ((q1:Int)*4294967296)=((q1*4294967296:Nat):Int):=by rw [IntKind.wrap_u64];rw [H32_eq] at hq1;omega
              obtain ⟨z1,hz1⟩:∃ z,z=q1*4294967296:=⟨_,rfl⟩
              rw [← hz1] at b1
              have b2:IntKind.u64.wrap ((z1:Int)+(q:Int))=((z1+q:Nat):Int):=by rw [IntKind.wrap_u64];rw [H32_eq] at hq1 hq0;omega
              obtain ⟨z2,hz2⟩:∃ z,z=z1+q:=⟨_,rfl⟩
              rw [← hz2] at b2
              
              obtain ⟨z3,hz3⟩:∃ z,z=R1*4294967296%18446744073709551616:=⟨_,rfl⟩
              have b3:IntKind.u64.wrap ((R1:Int)*4294967296)=(z3:Int):=by rw [IntKind.wrap_u64,hz3];omega
              obtain ⟨z4,hz4⟩:∃ z,z=(z3+lo0)%18446744073709551616:=⟨_,rfl⟩
              have b4:IntKind.u64.wrap ((z3:Int)+(lo0:Int))=(z4:Int):=by rw [IntKind.wrap_u64,hz4];omega
              obtain ⟨z5,hz5⟩:∃ z,z=q*y%18446744073709551616:=⟨_,rfl⟩
              have b5:IntKind.u64.wrap ((q:Int)*(y:Int))=(z5:Int):=by
                rw [IntKind.wrap_u64,hz5,← Int.natCast_mul]
                generalize q*y=P
                omega
              obtain ⟨z6,hz6⟩:∃ z,z=R1*H32+lo0 - q*y:=⟨_,rfl⟩
              have hle6:q*y≤R1*H32+lo0:=by rw [HY.out];exact HF2.2.1
              have hlt6:z6<y:=by rw [hz6,HR1.out];exact hml
              have b6:IntKind.u64.wrap ((z4:Int) - (z5:Int))=(z6:Int):=by
                rw [B64_eq] at hy
                rw [H32_eq] at hz6 hle6
                rw [IntKind.wrap_u64,hz4,hz3,hz5,hz6]
                rw [hz6] at hlt6
                generalize q*y=P at *
                omega
              have b7:IntKind.u64.wrap (z6:Int)=(z6:Int):=by rw [B64_eq] at hy;rw [IntKind.wrap_u64];omega
              have HZ2:=Lib.hid (show z2=(hi*B64+lo)/y by rw [HLO.out,HY.out,HJ.out.1,hz2,hz1,H32_eq])
              have HZ6:=Lib.hid (show z6=(hi*B64+lo)%y by
                have h:=HJ.out.2
                rw [← HY.out] at h
                rw [HLO.out,h,hz6]
                conv=>lhs;rw [HR1.out])
              clear hz1 hz2 hz3 hz4 hz5 hz6 hml HJ HF2 F1 hle6 hlt6
              go_wp2_with fail
              go_ret2
              exact ⟨show Ending.returned (Value.tuple #[U z2,U z6])=_ by rw [HZ2.out,HZ6.out],0,rfl⟩
        · have hc2:¬ (4294967296:Int)≤(q:Int):=by omega
          have hc3:(v:Int)<(p:Int):=by omega
          clear hc hc1 hbr
          have F1:=HF2
          clear HF2
          obtain ⟨q1,hq1e⟩:∃ k,k=qq:=⟨_,rfl⟩
          obtain ⟨R1,hR1⟩:∃ k,k=hi*H32+lo1 - qq*y:=⟨_,rfl⟩
          have hRlt:R1<y:=by
            have hd:=Nat.div_add_mod (hi*H32+lo1) (yn1*H32+yn0)
            have hm:=Nat.mod_lt (hi*H32+lo1) (show 0<yn1*H32+yn0 by have:=HI1.out.n1;rw [H32_eq] at *;omega)
            rw [F1.1,Nat.mul_comm,← HY.out] at hd
            rw [← HY.out] at hm
            omega
          have hFle:qq*y≤hi*H32+lo1:=by rw [HY.out];exact F1.2.1
          obtain ⟨x1,hx1⟩:∃ z,z=hi*4294967296%18446744073709551616:=⟨_,rfl⟩
          have a1:IntKind.u64.wrap ((hi:Int)*4294967296)=(x1:Int):=by rw [IntKind.wrap_u64,hx1];omega
          obtain ⟨x2,hx2⟩:∃ z,z=(x1+lo1)%18446744073709551616:=⟨_,rfl⟩
          have a2:IntKind.u64.wrap ((x1:Int)+(lo1:Int))=(x2:Int):=by rw [IntKind.wrap_u64,hx2];omega
          obtain ⟨x3,hx3⟩:∃ z,z=qq*y%18446744073709551616:=⟨_,rfl⟩
          have a3:IntKind.u64.wrap ((qq:Int)*(y:Int))=(x3:Int):=by
            rw [IntKind.wrap_u64,hx3,← Int.natCast_mul]
            generalize qq*y=P
            omega
          have a4:IntKind.u64.wrap ((x2:Int) - (x3:Int))=(R1:Int):=by
            rw [B64_eq] at hy
            rw [H32_eq] at hR1 hFle
            rw [IntKind.wrap_u64,hx2,hx1,hx3,hR1]
            rw [hR1] at hRlt
            generalize qq*y=P at *
            omega
          have HR1:=Lib.hid hR1
          have HI2:=Lib.hid (show HalfIn yn1 yn0 R1 lo0 from ⟨HI1.out.n1,HI1.out.l1,HI1.out.l0,by rw [← HY.out];exact hRlt,by rw [H32_eq];exact hlo0⟩)
          subst hq1e
          clear hx1 hx2 hx3 hR1 hFle
          have a5:IntKind.u64.wrap ((R1:Int).tdiv (yn1:Int))=((R1/yn1:Nat):Int):=by
            rw [B64_eq] at hy
            have:=Nat.div_le_self R1 yn1
            rw [IntKind.wrap_u64,tdiv_nat]
            generalize R1/yn1=D at *
            omega
          have a6:IntKind.u64.wrap (((R1/yn1:Nat):Int)*(yn1:Int))=((R1/yn1*yn1:Nat):Int):=by
            rw [B64_eq] at hy
            have:=Nat.div_mul_le_self R1 yn1
            rw [IntKind.wrap_u64,← Int.natCast_mul]
            generalize R1/yn1*yn1=D at *
            omega
          have a7:IntKind.u64.wrap ((R1:Int) - ((R1/yn1*yn1:Nat):Int))=((R1%yn1:Nat):Int):=by
            rw [B64_eq] at hy
            have h1:=Nat.div_add_mod R1 yn1
            rw [Nat.mul_comm] at h1
            rw [IntKind.wrap_u64]
            generalize R1/yn1*yn1=P at *
            generalize R1%yn1=Q at *
            omega
          have a8:IntKind.u64.wrap ((R1:Int)/(yn1:Int))=((R1/yn1:Nat):Int):=a5
          have HS0:=Lib.hid HI2.out.start
          generalize hD1:R1/yn1=d1 at *
          generalize hD2:R1%yn1=d2 at *
          generalize hD3:d1*yn1=d3 at *
          clear hD1 hD2 hD3
          go_wp2_with fail
          go_loop [18,16] (fun a c=>∃ q r:Nat,a=U q∧c=U r∧Hid (HalfSt yn1 yn0 R1 lo0 q r)) (fun a _=>(intOf a).toNat)
          case atStart=>exact ⟨_,_,rfl,rfl,HS0.out⟩
          case round =>
            obtain ⟨q,r,rfl,rfl,hst⟩:=hrel
            have hqle:=HI2.out.q_le hst.out.e
            have hrl:=hst.out.rl
            have hnl:=HI2.out.l0
            have hn1:=HI2.out.l1
            have hul:=HI2.out.u
            rw [H32_eq] at hqle hrl hnl hn1 hul
            obtain ⟨p,hp⟩:∃ p,p=q*yn0:=⟨_,rfl⟩
            have hpl:p≤4294967297*4294967295:=by rw [hp];exact Nat.mul_le_mul hqle (by omega)
            have e1:IntKind.u64.wrap ((q:Int)*(yn0:Int))=(p:Int):=by
              rw [IntKind.wrap_u64,← Int.natCast_mul,← hp];omega
            obtain ⟨s,hs⟩:∃ s,s=4294967296*r:=⟨_,rfl⟩
            have e2:IntKind.u64.wrap (4294967296*(r:Int))=(s:Int):=by rw [IntKind.wrap_u64,hs];omega
            obtain ⟨v,hv⟩:∃ v,v=s+lo0:=⟨_,rfl⟩
            have e3:IntKind.u64.wrap ((s:Int)+(lo0:Int))=(v:Int):=by rw [IntKind.wrap_u64,hv];omega
            have hvl:v<18446744073709551616:=by omega
            have HV:=Lib.hid (show v=r*H32+lo0 by rw [hv,hs,H32_eq,Nat.mul_comm])
            have HP:=Lib.hid hp
            clear hp hs hv
            by_cases hc:4294967296≤q∨v<p
            · have hstep:=HI2.out.step hst.out (by rw [H32_eq] at *;rw [HV.out,HP.out] at hc;exact hc)
              have HS:=Lib.hid hstep.2
              have hq0:=hstep.1
              have e4:IntKind.u64.wrap ((q:Int) - 1)=((q - 1:Nat):Int):=by rw [IntKind.wrap_u64];omega
              have e5:IntKind.u64.wrap ((r:Int)+(yn1:Int))=((r+yn1:Nat):Int):=by rw [IntKind.wrap_u64];omega
              obtain ⟨qq,hqq⟩:∃ k,k=q - 1:=⟨_,rfl⟩
              obtain ⟨rr,hrr⟩:∃ k,k=r+yn1:=⟨_,rfl⟩
              rw [← hqq] at e4
              rw [← hrr] at e5
              have HQ:=Lib.hid hqq
              have HR:=Lib.hid hrr
              have HQ1:=Lib.hid (show q=qq+1 by omega)
              have hqm:qq<q:=by omega
              clear hstep hqq hrr
              by_cases hbr:rr<4294967296
              · have hb2:¬ (4294967296:Int)≤(rr:Int):=by omega
                by_cases hc1:4294967296≤q
                · have hc2:(4294967296:Int)≤(q:Int):=by omega
                  clear hc hc1 hbr
                  go_wp2_with fail
                  go_round
                  case rel=>exact ⟨qq,rr,rfl,rfl,⟨by rw [HQ.out,HR.out];exact HS.out.1,by rw [← HQ1.out];exact HS.out.2,by rw [H32_eq];omega⟩⟩
                  case measure=>simp [intOf];omega
                · have hc2:¬ (4294967296:Int)≤(q:Int):=by omega
                  have hc3:(v:Int)<(p:Int):=by omega
                  clear hc hc1 hbr
                  go_wp2_with fail
                  go_round
                  case rel=>exact ⟨qq,rr,rfl,rfl,⟨by rw [HQ.out,HR.out];exact HS.out.1,by rw [← HQ1.out];exact HS.out.2,by rw [H32_eq];omega⟩⟩
                  case measure=>simp [intOf];omega
              · have hb2:(4294967296:Int)≤(rr:Int):=by omega
                have HF2:=HI2.out.fin2 (q:=qq) (r:=rr) (by rw [HQ.out,HR.out];exact HS.out.1) (by rw [← HQ1.out];exact HS.out.2) (by rw [H32_eq];omega) (by rw [H32_eq];omega)
                clear HQ HR HQ1 HS hst HV HP hqm
                by_cases hc1:4294967296≤q
                · have hc2:(4294967296:Int)≤(q:Int):=by omega
                  clear hc hc1 hbr
                  have HG:=HF2
                  rw [HR1.out,HY.out] at HG
                  have hpos:0<yn1*H32+yn0:=by
                    have:=HI1.out.n1
                    rw [H32_eq] at *
                    omega
                  have HJ:=Lib.hid (half_join F1.1 F1.2.1 HG.1 HG.2.1 hpos)
                  clear HG
                  have hml:=Nat.mod_lt (hi*B64+(lo1*H32+lo0)) hpos
                  clear hpos
                  rw [HJ.out.2,← HY.out] at hml
                  have hq1:=F1.2.2
                  have hq0:=HF2.2.2
                  have b1:IntKind.u64.wrap ((q1:Int)*4294967296)=((q1*4294967296:Nat):Int):=by rw [IntKind.wrap_u64];rw [H32_eq] at hq1;omega
                  obtain ⟨z1,hz1⟩:∃ z,z=q1*4294967296:=⟨_,rfl⟩
                  rw [← hz1] at b1
                  have b2:IntKind.u64.wrap ((z1:Int)+(qq:Int))=((z1+qq:Nat):Int):=by rw [IntKind.wrap_u64];rw [H32_eq] at hq1 hq0;omega
                  obtain ⟨z2,hz2⟩:∃ z,z=z1+qq:=⟨_,rfl⟩
                  rw [← hz2] at b2
                  
                  obtain ⟨z3,hz3⟩:∃ z,z=R1*4294967296%18446744073709551616:=⟨_,rfl⟩
                  have b3:IntKind.u64.wrap ((R1:Int)*4294967296)=(z3:Int):=by rw [IntKind.wrap_u64,hz3];omega
                  obtain ⟨z4,hz4⟩:∃ z,z=(z3+lo0)%18446744073709551616:=⟨_,rfl⟩
                  have b4:IntKind.u64.wrap ((z3:Int)+(lo0:Int))=(z4:Int):=by rw [IntKind.wrap_u64,hz4];omega
                  obtain ⟨z5,hz5⟩:∃ z,z=qq*y%18446744073709551616:=⟨_,rfl⟩
                  have b5:IntKind.u64.wrap ((qq:Int)*(y:Int))=(z5:Int):=by
                    rw [IntKind.wrap_u64,hz5,← Int.natCast_mul]
                    generalize qq*y=P
                    omega
                  obtain ⟨z6,hz6⟩:∃ z,z=R1*H32+lo0 - qq*y:=⟨_,rfl⟩
                  have hle6:qq*y≤R1*H32+lo0:=by rw [HY.out];exact HF2.2.1
                  have hlt6:z6<y:=by rw [hz6,HR1.out];exact hml
                  have b6:IntKind.u64.wrap ((z4:Int) - (z5:Int))=(z6:Int):=by
                    rw [B64_eq] at hy
                    rw [H32_eq] at hz6 hle6
                    rw [IntKind.wrap_u64,hz4,hz3,hz5,hz6]
                    rw [hz6] at hlt6
                    generalize qq*y=P at *
                    omega
                  have b7:IntKind.u64.wrap (z6:Int)=(z6:Int):=by rw [B64_eq] at hy;rw [IntKind.wrap_u64];omega
                  have HZ2:=Lib.hid (show z2=(hi*B64+lo)/y by rw [HLO.out,HY.out,HJ.out.1,hz2,hz1,H32_eq])
                  have HZ6:=Lib.hid (show z6=(hi*B64+lo)%y by
                    have h:=HJ.out.2
                    rw [← HY.out] at h
                    rw [HLO.out,h,hz6]
                    conv=>lhs;rw [HR1.out])
                  clear hz1 hz2 hz3 hz4 hz5 hz6 hml HJ HF2 F1 hle6 hlt6
                  go_wp2_with fail
                  go_ret2
                  exact ⟨show Ending.returned (Value.tuple #[U z2,U z6])=_ by rw [HZ2.out,HZ6.out],0,rfl⟩
                · have hc2:¬ (4294967296:Int)≤(q:Int):=by omega
                  have hc3:(v:Int)<(p:Int):=by omega
                  clear hc hc1 hbr
                  have HG:=HF2
                  rw [HR1.out,HY.out] at HG
                  have hpos:0<yn1*H32+yn0:=by
                    have:=HI1.out.n1
                    rw [H32_eq] at *
                    omega
                  have HJ:=Lib.hid (half_join F1.1 F1.2.1 HG.1 HG.2.1 hpos)
                  clear HG
                  have hml:=Nat.mod_lt (hi*B64+(lo1*H32+lo0)) hpos
                  clear hpos
                  rw [HJ.out.2,← HY.out] at hml
                  have hq1:=F1.2.2
                  have hq0:=HF2.2.2
                  have b1:IntKind.u64.wrap ((q1:Int)*4294967296)=((q1*4294967296:Nat):Int):=by rw [IntKind.wrap_u64];rw [H32_eq] at hq1;omega
                  obtain ⟨z1,hz1⟩:∃ z,z=q1*4294967296:=⟨_,rfl⟩
                  rw [← hz1] at b1
                  have b2:IntKind.u64.wrap ((z1:Int)+(qq:Int))=((z1+qq:Nat):Int):=by rw [IntKind.wrap_u64];rw [H32_eq] at hq1 hq0;omega
                  obtain ⟨z2,hz2⟩:∃ z,z=z1+qq:=⟨_,rfl⟩
                  rw [← hz2] at b2
                  
                  obtain ⟨z3,hz3⟩:∃ z,z=R1*4294967296%18446744073709551616:=⟨_,rfl⟩
                  have b3:IntKind.u64.wrap ((R1:Int)*4294967296)=(z3:Int):=by rw [IntKind.wrap_u64,hz3];omega
                  obtain ⟨z4,hz4⟩:∃ z,z=(z3+lo0)%18446744073709551616:=⟨_,rfl⟩
                  have b4:IntKind.u64.wrap ((z3:Int)+(lo0:Int))=(z4:Int):=by rw [IntKind.wrap_u64,hz4];omega
                  obtain ⟨z5,hz5⟩:∃ z,z=qq*y%18446744073709551616:=⟨_,rfl⟩
                  have b5:IntKind.u64.wrap ((qq:Int)*(y:Int))=(z5:Int):=by
                    rw [IntKind.wrap_u64,hz5,← Int.natCast_mul]
                    generalize qq*y=P
                    omega
                  obtain ⟨z6,hz6⟩:∃ z,z=R1*H32+lo0 - qq*y:=⟨_,rfl⟩
                  have hle6:qq*y≤R1*H32+lo0:=by rw [HY.out];exact HF2.2.1
                  have hlt6:z6<y:=by rw [hz6,HR1.out];exact hml
                  have b6:IntKind.u64.wrap ((z4:Int) - (z5:Int))=(z6:Int):=by
                    rw [B64_eq] at hy
                    rw [H32_eq] at hz6 hle6
                    rw [IntKind.wrap_u64,hz4,hz3,hz5,hz6]
                    rw [hz6] at hlt6
                    generalize qq*y=P at *
                    omega
                  have b7:IntKind.u64.wrap (z6:Int)=(z6:Int):=by rw [B64_eq] at hy;rw [IntKind.wrap_u64];omega
                  have HZ2:=Lib.hid (show z2=(hi*B64+lo)/y by rw [HLO.out,HY.out,HJ.out.1,hz2,hz1,H32_eq])
                  have HZ6:=Lib.hid (show z6=(hi*B64+lo)%y by
                    have h:=HJ.out.2
                    rw [← HY.out] at h
                    rw [HLO.out,h,hz6]
                    conv=>lhs;rw [HR1.out])
                  clear hz1 hz2 hz3 hz4 hz5 hz6 hml HJ HF2 F1 hle6 hlt6
                  go_wp2_with fail
                  go_ret2
                  exact ⟨show Ending.returned (Value.tuple #[U z2,U z6])=_ by rw [HZ2.out,HZ6.out],0,rfl⟩
            · have hc2:¬ (4294967296:Int)≤(q:Int):=by omega
              have hc3:¬ (v:Int)<(p:Int):=by omega
              have HF2:=HI2.out.fin (q:=q) (r:=r) hst.out.e hst.out.hi (by rw [← HV.out,← HP.out];omega)
              clear hst HV HP hc
              have HG:=HF2
              rw [HR1.out,HY.out] at HG
              have hpos:0<yn1*H32+yn0:=by
                have:=HI1.out.n1
                rw [H32_eq] at *
                omega
              have HJ:=Lib.hid (half_join F1.1 F1.2.1 HG.1 HG.2.1 hpos)
              clear HG
              have hml:=Nat.mod_lt (hi*B64+(lo1*H32+lo0)) hpos
              clear hpos
              rw [HJ.out.2,← HY.out] at hml
              have hq1:=F1.2.2
              have hq0:=HF2.2.2
              have b1:IntKind.u64.wrap ((q1:Int)*4294967296)=((q1*4294967296:Nat):Int):=by rw [IntKind.wrap_u64];rw [H32_eq] at hq1;omega
              obtain ⟨z1,hz1⟩:∃ z,z=q1*4294967296:=⟨_,rfl⟩
              rw [← hz1] at b1
              have b2:IntKind.u64.wrap ((z1:Int)+(q:Int))=((z1+q:Nat):Int):=by rw [IntKind.wrap_u64];rw [H32_eq] at hq1 hq0;omega
              obtain ⟨z2,hz2⟩:∃ z,z=z1+q:=⟨_,rfl⟩
              rw [← hz2] at b2
              
              obtain ⟨z3,hz3⟩:∃ z,z=R1*4294967296%18446744073709551616:=⟨_,rfl⟩
              have b3:IntKind.u64.wrap ((R1:Int)*4294967296)=(z3:Int):=by rw [IntKind.wrap_u64,hz3];omega
              obtain ⟨z4,hz4⟩:∃ z,z=(z3+lo0)%18446744073709551616:=⟨_,rfl⟩
              have b4:IntKind.u64.wrap ((z3:Int)+(lo0:Int))=(z4:Int):=by rw [IntKind.wrap_u64,hz4];omega
              obtain ⟨z5,hz5⟩:∃ z,z=q*y%18446744073709551616:=⟨_,rfl⟩
              have b5:IntKind.u64.wrap ((q:Int)*(y:Int))=(z5:Int):=by
                rw [IntKind.wrap_u64,hz5,← Int.natCast_mul]
                generalize q*y=P
                omega
              obtain ⟨z6,hz6⟩:∃ z,z=R1*H32+lo0 - q*y:=⟨_,rfl⟩
              have hle6:q*y≤R1*H32+lo0:=by rw [HY.out];exact HF2.2.1
              have hlt6:z6<y:=by rw [hz6,HR1.out];exact hml
              have b6:IntKind.u64.wrap ((z4:Int) - (z5:Int))=(z6:Int):=by
                rw [B64_eq] at hy
                rw [H32_eq] at hz6 hle6
                rw [IntKind.wrap_u64,hz4,hz3,hz5,hz6]
                rw [hz6] at hlt6
                generalize q*y=P at *
                omega
              have b7:IntKind.u64.wrap (z6:Int)=(z6:Int):=by rw [B64_eq] at hy;rw [IntKind.wrap_u64];omega
              have HZ2:=Lib.hid (show z2=(hi*B64+lo)/y by rw [HLO.out,HY.out,HJ.out.1,hz2,hz1,H32_eq])
              have HZ6:=Lib.hid (show z6=(hi*B64+lo)%y by
                have h:=HJ.out.2
                rw [← HY.out] at h
                rw [HLO.out,h,hz6]
                conv=>lhs;rw [HR1.out])
              clear hz1 hz2 hz3 hz4 hz5 hz6 hml HJ HF2 F1 hle6 hlt6
              go_wp2_with fail
              go_ret2
              exact ⟨show Ending.returned (Value.tuple #[U z2,U z6])=_ by rw [HZ2.out,HZ6.out],0,rfl⟩
    · have hc2:¬ (4294967296:Int)≤(q:Int):=by omega
      have hc3:¬ (v:Int)<(p:Int):=by omega
      have HF2:=HI1.out.fin (q:=q) (r:=r) hst.out.e hst.out.hi (by rw [← HV.out,← HP.out];omega)
      clear hst HV HP hc
      have F1:=HF2
      clear HF2
      obtain ⟨q1,hq1e⟩:∃ k,k=q:=⟨_,rfl⟩
      obtain ⟨R1,hR1⟩:∃ k,k=hi*H32+lo1 - q*y:=⟨_,rfl⟩
      have hRlt:R1<y:=by
        have hd:=Nat.div_add_mod (hi*H32+lo1) (yn1*H32+yn0)
        have hm:=Nat.mod_lt (hi*H32+lo1) (show 0<yn1*H32+yn0 by have:=HI1.out.n1;rw [H32_eq] at *;omega)
        rw [F1.1,Nat.mul_comm,← HY.out] at hd
        rw [← HY.out] at hm
        omega
      have hFle:q*y≤hi*H32+lo1:=by rw [HY.out];exact F1.2.1
      obtain ⟨x1,hx1⟩:∃ z,z=hi*4294967296%18446744073709551616:=⟨_,rfl⟩
      have a1:IntKind.u64.wrap ((hi:Int)*4294967296)=(x1:Int):=by rw [IntKind.wrap_u64,hx1];omega
      obtain ⟨x2,hx2⟩:∃ z,z=(x1+lo1)%18446744073709551616:=⟨_,rfl⟩
      have a2:IntKind.u64.wrap ((x1:Int)+(lo1:Int))=(x2:Int):=by rw [IntKind.wrap_u64,hx2];omega
      obtain ⟨x3,hx3⟩:∃ z,z=q*y%18446744073709551616:=⟨_,rfl⟩
      have a3:IntKind.u64.wrap ((q:Int)*(y:Int))=(x3:Int):=by
        rw [IntKind.wrap_u64,hx3,← Int.natCast_mul]
        generalize q*y=P
        omega
      have a4:IntKind.u64.wrap ((x2:Int) - (x3:Int))=(R1:Int):=by
        rw [B64_eq] at hy
        rw [H32_eq] at hR1 hFle
        rw [IntKind.wrap_u64,hx2,hx1,hx3,hR1]
        rw [hR1] at hRlt
        generalize q*y=P at *
        omega
      have HR1:=Lib.hid hR1
      have HI2:=Lib.hid (show HalfIn yn1 yn0 R1 lo0 from ⟨HI1.out.n1,HI1.out.l1,HI1.out.l0,by rw [← HY.out];exact hRlt,by rw [H32_eq];exact hlo0⟩)
      subst hq1e
      clear hx1 hx2 hx3 hR1 hFle
      have a5:IntKind.u64.wrap ((R1:Int).tdiv (yn1:Int))=((R1/yn1:Nat):Int):=by
        rw [B64_eq] at hy
        have:=Nat.div_le_self R1 yn1
        rw [IntKind.wrap_u64,tdiv_nat]
        generalize R1/yn1=D at *
        omega
      have a6:IntKind.u64.wrap (((R1/yn1:Nat):Int)*(yn1:Int))=((R1/yn1*yn1:Nat):Int):=by
        rw [B64_eq] at hy
        have:=Nat.div_mul_le_self R1 yn1
        rw [IntKind.wrap_u64,← Int.natCast_mul]
        generalize R1/yn1*yn1=D at *
        omega
      have a7:IntKind.u64.wrap ((R1:Int) - ((R1/yn1*yn1:Nat):Int))=((R1%yn1:Nat):Int):=by
        rw [B64_eq] at hy
        have h1:=Nat.div_add_mod R1 yn1
        rw [Nat.mul_comm] at h1
        rw [IntKind.wrap_u64]
        generalize R1/yn1*yn1=P at *
        generalize R1%yn1=Q at *
        omega
      have a8:IntKind.u64.wrap ((R1:Int)/(yn1:Int))=((R1/yn1:Nat):Int):=a5
      have HS0:=Lib.hid HI2.out.start
      generalize hD1:R1/yn1=d1 at *
      generalize hD2:R1%yn1=d2 at *
      generalize hD3:d1*yn1=d3 at *
      clear hD1 hD2 hD3
      go_wp2_with fail
      go_loop [18,16] (fun a c=>∃ q r:Nat,a=U q∧c=U r∧Hid (HalfSt yn1 yn0 R1 lo0 q r)) (fun a _=>(intOf a).toNat)
      case atStart=>exact ⟨_,_,rfl,rfl,HS0.out⟩
      case round =>
        obtain ⟨q,r,rfl,rfl,hst⟩:=hrel
        have hqle:=HI2.out.q_le hst.out.e
        have hrl:=hst.out.rl
        have hnl:=HI2.out.l0
        have hn1:=HI2.out.l1
        have hul:=HI2.out.u
        rw [H32_eq] at hqle hrl hnl hn1 hul
        obtain ⟨p,hp⟩:∃ p,p=q*yn0:=⟨_,rfl⟩
        have hpl:p≤4294967297*4294967295:=by rw [hp];exact Nat.mul_le_mul hqle (by omega)
        have e1:IntKind.u64.wrap ((q:Int)*(yn0:Int))=(p:Int):=by
          rw [IntKind.wrap_u64,← Int.natCast_mul,← hp];omega
        obtain ⟨s,hs⟩:∃ s,s=4294967296*r:=⟨_,rfl⟩
        have e2:IntKind.u64.wrap (4294967296*(r:Int))=(s:Int):=by rw [IntKind.wrap_u64,hs];omega
        obtain ⟨v,hv⟩:∃ v,v=s+lo0:=⟨_,rfl⟩
        have e3:IntKind.u64.wrap ((s:Int)+(lo0:Int))=(v:Int):=by rw [IntKind.wrap_u64,hv];omega
        have hvl:v<18446744073709551616:=by omega
        have HV:=Lib.hid (show v=r*H32+lo0 by rw [hv,hs,H32_eq,Nat.mul_comm])
        have HP:=Lib.hid hp
        clear hp hs hv
        by_cases hc:4294967296≤q∨v<p
        · have hstep:=HI2.out.step hst.out (by rw [H32_eq] at *;rw [HV.out,HP.out] at hc;exact hc)
          have HS:=Lib.hid hstep.2
          have hq0:=hstep.1
          have e4:IntKind.u64.wrap ((q:Int) - 1)=((q - 1:Nat):Int):=by rw [IntKind.wrap_u64];omega
          have e5:IntKind.u64.wrap ((r:Int)+(yn1:Int))=((r+yn1:Nat):Int):=by rw [IntKind.wrap_u64];omega
          obtain ⟨qq,hqq⟩:∃ k,k=q - 1:=⟨_,rfl⟩
          obtain ⟨rr,hrr⟩:∃ k,k=r+yn1:=⟨_,rfl⟩
          rw [← hqq] at e4
          rw [← hrr] at e5
          have HQ:=Lib.hid hqq
          have HR:=Lib.hid hrr
          have HQ1:=Lib.hid (show q=qq+1 by omega)
          have hqm:qq<q:=by omega
          clear hstep hqq hrr
          by_cases hbr:rr<4294967296
          · have hb2:¬ (4294967296:Int)≤(rr:Int):=by omega
            by_cases hc1:4294967296≤q
            · have hc2:(4294967296:Int)≤(q:Int):=by omega
              clear hc hc1 hbr
              go_wp2_with fail
              go_round
              case rel=>exact ⟨qq,rr,rfl,rfl,⟨by rw [HQ.out,HR.out];exact HS.out.1,by rw [← HQ1.out];exact HS.out.2,by rw [H32_eq];omega⟩⟩
              case measure=>simp [intOf];omega
            · have hc2:¬ (4294967296:Int)≤(q:Int):=by omega
              have hc3:(v:Int)<(p:Int):=by omega
              clear hc hc1 hbr
              go_wp2_with fail
              go_round
              case rel=>exact ⟨qq,rr,rfl,rfl,⟨by rw [HQ.out,HR.out];exact HS.out.1,by rw [← HQ1.out];exact HS.out.2,by rw [H32_eq];omega⟩⟩
              case measure=>simp [intOf];omega
          · have hb2:(4294967296:Int)≤(rr:Int):=by omega
            have HF2:=HI2.out.fin2 (q:=qq) (r:=rr) (by rw [HQ.out,HR.out];exact HS.out.1) (by rw [← HQ1.out];exact HS.out.2) (by rw [H32_eq];omega) (by rw [H32_eq];omega)
            clear HQ HR HQ1 HS hst HV HP hqm
            by_cases hc1:4294967296≤q
            · have hc2:(4294967296:Int)≤(q:Int):=by omega
              clear hc hc1 hbr
              have HG:=HF2
              rw [HR1.out,HY.out] at HG
              have hpos:0<yn1*H32+yn0:=by
                have:=HI1.out.n1
                rw [H32_eq] at *
                omega
              have HJ:=Lib.hid (half_join F1.1 F1.2.1 HG.1 HG.2.1 hpos)
              clear HG
              have hml:=Nat.mod_lt (hi*B64+(lo1*H32+lo0)) hpos
              clear hpos
              rw [HJ.out.2,← HY.out] at hml
              have hq1:=F1.2.2
              have hq0:=HF2.2.2
              have b1:IntKind.u64.wrap ((q1:Int)*4294967296)=((q1*4294967296:Nat):Int):=by rw [IntKind.wrap_u64];rw [H32_eq] at hq1;omega
              obtain ⟨z1,hz1⟩:∃ z,z=q1*4294967296:=⟨_,rfl⟩
              rw [← hz1] at b1
              have b2:IntKind.u64.wrap ((z1:Int)+(qq:Int))=((z1+qq:Nat):Int):=by rw [IntKind.wrap_u64];rw [H32_eq] at hq1 hq0;omega
              obtain ⟨z2,hz2⟩:∃ z,z=z1+qq:=⟨_,rfl⟩
              rw [← hz2] at b2
              
              obtain ⟨z3,hz3⟩:∃ z,z=R1*4294967296%18446744073709551616:=⟨_,rfl⟩
              have b3:IntKind.u64.wrap ((R1:Int)*4294967296)=(z3:Int):=by rw [IntKind.wrap_u64,hz3];omega
              obtain ⟨z4,hz4⟩:∃ z,z=(z3+lo0)%18446744073709551616:=⟨_,rfl⟩
              have b4:IntKind.u64.wrap ((z3:Int)+(lo0:Int))=(z4:Int):=by rw [IntKind.wrap_u64,hz4];omega
              obtain ⟨z5,hz5⟩:∃ z,z=qq*y%18446744073709551616:=⟨_,rfl⟩
              have b5:IntKind.u64.wrap ((qq:Int)*(y:Int))=(z5:Int):=by
                rw [IntKind.wrap_u64,hz5,← Int.natCast_mul]
                generalize qq*y=P
                omega
              obtain ⟨z6,hz6⟩:∃ z,z=R1*H32+lo0 - qq*y:=⟨_,rfl⟩
              have hle6:qq*y≤R1*H32+lo0:=by rw [HY.out];exact HF2.2.1
              have hlt6:z6<y:=by rw [hz6,HR1.out];exact hml
              have b6:IntKind.u64.wrap ((z4:Int) - (z5:Int))=(z6:Int):=by
                rw [B64_eq] at hy
                rw [H32_eq] at hz6 hle6
                rw [IntKind.wrap_u64,hz4,hz3,hz5,hz6]
                rw [hz6] at hlt6
                generalize qq*y=P at *
                omega
              have b7:IntKind.u64.wrap (z6:Int)=(z6:Int):=by rw [B64_eq] at hy;rw [IntKind.wrap_u64];omega
              have HZ2:=Lib.hid (show z2=(hi*B64+lo)/y by rw [HLO.out,HY.out,HJ.out.1,hz2,hz1,H32_eq])
              have HZ6:=Lib.hid (show z6=(hi*B64+lo)%y by
                have h:=HJ.out.2
                rw [← HY.out] at h
                rw [HLO.out,h,hz6]
                conv=>lhs;rw [HR1.out])
              clear hz1 hz2 hz3 hz4 hz5 hz6 hml HJ HF2 F1 hle6 hlt6
              go_wp2_with fail
              go_ret2
              exact ⟨show Ending.returned (Value.tuple #[U z2,U z6])=_ by rw [HZ2.out,HZ6.out],0,rfl⟩
            · have hc2:¬ (4294967296:Int)≤(q:Int):=by omega
              have hc3:(v:Int)<(p:Int):=by omega
              clear hc hc1 hbr
              have HG:=HF2
              rw [HR1.out,HY.out] at HG
              have hpos:0<yn1*H32+yn0:=by
                have:=HI1.out.n1
                rw [H32_eq] at *
                omega
              have HJ:=Lib.hid (half_join F1.1 F1.2.1 HG.1 HG.2.1 hpos)
              clear HG
              have hml:=Nat.mod_lt (hi*B64+(lo1*H32+lo0)) hpos
              clear hpos
              rw [HJ.out.2,← HY.out] at hml
              have hq1:=F1.2.2
              have hq0:=HF2.2.2
              have b1:IntKind.u64.wrap ((q1:Int)*4294967296)=((q1*4294967296:Nat):Int):=by rw [IntKind.wrap_u64];rw [H32_eq] at hq1;omega
              obtain ⟨z1,hz1⟩:∃ z,z=q1*4294967296:=⟨_,rfl⟩
              rw [← hz1] at b1
              have b2:IntKind.u64.wrap ((z1:Int)+(qq:Int))=((z1+qq:Nat):Int):=by rw [IntKind.wrap_u64];rw [H32_eq] at hq1 hq0;omega
              obtain ⟨z2,hz2⟩:∃ z,z=z1+qq:=⟨_,rfl⟩
              rw [← hz2] at b2
              
              obtain ⟨z3,hz3⟩:∃ z,z=R1*4294967296%18446744073709551616:=⟨_,rfl⟩
              have b3:IntKind.u64.wrap ((R1:Int)*4294967296)=(z3:Int):=by rw [IntKind.wrap_u64,hz3];omega
              obtain ⟨z4,hz4⟩:∃ z,z=(z3+lo0)%18446744073709551616:=⟨_,rfl⟩
              have b4:IntKind.u64.wrap ((z3:Int)+(lo0:Int))=(z4:Int):=by rw [IntKind.wrap_u64,hz4];omega
              obtain ⟨z5,hz5⟩:∃ z,z=qq*y%18446744073709551616:=⟨_,rfl⟩
              have b5:IntKind.u64.wrap ((qq:Int)*(y:Int))=(z5:Int):=by
                rw [IntKind.wrap_u64,hz5,← Int.natCast_mul]
                generalize qq*y=P
                omega
              obtain ⟨z6,hz6⟩:∃ z,z=R1*H32+lo0 - qq*y:=⟨_,rfl⟩
              have hle6:qq*y≤R1*H32+lo0:=by rw [HY.out];exact HF2.2.1
              have hlt6:z6<y:=by rw [hz6,HR1.out];exact hml
              have b6:IntKind.u64.wrap ((z4:Int) - (z5:Int))=(z6:Int):=by
                rw [B64_eq] at hy
                rw [H32_eq] at hz6 hle6
                rw [IntKind.wrap_u64,hz4,hz3,hz5,hz6]
                rw [hz6] at hlt6
                generalize qq*y=P at *
                omega
              have b7:IntKind.u64.wrap (z6:Int)=(z6:Int):=by rw [B64_eq] at hy;rw [IntKind.wrap_u64];omega
              have HZ2:=Lib.hid (show z2=(hi*B64+lo)/y by rw [HLO.out,HY.out,HJ.out.1,hz2,hz1,H32_eq])
              have HZ6:=Lib.hid (show z6=(hi*B64+lo)%y by
                have h:=HJ.out.2
                rw [← HY.out] at h
                rw [HLO.out,h,hz6]
                conv=>lhs;rw [HR1.out])
              clear hz1 hz2 hz3 hz4 hz5 hz6 hml HJ HF2 F1 hle6 hlt6
              go_wp2_with fail
              go_ret2
              exact ⟨show Ending.returned (Value.tuple #[U z2,U z6])=_ by rw [HZ2.out,HZ6.out],0,rfl⟩
        · have hc2:¬ (4294967296:Int)≤(q:Int):=by omega
          have hc3:¬ (v:Int)<(p:Int):=by omega
          have HF2:=HI2.out.fin (q:=q) (r:=r) hst.out.e hst.out.hi (by rw [← HV.out,← HP.out];omega)
          clear hst HV HP hc
          have HG:=HF2
          rw [HR1.out,HY.out] at HG
          have hpos:0<yn1*H32+yn0:=by
            have:=HI1.out.n1
            rw [H32_eq] at *
            omega
          have HJ:=Lib.hid (half_join F1.1 F1.2.1 HG.1 HG.2.1 hpos)
          clear HG
          have hml:=Nat.mod_lt (hi*B64+(lo1*H32+lo0)) hpos
          clear hpos
          rw [HJ.out.2,← HY.out] at hml
          have hq1:=F1.2.2
          have hq0:=HF2.2.2
          have b1:IntKind.u64.wrap ((q1:Int)*4294967296)=((q1*4294967296:Nat):Int):=by rw [IntKind.wrap_u64];rw [H32_eq] at hq1;omega
          obtain ⟨z1,hz1⟩:∃ z,z=q1*4294967296:=⟨_,rfl⟩
          rw [← hz1] at b1
          have b2:IntKind.u64.wrap ((z1:Int)+(q:Int))=((z1+q:Nat):Int):=by rw [IntKind.wrap_u64];rw [H32_eq] at hq1 hq0;omega
          obtain ⟨z2,hz2⟩:∃ z,z=z1+q:=⟨_,rfl⟩
          rw [← hz2] at b2
          
          obtain ⟨z3,hz3⟩:∃ z,z=R1*4294967296%18446744073709551616:=⟨_,rfl⟩
          have b3:IntKind.u64.wrap ((R1:Int)*4294967296)=(z3:Int):=by rw [IntKind.wrap_u64,hz3];omega
          obtain ⟨z4,hz4⟩:∃ z,z=(z3+lo0)%18446744073709551616:=⟨_,rfl⟩
          have b4:IntKind.u64.wrap ((z3:Int)+(lo0:Int))=(z4:Int):=by rw [IntKind.wrap_u64,hz4];omega
          obtain ⟨z5,hz5⟩:∃ z,z=q*y%18446744073709551616:=⟨_,rfl⟩
          have b5:IntKind.u64.wrap ((q:Int)*(y:Int))=(z5:Int):=by
            rw [IntKind.wrap_u64,hz5,← Int.natCast_mul]
            generalize q*y=P
            omega
          obtain ⟨z6,hz6⟩:∃ z,z=R1*H32+lo0 - q*y:=⟨_,rfl⟩
          have hle6:q*y≤R1*H32+lo0:=by rw [HY.out];exact HF2.2.1
          have hlt6:z6<y:=by rw [hz6,HR1.out];exact hml
          have b6:IntKind.u64.wrap ((z4:Int) - (z5:Int))=(z6:Int):=by
            rw [B64_eq] at hy
            rw [H32_eq] at hz6 hle6
            rw [IntKind.wrap_u64,hz4,hz3,hz5,hz6]
            rw [hz6] at hlt6
            generalize q*y=P at *
            omega
          have b7:IntKind.u64.wrap (z6:Int)=(z6:Int):=by rw [B64_eq] at hy;rw [IntKind.wrap_u64];omega
          have HZ2:=Lib.hid (show z2=(hi*B64+lo)/y by rw [HLO.out,HY.out,HJ.out.1,hz2,hz1,H32_eq])
          have HZ6:=Lib.hid (show z6=(hi*B64+lo)%y by
            have h:=HJ.out.2
            rw [← HY.out] at h
            rw [HLO.out,h,hz6]
            conv=>lhs;rw [HR1.out])
          clear hz1 hz2 hz3 hz4 hz5 hz6 hml HJ HF2 F1 hle6 hlt6
          go_wp2_with fail
          go_ret2
          exact ⟨show Ending.returned (Value.tuple #[U z2,U z6])=_ by rw [HZ2.out,HZ6.out],0,rfl⟩
end Go.Proofs.YtpfmbfkhjapbbaaGreatDoor
