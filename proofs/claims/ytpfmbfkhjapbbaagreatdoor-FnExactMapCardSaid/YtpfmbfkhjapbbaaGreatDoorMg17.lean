/-
  divWW: two words by one, by the reciprocal. Condition: the quotient has one word.
  nat.divBasic: the long division by rounds. Conditions: at most 60 words in the divisor, whose highest bit is set; the leading word of the dividend is below the divisor's.
  lshVU: a row shifted up by fewer than 64 bits. Conditions: the rows are there; they are one row, or in different blocks.
  divWVW and nat.divW: a number of many words by one word. Conditions: at least two words; the divisor is not 0.
-/
import Derived.Test.YtpfmbfkhjapbbaaGreatDoorMg04
import Derived.Test.YtpfmbfkhjapbbaaGreatDoorMg10
import Derived.Test.YtpfmbfkhjapbbaaGreatDoorMg11
import Derived.Test.YtpfmbfkhjapbbaaGreatDoorMg15
import Derived.Deep.DeepCutAuto
import Derived.StillTailTactics
set_option linter.unusedVariables false
set_option linter.unusedSimpArgs false
namespace Go.Proofs.YtpfmbfkhjapbbaaGreatDoor
section
open Go Go.RowKit
set_option maxRecDepth 100000 in
set_option maxHeartbeats 4000000 in
theorem divWW_scaled (x1 x0 y:Nat) (hx1:x1<y) (hx0:x0<B64) (hy:y<B64) (hls:0<lz y) (w:World) :
    Calls Tryz.prog 194 #[U x1,U x0,U y,U (rcp y)] w fun e w'=>e=.returned (.tuple #[U ((x1*B64+x0)/y),U ((x1*B64+x0)%y)])∧w'=w:=by
  obtain ⟨hl64,hub,hn⟩:=lz_norm (show 0<y by omega) hy
  have HL:=Lib.hid (fun w=>nlz_any y hy w)
  have hm:rcp y=(B64*B64 - 1)/(y*2^lz y) - B64:=rfl
  obtain ⟨ha1,hsc⟩:=scale_two hx1 hx0 hl64 hub
  have ha0:x0*2^lz y%B64<B64:=Nat.mod_lt _ B64_pos
  have hE:=est_words hub hn ha1 ha0 hm
  have hmB:rcp y<B64:=by obtain ⟨_,_,_,_,h,_⟩:=hE;exact h
  have s1:=or_shl x0 x1 (lz y) hx0 hls hl64
  have s2:IntKind.u64.wrap ((x0:Int)*2^lz y)=((x0*2^lz y%B64:Nat):Int):=by
    have:=wrap_mul x0 (2^lz y)
    simpa [wMul] using this
  have s3:IntKind.u64.wrap ((y:Int)*2^lz y)=((y*2^lz y:Nat):Int):=by
    have h:=wrap_mul y (2^lz y)
    have e:wMul y (2^lz y)=y*2^lz y:=by
      unfold wMul
      exact Nat.mod_eq_of_lt hub
    rw [e] at h
    simpa using h
  have FIN:=Lib.hid (fun q r (h1:(x1*B64+x0)*2^lz y/(y*2^lz y)=q) (h2:(x1*B64+x0)*2^lz y%(y*2^lz y)=r)=>show (x1*B64+x0)/y=q∧(x1*B64+x0)%y=r/2^lz y∧q<B64 by
    obtain ⟨g1,g2⟩:=unscale (show 0<y by omega) h1 h2
    refine ⟨g1,g2,?_⟩
    rw [← g1,Nat.div_lt_iff_lt_mul (by omega)]
    have:(x1+1)*B64≤y*B64:=Nat.mul_le_mul_right _ hx1
    rw [Nat.add_mul] at this
    rw [Nat.mul_comm B64]
    omega)
  have hsh:=fun r=>Lib.hid (shr_word r (lz y))
  generalize rcp y=m at *
  generalize (x1*B64+x0)/y=QQ at *
  generalize (x1*B64+x0)%y=RR at *
  generalize x1*2^lz y%B64+x0/2^(64 - lz y)=a1 at *
  generalize x0*2^lz y%B64=a0 at *
  generalize y*2^lz y=u at *
  have hX:=hsc.symm
  generalize (x1*B64+x0)*2^lz y=XX at *
  generalize lz y=l at *
  have hu:=hub
  have hl0:((l:Int) == 0)=false:=by simp;omega
  clear hsc hm
  have HM1:=Lib.hid (fun w=>mul_any m a1 hmB (Nat.lt_trans ha1 hu) w)
  obtain ⟨hi0,hhi0⟩:∃ k,k=wHi m a1 0:=⟨_,rfl⟩
  obtain ⟨lo0,hlo0⟩:∃ k,k=wLo m a1 0:=⟨_,rfl⟩
  have HA1:=Lib.hid (fun w=>add_any lo0 a0 0 (by omega) w)
  rw [← hhi0,← hlo0] at HM1
  rw [← hhi0,← hlo0] at hE
  obtain ⟨c0,hc0⟩:∃ k,k=wCar lo0 a0 0:=⟨_,rfl⟩
  rw [← hc0] at HA1 hE
  obtain ⟨t,R,ht,htB,_,hcl,hR,hRl,hbl,hr1,hr0⟩:=hE
  have HA2:=Lib.hid (fun w=>add_any hi0 a1 c0 hcl w)
  rw [ht] at HA2
  have HM2:=Lib.hid (fun w=>mul_any u t hu htB w)
  have HS1:=Lib.hid (fun w=>sub_any a0 (wLo u t 0) 0 (by omega) w)
  have HS2:=Lib.hid (fun w=>sub_any a1 (wHi u t 0) (wBor a0 (wLo u t 0) 0) hbl w)
  rw [hr1] at HS2
  rw [hr0] at HS1
  have hF:=recip_fin hn (Nat.le_of_lt hu) (show u*t≤a1*B64+a0 by omega) (show a1*B64+a0<u*t+B64+u by omega)
  rw [show a1*B64+a0 - u*t=R by omega] at hF
  generalize wBor a1 (wHi u t 0) (wBor a0 (wLo u t 0) 0)=bb at *
  generalize wBor a0 (wLo u t 0) 0=b0 at *
  generalize wHi u t 0=d1 at *
  generalize wLo u t 0=d0 at *
  generalize wAdd lo0 a0 0=aa0 at *
  generalize wCar hi0 a1 c0=cc1 at *
  have HX:=Lib.hid hX
  clear ht hr1 hr0 hhi0 hlo0 hc0 hR hX
  have et:IntKind.u64.wrap ((t:Int)+1)=((t+1:Nat):Int)∨t+1=B64:=by
    rcases Nat.lt_or_ge (t+1) B64 with h | h
    · left;rw [IntKind.wrap_u64];rw [B64_eq] at h;omega
    · right;omega
  by_cases hge:B64≤R
  · have hq1:R/B64=1:=by
      rw [Nat.div_eq_iff B64_pos]
      rw [B64_eq] at *
      omega
    have hm1:R%B64=R - B64:=by rw [Nat.mod_eq_sub_mod hge,Nat.mod_eq_of_lt (by rw [B64_eq] at *;omega)]
    rw [hq1] at HS2
    rw [hm1] at HS1
    obtain ⟨r0,hr0⟩:∃ k,k=R - B64:=⟨_,rfl⟩
    obtain ⟨r2,hr2⟩:∃ k,k=R - u:=⟨_,rfl⟩
    rw [← hr0] at HS1
    have e2:IntKind.u64.wrap ((r0:Int) - (u:Int))=(r2:Int):=by rw [IntKind.wrap_u64];rw [B64_eq] at *;omega
    by_cases hg2:u≤r2
    · have hres:=hF.2.2.1 hge (by omega)
      obtain ⟨g1,g2⟩:=hres
      rw [← hr2] at g2
      have hfin:=FIN.out (t+2) (r2 - u) (HX.out ▸ g1) (HX.out ▸ g2)
      obtain ⟨r3,hr3⟩:∃ k,k=r2 - u:=⟨_,rfl⟩
      rw [← hr3] at hfin
      have hqB:t+2<B64:=by
        have:=hfin.2.2
        exact this
      have e1:IntKind.u64.wrap ((t:Int)+1)=((t+1:Nat):Int):=by rw [IntKind.wrap_u64];rw [B64_eq] at hqB;omega
      obtain ⟨t1,ht1⟩:∃ k,k=t+1:=⟨_,rfl⟩
      rw [← ht1] at e1
      have e3:IntKind.u64.wrap ((t1:Int)+1)=((t1+1:Nat):Int):=by rw [IntKind.wrap_u64];rw [B64_eq] at hqB;omega
      obtain ⟨t2,ht2⟩:∃ k,k=t1+1:=⟨_,rfl⟩
      rw [← ht2] at e3
      rw [show t+2=t2 by omega] at hfin
      have e4:IntKind.u64.wrap ((r2:Int) - (u:Int))=(r3:Int):=by rw [IntKind.wrap_u64];rw [B64_eq] at *;omega
      have hc1:(u:Int)≤(r2:Int):=by omega
      have HFIN:=Lib.hid hfin
      clear hF g1 g2 hfin hr0 hr2 hr3 ht1 ht2 et hq1 hm1
      go_enter Tryz.func194,Tryz.ntmps194
      go_wp2_with fail
      refine (HL.out _).mono ?_
      rintro e w' ⟨rfl,rfl⟩
      go_wp2_with fail
      refine (HM1.out _).mono ?_
      rintro e w' ⟨rfl,rfl⟩
      go_wp2_with fail
      refine (HA1.out _).mono ?_
      rintro e w' ⟨rfl,rfl⟩
      go_wp2_with fail
      refine (HA2.out _).mono ?_
      rintro e w' ⟨rfl,rfl⟩
      go_wp2_with fail
      refine (HM2.out _).mono ?_
      rintro e w' ⟨rfl,rfl⟩
      go_wp2_with fail
      refine (HS1.out _).mono ?_
      rintro e w' ⟨rfl,rfl⟩
      go_wp2_with fail
      refine (HS2.out _).mono ?_
      rintro e w' ⟨rfl,rfl⟩
      go_wp2_with fail
      go_ret2
      exact ⟨show Ending.returned (Value.tuple #[U t2,.int .u64 ((r3:Int)/2^l)])=_ by rw [(hsh r3).out,HFIN.out.1,HFIN.out.2.1],rfl⟩
    · have hres:=hF.2.2.2 hge (by omega)
      obtain ⟨g1,g2⟩:=hres
      rw [← hr2] at g2
      have hfin:=FIN.out (t+1) r2 (HX.out ▸ g1) (HX.out ▸ g2)
      have hqB:t+1<B64:=hfin.2.2
      have e1:IntKind.u64.wrap ((t:Int)+1)=((t+1:Nat):Int):=by rw [IntKind.wrap_u64];rw [B64_eq] at hqB;omega
      obtain ⟨t1,ht1⟩:∃ k,k=t+1:=⟨_,rfl⟩
      rw [← ht1] at e1 hfin
      have hc1:¬ (u:Int)≤(r2:Int):=by omega
      have HFIN:=Lib.hid hfin
      clear hF g1 g2 hfin hr0 hr2 ht1 et hq1 hm1
      go_enter Tryz.func194,Tryz.ntmps194
      go_wp2_with fail
      refine (HL.out _).mono ?_
      rintro e w' ⟨rfl,rfl⟩
      go_wp2_with fail
      refine (HM1.out _).mono ?_
      rintro e w' ⟨rfl,rfl⟩
      go_wp2_with fail
      refine (HA1.out _).mono ?_
      rintro e w' ⟨rfl,rfl⟩
      go_wp2_with fail
      refine (HA2.out _).mono ?_
      rintro e w' ⟨rfl,rfl⟩
      go_wp2_with fail
      refine (HM2.out _).mono ?_
      rintro e w' ⟨rfl,rfl⟩
      go_wp2_with fail
      refine (HS1.out _).mono ?_
      rintro e w' ⟨rfl,rfl⟩
      go_wp2_with fail
      refine (HS2.out _).mono ?_
      rintro e w' ⟨rfl,rfl⟩
      go_wp2_with fail
      go_ret2
      exact ⟨show Ending.returned (Value.tuple #[U t1,.int .u64 ((r2:Int)/2^l)])=_ by rw [(hsh r2).out,HFIN.out.1,HFIN.out.2.1],rfl⟩
  · have hq1:R/B64=0:=Nat.div_eq_of_lt (by omega)
    have hm1:R%B64=R:=Nat.mod_eq_of_lt (by omega)
    rw [hq1] at HS2
    rw [hm1] at HS1
    by_cases hg2:u≤R
    · obtain ⟨g1,g2⟩:=hF.1 (by omega) hg2
      obtain ⟨r2,hr2⟩:∃ k,k=R - u:=⟨_,rfl⟩
      rw [← hr2] at g2
      have hfin:=FIN.out (t+1) r2 (HX.out ▸ g1) (HX.out ▸ g2)
      have hqB:t+1<B64:=hfin.2.2
      have e1:IntKind.u64.wrap ((t:Int)+1)=((t+1:Nat):Int):=by rw [IntKind.wrap_u64];rw [B64_eq] at hqB;omega
      obtain ⟨t1,ht1⟩:∃ k,k=t+1:=⟨_,rfl⟩
      rw [← ht1] at e1 hfin
      have e4:IntKind.u64.wrap ((R:Int) - (u:Int))=(r2:Int):=by rw [IntKind.wrap_u64];rw [B64_eq] at *;omega
      have hc1:(u:Int)≤(R:Int):=by omega
      have HFIN:=Lib.hid hfin
      clear hF g1 g2 hfin hr2 ht1 et hq1 hm1
      go_enter Tryz.func194,Tryz.ntmps194
      go_wp2_with fail
      refine (HL.out _).mono ?_
      rintro e w' ⟨rfl,rfl⟩
      go_wp2_with fail
      refine (HM1.out _).mono ?_
      rintro e w' ⟨rfl,rfl⟩
      go_wp2_with fail
      refine (HA1.out _).mono ?_
      rintro e w' ⟨rfl,rfl⟩
      go_wp2_with fail
      refine (HA2.out _).mono ?_
      rintro e w' ⟨rfl,rfl⟩
      go_wp2_with fail
      refine (HM2.out _).mono ?_
      rintro e w' ⟨rfl,rfl⟩
      go_wp2_with fail
      refine (HS1.out _).mono ?_
      rintro e w' ⟨rfl,rfl⟩
      go_wp2_with fail
      refine (HS2.out _).mono ?_
      rintro e w' ⟨rfl,rfl⟩
      go_wp2_with fail
      go_ret2
      exact ⟨show Ending.returned (Value.tuple #[U t1,.int .u64 ((r2:Int)/2^l)])=_ by rw [(hsh r2).out,HFIN.out.1,HFIN.out.2.1],rfl⟩
    · obtain ⟨g1,g2⟩:=hF.2.1 (by omega) (by omega)
      have hfin:=FIN.out t R (HX.out ▸ g1) (HX.out ▸ g2)
      have hc1:¬ (u:Int)≤(R:Int):=by omega
      have HFIN:=Lib.hid hfin
      clear hF g1 g2 hfin et hq1 hm1
      go_enter Tryz.func194,Tryz.ntmps194
      go_wp2_with fail
      refine (HL.out _).mono ?_
      rintro e w' ⟨rfl,rfl⟩
      go_wp2_with fail
      refine (HM1.out _).mono ?_
      rintro e w' ⟨rfl,rfl⟩
      go_wp2_with fail
      refine (HA1.out _).mono ?_
      rintro e w' ⟨rfl,rfl⟩
      go_wp2_with fail
      refine (HA2.out _).mono ?_
      rintro e w' ⟨rfl,rfl⟩
      go_wp2_with fail
      refine (HM2.out _).mono ?_
      rintro e w' ⟨rfl,rfl⟩
      go_wp2_with fail
      refine (HS1.out _).mono ?_
      rintro e w' ⟨rfl,rfl⟩
      go_wp2_with fail
      refine (HS2.out _).mono ?_
      rintro e w' ⟨rfl,rfl⟩
      go_wp2_with fail
      go_ret2
      exact ⟨show Ending.returned (Value.tuple #[U t,.int .u64 ((R:Int)/2^l)])=_ by rw [(hsh R).out,HFIN.out.1,HFIN.out.2.1],rfl⟩
theorem divWW_any (x1 x0 y:Nat) (hx1:x1<y) (hx0:x0<B64) (hy:y<B64) (w:World) :
    Calls Tryz.prog 194 #[U x1,U x0,U y,U (rcp y)] w fun e w'=>e=.returned (.tuple #[U ((x1*B64+x0)/y),U ((x1*B64+x0)%y)])∧w'=w:=by
  by_cases h:0<lz y
  · exact divWW_scaled x1 x0 y hx1 hx0 hy h w
  · refine divWW_norm x1 x0 y hx1 hx0 hy ?_ w
    have:=(lz_norm (x:=y) (by omega) hy).2.2
    rw [show lz y=0 by omega,Nat.pow_zero,Nat.mul_one] at this
    exact this
end
section
open Go Go.RowKit
theorem greater_any (x1 x2 y1 y2:Nat) (h1:x1<B64) (h2:x2<B64) (h3:y1<B64) (h4:y2<B64) (w:World):Calls Tryz.prog 196 #[U x1,U x2,U y1,U y2] w fun e w'=>e=.returned (.bool (decide (y1*B64+y2<x1*B64+x2)))∧w'=w:=by
  have hd:decide (y1*B64+y2<x1*B64+x2)=decide (y1<x1∨(x1=y1∧y2<x2)):=by
    rw [B64_eq] at *
    by_cases h:y1<x1∨(x1=y1∧y2<x2)
    · rw [decide_eq_true h,decide_eq_true (by omega)]
    · rw [decide_eq_false h,decide_eq_false (by omega)]
  rw [hd]
  by_cases ha:y1<x1
  · have e1:(y1:Int)<(x1:Int):=by omega
    rw [decide_eq_true (.inl ha)]
    clear hd
    go_enter Tryz.func196,Tryz.ntmps196
    go_wp2_with fail
    go_ret
    exact ⟨rfl,rfl⟩
  · have e1:¬ (y1:Int)<(x1:Int):=by omega
    by_cases hb:x1=y1
    · subst hb
      by_cases hc:y2<x2
      · have e2:(y2:Int)<(x2:Int):=by omega
        rw [decide_eq_true (.inr ⟨rfl,hc⟩)]
        clear hd
        go_enter Tryz.func196,Tryz.ntmps196
        go_wp2_with fail
        go_ret
        exact ⟨rfl,rfl⟩
      · have e2:¬ (y2:Int)<(x2:Int):=by omega
        rw [decide_eq_false (by omega)]
        clear hd
        go_enter Tryz.func196,Tryz.ntmps196
        go_wp2_with fail
        go_ret
        exact ⟨rfl,rfl⟩
    · have e2:((x1:Int) == (y1:Int))=false:=by simp;omega
      have e3:¬ (x1:Int)=(y1:Int):=by omega
      rw [decide_eq_false (by omega)]
      clear hd
      go_enter Tryz.func196,Tryz.ntmps196
      go_wp2_with fail
      go_ret
      exact ⟨rfl,rfl⟩
end
section
open Go Go.RowKit
def shlC (X:Nat→Nat) (s k:Nat):Nat:=if 0<k then X (k - 1)/2^(64 - s) else 0
def shlW (X:Nat→Nat) (s k:Nat):Nat:=X k*2^s%B64+shlC X s k
theorem shl_div (x s:Nat) (h:s<64):x*2^s/B64=x/2^(64 - s):=by
  have hp:B64=2^(64 - s)*2^s:=by rw [← Nat.pow_add,show 64 - s+s=64 by omega];rfl
  rw [hp,Nat.mul_div_mul_right _ _ (Nat.two_pow_pos s)]
theorem shl_val (X:Nat→Nat) (s n:Nat) (h:s<64):val (shlW X s) n+shlC X s n*B64^n=val X n*2^s:=by
  induction n with
  | zero=>simp [val,shlC]
  | succ n ih =>
    have hd:=Nat.div_add_mod (X n*2^s) B64
    rw [shl_div _ _ h] at hd
    have hc:shlC X s (n+1)=X n/2^(64 - s):=by unfold shlC;rw [if_pos (by omega),Nat.add_sub_cancel]
    simp only [val]
    rw [hc,Nat.add_mul,← ih,Nat.pow_succ]
    unfold shlW
    rw [Nat.add_mul (X n*2^s%B64)]
    have e1:X n*B64^n*2^s=X n*2^s*B64^n:=by ac_rfl
    have e2:X n/2^(64 - s)*(B64^n*B64)=B64*(X n/2^(64 - s))*B64^n:=by ac_rfl
    have e3:=congrArg (·*B64^n) hd
    simp only [Nat.add_mul] at e3
    rw [e1,e2]
    omega
theorem shlC_lt {X:Nat→Nat} {s k:Nat} (h:s<64) (hX:∀ j,j<k→X j<B64):shlC X s k<2^s:=by
  have hp:B64=2^(64 - s)*2^s:=by rw [← Nat.pow_add,show 64 - s+s=64 by omega];rfl
  unfold shlC
  split
  · exact Nat.div_lt_of_lt_mul (by rw [← hp];exact hX _ (by omega))
  · exact Nat.two_pow_pos s
theorem shlW_lt {X:Nat→Nat} {s k:Nat} (h:s<64) (hX:∀ j,j<k→X j<B64):shlW X s k<B64:=by
  have hp:B64=2^s*2^(64 - s):=by rw [← Nat.pow_add,show s+(64 - s)=64 by omega];rfl
  have h1:=shlC_lt (k:=k) h hX
  have h2:X k*2^s%B64=2^s*(X k%2^(64 - s)):=by rw [hp,Nat.mul_comm (X k),Nat.mul_mod_mul_left]
  have h3:X k%2^(64 - s)+1≤2^(64 - s):=Nat.mod_lt _ (Nat.two_pow_pos _)
  have h4:=Nat.mul_le_mul_left (2^s) h3
  rw [Nat.mul_add,Nat.mul_one,← hp] at h4
  unfold shlW
  omega
structure WrDn (w wr:World) (b o k n:Nat) (f:Nat→Nat):Prop where
  cells:∀ j,k≤j→j<n→wr.cell? ⟨b,o+j,none⟩=some (U (f j))
  mod:Mod (InR b (o+k) (n - k)) w wr
theorem WrDn.step {w wr:World} {b o k n:Nat} {f:Nat→Nat} (h:WrDn w wr b o (k+1) n f) (hk:k<n) {v:Value} (hv:wr.cell? ⟨b,o+k,none⟩=some v) {u:Value} (hu:u=U (f k)):WrDn w (wr.setCell ⟨b,o+k,none⟩ u) b o k n f:=by
  subst hu
  refine ⟨fun j h1 h2 => ?_,(h.mod.mono fun c j _ hh=>⟨hh.1,by have:=hh.2.1;omega,by have:=hh.2.2;omega⟩).setCell (fun _=>⟨rfl,by omega,by omega⟩) _⟩
  by_cases e:j=k
  · subst e;exact cell_same hv _
  · rw [cell_other (.inr (by omega))];exact h.cells j (by omega) h2
set_option maxRecDepth 100000 in
set_option maxHeartbeats 1000000 in
theorem lshVU_g_any (bz oz cz bx ox cx n s:Nat) (X Z:Nat→Nat) (w:World)
   (hX:Vec w bx ox n X) (hZ:Vec w bz oz n Z) (hn:n<1000000) (hn0:0<n) (h1:0<s) (h2:s<64) (al:bz=bx→ox=oz) :
    Calls Tryz.prog 195 #[.slice (some ⟨bz,oz,none⟩) n cz,.slice (some ⟨bx,ox,none⟩) n cx,U s] w
      fun e w'=>e=.returned (U (shlC X s n))∧Vec w' bz oz n (shlW X s)∧Mod (InR bz oz n) w w':=by
  have hs:bits .and .u64 (s:Int) 63=(s:Int):=by rw [u64_and63 s (by omega),Nat.mod_eq_of_lt h2]
  have hs':bits .and .u64 (64 - (s:Int)) 63=64 - (s:Int):=by
    have:=u64_and63 (64 - s) (by omega)
    rw [Nat.mod_eq_of_lt (by omega)] at this
    rw [show (64 - (s:Int))=((64 - s:Nat):Int) by omega,this]
  have hxt:=(hX (n - 1) (by omega)).1
  have HXT:=Lib.hid (show ((X (n - 1):Nat):Int)/2^(64 - s)=((shlC X s n:Nat):Int) by unfold shlC;rw [if_pos hn0];simp)
  generalize hxe:X (n - 1)=xt at *
  clear hxe
  have hs0:((s:Int) == 0)=false:=by simp;omega
  have hn0':((n:Int) == 0)=false:=by simp;omega
  have i1:(0:Int)≤(n:Int) - 1:=by omega
  have i2:(n:Int) - 1<(n:Int):=by omega
  have i3:((n:Int) - 1).toNat=n - 1:=by omega
  go_enter Tryz.func195,Tryz.ntmps195
  go_wp2_with fail
  go_loopw [8] (fun i wr=>∃ j:Nat,j<n∧i=.int .i64 (j:Int)∧WrDn w wr bz oz (j+1) n (shlW X s)) (fun i _=>(intOf i).toNat)
  case atStart=>exact ⟨n - 1,by omega,by go_num,⟨fun j h3 h4=>by omega,.refl _ _⟩⟩
  case round =>
    obtain ⟨j,hj,rfl,hw⟩:=hrel
    have hrd:∀ i,i≤j→wr.cell? ⟨bx,ox+i,none⟩=some (U (X i)):=fun i hi =>
      hw.mod.cell_some (hX i (by omega)).1 fun hh=>by have:=hh.1;have:=hh.2.1;have:=al hh.1.symm;omega
    have hcx:=hrd j (Nat.le_refl _)
    obtain ⟨zk,hcz⟩:=hw.mod.cell_there (hZ j hj).1
    have hfz:=hw.mod.free (hZ j hj).1 (hZ j hj).2.1
    have hxl:=(hX j hj).2.2
    have Hw:=Lib.hid hw
    by_cases hlt:0<j
    · obtain ⟨k,rfl⟩:∃ k,j=k+1:=⟨j - 1,by omega⟩
      have hcx1:=hrd k (by omega)
      have hxl1:=(hX k (by omega)).2.2
      have Hs:=Lib.hid (show X (k+1)*2^s%B64+X k/2^(64 - s)=shlW X s (k+1) by unfold shlW shlC;rw [if_pos (by omega),Nat.add_sub_cancel])
      have Hor:=Lib.hid (or_shl (X k) (X (k+1)) s hxl1 h1 h2)
      generalize X (k+1)=xj at *
      generalize X k=xk at *
      have k1:(k:Int)+1 - 1=(k:Int):=by omega
      have k2:IntKind.i64.wrap (k:Int)=(k:Int):=IntWalk.i64_in _ (by omega)
      have k3:(0:Int)≤(k:Int)+1:=by omega
      have k4:(k:Int)+1<(n:Int):=by omega
      have k5:((k:Int)+1).toNat=k+1:=by omega
      have k6:(0:Int)<(k:Int)+1:=by omega
      have k7:k<n:=by omega
      have k8:(k:Int)<(n:Int):=by omega
      have k9:IntKind.i64.wrap ((k:Int)+1 - 1)=(k:Int):=by rw [k1];exact k2
      clear hw hrd
      go_wp2_with fail
      go_still_tail 17,(by kernel_rfl)
      simp only [World.drew_eq]
      go_wp2_with fail
      go_roundw
      case rel =>
        refine ⟨k,by omega,by go_num,?_⟩
        have hst:=(⟨Hw.out.cells,Hw.out.mod.drew⟩:WrDn w wr.drew bz oz (k+1+1) n (shlW X s))
        exact hst.step hj (v:=zk) hcz (by rw [← Hs.out];exact congrArg (Value.int .u64) Hor.out)
      case measure=>simp [intOf]
    · obtain rfl:j=0:=by omega
      have Hs:=Lib.hid (show X 0*2^s%B64=shlW X s 0 by unfold shlW shlC;rw [if_neg (by omega)];rfl)
      generalize X 0=x0 at *
      clear hw hrd
      rw [Nat.add_zero] at hcx hcz hfz
      go_wp2_with fail
      go_ret
      have e2:IntKind.u64.wrap ((x0:Int)*2^s)=((x0*2^s%B64:Nat):Int):=by
        have:=wrap_mul x0 (2^s)
        simpa [wMul] using this
      have hst:=Hw.out.step hj (v:=zk) (by rw [Nat.add_zero];exact hcz) (u:=.int .u64 (IntKind.u64.wrap ((x0:Int)*2^s))) (by rw [e2,Hs.out])
      rw [Nat.add_zero] at hst
      refine ⟨?_,fun i hi=>⟨hst.cells i (by omega) hi,hst.mod.free (hZ i hi).1 (hZ i hi).2.1,shlW_lt h2 (fun j hj=>(hX j (by omega)).2.2)⟩,hst.mod⟩
      show Ending.returned (Value.int .u64 ((xt:Int)/2^(64 - s)))=_
      rw [HXT.out]
theorem lshVU_any (bz oz cz bx ox cx n s:Nat) (X Z:Nat→Nat) (w:World)
   (hX:Vec w bx ox n X) (hZ:Vec w bz oz n Z) (hn:n<1000000) (hn0:0<n) (h1:0<s) (h2:s<64) (al:bz=bx→ox=oz) :
    Calls Tryz.prog 174 #[.slice (some ⟨bz,oz,none⟩) n cz,.slice (some ⟨bx,ox,none⟩) n cx,U s] w
      fun e w'=>e=.returned (U (shlC X s n))∧Vec w' bz oz n (shlW X s)∧Mod (InR bz oz n) w w':=by
  have H:=Lib.hid (fun w' (h:w'=w)=>h ▸ lshVU_g_any bz oz cz bx ox cx n s X Z w hX hZ hn hn0 h1 h2 al)
  clear hX hZ
  go_enter Tryz.func174,Tryz.ntmps174
  go_wp2_with fail
  refine (H.out _ rfl).mono ?_
  rintro e w' ⟨rfl,h1,h2⟩
  go_wp2_with fail
  go_ret
  exact ⟨rfl,h1,h2⟩
end
section
open Go Go.RowKit
def topV (X:Nat→Nat) (n k:Nat):Nat:=val (fun i=>X (k+i)) (n - k)
theorem topV_n (X:Nat→Nat) (n:Nat):topV X n n=0:=by unfold topV;rw [Nat.sub_self];rfl
theorem topV_0 (X:Nat→Nat) (n:Nat):topV X n 0=val X n:=by unfold topV;rw [Nat.sub_zero];exact val_congr fun i _=>by rw [Nat.zero_add]
theorem topV_step (X:Nat→Nat) {n k:Nat} (h:k<n):topV X n k=X k+B64*topV X n (k+1):=by
  unfold topV
  rw [show n - k=1+(n - (k+1)) by omega,val_add,val_one,Nat.pow_one,Nat.add_zero]
  congr 2
  exact val_congr fun i _=>by rw [Nat.add_assoc]
def dgW (X:Nat→Nat) (y n k:Nat):Nat:=(topV X n (k+1)%y*B64+X k)/y
theorem dg_step (X:Nat→Nat) {y n k:Nat} (hy:0<y) (h:k<n):topV X n k/y=dgW X y n k+B64*(topV X n (k+1)/y)∧topV X n k%y=(topV X n (k+1)%y*B64+X k)%y:=by
  have hd:=Nat.div_add_mod (topV X n (k+1)) y
  have hd2:=Nat.div_add_mod (topV X n (k+1)%y*B64+X k) y
  have hm:=Nat.mod_lt (topV X n (k+1)%y*B64+X k) hy
  refine div_of ?_ hm
  rw [topV_step X h]
  unfold dgW
  generalize topV X n (k+1)%y=r at *
  generalize topV X n (k+1)/y=q at *
  rw [← hd,Nat.add_mul,Nat.mul_add]
  have e1:B64*q*y=B64*(y*q):=by ac_rfl
  have e2:B64*r=r*B64:=Nat.mul_comm _ _
  have e3:(r*B64+X k)/y*y=y*((r*B64+X k)/y):=Nat.mul_comm _ _
  omega
theorem dg_lt {X:Nat→Nat} {y n k:Nat} (hy:0<y) (hX:X k<B64):dgW X y n k<B64:=by
  unfold dgW
  have:=Nat.mod_lt (topV X n (k+1)) hy
  rw [Nat.div_lt_iff_lt_mul hy]
  have h2:=Nat.mul_le_mul_right B64 (show topV X n (k+1)%y+1≤y by omega)
  rw [Nat.add_mul,Nat.one_mul] at h2
  rw [Nat.mul_comm B64]
  omega
theorem dg_val (X:Nat→Nat) {y n:Nat} (hy:0<y):∀ d k,k+d=n→topV (dgW X y n) n k=topV X n k/y
  | 0,k,h=>by rw [show n=k by omega,topV_n,topV_n,Nat.zero_div]
  | d+1,k,h=>by
    rw [topV_step _ (show k<n by omega),dg_val X hy d (k+1) (by omega),(dg_step X hy (show k<n by omega)).1]
set_option maxRecDepth 100000 in
set_option maxHeartbeats 2000000 in
theorem divWVW_any (bz oz cz bx ox cx n y:Nat) (X Z:Nat→Nat) (w:World)
   (hX:Vec w bx ox n X) (hZ:Vec w bz oz n Z) (hn:n<1000000) (hn2:2≤n) (hy0:0<y) (hy:y<B64) (al:bz=bx→ox=oz) :
    Calls Tryz.prog 172 #[.slice (some ⟨bz,oz,none⟩) n cz,U 0,.slice (some ⟨bx,ox,none⟩) n cx,U y] w
      fun e w'=>e=.returned (U (val X n%y))∧Vec w' bz oz n (dgW X y n)∧Mod (InR bz oz n) w w':=by
  have HR:=Lib.hid (fun w=>recip_any y hy0 hy w)
  have HD:=Lib.hid (fun x1 x0 (h1:x1<y) (h0:x0<B64) w=>divWW_any x1 x0 y h1 h0 hy w)
  generalize rcp y=rc at *
  have hb:((n:Int) == 1)=false:=by simp;omega
  have HX:=Lib.hid hX
  have HZ:=Lib.hid hZ
  clear hX hZ
  go_enter Tryz.func172,Tryz.ntmps172
  go_wp2_with fail
  refine (HR.out _).mono ?_
  rintro e w1 ⟨rfl,kd,rfl⟩
  have HX1:=Lib.hid (HX.out.drewN kd)
  have HZ1:=Lib.hid (HZ.out.drewN kd)
  have HM1:=Lib.hid ((Mod.refl NoP w).drewN kd)
  clear HX HZ
  generalize w.drewN kd=w1 at *
  go_wp2_with fail
  go_loopw [8,12] (fun r i wr=>∃ k rr:Nat,k≤n∧i=.int .i64 ((k:Int) - 1)∧r=U rr∧Hid (rr=topV X n k%y)∧WrDn w1 wr bz oz k n (dgW X y n)) (fun _ i _=>(intOf i+1).toNat)
  case atStart=>exact ⟨n,0,Nat.le_refl _,by go_num,rfl,(show (0:Nat)=topV X n n%y by rw [topV_n,Nat.zero_mod]),⟨fun j h3 h4=>by omega,.refl _ _⟩⟩
  case round =>
    obtain ⟨k,rr,hk,rfl,rfl,hr,hw⟩:=hrel
    by_cases hk0:k=0
    · subst hk0
      have HF:=Lib.hid (show rr=val X n%y by rw [hr.out,topV_0])
      have HW:=Lib.hid hw
      clear hw hr
      go_wp2_with fail
      go_ret
      refine ⟨by rw [← HF.out];rfl,fun i hi=>⟨HW.out.cells i (by omega) hi,HW.out.mod.free (HZ1.out i hi).1 (HZ1.out i hi).2.1,dg_lt hy0 (HX1.out i hi).2.2⟩,?_⟩
      have hm:=HW.out.mod
      rw [Nat.add_zero,Nat.sub_zero] at hm
      exact HM1.out.of_none.trans hm
    · obtain ⟨j,rfl⟩:∃ j,k=j+1:=⟨k - 1,by omega⟩
      rw [show (((j+1:Nat):Int) - 1)=(j:Int) by omega]
      have hj:j<n:=by omega
      have hcx:wr.cell? ⟨bx,ox+j,none⟩=some (U (X j)):=hw.mod.cell_some (HX1.out j hj).1 fun hh=>by have:=hh.1;have:=hh.2.1;have:=al hh.1.symm;omega
      obtain ⟨zk,hcz⟩:=hw.mod.cell_there (HZ1.out j hj).1
      have hfz:=hw.mod.free (HZ1.out j hj).1 (HZ1.out j hj).2.1
      have hxl:=(HX1.out j hj).2.2
      have hrl:rr<y:=by rw [hr.out];exact Nat.mod_lt _ hy0
      have hs:=dg_step X hy0 hj
      have Hq:=Lib.hid (show (rr*B64+X j)/y=dgW X y n j by rw [hr.out];rfl)
      have Hm:=Lib.hid (show (rr*B64+X j)%y=topV X n j%y by rw [hs.2,hr.out])
      have Hw:=Lib.hid hw
      clear hw hr hs
      generalize X j=xj at *
      have HDJ:=Lib.hid (HD.out rr xj hrl hxl)
      generalize (rr*B64+xj)/y=dq at *
      generalize (rr*B64+xj)%y=dr at *
      go_wp2_with fail
      refine (HDJ.out _).mono ?_
      rintro e w' ⟨rfl,rfl⟩
      go_wp2_with fail
      go_roundw
      case rel=>exact ⟨j,dr,by omega,by go_num,rfl,Hm.out,Hw.out.step hj (v:=zk) hcz (by rw [Hq.out])⟩
      case measure=>simp [intOf]
def DivWRet (w:World) (z:Option Addr) (q r:Nat) (e:Ending) (w':World):Prop :=
  ∃ a n c f,e=.returned (.tuple #[.slice a n c,U r])∧NatIs w' a n c f q∧Mod (BlkOf z) w w'∧(a=z∨Fresh w a)
set_option maxRecDepth 100000 in
set_option maxHeartbeats 2000000 in
theorem divW_any (az ax:Option Addr) (nz cz nx cx vx y:Nat) (w:World) (fz fx:Nat→Nat) (hZ:Arr w az cz fz) (hnz:nz≤cz) (hX:NatIs w ax nx cx fx vx) (hsx:nx≤1000) (hs2:2≤nx) (hy0:0<y) (hy:y<B64) :
    Calls Tryz.prog 144 #[.slice az nz cz,.slice ax nx cx,U y] w (DivWRet w az (vx/y) (vx%y)):=by
  have hb0:((y:Int) == 0)=false:=by simp;omega
  by_cases hy1:y=1
  · subst hy1
    have HS:=Lib.hid (natSet_any az ax nz cz nx cx vx w fz fx hZ hnz hX (by omega))
    rw [Nat.div_one,Nat.mod_one]
    clear hZ hX
    go_enter Tryz.func144,Tryz.ntmps144
    go_wp2_with fail
    refine HS.out.mono ?_
    rintro e w1 ⟨a,n,c,f,rfl,h1,h2,h3⟩
    have H1:=Lib.hid h1
    clear h1
    go_wp2_with fail
    go_ret2
    exact ⟨a,n,c,f,rfl,H1.out,h2,h3⟩
  have hb1:((y:Int) == 1)=false:=by
    have:¬ (y:Int)=1:=by omega
    simp [this]
  have hb2:((nx:Int) == 0)=false:=by simp;omega
  obtain ⟨bx,rfl⟩:=hX.arr.form (by have:=hX.le;omega)
  have HM:=Lib.hid (make_any az nz cz nx w fz hZ hnz (by omega))
  have HX:=Lib.hid hX
  clear hZ hX
  go_enter Tryz.func144,Tryz.ntmps144
  go_wp2_with fail
  refine HM.out.mono ?_
  rintro e w1 ⟨a',c',f',rfl,hA',hm,hmod,hfr⟩
  obtain ⟨b,rfl⟩:=hA'.form (by omega)
  have hX1:=HX.out.mod hmod (Off.noP _)
  have HV:=Lib.hid (divWVW_any b 0 c' bx 0 cx nx y fx f' w1 (hX1.arr.vec.take hX1.le) (hA'.vec.take hm) (by omega) hs2 hy0 hy (fun _=>rfl))
  have HA:=Lib.hid hA'
  have hv:=dg_val fx (n:=nx) hy0 nx 0 (by omega)
  rw [topV_0,topV_0,HX.out.val] at hv
  have HQ:=Lib.hid hv
  rw [HX.out.val] at HV
  clear hA' hX1 hv
  generalize vx%y=rr at *
  go_wp2_with fail
  refine HV.out.mono ?_
  rintro e w2 ⟨rfl,hV2,m2⟩
  have hA2:=HA.out.wroteAt hV2 m2
  have HN:=Lib.hid ((norm_any (some ⟨b,0,none⟩) nx c' w2 _ hA2 hm (by omega)).mono fun e w4 h=>h.ret (z:=az) (w:=w) (v:=vx/y) (by
    rw [← HQ.out]
    exact val_congr fun i hi=>by unfold lay;rw [if_pos (by omega)];rfl) ((hmod.of_none (M:=BlkOf az)).trans' m2 fun k o hk h=>by
      have:=h.1
      subst this
      exact blk_of hfr hk o) hfr)
  clear hA2 hV2 m2
  go_wp2_with fail
  refine HN.out.mono ?_
  rintro e w4 ⟨a,n,c,f,rfl,h1,h2,h3⟩
  have H1:=Lib.hid h1
  clear h1
  go_wp2_with fail
  go_ret2
  exact ⟨a,n,c,f,rfl,H1.out,h2,h3⟩
end
end Go.Proofs.YtpfmbfkhjapbbaaGreatDoor
