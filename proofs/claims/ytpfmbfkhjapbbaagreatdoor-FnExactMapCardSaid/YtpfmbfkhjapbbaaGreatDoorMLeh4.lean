/-
  lehmerSimulate. Conditions: the second number is no more than the first, and has two words at least.
-/
import Derived.Test.YtpfmbfkhjapbbaaGreatDoorMg02
import Derived.Test.YtpfmbfkhjapbbaaGreatDoorMg17
import Derived.Test.YtpfmbfkhjapbbaaGreatDoorMg20
import Derived.Deep.DeepCutAuto
import Derived.Outline
set_option linter.unusedVariables false
set_option linter.unusedSimpArgs false
namespace Go.Proofs.YtpfmbfkhjapbbaaGreatDoor
open Go Go.RowKit
def SimRet (a b:Nat) (w:World) (e:Ending) (w':World):Prop :=
  ∃ u0 u1 v0 v1 ev,e=.returned (.tuple #[U u0,U u1,U v0,U v1,.bool ev])∧u0<B64∧u1<B64∧v0<B64∧v1<B64 ∧
    (v0=0∨∃ x y S,Sim x y u0 u1 v0 v1 ev∧x*S≤a∧a<(x+1)*S∧y*S≤b∧b<(y+1)*S)∧∃ q,w'=w.drewN q
theorem lead_lt {x1 x2 h:Nat} (hh:h<64) (h1:x1*2^h<B64) (h2:x2<B64):x1*2^h+x2/2^(64 - h)<B64:=by
  have hp:2^(64 - h)*2^h=B64:=by rw [← Nat.pow_add,show 64 - h+h=64 by omega];rfl
  have hx':x2/2^(64 - h)<2^h:=Nat.div_lt_of_lt_mul (by rw [hp];exact h2)
  have h3:x1<2^(64 - h):=Nat.lt_of_mul_lt_mul_right (a:=2^h) (by rw [hp];exact h1)
  have h4:(x1+1)*2^h≤2^(64 - h)*2^h:=Nat.mul_le_mul_right _ h3
  rw [hp,Nat.add_mul,Nat.one_mul] at h4
  omega
def LsRel (x y a1 a2 u0 u1 u2 v0 v1 v2:Nat) (ev:Bool):Prop :=
  LehSt x y a1 a2 u0 u1 u2 v0 v1 v2 ev∧u0<B64∧u1<B64∧u2<B64∧v0<B64∧v1<B64∧v2<B64∧a1<B64
theorem LsRel.start {x y:Nat} (h:y≤x) (hx:x<B64):LsRel x y x y 0 1 0 0 0 1 false:=⟨.start h,by decide,by decide,by decide,by decide,by decide,by decide,hx⟩
theorem LsRel.step {x y a1 a2 u0 u1 u2 v0 v1 v2:Nat} {ev:Bool} (h:LsRel x y a1 a2 u0 u1 u2 v0 v1 v2 ev) (hx:x<B64) (hy:y<B64) (k1:v2≤a2) (k2:v1+v2≤a1 - a2) :
    LsRel x y a2 (a1%a2) u1 u2 (u1+a1/a2*u2) v1 v2 (v1+a1/a2*v2) (!ev)∧u1+a1/a2*u2<B64∧v1+a1/a2*v2<B64:=by
  obtain ⟨l,b0,b1,b2,b3,b4,b5,b6⟩:=h
  have hn:=l.next_le k1
  have hle:=l.le
  exact ⟨⟨l.step k1 k2,b1,b2,by omega,b4,b5,by omega,by omega⟩,by omega,by omega⟩
theorem SimRet.mk {a b x y S u0 u1 v0 v1:Nat} {ev:Bool} {w w':World} (hS:0<S) (hx:x=a/S) (hy:y=b/S) (b0:u0<B64) (b1:u1<B64) (b2:v0<B64) (b3:v1<B64) (h:v0=0∨Sim x y u0 u1 v0 v1 ev) (hw:∃ q,w'=w.drewN q) :
    SimRet a b w (.returned (.tuple #[U u0,U u1,U v0,U v1,.bool ev])) w':=by
  have h1:=lead_bounds (x:=a) hS
  have h2:=lead_bounds (x:=b) hS
  rw [← hx] at h1
  rw [← hy] at h2
  exact ⟨u0,u1,v0,v1,ev,rfl,b0,b1,b2,b3,h.imp id fun h=>⟨x,y,S,h,h1.1,h1.2,h2.1,h2.2⟩,hw⟩
theorem lead_or {x1 x2 h:Nat} (h0:0<h) (hh:h<64) (h1:x1*2^h<B64) (h2:x2<B64):bits .or .u64 (IntKind.u64.wrap ((x1:Int)*2^h)) ((x2:Int)/2^(64 - h))=((x1*2^h+x2/2^(64 - h):Nat):Int):=by
  rw [or_shl x2 x1 h h2 h0 hh,Nat.mod_eq_of_lt h1]
theorem lead_or0 {x1 x2:Nat} (h1:x1<B64) (h2:x2<B64):bits .or .u64 (IntKind.u64.wrap (x1:Int)) ((x2:Int)/18446744073709551616)=((x1*2^0+x2/2^(64 - 0):Nat):Int):=by
  have e1:IntKind.u64.wrap (x1:Int)=(x1:Int):=by rw [IntKind.wrap_u64];rw [B64_eq] at h1;omega
  have e2:(x2:Int)/18446744073709551616=((0:Nat):Int):=by rw [B64_eq] at h2;omega
  have e3:x2/2^(64 - 0)=0:=Nat.div_eq_of_lt (by rw [B64_eq] at h2;exact h2)
  rw [e1,e2,e3,(bits_nat .u64 64 (by decide) (fun n h0 h1=>by rw [IntKind.wrap_u64];omega) x1 0 (by rw [B64_eq] at h1;omega) (by decide)).2]
  simp
set_option maxRecDepth 100000 in
set_option maxHeartbeats 8000000 in
theorem lehSim_any (pa pb n ca m cb a b:Nat) (ba bb:Bool) (fa fb:Nat→Nat) (xa xb:Option Addr) (w:World) (hA:IntIs w pa ba xa n ca fa a) (hB:IntIs w pb bb xb m cb fb b) (hm:2≤m) (hle:b≤a) (hn:n≤1000) :
    Calls Tryz.prog 164 #[.pointer (some ⟨pa,0,none⟩),.pointer (some ⟨pb,0,none⟩)] w (SimRet a b w):=by
  have hmn:m≤n:=by
    rcases Nat.lt_or_ge n m with h | h
    · have:=hA.num.less_len hB.num h;omega
    · exact h
  obtain ⟨qa,rfl⟩:=hA.num.arr.form (by have:=hA.num.le;omega)
  obtain ⟨qb,rfl⟩:=hB.num.arr.form (by have:=hB.num.le;omega)
  have hAv:=hA.num.arr.vec.take hA.num.le
  have hBv:=hB.num.arr.vec.take hB.num.le
  have hAw:∀ j,j<n→fa j<B64:=fun j hj=>(hAv j hj).2.2
  have hBw:∀ j,j<m→fb j<B64:=fun j hj=>(hBv j hj).2.2
  have hA1:=(hAv (n - 1) (by omega)).1
  have hA2:=(hAv (n - 2) (by omega)).1
  rw [Nat.zero_add] at hA1 hA2
  have ht0:fa (n - 1)≠0:=hA.num.top.resolve_left (by omega)
  obtain ⟨hh1,hh2,hh3⟩:=lz_norm (Nat.pos_of_ne_zero ht0) (hAw (n - 1) (by omega))
  have HNZ:=Lib.hid (fun w=>nlz_any (fa (n - 1)) (hAw (n - 1) (by omega)) w)
  obtain ⟨h,hhe⟩:∃ h,h=lz (fa (n - 1)):=⟨_,rfl⟩
  rw [← hhe] at hh1 hh2 hh3 HNZ
  have a1:=hA.c1
  have b1:=hB.c1
  have k1:(0:Int)≤(n:Int) - 1:=by omega
  have k2:(n:Int) - 1<(n:Int):=by omega
  have k3:((n:Int) - 1).toNat=n - 1:=by omega
  have k4:(0:Int)≤(n:Int) - 2:=by omega
  have k5:(n:Int) - 2<(n:Int):=by omega
  have k6:((n:Int) - 2).toNat=n - 2:=by omega
  have k7:IntKind.i64.wrap ((n:Int) - 1)=(n:Int) - 1:=by rw [IntKind.wrap_i64];omega
  have k8:IntKind.i64.wrap ((n:Int) - 2)=(n:Int) - 2:=by rw [IntKind.wrap_i64];omega
  have HA:=Lib.hid hA
  have HB:=Lib.hid hB
  have HAV:=Lib.hid hAv
  have HBV:=Lib.hid hBv
  have HAW:=Lib.hid hAw
  have HBW:=Lib.hid hBw
  have HHH:=Lib.hid (And.intro hh2 hh3)
  clear hA hB hAv hBv hAw hBw ht0 hhe hh2 hh3
  generalize ha1:fa (n - 1)=x1 at *
  generalize ha2:fa (n - 2)=x2 at *
  have HX1:=Lib.hid ha1
  have HX2:=Lib.hid ha2
  clear ha1 ha2
  go_enter Tryz.func164,Tryz.ntmps164
  go_wp2_with fail
  refine (HNZ.out _).mono ?_
  rintro e w' ⟨rfl,hw'⟩
  obtain rfl:=hw'.symm
  clear hw'
  go_upto_region 5 with fail
  have hn2:2≤n:=by omega
  have g1:IntKind.u64.wrap (64 - (h:Int))=64 - (h:Int):=by rw [IntKind.wrap_u64];omega
  go_cut [9] from 37 to 58 (fun s9 wx=>s9=U (x1*2^h+x2/2^(64 - h))∧∃ q,wx=w.drewN q)
  case first =>
    have HOR:=Lib.hid (fun h0:0<h=>lead_or h0 hh1 HHH.out.1 (by rw [← HX2.out];exact HAW.out _ (by omega)):0<h→bits .or .u64 (IntKind.u64.wrap ((x1:Int)*2^h)) ((x2:Int)/2^(64 - h))=((x1*2^h+x2/2^(64 - h):Nat):Int))
    have HOZ:=Lib.hid (lead_or0 (x1:=x1) (x2:=x2) (by rw [← HX1.out];exact HAW.out _ (by omega)) (by rw [← HX2.out];exact HAW.out _ (by omega)))
    by_cases h0:h=0
    · subst h0
      go_quiet (fail)
      go_wp2_with fail
      go_meet
      case rel=>exact ⟨congrArg (Value.int .u64) HOZ.out,_,rfl⟩
    · have hp:0<h:=by omega
      have HO:=Lib.hid (HOR.out hp)
      go_quiet (fail)
      go_wp2_with fail
      go_meet
      case rel=>exact ⟨congrArg (Value.int .u64) HO.out,_,rfl⟩
  case rest =>
    obtain ⟨rfl,q,rfl⟩:=hcut
    obtain ⟨S,hS⟩:∃ S,S=2^(64*(n - 1) - h):=⟨_,rfl⟩
    have hSp:0<S:=by rw [hS];exact Nat.two_pow_pos _
    have hxS:x1*2^h+x2/2^(64 - h)=a/S:=by
      rw [hS,← HA.out.num.val,top_word hn2 HAW.out hh1,HX1.out,HX2.out]
    have hxB:x1*2^h+x2/2^(64 - h)<B64:=by
      exact lead_lt hh1 HHH.out.1 (by rw [← HX2.out];exact HAW.out _ (by omega))
    obtain ⟨x,hx⟩:∃ x,x=x1*2^h+x2/2^(64 - h):=⟨_,rfl⟩
    rw [← hx] at hxS hxB
    rw [← hx]
    have HX:=Lib.hid hxS
    have HXB:=Lib.hid hxB
    have HSP:=Lib.hid hSp
    have HS:=Lib.hid hS
    clear hxS hxB hSp hS hx
    by_cases c0:n=m
    · subst c0
      have hB1:=(HBV.out (n - 1) (by omega)).1
      have hB2:=(HBV.out (n - 2) (by omega)).1
      rw [Nat.zero_add] at hB1 hB2
      have hle2:fb (n - 1)≤x1:=by
        rw [← HX1.out]
        refine Classical.byContradiction fun hc => ?_
        have h1:=val_lt_of_word (f:=fa) (g:=fb) (m:=n - 1) (n:=n) HAW.out (by omega) (fun j h1 h2=>by omega) (by omega)
        rw [HA.out.num.val,HB.out.num.val] at h1
        omega
      have hb1:fb (n - 1)*2^h<B64:=Nat.lt_of_le_of_lt (Nat.mul_le_mul_right _ hle2) HHH.out.1
      have hyS:fb (n - 1)*2^h+fb (n - 2)/2^(64 - h)=b/S:=by
        rw [HS.out,← HB.out.num.val,top_word hn2 HBW.out hh1]
      have hyl:=lead_lt hh1 hb1 (HBW.out (n - 2) (by omega))
      have HOR:=Lib.hid (fun h0:0<h=>lead_or h0 hh1 hb1 (HBW.out (n - 2) (by omega)))
      have HOZ:=Lib.hid (lead_or0 (x1:=fb (n - 1)) (x2:=fb (n - 2)) (HBW.out _ (by omega)) (HBW.out _ (by omega)))
      obtain ⟨y,hy⟩:∃ y,y=fb (n - 1)*2^h+fb (n - 2)/2^(64 - h):=⟨_,rfl⟩
      rw [← hy] at hyS hyl
      have HYE:=Lib.hid hy
      have HY:=Lib.hid hyS
      have HYB:=Lib.hid hyl
      have HST:=Lib.hid (LsRel.start (x:=x) (y:=y) (by rw [HX.out,HY.out];exact Nat.div_le_div_right hle) HXB.out)
      clear hle2 hb1 hyS hyl hy
      generalize fb (n - 1)=z1 at *
      generalize fb (n - 2)=z2 at *
      have d1:((n:Int) == (n:Int))=true:=by simp
      have hyx:y=z1*2^h+z2/2^(64 - h):=HYE.out
      by_cases h0:h=0
      · have hor:bits .or .u64 (IntKind.u64.wrap (z1:Int)) ((z2:Int)/18446744073709551616)=(y:Int):=by rw [hyx,h0];exact HOZ.out
        subst h0
        clear hyx HOR HOZ HYE
        go_wp2_with fail
        go_quiet (fail)
        go_wp2_with fail
        go_loopw [4,5,6,7,8,9,10,11,12] (fun s4 s5 s6 s7 s8 s9 s10 s11 s12 wx=>∃ (a1 a2 u0 u1 u2 v0 v1 v2:Nat) (ev:Bool),s4=U u0∧s5=U u1∧s6=U v0∧s7=U v1∧s8=.bool ev∧s9=U a1∧s10=U a2∧s11=U u2∧s12=U v2∧Hid (LsRel x y a1 a2 u0 u1 u2 v0 v1 v2 ev)∧Hid (∃ q,wx=w.drewN q)) (fun _ _ _ _ _ _ s10 _ _ _=>(intOf s10).toNat)
        case atStart=>exact ⟨x,y,0,1,0,0,0,1,false,rfl,rfl,rfl,rfl,rfl,rfl,rfl,rfl,rfl,HST.out,(by first | exact ⟨_,rfl⟩ | exact ⟨_,World.drewN_drewN _ _ _⟩)⟩
        case round =>
          obtain ⟨a1,a2,u0,u1,u2,v0,v1,v2,ev,rfl,rfl,rfl,rfl,rfl,rfl,rfl,rfl,rfl,hl,hw⟩:=hrel
          have hle:=hl.out.1.le
          have hv2:=hl.out.1.v2p
          have q6:=hl.out.2.2.2.2.2.2.2
          by_cases c1:v2≤a2
          · have d1:(v2:Int)≤(a2:Int):=by omega
            have d2:decide ((a2:Int) ≥ (v2:Int))=true:=decide_eq_true d1
            have hsum:=hl.out.1.sum_le c1
            have w1:IntKind.u64.wrap ((a1:Int) - (a2:Int))=(a1:Int) - (a2:Int):=by rw [IntKind.wrap_u64];rw [B64_eq] at q6;omega
            have hxb:=HXB.out
            have w2:IntKind.u64.wrap ((v1:Int)+(v2:Int))=(v1:Int)+(v2:Int):=by rw [IntKind.wrap_u64];rw [B64_eq] at hxb;omega
            by_cases c2:v1+v2≤a1 - a2
            · have d3:(v1:Int)+(v2:Int)≤(a1:Int) - (a2:Int):=by omega
              have d4:decide ((a1:Int) - (a2:Int) ≥ (v1:Int)+(v2:Int))=true:=decide_eq_true d3
              obtain ⟨hst,hu3,hv3⟩:=hl.out.step HXB.out HYB.out c1 c2
              obtain ⟨qq,hqq⟩:∃ k,k=a1/a2:=⟨_,rfl⟩
              obtain ⟨rr,hrr⟩:∃ k,k=a1%a2:=⟨_,rfl⟩
              rw [← hqq,← hrr] at hst
              rw [← hqq] at hu3 hv3
              have ha2:0<a2:=by omega
              have hrl:rr<a2:=by rw [hrr];exact Nat.mod_lt _ ha2
              have e1:(a1:Int)/(a2:Int)=(qq:Int):=by rw [hqq,Int.natCast_ediv]
              have e2:(a1:Int)%(a2:Int)=(rr:Int):=by rw [hrr,Int.natCast_emod]
              obtain ⟨m1,hm1⟩:∃ k,k=qq*u2:=⟨_,rfl⟩
              obtain ⟨m2,hm2⟩:∃ k,k=qq*v2:=⟨_,rfl⟩
              rw [← hm1] at hst hu3
              rw [← hm2] at hst hv3
              have e3:IntKind.u64.wrap ((qq:Int)*(u2:Int))=(m1:Int):=by rw [← Int.natCast_mul,← hm1,IntKind.wrap_u64];rw [B64_eq] at hu3;omega
              have e4:IntKind.u64.wrap ((qq:Int)*(v2:Int))=(m2:Int):=by rw [← Int.natCast_mul,← hm2,IntKind.wrap_u64];rw [B64_eq] at hv3;omega
              obtain ⟨n1,hn1⟩:∃ k,k=u1+m1:=⟨_,rfl⟩
              obtain ⟨n2,hn2⟩:∃ k,k=v1+m2:=⟨_,rfl⟩
              rw [← hn1] at hst hu3
              rw [← hn2] at hst hv3
              have e5:IntKind.u64.wrap ((u1:Int)+(m1:Int))=(n1:Int):=by rw [IntKind.wrap_u64,hn1];rw [B64_eq] at hu3;omega
              have e6:IntKind.u64.wrap ((v1:Int)+(m2:Int))=(n2:Int):=by rw [IntKind.wrap_u64,hn2];rw [B64_eq] at hv3;omega
              have hqb:qq≤a1:=by rw [hqq];exact Nat.div_le_self _ _
              have e9:IntKind.u64.wrap (qq:Int)=(qq:Int):=by rw [IntKind.wrap_u64];rw [B64_eq] at q6;omega
              have e7:((a2:Int) == 0)=false:=by simp;omega
              have e8:(0:Int)<(a2:Int):=by omega
              have HST2:=Lib.hid hst
              have HE2:=Lib.hid e2
              clear hst hqq hrr hm1 hm2 hn1 hn2 hl hsum hxb c1 c2 hu3 hv3 hqb
              obtain ⟨wo,hwo⟩:∃ k,k=wr:=⟨_,rfl⟩
              have HWR:=Lib.hid hw
              clear hw hwo
              go_wp2_with fail
              go_quiet (fail)
              go_wp2_with fail
              go_roundw
              case rel=>exact ⟨a2,rr,u1,u2,n1,v1,v2,n2,!ev,(by first | rfl | exact congrArg (Value.int .u64) HE2.out),(by first | rfl | exact congrArg (Value.int .u64) HE2.out),(by first | rfl | exact congrArg (Value.int .u64) HE2.out),(by first | rfl | exact congrArg (Value.int .u64) HE2.out),(by first | rfl | exact congrArg (Value.int .u64) HE2.out),(by first | rfl | exact congrArg (Value.int .u64) HE2.out),(by first | rfl | exact congrArg (Value.int .u64) HE2.out),(by first | rfl | exact congrArg (Value.int .u64) HE2.out),(by first | rfl | exact congrArg (Value.int .u64) HE2.out),HST2.out,by obtain ⟨q3,h3⟩:=HWR.out;exact ⟨_,by rw [h3];exact (World.drewN_drewN _ _ _)⟩⟩
              case measure=>simp [intOf];omega
            · have d3:¬ (v1:Int)+(v2:Int)≤(a1:Int) - (a2:Int):=by omega
              have d4:decide ((a1:Int) - (a2:Int) ≥ (v1:Int)+(v2:Int))=false:=decide_eq_false d3
              clear hsum hxb c1 c2
              go_wp2_with fail
              refine bodyPost_ret (v:=.tuple #[U u0,U u1,U v0,U v1,.bool ev]) (by simp [results,Tryz.results164,go_sem]) rfl ?_
              obtain ⟨l,b0,b1,b2,b3,b4,b5,b6⟩:=hl.out
              exact SimRet.mk HSP.out HX.out HY.out b0 b1 b3 b4 l.sim hw.out
          · have d1:¬ (v2:Int)≤(a2:Int):=by omega
            have d2:decide ((a2:Int) ≥ (v2:Int))=false:=decide_eq_false d1
            clear c1
            go_wp2_with fail
            refine bodyPost_ret (v:=.tuple #[U u0,U u1,U v0,U v1,.bool ev]) (by simp [results,Tryz.results164,go_sem]) rfl ?_
            obtain ⟨l,b0,b1,b2,b3,b4,b5,b6⟩:=hl.out
            exact SimRet.mk HSP.out HX.out HY.out b0 b1 b3 b4 l.sim hw.out
      · have hp:0<h:=by omega
        have hor:bits .or .u64 (IntKind.u64.wrap ((z1:Int)*2^h)) ((z2:Int)/2^(64 - h))=(y:Int):=by rw [hyx];exact HOR.out hp
        clear hyx HOR HOZ HYE
        go_wp2_with fail
        go_quiet (fail)
        go_wp2_with fail
        go_loopw [4,5,6,7,8,9,10,11,12] (fun s4 s5 s6 s7 s8 s9 s10 s11 s12 wx=>∃ (a1 a2 u0 u1 u2 v0 v1 v2:Nat) (ev:Bool),s4=U u0∧s5=U u1∧s6=U v0∧s7=U v1∧s8=.bool ev∧s9=U a1∧s10=U a2∧s11=U u2∧s12=U v2∧Hid (LsRel x y a1 a2 u0 u1 u2 v0 v1 v2 ev)∧Hid (∃ q,wx=w.drewN q)) (fun _ _ _ _ _ _ s10 _ _ _=>(intOf s10).toNat)
        case atStart=>exact ⟨x,y,0,1,0,0,0,1,false,rfl,rfl,rfl,rfl,rfl,rfl,rfl,rfl,rfl,HST.out,(by first | exact ⟨_,rfl⟩ | exact ⟨_,World.drewN_drewN _ _ _⟩)⟩
        case round =>
          obtain ⟨a1,a2,u0,u1,u2,v0,v1,v2,ev,rfl,rfl,rfl,rfl,rfl,rfl,rfl,rfl,rfl,hl,hw⟩:=hrel
          have hle:=hl.out.1.le
          have hv2:=hl.out.1.v2p
          have q6:=hl.out.2.2.2.2.2.2.2
          by_cases c1:v2≤a2
          · have d1:(v2:Int)≤(a2:Int):=by omega
            have d2:decide ((a2:Int) ≥ (v2:Int))=true:=decide_eq_true d1
            have hsum:=hl.out.1.sum_le c1
            have w1:IntKind.u64.wrap ((a1:Int) - (a2:Int))=(a1:Int) - (a2:Int):=by rw [IntKind.wrap_u64];rw [B64_eq] at q6;omega
            have hxb:=HXB.out
            have w2:IntKind.u64.wrap ((v1:Int)+(v2:Int))=(v1:Int)+(v2:Int):=by rw [IntKind.wrap_u64];rw [B64_eq] at hxb;omega
            by_cases c2:v1+v2≤a1 - a2
            · have d3:(v1:Int)+(v2:Int)≤(a1:Int) - (a2:Int):=by omega
              have d4:decide ((a1:Int) - (a2:Int) ≥ (v1:Int)+(v2:Int))=true:=decide_eq_true d3
              obtain ⟨hst,hu3,hv3⟩:=hl.out.step HXB.out HYB.out c1 c2
              obtain ⟨qq,hqq⟩:∃ k,k=a1/a2:=⟨_,rfl⟩
              obtain ⟨rr,hrr⟩:∃ k,k=a1%a2:=⟨_,rfl⟩
              rw [← hqq,← hrr] at hst
              rw [← hqq] at hu3 hv3
              have ha2:0<a2:=by omega
              have hrl:rr<a2:=by rw [hrr];exact Nat.mod_lt _ ha2
              have e1:(a1:Int)/(a2:Int)=(qq:Int):=by rw [hqq,Int.natCast_ediv]
              have e2:(a1:Int)%(a2:Int)=(rr:Int):=by rw [hrr,Int.natCast_emod]
              obtain ⟨m1,hm1⟩:∃ k,k=qq*u2:=⟨_,rfl⟩
              obtain ⟨m2,hm2⟩:∃ k,k=qq*v2:=⟨_,rfl⟩
              rw [← hm1] at hst hu3
              rw [← hm2] at hst hv3
              have e3:IntKind.u64.wrap ((qq:Int)*(u2:Int))=(m1:Int):=by rw [← Int.natCast_mul,← hm1,IntKind.wrap_u64];rw [B64_eq] at hu3;omega
              have e4:IntKind.u64.wrap ((qq:Int)*(v2:Int))=(m2:Int):=by rw [← Int.natCast_mul,← hm2,IntKind.wrap_u64];rw [B64_eq] at hv3;omega
              obtain ⟨n1,hn1⟩:∃ k,k=u1+m1:=⟨_,rfl⟩
              obtain ⟨n2,hn2⟩:∃ k,k=v1+m2:=⟨_,rfl⟩
              rw [← hn1] at hst hu3
              rw [← hn2] at hst hv3
              have e5:IntKind.u64.wrap ((u1:Int)+(m1:Int))=(n1:Int):=by rw [IntKind.wrap_u64,hn1];rw [B64_eq] at hu3;omega
              have e6:IntKind.u64.wrap ((v1:Int)+(m2:Int))=(n2:Int):=by rw [IntKind.wrap_u64,hn2];rw [B64_eq] at hv3;omega
              have hqb:qq≤a1:=by rw [hqq];exact Nat.div_le_self _ _
              have e9:IntKind.u64.wrap (qq:Int)=(qq:Int):=by rw [IntKind.wrap_u64];rw [B64_eq] at q6;omega
              have e7:((a2:Int) == 0)=false:=by simp;omega
              have e8:(0:Int)<(a2:Int):=by omega
              have HST2:=Lib.hid hst
              have HE2:=Lib.hid e2
              clear hst hqq hrr hm1 hm2 hn1 hn2 hl hsum hxb c1 c2 hu3 hv3 hqb
              obtain ⟨wo,hwo⟩:∃ k,k=wr:=⟨_,rfl⟩
              have HWR:=Lib.hid hw
              clear hw hwo
              go_wp2_with fail
              go_quiet (fail)
              go_wp2_with fail
              go_roundw
              case rel=>exact ⟨a2,rr,u1,u2,n1,v1,v2,n2,!ev,(by first | rfl | exact congrArg (Value.int .u64) HE2.out),(by first | rfl | exact congrArg (Value.int .u64) HE2.out),(by first | rfl | exact congrArg (Value.int .u64) HE2.out),(by first | rfl | exact congrArg (Value.int .u64) HE2.out),(by first | rfl | exact congrArg (Value.int .u64) HE2.out),(by first | rfl | exact congrArg (Value.int .u64) HE2.out),(by first | rfl | exact congrArg (Value.int .u64) HE2.out),(by first | rfl | exact congrArg (Value.int .u64) HE2.out),(by first | rfl | exact congrArg (Value.int .u64) HE2.out),HST2.out,by obtain ⟨q3,h3⟩:=HWR.out;exact ⟨_,by rw [h3];exact (World.drewN_drewN _ _ _)⟩⟩
              case measure=>simp [intOf];omega
            · have d3:¬ (v1:Int)+(v2:Int)≤(a1:Int) - (a2:Int):=by omega
              have d4:decide ((a1:Int) - (a2:Int) ≥ (v1:Int)+(v2:Int))=false:=decide_eq_false d3
              clear hsum hxb c1 c2
              go_wp2_with fail
              refine bodyPost_ret (v:=.tuple #[U u0,U u1,U v0,U v1,.bool ev]) (by simp [results,Tryz.results164,go_sem]) rfl ?_
              obtain ⟨l,b0,b1,b2,b3,b4,b5,b6⟩:=hl.out
              exact SimRet.mk HSP.out HX.out HY.out b0 b1 b3 b4 l.sim hw.out
          · have d1:¬ (v2:Int)≤(a2:Int):=by omega
            have d2:decide ((a2:Int) ≥ (v2:Int))=false:=decide_eq_false d1
            clear c1
            go_wp2_with fail
            refine bodyPost_ret (v:=.tuple #[U u0,U u1,U v0,U v1,.bool ev]) (by simp [results,Tryz.results164,go_sem]) rfl ?_
            obtain ⟨l,b0,b1,b2,b3,b4,b5,b6⟩:=hl.out
            exact SimRet.mk HSP.out HX.out HY.out b0 b1 b3 b4 l.sim hw.out
    · by_cases c9:n=m+1
      · have hB2:=(HBV.out (n - 2) (by omega)).1
        rw [Nat.zero_add] at hB2
        have hyS:fb (n - 2)/2^(64 - h)=b/S:=by
          have h1:=top_word (f:=fun j=>if j<m then fb j else 0) (n:=n) (h:=h) (by omega) (fun j hj=>by show (if j<m then fb j else 0)<B64;split;exact HBW.out j (by assumption);exact B64_pos) hh1
          have h2:val (fun j=>if j<m then fb j else 0) n=b:=by
            rw [c9]
            show val _ m+(if m<m then fb m else 0)*_=b
            rw [if_neg (by omega),Nat.zero_mul,Nat.add_zero,← HB.out.num.val]
            exact val_congr fun j hj=>if_pos hj
          rw [h2] at h1
          rw [HS.out,h1]
          show _=(if n - 1<m then fb (n - 1) else 0)*2^h+(if n - 2<m then fb (n - 2) else 0)/2^(64 - h)
          rw [if_neg (by omega),if_pos (by omega),Nat.zero_mul,Nat.zero_add]
        have hzl:=HBW.out (n - 2) (by omega)
        have hyl:fb (n - 2)/2^(64 - h)<B64:=Nat.lt_of_le_of_lt (Nat.div_le_self _ _) hzl
        obtain ⟨y,hy⟩:∃ y,y=fb (n - 2)/2^(64 - h):=⟨_,rfl⟩
        rw [← hy] at hyS hyl
        have HY:=Lib.hid hyS
        have HYB:=Lib.hid hyl
        have HST:=Lib.hid (LsRel.start (x:=x) (y:=y) (by rw [HX.out,HY.out];exact Nat.div_le_div_right hle) HXB.out)
        have f1:((n:Int) == (m:Int))=false:=by simp;omega
        have f2:((n:Int) == (m:Int)+1)=true:=by simp;omega
        have r3:(n:Int) - 2<(m:Int):=by omega
        clear hyS hyl c9 c0
        generalize fb (n - 2)=z2 at *
        by_cases h0:h=0
        · have e0:(z2:Int)/18446744073709551616=(y:Int):=by
            rw [hy,h0,show z2/2^(64 - 0)=0 from Nat.div_eq_of_lt (by rw [B64_eq] at hzl;exact hzl)]
            rw [B64_eq] at hzl;omega
          subst h0
          clear hy hzl
          go_wp2_with fail
          go_loopw [4,5,6,7,8,9,10,11,12] (fun s4 s5 s6 s7 s8 s9 s10 s11 s12 wx=>∃ (a1 a2 u0 u1 u2 v0 v1 v2:Nat) (ev:Bool),s4=U u0∧s5=U u1∧s6=U v0∧s7=U v1∧s8=.bool ev∧s9=U a1∧s10=U a2∧s11=U u2∧s12=U v2∧Hid (LsRel x y a1 a2 u0 u1 u2 v0 v1 v2 ev)∧Hid (∃ q,wx=w.drewN q)) (fun _ _ _ _ _ _ s10 _ _ _=>(intOf s10).toNat)
          case atStart=>exact ⟨x,y,0,1,0,0,0,1,false,rfl,rfl,rfl,rfl,rfl,rfl,rfl,rfl,rfl,HST.out,(by first | exact ⟨_,rfl⟩ | exact ⟨_,World.drewN_drewN _ _ _⟩)⟩
          case round =>
            obtain ⟨a1,a2,u0,u1,u2,v0,v1,v2,ev,rfl,rfl,rfl,rfl,rfl,rfl,rfl,rfl,rfl,hl,hw⟩:=hrel
            have hle:=hl.out.1.le
            have hv2:=hl.out.1.v2p
            have q6:=hl.out.2.2.2.2.2.2.2
            by_cases c1:v2≤a2
            · have d1:(v2:Int)≤(a2:Int):=by omega
              have d2:decide ((a2:Int) ≥ (v2:Int))=true:=decide_eq_true d1
              have hsum:=hl.out.1.sum_le c1
              have w1:IntKind.u64.wrap ((a1:Int) - (a2:Int))=(a1:Int) - (a2:Int):=by rw [IntKind.wrap_u64];rw [B64_eq] at q6;omega
              have hxb:=HXB.out
              have w2:IntKind.u64.wrap ((v1:Int)+(v2:Int))=(v1:Int)+(v2:Int):=by rw [IntKind.wrap_u64];rw [B64_eq] at hxb;omega
              by_cases c2:v1+v2≤a1 - a2
              · have d3:(v1:Int)+(v2:Int)≤(a1:Int) - (a2:Int):=by omega
                have d4:decide ((a1:Int) - (a2:Int) ≥ (v1:Int)+(v2:Int))=true:=decide_eq_true d3
                obtain ⟨hst,hu3,hv3⟩:=hl.out.step HXB.out HYB.out c1 c2
                obtain ⟨qq,hqq⟩:∃ k,k=a1/a2:=⟨_,rfl⟩
                obtain ⟨rr,hrr⟩:∃ k,k=a1%a2:=⟨_,rfl⟩
                rw [← hqq,← hrr] at hst
                rw [← hqq] at hu3 hv3
                have ha2:0<a2:=by omega
                have hrl:rr<a2:=by rw [hrr];exact Nat.mod_lt _ ha2
                have e1:(a1:Int)/(a2:Int)=(qq:Int):=by rw [hqq,Int.natCast_ediv]
                have e2:(a1:Int)%(a2:Int)=(rr:Int):=by rw [hrr,Int.natCast_emod]
                obtain ⟨m1,hm1⟩:∃ k,k=qq*u2:=⟨_,rfl⟩
                obtain ⟨m2,hm2⟩:∃ k,k=qq*v2:=⟨_,rfl⟩
                rw [← hm1] at hst hu3
                rw [← hm2] at hst hv3
                have e3:IntKind.u64.wrap ((qq:Int)*(u2:Int))=(m1:Int):=by rw [← Int.natCast_mul,← hm1,IntKind.wrap_u64];rw [B64_eq] at hu3;omega
                have e4:IntKind.u64.wrap ((qq:Int)*(v2:Int))=(m2:Int):=by rw [← Int.natCast_mul,← hm2,IntKind.wrap_u64];rw [B64_eq] at hv3;omega
                obtain ⟨n1,hn1⟩:∃ k,k=u1+m1:=⟨_,rfl⟩
                obtain ⟨n2,hn2⟩:∃ k,k=v1+m2:=⟨_,rfl⟩
                rw [← hn1] at hst hu3
                rw [← hn2] at hst hv3
                have e5:IntKind.u64.wrap ((u1:Int)+(m1:Int))=(n1:Int):=by rw [IntKind.wrap_u64,hn1];rw [B64_eq] at hu3;omega
                have e6:IntKind.u64.wrap ((v1:Int)+(m2:Int))=(n2:Int):=by rw [IntKind.wrap_u64,hn2];rw [B64_eq] at hv3;omega
                have hqb:qq≤a1:=by rw [hqq];exact Nat.div_le_self _ _
                have e9:IntKind.u64.wrap (qq:Int)=(qq:Int):=by rw [IntKind.wrap_u64];rw [B64_eq] at q6;omega
                have e7:((a2:Int) == 0)=false:=by simp;omega
                have e8:(0:Int)<(a2:Int):=by omega
                have HST2:=Lib.hid hst
                have HE2:=Lib.hid e2
                clear hst hqq hrr hm1 hm2 hn1 hn2 hl hsum hxb c1 c2 hu3 hv3 hqb
                obtain ⟨wo,hwo⟩:∃ k,k=wr:=⟨_,rfl⟩
                have HWR:=Lib.hid hw
                clear hw hwo
                go_wp2_with fail
                go_quiet (fail)
                go_wp2_with fail
                go_roundw
                case rel=>exact ⟨a2,rr,u1,u2,n1,v1,v2,n2,!ev,(by first | rfl | exact congrArg (Value.int .u64) HE2.out),(by first | rfl | exact congrArg (Value.int .u64) HE2.out),(by first | rfl | exact congrArg (Value.int .u64) HE2.out),(by first | rfl | exact congrArg (Value.int .u64) HE2.out),(by first | rfl | exact congrArg (Value.int .u64) HE2.out),(by first | rfl | exact congrArg (Value.int .u64) HE2.out),(by first | rfl | exact congrArg (Value.int .u64) HE2.out),(by first | rfl | exact congrArg (Value.int .u64) HE2.out),(by first | rfl | exact congrArg (Value.int .u64) HE2.out),HST2.out,by obtain ⟨q3,h3⟩:=HWR.out;exact ⟨_,by rw [h3];exact (World.drewN_drewN _ _ _)⟩⟩
                case measure=>simp [intOf];omega
              · have d3:¬ (v1:Int)+(v2:Int)≤(a1:Int) - (a2:Int):=by omega
                have d4:decide ((a1:Int) - (a2:Int) ≥ (v1:Int)+(v2:Int))=false:=decide_eq_false d3
                clear hsum hxb c1 c2
                go_wp2_with fail
                refine bodyPost_ret (v:=.tuple #[U u0,U u1,U v0,U v1,.bool ev]) (by simp [results,Tryz.results164,go_sem]) rfl ?_
                obtain ⟨l,b0,b1,b2,b3,b4,b5,b6⟩:=hl.out
                exact SimRet.mk HSP.out HX.out HY.out b0 b1 b3 b4 l.sim hw.out
            · have d1:¬ (v2:Int)≤(a2:Int):=by omega
              have d2:decide ((a2:Int) ≥ (v2:Int))=false:=decide_eq_false d1
              clear c1
              go_wp2_with fail
              refine bodyPost_ret (v:=.tuple #[U u0,U u1,U v0,U v1,.bool ev]) (by simp [results,Tryz.results164,go_sem]) rfl ?_
              obtain ⟨l,b0,b1,b2,b3,b4,b5,b6⟩:=hl.out
              exact SimRet.mk HSP.out HX.out HY.out b0 b1 b3 b4 l.sim hw.out
        · have hp:0<h:=by omega
          have hz1:(z2:Int)/2^(64 - h)=(y:Int):=by rw [hy];simp
          clear hy hzl
          go_wp2_with fail
          go_loopw [4,5,6,7,8,9,10,11,12] (fun s4 s5 s6 s7 s8 s9 s10 s11 s12 wx=>∃ (a1 a2 u0 u1 u2 v0 v1 v2:Nat) (ev:Bool),s4=U u0∧s5=U u1∧s6=U v0∧s7=U v1∧s8=.bool ev∧s9=U a1∧s10=U a2∧s11=U u2∧s12=U v2∧Hid (LsRel x y a1 a2 u0 u1 u2 v0 v1 v2 ev)∧Hid (∃ q,wx=w.drewN q)) (fun _ _ _ _ _ _ s10 _ _ _=>(intOf s10).toNat)
          case atStart=>exact ⟨x,y,0,1,0,0,0,1,false,rfl,rfl,rfl,rfl,rfl,rfl,rfl,rfl,rfl,HST.out,(by first | exact ⟨_,rfl⟩ | exact ⟨_,World.drewN_drewN _ _ _⟩)⟩
          case round =>
            obtain ⟨a1,a2,u0,u1,u2,v0,v1,v2,ev,rfl,rfl,rfl,rfl,rfl,rfl,rfl,rfl,rfl,hl,hw⟩:=hrel
            have hle:=hl.out.1.le
            have hv2:=hl.out.1.v2p
            have q6:=hl.out.2.2.2.2.2.2.2
            by_cases c1:v2≤a2
            · have d1:(v2:Int)≤(a2:Int):=by omega
              have d2:decide ((a2:Int) ≥ (v2:Int))=true:=decide_eq_true d1
              have hsum:=hl.out.1.sum_le c1
              have w1:IntKind.u64.wrap ((a1:Int) - (a2:Int))=(a1:Int) - (a2:Int):=by rw [IntKind.wrap_u64];rw [B64_eq] at q6;omega
              have hxb:=HXB.out
              have w2:IntKind.u64.wrap ((v1:Int)+(v2:Int))=(v1:Int)+(v2:Int):=by rw [IntKind.wrap_u64];rw [B64_eq] at hxb;omega
              by_cases c2:v1+v2≤a1 - a2
              · have d3:(v1:Int)+(v2:Int)≤(a1:Int) - (a2:Int):=by omega
                have d4:decide ((a1:Int) - (a2:Int) ≥ (v1:Int)+(v2:Int))=true:=decide_eq_true d3
                obtain ⟨hst,hu3,hv3⟩:=hl.out.step HXB.out HYB.out c1 c2
                obtain ⟨qq,hqq⟩:∃ k,k=a1/a2:=⟨_,rfl⟩
                obtain ⟨rr,hrr⟩:∃ k,k=a1%a2:=⟨_,rfl⟩
                rw [← hqq,← hrr] at hst
                rw [← hqq] at hu3 hv3
                have ha2:0<a2:=by omega
                have hrl:rr<a2:=by rw [hrr];exact Nat.mod_lt _ ha2
                have e1:(a1:Int)/(a2:Int)=(qq:Int):=by rw [hqq,Int.natCast_ediv]
                have e2:(a1:Int)%(a2:Int)=(rr:Int):=by rw [hrr,Int.natCast_emod]
                obtain ⟨m1,hm1⟩:∃ k,k=qq*u2:=⟨_,rfl⟩
                obtain ⟨m2,hm2⟩:∃ k,k=qq*v2:=⟨_,rfl⟩
                rw [← hm1] at hst hu3
                rw [← hm2] at hst hv3
                have e3:IntKind.u64.wrap ((qq:Int)*(u2:Int))=(m1:Int):=by rw [← Int.natCast_mul,← hm1,IntKind.wrap_u64];rw [B64_eq] at hu3;omega
                have e4:IntKind.u64.wrap ((qq:Int)*(v2:Int))=(m2:Int):=by rw [← Int.natCast_mul,← hm2,IntKind.wrap_u64];rw [B64_eq] at hv3;omega
                obtain ⟨n1,hn1⟩:∃ k,k=u1+m1:=⟨_,rfl⟩
                obtain ⟨n2,hn2⟩:∃ k,k=v1+m2:=⟨_,rfl⟩
                rw [← hn1] at hst hu3
                rw [← hn2] at hst hv3
                have e5:IntKind.u64.wrap ((u1:Int)+(m1:Int))=(n1:Int):=by rw [IntKind.wrap_u64,hn1];rw [B64_eq] at hu3;omega
                have e6:IntKind.u64.wrap ((v1:Int)+(m2:Int))=(n2:Int):=by rw [IntKind.wrap_u64,hn2];rw [B64_eq] at hv3;omega
                have hqb:qq≤a1:=by rw [hqq];exact Nat.div_le_self _ _
                have e9:IntKind.u64.wrap (qq:Int)=(qq:Int):=by rw [IntKind.wrap_u64];rw [B64_eq] at q6;omega
                have e7:((a2:Int) == 0)=false:=by simp;omega
                have e8:(0:Int)<(a2:Int):=by omega
                have HST2:=Lib.hid hst
                have HE2:=Lib.hid e2
                clear hst hqq hrr hm1 hm2 hn1 hn2 hl hsum hxb c1 c2 hu3 hv3 hqb
                obtain ⟨wo,hwo⟩:∃ k,k=wr:=⟨_,rfl⟩
                have HWR:=Lib.hid hw
                clear hw hwo
                go_wp2_with fail
                go_quiet (fail)
                go_wp2_with fail
                go_roundw
                case rel=>exact ⟨a2,rr,u1,u2,n1,v1,v2,n2,!ev,(by first | rfl | exact congrArg (Value.int .u64) HE2.out),(by first | rfl | exact congrArg (Value.int .u64) HE2.out),(by first | rfl | exact congrArg (Value.int .u64) HE2.out),(by first | rfl | exact congrArg (Value.int .u64) HE2.out),(by first | rfl | exact congrArg (Value.int .u64) HE2.out),(by first | rfl | exact congrArg (Value.int .u64) HE2.out),(by first | rfl | exact congrArg (Value.int .u64) HE2.out),(by first | rfl | exact congrArg (Value.int .u64) HE2.out),(by first | rfl | exact congrArg (Value.int .u64) HE2.out),HST2.out,by obtain ⟨q3,h3⟩:=HWR.out;exact ⟨_,by rw [h3];exact (World.drewN_drewN _ _ _)⟩⟩
                case measure=>simp [intOf];omega
              · have d3:¬ (v1:Int)+(v2:Int)≤(a1:Int) - (a2:Int):=by omega
                have d4:decide ((a1:Int) - (a2:Int) ≥ (v1:Int)+(v2:Int))=false:=decide_eq_false d3
                clear hsum hxb c1 c2
                go_wp2_with fail
                refine bodyPost_ret (v:=.tuple #[U u0,U u1,U v0,U v1,.bool ev]) (by simp [results,Tryz.results164,go_sem]) rfl ?_
                obtain ⟨l,b0,b1,b2,b3,b4,b5,b6⟩:=hl.out
                exact SimRet.mk HSP.out HX.out HY.out b0 b1 b3 b4 l.sim hw.out
            · have d1:¬ (v2:Int)≤(a2:Int):=by omega
              have d2:decide ((a2:Int) ≥ (v2:Int))=false:=decide_eq_false d1
              clear c1
              go_wp2_with fail
              refine bodyPost_ret (v:=.tuple #[U u0,U u1,U v0,U v1,.bool ev]) (by simp [results,Tryz.results164,go_sem]) rfl ?_
              obtain ⟨l,b0,b1,b2,b3,b4,b5,b6⟩:=hl.out
              exact SimRet.mk HSP.out HX.out HY.out b0 b1 b3 b4 l.sim hw.out
      · 
        have hy0:0=b/S:=by
          symm
          rw [HS.out]
          refine Nat.div_eq_of_lt (Nat.lt_of_lt_of_le HB.out.num.lt ?_)
          rw [B64_pow,← Nat.pow_mul]
          exact Nat.pow_le_pow_right (by omega) (by omega)
        have HY:=Lib.hid hy0
        have HYB:=Lib.hid B64_pos
        have HST:=Lib.hid (LsRel.start (x:=x) (y:=0) (by omega) HXB.out)
        have f1:((n:Int) == (m:Int))=false:=by simp;omega
        have f2:((n:Int) == (m:Int)+1)=false:=by simp;omega
        clear hy0 c0 c9
        go_wp2_with fail
        go_loopw [4,5,6,7,8,9,10,11,12] (fun s4 s5 s6 s7 s8 s9 s10 s11 s12 wx=>∃ (a1 a2 u0 u1 u2 v0 v1 v2:Nat) (ev:Bool),s4=U u0∧s5=U u1∧s6=U v0∧s7=U v1∧s8=.bool ev∧s9=U a1∧s10=U a2∧s11=U u2∧s12=U v2∧Hid (LsRel x 0 a1 a2 u0 u1 u2 v0 v1 v2 ev)∧Hid (∃ q,wx=w.drewN q)) (fun _ _ _ _ _ _ s10 _ _ _=>(intOf s10).toNat)
        case atStart=>exact ⟨x,0,0,1,0,0,0,1,false,rfl,rfl,rfl,rfl,rfl,rfl,rfl,rfl,rfl,HST.out,(by first | exact ⟨_,rfl⟩ | exact ⟨_,World.drewN_drewN _ _ _⟩)⟩
        case round =>
          obtain ⟨a1,a2,u0,u1,u2,v0,v1,v2,ev,rfl,rfl,rfl,rfl,rfl,rfl,rfl,rfl,rfl,hl,hw⟩:=hrel
          have hle:=hl.out.1.le
          have hv2:=hl.out.1.v2p
          have q6:=hl.out.2.2.2.2.2.2.2
          by_cases c1:v2≤a2
          · have d1:(v2:Int)≤(a2:Int):=by omega
            have d2:decide ((a2:Int) ≥ (v2:Int))=true:=decide_eq_true d1
            have hsum:=hl.out.1.sum_le c1
            have w1:IntKind.u64.wrap ((a1:Int) - (a2:Int))=(a1:Int) - (a2:Int):=by rw [IntKind.wrap_u64];rw [B64_eq] at q6;omega
            have hxb:=HXB.out
            have w2:IntKind.u64.wrap ((v1:Int)+(v2:Int))=(v1:Int)+(v2:Int):=by rw [IntKind.wrap_u64];rw [B64_eq] at hxb;omega
            by_cases c2:v1+v2≤a1 - a2
            · have d3:(v1:Int)+(v2:Int)≤(a1:Int) - (a2:Int):=by omega
              have d4:decide ((a1:Int) - (a2:Int) ≥ (v1:Int)+(v2:Int))=true:=decide_eq_true d3
              obtain ⟨hst,hu3,hv3⟩:=hl.out.step HXB.out HYB.out c1 c2
              obtain ⟨qq,hqq⟩:∃ k,k=a1/a2:=⟨_,rfl⟩
              obtain ⟨rr,hrr⟩:∃ k,k=a1%a2:=⟨_,rfl⟩
              rw [← hqq,← hrr] at hst
              rw [← hqq] at hu3 hv3
              have ha2:0<a2:=by omega
              have hrl:rr<a2:=by rw [hrr];exact Nat.mod_lt _ ha2
              have e1:(a1:Int)/(a2:Int)=(qq:Int):=by rw [hqq,Int.natCast_ediv]
              have e2:(a1:Int)%(a2:Int)=(rr:Int):=by rw [hrr,Int.natCast_emod]
              obtain ⟨m1,hm1⟩:∃ k,k=qq*u2:=⟨_,rfl⟩
              obtain ⟨m2,hm2⟩:∃ k,k=qq*v2:=⟨_,rfl⟩
              rw [← hm1] at hst hu3
              rw [← hm2] at hst hv3
              have e3:IntKind.u64.wrap ((qq:Int)*(u2:Int))=(m1:Int):=by rw [← Int.natCast_mul,← hm1,IntKind.wrap_u64];rw [B64_eq] at hu3;omega
              have e4:IntKind.u64.wrap ((qq:Int)*(v2:Int))=(m2:Int):=by rw [← Int.natCast_mul,← hm2,IntKind.wrap_u64];rw [B64_eq] at hv3;omega
              obtain ⟨n1,hn1⟩:∃ k,k=u1+m1:=⟨_,rfl⟩
              obtain ⟨n2,hn2⟩:∃ k,k=v1+m2:=⟨_,rfl⟩
              rw [← hn1] at hst hu3
              rw [← hn2] at hst hv3
              have e5:IntKind.u64.wrap ((u1:Int)+(m1:Int))=(n1:Int):=by rw [IntKind.wrap_u64,hn1];rw [B64_eq] at hu3;omega
              have e6:IntKind.u64.wrap ((v1:Int)+(m2:Int))=(n2:Int):=by rw [IntKind.wrap_u64,hn2];rw [B64_eq] at hv3;omega
              have hqb:qq≤a1:=by rw [hqq];exact Nat.div_le_self _ _
              have e9:IntKind.u64.wrap (qq:Int)=(qq:Int):=by rw [IntKind.wrap_u64];rw [B64_eq] at q6;omega
              have e7:((a2:Int) == 0)=false:=by simp;omega
              have e8:(0:Int)<(a2:Int):=by omega
              have HST2:=Lib.hid hst
              have HE2:=Lib.hid e2
              clear hst hqq hrr hm1 hm2 hn1 hn2 hl hsum hxb c1 c2 hu3 hv3 hqb
              obtain ⟨wo,hwo⟩:∃ k,k=wr:=⟨_,rfl⟩
              have HWR:=Lib.hid hw
              clear hw hwo
              go_wp2_with fail
              go_quiet (fail)
              go_wp2_with fail
              go_roundw
              case rel=>exact ⟨a2,rr,u1,u2,n1,v1,v2,n2,!ev,(by first | rfl | exact congrArg (Value.int .u64) HE2.out),(by first | rfl | exact congrArg (Value.int .u64) HE2.out),(by first | rfl | exact congrArg (Value.int .u64) HE2.out),(by first | rfl | exact congrArg (Value.int .u64) HE2.out),(by first | rfl | exact congrArg (Value.int .u64) HE2.out),(by first | rfl | exact congrArg (Value.int .u64) HE2.out),(by first | rfl | exact congrArg (Value.int .u64) HE2.out),(by first | rfl | exact congrArg (Value.int .u64) HE2.out),(by first | rfl | exact congrArg (Value.int .u64) HE2.out),HST2.out,by obtain ⟨q3,h3⟩:=HWR.out;exact ⟨_,by rw [h3];exact (World.drewN_drewN _ _ _)⟩⟩
              case measure=>simp [intOf];omega
            · have d3:¬ (v1:Int)+(v2:Int)≤(a1:Int) - (a2:Int):=by omega
              have d4:decide ((a1:Int) - (a2:Int) ≥ (v1:Int)+(v2:Int))=false:=decide_eq_false d3
              clear hsum hxb c1 c2
              go_wp2_with fail
              refine bodyPost_ret (v:=.tuple #[U u0,U u1,U v0,U v1,.bool ev]) (by simp [results,Tryz.results164,go_sem]) rfl ?_
              obtain ⟨l,b0,b1,b2,b3,b4,b5,b6⟩:=hl.out
              exact SimRet.mk HSP.out HX.out HY.out b0 b1 b3 b4 l.sim hw.out
          · have d1:¬ (v2:Int)≤(a2:Int):=by omega
            have d2:decide ((a2:Int) ≥ (v2:Int))=false:=decide_eq_false d1
            clear c1
            go_wp2_with fail
            refine bodyPost_ret (v:=.tuple #[U u0,U u1,U v0,U v1,.bool ev]) (by simp [results,Tryz.results164,go_sem]) rfl ?_
            obtain ⟨l,b0,b1,b2,b3,b4,b5,b6⟩:=hl.out
            exact SimRet.mk HSP.out HX.out HY.out b0 b1 b3 b4 l.sim hw.out
end Go.Proofs.YtpfmbfkhjapbbaaGreatDoor
