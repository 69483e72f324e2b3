/-
  big's beUint32, beUint64, bigEndianWord: a word of 4 or 8 bytes. Condition: the row has so many bytes.
  big's nat.setBytes, Int.SetBytes: the number of a row of bytes. Conditions: 1 to 100000 bytes, that lie apart from the number's own words.
  The specification's top, mul, power: products and powers modulo a number, by bits. Condition: the modulus is at most half of 2^576.
  The specification's IsBelow: a row of the curve's length, below its prime. Condition: rows of at most 2^20 bytes.
-/
import Derived.Test.YtpfmbfkhjapbbaaGreatDoorMg07
import Derived.Test.YtpfmbfkhjapbbaaGreatDoorMSpecB
import Derived.Test.YtpfmbfkhjapbbaaGreatDoorMg08
import Derived.Test.YtpfmbfkhjapbbaaGreatDoorMInts4
import Derived.Test.YtpfmbfkhjapbbaaGreatDoorMSpecRd
set_option linter.unusedVariables false
set_option linter.unusedSimpArgs false
namespace Go.Proofs.YtpfmbfkhjapbbaaGreatDoor
section
open Go Go.RowKit
theorem or_put32 (x y s:Nat) (d:Int) (hd:d=((2^s:Nat):Int)) (hx:x<2^s) (hy:x+y*2^s<2^32):bits .or .u32 (x:Int) ((y:Int)*d)=((x+y*2^s:Nat):Int):=by
  subst hd
  have e1:(y:Int)*((2^s:Nat):Int)=((y*2^s:Nat):Int):=by simp
  rw [e1,(bits_nat .u32 32 (by decide) (fun n h h'=>by rw [IntKind.wrap_u32];omega) _ _ (by omega) (by omega)).2]
  congr 1
  rw [Nat.mul_comm y,Nat.or_comm,← Nat.two_pow_add_eq_or_of_lt hx]
  omega
theorem or_put64 (x y s:Nat) (d:Int) (hd:d=((2^s:Nat):Int)) (hx:x<2^s) (hy:x+y*2^s<2^64):bits .or .u64 (x:Int) ((y:Int)*d)=((x+y*2^s:Nat):Int):=by
  subst hd
  have e1:(y:Int)*((2^s:Nat):Int)=((y*2^s:Nat):Int):=by simp
  rw [e1,(bits_nat .u64 64 (by decide) (fun n h h'=>by rw [IntKind.wrap_u64];omega) _ _ (by omega) (by omega)).2]
  congr 1
  rw [Nat.mul_comm y,Nat.or_comm,← Nat.two_pow_add_eq_or_of_lt hx]
  omega
theorem bits_or_comm64 (x y:Nat) (hx:x<B64) (hy:y<B64):bits .or .u64 (x:Int) (y:Int)=bits .or .u64 (y:Int) (x:Int):=by
  rw [(bits_nat .u64 64 (by decide) (fun n h h'=>by rw [IntKind.wrap_u64];omega) _ _ (by rw [← B64_pow];omega) (by rw [← B64_pow];omega)).2,
    (bits_nat .u64 64 (by decide) (fun n h h'=>by rw [IntKind.wrap_u64];omega) _ _ (by rw [← B64_pow];omega) (by rw [← B64_pow];omega)).2,Nat.or_comm]
set_option maxRecDepth 100000 in
set_option maxHeartbeats 1000000 in
theorem be32_any (b o n c:Nat) (f:Nat→Nat) (w:World) (hB:Bts w b o 4 f) (hf:∀ j,j<4→f j<256) (hn:4≤n) (hc:n≤c) :
    Calls Tryz.prog 84 #[.slice (some ⟨b,o,none⟩) n c] w fun e w'=>e=.returned (.int .u32 ((beN f 4:Nat):Int))∧∃ q,w'=w.drewN q:=by
  have c0:=hB 0 (by omega)
  have c1:=hB 1 (by omega)
  have c2:=hB 2 (by omega)
  have c3:=hB 3 (by omega)
  rw [Nat.add_zero] at c0
  have l0:=hf 0 (by omega)
  have l1:=hf 1 (by omega)
  have l2:=hf 2 (by omega)
  have l3:=hf 3 (by omega)
  simp only [beN,Nat.zero_mul,Nat.zero_add]
  clear hB hf
  generalize f 0=x0 at *
  generalize f 1=x1 at *
  generalize f 2=x2 at *
  generalize f 3=x3 at *
  go_enter Tryz.func84,Tryz.ntmps84
  go_wp2_with fail
  go_quiet (fail)
  go_wp2_with fail
  go_ret
  refine ⟨?_,nq,rfl⟩
  have e1:=or_put32 x3 x2 8 256 rfl (by omega) (by omega)
  have e2:=or_put32 (x3+x2*2^8) x1 16 65536 rfl (by omega) (by omega)
  have e3:=or_put32 (x3+x2*2^8+x1*2^16) x0 24 16777216 rfl (by omega) (by omega)
  show Ending.returned (Value.int IntKind.u32 (bits .or .u32 (bits .or .u32 (bits .or .u32 (x3:Int) ((x2:Int)*256)) ((x1:Int)*65536)) ((x0:Int)*16777216)))=_
  rw [e1,e2,e3]
  congr 3
  omega
theorem slice22_from (b o n c k:Nat) (hk:k≤n) (hn:n≤c) (K:Int) (hK:K=k) :
    ∃ o',(∀ w,(Instr.slice 22 (.slice (some ⟨b,o,none⟩) n c) (some (.int .i64 K)) none none).run Tryz.prog w=.ok (.slice (some ⟨b,o',none⟩) (n - k) (c - k)) w)∧(k<c→o'=o+k)∧o'≤o+k:=by
  subst hK
  have h1:(0:Int)≤(k:Int):=by omega
  have h2:(k:Int)≤(n:Int):=by omega
  have h3:(n:Int)≤(c:Int):=by omega
  by_cases e:c=k
  · refine ⟨o,fun w => ?_,fun h=>by omega,by omega⟩
    simp [go_sem,h1,h2,h3,e]
  · refine ⟨o+k,fun w => ?_,fun h=>rfl,by omega⟩
    simp [go_sem,h1,h2,h3,e]
theorem bts_from {w:World} {b o n:Nat} {f:Nat→Nat} (h:Bts w b o n f) (k m:Nat) (hk:k+m≤n):Bts w b (o+k) m (fun j=>f (k+j)):=fun j hj=>by
  have:=h (k+j) (by omega)
  rwa [← Nat.add_assoc] at this
set_option maxRecDepth 100000 in
set_option maxHeartbeats 1000000 in
theorem be64_any (b o n c:Nat) (f:Nat→Nat) (w:World) (hB:Bts w b o 8 f) (hf:∀ j,j<8→f j<256) (hn:8≤n) (hc:n≤c) :
    Calls Tryz.prog 83 #[.slice (some ⟨b,o,none⟩) n c] w fun e w'=>e=.returned (U (beN f 8))∧∃ q,w'=w.drewN q:=by
  have c7:=hB 7 (by omega)
  have h1:=fun q=>be32_any b o n c f (w.drewN q) (Bts.mod (fun j hj=>hB j (by omega)) ((Mod.refl NoP w).drewN q) fun _ _ h=>h) (fun j hj=>hf j (by omega)) (by omega) hc
  have h2:=fun q=>be32_any b (o+4) (n - 4) (c - 4) (fun j=>f (4+j)) (w.drewN q) ((bts_from hB 4 4 (by omega)).mod ((Mod.refl NoP w).drewN q) fun _ _ h=>h) (fun j hj=>hf _ (by omega)) (by omega) (by omega)
  have HC1:=Lib.hid h1
  have HC2:=Lib.hid h2
  have l1:=beN_lt (f:=f) (n:=4) fun j hj=>hf j (by omega)
  have l2:=beN_lt (f:=fun j=>f (4+j)) (n:=4) fun j hj=>hf _ (by omega)
  rw [show beN f 8=beN f 4*256^4+beN (fun j=>f (4+j)) 4 from beN_add f 4 4]
  clear hB hf h1 h2
  generalize f 7=x7 at *
  generalize beN f 4=y at *
  generalize beN (fun j=>f (4+j)) 4=x at *
  replace l1:y<4294967296:=l1
  replace l2:x<4294967296:=l2
  have hs:∀ w1,(Instr.slice 22 (.slice (some ⟨b,o,none⟩) n c) (some (.int .i64 4)) none none).run Tryz.prog w1=.ok (.slice (some ⟨b,o+4,none⟩) (n - 4) (c - 4)) w1:=fun w1=>by
    obtain ⟨o1,h1,h2,h3⟩:=slice22_from b o n c 4 (by omega) (by omega) 4 rfl
    rw [h1 w1,h2 (by omega)]
  go_enter Tryz.func83,Tryz.ntmps83
  go_wp2_with fail
  go_quiet ((go_at_call 84;first | with_reducible exact Calls.quiet_of (HC1.out _) | with_reducible exact Calls.quiet_of (HC2.out _)))
  go_wp2_with fail
  go_ret
  refine ⟨?_,nq,rfl⟩
  have e0:bits .or .u64 ((y:Int)*4294967296) (x:Int)=((x+y*2^32:Nat):Int):=by
    rw [show (y:Int)*4294967296=((y*4294967296:Nat):Int) by simp,bits_or_comm64 _ _ (by unfold B64;omega) (by unfold B64;omega),show ((y*4294967296:Nat):Int)=(y:Int)*4294967296 by simp]
    exact or_put64 x y 32 4294967296 rfl (by omega) (by omega)
  show Ending.returned (Value.int IntKind.u64 (bits .or .u64 ((y:Int)*4294967296) (x:Int)))=_
  rw [e0]
  congr 3
  omega
set_option maxHeartbeats 400000 in
theorem beWord_any (b o n c:Nat) (f:Nat→Nat) (w:World) (hB:Bts w b o 8 f) (hf:∀ j,j<8→f j<256) (hn:8≤n) (hc:n≤c) :
    Calls Tryz.prog 66 #[.slice (some ⟨b,o,none⟩) n c] w fun e w'=>e=.returned (U (beN f 8))∧∃ q,w'=w.drewN q:=by
  have H:=Lib.hid (be64_any b o n c f w hB hf hn hc)
  clear hB hf
  generalize beN f 8=x at *
  go_enter Tryz.func66,Tryz.ntmps66
  go_wp2_with fail
  refine H.out.mono ?_
  rintro e w1 ⟨rfl,q,hq⟩
  have HQ:=Lib.hid hq
  clear hq
  go_wp2_with fail
  go_ret
  exact ⟨rfl,q,HQ.out⟩
end
section
open Go Go.RowKit
theorem slice22_range (b o n c lo hi:Nat) (h1:lo<hi) (h2:hi≤n) (hn:n≤c) (L H:Int) (hL:L=lo) (hH:H=hi) (w:World) :
    (Instr.slice 22 (.slice (some ⟨b,o,none⟩) n c) (some (.int .i64 L)) (some (.int .i64 H)) none).run Tryz.prog w=.ok (.slice (some ⟨b,o+lo,none⟩) (hi - lo) (c - lo)) w:=by
  subst hL hH
  have g1:(0:Int)≤(lo:Int):=by omega
  have g2:(lo:Int)≤(hi:Int):=by omega
  have g3:(hi:Int)≤(c:Int):=by omega
  have g4:¬ c=lo:=by omega
  simp [go_sem,g1,g2,g3,g4]
def wordB (f:Nat→Nat) (n q:Nat):Nat:=beN (fun j=>f (n - 8*q - 8+j)) 8
theorem wordB_lt {f:Nat→Nat} {n q:Nat} (hf:∀ j,j<n→f j<256) (h:8*q+8≤n):wordB f n q<B64:=by
  have:=beN_lt (f:=fun j=>f (n - 8*q - 8+j)) (n:=8) fun j hj=>hf _ (by omega)
  unfold wordB
  exact this
theorem val_wordB (f:Nat→Nat) (n:Nat):∀ k,8*k≤n→val (wordB f n) k=beN (fun j=>f (n - 8*k+j)) (8*k)
  | 0,_=>rfl
  | k+1,h=>by
    have ih:=val_wordB f n k (by omega)
    simp only [val]
    rw [ih,show 8*(k+1)=8+8*k by omega,beN_add]
    have e1:beN (fun j=>f (n - (8+8*k)+j)) 8=wordB f n k:=beN_congr fun j _=>by congr 1;omega
    have e2:beN (fun j=>f (n - (8+8*k)+(8+j))) (8*k)=beN (fun j=>f (n - 8*k+j)) (8*k):=beN_congr fun j _=>by congr 1;omega
    have e3:(256:Nat)^(8*k)=B64^k:=by rw [Nat.pow_mul];rfl
    rw [e1,e2,e3]
    omega
theorem put_splice (W f:Nat→Nat) (k:Nat):put (splice W k f) k (W k)=splice W (k+1) f:=by
  funext j
  unfold put splice
  by_cases e:j=k
  · subst e;simp
  · rw [if_neg e]
    by_cases h:j<k
    · rw [if_pos h,if_pos (by omega)]
    · rw [if_neg h,if_neg (by omega)]
set_option maxRecDepth 100000 in
set_option maxHeartbeats 2000000 in
theorem setBytes_any (az:Option Addr) (nz cz b o n c:Nat) (w:World) (fz f:Nat→Nat) (hZ:Arr w az cz fz) (hnz:nz≤cz) (hB:Bts w b o n f) (hf:∀ j,j<n→f j<256) (hn:0<n) (hn2:n≤100000) (hc:n≤c) (hne:¬ BlkOf az b 0) :
    Calls Tryz.prog 46 #[.slice az nz cz,.slice (some ⟨b,o,none⟩) n c] w (NatRet w az (beN f n)):=by
  have hbl:b<w.heap.size:=lt_of_cell? (hB 0 hn)
  have hm:=make_any az nz cz ((n+7)/8) w fz hZ hnz (by omega)
  have HM:=Lib.hid hm
  have e0:((n:Int)+8 - 1)/8=(((n+7)/8:Nat):Int):=by omega
  clear hm hZ
  go_enter Tryz.func46,Tryz.ntmps46
  go_wp2_with fail
  rw [e0]
  refine HM.out.mono ?_
  rintro e w1 ⟨a',c',f',rfl,hA,hmc,hm1,hfr⟩
  obtain ⟨zb,rfl⟩:=hA.form (by omega)
  have hzb:zb≠b:=by
    intro h
    subst h
    rcases hfr with h | ⟨k,h1,h2⟩
    · exact hne ⟨_,h.symm,rfl⟩
    · have:zb=k:=congrArg Addr.block (Option.some.inj h1)
      omega
  have hB1:Bts w1 b o n f:=hB.mod hm1 fun _ _ h=>h
  have hw8:(n+7)/8≤c':=hmc
  have hnw:n≤8*((n+7)/8):=by omega
  have hnw2:(n+7)/8≤20000:=by omega
  have hnw3:8*((n+7)/8)<n+8:=by omega
  clear HM e0 hB hmc
  generalize (n+7)/8=nw at *
  have HA:=Lib.hid hA
  have HM1:=Lib.hid hm1
  have HB:=Lib.hid hB1
  have HF:=Lib.hid hf
  have HFR:=Lib.hid hfr
  clear hA hm1 hB1 hf hfr
  go_wp2_with fail
  go_loopw [5,6] (fun i k wr=>∃ K:Nat,8*K≤n∧i=.int .i64 ((n:Int) - 8*(K:Int))∧k=.int .i64 (K:Int)∧Hid (Arr wr (some ⟨zb,0,none⟩) c' (splice (wordB f n) K f')∧Mod (InB zb) w1 wr)) (fun i _ _=>(intOf i).toNat)
  case atStart=>exact ⟨0,by omega,by simp,rfl,by
    have e:splice (wordB f n) 0 f'=f':=by funext j;unfold splice;rw [if_neg (by omega)]
    rw [e];exact ⟨HA.out,.refl _ _⟩⟩
  case round =>
    obtain ⟨K,hK,rfl,rfl,hinv⟩:=hrel
    by_cases hlt:8*K+8≤n
    · have hv:=hinv.out.1.vec K (by omega)
      have hck:=hv.1
      have hfk:=hv.2.1
      rw [Nat.zero_add] at hck hfk
      have hbe:=beWord_any b (o+(n - 8*K - 8)) 8 (c - (n - 8*K - 8)) (fun j=>f (n - 8*K - 8+j)) wr ((bts_from HB.out (n - 8*K - 8) 8 (by omega)).mod hinv.out.2 fun j _ h=>hzb h.symm) (fun j hj=>HF.out _ (by omega)) (by omega) (by omega)
      have HBE:=Lib.hid hbe
      have hs:=fun w=>slice22_range b o n c (n - 8*K - 8) (n - 8*K) (by omega) (by omega) hc ((n:Int) - 8*(K:Int) - 8) ((n:Int) - 8*(K:Int)) (by omega) (by omega) w
      rw [show n - 8*K - (n - 8*K - 8)=8 by omega] at hs
      clear hv hbe
      go_wp2_with fail
      refine HBE.out.mono ?_
      rintro e w2 ⟨rfl,q,hw2⟩
      replace hck:w2.cell? ⟨zb,K,none⟩=some (U (splice (wordB f n) K f' K)):=by rw [hw2];exact hck
      replace hfk:w2.frozen? ⟨zb,K,none⟩=false:=by rw [hw2];exact hfk
      have hA2:Arr w2 (some ⟨zb,0,none⟩) c' (splice (wordB f n) K f'):=by rw [hw2];exact hinv.out.1.drewN q
      have hm2:Mod (InB zb) w1 w2:=by rw [hw2];exact hinv.out.2.drewN q
      have HA2:=Lib.hid hA2
      have HM2:=Lib.hid hm2
      have HW:=Lib.hid (show beN (fun j=>f (n - 8*K - 8+j)) 8=wordB f n K from rfl)
      have HWL:=Lib.hid (wordB_lt HF.out hlt)
      clear hw2 hA2 hm2 HBE hinv hs
      rw [HW.out]
      generalize hx:wordB f n K=x at *
      have HX:=Lib.hid hx
      clear hx
      go_wp2_with fail
      go_roundw
      case rel =>
        refine ⟨K+1,by omega,by congr 1;omega,by go_num,?_⟩
        have hst:=HA2.out.store (i:=K) HWL.out
        rw [← HX.out,put_splice] at hst
        rw [← HX.out]
        exact ⟨hst,HM2.out.setCell (fun _=>rfl) _⟩
      case measure=>simp [intOf];omega
    · have d1:decide (8≤(n:Int) - 8*(K:Int))=false:=decide_eq_false (by omega)
      have hval:=val_wordB f n K hK
      have HVAL:=Lib.hid hval
      have HINV:=Lib.hid hinv.out
      clear hval hinv
      have hHres:∀ g v,Arr v (some ⟨zb,0,none⟩) c' g→Mod (InB zb) w1 v→val g nw=beN f n→Calls Tryz.prog 67 #[.slice (some ⟨zb,0,none⟩) nw c'] v (NatRet w az (beN f n)):=fun g v hA hM hv=>by
        refine (norm_any _ nw c' v g hA hw8 (by omega)).mono ?_
        rintro e w5 hr
        refine hr.ret hv ?_ HFR.out
        refine (HM1.out.of_none (M:=BlkOf az)).trans' hM fun k o hk h => ?_
        unfold InB at h
        subst h
        exact blk_of HFR.out hk o
      have HRES:=Lib.hid hHres
      clear hHres
      by_cases hr:n=8*K
      · obtain rfl:nw=K:=by omega
        have d2:decide ((n:Int) - 8*(nw:Int) > 0)=false:=decide_eq_false (by omega)
        have d3:decide (0<(n:Int) - 8*(nw:Int))=false:=decide_eq_false (by omega)
        have hfin:=HRES.out _ wr HINV.out.1 HINV.out.2 (by rw [val_splice _ _ (Nat.le_refl _),HVAL.out,← hr];exact beN_congr fun j _=>by congr 1;omega)
        have HFIN:=Lib.hid hfin
        clear hfin
        go_wp2_with fail
        refine HFIN.out.mono ?_
        rintro e w4 ⟨a,n1,c1,f1,rfl,h1,h2,h3⟩
        have H1:=Lib.hid h1
        clear h1
        go_wp2_with fail
        go_ret
        exact .mk H1.out h2 h3
      · have d2:decide ((n:Int) - 8*(K:Int) > 0)=true:=decide_eq_true (by omega)
        have d3:decide (0<(n:Int) - 8*(K:Int))=true:=decide_eq_true (by omega)
        go_wp2_with fail
        have he:(n:Int) - 8*(K:Int)=((n - 8*K:Nat):Int):=by omega
        rw [he]
        have hr0:0<n - 8*K:=by omega
        have hr8:n - 8*K<8:=by omega
        have hrn:n=n - 8*K+8*K:=by omega
        clear d1 d2 d3 he hlt hr
        generalize hrr:n - 8*K=r at *
        clear hrr
        obtain rfl:nw=K+1:=by omega
        have hBr:∀ j,j<r→wr.cell? ⟨b,o+j,none⟩=some (Bt (f j)):=fun j hj=>HINV.out.2.cell_some (HB.out j (by omega)) fun h=>hzb h.symm
        have HBR:=Lib.hid hBr
        have hvk:=(HINV.out.1.vec K (by omega))
        rw [Nat.zero_add] at hvk
        have hcK:=hvk.1
        have hfK:=hvk.2.1
        clear hvk hBr
        go_loop [5,7,8] (fun i d s=>∃ t i':Nat,i'+t=r∧i=.int .i64 (i':Int)∧d=U (beN (fun j=>f (i'+j)) t)∧s=.int .u64 ((8*t:Nat):Int)) (fun i _ _=>(intOf i).toNat)
        case atStart=>exact ⟨0,r,by omega,rfl,rfl,rfl⟩
        case round =>
          obtain ⟨t,i',hit,rfl,rfl,rfl⟩:=hrel
          rcases Nat.eq_zero_or_pos i' with h0 | h0
          · subst h0
            obtain rfl:t=r:=by omega
            have hlow:beN (fun j=>f (0+j)) t=beN f t:=beN_congr fun j _=>by rw [Nat.zero_add]
            have hdl:beN (fun j=>f (0+j)) t<B64:=by
              have h1:=beN_lt (f:=fun j=>f (0+j)) (n:=t) fun j hj=>HF.out _ (by omega)
              have h2:256^t≤256^8:=Nat.pow_le_pow_right (by omega) (by omega)
              exact Nat.lt_of_lt_of_le h1 h2
            have HLOW:=Lib.hid hlow
            have HDL:=Lib.hid hdl
            clear hlow hdl
            generalize beN (fun j=>f (0+j)) t=x at *
            go_wp2_with fail
            have hst:=HINV.out.1.store (i:=K) HDL.out
            refine (HRES.out _ _ hst (HINV.out.2.setCell (fun _=>rfl) _) ?_).mono ?_
            · simp only [val]
              rw [put_same,val_put_ge _ (Nat.le_refl _),val_splice _ _ (Nat.le_refl _),HVAL.out,HLOW.out]
              have h3:beN f n=beN f t*256^(8*K)+beN (fun j=>f (t+j)) (8*K):=by
                conv=>lhs;rw [hrn]
                exact beN_add f t (8*K)
              rw [h3,Nat.pow_mul,show (256:Nat)^8=B64 from rfl]
              omega
            rintro e w4 ⟨a,n1,c1,f1,rfl,h1,h2,h3⟩
            have H1:=Lib.hid h1
            clear h1 hst
            go_wp2_with fail
            go_ret
            exact .mk H1.out h2 h3
          · obtain ⟨m,rfl⟩:∃ m,i'=m+1:=⟨i' - 1,by omega⟩
            have hcb:=HBR.out m (by omega)
            have hl:=beN_lt (f:=fun j=>f (m+1+j)) (n:=t) fun j hj=>HF.out _ (by omega)
            rw [show (256:Nat)=2^8 from rfl,← Nat.pow_mul] at hl
            have hfm:=HF.out m (by omega)
            have hor:=shl_or _ _ t (by omega) hl hfm
            have hstep:beN (fun j=>f (m+1+j)) t+f m*2^(8*t)=beN (fun j=>f (m+j)) (t+1):=by
              rw [Nat.add_comm t 1,beN_add]
              have h2:beN (fun j=>f (m+(1+j))) t=beN (fun j=>f (m+1+j)) t:=beN_congr fun j _=>by congr 1;omega
              rw [h2]
              simp only [beN,Nat.add_zero,Nat.zero_mul,Nat.zero_add]
              rw [show (256:Nat)^t=2^(8*t) by rw [Nat.pow_mul]]
              omega
            rw [hstep] at hor
            have HS:=Lib.hid hstep
            clear hstep hl
            generalize hx:beN (fun j=>f (m+1+j)) t=x at *
            generalize hy:f m=y at *
            clear hx hy
            go_wp2_with fail
            exact ⟨⟨t+1,m,by omega,rfl,rfl,by congr 1⟩,by simp [intOf]⟩
set_option maxHeartbeats 400000 in
theorem intSetBytes_any (p nz cz m b o n c:Nat) (neg:Bool) (az:Option Addr) (fz f:Nat→Nat) (w:World) (hI:IntIs w p neg az nz cz fz m) (hB:Bts w b o n f) (hf:∀ j,j<n→f j<256) (hn:0<n) (hn2:n≤100000) (hc:n≤c) (hne:¬ BlkOf az b 0) :
    Calls Tryz.prog 28 #[.pointer (some ⟨p,0,none⟩),.slice (some ⟨b,o,none⟩) n c] w (IntRet w p az false (beN f n)):=by
  have h1:=hI.c1
  have HS:=Lib.hid (setBytes_any az nz cz b o n c w fz f hI.num.arr hI.num.le hB hf hn hn2 hc hne)
  have HI:=Lib.hid hI
  clear hI hB hf
  generalize beN f n=x at *
  go_enter Tryz.func28,Tryz.ntmps28
  go_wp2_with fail
  refine HS.out.mono ?_
  rintro e w1 ⟨a',n',c',f',rfl,hN,hm,hf⟩
  have hp:w1.heap[p]? = some (.cells #[.bool neg,.slice az nz cz] 51 (0,0)):=by rw [hm.heap (lt_of_heap HI.out.cells) HI.out.offP,HI.out.cells]
  have e0:w1.cell? ⟨p,0,none⟩=some (.bool neg):=by rw [cell?_of_heap hp];rfl
  have e1:w1.cell? ⟨p,1,none⟩=some (.slice az nz cz):=by rw [cell?_of_heap hp];rfl
  have f0:=free_of_heap hp 0
  have f1:=free_of_heap hp 1
  have HN:=Lib.hid hN
  have HP:=Lib.hid hp
  clear hN hp h1
  go_wp2_with fail
  go_ret
  exact IntRet.mk (m:=hm) HP.out (lt_of_heap HI.out.cells) HI.out.apart HN.out hf
end
section
open Go Go.RowKit
def TopRet (v:Nat) (w:World) (e:Ending) (w':World):Prop:=∃ t:Nat,e=.returned (.int .i64 (t:Int))∧t≤576∧v<2^t∧Mod NoP w w'
theorem top_bound {v t:Nat} (h:v<2^(t+1)) (hb:v/2^t%2=0):v<2^t:=by
  rw [Nat.pow_succ] at h
  have h1:v/2^t<2:=by rw [Nat.div_lt_iff_lt_mul (Nat.two_pow_pos t)];rw [Nat.mul_comm];exact h
  have h2:v/2^t=0:=by
    generalize v/2^t=q at *
    omega
  exact (Nat.div_eq_zero_iff_lt (Nat.two_pow_pos t)).1 h2
theorem bits_lt' {f:Nat→Nat} {n t:Nat} (ht:t=64*n) (hf:∀ j,j<n→f j<B64):val f n<2^t:=by
  have:=val_lt hf
  rw [B64_pow,← Nat.pow_mul] at this
  rw [ht];exact this
theorem bits_lt (t:Nat) (ht:t=576) {f:Nat→Nat} (hf:∀ j,j<9→f j<B64):val f 9<2^t:=bits_lt' (n:=9) (by omega) hf
set_option maxRecDepth 100000 in
set_option maxHeartbeats 1000000 in
theorem top_any (f:Nat→Nat) (hf:∀ j,j<9→f j<B64) (w:World):Calls Tryz.prog 61 #[nv f] w (TopRet (val f 9) w):=by
  have HV:=Lib.hid (fun t ht=>bits_lt t ht hf)
  go_enter Tryz.func61,Tryz.ntmps61
  go_wp2_with fail
  have v1:NIs (w.alloc (.cells (nc f) 63 (0,0))) w.heap.size f:=heap_alloc_new w _
  have mm:=(Mod.refl NoP w).alloc (.cells (nc f) 63 (0,0))
  generalize hw4:w.alloc (.cells (nc f) 63 (0,0))=w4 at *
  clear hw4
  generalize hb0:w.heap.size=b0 at *
  have MM:=Lib.hid mm
  clear mm
  go_loopw [3] (fun i wr=>∃ t:Nat,i=.int .i64 (t:Int)∧t≤576∧Hid (val f 9<2^t)∧Mod NoP w4 wr) (fun i _=>(intOf i).toNat)
  case atStart =>
    obtain ⟨t,ht⟩:∃ t,t=576:=⟨_,rfl⟩
    exact ⟨t,by rw [ht];rfl,by omega,HV.out t ht,.refl _ _⟩
  case round =>
    obtain ⟨t1,rfl,ht,hlt,hM⟩:=hrel
    by_cases h0:0<t1
    · obtain ⟨t,rfl⟩:∃ t,t1=t+1:=⟨t1 - 1,by omega⟩
      have u1:=v1.mod hM (fun _ h=>h)
      obtain ⟨a0,a1,a2,a3,a4,a5,a6,a7,a8⟩:=u1.nine
      have HM:=Lib.hid hM
      have HB:=Lib.hid (fun w1=>bitAt_any f hf t (by omega) w1)
      have hc1:decide (((t+1:Nat):Int) > 0)=true:=decide_eq_true (by omega)
      have hc2:decide ((0:Int)<((t+1:Nat):Int))=true:=decide_eq_true (by omega)
      have hc3:decide (0<t+1)=true:=decide_eq_true (by omega)
      have e1:((t+1:Nat):Int) - 1=(t:Int):=by omega
      have e2:(t:Int)+1 - 1=(t:Int):=by omega
      have e3:IntKind.i64.wrap ((t:Int)+1 - 1)=(t:Int):=by rw [IntKind.wrap_i64];omega
      clear hM u1
      obtain ⟨bt,hbt⟩:∃ k,k=val f 9/2^t%2:=⟨_,rfl⟩
      have HBT:=Lib.hid hbt
      rw [← hbt] at HB
      have hb2:bt=0∨bt=1:=by omega
      clear hbt
      rcases hb2 with rfl | rfl
      · have HT:=Lib.hid (top_bound hlt.out HBT.out.symm)
        clear HBT hlt
        go_wp2_with fail
        refine (HB.out _).mono ?_
        rintro e w5 ⟨rfl,m5⟩
        have HM5:=Lib.hid (HM.out.trans m5)
        clear a0 a1 a2 a3 a4 a5 a6 a7 a8 HM m5 HB
        go_wp2_with fail
        go_roundw
        case rel=>exact ⟨t,by go_num,by omega,HT.out,HM5.out⟩
        case measure=>simp [intOf]
      · clear HBT
        go_wp2_with fail
        refine (HB.out _).mono ?_
        rintro e w5 ⟨rfl,m5⟩
        have HM5:=Lib.hid (HM.out.trans m5)
        clear a0 a1 a2 a3 a4 a5 a6 a7 a8 HM m5 HB
        go_wp2_with fail
        go_ret
        exact ⟨t+1,rfl,by omega,hlt.out,MM.out.trans HM5.out⟩
    · obtain rfl:t1=0:=by omega
      have hc1:decide (((0:Nat):Int) > 0)=false:=decide_eq_false (by omega)
      have HM5:=Lib.hid hM
      clear hM
      go_wp2_with fail
      go_ret
      exact ⟨0,rfl,by omega,hlt.out,MM.out.trans HM5.out⟩
theorem five_new (w:World) (o1 o2 o3 o4 o5:Obj) :
    (((((w.alloc o1).alloc o2).alloc o3).alloc o4).alloc o5).heap[w.heap.size]? = some o1∧(((((w.alloc o1).alloc o2).alloc o3).alloc o4).alloc o5).heap[w.heap.size+1]? = some o2 ∧
    (((((w.alloc o1).alloc o2).alloc o3).alloc o4).alloc o5).heap[w.heap.size+1+1]? = some o3∧(((((w.alloc o1).alloc o2).alloc o3).alloc o4).alloc o5).heap[w.heap.size+1+1+1]? = some o4 ∧
    (((((w.alloc o1).alloc o2).alloc o3).alloc o4).alloc o5).heap[w.heap.size+1+1+1+1]? = some o5∧Mod NoP w (((((w.alloc o1).alloc o2).alloc o3).alloc o4).alloc o5):=by
  obtain ⟨h1,h2,h3,h4,hm⟩:=four_new w o1 o2 o3 o4
  have hs:((((w.alloc o1).alloc o2).alloc o3).alloc o4).heap.size=w.heap.size+1+1+1+1:=by simp
  refine ⟨?_,?_,?_,?_,?_,hm.alloc _⟩
  · rw [heap_alloc_old _ _ (by omega)];exact h1
  · rw [heap_alloc_old _ _ (by omega)];exact h2
  · rw [heap_alloc_old _ _ (by omega)];exact h3
  · rw [heap_alloc_old _ _ (by omega)];exact h4
  · rw [← hs];exact heap_alloc_new _ o5
set_option maxRecDepth 100000 in
set_option maxHeartbeats 4000000 in
theorem mul9_any (f g m:Nat→Nat) (hf:∀ j,j<9→f j<B64) (hg:∀ j,j<9→g j<B64) (hm:∀ j,j<9→m j<B64) (hfm:val f 9<val m 9) (h2:2*val m 9≤B64^9) (w:World) :
    Calls Tryz.prog 44 #[nv f,nv g,nv m] w (NRet (val f 9*val g 9%val m 9) w):=by
  have hM0:0<val m 9:=by omega
  have HTOP:=Lib.hid (fun w1=>top_any g hg w1)
  have HOP:=Lib.hid (fun (h:Nat→Nat) (hh:∀ j,j<9→h j<B64) (hv:val h 9<val m 9) w1=>add9_any h h m hh hh hm hv hv h2 w1)
  have HOA:=Lib.hid (fun (h:Nat→Nat) (hh:∀ j,j<9→h j<B64) (hv:val h 9<val m 9) w1=>add9_any h f m hh hf hm hv hfm h2 w1)
  have HBIT:=Lib.hid (fun t (ht:t<576) w1=>bitAt_any g hg t ht w1)
  go_enter Tryz.func44,Tryz.ntmps44
  go_upto_region 2 with fail
  obtain ⟨k1,k2,k3,k4,k5,mm'⟩:=five_new w (.cells (nc f) 63 (0,0)) (.cells (nc g) 63 (0,0)) (.cells (nc m) 63 (0,0)) zN zN
  generalize hw6:((((w.alloc (.cells (nc f) 63 (0,0))).alloc (.cells (nc g) 63 (0,0))).alloc (.cells (nc m) 63 (0,0))).alloc zN).alloc zN=w6 at *
  clear hw6
  have v1':NIs w6 w.heap.size f:=k1
  have v2':NIs w6 (w.heap.size+1) g:=k2
  have v3':NIs w6 (w.heap.size+1+1) m:=k3
  have v4':NIs w6 (w.heap.size+1+1+1) (fun _=>0):=k4
  have v5:NIs w6 (w.heap.size+1+1+1+1) (fun _=>0):=k5
  clear k1 k2 k3 k4 k5
  generalize hb0:w.heap.size=b0 at *
  generalize hb1:b0+1=b1 at *
  generalize hb2:b1+1=b2 at *
  generalize hb3:b2+1=b3 at *
  generalize hb4:b3+1=b4 at *
  have h14:b4≠b0∧b4≠b1∧b4≠b2∧b4≠b3∧w.heap.size≤b4:=by omega
  have HNE:=Lib.hid h14
  clear h14
  obtain ⟨c0,c1,c2,c3,c4,c5,c6,c7,c8⟩:=v2'.nine
  go_wp2_with fail
  refine (HTOP.out _).mono ?_
  rintro e w7 ⟨t0,rfl,ht0,hT,m7⟩
  have HT:=Lib.hid hT
  have u1:=v1'.mod m7 (fun _ h=>h)
  have u2:=v2'.mod m7 (fun _ h=>h)
  have u3:=v3'.mod m7 (fun _ h=>h)
  have u4:=v4'.mod m7 (fun _ h=>h)
  have u5:=v5.mod m7 (fun _ h=>h)
  have MM:=Lib.hid (mm'.trans m7)
  have hb4l:b4<w7.heap.size:=lt_of_heap u5
  clear c0 c1 c2 c3 c4 c5 c6 c7 c8 v1' v2' v3' v4' v5 mm' m7 HTOP hT
  have k0:IntKind.i64.wrap ((t0:Int) - 1)=(t0:Int) - 1:=by rw [IntKind.wrap_i64];omega
  go_wp2_with fail
  clear k0
  go_loopw [8] (fun i wr=>∃ t:Nat,i=.int .i64 ((t:Int) - 1)∧t≤576∧∃ h:Nat→Nat,NIs wr b4 h∧(∀ j,j<9→h j<B64)∧Hid (val h 9=val f 9*(val g 9/2^t)%val m 9)∧Mod (InB b4) w7 wr) (fun i _=>(intOf i+1).toNat)
  case atStart=>exact ⟨t0,rfl,ht0,_,u5,fun _ _=>B64_pos,by show val _ 9=_;rw [Nat.div_eq_of_lt HT.out,Nat.mul_zero,Nat.zero_mod];decide,.refl _ _⟩
  case round =>
    obtain ⟨t1,rfl,ht,h,hN,hh,hv,hM⟩:=hrel
    have g1:=u1.mod hM (fun o hh=>HNE.out.1 hh.symm)
    have g2:=u2.mod hM (fun o hh=>HNE.out.2.1 hh.symm)
    have g3:=u3.mod hM (fun o hh=>HNE.out.2.2.1 hh.symm)
    have g4:=u4.mod hM (fun o hh=>HNE.out.2.2.2.1 hh.symm)
    by_cases h0:0<t1
    · obtain ⟨t,rfl⟩:∃ t,t1=t+1:=⟨t1 - 1,by omega⟩
      rw [show (((t+1:Nat):Int) - 1)=(t:Int) by omega]
      have kg:decide ((t:Int) ≥ 0)=true:=decide_eq_true (by omega)
      obtain ⟨a0,a1,a2,a3,a4,a5,a6,a7,a8⟩:=hN.nine
      obtain ⟨c0,c1,c2,c3,c4,c5,c6,c7,c8⟩:=g3.nine
      have HOP1:=Lib.hid (HOP.out h hh (by rw [hv.out];exact Nat.mod_lt _ hM0) wr)
      have HM:=Lib.hid hM
      clear hM
      go_wp2_with fail
      refine HOP1.out.mono ?_
      rintro e w8 ⟨h3,rfl,hh3,hv3,m8⟩
      have hN8:=hN.mod m8 (fun _ h=>h)
      clear a0 a1 a2 a3 a4 a5 a6 a7 a8 c0 c1 c2 c3 c4 c5 c6 c7 c8 HOP1
      obtain ⟨a0,a1,a2,a3,a4,a5,a6,a7,a8⟩:=hN8.nine
      obtain ⟨e0,e1,e2,e3,e4,e5,e6,e7,e8⟩:=hN8.free
      go_upto_region 6 with fail
      rw [setNine_fold w8 b4 h3]
      have hN9:=setNine_is hN8 h3
      have m9:Mod (InB b4) wr (setNine w8 b4 h3):=m8.of_none.trans (setNine_own w8 b4 h3)
      generalize setNine w8 b4 h3=w9 at *
      clear a0 a1 a2 a3 a4 a5 a6 a7 a8 e0 e1 e2 e3 e4 e5 e6 e7 e8 hN8 m8
      have f1:=g1.mod m9 (fun o hh=>HNE.out.1 hh.symm)
      have f2:=g2.mod m9 (fun o hh=>HNE.out.2.1 hh.symm)
      have f3:=g3.mod m9 (fun o hh=>HNE.out.2.2.1 hh.symm)
      have HM9:=Lib.hid (HM.out.trans m9)
      have HV3:=Lib.hid hv3
      obtain ⟨c0,c1,c2,c3,c4,c5,c6,c7,c8⟩:=f2.nine
      obtain ⟨bt,hbt⟩:∃ k,k=val g 9/2^t%2:=⟨_,rfl⟩
      have HB:=Lib.hid (HBIT.out t (by omega) w9)
      rw [← hbt] at HB
      have HBT:=Lib.hid hbt
      have hb2':bt=0∨bt=1:=by omega
      clear hbt g1 g2 g3 g4 m9 hv3 HM
      rcases hb2' with rfl | rfl
      · have HS:=Lib.hid (mul_step0 (val f 9) (val g 9) t (val m 9) HBT.out.symm)
        clear HBT
        go_wp2_with fail
        refine HB.out.mono ?_
        rintro e w10 ⟨rfl,m10⟩
        have hN10:=hN9.mod m10 (fun _ h=>h)
        have HM10:=Lib.hid (HM9.out.trans m10.of_none)
        clear c0 c1 c2 c3 c4 c5 c6 c7 c8 hN9 f1 f2 f3 m10 HM9 HB
        go_wp2_with fail
        go_roundw
        case rel=>exact ⟨t,rfl,by omega,h3,hN10,hh3,by rw [HV3.out,hv.out];exact HS.out,HM10.out⟩
        case measure=>simp [intOf]
      · have HS:=Lib.hid (mul_step1 (val f 9) (val g 9) t (val m 9) HBT.out.symm)
        clear HBT
        go_wp2_with fail
        refine HB.out.mono ?_
        rintro e w10 ⟨rfl,m10⟩
        have hN10:=hN9.mod m10 (fun _ h=>h)
        have f11:=f1.mod m10 (fun _ h=>h)
        have f13:=f3.mod m10 (fun _ h=>h)
        have HM10:=Lib.hid (HM9.out.trans m10.of_none)
        clear c0 c1 c2 c3 c4 c5 c6 c7 c8 hN9 f1 f2 f3 m10 HM9 HB
        obtain ⟨a0,a1,a2,a3,a4,a5,a6,a7,a8⟩:=hN10.nine
        obtain ⟨c0,c1,c2,c3,c4,c5,c6,c7,c8⟩:=f13.nine
        obtain ⟨p0,p1,p2,p3,p4,p5,p6,p7,p8⟩:=f11.nine
        have HOA1:=Lib.hid (HOA.out h3 hh3 (by rw [HV3.out];exact Nat.mod_lt _ hM0) w10)
        go_wp2_with fail
        refine HOA1.out.mono ?_
        rintro e w11 ⟨h4,rfl,hh4,hv4,m11⟩
        have hN11:=hN10.mod m11 (fun _ h=>h)
        clear a0 a1 a2 a3 a4 a5 a6 a7 a8 c0 c1 c2 c3 c4 c5 c6 c7 c8 p0 p1 p2 p3 p4 p5 p6 p7 p8 HOA1 f11 f13 hN10
        obtain ⟨a0,a1,a2,a3,a4,a5,a6,a7,a8⟩:=hN11.nine
        obtain ⟨e0,e1,e2,e3,e4,e5,e6,e7,e8⟩:=hN11.free
        have HV4:=Lib.hid hv4
        have HM11:=Lib.hid m11
        clear hv4 m11
        go_wp2_with fail
        go_roundw
        case rel=>exact ⟨t,rfl,by omega,h4,hN11.setNine h4,hh4,by rw [HV4.out,HV3.out,hv.out];exact HS.out,HM10.out.trans (HM11.out.of_none.trans (setNine_own w11 b4 h4))⟩
        case measure=>simp [intOf]
    · obtain rfl:t1=0:=by omega
      have HV:=Lib.hid (show val h 9=val f 9*val g 9%val m 9 by rw [hv.out,Nat.pow_zero,Nat.div_one])
      have HM:=Lib.hid (show Mod NoP w wr from MM.out.trans' hM fun q r hq hh=>by have:=HNE.out.2.2.2.2;unfold InB at hh;omega)
      obtain ⟨a0,a1,a2,a3,a4,a5,a6,a7,a8⟩:=hN.nine
      obtain ⟨p0,p1,p2,p3,p4,p5,p6,p7,p8⟩:=g4.nine
      obtain ⟨e0,e1,e2,e3,e4,e5,e6,e7,e8⟩:=g4.free
      clear g1 g2 g3 g4 hN hM u1 u2 u3 u4 u5 hv HOP HOA HBIT
      go_wp2_with fail
      have h3b:b3 ≥ w.heap.size:=by omega
      refine bodyPost_ret (v:=nv h) (by simp [results,Tryz.results44,go_sem, *]) rfl (NRet.mk' h hh HV.out ?_)
      exact setNine_mod HM.out (fun _ hh=>by omega) (fun j=>U (h j))
end
section
open Go Go.RowKit
theorem pK_facts (k:Nat) (hk:k≤2):pK k<B64^9:=by
  obtain rfl | rfl | rfl:k=0∨k=1∨k=2:=by omega
  all_goals decide +kernel
theorem held0 {w0 w':World} {b:Nat} {f:Nat→Nat} {s:Value} (h:(w0.cell? ⟨b,0,none⟩=some (U (f 0))∧w0.cell? ⟨b,1,none⟩=some (U (f 1))∧w0.cell? ⟨b,2,none⟩=some (U (f 2))∧w0.cell? ⟨b,3,none⟩=some (U (f 3))∧w0.cell? ⟨b,4,none⟩=some (U (f 4))∧w0.cell? ⟨b,5,none⟩=some (U (f 5))∧w0.cell? ⟨b,6,none⟩=some (U (f 6))∧w0.cell? ⟨b,7,none⟩=some (U (f 7))∧w0.cell? ⟨b,8,none⟩=some (U (f 8))∧w0.cell? ⟨b,45,none⟩=some s)) (m:Mod NoP w0 w') :
    (w'.cell? ⟨b,0,none⟩=some (U (f 0))∧w'.cell? ⟨b,1,none⟩=some (U (f 1))∧w'.cell? ⟨b,2,none⟩=some (U (f 2))∧w'.cell? ⟨b,3,none⟩=some (U (f 3))∧w'.cell? ⟨b,4,none⟩=some (U (f 4))∧w'.cell? ⟨b,5,none⟩=some (U (f 5))∧w'.cell? ⟨b,6,none⟩=some (U (f 6))∧w'.cell? ⟨b,7,none⟩=some (U (f 7))∧w'.cell? ⟨b,8,none⟩=some (U (f 8))∧w'.cell? ⟨b,45,none⟩=some s):=by
  obtain ⟨h0,h1,h2,h3,h4,h5,h6,h7,h8,h9⟩:=h
  exact ⟨m.cell_some h0 fun h=>h,m.cell_some h1 fun h=>h,m.cell_some h2 fun h=>h,m.cell_some h3 fun h=>h,m.cell_some h4 fun h=>h,m.cell_some h5 fun h=>h,m.cell_some h6 fun h=>h,m.cell_some h7 fun h=>h,m.cell_some h8 fun h=>h,m.cell_some h9 fun h=>h⟩
set_option maxRecDepth 100000 in
set_option maxHeartbeats 1000000 in
theorem isBelow_any (k:Nat) (hk:k≤2) (a:Option Addr) (n c:Nat) (f:Nat→Nat) (w:World) (hX:BSl w a n f) (hf:∀ j,j<n→f j<256) (hn:n≤1048576) :
    Calls Tryz.prog 18 #[.int .i64 k,.slice a n c] w (TellsW (n=lenK k∧beN f n<pK k) NoP w):=by
  have hl:=lenK_le k hk
  have HX:=Lib.hid hX
  clear hX
  go_enter Tryz.func18,Tryz.ntmps18
  go_wp2_with fail
  refine (curveOf_any k hk _).mono ?_
  rintro e w1 ⟨rfl,m1⟩
  go_upto_region 2 with (refine wpList_store_row rfl 65 (.tmp 5) (.tmp 7) rfl w1.heap.size (cvK k).toArray rfl rfl 65 zl65.toArray (heap_alloc_new w1 _) size65 (zl65_sizeK k) (cvK_one k) ?_)
  generalize hw2:World.setRow _ w1.heap.size (cvK k).toArray=w2
  have hz:=heap_alloc_new w1 (.cells zl65.toArray 65 (0,0))
  have h2:w2.heap[w1.heap.size]? = some (.cells (cvK k).toArray 65 (0,0)):=by rw [← hw2];exact setRow_heap _ _ zl65.toArray _ 65 (0,0) hz
  have m2:Mod NoP w w2:=by
    rw [← hw2]
    have:=m1.size
    exact (m1.alloc (.cells zl65.toArray 65 (0,0))).trans' (setRow_mod (t:=65) hz (by rw [zl65_sizeK k])) fun q r hq h=>by unfold InB at h;omega
  clear hw2 hz m1
  generalize w1.heap.size=b7 at *
  have hcell:∀ i v,(cvK k).toArray[i]? = some v→w2.cell? ⟨b7,i,none⟩=some v:=fun i v h=>by rw [cell?_of_heap h2,h]
  have a0:=hcell 0 (U (words (pK k) 0)) rfl
  have a1:=hcell 1 (U (words (pK k) 1)) rfl
  have a2:=hcell 2 (U (words (pK k) 2)) rfl
  have a3:=hcell 3 (U (words (pK k) 3)) rfl
  have a4:=hcell 4 (U (words (pK k) 4)) rfl
  have a5:=hcell 5 (U (words (pK k) 5)) rfl
  have a6:=hcell 6 (U (words (pK k) 6)) rfl
  have a7:=hcell 7 (U (words (pK k) 7)) rfl
  have a8:=hcell 8 (U (words (pK k) 8)) rfl
  have asz:=hcell 45 (.int .i64 (lenK k)) rfl
  have h9:=And.intro a0 (And.intro a1 (And.intro a2 (And.intro a3 (And.intro a4 (And.intro a5 (And.intro a6 (And.intro a7 (And.intro a8 asz))))))))
  have H9:=Lib.hid h9
  clear h9
  have hor:=pK_facts k hk
  have hv9:val (words (pK k)) 9=pK k:=by rw [val_words,Nat.mod_eq_of_lt (by omega)]
  have HX2:=Lib.hid (HX.out.nop m2)
  have M2:=Lib.hid m2
  clear hcell h2 HX m2
  unfold TellsW
  by_cases he:n=lenK k
  · obtain ⟨b,o,rfl,hB⟩:∃ b o,a=some ⟨b,o,none⟩∧Bts w2 b o n f:=by
      rcases HX2.out with ⟨_,h⟩ | h
      · omega
      · exact h
    have hO:=fun w' (m:Mod NoP w2 w')=>ofBytes_any b o n c f w' (hB.mod m fun _ _ h=>h) hf (by omega)
    have HO:=Lib.hid hO
    have HE:=Lib.hid he
    have he':((n:Int) == (lenK k:Int))=true:=by simp;omega
    have hL:=fun (h:Nat→Nat) (w':World) (hh:∀ j,j<9→h j<B64)=>less_any h (words (pK k)) hh (fun j _=>words_lt _ _) w'
    rw [hv9] at hL
    have HL:=Lib.hid hL
    clear hO he hL hv9 hor hB HX2
    generalize lenK k=len at *
    generalize pK k=ord at *
    go_region_with (first | (go_at_call 37;refine (HO.out _ ?_).mono ?_;((first | exact Mod.refl NoP w2 | exact (Mod.refl NoP w2).drew | exact (Mod.refl NoP w2).drewN _));rintro e w3 ⟨h,rfl,hh,hv,m3⟩;have m23:=(Mod.refl NoP w2).drew.trans m3;have q9:=held0 H9.out m23;obtain ⟨q0,q1,q2,q3,q4,q5,q6,q7,q8,qs⟩:=q9) | (go_at_call 36;refine (HL.out _ _ hh).mono ?_;rintro e w5 ⟨rfl,m5⟩))
    all_goals (go_wp2_with fail)
    all_goals go_ret
    all_goals exact ⟨decide (beN f n<ord),rfl,⟨fun h=>⟨HE.out,of_decide_eq_true h⟩,fun h=>decide_eq_true h.2⟩,(M2.out.trans m23).trans m5⟩
  · have hb:((n:Int) == (lenK k:Int))=false:=by simp;omega
    have HE:=Lib.hid he
    clear he hv9 hor
    generalize lenK k=len at *
    go_quiet (fail)
    go_wp2_with fail
    go_ret
    exact ⟨false,rfl,⟨fun h=>(by cases h),fun h=>absurd h.1 HE.out⟩,M2.out.drewN _⟩
end
end Go.Proofs.YtpfmbfkhjapbbaaGreatDoor
