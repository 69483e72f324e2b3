/-
  A scalar set to a number, and its bytes: bePutUint64, SetUint64, MarshalBinary, impl.bytesOf, impl.Number. Condition: io.EOF holds an errors.errorString's pointer.
  The specification's half: differences modulo a number, bits, halves. Condition: the modulus is at most half of 2^576.
  The specification's bitAt: bits. Condition: the modulus is at most half of 2^576.
-/
import Derived.Test.YtpfmbfkhjapbbaaGreatDoorMg02
import Derived.Test.YtpfmbfkhjapbbaaGreatDoorMg03
import Derived.Test.YtpfmbfkhjapbbaaGreatDoorMGroups
import Derived.Test.YtpfmbfkhjapbbaaGreatDoorMSpecMod
import Derived.StillTailTactics
import Derived.IntWalk
set_option linter.unusedVariables false
set_option linter.unusedSimpArgs false
namespace Go.Proofs.YtpfmbfkhjapbbaaGreatDoor
section
open Go Go.RowKit
theorem BArr.store {w:World} {b c:Nat} {f:Nat→Nat} (h:BArr w (some ⟨b,0,none⟩) c f) {j:Nat} (hj:j<c) (v:Nat):BArr (w.setCell ⟨b,j,none⟩ (Bt v)) (some ⟨b,0,none⟩) c (fun i=>if i=j then v else f i)∧Mod (InB b) w (w.setCell ⟨b,j,none⟩ (Bt v)):=by
  rcases h with ⟨h,_⟩ | ⟨b',C,t,e,hb,hs,hc⟩
  · cases h
  obtain rfl:b=b':=by simpa using e
  refine ⟨.inr ⟨b,_,t,rfl,heap_set hb j (Bt v),by simpa using hs,fun i hi => ?_⟩,(setCell_mod w b j (Bt v)).mono fun _ _ _ h=>h.1⟩
  rw [Array.getElem?_setIfInBounds]
  by_cases hij:j=i
  · subst hij
    simp [hs,hi]
  · rw [if_neg hij,hc i hi]
    simp [Ne.symm hij]
end
section
open Go Go.RowKit
theorem NIs.stored {w:World} {b:Nat} {f:Nat→Nat} (h:NIs w b f) (hf:∀ j,j<9→f j<B64) {i x:Nat} (hi:i<9) (hx:x<B64):NIs (w.setCell ⟨b,i,none⟩ (U x)) b (put f i x):=by
  refine h.turned (setCell_mod w b i (U x)) fun j hj => ?_
  have hv:=h.vec hf j hj
  rw [Nat.zero_add] at hv ⊢
  by_cases e:j=i
  · subst e
    rw [put_same]
    exact ⟨cell_same hv.1 _,by rw [World.frozen?_setCell];exact hv.2.1,hx⟩
  · rw [put_other _ _ e]
    exact ⟨(cell_other (.inr (by omega)) _).trans hv.1,by rw [World.frozen?_setCell];exact hv.2.1,hv.2.2⟩
theorem put_lt {f:Nat→Nat} (hf:∀ j,j<9→f j<B64) {i x:Nat} (hx:x<B64):∀ j,j<9→put f i x j<B64:=fun j hj=>by
  unfold put
  split
  · exact hx
  · exact hf j hj
theorem half_or (x y:Nat) (hx:x<B64):bits .or .u64 ((x:Int)/2) (IntKind.u64.wrap ((y:Int)*9223372036854775808))=((x/2+y%2*9223372036854775808:Nat):Int):=by
  have e1:(x:Int)/2=((x/2:Nat):Int):=by omega
  have e2:IntKind.u64.wrap ((y:Int)*9223372036854775808)=((9223372036854775808*(y%2):Nat):Int):=by rw [IntKind.wrap_u64];omega
  rw [e1,e2,(bits_nat .u64 64 (by decide) (fun n h0 h1=>by rw [IntKind.wrap_u64];omega) (x/2) (9223372036854775808*(y%2)) (by rw [B64_eq] at hx;omega) (by omega)).2]
  congr 1
  rw [Nat.or_comm,show (9223372036854775808:Nat)=2^63 from rfl,← Nat.two_pow_add_eq_or_of_lt (by rw [B64_eq] at hx;omega)]
  omega
set_option maxRecDepth 100000 in
set_option maxHeartbeats 2000000 in
theorem half_any (f:Nat→Nat) (hf:∀ j,j<9→f j<B64) (w:World):Calls Tryz.prog 63 #[nv f] w (NRet (val f 9/2) w):=by
  rw [← hf_val f 9 (by omega)]
  go_enter Tryz.func63,Tryz.ntmps63
  go_wp2_with fail
  obtain ⟨k1,k2,k3,mm⟩:=three_new w (.cells (nc f) 63 (0,0)) zN zN
  generalize hw4:((w.alloc (.cells (nc f) 63 (0,0))).alloc zN).alloc zN=w4 at *
  clear hw4
  have v1:NIs w4 w.heap.size f:=k1
  have v2:NIs w4 (w.heap.size+1) (fun _=>0):=k2
  have v3:NIs w4 (w.heap.size+1+1) (fun _=>0):=k3
  clear k1 k2 k3
  generalize hb0:w.heap.size=b0 at *
  generalize hb1:b0+1=b1 at *
  generalize hb2:b1+1=b2 at *
  go_loopw [4] (fun i wr=>∃ k:Nat,k≤9∧i=.int .i64 (k:Int)∧∃ g:Nat→Nat,NIs wr b2 g∧(∀ j,j<9→g j<B64)∧(∀ j,j<k→g j=hfW f 9 j)∧Mod (InB b2) w4 wr) (fun i _=>9 - (intOf i).toNat)
  case atStart=>exact ⟨0,by omega,rfl,_,v3,fun _ _=>B64_pos,fun j hj=>by omega,.refl _ _⟩
  case round =>
    obtain ⟨k,hk,rfl,g,hN,hg,hgk,hM⟩:=hrel
    have u1:=v1.mod hM (fun o hh=>by unfold InB at hh;omega)
    by_cases hlt:k<9
    · have hcx:=(u1.vec hf k hlt).1
      have hfk:=hf k hlt
      have hco:=hN.vec hg k hlt
      rw [Nat.zero_add] at hcx hco
      have hco1:=hco.1
      have hco2:=hco.2.1
      have k0:(0:Int)≤(k:Int):=by omega
      have k1:(k:Int)<9:=by omega
      have k2:(k:Int).toNat=k:=by omega
      have hx2:f k/2<B64:=by omega
      have hN6:=hN.stored hg hlt hx2
      have hue:U (f k/2)=Value.int .u64 ((f k:Int)/2):=by rw [show ((f k:Int)/2)=((f k/2:Nat):Int) by omega]
      rw [hue] at hN6
      clear hue
      have m6:Mod (InB b2) w4 (wr.setCell ⟨b2,k,none⟩ (Value.int .u64 ((f k:Int)/2))):=hM.setCell (fun _=>rfl) _
      have hg6:=put_lt hg (i:=k) hx2
      have hgk6:∀ j,j<k→put g k (f k/2) j=hfW f 9 j:=fun j hj=>by rw [put_other _ _ (by omega)];exact hgk j hj
      have HN6:=Lib.hid hN6
      have HM6:=Lib.hid m6
      have HG6:=Lib.hid hg6
      have HK6:=Lib.hid hgk6
      have HM:=Lib.hid hM
      have c6:=cell_same hco1 (Value.int .u64 ((f k:Int)/2))
      have f6:=HM6.out
      by_cases h8:k<8
      · have hcy:=(u1.vec hf (k+1) (by omega)).1
        rw [Nat.zero_add] at hcy
        have hcy6:=(cell_other (w:=wr) (b:=b2) (o:=k) (b':=b0) (o':=k+1) (.inl (by omega)) (Value.int .u64 ((f k:Int)/2))).trans hcy
        have hfy:=hf (k+1) (by omega)
        have Hv:=Lib.hid (show f k/2+f (k+1)%2*9223372036854775808=hfW f 9 k by unfold hfW;rw [if_pos (by omega)])
        have hfr6:(wr.setCell ⟨b2,k,none⟩ (Value.int .u64 ((f k:Int)/2))).frozen? ⟨b2,k,none⟩=false:=by rw [World.frozen?_setCell];exact hco2
        clear hN hg hgk hN6 m6 hg6 hgk6 u1 v1 v2 v3 hco f6 hM
        generalize f (k+1)=y at *
        generalize f k=x at *
        generalize hw6:wr.setCell ⟨b2,k,none⟩ (Value.int .u64 ((x:Int)/2))=w6 at *
        have d8:decide ((k:Int)<8)=true:=decide_eq_true (by omega)
        have d9:decide ((k:Int)<9)=true:=decide_eq_true (by omega)
        have s1:IntKind.i64.wrap ((k:Int)+1)=(k:Int)+1:=IntWalk.i64_in _ (by omega)
        have s2:(0:Int)≤(k:Int)+1:=by omega
        have s3:(k:Int)+1<9:=by omega
        have s4:((k:Int)+1).toNat=k+1:=by omega
        go_wp2_with fail
        go_still_tail 11,(by kernel_rfl)
        simp only [World.drew_eq]
        go_wp2_with fail
        go_roundw
        case rel =>
          have hst:=HN6.out.stored HG6.out (i:=k) (x:=x/2+y%2*9223372036854775808) (by omega) (by rw [B64_eq];rw [B64_eq] at hfk;omega)
          have hU:U (x/2+y%2*9223372036854775808)=Value.int .u64 (bits .or .u64 ((x:Int)/2) (IntKind.u64.wrap ((y:Int)*9223372036854775808))):=by rw [half_or x y hfk]
          rw [hU] at hst
          refine ⟨k+1,by omega,by go_num,_,hst,put_lt HG6.out (by rw [B64_eq];rw [B64_eq] at hfk;omega),fun j hj => ?_,(HM6.out.setCell (fun _=>rfl) _).drew⟩
          by_cases e:j=k
          · rw [e,put_same];exact Hv.out
          · rw [put_other _ _ e];exact HK6.out j (by omega)
        case measure=>simp [intOf];omega
      · obtain rfl:k=8:=by omega
        have Hv:=Lib.hid (show f 8/2=hfW f 9 8 by unfold hfW;rw [if_neg (by omega)])
        clear hN hg hgk hN6 m6 hg6 hgk6 u1 v1 v2 v3 hco f6 hM
        generalize f 8=x at *
        go_wp2_with fail
        go_roundw
        case rel =>
          refine ⟨9,by omega,rfl,_,HN6.out,HG6.out,fun j hj => ?_,HM6.out⟩
          by_cases e:j=8
          · rw [e,put_same];exact Hv.out
          · exact HK6.out j (by omega)
        case measure=>simp [intOf]
    · obtain rfl:k=9:=by omega
      have n2:=v2.mod hM (fun o hh=>by unfold InB at hh;omega)
      obtain ⟨a0,a1,a2,a3,a4,a5,a6,a7,a8⟩:=hN.nine
      obtain ⟨p0,p1,p2,p3,p4,p5,p6,p7,p8⟩:=n2.nine
      obtain ⟨e0,e1,e2,e3,e4,e5,e6,e7,e8⟩:=n2.free
      have mend:Mod NoP w wr:=mm.trans' hM fun q r hq hh=>by unfold InB at hh;omega
      have HV:=Lib.hid (val_congr (n:=9) hgk)
      have HG:=Lib.hid hg
      have HME:=Lib.hid mend
      clear hN hg hgk hM u1 v1 v2 v3 n2 mend mm
      go_wp2_with fail
      refine bodyPost_ret (v:=nv g) (by simp [results,Tryz.results63,go_sem, *]) rfl (⟨g,rfl,HG.out,HV.out,setNine_mod HME.out (fun _ hh=>by omega) (fun j=>U (g j))⟩:NRet _ w _ _)
end
section
open Go Go.RowKit
theorem u64_and1 (x:Nat) (h:x<B64):bits .and .u64 (x:Int) 1=((x%2:Nat):Int):=by
  have h:=(bits_nat .u64 64 (by decide) (fun n h0 h1=>by rw [IntKind.wrap_u64];omega) x 1 (by rw [B64_eq] at h;omega) (by decide)).1
  rw [Nat.and_one_is_mod] at h
  exact h
set_option maxRecDepth 100000 in
set_option maxHeartbeats 1000000 in
theorem bitAt_any (f:Nat→Nat) (hf:∀ j,j<9→f j<B64) (i:Nat) (hi:i<576) (w:World) :
    Calls Tryz.prog 62 #[nv f,.int .i64 (i:Int)] w fun e w'=>e=.returned (U (val f 9/2^i%2))∧Mod NoP w w':=by
  rw [val_bit hf (by omega)]
  obtain ⟨q,hq⟩:∃ q,q=i/64:=⟨_,rfl⟩
  obtain ⟨r,hr⟩:∃ r,r=i%64:=⟨_,rfl⟩
  rw [← hq,← hr]
  have h1:(i:Int)/64=(q:Int):=by omega
  have h2:(i:Int)%64=(r:Int):=by omega
  have hq9:q<9:=by omega
  have hr64:r<64:=by omega
  have hfq:=hf q hq9
  have k0:(0:Int)≤(q:Int):=by omega
  have k1:(q:Int)<9:=by omega
  have k2:(q:Int).toNat=q:=by omega
  have k3:(0:Int)≤(r:Int):=by omega
  have k4:(r:Int)<64:=by omega
  have k5:(r:Int).toNat=r:=by omega
  clear hq hr
  obtain ⟨x,hxe⟩:∃ x,x=f q:=⟨_,rfl⟩
  have HX:=Lib.hid hxe
  have hxl:x<B64:=by rw [hxe];exact hfq
  rw [← hxe]
  clear hfq hxe
  go_enter Tryz.func62,Tryz.ntmps62
  go_upto_region 1 with fail
  have v1:NIs (w.alloc (.cells (nc f) 63 (0,0))) w.heap.size f:=heap_alloc_new w _
  have mm:=(Mod.refl NoP w).alloc (.cells (nc f) 63 (0,0))
  generalize w.alloc (.cells (nc f) 63 (0,0))=w4 at *
  generalize hb0:w.heap.size=b0 at *
  have hc:=(v1.vec hf q hq9).1
  rw [Nat.zero_add,← HX.out] at hc
  have MM:=Lib.hid mm
  clear mm v1 hf
  go_wp2_with fail
  go_ret
  refine ⟨?_,MM.out⟩
  have hd:(x:Int)/2^r=((x/2^r:Nat):Int):=by simp
  show Ending.returned (Value.int .u64 (bits BinOp.and IntKind.u64 ((x:Int)/2^r) 1))=_
  rw [hd,u64_and1 _ (Nat.lt_of_le_of_lt (Nat.div_le_self _ _) hxl)]
end
end Go.Proofs.YtpfmbfkhjapbbaaGreatDoor
