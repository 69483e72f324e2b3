/-
  The specification's ofBytes, IsScalar, IsZero. Conditions: rows of at most 72 bytes (ofBytes), of at most 2^20 bytes (the others).
-/
import Derived.Test.YtpfmbfkhjapbbaaGreatDoorMg12
import Derived.StillTailTactics
set_option linter.unusedVariables false
set_option linter.unusedSimpArgs false
namespace Go.Proofs.YtpfmbfkhjapbbaaGreatDoor
open Go Go.RowKit
theorem shl_or (x y r:Nat) (hr:r<8) (hx:x<2^(8*r)) (hy:y<256) :
    bits .or .u64 (x:Int) (IntKind.u64.wrap ((y:Int)*2^(8*r)))=((x+y*2^(8*r):Nat):Int):=by
  have hlt:y*2^(8*r)<2^64:=by
    have h1:(y+1)*2^(8*r)≤256*2^(8*r):=Nat.mul_le_mul_right _ (by omega)
    have h2:256*2^(8*r)≤2^64:=by
      rw [show (256:Nat)=2^8 from rfl,← Nat.pow_add]
      exact Nat.pow_le_pow_right (by omega) (by omega)
    have h3:=Nat.two_pow_pos (8*r)
    rw [Nat.add_mul] at h1
    omega
  have hw:IntKind.u64.wrap ((y:Int)*2^(8*r))=((y*2^(8*r):Nat):Int):=by
    rw [IntKind.wrap_u64]
    have:((y:Int)*2^(8*r))=((y*2^(8*r):Nat):Int):=by simp
    rw [this]
    omega
  rw [hw]
  have hx64:x<2^64:=Nat.lt_of_lt_of_le hx (Nat.pow_le_pow_right (by omega) (by omega))
  have h:=(bits_nat .u64 64 (by decide) (fun n h0 h1=>by rw [IntKind.wrap_u64];omega) x (y*2^(8*r)) hx64 hlt).2
  rw [h]
  congr 1
  rw [Nat.or_comm,Nat.mul_comm,← Nat.two_pow_add_eq_or_of_lt hx]
  omega
theorem NIs.store {w:World} {b:Nat} {f g:Nat→Nat} (h:NIs w b f) (hf:∀ j,j<9→f j<B64) {i:Nat} (hi:i<9) (hg:∀ j,j<9→g j<B64) (hgi:∀ j,j<9→j≠i→g j=f j):NIs (w.setCell ⟨b,i,none⟩ (U (g i))) b g:=by
  refine h.turned (setCell_mod w b i (U (g i))) fun j hj => ?_
  have hv:=h.vec hf j hj
  rw [Nat.zero_add] at hv ⊢
  by_cases e:j=i
  · subst e
    exact ⟨cell_same hv.1 _,by rw [World.frozen?_setCell];exact hv.2.1,hg j hj⟩
  · exact ⟨by rw [hgi j hj e,cell_other (.inr (Ne.symm e))];exact hv.1,by rw [World.frozen?_setCell];exact hv.2.1,hg j hj⟩
set_option maxRecDepth 100000 in
set_option maxHeartbeats 1000000 in
theorem ofBytes_any (b o n c:Nat) (f:Nat→Nat) (w:World) (hX:Bts w b o n f) (hf:∀ j,j<n→f j<256) (hn:n≤72) :
    Calls Tryz.prog 37 #[.slice (some ⟨b,o,none⟩) n c] w (NRet (beN f n) w):=by
  have hbl:0<n→b<w.heap.size:=fun h=>lt_of_cell? (hX 0 h)
  go_enter Tryz.func37,Tryz.ntmps37
  go_wp2_with fail
  obtain ⟨k1,k2,mm⟩:=two_new w zN zN
  generalize hw4:(w.alloc zN).alloc zN=w4 at *
  clear hw4
  have v1:NIs w4 w.heap.size (fun _=>0):=k1
  have v2:NIs w4 (w.heap.size+1) (fun _=>0):=k2
  clear k1 k2
  generalize hb0:w.heap.size=b0 at *
  generalize hb1:b0+1=b1 at *
  go_loopw [4] (fun i wr=>∃ k:Nat,k≤n∧i=.int .i64 (k:Int)∧NIs wr b1 (obW f n k)∧Mod (InB b1) w4 wr) (fun i _=>n - (intOf i).toNat)
  case atStart=>exact ⟨0,by omega,rfl,v2,.refl _ _⟩
  case round =>
    obtain ⟨k,hk,rfl,hN,hM⟩:=hrel
    have hlt64:∀ q,obW f n k q<B64:=fun q=>obW_lt64 f n hf k q hk
    by_cases hlt:k<n
    · have hcb:=hM.cell_some (mm.cell_some (hX (n - 1 - k) (by omega)) fun h=>h) (fun hh=>by have:=hbl (by omega);unfold InB at hh;omega)
      have hq:k/8<9:=by omega
      have hcq:wr.cell? ⟨b1,k/8,none⟩=some (U (obW f n k (k/8))):=by rw [cell?_of_heap hN];exact nc_at _ _ hq
      have hfq:wr.frozen? ⟨b1,k/8,none⟩=false:=free_of_heap hN _
      have hfb:=hf (n - 1 - k) (by omega)
      have hlow:obW f n k (k/8)<2^(8*(k%8)):=by
        have:=obW_lt f n hf k (k/8) hk
        rwa [show min 8 (k - 8*(k/8))=k%8 by omega] at this
      have hor:=shl_or _ _ _ (Nat.mod_lt k (by omega)) hlow hfb
      have hstep:obW f n k (k/8)+f (n - 1 - k)*2^(8*(k%8))=obW f n (k+1) (k/8):=by simp [obW]
      rw [hstep] at hor
      have HN:=Lib.hid hN
      have HM:=Lib.hid hM
      have d1:decide ((k:Int)<(n:Int))=true:=decide_eq_true (by omega)
      have d2:decide ((k:Int)<72)=true:=decide_eq_true (by omega)
      have e1:IntKind.i64.wrap ((n:Int) - 1)=(n:Int) - 1:=IntWalk.i64_in _ (by omega)
      have e2:IntKind.i64.wrap ((n:Int) - 1 - (k:Int))=((n - 1 - k:Nat):Int):=by rw [IntWalk.i64_in _ (by omega)];omega
      have e3:IntKind.i64.wrap ((k:Int)/8)=(k:Int)/8:=IntWalk.i64_in _ (by omega)
      have e4:IntKind.i64.wrap ((k:Int)%8)=(k:Int)%8:=IntWalk.i64_in _ (by omega)
      have e5:IntKind.u64.wrap ((k:Int)%8)=(k:Int)%8:=by rw [IntKind.wrap_u64];omega
      have e6:IntKind.u64.wrap (8*((k:Int)%8))=8*((k:Int)%8):=by rw [IntKind.wrap_u64];omega
      have g0:(0:Int)≤(k:Int)/8:=by omega
      have g1:(k:Int)/8<9:=by omega
      have g3:((k:Int)/8).toNat=k/8:=by omega
      have g4:(8*((k:Int)%8)).toNat=8*(k%8):=by omega
      have g2:((n - 1 - k:Nat):Int)<(n:Int):=by omega
      clear hN hM hstep hlt64 hlow hX
      generalize obW f n k (k/8)=x at *
      generalize f (n - 1 - k)=y at *
      go_wp2_with fail
      go_still_tail 22,(by kernel_rfl)
      simp only [World.drew_eq]
      go_wp2_with fail
      go_roundw
      case rel =>
        rw [show min (8*(k%8)) 64=8*(k%8) by omega,hor]
        have hst:=HN.out.store (g:=obW f n (k+1)) (fun q _=>obW_lt64 f n hf k q (by omega)) hq (fun q _=>obW_lt64 f n hf (k+1) q (by omega)) (fun q _ hne=>by simp [obW,hne])
        exact ⟨k+1,by omega,by go_num,hst,(HM.out.trans (mod_own wr b1 (k/8) _)).drew⟩
      case measure=>simp [intOf];omega
    · obtain rfl:k=n:=by omega
      have d1:decide ((k:Int)<(k:Int))=false:=decide_eq_false (by omega)
      have n1:=v1.mod hM (fun o hh=>by unfold InB at hh;omega)
      have hv:=val_obW f k 9 k (Nat.le_refl _) (by omega)
      rw [Nat.sub_self] at hv
      have hv':val (obW f k k) 9=beN f k:=by rw [hv];exact beN_congr fun j _=>by rw [Nat.zero_add]
      have HV:=Lib.hid hv'
      clear hv hv' v1 v2
      generalize obW f k k=h at *
      obtain ⟨a0,a1,a2,a3,a4,a5,a6,a7,a8⟩:=hN.nine
      obtain ⟨p0,p1,p2,p3,p4,p5,p6,p7,p8⟩:=n1.nine
      obtain ⟨e0,e1,e2,e3,e4,e5,e6,e7,e8⟩:=n1.free
      have mend:Mod NoP w wr:=mm.trans' hM fun q r hq hh=>by unfold InB at hh;omega
      go_wp2_with fail
      refine bodyPost_ret (v:=nv h) (by simp [results,Tryz.results37,go_sem, *]) rfl ⟨h,rfl,fun j _=>hlt64 j,HV.out,?_⟩
      exact setNine_mod mend (fun _ hh=>by omega) (fun j=>U (h j))
end Go.Proofs.YtpfmbfkhjapbbaaGreatDoor
