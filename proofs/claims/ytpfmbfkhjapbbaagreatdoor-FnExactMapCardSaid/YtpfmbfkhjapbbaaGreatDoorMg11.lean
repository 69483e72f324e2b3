/-
  basicMul: the product of two numbers, word by word. Conditions: the product's array lies apart from the factors', and has room.
  slices.Grow of words: room, or a new row. Condition: at most 2^20 words.
  big's stackInner.nat: n words of the stack. Conditions: at most 100 words asked, at most 1000 in use.
  big's stack: getStack, nat, save, and the deferred restore and free. Conditions: at most 100 words asked, at most 1000 in use.
  What divBasic asks of the stack: words of its own, apart from the other numbers, and the deferred restore. Conditions as in Stk3.
-/
import Derived.Test.YtpfmbfkhjapbbaaGreatDoorMg03
import Derived.Test.YtpfmbfkhjapbbaaGreatDoorMg10
import Derived.Lib.AppendZerosOnto
import Derived.Lib.SliceRun
import Derived.Lib.Walk
import Derived.Defers
set_option linter.unusedVariables false
set_option linter.unusedSimpArgs false
namespace Go.Proofs.YtpfmbfkhjapbbaaGreatDoor
section
open Go Go.RowKit
theorem slice_win (tt:TypeId) (b n c k l:Nat) (hc:k<c) (hh:k+l≤c) (ht:tt=48∨tt=49) (w:World) :
    (Instr.slice tt (.slice (some ⟨b,0,none⟩) n c) (some (.int .i64 (k:Int))) (some (.int .i64 ((k:Int)+(l:Int)))) none).run Tryz.prog w=.ok (.slice (some ⟨b,k,none⟩) l (c - k)) w:=by
  have h:=slice_mid tt b 0 n c k (k+l) (by omega) hc hh ht (k:Int) ((k:Int)+(l:Int)) rfl (by omega) w
  rw [Nat.zero_add,Nat.add_sub_cancel_left] at h
  exact h
def BmSt (w:World) (bz cz nx ny vx:Nat) (fy:Nat→Nat) (i:Nat) (wr:World):Prop :=
  ∃ g:Nat→Nat,Arr wr (some ⟨bz,0,none⟩) cz g∧val g (i+nx)=vx*val fy i∧(∀ j,i+nx≤j→j<nx+ny→g j=0)∧Mod (InB bz) w wr
set_option maxRecDepth 100000 in
set_option maxHeartbeats 2000000 in
theorem basicMul_any (bz nz cz bx nx cx by_ ny cy vx vy:Nat) (fz fx fy:Nat→Nat) (w:World) (hZ:Arr w (some ⟨bz,0,none⟩) cz fz) (hX:NatIs w (some ⟨bx,0,none⟩) nx cx fx vx) (hY:NatIs w (some ⟨by_,0,none⟩) ny cy fy vy)
    (hxz:bx≠bz) (hyz:by_≠bz) (hfit:nx+ny≤cz) (hsx:nx≤100000) (hsy:ny≤100000) (hx0:0<nx) (hnz:nz≤cz) (hnz2:nx+ny≤nz) :
    Calls Tryz.prog 149 #[.slice (some ⟨bz,0,none⟩) nz cz,.slice (some ⟨bx,0,none⟩) nx cx,.slice (some ⟨by_,0,none⟩) ny cy] w fun e w' =>
      e=.returned (.tuple #[])∧∃ g,Arr w' (some ⟨bz,0,none⟩) cz g∧val g (nx+ny)=vx*vy∧Mod (InB bz) w w':=by
  obtain ⟨w1,hcl,hV,m1⟩:=clearV_run w 0 bz 0 (nx+ny) cz cz fz hZ (by omega) (by omega)
  have hsl:=slice_mid 49 bz 0 nz cz 0 (nx+ny) (by omega) (by omega) hfit (.inr rfl) 0 ((nx:Int)+(ny:Int)) rfl (by omega)
  rw [Nat.add_zero,Nat.sub_zero,Nat.sub_zero] at hsl
  have hA1:=hZ.wroteAt hV m1
  have hX1:=hX.mod m1 (by rintro A hA o ⟨h,_⟩;cases hA;exact hxz h)
  have hY1:=hY.mod m1 (by rintro A hA o ⟨h,_⟩;cases hA;exact hyz h)
  have hst0:BmSt w bz cz nx ny vx fy 0 w1:=⟨_,hA1,by
    rw [Nat.zero_add]
    show val _ nx=vx*0
    rw [Nat.mul_zero]
    exact val_zero fun j hj=>by unfold lay;rw [if_pos (by omega)],fun j h1 h2=>by unfold lay;rw [if_pos (by omega)],m1.mono fun _ _ _ h=>h.1⟩
  have HV:=Lib.hid (fun i (h:i<ny)=>(hY1.arr.vec i (by have:=hY1.le;omega)))
  have hyw:=fun i (h:i<ny)=>(HV.out i h).2.2
  have HYv:=Lib.hid hY1.val
  
  have hrow:∀ i wr,i<ny→fy i≠0→BmSt w bz cz nx ny vx fy i wr→∀ w2,Mod NoP wr w2→Calls Tryz.prog 178 #[.slice (some ⟨bz,i,none⟩) nx (cz - i),.slice (some ⟨bz,i,none⟩) nx (cz - i),.slice (some ⟨bx,0,none⟩) nx cx,U (fy i),U 0] w2
      fun e w3=>∃ c,e=.returned (U c)∧(∃ v,w3.cell? ⟨bz,nx+i,none⟩=some v)∧w3.frozen? ⟨bz,nx+i,none⟩=false∧BmSt w bz cz nx ny vx fy (i+1) (w3.setCell ⟨bz,nx+i,none⟩ (U c)):=fun i wr hi hne hst w2 m2=>by
    obtain ⟨g,hA,hv,hz,hm⟩:=hst
    have hA2:=hA.mod m2 (Off.noP _)
    have hG:Vec w2 bz i nx (fun j=>g (i+j)):=fun j hj=>by have:=hA2.vec (i+j) (by omega);rwa [Nat.zero_add] at this
    have hXX:Vec w2 bx 0 nx fx:=((hX.arr.vec.take hX.le).mod hm fun j _ h=>hxz h).mod m2 fun _ _ h=>h
    refine (addMulVVWW_any bz i (cz - i) bz i (cz - i) bx 0 cx nx (fy i) _ fx _ w2 hG hXX hG (by omega) (hyw i hi) (fun _=>.inl (Nat.le_refl _)) (fun h=>absurd h hxz)).mono ?_
    rintro e w3 ⟨rfl,hV3,m3⟩
    have hA3:=hA2.wroteAt hV3 m3
    have hc:=hA3.vec (nx+i) (by omega)
    rw [Nat.zero_add] at hc
    have hcl:amC (fun j=>g (i+j)) fx (fy i) nx<B64:=amC_lt (fun j hj=>(hG j hj).2.2) (fun j hj=>(hXX j hj).2.2) (hyw i hi) nx (Nat.le_refl _)
    refine ⟨_,rfl,⟨_,hc.1⟩,hc.2.1,_,hA3.store (i:=nx+i) hcl,?_,fun j h1 h2 => ?_,((hm.trans m2.of_none).trans (m3.mono fun _ _ _ h=>h.1)).setCell (fun _=>rfl) _⟩
    · have:=bm_step g fx i nx (fy i) vx (val fy i) (by rw [hv]) hX.val
      rw [Nat.add_comm nx i,show i+1+nx=i+nx+1 by omega,this]
      rfl
    · rw [put_other _ _ (by omega)]
      unfold lay
      rw [if_neg (by omega)]
      exact hz j (by omega) h2
  have hskip:∀ i wr,i<ny→fy i=0→BmSt w bz cz nx ny vx fy i wr→BmSt w bz cz nx ny vx fy (i+1) wr:=fun i wr hi h0 hst=>by
    obtain ⟨g,hA,hv,hz,hm⟩:=hst
    refine ⟨g,hA,?_,fun j h1 h2=>hz j (by omega) h2,hm⟩
    rw [show i+1+nx=i+nx+1 by omega]
    show val g (i+nx)+g (i+nx)*_=vx*(val fy i+fy i*_)
    rw [hz (i+nx) (by omega) (by omega),h0,hv]
    simp
  have hend:∀ wr,BmSt w bz cz nx ny vx fy ny wr→∃ g,Arr wr (some ⟨bz,0,none⟩) cz g∧val g (nx+ny)=vx*vy∧Mod (InB bz) w wr:=fun wr ⟨g,hA,hv,hz,hm⟩=>⟨g,hA,by rw [Nat.add_comm,hv,HYv.out],hm⟩
  have hycell:∀ i wr,i<ny→BmSt w bz cz nx ny vx fy i wr→wr.cell? ⟨by_,i,none⟩=some (U (fy i)):=fun i wr hi ⟨g,hA,hv,hz,hm⟩=>by
    have h:=((hY.arr.vec i (by have:=hY.le;omega)).1)
    rw [Nat.zero_add] at h
    exact hm.cell_some h fun h=>hyz h
  have HROW:=Lib.hid hrow
  have HSKIP:=Lib.hid hskip
  have HEND:=Lib.hid hend
  have HYC:=Lib.hid hycell
  have HS0:=Lib.hid hst0
  have hslw:=fun i (h:i<cz) (h2:i+nx≤cz)=>slice_win 49 bz nz cz i nx h h2 (.inr rfl)
  have HSLW:=Lib.hid hslw
  clear hZ hX hY hV m1 hA1 hX1 hY1 hrow hskip hend hycell hst0 hslw HV HYv
  go_enter Tryz.func149,Tryz.ntmps149
  go_wp2_with (simp only [hcl])
  go_loopw [17] (fun i wr=>∃ k:Nat,k≤ny∧i=.int .i64 (k:Int)∧Hid (BmSt w bz cz nx ny vx fy k wr)) (fun i _=>ny - (intOf i).toNat)
  case atStart=>exact ⟨0,Nat.zero_le _,rfl,HS0.out⟩
  case round =>
    obtain ⟨k,hk,rfl,hst⟩:=hrel
    by_cases hlt:k<ny
    · have hcell:=HYC.out k wr hlt hst.out
      have hd:decide ((k:Int)<(ny:Int))=true:=decide_eq_true (by omega)
      by_cases h0:fy k=0
      · have HN:=Lib.hid (HSKIP.out k wr hlt h0 hst.out)
        rw [h0] at hcell
        clear h0 hst
        go_wp2_with fail
        go_roundw
        case rel=>exact ⟨k+1,by omega,by go_num,HN.out⟩
        case measure=>simp [intOf];omega
      · have HR:=Lib.hid (HROW.out k wr hlt h0 hst.out)
        have hs1:=HSLW.out k (by omega) (by omega)
        clear hst
        generalize fy k=d at *
        have hb0:((d:Int) == 0)=false:=by simp;omega
        go_wp2_with fail
        have w1:IntKind.i64.wrap ((k:Int)+(nx:Int))=(k:Int)+(nx:Int):=by rw [IntKind.wrap_i64];omega
        have w2:IntKind.i64.wrap ((nx:Int)+(k:Int))=(nx:Int)+(k:Int):=by rw [IntKind.wrap_i64];omega
        have k0:(0:Int)≤(nx:Int)+(k:Int):=by omega
        have k1:(nx:Int)+(k:Int)<(nz:Int):=by omega
        have k2:((nx:Int)+(k:Int)).toNat=nx+k:=by omega
        go_region_with (go_at_call 178;refine (HR.out _ ?_).mono ?_;((first | exact (Mod.refl NoP wr).drew | exact (Mod.refl NoP wr).drewN _));rintro e w3 ⟨c,rfl,⟨v,hc3⟩,hf3,hst3⟩;have HST:=Lib.hid hst3;clear hst3)
        all_goals (go_wp2_with fail)
        all_goals exact ⟨⟨k+1,by omega,by go_num,HST.out⟩,by simp [intOf];omega⟩
    · obtain rfl:k=ny:=by omega
      have hd:decide ((k:Int)<(k:Int))=false:=decide_eq_false (by omega)
      have HE:=Lib.hid (HEND.out wr hst.out)
      clear hst
      go_wp2_with fail
      go_end0
      exact ⟨rfl,HE.out⟩
end
section
open Go Go.RowKit
def GrowRet (w:World) (l n:Nat) (e:Ending) (w':World):Prop :=
  ∃ c' g,e=.returned (.slice (some ⟨w.heap.size,0,none⟩) l c')∧l+n≤c'∧c'≤9223372036854775807∧Arr w' (some ⟨w.heap.size,0,none⟩) c' g∧Mod NoP w w'
theorem GrowRet.mk {w w':World} {l n c':Nat} {g:Nat→Nat} (h1:l+n≤c') (h2:c'≤9223372036854775807) (h3:Arr w' (some ⟨w.heap.size,0,none⟩) c' g) (h4:Mod NoP w w'):GrowRet w l n (.returned (.slice (some ⟨w.heap.size,0,none⟩) l c')) w':=⟨c',g,rfl,h1,h2,h3,h4⟩
theorem wgrow_run (w:World) (ty:TypeId) (tt:TypeId) (ht:Tryz.prog.underlying tt=some (.slice 121)) (a:Option Addr) (c:Nat) (f:Nat→Nat) (hA:Arr w a c f) (hc:c≤1048576) (k:Nat) (hk:0<k) (hk2:k≤2097152) :
    ∃ c' g w',(∀ ty,(Builtin.append_ #[tt,3] ty #[.slice a c c,.int .i64 (k:Int)]).run Tryz.prog w=.ok (.slice (some ⟨w.heap.size,0,none⟩) (c+k) c') w')∧c+k≤c'∧c'≤9223372036854775807∧Arr w' (some ⟨w.heap.size,0,none⟩) c' g∧Mod NoP w w':=by
  obtain ⟨i0,hi,hz0,hz1,hz2⟩:=info121'
  have hold:(Builtin.firstCells i0.size c (.slice a c c)).run Tryz.prog w.drew=.ok ((List.range c).map fun j=>U (f j)).toArray w.drew:=by
    rcases hA with ⟨rfl,rfl⟩ | ⟨b,C,t,rfl,hb,hs,hcc⟩
    · exact run_firstCells_none w.drew i0.size 0 0 0
    · refine run_firstCells_some (P:=Tryz.prog) w.drew i0.size c ⟨b,0,none⟩ c c _ (by simp [hz1]) fun j v hv => ?_
      obtain ⟨hj,rfl⟩:j<c∧U (f j)=v:=by
        rw [List.getElem?_map,Option.map_eq_some_iff] at hv
        obtain ⟨k,hk,rfl⟩:=hv
        obtain ⟨hj,rfl⟩:=List.getElem?_eq_some_iff.1 hk
        simp at hj
        simp [hj]
      rw [Addr.add_lit,Nat.zero_add]
      show w.cell? _=_
      rw [cell?_of_heap hb]
      exact (hcc j hj).1
  have hw:∀ j,j<c→f j<B64:=hA.words
  have hr:=fun ty=>Lib.run_append_grow_zeros (P:=Tryz.prog) w tt 3 ty 121 i0 (.int .u64 0) .i64 .i64 ht Tryz.underlying3 hi hz0 a c c _ hold k hk (by omega) (by omega) (by omega) (by have:k*i0.bytes≤k*8:=Nat.mul_le_mul_left _ hz2;omega) (growslice_fits (need:=c+k) (old:=c) (bytes:=i0.bytes) (by omega) (by have:(c+k)*i0.bytes≤(c+k)*8:=Nat.mul_le_mul_left _ hz2;omega))
  have hge:=grownCap_ge w (c+k) c 121
  have hle:grownCap w (c+k) c 121≤9223372036854775807:=by
    have:=grownCap_le_maxLen w (c+k) c 121 (by unfold maxLen;omega)
    unfold maxLen at this
    omega
  refine ⟨_,fun j=>if j<c then f j else 0,_,hr,hge,hle,?_,((Mod.refl _ w).drew).alloc _⟩
  refine .inr ⟨_,_,_,rfl,heap_alloc_new w.drew _,⟨?_,hle⟩,fun j hj => ?_⟩
  · simp [size_zeroCells,Value.cells];omega
  · refine ⟨?_,by show (if j<c then f j else 0)<B64;split <;> first | (rename_i h;exact hw j h) | exact B64_pos⟩
    rw [Array.append_assoc,Array.getElem?_append]
    simp only [List.size_toArray,List.length_map,List.length_range]
    by_cases h1':j<c
    · rw [if_pos h1',if_pos h1']
      simp [h1']
    · rw [if_neg h1',if_neg h1',Array.getElem?_append]
      simp only [size_zeroCells,Value.cells]
      split
      · rename_i h2
        simp only [Array.size_singleton,Nat.mul_one] at h2
        exact getElem?_zeroCells (.int .u64 0) rfl _ _ (by omega)
      · rename_i h2
        simp only [Array.size_singleton,Nat.mul_one] at h2 ⊢
        exact getElem?_zeroCells (.int .u64 0) rfl _ _ (by omega)
set_option maxRecDepth 100000 in
set_option maxHeartbeats 1000000 in
theorem grow181_room (a:Option Addr) (l c n:Nat) (w:World) (hlc:l≤c) (hc63:c≤9223372036854775807) (hn63:n≤1048576) (hroom:l+n≤c) :
    Calls Tryz.prog 181 #[.slice a l c,.int .i64 (n:Int)] w fun e w'=>e=.returned (.slice a l c)∧w'=w:=by
  have h1:¬ ((n:Int)<0):=by omega
  have h2:wrap64 ((c:Int) - (l:Int))=(c:Int) - (l:Int):=by unfold wrap64;omega
  have h3:wrap64 ((n:Int) - ((c:Int) - (l:Int)))=(n:Int) - ((c:Int) - (l:Int)):=by unfold wrap64;omega
  have h4:¬ ((n:Int) - ((c:Int) - (l:Int)) > 0):=by omega
  go_enter Tryz.func181,Tryz.ntmps181
  go_wp2
  go_ret
  exact ⟨rfl,rfl⟩
set_option maxRecDepth 100000 in
set_option maxHeartbeats 2000000 in
theorem grow181_new (a:Option Addr) (l c n:Nat) (f:Nat→Nat) (w:World) (hA:Arr w a c f) (hlc:l≤c) (hc:c≤1048576) (hn:n≤1048576) (hroom:c<l+n) :
    Calls Tryz.prog 181 #[.slice a l c,.int .i64 (n:Int)] w (GrowRet w l n):=by
  obtain ⟨c',g,w',hr,h5,h6,h7,h8⟩:=wgrow_run w 0 49 Tryz.underlying49 a c f hA hc (l+n - c) (by omega) (by omega)
  rw [show c+(l+n - c)=l+n by omega] at hr h5
  rw [show ((l+n - c:Nat):Int)=(n:Int) - ((c:Int) - (l:Int)) by omega] at hr
  have h1:¬ ((n:Int)<0):=by omega
  have h2:wrap64 ((c:Int) - (l:Int))=(c:Int) - (l:Int):=by unfold wrap64;omega
  have h3:wrap64 ((n:Int) - ((c:Int) - (l:Int)))=(n:Int) - ((c:Int) - (l:Int)):=by unfold wrap64;omega
  have h4:(n:Int) - ((c:Int) - (l:Int)) > 0:=by omega
  have H7:=Lib.hid h7
  have HA:=Lib.hid hA
  clear h7 hA
  rcases a with _ | ⟨b,o,s⟩
  · obtain rfl:c=0:=by
      rcases HA.out with ⟨_,h⟩ | ⟨b',C,t,e,_⟩
      · exact h
      · cases e
    obtain rfl:l=0:=by omega
    go_enter Tryz.func181,Tryz.ntmps181
    go_wp2_with (at_builtin;refine Lib.wpList_append_run _ rfl _ _ _ _ rfl _ _ rfl rfl _ _ (hr _) ?_)
    all_goals (go_ret;exact GrowRet.mk h5 h6 H7.out h8)
  · go_enter Tryz.func181,Tryz.ntmps181
    go_wp2_with (at_builtin;refine Lib.wpList_append_run _ rfl _ _ _ _ rfl _ _ rfl rfl _ _ (hr _) ?_)
    all_goals (go_ret;exact GrowRet.mk h5 h6 H7.out h8)
set_option maxRecDepth 100000 in
set_option maxHeartbeats 1000000 in
theorem grow201_room (a:Option Addr) (l c n:Nat) (w:World) (hlc:l≤c) (hc63:c≤9223372036854775807) (hn63:n≤1048576) (hroom:l+n≤c) :
    Calls Tryz.prog 201 #[.slice a l c,.int .i64 (n:Int)] w fun e w'=>e=.returned (.slice a l c)∧w'=w:=by
  have h1:¬ ((n:Int)<0):=by omega
  have h2:wrap64 ((c:Int) - (l:Int))=(c:Int) - (l:Int):=by unfold wrap64;omega
  have h3:wrap64 ((n:Int) - ((c:Int) - (l:Int)))=(n:Int) - ((c:Int) - (l:Int)):=by unfold wrap64;omega
  have h4:¬ ((n:Int) - ((c:Int) - (l:Int)) > 0):=by omega
  go_enter Tryz.func201,Tryz.ntmps201
  go_wp2
  go_ret
  exact ⟨rfl,rfl⟩
set_option maxRecDepth 100000 in
set_option maxHeartbeats 2000000 in
theorem grow201_new (a:Option Addr) (l c n:Nat) (f:Nat→Nat) (w:World) (hA:Arr w a c f) (hlc:l≤c) (hc:c≤1048576) (hn:n≤1048576) (hroom:c<l+n) :
    Calls Tryz.prog 201 #[.slice a l c,.int .i64 (n:Int)] w (GrowRet w l n):=by
  obtain ⟨c',g,w',hr,h5,h6,h7,h8⟩:=wgrow_run w 0 48 Tryz.underlying48 a c f hA hc (l+n - c) (by omega) (by omega)
  rw [show c+(l+n - c)=l+n by omega] at hr h5
  rw [show ((l+n - c:Nat):Int)=(n:Int) - ((c:Int) - (l:Int)) by omega] at hr
  have h1:¬ ((n:Int)<0):=by omega
  have h2:wrap64 ((c:Int) - (l:Int))=(c:Int) - (l:Int):=by unfold wrap64;omega
  have h3:wrap64 ((n:Int) - ((c:Int) - (l:Int)))=(n:Int) - ((c:Int) - (l:Int)):=by unfold wrap64;omega
  have h4:(n:Int) - ((c:Int) - (l:Int)) > 0:=by omega
  have H7:=Lib.hid h7
  have HA:=Lib.hid hA
  clear h7 hA
  rcases a with _ | ⟨b,o,s⟩
  · obtain rfl:c=0:=by
      rcases HA.out with ⟨_,h⟩ | ⟨b',C,t,e,_⟩
      · exact h
      · cases e
    obtain rfl:l=0:=by omega
    go_enter Tryz.func201,Tryz.ntmps201
    go_wp2_with (at_builtin;refine Lib.wpList_append_run _ rfl _ _ _ _ rfl _ _ rfl rfl _ _ (hr _) ?_)
    all_goals (go_ret;exact GrowRet.mk h5 h6 H7.out h8)
  · go_enter Tryz.func201,Tryz.ntmps201
    go_wp2_with (at_builtin;refine Lib.wpList_append_run _ rfl _ _ _ _ rfl _ _ rfl rfl _ _ (hr _) ?_)
    all_goals (go_ret;exact GrowRet.mk h5 h6 H7.out h8)
end
section
open Go Go.RowKit
def r4 (n:Nat):Nat:=(n+3)/4*4
theorem r4_ge (n:Nat):n≤r4 n:=by unfold r4;omega
theorem r4_le (n:Nat):r4 n≤n+3:=by unfold r4;omega
theorem r4_bits:∀ n:Fin 101,bits .andNot .i64 ((n.val:Int)+3) 3=((r4 n.val:Nat):Int):=by decide +kernel
def SiRet (w:World) (q:Nat) (a:Option Addr) (l n:Nat) (e:Ending) (w':World):Prop :=
  ∃ b c g,e=.returned (.slice (some ⟨b,l,none⟩) n n)∧Arr w' (some ⟨b,0,none⟩) c g∧l+r4 n≤c∧c≤9223372036854775807∧w'.heap[q]? = some (.cells #[.slice (some ⟨b,0,none⟩) (l+r4 n) c] 235 (0,0)) ∧
    (a=some ⟨b,0,none⟩∨w.heap.size≤b)∧b≠q∧Mod (fun k o=>k=q∨(∃ A,a=some A∧A.block=k∧l≤o)) w w'
theorem slice_three (b n c l k:Nat) (h:l+k≤c) (hk:0<k) (w:World) :
    (Instr.slice 48 (.slice (some ⟨b,0,none⟩) n c) (some (.int .i64 (l:Int))) (some (.int .i64 ((l:Int)+(k:Int)))) (some (.int .i64 ((l:Int)+(k:Int))))).run Tryz.prog w=.ok (.slice (some ⟨b,l,none⟩) k k) w:=by
  have h1:(0:Int)≤(l:Int):=by omega
  have h2:(0:Int)≤(l:Int)+(k:Int):=by omega
  have h3:(l:Int)+(k:Int)≤(c:Int):=by omega
  have h4:(l:Int)≤(l:Int)+(k:Int):=by omega
  have h5:((l:Int)+(k:Int)).toNat=l+k:=by omega
  have h6:¬ l+k=l:=by omega
  simp [go_sem,h1,h2,h3,h4,h5,h6]
  try omega
theorem si_end {w w2:World} {q b l c n:Nat} {a:Option Addr} {g:Nat→Nat} {v:Value} (hA:Arr w2 (some ⟨b,0,none⟩) c g) (hc:l+r4 n≤c) (hc2:c≤9223372036854775807) (hn:0<n) (hq:w2.heap[q]? = some (.cells #[v] 235 (0,0)))
    (hb:a=some ⟨b,0,none⟩∨w.heap.size≤b) (hbq:b≠q) (hm:Mod (fun k o=>k=q∨(∃ A,a=some A∧A.block=k∧l≤o)) w w2) :
    SiRet w q a l n (.returned (.slice (some ⟨b,l,none⟩) n n)) ((w2.setCell ⟨q,0,none⟩ (.slice (some ⟨b,0,none⟩) (l+r4 n) c)).setCell ⟨b,l,none⟩ (U 1043915)):=by
  have m1:=mod_own w2 q 0 (.slice (some ⟨b,0,none⟩) (l+r4 n) c)
  have hA1:=hA.mod m1 (by rintro A hA' o h;cases hA';exact hbq h)
  have hA2:=hA1.store (i:=l) (x:=1043915) (by rw [B64_eq];omega)
  have hq1:(w2.setCell ⟨q,0,none⟩ (.slice (some ⟨b,0,none⟩) (l+r4 n) c)).heap[q]? = some (.cells #[.slice (some ⟨b,0,none⟩) (l+r4 n) c] 235 (0,0)):=by
    rw [heap_set hq 0];rfl
  refine ⟨b,c,_,rfl,hA2,hc,hc2,?_,hb,hbq,?_⟩
  · rw [heap_set_other (Ne.symm hbq),hq1]
  · refine (hm.trans' m1 fun k o hk h=>.inl h).setCell (fun hlt => ?_) _
    rcases hb with h | h
    · exact .inr ⟨_,h,rfl,Nat.le_refl _⟩
    · omega
set_option maxRecDepth 100000 in
set_option maxHeartbeats 4000000 in
theorem siNat_any (q l c n:Nat) (a:Option Addr) (f:Nat→Nat) (w:World) (hQ:w.heap[q]? = some (.cells #[.slice a l c] 235 (0,0))) (hA:Arr w a c f) (hlc:l≤c) (hc:c≤9223372036854775807) (hl:l≤1000) (hn:n≤100) (hn0:0<n) (haq:∀ A,a=some A→A.block≠q) :
    Calls Tryz.prog 182 #[.pointer (some ⟨q,0,none⟩),.int .i64 (n:Int)] w (SiRet w q a l n):=by
  have hr4:=r4_bits ⟨n,by omega⟩
  have h1:=r4_ge n
  have h2:=r4_le n
  have q0:w.cell? ⟨q,0,none⟩=some (.slice a l c):=(cell?_of_heap hQ 0).trans rfl
  have qf:=free_of_heap hQ 0
  have hd:decide ((n:Int) > 0)=true:=decide_eq_true (by omega)
  by_cases hroom:l+r4 n≤c
  · obtain ⟨b,rfl⟩:=hA.form (by omega)
    have HG:=Lib.hid (fun w'=>grow201_room (some ⟨b,0,none⟩) l c (r4 n) w' hlc hc (by omega) hroom)
    have hbq:b≠q:=haq _ rfl
    have hq1:(w.setCell ⟨q,0,none⟩ (.slice (some ⟨b,0,none⟩) l c)).heap[q]? = some (.cells #[.slice (some ⟨b,0,none⟩) l c] 235 (0,0)):=by rw [heap_set hQ 0];rfl
    have m1:=mod_own w q 0 (.slice (some ⟨b,0,none⟩) l c)
    have HE:=Lib.hid (si_end (w:=w) (w2:=w.setCell ⟨q,0,none⟩ (.slice (some ⟨b,0,none⟩) l c)) (l:=l) (n:=n) (a:=some ⟨b,0,none⟩) (hA.mod m1 (by rintro A hA' o h;cases hA';exact hbq h)) hroom hc hn0 hq1 (.inl rfl) hbq (m1.mono fun k o hk h=>.inl h))
    have hcl:=(hA.vec l (by omega))
    rw [Nat.zero_add] at hcl
    have bl:=hcl.1
    have bf:=hcl.2.1
    have hs2:=slice_three b (l+r4 n) c l n (by omega) hn0
    generalize r4 n=nr at *
    have hs1:∀ w,(Instr.slice 48 (.slice (some ⟨b,0,none⟩) l c) none (some (.int .i64 ((l:Int)+(nr:Int)))) none).run Tryz.prog w=.ok (.slice (some ⟨b,0,none⟩) (l+nr) c) w:=fun w=>by
      have k1:(0:Int)≤(l:Int)+(nr:Int):=by omega
      have k2:(l:Int)+(nr:Int)≤(c:Int):=by omega
      have k3:((l:Int)+(nr:Int)).toNat=l+nr:=by omega
      simp [go_sem,k1,k2,k3]
    clear hA hQ m1 hq1 hcl
    go_enter Tryz.func182,Tryz.ntmps182
    go_wp2_with (go_at_call 201;refine (HG.out _).mono ?_;rintro e w' ⟨rfl,rfl⟩)
    go_ret
    exact HE.out
  · have HG:=Lib.hid (fun w' (m:Mod NoP w w')=>grow201_new a l c (r4 n) f w' (hA.mod m (Off.noP _)) hlc (by omega) (by omega) (by omega))
    have HQ:=Lib.hid hQ
    have HH:=Lib.hid (fun (w1:World) (b c':Nat) (g:Nat→Nat) (hb:w.heap.size≤b) (h1:l+r4 n≤c') (h2:c'≤9223372036854775807) (h3:Arr w1 (some ⟨b,0,none⟩) c' g) (m:Mod NoP w w1)=>by
      have hq0:w1.heap[q]? = some (.cells #[.slice a l c] 235 (0,0)):=by rw [m.heap (lt_of_heap hQ) (fun _ h=>h)];exact hQ
      have hq1:(w1.setCell ⟨q,0,none⟩ (.slice (some ⟨b,0,none⟩) l c')).heap[q]? = some (.cells #[.slice (some ⟨b,0,none⟩) l c'] 235 (0,0)):=by rw [heap_set hq0 0];rfl
      have hbq:b≠q:=by have:=lt_of_heap hQ;omega
      have m1:=mod_own w1 q 0 (.slice (some ⟨b,0,none⟩) l c')
      have hcl:=(h3.vec l (by omega))
      rw [Nat.zero_add] at hcl
      have hcm:=(h3.mod m1 (by rintro A hA' o h;cases hA';exact hbq h))
      exact (⟨(cell?_of_heap hq0 0).trans rfl,free_of_heap hq0 0,hcl.1,hcl.2.1,si_end (w:=w) (w2:=w1.setCell ⟨q,0,none⟩ (.slice (some ⟨b,0,none⟩) l c')) (l:=l) (n:=n) (a:=a) hcm h1 h2 hn0 hq1 (.inr hb) hbq (m.of_none.trans' m1 fun k o hk h=>.inl h),hbq⟩ :
        w1.cell? ⟨q,0,none⟩=some (.slice a l c)∧w1.frozen? ⟨q,0,none⟩=false∧w1.cell? ⟨b,l,none⟩=some (U (g l))∧w1.frozen? ⟨b,l,none⟩=false∧SiRet w q a l n (.returned (.slice (some ⟨b,l,none⟩) n n)) (((w1.setCell ⟨q,0,none⟩ (.slice (some ⟨b,0,none⟩) l c')).setCell ⟨q,0,none⟩ (.slice (some ⟨b,0,none⟩) (l+r4 n) c')).setCell ⟨b,l,none⟩ (U 1043915))∧b≠q))
    generalize r4 n=nr at *
    clear hA hQ
    go_enter Tryz.func182,Tryz.ntmps182
    go_wp2_with fail
    refine (HG.out _ (by first | exact Mod.refl NoP w | exact (Mod.refl NoP w).drew | exact (Mod.refl NoP w).drewN _)).mono ?_
    rintro e w1 ⟨c',g,rfl,h3,h4,h5,h6⟩
    obtain ⟨p0,pf,pb,pbf,hres,hbq⟩:=HH.out w1 w.heap.size c' g (Nat.le_refl _) h3 h4 h5 h6
    have HR:=Lib.hid hres
    generalize w.heap.size=b at *
    have hs1:∀ w,(Instr.slice 48 (.slice (some ⟨b,0,none⟩) l c') none (some (.int .i64 ((l:Int)+(nr:Int)))) none).run Tryz.prog w=.ok (.slice (some ⟨b,0,none⟩) (l+nr) c') w:=fun w=>by
      have k1:(0:Int)≤(l:Int)+(nr:Int):=by omega
      have k2:(l:Int)+(nr:Int)≤(c':Int):=by omega
      have k3:((l:Int)+(nr:Int)).toNat=l+nr:=by omega
      simp [go_sem,k1,k2,k3]
    have hs2:=slice_three b (l+nr) c' l n (by omega) hn0
    clear hres h5 h6
    go_wp2_with fail
    go_ret
    exact HR.out
end
section
open Go Go.RowKit
def StkNil (w:World) (s:Nat):Prop:=w.heap[s]? = some (.cells #[.pointer none] 230 (0,0))
structure StkSome (w:World) (s q:Nat) (a:Option Addr) (l c:Nat):Prop where
  hs:w.heap[s]? = some (.cells #[.pointer (some ⟨q,0,none⟩)] 230 (0,0))
  hq:w.heap[q]? = some (.cells #[.slice a l c] 235 (0,0))
  hA:∃ f,Arr w a c f
  lc:l≤c
  c63:c≤9223372036854775807
  ap:∀ A,a=some A→A.block≠q∧A.block≠s
  qs:q≠s
theorem StkNil.mod {w w':World} {s:Nat} {M:Places} (h:StkNil w s) (m:Mod M w w') (hM:∀ o,¬ M s o):StkNil w' s:=by
  unfold StkNil at *
  rw [m.heap (lt_of_heap h) hM,h]
theorem StkSome.mod {w w':World} {s q l c:Nat} {a:Option Addr} {M:Places} (h:StkSome w s q a l c) (m:Mod M w w') (h1:∀ o,¬ M s o) (h2:∀ o,¬ M q o) (h3:∃ g,Arr w' a c g):StkSome w' s q a l c :=
  ⟨by rw [m.heap (lt_of_heap h.hs) h1,h.hs],by rw [m.heap (lt_of_heap h.hq) h2,h.hq],h3,h.lc,h.c63,h.ap,h.qs⟩
theorem getStack_any (w:World):Calls Tryz.prog 145 #[] w fun e w'=>e=.returned (.pointer (some ⟨w.heap.size,0,none⟩))∧w'=w.alloc (.cells #[.pointer none] 230):=by
  go_enter Tryz.func145,Tryz.ntmps145
  go_wp2_with fail
  go_ret
  exact ⟨rfl,rfl⟩
theorem save_nil (s:Nat) (w:World) (h:StkNil w s):Calls Tryz.prog 154 #[.pointer (some ⟨s,0,none⟩)] w fun e w'=>e=.returned (.int .i64 0)∧w'=w:=by
  have c0:w.cell? ⟨s,0,none⟩=some (.pointer none):=(cell?_of_heap h 0).trans rfl
  clear h
  go_enter Tryz.func154,Tryz.ntmps154
  go_wp2_with fail
  go_ret
  exact ⟨rfl,rfl⟩
theorem siSave_any (q l c:Nat) (a:Option Addr) (w:World) (h:w.heap[q]? = some (.cells #[.slice a l c] 235 (0,0))):Calls Tryz.prog 180 #[.pointer (some ⟨q,0,none⟩)] w fun e w'=>e=.returned (.int .i64 (l:Int))∧w'=w:=by
  have c0:w.cell? ⟨q,0,none⟩=some (.slice a l c):=(cell?_of_heap h 0).trans rfl
  clear h
  go_enter Tryz.func180,Tryz.ntmps180
  go_wp2_with fail
  go_ret
  exact ⟨rfl,rfl⟩
theorem save_some (s q l c:Nat) (a:Option Addr) (w:World) (h:StkSome w s q a l c):Calls Tryz.prog 154 #[.pointer (some ⟨s,0,none⟩)] w fun e w'=>e=.returned (.int .i64 (l:Int))∧w'=w:=by
  have c0:w.cell? ⟨s,0,none⟩=some (.pointer (some ⟨q,0,none⟩)):=(cell?_of_heap h.hs 0).trans rfl
  have H:=Lib.hid (fun w' (e:w'=w)=>e ▸ siSave_any q l c a w h.hq)
  clear h
  go_enter Tryz.func154,Tryz.ntmps154
  go_wp2_with fail
  refine (H.out _ rfl).mono ?_
  rintro e w' ⟨rfl,rfl⟩
  go_wp2_with fail
  go_ret
  exact ⟨rfl,rfl⟩
theorem siRestore_any (q l c n:Nat) (a:Option Addr) (f:Nat→Nat) (w:World) (h:w.heap[q]? = some (.cells #[.slice a l c] 235 (0,0))) (hA:Arr w a c f) (hn:n≤c) (hc:c≤9223372036854775807):Calls Tryz.prog 179 #[.pointer (some ⟨q,0,none⟩),.int .i64 (n:Int)] w fun e w'=>e=.returned (.tuple #[])∧w'=w.setCell ⟨q,0,none⟩ (.slice a n c):=by
  have c0:w.cell? ⟨q,0,none⟩=some (.slice a l c):=(cell?_of_heap h 0).trans rfl
  have cf:=free_of_heap h 0
  have hs:∀ w,(Instr.slice 48 (.slice a l c) none (some (.int .i64 (n:Int))) none).run Tryz.prog w=.ok (.slice a n c) w:=fun w=>by
    have k1:(n:Int)≤(c:Int):=by omega
    rcases hA with ⟨rfl,rfl⟩ | ⟨b,C,t,rfl,hb,hs,hcc⟩
    · obtain rfl:n=0:=by omega
      simp [go_sem]
    · simp [go_sem,hn]
  clear h hA
  go_enter Tryz.func179,Tryz.ntmps179
  go_wp2_with fail
  go_end0
  exact ⟨rfl,rfl⟩
theorem siFree_any (q l c:Nat) (a:Option Addr) (f:Nat→Nat) (w:World) (h:w.heap[q]? = some (.cells #[.slice a l c] 235 (0,0))) (hA:Arr w a c f):Calls Tryz.prog 173 #[.pointer (some ⟨q,0,none⟩)] w fun e w'=>e=.returned (.tuple #[])∧w'=w.setCell ⟨q,0,none⟩ (.slice a 0 c):=by
  have c0:w.cell? ⟨q,0,none⟩=some (.slice a l c):=(cell?_of_heap h 0).trans rfl
  have cf:=free_of_heap h 0
  have hs:∀ w,(Instr.slice 48 (.slice a l c) none (some (.int .i64 0)) none).run Tryz.prog w=.ok (.slice a 0 c) w:=fun w=>by
    rcases hA with ⟨rfl,rfl⟩ | ⟨b,C,t,rfl,hb,hs,hcc⟩
    · simp [go_sem]
    · simp [go_sem]
  clear h hA
  go_enter Tryz.func173,Tryz.ntmps173
  go_wp2_with fail
  go_end0
  exact ⟨rfl,rfl⟩
theorem restoreD_nil (s:Nat) (n:Int) (u:FrameMode) (w:World) (h:StkNil w s):CallsD Tryz.prog 153 #[.pointer (some ⟨s,0,none⟩),.int .i64 n] u w fun e u' w'=>u'=u∧(e=.returned (.tuple #[])∧w'=w):=by
  have c0:w.cell? ⟨s,0,none⟩=some (.pointer none):=(cell?_of_heap h 0).trans rfl
  clear h
  go_enter_d Tryz.func153,Tryz.ntmps153
  go_wp2_with fail
  exact bodyPost_ret (results_none rfl _ _ _) rfl ⟨rfl,rfl⟩
theorem restoreD_some (s q l c n:Nat) (a:Option Addr) (u:FrameMode) (w:World) (h:StkSome w s q a l c) (hn:n≤c):CallsD Tryz.prog 153 #[.pointer (some ⟨s,0,none⟩),.int .i64 (n:Int)] u w fun e u' w'=>u'=u∧(e=.returned (.tuple #[])∧w'=w.setCell ⟨q,0,none⟩ (.slice a n c)):=by
  have c0:w.cell? ⟨s,0,none⟩=some (.pointer (some ⟨q,0,none⟩)):=(cell?_of_heap h.hs 0).trans rfl
  obtain ⟨f,hA⟩:=h.hA
  have H:=Lib.hid (fun w' (e:w'=w)=>e ▸ siRestore_any q l c n a f w h.hq hA hn h.c63)
  clear h hA
  go_enter_d Tryz.func153,Tryz.ntmps153
  go_wp2_with fail
  refine (H.out _ rfl).mono ?_
  rintro e w' ⟨rfl,rfl⟩
  go_wp2_with fail
  go_end0
  exact ⟨rfl,rfl⟩
theorem freeD_nil (s:Nat) (u:FrameMode) (w:World) (h:StkNil w s):CallsD Tryz.prog 146 #[.pointer (some ⟨s,0,none⟩)] u w fun e u' w'=>u'=u∧(e=.returned (.tuple #[])∧w'=w):=by
  have c0:w.cell? ⟨s,0,none⟩=some (.pointer none):=(cell?_of_heap h 0).trans rfl
  clear h
  go_enter_d Tryz.func146,Tryz.ntmps146
  go_wp2_with fail
  first | (go_end0;exact ⟨rfl,rfl⟩) | exact bodyPost_ret (results_none rfl _ _ _) rfl ⟨rfl,rfl⟩
theorem freeD_some (s q l c:Nat) (a:Option Addr) (u:FrameMode) (w:World) (h:StkSome w s q a l c):CallsD Tryz.prog 146 #[.pointer (some ⟨s,0,none⟩)] u w fun e u' w'=>u'=u∧(e=.returned (.tuple #[])∧w'=w.setCell ⟨q,0,none⟩ (.slice a 0 c)):=by
  have c0:w.cell? ⟨s,0,none⟩=some (.pointer (some ⟨q,0,none⟩)):=(cell?_of_heap h.hs 0).trans rfl
  obtain ⟨f,hA⟩:=h.hA
  have H:=Lib.hid (fun w' (e:w'=w)=>e ▸ siFree_any q l c a f w h.hq hA)
  clear h hA
  go_enter_d Tryz.func146,Tryz.ntmps146
  go_wp2_with fail
  refine (H.out _ rfl).mono ?_
  rintro e w' ⟨rfl,rfl⟩
  go_wp2_with fail
  first | (go_end0;exact ⟨rfl,rfl⟩) | exact bodyPost_ret (results_none rfl _ _ _) rfl ⟨rfl,rfl⟩
theorem StkSome.cut {w:World} {s q l c:Nat} {a:Option Addr} (h:StkSome w s q a l c) {n:Nat} (hn:n≤c):StkSome (w.setCell ⟨q,0,none⟩ (.slice a n c)) s q a n c:=by
  obtain ⟨f,hA⟩:=h.hA
  refine ⟨by rw [heap_set_other (Ne.symm h.qs)];exact h.hs,by rw [heap_set h.hq 0];rfl,⟨f,hA.mod (mod_own w q 0 _) fun A hA' o hh=>(h.ap A hA').1 hh⟩,hn,h.c63,h.ap,h.qs⟩
def StkIs (w:World) (s N:Nat):Prop:=StkNil w s∨∃ q a l c,StkSome w s q a l c∧N≤q∧∀ A,a=some A→N≤A.block
def StkNew (w:World) (s n:Nat) (e:Ending) (w':World):Prop :=
  ∃ b c g C,e=.returned (.slice (some ⟨b,0,none⟩) n c)∧n≤c∧n≤C∧Arr w' (some ⟨b,0,none⟩) C g∧w.heap.size≤b∧Mod (InB s) w w' ∧
    (StkNil w' s∨∃ q l cc,StkSome w' s q (some ⟨b,0,none⟩) l cc∧n≤l∧l≤n+3∧w.heap.size≤q)
set_option maxRecDepth 100000 in
set_option maxHeartbeats 2000000 in
theorem stkNat_nil (s n:Nat) (w:World) (h:StkNil w s) (hn0:0<n) (hn:n≤100):Calls Tryz.prog 155 #[.pointer (some ⟨s,0,none⟩),.int .i64 (n:Int)] w (StkNew w s n):=by
  have c0:w.cell? ⟨s,0,none⟩=some (.pointer none):=(cell?_of_heap h 0).trans rfl
  have cf:=free_of_heap h 0
  by_cases h4:n≤4
  · have d1:(n:Int)≤4:=by omega
    have d2:0<n:=hn0
    have HG:=Lib.hid (fun w'=>grow181_new none 0 0 n (fun _=>0) w' (.nil _ _) (Nat.le_refl _) (by omega) (by omega) (by omega))
    have HH:=Lib.hid (fun (w1:World) (c':Nat) (g:Nat→Nat) (h1:0+n≤c') (h3:Arr w1 (some ⟨w.heap.size,0,none⟩) c' g) (m:Mod NoP w w1)=>by
      have hcl:=(h3.vec 0 (by omega))
      rw [Nat.zero_add] at hcl
      have hA2:=h3.store (i:=0) (x:=11259375) (by rw [B64_eq];omega)
      have m1:Mod NoP w (w1.setCell ⟨w.heap.size,0,none⟩ (U 11259375)):=m.setCell (fun h=>by omega) _
      exact (⟨hcl.1,hcl.2.1,⟨w.heap.size,c',_,c',rfl,by omega,by omega,hA2,Nat.le_refl _,m1.of_none,.inl (h.mod m1 fun _ h=>h)⟩⟩ :
        w1.cell? ⟨w.heap.size,0,none⟩=some (U (g 0))∧w1.frozen? ⟨w.heap.size,0,none⟩=false∧StkNew w s n (.returned (.slice (some ⟨w.heap.size,0,none⟩) n c')) (w1.setCell ⟨w.heap.size,0,none⟩ (U 11259375))))
    clear h
    go_enter Tryz.func155,Tryz.ntmps155
    go_wp2_with fail
    refine (HG.out _).mono ?_
    rintro e w1 ⟨c',g,rfl,h3,h4',h5,h6⟩
    obtain ⟨k1,k2,k3⟩:=HH.out w1 c' g h3 h5 h6
    have HR:=Lib.hid k3
    generalize w.heap.size=b at *
    have hs1:∀ w,(Instr.slice 49 (.slice (some ⟨b,0,none⟩) 0 c') none (some (.int .i64 (n:Int))) none).run Tryz.prog w=.ok (.slice (some ⟨b,0,none⟩) n c') w:=fun w=>slice_to b 0 0 c' n (by omega) w
    clear h5 h6 k3
    go_wp2_with fail
    go_ret
    exact HR.out
  · have d1:¬ (n:Int)≤4:=by omega
    
    have hlt:=lt_of_heap h
    have hsz0:(w.setCell ⟨s,0,none⟩ (.pointer (some ⟨w.heap.size,0,none⟩))).heap.size=w.heap.size:=by simp
    have w1d:((w.setCell ⟨s,0,none⟩ (.pointer (some ⟨w.heap.size,0,none⟩))).alloc (.cells #[.slice none 0 0] 235)).heap[w.heap.size]? = some (.cells #[.slice none 0 0] 235 (0,0)):=by
      have:=heap_alloc_new (w.setCell ⟨s,0,none⟩ (.pointer (some ⟨w.heap.size,0,none⟩))) (.cells #[.slice none 0 0] 235)
      rw [hsz0] at this
      exact this
    have w1s:((w.setCell ⟨s,0,none⟩ (.pointer (some ⟨w.heap.size,0,none⟩))).alloc (.cells #[.slice none 0 0] 235)).heap[s]? = some (.cells #[.pointer (some ⟨w.heap.size,0,none⟩)] 230 (0,0)):=by
      rw [heap_alloc_old _ _ (by rw [hsz0];exact hlt),heap_set h 0];rfl
    have m1:Mod (InB s) w ((w.setCell ⟨s,0,none⟩ (.pointer (some ⟨w.heap.size,0,none⟩))).alloc (.cells #[.slice none 0 0] 235)):=((Mod.refl (InB s) w).setCell (b:=s) (o:=0) (fun _=>rfl) _).alloc _
    have hsz:((w.setCell ⟨s,0,none⟩ (.pointer (some ⟨w.heap.size,0,none⟩))).alloc (.cells #[.slice none 0 0] 235)).heap.size=w.heap.size+1:=by simp
    have HS:=Lib.hid (fun w2 (e:w2=((w.setCell ⟨s,0,none⟩ (.pointer (some ⟨w.heap.size,0,none⟩))).alloc (.cells #[.slice none 0 0] 235))) =>
      (siNat_any w.heap.size 0 0 n none (fun _=>0) w2 (by rw [e];exact w1d) (.nil _ _) (Nat.le_refl _) (by omega) (by omega) hn hn0 (fun A hA=>by cases hA)).mono (R':=StkNew w s n) (by
        subst e
        rintro e w' ⟨b,c,g,rfl,hA,hc,hc2,hq,hb,hbq,hm⟩
        have hb':w.heap.size+1≤b:=by
          rcases hb with h | h
          · cases h
          · omega
        have hm':Mod (fun k o=>k=w.heap.size) ((w.setCell ⟨s,0,none⟩ (.pointer (some ⟨w.heap.size,0,none⟩))).alloc (.cells #[.slice none 0 0] 235)) w':=hm.mono fun k o _ h=>by
          rcases h with h | ⟨A,hA,_⟩
          · exact h
          · cases hA
        refine ⟨b,n,g,c,rfl,Nat.le_refl _,by have:=r4_ge n;omega,hA,by omega,m1.trans' hm' fun k o hk h=>by omega,.inr ⟨w.heap.size,0+r4 n,c,⟨?_,hq,⟨_,hA⟩,hc,hc2,?_,by omega⟩,by have:=r4_ge n;omega,by have:=r4_le n;omega,Nat.le_refl _⟩⟩
        · rw [hm'.heap (lt_of_heap w1s) (fun o h=>by omega)];exact w1s
        · intro A hA';cases hA';exact ⟨hbq,by show b≠s;omega⟩))
    clear h w1d w1s m1 hsz hsz0
    go_enter Tryz.func155,Tryz.ntmps155
    go_wp2_with fail
    refine (HS.out _ rfl).mono ?_
    rintro e w' hres
    obtain ⟨b,c,g,C,rfl,h1,h2,h3,h4',h5,h6⟩:=hres
    have HR:=Lib.hid (show StkNew w s n (.returned (.slice (some ⟨b,0,none⟩) n c)) w' from ⟨b,c,g,C,rfl,h1,h2,h3,h4',h5,h6⟩)
    clear h1 h2 h3 h4' h5 h6
    go_wp2_with fail
    go_ret
    exact HR.out
def StkMore (w:World) (s q l n:Nat) (a:Option Addr) (e:Ending) (w':World):Prop :=
  ∃ b C g,e=.returned (.slice (some ⟨b,l,none⟩) n n)∧l+n≤C∧Arr w' (some ⟨b,0,none⟩) C g∧(a=some ⟨b,0,none⟩∨w.heap.size≤b)∧Mod (fun k o=>k=q∨(∃ A,a=some A∧A.block=k∧l≤o)) w w'∧StkSome w' s q (some ⟨b,0,none⟩) (l+r4 n) C
set_option maxRecDepth 100000 in
set_option maxHeartbeats 1000000 in
theorem stkNat_some (s q l c n:Nat) (a:Option Addr) (w:World) (h:StkSome w s q a l c) (hl:l≤1000) (hn0:0<n) (hn:n≤100):Calls Tryz.prog 155 #[.pointer (some ⟨s,0,none⟩),.int .i64 (n:Int)] w (StkMore w s q l n a):=by
  have c0:w.cell? ⟨s,0,none⟩=some (.pointer (some ⟨q,0,none⟩)):=(cell?_of_heap h.hs 0).trans rfl
  obtain ⟨f,hA⟩:=h.hA
  have HS:=Lib.hid (fun w2 (e:w2=w)=>(siNat_any q l c n a f w2 (by rw [e];exact h.hq) (by rw [e];exact hA) h.lc h.c63 hl hn hn0 (fun A hA'=>(h.ap A hA').1)).mono (R':=StkMore w s q l n a) (by
    subst e
    rintro e w' ⟨b,c',g,rfl,hA',hc,hc2,hq,hb,hbq,hm⟩
    have hbs:b≠s:=by
      rcases hb with h1 | h1
      · exact (h.ap _ h1).2
      · have:=lt_of_heap h.hs;omega
    refine ⟨b,c',g,rfl,by have:=r4_ge n;omega,hA',hb,hm,⟨?_,hq,⟨_,hA'⟩,hc,hc2,fun A hA => ?_,h.qs⟩⟩
    · rw [hm.heap (lt_of_heap h.hs) (fun o hh=>by
        rcases hh with hh | ⟨A,hA1,hA2,_⟩
        · exact h.qs hh.symm
        · exact (h.ap A hA1).2 hA2)]
      exact h.hs
    · cases hA;exact ⟨hbq,hbs⟩))
  clear h hA
  go_enter Tryz.func155,Tryz.ntmps155
  go_wp2_with fail
  refine (HS.out _ rfl).mono ?_
  rintro e w' ⟨b,C,g,rfl,h1,h2,h3,h4,h5⟩
  have HR:=Lib.hid (show StkMore w s q l n a (.returned (.slice (some ⟨b,l,none⟩) n n)) w' from ⟨b,C,g,rfl,h1,h2,h3,h4,h5⟩)
  clear h1 h2 h3 h4 h5
  go_wp2_with fail
  go_ret
  exact HR.out
end
section
open Go Go.RowKit
def StkPre (w:World) (s N bq bu bv ov nv:Nat):Prop :=
  StkNil w s∨∃ q a l c,StkSome w s q a l c∧N≤q∧(∀ A,a=some A→N≤A.block)∧l≤900∧q≠bq∧q≠bu∧q≠bv∧∀ A,a=some A→A.block≠bq∧A.block≠bu∧(A.block=bv→ov+nv≤l)
structure StkGot (w:World) (s N sv bq bu bv ov nv n bh oh ch CH:Nat) (w1:World):Prop where
  c1:n≤ch
  c2:oh+n≤CH
  arr:∃ g,Arr w1 (some ⟨bh,0,none⟩) CH g
  lo:N≤bh
  ns:bh≠s
  nq:bh≠bq
  nu:bh≠bu
  apv:bh=bv→ov+nv≤oh
  mod:Mod (fun k o=>(k=s∨N≤k)∧k≠bq∧k≠bu∧(k=bv→ov+nv≤o)) w w1
  rst:∀ w2,Mod (fun k o=>k=bq∨k=bu∨k=bh) w1 w2→(∃ g,Arr w2 (some ⟨bh,0,none⟩) CH g)→CallsD Tryz.prog 153 #[.pointer (some ⟨s,0,none⟩),.int .i64 (sv:Int)] .returning w2
    fun e u' w'=>u'=.returning∧(e=.returned (.tuple #[])∧StkIs w' s N∧Mod (fun k o=>N≤k∧k≠bq∧k≠bu) w2 w')
theorem stk_pre (w:World) (s N bq bu bv ov nv n:Nat) (hS:StkPre w s N bq bu bv ov nv) (hn0:0<n) (hn:n≤100) (hN:N≤w.heap.size) (hsq:s≠bq) (hsu:s≠bu) (hsv:s≠bv) (hq:bq<w.heap.size) (hu:bu<w.heap.size) (hv:bv<w.heap.size) :
    ∃ sv:Nat,(Calls Tryz.prog 154 #[.pointer (some ⟨s,0,none⟩)] w fun e w'=>e=.returned (.int .i64 (sv:Int))∧w'=w) ∧
      Calls Tryz.prog 155 #[.pointer (some ⟨s,0,none⟩),.int .i64 (n:Int)] w fun e w1=>∃ bh oh ch CH,e=.returned (.slice (some ⟨bh,oh,none⟩) n ch)∧StkGot w s N sv bq bu bv ov nv n bh oh ch CH w1:=by
  rcases hS with h | ⟨q,a,l,c,h,h1,h2,h3,h4,h5,h6,h7⟩
  · refine ⟨0,save_nil s w h,(stkNat_nil s n w h hn0 hn).mono ?_⟩
    rintro e w1 ⟨b,cc,g,C,rfl,k1,k2,k3,k4,k5,k6⟩
    refine ⟨b,0,cc,C,rfl,k1,by omega,⟨g,k3⟩,by omega,by have:=lt_of_heap h;omega,by omega,by omega,fun e=>by omega,k5.mono fun k o hk hh => ?_,?_⟩
    · unfold InB at hh;subst hh;exact ⟨.inl rfl,hsq,hsu,fun e=>absurd e hsv⟩
    · intro w2 m2 hA2
      rcases k6 with k6 | ⟨q,l,c2,k6,k7,k8,k9⟩
      · have hs2:=k6.mod m2 (fun o hh=>by rcases hh with hh | hh | hh;exact hsq hh;exact hsu hh;have:=lt_of_heap h;omega)
        refine (restoreD_nil s _ .returning w2 hs2).mono ?_
        rintro e u' w' ⟨rfl,rfl,rfl⟩
        exact ⟨rfl,rfl,.inl hs2,.refl _ _⟩
      · have hs2:=k6.mod m2 (fun o hh=>by rcases hh with hh | hh | hh;exact hsq hh;exact hsu hh;have:=lt_of_heap h;omega) (fun o hh=>by rcases hh with hh | hh | hh;omega;omega;exact (k6.ap _ rfl).1 hh.symm) (by
          obtain ⟨f1,hf1⟩:=k6.hA
          obtain ⟨g2,hg2⟩:=hA2
          rcases hf1 with ⟨e1,_⟩ | ⟨b1,C1,t1,e1,hb1,hs1,hc1⟩
          · cases e1
          · obtain rfl:b=b1:=by simpa using e1
            rcases k3 with ⟨e2,_⟩ | ⟨b2,C2,t2,e2,hb2,hs2',hc2⟩
            · cases e2
            · obtain rfl:b=b2:=by simpa using e2
              rw [hb1] at hb2
              obtain ⟨rfl,_⟩:C1=C2∧t1=t2:=by simpa using hb2
              exact ⟨g2,by rw [← hs1.1,hs2'.1];exact hg2⟩)
        refine (restoreD_some s q l c2 0 _ .returning w2 hs2 (by omega)).mono ?_
        rintro e u' w' ⟨rfl,rfl,rfl⟩
        refine ⟨rfl,rfl,.inr ⟨q,_,0,c2,hs2.cut (by omega),by omega,fun A hA=>by cases hA;show N≤b;omega⟩,(mod_own w2 q 0 _).mono fun k o hk hh => ?_⟩
        unfold InB at hh;subst hh;exact ⟨by omega,by omega,by omega⟩
  · refine ⟨l,save_some s q l c a w h,(stkNat_some s q l c n a w h (by omega) hn0 hn).mono ?_⟩
    rintro e w1 ⟨b,C,g,rfl,k1,k2,k3,k4,k5⟩
    have hbq:b≠bq∧b≠bu∧(b=bv→ov+nv≤l)∧N≤b:=by
      rcases k3 with k3 | k3
      · exact ⟨(h7 _ k3).1,(h7 _ k3).2.1,(h7 _ k3).2.2,h2 _ k3⟩
      · exact ⟨by omega,by omega,fun e=>by omega,by omega⟩
    refine ⟨b,l,n,C,rfl,Nat.le_refl _,k1,⟨g,k2⟩,hbq.2.2.2,(k5.ap _ rfl).2,hbq.1,hbq.2.1,hbq.2.2.1,k4.mono fun k o hk hh => ?_,?_⟩
    · rcases hh with rfl | ⟨A,hA,rfl,hl⟩
      · exact ⟨.inr h1,h4,h5,fun e=>absurd e h6⟩
      · exact ⟨.inr (h2 A hA),(h7 A hA).1,(h7 A hA).2.1,fun e=>by have:=(h7 A hA).2.2 e;omega⟩
    · intro w2 m2 hA2
      have hs2:=k5.mod m2 (fun o hh=>by rcases hh with hh | hh | hh;exact hsq hh;exact hsu hh;exact (k5.ap _ rfl).2 hh.symm) (fun o hh=>by rcases hh with hh | hh | hh;exact h4 hh;exact h5 hh;exact (k5.ap _ rfl).1 hh.symm) hA2
      have hlc:=k5.lc
      refine (restoreD_some s q _ C l _ .returning w2 hs2 (by omega)).mono ?_
      rintro e u' w' ⟨rfl,rfl,rfl⟩
      refine ⟨rfl,rfl,.inr ⟨q,_,l,C,hs2.cut (by omega),h1,fun A hA=>by cases hA;exact hbq.2.2.2⟩,(mod_own w2 q 0 _).mono fun k o hk hh => ?_⟩
      unfold InB at hh;subst hh;exact ⟨h1,h4,h5⟩
end
end Go.Proofs.YtpfmbfkhjapbbaaGreatDoor
