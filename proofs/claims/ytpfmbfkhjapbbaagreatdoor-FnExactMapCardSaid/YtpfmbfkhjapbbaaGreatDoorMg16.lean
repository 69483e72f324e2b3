/-
  big's nat.bytes, Int.FillBytes: a number's bytes, the highest first. Conditions: the row is as long as the array that holds it, at most 100000 bytes, and the number fits; the row lies apart from the number's words.
  The specification's halved: half of a number modulo an odd one. Condition: the modulus is at most half of 2^576.
  Numbers of nine words held against each other. No condition.
  The specification's power: powers modulo a number, by bits. Condition: the modulus is at most half of 2^576.
-/
import Derived.Test.YtpfmbfkhjapbbaaGreatDoorMg02
import Derived.Test.YtpfmbfkhjapbbaaGreatDoorMg07
import Derived.Test.YtpfmbfkhjapbbaaGreatDoorMSpecB
import Derived.Test.YtpfmbfkhjapbbaaGreatDoorMg14
import Derived.Laws.StructEq
import Derived.Laws.Cover2
set_option linter.unusedVariables false
set_option linter.unusedSimpArgs false
namespace Go.Proofs.YtpfmbfkhjapbbaaGreatDoor
section
open Go Go.RowKit
def gB (L v T p:Nat):Nat:=if L≤p+T then byteAt L v p else 0
theorem gB_step (L v T:Nat) (h:T<L) (p:Nat):gB L v (T+1) p=if p=L - 1 - T then v/256^T%256 else gB L v T p:=by
  unfold gB
  by_cases e:p=L - 1 - T
  · rw [if_pos e,if_pos (by omega)]
    unfold byteAt
    rw [show L - 1 - p=T by omega]
  · rw [if_neg e]
    by_cases h2:L≤p+T
    · rw [if_pos h2,if_pos (by omega)]
    · rw [if_neg h2,if_neg (by omega)]
theorem byte_of_word (f:Nat→Nat) (n:Nat) (hf:∀ j,j<n→f j<B64) {k j:Nat} (hk:k<n) (hj:j<8):f k/256^j%256=val f n/256^(8*k+j)%256:=by
  rw [val_byte f n hf _ (by omega)]
  unfold byteW
  rw [show (8*k+j)/8=k by omega,show (8*k+j)%8=j by omega,Nat.pow_mul]
set_option maxRecDepth 100000 in
set_option maxHeartbeats 2000000 in
theorem natBytes_any (ax:Option Addr) (n c v bb L:Nat) (f:Nat→Nat) (w:World) (hX:NatIs w ax n c f v) (hn:n≤100000) (hB:BArr w (some ⟨bb,0,none⟩) L (fun _=>0)) (hL:L≤100000) (hv:v<256^L) (hne:¬ BlkOf ax bb 0) :
    Calls Tryz.prog 77 #[.slice ax n c,.slice (some ⟨bb,0,none⟩) L L] w fun e w'=>(∃ i:Nat,e=.returned (.int .i64 (i:Int)))∧BArr w' (some ⟨bb,0,none⟩) L (byteAt L v)∧Mod (InB bb) w w':=by
  have HX:=Lib.hid hX
  have hle:=hX.le
  have hzero:∀ T,L≤T→v/256^T%256=0:=fun T hT=>by
    rw [Nat.div_eq_of_lt (Nat.lt_of_lt_of_le hv (Nat.pow_le_pow_right (by omega) hT))]
  have hend:∀ p,p<L→byteAt L v p=gB L v (8*n) p:=fun p hp=>by
    unfold gB
    by_cases h:L≤p+8*n
    · rw [if_pos h]
    · rw [if_neg h]
      unfold byteAt
      have h1:=hX.lt
      rw [show B64=256^8 from rfl,← Nat.pow_mul] at h1
      rw [Nat.div_eq_of_lt (Nat.lt_of_lt_of_le h1 (Nat.pow_le_pow_right (by omega) (by omega)))]
  have HZ:=Lib.hid hzero
  have HE:=Lib.hid hend
  have hword:=fun k (hk:k<n)=>hX.arr.words k (by omega)
  have hbyte:∀ k j,k<n→j<8→f k/256^j%256=v/256^(8*k+j)%256:=fun k j hk hj=>by
    rw [← hX.val];exact byte_of_word f n (fun j hj=>hword j hj) hk hj
  have HW:=Lib.hid hword
  have HBY:=Lib.hid hbyte
  have HB:=Lib.hid hB
  have HXM:Hid (∀ wr,Mod (InB bb) w wr→NatIs wr ax n c f v):=fun wr m=>hX.mod m fun A hA o h=>hne ⟨A,hA,h⟩
  clear hX hzero hend hword hbyte hB hv hne
  go_enter Tryz.func77,Tryz.ntmps77
  go_wp2_with fail
  go_loopw [12,4] (fun k i wr=>∃ K:Nat,K≤n∧k=.int .i64 (K:Int)∧i=.int .i64 ((L:Int) - ((8*K:Nat):Int))∧Hid (BArr wr (some ⟨bb,0,none⟩) L (gB L v (8*K))∧Mod (InB bb) w wr)) (fun k _ _=>n - (intOf k).toNat)
  case atStart=>exact ⟨0,by omega,rfl,by simp,HB.out.congrB fun p hp=>by unfold gB;rw [if_neg (by omega)],.refl _ _⟩
  case round =>
    obtain ⟨K,hK,rfl,rfl,hinv⟩:=hrel
    by_cases hlt:K<n
    · have hN:=HXM.out _ hinv.out.2
      obtain ⟨b,rfl⟩:=hN.arr.form (by omega)
      have hcK:=(hN.arr.vec K (by omega)).1
      rw [Nat.zero_add] at hcK
      have hwK:=HW.out K hlt
      clear hN
      go_wp2_with fail
      go_loopw [7,4,6] (fun j i d wr=>∃ (J:Nat) (I:Int),J≤8∧j=.int .i64 (J:Int)∧i=.int .i64 I∧Hid (I+((8*K+J:Nat):Int)=(L:Int))∧d=U (f K/256^J)∧Hid (BArr wr (some ⟨bb,0,none⟩) L (gB L v (8*K+J))∧Mod (InB bb) w wr)) (fun j _ _ _=>8 - (intOf j).toNat)
      case atStart=>exact ⟨0,_,by omega,rfl,rfl,by show _=_;simp,by simp,hinv⟩
      case round =>
        obtain ⟨J,I,hJ,rfl,rfl,hI,rfl,hin2⟩:=hrel
        rcases Nat.lt_or_eq_of_le hJ with hJ8 | rfl
        · have hb:=HBY.out K J hlt hJ8
          have hxl:f K/256^J<B64:=Nat.lt_of_le_of_lt (Nat.div_le_self _ _) hwK
          have hnext:f K/256^(J+1)=f K/256^J/256:=by rw [Nat.pow_succ,Nat.div_div_eq_div_mul]
          have HBJ:=Lib.hid hb
          have HNX:=Lib.hid hnext
          clear hb hnext
          generalize hx:f K/256^J=x at *
          have hw8:IntKind.u8.wrap (x:Int)=((x%256:Nat):Int):=by rw [IntKind.wrap_u8];omega
          by_cases hTL:8*K+J<L
          · obtain ⟨q,hq⟩:∃ q:Nat,q=L - 1 - (8*K+J):=⟨_,rfl⟩
            obtain rfl:I=((q+1:Nat):Int):=by have:=hI.out;omega
            have hqL:q<L:=by omega
            obtain ⟨hcq,hfq⟩:=hin2.out.1.cell hqL
            have HQ:=Lib.hid hq
            have HIN:=Lib.hid hin2.out
            clear hin2 hq hx
            go_wp2_with fail
            go_roundw
            case rel =>
              refine ⟨J+1,_,by omega,by go_num,rfl,by show _=_;have:=HQ.out;omega,?_,?_⟩
              · rw [HNX.out];show Value.int .u64 ((x:Int)/256)=Value.int .u64 ((x/256:Nat):Int);congr 1
              · have hst:=HIN.out.1.store hqL (x%256)
                refine ⟨hst.1.congrB fun p hp => ?_,HIN.out.2.setCell (fun _=>rfl) _⟩
                rw [show 8*K+(J+1)=8*K+J+1 by omega,gB_step L v _ hTL,HBJ.out,HQ.out]
            case measure=>simp [intOf];omega
          · have hz:x%256=0:=by rw [HBJ.out];exact HZ.out _ (by omega)
            rw [hz] at hw8
            have hI1:I≤0:=by have:=hI.out;omega
            have hI2 : -1000000≤I:=by have:=hI.out;omega
            have HIN:=Lib.hid hin2.out
            clear hin2 hz hx
            go_wp2_with fail
            go_roundw
            case rel =>
              refine ⟨J+1,_,by omega,by go_num,rfl,by show _=_;have:=hI.out;omega,?_,?_,HIN.out.2⟩
              · rw [HNX.out];show Value.int .u64 ((x:Int)/256)=Value.int .u64 ((x/256:Nat):Int);congr 1
              · refine HIN.out.1.congrB fun p hp => ?_
                unfold gB
                rw [if_pos (by omega),if_pos (by omega)]
            case measure=>simp [intOf];omega
        · go_wp2_with fail
          go_roundw
          case rel=>exact ⟨K+1,by omega,by go_num,by congr 1;have:=hI.out;omega,hin2⟩
          case measure=>simp [intOf];omega
    · obtain rfl:K=n:=by omega
      have d1:decide ((K:Int)<(K:Int))=false:=decide_eq_false (by omega)
      have hA:=hinv.out.1.congrB HE.out
      have HA:=Lib.hid hA
      have HM:=Lib.hid hinv.out.2
      clear hinv hA
      have hcell:=fun p (hp:p<L)=>(HA.out.cell hp).1
      have HC:=Lib.hid hcell
      clear hcell
      obtain ⟨g,hg⟩:∃ g,g=byteAt L v:=⟨_,rfl⟩
      rw [← hg] at HA HC
      have HG:=Lib.hid hg
      clear hg
      by_cases hneg:L<8*K
      · have d2:decide ((L:Int) - (8*(K:Int))<0)=true:=decide_eq_true (by omega)
        go_wp2_with fail
        go_loop [4] (fun i=>∃ p:Nat,p≤L∧i=.int .i64 (p:Int)) (fun i=>L - (intOf i).toNat)
        case atStart=>exact ⟨0,by omega,rfl⟩
        case round =>
          obtain ⟨p,hp,rfl⟩:=hrel
          by_cases hpL:p<L
          · have hcp:=HC.out p hpL
            generalize g p=y at hcp
            by_cases hy:y=0
            · subst hy
              go_wp2_with fail
              go_round
              case rel=>exact ⟨p+1,by omega,by go_num⟩
              case measure=>simp [intOf];omega
            · have hy0:(((y:Nat):Int) == 0)=false:=by simp;omega
              go_wp2_with fail
              go_ret
              exact ⟨⟨p,rfl⟩,by rw [← HG.out];exact HA.out,HM.out⟩
          · obtain rfl:p=L:=by omega
            go_wp2_with fail
            go_ret
            exact ⟨⟨p,rfl⟩,by rw [← HG.out];exact HA.out,HM.out⟩
      · have d2:decide ((L:Int) - (8*(K:Int))<0)=false:=decide_eq_false (by omega)
        have hq:∃ q:Nat,q≤L∧(L:Int) - ((8*K:Nat):Int)=(q:Int):=⟨L - 8*K,by omega,by omega⟩
        obtain ⟨q,hqL,hqe⟩:=hq
        have d3:decide ((q:Int)<0)=false:=decide_eq_false (by omega)
        rw [hqe]
        clear hqe d2
        go_wp2_with fail
        go_loop [4] (fun i=>∃ p:Nat,p≤L∧i=.int .i64 (p:Int)) (fun i=>L - (intOf i).toNat)
        case atStart=>exact ⟨q,hqL,rfl⟩
        case round =>
          obtain ⟨p,hp,rfl⟩:=hrel
          by_cases hpL:p<L
          · have hcp:=HC.out p hpL
            generalize g p=y at hcp
            by_cases hy:y=0
            · subst hy
              go_wp2_with fail
              go_round
              case rel=>exact ⟨p+1,by omega,by go_num⟩
              case measure=>simp [intOf];omega
            · have hy0:(((y:Nat):Int) == 0)=false:=by simp;omega
              go_wp2_with fail
              go_ret
              exact ⟨⟨p,rfl⟩,by rw [← HG.out];exact HA.out,HM.out⟩
          · obtain rfl:p=L:=by omega
            go_wp2_with fail
            go_ret
            exact ⟨⟨p,rfl⟩,by rw [← HG.out];exact HA.out,HM.out⟩
set_option maxHeartbeats 400000 in
theorem fillBytes_any (p n c v bb L:Nat) (neg:Bool) (ax:Option Addr) (f g:Nat→Nat) (w:World) (hI:IntIs w p neg ax n c f v) (hn:n≤100000) (hB:BArr w (some ⟨bb,0,none⟩) L g) (hL:L≤100000) (hL0:0<L) (hv:v<256^L) (hne:¬ BlkOf ax bb 0) (hpb:p≠bb) :
    Calls Tryz.prog 57 #[.pointer (some ⟨p,0,none⟩),.slice (some ⟨bb,0,none⟩) L L] w fun e w'=>e=.returned (.slice (some ⟨bb,0,none⟩) L L)∧BArr w' (some ⟨bb,0,none⟩) L (byteAt L v)∧Mod (InB bb) w w':=by
  obtain ⟨w1,hcl,hB1,m1⟩:=clear_run w 0 bb 0 L L L g hB (by omega) hL0
  have hI1:=hI.mod m1 (fun o h=>hpb h) (fun A hA o h=>hne ⟨A,hA,h⟩)
  have c1:=hI1.c1
  have HB:=Lib.hid (natBytes_any ax n c v bb L f w1 hI1.num hn (hB1.congrB fun j hj=>by unfold over;rw [if_pos (by omega)]) hL hv hne)
  have M1:=Lib.hid m1
  clear hI hI1 hB hB1 m1
  go_enter Tryz.func57,Tryz.ntmps57
  go_wp2_with (simp only [hcl])
  refine HB.out.mono ?_
  rintro e w2 ⟨⟨i,rfl⟩,h1,h2⟩
  have H1:=Lib.hid h1
  clear h1
  go_wp2_with fail
  go_ret
  exact ⟨rfl,H1.out,M1.out.trans h2⟩
end
section
open Go Go.RowKit
theorem val_mod2 (f:Nat→Nat):∀ n,0<n→val f n%2=f 0%2
  | 1,_=>by simp [val]
  | n+2,_=>by
    have ih:=val_mod2 f (n+1) (by omega)
    show (val f (n+1)+f (n+1)*B64^(n+1))%2=_
    have h:B64^(n+1)=2*(9223372036854775808*B64^n):=by rw [Nat.pow_succ,show B64=2*9223372036854775808 from rfl];ac_rfl
    rw [h,show f (n+1)*(2*(9223372036854775808*B64^n))=2*(f (n+1)*(9223372036854775808*B64^n)) by ac_rfl,Nat.add_mul_mod_self_left]
    exact ih
set_option maxRecDepth 100000 in
set_option maxHeartbeats 2000000 in
theorem halved_any (f m:Nat→Nat) (hf:∀ j,j<9→f j<B64) (hm:∀ j,j<9→m j<B64) (hfm:val f 9<val m 9) (h2:2*val m 9≤B64^9) (w:World) :
    Calls Tryz.prog 64 #[nv f,nv m] w (NRet (halvedN (val f 9) (val m 9)) w):=by
  have HS:=Lib.hid (fun w1=>sum_any f m hf hm w1)
  have hsw:∀ j,j<9→addW f m j<B64:=fun j hj=>wAdd_lt _ _ _
  have HH:=Lib.hid (fun w1=>half_any f hf w1)
  have HH2:=Lib.hid (fun w1=>half_any (addW f m) hsw w1)
  rw [sum_val9 hf hm (by omega)] at HH2
  have hpar:=val_mod2 f 9 (by omega)
  have HE:=Lib.hid (show f 0%2=0→val f 9/2=halvedN (val f 9) (val m 9) from fun h=>by unfold halvedN;rw [if_pos (by omega)])
  have HO:=Lib.hid (show f 0%2=1→(val f 9+val m 9)/2=halvedN (val f 9) (val m 9) from fun h=>by unfold halvedN;rw [if_neg (by omega)])
  generalize halvedN (val f 9) (val m 9)=r at *
  clear hpar hfm h2 hsw
  generalize addW f m=sm at *
  go_enter Tryz.func64,Tryz.ntmps64
  go_upto_region 1 with fail
  obtain ⟨k1,k2,k3,mm⟩:=three_new w (.cells (nc f) 63 (0,0)) (.cells (nc m) 63 (0,0)) zN
  generalize hw4:((w.alloc (.cells (nc f) 63 (0,0))).alloc (.cells (nc m) 63 (0,0))).alloc zN=w4 at *
  clear hw4
  have v1:NIs w4 w.heap.size f:=k1
  have v2:NIs w4 (w.heap.size+1) m:=k2
  have v3:NIs w4 (w.heap.size+1+1) (fun _=>0):=k3
  clear k1 k2 k3
  generalize hb0:w.heap.size=b0 at *
  generalize hb1:b0+1=b1 at *
  generalize hb2:b1+1=b2 at *
  obtain ⟨a0,a1,a2,a3,a4,a5,a6,a7,a8⟩:=v1.nine
  obtain ⟨c0,c1,c2,c3,c4,c5,c6,c7,c8⟩:=v2.nine
  have hl0:=hf 0 (by omega)
  have hp:f 0%2=0∨f 0%2=1:=by omega
  rcases hp with hp | hp
  · have hpb:((f 0:Int)%2 == 0)=true:=by simp;omega
    have HR:=Lib.hid (HE.out hp)
    clear HO HE HS HH2 hp
    go_wp2_with fail
    refine (HH.out _).mono ?_
    rintro e w5 ⟨h,rfl,hh,hv,m5⟩
    have HV:=Lib.hid (hv.trans HR.out)
    have HM:=Lib.hid (mm.trans m5)
    have n5:=v3.mod m5 (fun _ h=>h)
    obtain ⟨d0,d1,d2,d3,d4,d5,d6,d7,d8⟩:=n5.nine
    obtain ⟨q0,q1,q2,q3,q4,q5,q6,q7,q8⟩:=n5.free
    clear a0 a1 a2 a3 a4 a5 a6 a7 a8 c0 c1 c2 c3 c4 c5 c6 c7 c8 v1 v2 v3 n5 m5 hv mm HH hpb
    go_wp2_with fail
    refine bodyPost_ret (v:=nv h) (by simp [results,Tryz.results64,go_sem, *]) rfl (NRet.mk' h hh HV.out ?_)
    exact setNine_mod HM.out (fun _ hh=>by omega) (fun j=>U (h j))
  · have hpb:((f 0:Int)%2 == 0)=false:=by simp;omega
    have HR:=Lib.hid (HO.out hp)
    clear HO HE HH hp
    go_wp2_with fail
    refine (HS.out _).mono ?_
    rintro e w5 ⟨rfl,m5⟩
    have HM:=Lib.hid (mm.trans m5)
    have n5:=v3.mod m5 (fun _ h=>h)
    clear a0 a1 a2 a3 a4 a5 a6 a7 a8 c0 c1 c2 c3 c4 c5 c6 c7 c8 v1 v2 v3 m5 mm hpb HS
    go_wp2_with fail
    refine (HH2.out _).mono ?_
    rintro e w6 ⟨h,rfl,hh,hv,m6⟩
    have HV:=Lib.hid (hv.trans HR.out)
    have HM2:=Lib.hid (HM.out.trans m6)
    have n6:=n5.mod m6 (fun _ h=>h)
    obtain ⟨d0,d1,d2,d3,d4,d5,d6,d7,d8⟩:=n6.nine
    obtain ⟨q0,q1,q2,q3,q4,q5,q6,q7,q8⟩:=n6.free
    clear n5 n6 m6 hv HH2
    go_wp2_with fail
    refine bodyPost_ret (v:=nv h) (by simp [results,Tryz.results64,go_sem, *]) rfl (NRet.mk' h hh HV.out ?_)
    exact setNine_mod HM2.out (fun _ hh=>by omega) (fun j=>U (h j))
end
section
open Go Go.RowKit
theorem part31 (xs:Array Value) (i:Nat) (w:World) (v:Value) (h:xs[i]? = some v):(part 31 xs i).run Tryz.prog w=.ok v w:=by
  have ha:∀ w,(isAgg 31).run Tryz.prog w=.ok false w:=fun w=>by kernel_rfl
  simp [part,ha,h]
theorem eqU (d:Nat) (a b:Nat) (w:World):(Op.equalIn (d+1) 31 (U a) (U b)).run Tryz.prog w=.ok (a == b) w:=by
  have e:((a:Int) == (b:Int))=(a == b):=by
    by_cases h:a=b
    · subst h;simp
    · rw [beq_eq_false_iff_ne.2 h,beq_eq_false_iff_ne.2 (by omega)]
  rw [run_equalIn_int w d 31 .u64 .u64 _ _ Tryz.underlying31,e]
set_option maxHeartbeats 1000000 in
theorem eqN_in (f g:Nat→Nat) (w:World):(Op.equalIn 10000 63 (nv f) (nv g)).run Tryz.prog w=.ok (f 0 == g 0 && (f 1 == g 1 && (f 2 == g 2 && (f 3 == g 3 && (f 4 == g 4 && (f 5 == g 5 && (f 6 == g 6 && (f 7 == g 7 && f 8 == g 8)))))))) w:=by
  have z:∀ w,(sizeOf 31).run Tryz.prog w=.ok 1 w:=fun w=>by kernel_rfl
  have p:∀ (h:Nat→Nat) (i:Nat) (w:World),i<9→(part 31 (nc h) i).run Tryz.prog w=.ok (U (h i)) w:=fun h i w hi=>part31 _ i w _ (nc_at h i hi)
  have p0:=fun h w=>p h 0 w (by decide)
  have p1:=fun h w=>p h 1 w (by decide)
  have p2:=fun h w=>p h 2 w (by decide)
  have p3:=fun h w=>p h 3 w (by decide)
  have p4:=fun h w=>p h 4 w (by decide)
  have p5:=fun h w=>p h 5 w (by decide)
  have p6:=fun h w=>p h 6 w (by decide)
  have p7:=fun h w=>p h 7 w (by decide)
  have p8:=fun h w=>p h 8 w (by decide)
  have q:=fun (a b:Nat) (w:World)=>eqU 9998 a b w
  rw [show (10000:Nat)=9999+1 from rfl,Op.equalIn]
  simp only [Sem.run_bind,run_underlying Tryz.underlying63,Result.andThen_ok]
  simp only [Std.Legacy.Range.forIn_eq_forIn_range',Std.Legacy.Range.size,Nat.sub_zero,Nat.add_sub_cancel,Nat.div_one,List.range'_succ,List.range'_zero,List.forIn_cons,List.forIn_nil]
  simp only [Sem.run_bind,z,Result.andThen_ok,Nat.zero_mul,Nat.zero_add,Nat.one_mul,Nat.mul_one,Nat.reduceAdd,Nat.reduceMul,Nat.reduceDiv,Nat.reduceSub]
  clear p
  simp only [p0,q,Sem.run_bind,Sem.run_pure,Result.andThen_ok,Bool.not_true,Bool.not_false,Bool.false_eq_true,if_true,if_false,Bool.true_and,Bool.false_and,pure_bind]
  cases hb0:f 0 == g 0
  · simp only [Sem.run_bind,Sem.run_pure,Result.andThen_ok,Bool.not_true,Bool.not_false,Bool.false_eq_true,if_true,if_false,Bool.true_and,Bool.false_and,pure_bind]
  simp only [p1,q,Sem.run_bind,Sem.run_pure,Result.andThen_ok,Bool.not_true,Bool.not_false,Bool.false_eq_true,if_true,if_false,Bool.true_and,Bool.false_and,pure_bind]
  cases hb1:f 1 == g 1
  · simp only [Sem.run_bind,Sem.run_pure,Result.andThen_ok,Bool.not_true,Bool.not_false,Bool.false_eq_true,if_true,if_false,Bool.true_and,Bool.false_and,pure_bind]
  simp only [p2,q,Sem.run_bind,Sem.run_pure,Result.andThen_ok,Bool.not_true,Bool.not_false,Bool.false_eq_true,if_true,if_false,Bool.true_and,Bool.false_and,pure_bind]
  cases hb2:f 2 == g 2
  · simp only [Sem.run_bind,Sem.run_pure,Result.andThen_ok,Bool.not_true,Bool.not_false,Bool.false_eq_true,if_true,if_false,Bool.true_and,Bool.false_and,pure_bind]
  simp only [p3,q,Sem.run_bind,Sem.run_pure,Result.andThen_ok,Bool.not_true,Bool.not_false,Bool.false_eq_true,if_true,if_false,Bool.true_and,Bool.false_and,pure_bind]
  cases hb3:f 3 == g 3
  · simp only [Sem.run_bind,Sem.run_pure,Result.andThen_ok,Bool.not_true,Bool.not_false,Bool.false_eq_true,if_true,if_false,Bool.true_and,Bool.false_and,pure_bind]
  simp only [p4,q,Sem.run_bind,Sem.run_pure,Result.andThen_ok,Bool.not_true,Bool.not_false,Bool.false_eq_true,if_true,if_false,Bool.true_and,Bool.false_and,pure_bind]
  cases hb4:f 4 == g 4
  · simp only [Sem.run_bind,Sem.run_pure,Result.andThen_ok,Bool.not_true,Bool.not_false,Bool.false_eq_true,if_true,if_false,Bool.true_and,Bool.false_and,pure_bind]
  simp only [p5,q,Sem.run_bind,Sem.run_pure,Result.andThen_ok,Bool.not_true,Bool.not_false,Bool.false_eq_true,if_true,if_false,Bool.true_and,Bool.false_and,pure_bind]
  cases hb5:f 5 == g 5
  · simp only [Sem.run_bind,Sem.run_pure,Result.andThen_ok,Bool.not_true,Bool.not_false,Bool.false_eq_true,if_true,if_false,Bool.true_and,Bool.false_and,pure_bind]
  simp only [p6,q,Sem.run_bind,Sem.run_pure,Result.andThen_ok,Bool.not_true,Bool.not_false,Bool.false_eq_true,if_true,if_false,Bool.true_and,Bool.false_and,pure_bind]
  cases hb6:f 6 == g 6
  · simp only [Sem.run_bind,Sem.run_pure,Result.andThen_ok,Bool.not_true,Bool.not_false,Bool.false_eq_true,if_true,if_false,Bool.true_and,Bool.false_and,pure_bind]
  simp only [p7,q,Sem.run_bind,Sem.run_pure,Result.andThen_ok,Bool.not_true,Bool.not_false,Bool.false_eq_true,if_true,if_false,Bool.true_and,Bool.false_and,pure_bind]
  cases hb7:f 7 == g 7
  · simp only [Sem.run_bind,Sem.run_pure,Result.andThen_ok,Bool.not_true,Bool.not_false,Bool.false_eq_true,if_true,if_false,Bool.true_and,Bool.false_and,pure_bind]
  simp only [p8,q,Sem.run_bind,Sem.run_pure,Result.andThen_ok,Bool.not_true,Bool.not_false,Bool.false_eq_true,if_true,if_false,Bool.true_and,Bool.false_and,pure_bind]
  cases hb8:f 8 == g 8
  · simp only [Sem.run_bind,Sem.run_pure,Result.andThen_ok,Bool.not_true,Bool.not_false,Bool.false_eq_true,if_true,if_false,Bool.true_and,Bool.false_and,pure_bind]
  simp only [Sem.run_bind,Sem.run_pure,Result.andThen_ok,Bool.not_true,Bool.not_false,Bool.false_eq_true,if_true,if_false,Bool.true_and,Bool.false_and,pure_bind]
theorem words_val {f g:Nat→Nat}:∀ n,(∀ j,j<n→f j<B64)→(∀ j,j<n→g j<B64)→val f n=val g n→∀ j,j<n→f j=g j
  | 0,_,_,_,j,hj=>by omega
  | n+1,hf,hg,h,j,hj=>by
    have h1:val f n<B64^n:=val_lt fun j hj=>hf j (by omega)
    have h2:val g n<B64^n:=val_lt fun j hj=>hg j (by omega)
    have h3:val f n+f n*B64^n=val g n+g n*B64^n:=h
    have e:f n=g n:=by
      rcases Nat.lt_trichotomy (f n) (g n) with hl | hl | hl
      · have:=Nat.mul_le_mul_right (B64^n) (show f n+1≤g n from hl)
        rw [Nat.add_mul,Nat.one_mul] at this
        omega
      · exact hl
      · have:=Nat.mul_le_mul_right (B64^n) (show g n+1≤f n from hl)
        rw [Nat.add_mul,Nat.one_mul] at this
        omega
    rw [e] at h3
    by_cases hjn:j=n
    · rw [hjn];exact e
    · exact words_val n (fun j hj=>hf j (by omega)) (fun j hj=>hg j (by omega)) (by omega) j (by omega)
theorem alike_iff {f g:Nat→Nat} (hf:∀ j,j<9→f j<B64) (hg:∀ j,j<9→g j<B64) :
    (f 0 == g 0 && (f 1 == g 1 && (f 2 == g 2 && (f 3 == g 3 && (f 4 == g 4 && (f 5 == g 5 && (f 6 == g 6 && (f 7 == g 7 && f 8 == g 8))))))))=decide (val f 9=val g 9):=by
  by_cases h:val f 9=val g 9
  · rw [decide_eq_true h]
    have hw:=words_val 9 hf hg h
    simp only [Bool.and_eq_true,beq_iff_eq]
    exact ⟨hw 0 (by omega),hw 1 (by omega),hw 2 (by omega),hw 3 (by omega),hw 4 (by omega),hw 5 (by omega),hw 6 (by omega),hw 7 (by omega),hw 8 (by omega)⟩
  · rw [decide_eq_false h,Bool.eq_false_iff]
    intro hh
    simp only [Bool.and_eq_true,beq_iff_eq] at hh
    obtain ⟨h0,h1,h2,h3,h4,h5,h6,h7,h8⟩:=hh
    exact h (by simp only [val,h0,h1,h2,h3,h4,h5,h6,h7,h8])
theorem eqN_run (f g:Nat→Nat) (hf:∀ j,j<9→f j<B64) (hg:∀ j,j<9→g j<B64) (w:World):(binOp .eql 63 (nv f) (nv g)).run Tryz.prog w=.ok (.bool (decide (val f 9=val g 9))) w:=by
  rw [run_eql_struct,eqN_in,alike_iff hf hg];rfl
theorem neN_run (f g:Nat→Nat) (hf:∀ j,j<9→f j<B64) (hg:∀ j,j<9→g j<B64) (w:World):(binOp .neq 63 (nv f) (nv g)).run Tryz.prog w=.ok (.bool (!decide (val f 9=val g 9))) w:=by
  rw [run_neq_struct,eqN_in,alike_iff hf hg];rfl
end
section
open Go Go.RowKit
set_option maxRecDepth 100000 in
set_option maxHeartbeats 4000000 in
theorem power_any (f g m:Nat→Nat) (hf:∀ j,j<9→f j<B64) (hg:∀ j,j<9→g j<B64) (hm:∀ j,j<9→m j<B64) (hfm:val f 9<val m 9) (hm1:1<val m 9) (h2:2*val m 9≤B64^9) (w:World) :
    Calls Tryz.prog 82 #[nv f,nv g,nv m] w (NRet (val f 9^val g 9%val m 9) w):=by
  have hM0:0<val m 9:=by omega
  have HTOP:=Lib.hid (fun w1=>top_any g hg w1)
  have HOP:=Lib.hid (fun (h:Nat→Nat) (hh:∀ j,j<9→h j<B64) (hv:val h 9<val m 9) w1=>mul9_any h h m hh hh hm hv h2 w1)
  have HOA:=Lib.hid (fun (h:Nat→Nat) (hh:∀ j,j<9→h j<B64) (hv:val h 9<val m 9) w1=>mul9_any h f m hh hf hm hv h2 w1)
  have HBIT:=Lib.hid (fun t (ht:t<576) w1=>bitAt_any g hg t ht w1)
  obtain ⟨on,hon⟩:∃ on:Nat→Nat,on=fun j=>if j=0 then 1 else 0:=⟨_,rfl⟩
  have hsm:=fun w1=>small_any 1 w1
  rw [← hon] at hsm
  have HSM:=Lib.hid hsm
  have HOW:=Lib.hid (show ∀ j,j<9→on j<B64 by rw [hon];intro j _;show (if j=0 then 1 else 0)<B64;split <;> decide)
  have HOV:=Lib.hid (show val on 9=1 by rw [hon];decide)
  clear hsm hon
  go_enter Tryz.func82,Tryz.ntmps82
  go_upto_region 1 with fail
  obtain ⟨k1,k2,k3,k4,mm⟩:=four_new w (.cells (nc f) 63 (0,0)) (.cells (nc g) 63 (0,0)) (.cells (nc m) 63 (0,0)) zN
  generalize hw4:(((w.alloc (.cells (nc f) 63 (0,0))).alloc (.cells (nc g) 63 (0,0))).alloc (.cells (nc m) 63 (0,0))).alloc zN=w4 at *
  clear hw4
  have v1:NIs w4 w.heap.size f:=k1
  have v2:NIs w4 (w.heap.size+1) g:=k2
  have v3:NIs w4 (w.heap.size+1+1) m:=k3
  have v4:NIs w4 (w.heap.size+1+1+1) (fun _=>0):=k4
  clear k1 k2 k3 k4
  generalize hb0:w.heap.size=b0 at *
  generalize hb1:b0+1=b1 at *
  generalize hb2:b1+1=b2 at *
  generalize hb3:b2+1=b3 at *
  go_wp2_with fail
  refine (HSM.out _).mono ?_
  rintro e w5 ⟨rfl,m5⟩
  go_upto_region 2 with fail
  have ma:=m5.alloc (.cells (nc on) 63 (0,0))
  have v5:NIs (w5.alloc (.cells (nc on) 63 (0,0))) w5.heap.size on:=heap_alloc_new w5 _
  have v1':=v1.mod ma (fun _ h=>h)
  have v2':=v2.mod ma (fun _ h=>h)
  have v3':=v3.mod ma (fun _ h=>h)
  have v4':=v4.mod ma (fun _ h=>h)
  have hl4:=lt_of_heap v4
  have hl45:=m5.size
  have mm':=mm.trans ma
  generalize hw6:w5.alloc (.cells (nc on) 63 (0,0))=w6 at *
  clear hw6 v1 v2 v3 v4 mm m5 ma
  generalize hb4:w5.heap.size=b4 at *
  have h14:b4≠b0∧b4≠b1∧b4≠b2∧b4≠b3∧w.heap.size≤b4:=by omega
  have HNE:=Lib.hid h14
  clear h14 hl4 hl45
  obtain ⟨c0,c1,c2,c3,c4,c5,c6,c7,c8⟩:=v2'.nine
  go_wp2_with fail
  refine (HTOP.out _).mono ?_
  rintro e w7 ⟨t0,rfl,ht0,hT,m7⟩
  have HT:=Lib.hid hT
  have u1:=v1'.mod m7 (fun _ h=>h)
  have u2:=v2'.mod m7 (fun _ h=>h)
  have u3:=v3'.mod m7 (fun _ h=>h)
  have u4:=v4'.mod m7 (fun _ h=>h)
  have u5:=v5.mod m7 (fun _ h=>h)
  have MM:=Lib.hid (mm'.trans m7)
  have hb4l:b4<w7.heap.size:=lt_of_heap u5
  clear c0 c1 c2 c3 c4 c5 c6 c7 c8 v1' v2' v3' v4' v5 mm' m7 HTOP hT
  have k0:IntKind.i64.wrap ((t0:Int) - 1)=(t0:Int) - 1:=by rw [IntKind.wrap_i64];omega
  go_wp2_with fail
  clear k0
  go_loopw [8] (fun i wr=>∃ t:Nat,i=.int .i64 ((t:Int) - 1)∧t≤576∧∃ h:Nat→Nat,NIs wr b4 h∧(∀ j,j<9→h j<B64)∧Hid (val h 9=val f 9^(val g 9/2^t)%val m 9)∧Mod (InB b4) w7 wr) (fun i _=>(intOf i+1).toNat)
  case atStart=>exact ⟨t0,rfl,ht0,_,u5,HOW.out,by show val _ 9=_;rw [Nat.div_eq_of_lt HT.out,Nat.pow_zero,Nat.mod_eq_of_lt hm1];exact HOV.out,.refl _ _⟩
  case round =>
    obtain ⟨t1,rfl,ht,h,hN,hh,hv,hM⟩:=hrel
    have g1:=u1.mod hM (fun o hh=>HNE.out.1 hh.symm)
    have g2:=u2.mod hM (fun o hh=>HNE.out.2.1 hh.symm)
    have g3:=u3.mod hM (fun o hh=>HNE.out.2.2.1 hh.symm)
    have g4:=u4.mod hM (fun o hh=>HNE.out.2.2.2.1 hh.symm)
    by_cases h0:0<t1
    · obtain ⟨t,rfl⟩:∃ t,t1=t+1:=⟨t1 - 1,by omega⟩
      rw [show (((t+1:Nat):Int) - 1)=(t:Int) by omega]
      have kg:decide ((t:Int) ≥ 0)=true:=decide_eq_true (by omega)
      obtain ⟨a0,a1,a2,a3,a4,a5,a6,a7,a8⟩:=hN.nine
      obtain ⟨c0,c1,c2,c3,c4,c5,c6,c7,c8⟩:=g3.nine
      have HOP1:=Lib.hid (HOP.out h hh (by rw [hv.out];exact Nat.mod_lt _ hM0) wr)
      have HM:=Lib.hid hM
      clear hM
      go_wp2_with fail
      refine HOP1.out.mono ?_
      rintro e w8 ⟨h3,rfl,hh3,hv3,m8⟩
      have hN8:=hN.mod m8 (fun _ h=>h)
      clear a0 a1 a2 a3 a4 a5 a6 a7 a8 c0 c1 c2 c3 c4 c5 c6 c7 c8 HOP1
      obtain ⟨a0,a1,a2,a3,a4,a5,a6,a7,a8⟩:=hN8.nine
      obtain ⟨e0,e1,e2,e3,e4,e5,e6,e7,e8⟩:=hN8.free
      go_upto_region 6 with fail
      rw [setNine_fold w8 b4 h3]
      have hN9:=setNine_is hN8 h3
      have m9:Mod (InB b4) wr (setNine w8 b4 h3):=m8.of_none.trans (setNine_own w8 b4 h3)
      generalize setNine w8 b4 h3=w9 at *
      clear a0 a1 a2 a3 a4 a5 a6 a7 a8 e0 e1 e2 e3 e4 e5 e6 e7 e8 hN8 m8
      have f1:=g1.mod m9 (fun o hh=>HNE.out.1 hh.symm)
      have f2:=g2.mod m9 (fun o hh=>HNE.out.2.1 hh.symm)
      have f3:=g3.mod m9 (fun o hh=>HNE.out.2.2.1 hh.symm)
      have HM9:=Lib.hid (HM.out.trans m9)
      have HV3:=Lib.hid hv3
      obtain ⟨c0,c1,c2,c3,c4,c5,c6,c7,c8⟩:=f2.nine
      obtain ⟨bt,hbt⟩:∃ k,k=val g 9/2^t%2:=⟨_,rfl⟩
      have HB:=Lib.hid (HBIT.out t (by omega) w9)
      rw [← hbt] at HB
      have HBT:=Lib.hid hbt
      have hb2':bt=0∨bt=1:=by omega
      clear hbt g1 g2 g3 g4 m9 hv3 HM
      rcases hb2' with rfl | rfl
      · have HS:=Lib.hid (pow_step0 (val f 9) (val g 9) t (val m 9) HBT.out.symm)
        clear HBT
        go_wp2_with fail
        refine HB.out.mono ?_
        rintro e w10 ⟨rfl,m10⟩
        have hN10:=hN9.mod m10 (fun _ h=>h)
        have HM10:=Lib.hid (HM9.out.trans m10.of_none)
        clear c0 c1 c2 c3 c4 c5 c6 c7 c8 hN9 f1 f2 f3 m10 HM9 HB
        go_wp2_with fail
        go_roundw
        case rel=>exact ⟨t,rfl,by omega,h3,hN10,hh3,by rw [HV3.out,hv.out];exact HS.out,HM10.out⟩
        case measure=>simp [intOf]
      · have HS:=Lib.hid (pow_step1 (val f 9) (val g 9) t (val m 9) HBT.out.symm)
        clear HBT
        go_wp2_with fail
        refine HB.out.mono ?_
        rintro e w10 ⟨rfl,m10⟩
        have hN10:=hN9.mod m10 (fun _ h=>h)
        have f11:=f1.mod m10 (fun _ h=>h)
        have f13:=f3.mod m10 (fun _ h=>h)
        have HM10:=Lib.hid (HM9.out.trans m10.of_none)
        clear c0 c1 c2 c3 c4 c5 c6 c7 c8 hN9 f1 f2 f3 m10 HM9 HB
        obtain ⟨a0,a1,a2,a3,a4,a5,a6,a7,a8⟩:=hN10.nine
        obtain ⟨c0,c1,c2,c3,c4,c5,c6,c7,c8⟩:=f13.nine
        obtain ⟨p0,p1,p2,p3,p4,p5,p6,p7,p8⟩:=f11.nine
        have HOA1:=Lib.hid (HOA.out h3 hh3 (by rw [HV3.out];exact Nat.mod_lt _ hM0) w10)
        go_wp2_with fail
        refine HOA1.out.mono ?_
        rintro e w11 ⟨h4,rfl,hh4,hv4,m11⟩
        have hN11:=hN10.mod m11 (fun _ h=>h)
        clear a0 a1 a2 a3 a4 a5 a6 a7 a8 c0 c1 c2 c3 c4 c5 c6 c7 c8 p0 p1 p2 p3 p4 p5 p6 p7 p8 HOA1 f11 f13 hN10
        obtain ⟨a0,a1,a2,a3,a4,a5,a6,a7,a8⟩:=hN11.nine
        obtain ⟨e0,e1,e2,e3,e4,e5,e6,e7,e8⟩:=hN11.free
        have HV4:=Lib.hid hv4
        have HM11:=Lib.hid m11
        clear hv4 m11
        go_wp2_with fail
        go_roundw
        case rel=>exact ⟨t,rfl,by omega,h4,hN11.setNine h4,hh4,by rw [HV4.out,HV3.out,hv.out];exact HS.out,HM10.out.trans (HM11.out.of_none.trans (setNine_own w11 b4 h4))⟩
        case measure=>simp [intOf]
    · obtain rfl:t1=0:=by omega
      have HV:=Lib.hid (show val h 9=val f 9^val g 9%val m 9 by rw [hv.out,Nat.pow_zero,Nat.div_one])
      have HM:=Lib.hid (show Mod NoP w wr from MM.out.trans' hM fun q r hq hh=>by have:=HNE.out.2.2.2.2;unfold InB at hh;omega)
      obtain ⟨a0,a1,a2,a3,a4,a5,a6,a7,a8⟩:=hN.nine
      obtain ⟨p0,p1,p2,p3,p4,p5,p6,p7,p8⟩:=g4.nine
      obtain ⟨e0,e1,e2,e3,e4,e5,e6,e7,e8⟩:=g4.free
      clear g1 g2 g3 g4 hN hM u1 u2 u3 u4 u5 hv HOP HOA HBIT
      go_wp2_with fail
      have h3b:b3 ≥ w.heap.size:=by omega
      refine bodyPost_ret (v:=nv h) (by simp [results,Tryz.results82,go_sem, *]) rfl (NRet.mk' h hh HV.out ?_)
      exact setNine_mod HM.out (fun _ hh=>by omega) (fun j=>U (h j))
end
end Go.Proofs.YtpfmbfkhjapbbaaGreatDoor
