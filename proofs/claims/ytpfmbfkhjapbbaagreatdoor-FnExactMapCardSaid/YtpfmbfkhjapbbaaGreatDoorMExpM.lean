/-
  expNNMontgomery walked. Conditions: the modulus is odd, of 2 to 39 words; the base is not longer; the numbers lie apart from the array that is written and from the stack's cell.
-/
import Derived.Test.YtpfmbfkhjapbbaaGreatDoorMg19
set_option linter.unusedVariables false
set_option linter.unusedSimpArgs false
namespace Go.Proofs.YtpfmbfkhjapbbaaGreatDoor
open Go Go.RowKit
def ExpRet (w:World) (s:Nat) (az:Option Addr) (v:Nat) (e:Ending) (w':World):Prop :=
  ∃ a n c f,e=.returned (.slice a n c)∧NatIs w' a n c f v∧(a=az∨Fresh w a)∧Mod (fun k o=>BlkOf az k o∨k=s) w w'∧StkIs w' s w.heap.size
structure K0St (m0 k t r:Nat):Prop where
  eq:∃ z:Int,(m0:Int)*k+t*t=1+(B64:Int)*z
  dvd:2^2^r ∣ t
  kb:k<B64
  tb:t<B64
  r6:r≤6
theorem K0St.start {m0 k t:Nat} (ho:m0%2=1) (hb:m0<B64) (hk:k=(B64+2 - m0)%B64) (ht:t=m0 - 1):K0St m0 k t 0:=by
  refine ⟨?_,?_,by rw [hk];exact Nat.mod_lt _ B64_pos,by omega,by omega⟩
  · have h1:=Nat.div_add_mod (B64+2 - m0) B64
    rw [← hk] at h1
    refine ⟨(m0:Int)*(1 - ((B64+2 - m0)/B64:Nat)),?_⟩
    have h2:(k:Int)=B64+2 - m0 - B64*((B64+2 - m0)/B64:Nat):=by omega
    have h3:(t:Int)=m0 - 1:=by omega
    rw [h2,h3]
    generalize (((B64+2 - m0)/B64:Nat):Int)=q
    generalize (B64:Int)=B
    grind
  · show 2 ∣ t
    omega
theorem K0St.step {m0 k t r:Nat} (h:K0St m0 k t r) (hr:r<6):K0St m0 (k*((t*t%B64+1)%B64)%B64) (t*t%B64) (r+1):=by
  obtain ⟨z,hz⟩:=h.eq
  refine ⟨k0_step hz,?_,Nat.mod_lt _ B64_pos,Nat.mod_lt _ B64_pos,by omega⟩
  have hp:2^r≤32:=by
    have:2^r≤2^5:=Nat.pow_le_pow_right (by omega) (by omega)
    omega
  have:=k0_dvd h.dvd (by omega)
  rw [Nat.pow_succ,show 2^r*2=2^r+2^r by omega]
  exact this
theorem K0St.end_ {m0 k t:Nat} (h:K0St m0 k t 6):(m0*((B64 - k)%B64)+1)%B64=0:=by
  obtain ⟨z,hz⟩:=h.eq
  exact k0_end hz h.dvd h.tb h.kb
theorem words_zero {f:Nat→Nat} {N t:Nat} (hf:∀ j,j<N→f j<B64) (hN:t≤N) (h:val f N=B64^t):∀ j,j<t→f j=0:=by
  obtain ⟨d,rfl⟩:∃ d,N=t+d:=⟨N - t,by omega⟩
  rw [val_add] at h
  have h0:val f t=0:=by
    have hl:=val_lt (f:=f) (n:=t) (fun j hj=>hf j (by omega))
    have hp:=pow_pos t
    rcases Nat.eq_zero_or_pos (val (fun j=>f (t+j)) d) with hz | hz
    · rw [hz,Nat.mul_zero] at h;omega
    · have:B64^t*1≤B64^t*val (fun j=>f (t+j)) d:=Nat.mul_le_mul_left _ hz
      omega
  clear h hN
  induction t with
  | zero=>intro j hj;omega
  | succ t ih =>
    intro j hj
    have h1:val f t+f t*B64^t=0:=h0
    have hp:=pow_pos t
    have h2:f t=0:=by
      rcases Nat.eq_zero_or_pos (f t) with hz | hz
      · exact hz
      · have:1*B64^t≤f t*B64^t:=Nat.mul_le_mul_right _ hz
        omega
    rcases Nat.lt_or_ge j t with h | h
    · exact ih (fun j hj=>hf j (by omega)) (by omega) j h
    · obtain rfl:j=t:=by omega
      exact h2
theorem val_low {f g:Nat→Nat} {k n:Nat} (hk:k≤n) (hf:∀ j,j<n→f j=0):val (lay f 0 k g) n=val g k:=by
  rw [val_drop hk fun j h1 h2=>by unfold lay;rw [if_neg (by omega)];exact hf j h2]
  exact val_congr fun j hj=>by unfold lay;rw [if_pos (by omega),Nat.sub_zero]
theorem stkIs_mod {w w':World} {s N:Nat} {M:Places} (h:StkIs w s N) (m:Mod M w w') (h1:∀ o,¬ M s o) (h2:∀ k o,k<w.heap.size→N≤k→¬ M k o):StkIs w' s N:=by
  rcases h with h | ⟨q,a,l,c,h,hq,ha⟩
  · exact .inl ((m.heap (lt_of_heap h) h1).trans h)
  · refine .inr ⟨q,a,l,c,h.mod m h1 (fun o=>h2 q o (lt_of_heap h.hq) hq) ?_,hq,ha⟩
    obtain ⟨f,hf⟩:=h.hA
    exact ⟨f,hf.mod m fun A hA o hh=>h2 A.block o (hf.ltA A hA) (ha A hA) hh⟩
structure RrSt (w:World) (s n vm br cr bq nq cq:Nat) (wx:World):Prop where
  rr:Num wx br n cr (B64^(2*n)%vm)
  q:∃ g,Arr wx (some ⟨bq,0,none⟩) cq g
  hnq:nq≤cq
  hbr:w.heap.size≤br
  hbq:w.heap.size≤bq
  mod:Mod (fun k _=>k=s) w wx
  stk:∃ N,StkIs wx s N∧w.heap.size≤N∧bq<N
theorem rr_ne {vm n:Nat} (h1:1<vm) (ho:vm%2=1):B64^(2*n)%vm≠0:=by
  intro h
  have hc:=coprime_B ho (2*n)
  have hd:=Nat.dvd_of_mod_eq_zero h
  have:Nat.gcd vm (B64^(2*n))=vm:=Nat.gcd_eq_left hd
  unfold Nat.Coprime at hc
  omega
set_option maxRecDepth 100000 in
set_option maxHeartbeats 8000000 in
theorem expMont_any (s nz cz bx nx cx vx by_ ny cy vy bm n cm vm:Nat) (az:Option Addr) (fz fx fy fm:Nat→Nat) (w:World) (hG:Glo w 6 40) (hS:StkNil w s) (hZ:Arr w az cz fz) (hnz:nz≤cz)
    (hX:NatIs w (some ⟨bx,0,none⟩) nx cx fx vx) (hY:NatIs w (some ⟨by_,0,none⟩) ny cy fy vy) (hM:NatIs w (some ⟨bm,0,none⟩) n cm fm vm) (hnx:1≤nx) (hxn:nx≤n) (hny:1≤ny) (hny2:ny≤1000) (hn2:2≤n) (hn:n≤39) (hodd:vm%2=1)
    (zx:∀ A,az=some A→A.block≠bx∧A.block≠by_∧A.block≠bm∧A.block≠s∧A.block≠6) (hs6:s≠6) (hsx:s≠bx) (hsy:s≠by_) (hsm:s≠bm) :
    Calls Tryz.prog 158 #[.slice az nz cz,.pointer (some ⟨s,0,none⟩),.slice (some ⟨bx,0,none⟩) nx cx,.slice (some ⟨by_,0,none⟩) ny cy,.slice (some ⟨bm,0,none⟩) n cm] w (ExpRet w s az (vx^vy%vm)):=by
  have HX:=Lib.hid hX
  have HY:=Lib.hid hY
  have HM:=Lib.hid hM
  have HZ:=Lib.hid hZ
  have HG:=Lib.hid hG
  have HS:=Lib.hid hS
  have HZX:=Lib.hid zx
  have HSS:=Lib.hid (And.intro hs6 (And.intro hsx (And.intro hsy hsm)))
  have HODD:=Lib.hid hodd
  have HNN:=Lib.hid (And.intro hnx (And.intro hxn (And.intro hny hny2)))
  have hng:¬ (nx:Int) > (n:Int):=by omega
  have hng2:¬ (n:Int)<(nx:Int):=by omega
  clear hX hY hM hZ hG hS zx hs6 hsx hsy hsm hodd
  go_enter Tryz.func158,Tryz.ntmps158
  go_upto_if 40 with fail
  go_cut [2,12] from 40 to 46 (fun s2 s12 wx=>∃ b c,s2=.slice (some ⟨b,0,none⟩) n c∧Hid (Num wx b n c vx∧Mod NoP w wx∧(∀ A,az=some A→A.block≠b)∧s≠b))
  case first =>
    by_cases hlt:nx<n
    · have hlt2:(nx:Int)<(n:Int):=by omega
      have hmk:=fun u=>makeSlice49 n n (Nat.le_refl _) (by omega) u (n:Int) (n:Int) rfl rfl
      have hA:=arr_zeros w n (by omega)
      have m1:Mod NoP w (w.alloc (zeros n)):=(Mod.refl NoP w).alloc _
      obtain ⟨w2,hcp,hV,m2⟩:=copyP_run (w.alloc (zeros n)) 49 3 Tryz.underlying49 49 w.heap.size 0 n nx n n (fun _=>0) hA hxn (by omega) bx 0 cx fx (((HX.out.arr.vec).take HX.out.le).mod m1 fun _ _ h=>h)
      have hA2:=hA.wroteAt hV m2
      have HR:=Lib.hid (show Num w2 w.heap.size n n vx∧Mod NoP w w2∧(∀ A,az=some A→A.block≠w.heap.size)∧s≠w.heap.size from
        ⟨⟨⟨_,hA2,by rw [val_low hxn (fun _ _=>rfl),HX.out.val]⟩,Nat.le_refl _⟩,m1.trans' m2 (fun q o hq hh=>by have:=hh.1;omega),(fun A hA=>by
          subst hA
          have:=HZ.out.lt
          omega),by have:=lt_of_heap HS.out;omega⟩)
      clear hA m1 hV m2 hA2
      go_wp2_with (first | (rw [hmk]) | (refine wpList_copy rfl (.tmp 43) (.tmp 44) 49 49 rfl _ _ rfl rfl hcp ?_;go_simp))
      go_meet
      case rel=>exact ⟨_,_,rfl,HR.out⟩
    · obtain rfl:nx=n:=by omega
      have hlt2:¬ (nx:Int)<(nx:Int):=by omega
      go_wp2_with fail
      go_meet
      case rel=>exact ⟨bx,cx,rfl,⟨⟨_,HX.out.arr,HX.out.val⟩,HX.out.le⟩,.refl _ _,fun A hA=>(HZX.out A hA).1,HSS.out.2.1⟩
  case rest =>
    obtain ⟨bX,cX,rfl,hph⟩:=hcut
    obtain ⟨hNX,hmX,hzX,hsX⟩:=hph.out
    have hMv:=HM.out.arr.vec
    obtain ⟨d0,_,b0⟩:=(hMv 0 (by have:=HM.out.le;omega))
    rw [Nat.add_zero] at d0
    have hm0:fm 0%2=1:=by
      have h1:=HM.out.val
      obtain ⟨n',rfl⟩:∃ n',n=1+n':=⟨n - 1,by omega⟩
      rw [val_add,val_one,Nat.pow_one] at h1
      have h2:=HODD.out
      rw [← h1,B64_eq,show 18446744073709551616=2*9223372036854775808 by rfl,Nat.mul_assoc,Nat.add_mul_mod_self_left] at h2
      exact h2
    have d0':wc.cell? ⟨bm,0,none⟩=some (U (fm 0)):=hmX.cell_some d0 fun h=>h
    obtain ⟨m0,hm0e⟩:∃ m0,m0=fm 0:=⟨_,rfl⟩
    rw [← hm0e] at hm0 d0' b0
    obtain ⟨kk,hkk⟩:∃ kk,kk=(B64+2 - m0)%B64:=⟨_,rfl⟩
    obtain ⟨tt,htt⟩:∃ tt,tt=m0 - 1:=⟨_,rfl⟩
    have e1:IntKind.u64.wrap (2 - (m0:Int))=(kk:Int):=by rw [IntKind.wrap_u64,hkk,B64_eq];rw [B64_eq] at b0;omega
    have e2:IntKind.u64.wrap ((m0:Int) - 1)=(tt:Int):=by rw [IntKind.wrap_u64,htt];rw [B64_eq] at b0;omega
    have HK:=Lib.hid (K0St.start hm0 b0 hkk htt)
    have HM0:=Lib.hid hm0e
    have hn0:0<n:=by omega
    clear hMv d0 hm0 b0 hkk htt hm0e hNX hmX hzX hsX hng hng2
    go_wp2_with fail
    go_loopw [13,14,15] (fun s13 s14 s15 wx=>∃ (k t p r:Nat),s13=U k∧s14=U t∧s15=.int .i64 (p:Int)∧Hid (K0St m0 k t r∧p=2^r)∧wx=wc) (fun _ _ s15 _=>(64 - intOf s15).toNat)
    case atStart=>exact ⟨kk,tt,1,0,rfl,rfl,rfl,⟨HK.out,rfl⟩,rfl⟩
    case round =>
      clear HK e1 e2 d0'
      obtain ⟨k,t,p,r,rfl,rfl,rfl,hk,rfl⟩:=hrel
      by_cases hr:r<6
      · have hp:p<64:=by
          have:2^r≤2^5:=Nat.pow_le_pow_right (by omega) (by omega)
          have:=hk.out.2
          omega
        have hp0:0<p:=by rw [hk.out.2];exact Nat.two_pow_pos _
        have HN:=Lib.hid (And.intro (hk.out.1.step hr) (show p*2=2^(r+1) by rw [hk.out.2,Nat.pow_succ]))
        obtain ⟨t',ht'⟩:∃ t',t'=t*t%B64:=⟨_,rfl⟩
        obtain ⟨u',hu'⟩:∃ u',u'=(t'+1)%B64:=⟨_,rfl⟩
        obtain ⟨k',hk'⟩:∃ k',k'=k*u'%B64:=⟨_,rfl⟩
        obtain ⟨p',hp'⟩:∃ p',p'=p*2:=⟨_,rfl⟩
        have e1:IntKind.u64.wrap ((t:Int)*(t:Int))=(t':Int):=by rw [IntKind.wrap_u64,ht',B64_eq,← Int.natCast_mul];omega
        have e2:IntKind.u64.wrap ((t':Int)+1)=(u':Int):=by rw [IntKind.wrap_u64,hu',B64_eq];omega
        have e3:IntKind.u64.wrap ((k:Int)*(u':Int))=(k':Int):=by rw [IntKind.wrap_u64,hk',B64_eq,← Int.natCast_mul];omega
        have e4:IntKind.i64.wrap ((p:Int)*2)=(p':Int):=by rw [IntKind.wrap_i64,hp'];omega
        have d1:(p:Int)<64:=by omega
        rw [← ht',← hu',← hk',← hp'] at HN
        have HP:=Lib.hid hp'
        have HP0:=Lib.hid hp0
        clear hk hr hp ht' hu' hk' hp' hp0
        go_wp2_with fail
        go_roundw
        case rel=>exact ⟨k',t',p',r+1,rfl,rfl,(by rfl),HN.out,(by first | rfl | trivial)⟩
        case measure=>have:=HP.out;have:=HP0.out;simp [intOf];omega
      · have hr6:r=6:=by have:=hk.out.1.r6;omega
        subst hr6
        have hp:p=64:=hk.out.2
        have d1:¬ (p:Int)<64:=by omega
        obtain ⟨k',hk'⟩:∃ k',k'=(B64 - k)%B64:=⟨_,rfl⟩
        have hkb:=hk.out.1.kb
        have e1:IntKind.u64.wrap (-(k:Int))=(k':Int):=by rw [IntKind.wrap_u64,hk',B64_eq];rw [B64_eq] at hkb;omega
        have hkm:=hk.out.1.end_
        rw [← hk'] at hkm
        have HKM:=Lib.hid (And.intro hkm (show k'<B64 by rw [hk'];exact Nat.mod_lt _ B64_pos))
        have H16:=Lib.hid (setWord_any none 0 0 1 wr (fun _=>0) (.nil _ _) (Nat.le_refl _) (by decide))
        clear hk hp hk' hkb hkm
        go_wp2_with fail
        refine H16.out.mono ?_
        rintro e w1 ⟨a1,n1,c1,f1,rfl,hN1,hm1,hfr1⟩
        have hn1:1≤n1:=by
          have:=hN1.val
          rcases Nat.eq_zero_or_pos n1 with h | h
          · subst h
            have:val f1 0=0:=rfl
            omega
          · exact h
        have hn1l:=hN1.len_le (m:=1) (by decide)
        obtain ⟨b1,rfl⟩:=hN1.arr.form (by have:=hN1.le;omega)
        obtain ⟨sv,hsv⟩:∃ sv,sv=64*(2*n):=⟨_,rfl⟩
        have e3:IntKind.i64.wrap (2*(n:Int))=2*(n:Int):=by rw [IntKind.wrap_i64];omega
        have e4:IntKind.i64.wrap (2*(n:Int)*64)=(sv:Int):=by rw [IntKind.wrap_i64,hsv];omega
        have e5:IntKind.u64.wrap (sv:Int)=(sv:Int):=by rw [IntKind.wrap_u64,hsv];omega
        have H17:=Lib.hid (natLsh_words b1 n1 c1 1 sv (2*n) f1 w1 hN1 hn1 (by omega) hsv (by omega) (by omega))
        have HB1:=Lib.hid (And.intro hN1 (And.intro hm1 (And.intro hfr1 hn1)))
        clear hN1 hm1 hfr1 hn1 hn1l hsv H16 e1
        go_wp2_with fail
        refine H17.out.mono ?_
        rintro e w2 ⟨a2,n2,c2,f2,rfl,hN2,hm2,hfr2⟩
        rw [Nat.one_mul] at hN2
        have hn2g:2*n<n2:=by
          have h1:=hN2.lt
          exact (Nat.pow_lt_pow_iff_right (by decide)).1 h1
        have hn2l:=hN2.len_le (m:=2*n+1) (Nat.pow_lt_pow_right (by decide) (by omega))
        obtain ⟨b2,rfl⟩:=hN2.arr.form (by have:=hN2.le;omega)
        obtain ⟨hN1,hm1,hfr1,hn1⟩:=HB1.out
        have m1:Mod NoP wr w1:=hm1.mono fun k o _ hh=>by obtain ⟨A,hA,_⟩:=hh;cases hA
        have m2:Mod NoP w1 w2:=hm2.mono fun k o _ hh=>by obtain ⟨A,hA,_⟩:=hh;cases hA
        have mw:Mod NoP w w2:=(hph.out.2.1.trans m1).trans m2
        have mr:Mod NoP wr w2:=m1.trans m2
        have hb1:wr.heap.size≤b1:=by
          rcases hfr1 with h | ⟨q,h,hq⟩
          · cases h
          · injection h with h;injection h with h;omega
        have hb1l:=hN1.arr.lt
        have hb2:w1.heap.size≤b2:=by
          rcases hfr2 with h | ⟨q,h,hq⟩
          · cases h
          · injection h with h;injection h with h;omega
        have hsl:=lt_of_heap HS.out
        have hbml:=HM.out.arr.lt
        have g6:=lt_of_cell? HG.out
        have hw0:=hph.out.2.1.size
        have hvb:=HM.out.ge (by omega)
        have hvm1:1<vm:=by
          have:B64^1≤B64^(n - 1):=Nat.pow_le_pow_right B64_pos (by omega)
          have h2:=Nat.le_trans this hvb
          rw [Nat.pow_one,B64_eq] at h2
          omega
        have hr0:=rr_ne (n:=n) hvm1 HODD.out
        have H18:=Lib.hid (div_large1 none (some ⟨b1,0,none⟩) (some ⟨b2,0,none⟩) (some ⟨bm,0,none⟩) 0 0 n1 c1 n2 c2 n cm (B64^(2*n)) vm s w2 (fun _=>0) f1 f2 fm (mw.cell_some HG.out fun h=>h) ((mw.heap hsl fun _ h=>h).trans HS.out) (.nil _ _) (Nat.le_refl _)
          (hN1.arr.mod m2 (Off.noP _)) hN1.le hN2 (HM.out.mod mw (Off.noP _)) hn2 hn (Nat.le_of_lt (Nat.lt_of_lt_of_le HM.out.lt (Nat.pow_le_pow_right B64_pos (by omega)))) (by omega) (by rintro ⟨A,hA,_⟩;cases hA) (by rintro ⟨A,hA,h⟩;injection hA with hA;subst hA;have h9:b1=s:=h;omega) (by rintro ⟨A,hA,h⟩;injection hA with hA;subst hA;have h9:b2=s:=h;omega)
          (by rintro ⟨A,hA,h⟩;injection hA with hA;subst hA;exact HSS.out.2.2.2 h.symm) (by rintro A A' hA;cases hA) (by rintro A A' hA hA';injection hA with hA;subst hA;injection hA' with hA';subst hA';show bm≠b1;omega) (by rintro ⟨A,hA,h⟩;injection hA with hA;subst hA;have h9:b1=6:=h;omega) HSS.out.1)
        have HR0:=Lib.hid (And.intro hr0 hvm1)
        have HB2:=Lib.hid (And.intro hN2 (And.intro mr (And.intro hb1 (And.intro hb1l (And.intro hb2 (And.intro hn2g m1.size))))))
        clear hn2l hN1 hm1 hfr1 hn1 m1 m2 mw mr hb1 hb1l hb2 hsl hbml g6 hw0 hvb hvm1 hr0 hN2 hm2 hfr2 HB1 H17 e3 e4 e5 d1 hn2g
        go_wp2_with fail
        refine H18.out.mono ?_
        rintro e w3 ⟨a3,n3,c3,f3,a4,n4,c4,f4,rfl,_,hr,_,hfr,_,hm3,hst⟩
        have hrlt:=hr.len_le (m:=n) (Nat.lt_trans (Nat.mod_lt _ (by have:=HR0.out.2;omega)) HM.out.lt)
        have hn4:1≤n4:=by
          have:=hr.val
          have:=HR0.out.1
          rcases Nat.eq_zero_or_pos n4 with h | h
          · subst h
            have:val f4 0=0:=rfl
            omega
          · exact h
        obtain ⟨b4,rfl⟩:=hr.arr.form (by have:=hr.le;omega)
        have HR4:=Lib.hid (And.intro hr (And.intro hfr (And.intro hm3 (And.intro hst hrlt))))
        clear hr hfr hm3 hst hrlt H18
        go_upto_if 86 with fail
        go_cut [16,17] from 86 to 93 (fun s16 s17 wx=>∃ br cr bq nq cq,s16=.slice (some ⟨br,0,none⟩) n cr∧s17=.slice (some ⟨bq,0,none⟩) nq cq∧Hid (RrSt wr s n vm br cr bq nq cq wx))
        case first =>
          obtain ⟨hr,hfr,hm3,hst,hrlt⟩:=HR4.out
          obtain ⟨hN2,mr,hb1,hb1l,hb2,hn2g,hs1⟩:=HB2.out
          have hb2l:=hN2.arr.lt
          have hsl:=lt_of_heap HS.out
          have hw0:=hph.out.2.1.size
          have hmr:Mod (fun k _=>k=s) wr w3:=(mr.of_none:Mod (fun k _=>k=s) wr w2).trans' hm3 (fun k o hk hh=>by
            rcases hh with ⟨A,hA,_⟩ | ⟨A,hA,h⟩ | h
            · cases hA
            · injection hA with hA;subst hA;have h9:b1=k:=h;omega
            · exact h)
          have hb4:wr.heap.size≤b4:=by
            rcases hfr with h | ⟨q,h,hq⟩
            · injection h with h;injection h with h;omega
            · injection h with h;injection h with h;have:=mr.size;omega
          have hA2:Arr w3 (some ⟨b2,0,none⟩) c2 f2:=hN2.arr.mod hm3 (fun A hA o hh=>by
            injection hA with hA;subst hA
            rcases hh with ⟨A,hA,_⟩ | ⟨A,hA,h⟩ | h
            · cases hA
            · injection hA with hA;subst hA;have h9:b1=b2:=h;omega
            · have h9:b2=s:=h;omega)
          have hle2:=hN2.le
          by_cases hlt:n4<n
          · have hlt2:(n4:Int)<(n:Int):=by omega
            have HMK:=Lib.hid (make_old (some ⟨b2,0,none⟩) n2 c2 n w3 f2 hA2 hle2 (by omega) (by omega))
            have hb42:b4≠b2:=by
              rcases hfr with h | ⟨q,h,hq⟩
              · injection h with h;injection h with h;omega
              · injection h with h;injection h with h;omega
            obtain ⟨w4,hcp,hV,m4⟩:=copyP_run w3 49 3 Tryz.underlying49 49 b2 0 n n4 c2 c2 f2 hA2 hrlt (by omega) b4 0 c4 f4 (hr.arr.vec.take hr.le)
            have hA4:=hA2.wroteAt hV m4
            have hz:=words_zero (fun j hj=>hN2.arr.words j (by omega)) (by omega) hN2.val
            have HRR:=Lib.hid (show RrSt wr s n vm b2 c2 b2 n c2 w4 from
              ⟨⟨⟨_,hA4,by rw [val_low hrlt (fun j hj=>hz j (by omega)),hr.val]⟩,by omega⟩,⟨_,hA4⟩,by omega,by omega,by omega,hmr.trans' m4 (fun k o hk hh=>by have:=hh.1;omega),w2.heap.size,stkIs_mod hst m4 (fun o hh=>by have:=hh.1;omega) (fun k o hk h1 hh=>by have:=hh.1;omega),by have:=mr.size;omega,by omega⟩)
            clear hr hfr hm3 hst hrlt hN2 mr hb1 hb1l hb2 hn2g hs1 hb2l hsl hw0 hmr hb4 hA2 hle2 hb42 hV m4 hA4 hz
            go_wp2_with fail
            refine HMK.out.mono ?_
            rintro e w5 ⟨rfl,rfl⟩
            go_wp2_with (refine wpList_copy rfl (.tmp 90) (.tmp 91) 49 49 rfl _ _ rfl rfl hcp ?_;go_simp)
            go_meet
            case rel=>exact ⟨_,_,_,_,_,rfl,rfl,HRR.out⟩
          · obtain rfl:n4=n:=by omega
            have hlt2:¬ (n4:Int)<(n4:Int):=by omega
            have HRR:=Lib.hid (show RrSt wr s n4 vm b4 c4 b2 n2 c2 w3 from
              ⟨⟨⟨_,hr.arr,hr.val⟩,hr.le⟩,⟨_,hA2⟩,hle2,hb4,by omega,hmr,w2.heap.size,hst,by have:=mr.size;omega,hb2l⟩)
            clear hr hfr hm3 hst hrlt hN2 mr hb1 hb1l hb2 hn2g hs1 hb2l hsl hw0 hmr hb4 hA2 hle2
            go_wp2_with fail
            go_meet
            case rel=>exact ⟨_,_,_,_,_,rfl,rfl,HRR.out⟩
        case rest =>
          clear HR4 HB2
          obtain ⟨br,cr,bq,nq,cq,rfl,rfl,hrr⟩:=hcut
          have hmk:=fun u=>makeSlice49 n n (Nat.le_refl _) (by omega) u (n:Int) (n:Int) rfl rfl
          have hone:=(arr_zeros wc n (by omega)).vec 0 (by omega)
          obtain ⟨o1,o2,_⟩:=hone
          rw [Nat.add_zero] at o1 o2
          go_upto_region 26 with (rw [hmk])
          have hsz1:((wc.alloc (zeros n)).setCell ⟨wc.heap.size,0,none⟩ (Value.int .u64 1)).heap.size=wc.heap.size+1:=by simp
          have hPW:=PwSt.start vm vx n ((wc.alloc (zeros n)).setCell ⟨wc.heap.size,0,none⟩ (Value.int .u64 1))
          rw [hsz1] at hPW
          have hA1:Arr ((wc.alloc (zeros n)).setCell ⟨wc.heap.size,0,none⟩ (Value.int .u64 1)) (some ⟨wc.heap.size,0,none⟩) n (put (fun _=>0) 0 1):=(arr_zeros wc n (by omega)).store (i:=0) (x:=1) (by decide)
          have hm1:Mod NoP wc ((wc.alloc (zeros n)).setCell ⟨wc.heap.size,0,none⟩ (Value.int .u64 1)):=((Mod.refl NoP wc).alloc _).setCell (fun h=>by omega) _
          have hmW:=hm1.alloc (Obj.cells #[Value.slice none 0 0,Value.slice none 0 0,Value.slice none 0 0,Value.slice none 0 0,Value.slice none 0 0,Value.slice none 0 0,Value.slice none 0 0,Value.slice none 0 0,Value.slice none 0 0,Value.slice none 0 0,Value.slice none 0 0,Value.slice none 0 0,Value.slice none 0 0,Value.slice none 0 0,Value.slice none 0 0,Value.slice none 0 0] 236)
          have hA2:=hA1.mod ((Mod.refl NoP _).alloc (Obj.cells #[Value.slice none 0 0,Value.slice none 0 0,Value.slice none 0 0,Value.slice none 0 0,Value.slice none 0 0,Value.slice none 0 0,Value.slice none 0 0,Value.slice none 0 0,Value.slice none 0 0,Value.slice none 0 0,Value.slice none 0 0,Value.slice none 0 0,Value.slice none 0 0,Value.slice none 0 0,Value.slice none 0 0,Value.slice none 0 0] 236)) (Off.noP _)
          generalize hWW:((wc.alloc (zeros n)).setCell ⟨wc.heap.size,0,none⟩ (Value.int .u64 1)).alloc (Obj.cells #[Value.slice none 0 0,Value.slice none 0 0,Value.slice none 0 0,Value.slice none 0 0,Value.slice none 0 0,Value.slice none 0 0,Value.slice none 0 0,Value.slice none 0 0,Value.slice none 0 0,Value.slice none 0 0,Value.slice none 0 0,Value.slice none 0 0,Value.slice none 0 0,Value.slice none 0 0,Value.slice none 0 0,Value.slice none 0 0] 236)=W at *
          have hone1:Num W wc.heap.size n n 1:=⟨⟨_,hA2,by
            obtain ⟨n',rfl⟩:∃ n',n=1+n':=⟨n - 1,by omega⟩
            rw [val_add,val_one,val_zero (fun j hj=>by show put (fun _=>0) 0 1 (1+j)=0;rw [put_other _ _ (by omega)]),put_same,Nat.mul_zero]⟩,Nat.le_refl _⟩
          obtain ⟨bp,hbp⟩:∃ bp,bp=wc.heap.size+1:=⟨_,rfl⟩
          obtain ⟨bo,hbo⟩:∃ bo,bo=wc.heap.size:=⟨_,rfl⟩
          rw [← hbp] at hPW ⊢
          rw [← hbo] at hone1 ⊢
          have hcW:wr.heap.size≤wc.heap.size:=hrr.out.mod.size
          have hmN:=hph.out.2.1
          have hmrW:Mod (fun k _=>k=s) wr W:=hrr.out.mod.trans' hmW fun k o _ h=>h.elim
          have hmwW:Mod (fun k _=>k=s) w W:=(hmN.of_none:Mod (fun k _=>k=s) w wr).trans hmrW
          have hrrW:=hrr.out.rr.mod hmW fun o h=>h
          have hXW:=hph.out.1.mod hmrW fun o h=>hph.out.2.2.2 h.symm
          have hMW:NatIs W (some ⟨bm,0,none⟩) n cm fm vm:=HM.out.mod hmwW (fun A hA o h=>by injection hA with hA;subst hA;exact HSS.out.2.2.2 h.symm)
          have hbrl:=hrr.out.rr.lt
          have hXl:=hph.out.1.lt
          have hMl:=HM.out.arr.lt
          have hwl:=hmN.size
          have HF:=Lib.hid (show ∀ wx,Mod (fun k _=>k=bp) W wx→Num wx bo n n 1∧Num wx br n cr (B64^(2*n)%vm)∧NatIs wx (some ⟨bm,0,none⟩) n cm fm vm∧Num wx bX n cX vx from fun wx m =>
            ⟨hone1.mod m (fun o h=>by omega),hrrW.mod m (fun o h=>by omega),hMW.mod m (fun A hA o h=>by injection hA with hA;subst hA;have h9:bm=bp:=h;omega),hXW.mod m (fun o h=>by omega)⟩)
          have HVM:=Lib.hid (show 0<vm by have:=HODD.out;omega)
          have HCO:=Lib.hid (coprime_B HODD.out n)
          have hkq:(fm 0*k'+1)%B64=0:=by rw [← HM0.out];exact HKM.out.1
          have HKQ:=Lib.hid (And.intro HKM.out.2 hkq)
          have HPW:=Lib.hid hPW
          have HWM:=Lib.hid (And.intro hmrW (And.intro hmwW (And.intro hmW (And.intro hbp hbo))))
          have p0:=hPW.nils 0 (Nat.le_refl _) (by omega)
          have H26:=Lib.hid (mont_num none 0 0 bo n br cr bm cm n k' 1 (B64^(2*n)%vm) vm (fun _=>0) fm W (.nil _ _) (Nat.le_refl _) (HF.out W (.refl _ _)).1 (HF.out W (.refl _ _)).2.1 (HF.out W (.refl _ _)).2.2.1 hn0 (by omega) HKQ.out.1 HKQ.out.2 HVM.out (by rintro A hA;cases hA))
          clear hPW hA1 hm1 hmW hA2 hWW hone1 hbp hbo hcW hmN hmrW hmwW hrrW hXW hMW hbrl hXl hMl hwl hkq hsz1 o1 o2
          go_wp2_with fail
          refine H26.out.mono ?_
          rintro e w5 ⟨b5,c5,v5,rfl,hN5,hE5,hm5,hb5⟩
          have m5:Mod NoP W w5:=hm5.mono fun k o _ hh=>by obtain ⟨A,hA,_⟩:=hh;cases hA
          have hp5:=HPW.out.mod m5 (fun j o h=>h.elim) (by omega)
          have q0:=hp5.nils 0 (Nat.le_refl _) (by omega)
          have f0:=hp5.free 0 (by omega)
          have hb5':bp<b5:=by
            rcases hb5 with h | h
            · cases h
            · have:=HPW.out.lt;omega
          have HP5:=Lib.hid (hp5.step hN5 (by rw [Nat.pow_zero];exact hE5.into HCO.out) hb5' (by omega))
          have HM5:=Lib.hid (show Mod (fun k _=>k=bp) W (w5.setCell ⟨bp,0,none⟩ (.slice (some ⟨b5,0,none⟩) n c5)) from (m5.of_none:Mod (fun k _=>k=bp) W w5).setCell (fun _=>rfl) _)
          clear hN5 hE5 hm5 hb5 m5 hp5 hb5' H26 p0
          go_upto_region 27 with fail
          generalize w5.setCell ⟨bp,0,none⟩ (.slice (some ⟨b5,0,none⟩) n c5)=w6 at *
          clear q0 f0
          have p1:=HP5.out.nils 1 (by omega) (by omega)
          have H27:=Lib.hid (mont_num none 0 0 bX cX br cr bm cm n k' vx (B64^(2*n)%vm) vm (fun _=>0) fm w6 (.nil _ _) (Nat.le_refl _) (HF.out w6 HM5.out).2.2.2 (HF.out w6 HM5.out).2.1 (HF.out w6 HM5.out).2.2.1 hn0 (by omega) HKQ.out.1 HKQ.out.2 HVM.out (by rintro A hA;cases hA))
          go_wp2_with fail
          refine H27.out.mono ?_
          rintro e w7 ⟨b7,c7,v7,rfl,hN7,hE7,hm7,hb7⟩
          have m7:Mod NoP w6 w7:=hm7.mono fun k o _ hh=>by obtain ⟨A,hA,_⟩:=hh;cases hA
          have hp7:=HP5.out.mod m7 (fun j o h=>h.elim) (by omega)
          have q0:=hp7.nils 1 (Nat.le_refl _) (by omega)
          have f0:=hp7.free 1 (by omega)
          have hb7':bp<b7:=by
            rcases hb7 with h | h
            · cases h
            · have:=HP5.out.lt;omega
          have HP7:=Lib.hid (hp7.step hN7 (by rw [Nat.pow_one];exact hE7.into HCO.out) hb7' (by omega))
          have HM7:=Lib.hid (show Mod (fun k _=>k=bp) W (w7.setCell ⟨bp,1,none⟩ (.slice (some ⟨b7,0,none⟩) n c7)) from (HM5.out.trans' m7 fun k o _ h=>h.elim).setCell (fun _=>rfl) _)
          clear hN7 hE7 hm7 hb7 m7 hp7 hb7' H27 p1
          go_upto_region 28 with fail
          generalize w7.setCell ⟨bp,1,none⟩ (.slice (some ⟨b7,0,none⟩) n c7)=w8 at *
          clear q0 f0
          go_wp2_with fail
          go_loopw [20] (fun s20 wx=>∃ i:Nat,s20=.int .i64 (i:Int)∧Hid (2≤i∧i≤16)∧Hid (PwSt vm vx n bp i wx)∧Hid (Mod (fun k _=>k=bp) W wx)) (fun s20 _=>(16 - intOf s20).toNat)
          case atStart=>exact ⟨2,rfl,⟨by omega,by omega⟩,HP7.out,HM7.out⟩
          case round =>
            clear HP7 HM7 HP5 HM5
            obtain ⟨i,rfl,hi,hpw,hmd⟩:=hrel
            by_cases hlt:i<16
            · have hi2:=hi.out.1
              obtain ⟨j,hj⟩:∃ j,i=j+1:=⟨i - 1,by omega⟩
              subst hj
              have d1:((j+1:Nat):Int)<16:=by omega
              have d1':(j:Int)+1<16:=by omega
              have d2:(0:Int)≤((j+1:Nat):Int):=by omega
              have d3:IntKind.i64.wrap (((j+1:Nat):Int) - 1)=(j:Int):=by rw [IntKind.wrap_i64];omega
              have d3':((j:Int)+1) - 1=(j:Int):=by omega
              have d4:(0:Int)≤(j:Int):=by omega
              have d8:IntKind.i64.wrap (j:Int)=(j:Int):=by rw [IntKind.wrap_i64];omega
              have d2':(0:Int)≤(j:Int)+1:=by omega
              have d5:(j:Int)<16:=by omega
              have d6:((j:Int)+1).toNat=j+1:=by omega
              have d7:IntKind.i64.wrap ((j:Int)+1+1)=(j:Int)+1+1:=by rw [IntKind.wrap_i64];omega
              have q0:=hpw.out.nils (j+1) (Nat.le_refl _) hlt
              have f0:=hpw.out.free (j+1) hlt
              obtain ⟨b1,c1,v1,q1,hN1,hR1,hb1⟩:=hpw.out.cells 1 (by omega)
              obtain ⟨b2,c2,v2,q2,hN2,hR2,hb2⟩:=hpw.out.cells j (by omega)
              have hMd:=(HF.out wr hmd.out).2.2.1
              have H31:=Lib.hid (fun w' (m:Mod NoP wr w')=>mont_num none 0 0 b2 c2 b1 c1 bm cm n k' v2 v1 vm (fun _=>0) fm w' (.nil _ _) (Nat.le_refl _) (hN2.mod m fun _ h=>h) (hN1.mod m fun _ h=>h) (hMd.mod m (Off.noP _)) hn0 (by omega) HKQ.out.1 HKQ.out.2 HVM.out (by rintro A hA;cases hA))
              have HRR:=Lib.hid (And.intro hR1 hR2)
              have HLT:=Lib.hid hlt
              clear hN1 hN2 hb1 hb2 hMd hR1 hR2 hlt
              have HSTEP:=Lib.hid (fun w9 w10 b9 c9 v9 (m:Mod NoP wr w9) (hN:Num w10 b9 n c9 v9) (hE:MontEq n v2 v1 vm v9) (hm:Mod (BlkOf none) w9 w10) (hb:some (⟨b9,0,none⟩:Addr)=none∨w9.heap.size≤b9)=>(by
                have m10:Mod NoP wr w10:=m.trans (hm.mono fun k o _ hh=>by obtain ⟨A,hA,_⟩:=hh;cases hA)
                have hp:=hpw.out.mod m10 (fun j o h=>h.elim) (by omega)
                have hr:=hE.rep HCO.out HRR.out.2 HRR.out.1
                rw [Nat.pow_one,← Nat.pow_succ] at hr
                have hb':bp<b9:=by
                  rcases hb with h | h
                  · cases h
                  · have:=hpw.out.lt;have:=m.size;omega
                exact ⟨hp.nils (j+1) (Nat.le_refl _) (by omega),hp.free (j+1) (by omega),hp.step hN hr hb' (by omega),(hmd.out.trans' m10 fun k o _ h=>h.elim).setCell (fun _=>rfl) _⟩ :
                  w10.cell? ⟨bp,j+1,none⟩=some (.slice none 0 0)∧w10.frozen? ⟨bp,j+1,none⟩=false∧PwSt vm vx n bp (j+1+1) (w10.setCell ⟨bp,j+1,none⟩ (.slice (some ⟨b9,0,none⟩) n c9))∧Mod (fun k _=>k=bp) W (w10.setCell ⟨bp,j+1,none⟩ (.slice (some ⟨b9,0,none⟩) n c9))))
              have H32:=Lib.hid (fun w' (m:Mod NoP wr w')=>((H31.out w' m).mono (fun e w10 h=>(by
                obtain ⟨b9,c9,v9,rfl,hN9,hE9,hm9,hb9⟩:=h
                obtain ⟨x0,x1,x2,x3⟩:=HSTEP.out _ _ _ _ _ m hN9 hE9 hm9 hb9
                exact ⟨b9,c9,rfl,x0,x1,x2,x3⟩:∃ b9 c9,e=.returned (.slice (some ⟨b9,0,none⟩) n c9)∧w10.cell? ⟨bp,j+1,none⟩=some (.slice none 0 0)∧w10.frozen? ⟨bp,j+1,none⟩=false∧Hid (PwSt vm vx n bp (j+1+1) (w10.setCell ⟨bp,j+1,none⟩ (.slice (some ⟨b9,0,none⟩) n c9)))∧Hid (Mod (fun k _=>k=bp) W (w10.setCell ⟨bp,j+1,none⟩ (.slice (some ⟨b9,0,none⟩) n c9))))):Calls Tryz.prog 184 _ w' _))
              clear H31 HSTEP
              go_upto_region 31 with fail
              go_region_with (go_at_call 184;refine (H32.out _ ?_).mono ?_;((first | exact (Mod.refl NoP wr).drew | exact (Mod.refl NoP wr).drewN _ | exact Mod.refl NoP wr));rintro e w10 ⟨b9,c9,rfl,x0,x1,x2,x3⟩)
              all_goals (go_wp2_with fail;go_roundw;(case rel=>exact ⟨j+1+1,(by first | rfl | simp),⟨by omega,by have:=HLT.out;omega⟩,x2.out,x3.out⟩);(case measure=>have:=HLT.out;simp [intOf];omega))
            · obtain rfl:i=16:=by have:=hi.out.2;omega
              have d1:¬ ((16:Nat):Int)<16:=by omega
              clear hi hlt
              have hZr:Arr wr az cz fz:=(HZ.out.mod HWM.out.2.1 (fun A hA o h=>(HZX.out A hA).2.2.2.1 h)).mod hmd.out (fun A hA o h=>by
                have h1:=HZ.out.ltA A hA
                have h2:=HWM.out.2.2.2.1
                have h3:=HWM.out.2.1.size
                have h4:=hrr.out.mod.size
                have h5:=hph.out.2.1.size
                have h9:A.block=bp:=h
                omega)
              have HMK:=Lib.hid (make_any az nz cz n wr fz hZr hnz (by omega))
              clear hZr
              go_upto_region 33 with (refine HMK.out.mono ?_;rintro e w9 ⟨a9,c9,f9,rfl,hA9,hn9,hm9,hfr9⟩)
              obtain ⟨bz,rfl⟩:=hA9.form (by omega)
              obtain ⟨b0,c0,v0,q0,hN0,hR0,hb0⟩:=hpw.out.cells 0 (by omega)
              obtain ⟨⟨X0,hX0,hv0⟩,hl0⟩:=hN0.mod hm9 (fun _ h=>h)
              have q0':=hm9.cell_some q0 (fun h=>h)
              obtain ⟨w10,hcp,hV,m10⟩:=copyV_run w9 49 3 Tryz.underlying49 49 bz 0 n c9 c9 f9 hA9 (by omega) b0 0 c0 X0 (hX0.vec.take hl0)
              have hA10:=hA9.wroteAt hV m10
              obtain ⟨gq,hgq⟩:=hrr.out.q
              have t1:=hph.out.2.1.size
              have t2:=hrr.out.mod.size
              have t3:=HWM.out.2.2.1.size
              have t4:=hmd.out.size
              have t5:=hm9.size
              have t6:=m10.size
              have t7:=HWM.out.2.2.2.1
              have t8:=HWM.out.2.2.2.2
              have t9:=hgq.lt
              have t10:=hrr.out.hbq
              have t11:=hA9.lt
              have t12:=HM.out.arr.lt
              have tz:(bz<w.heap.size∧bm≠bz∧bz≠by_∧bz≠s∧az=some ⟨bz,0,none⟩)∨wr.heap.size≤bz:=by
                rcases hfr9 with h | ⟨q,h,hq⟩
                · have h2:=HZX.out _ h.symm
                  have h3:=HZ.out.ltA _ h.symm
                  exact .inl ⟨h3,fun hh=>h2.2.2.1 hh.symm,h2.2.1,h2.2.2.2.1,h.symm⟩
                · injection h with h
                  injection h with h
                  omega
              have hgq10:Arr w10 (some ⟨bq,0,none⟩) cq gq:=(((hgq.mod HWM.out.2.2.1 (Off.noP _)).mod hmd.out (fun A hA o h=>by injection hA with hA;subst hA;have h9:bq=bp:=h;omega)).mod hm9 (Off.noP _)).mod m10 (fun A hA o h=>by injection hA with hA;subst hA;have h9:bq=bz:=h.1;omega)
              have HMK2:=Lib.hid (make_any (some ⟨bq,0,none⟩) nq cq n w10 gq hgq10 hrr.out.hnq (by omega))
              have HA10:=Lib.hid (And.intro hA10 (And.intro hR0 (show Mod (fun k _=>k=bz) wr w10 from (hm9.of_none:Mod (fun k _=>k=bz) wr w9).trans' m10 (fun k o hk h=>h.1))))
              have HT:=Lib.hid (And.intro t1 (And.intro t2 (And.intro t3 (And.intro t4 (And.intro t5 (And.intro t6 (And.intro t7 (And.intro t8 (And.intro t9 (And.intro t10 (And.intro t11 (And.intro t12 tz))))))))))))
              have HV0:=Lib.hid (And.intro hv0 hn9)
              clear hA9 hN0 hR0 hb0 hX0 hv0 hl0 q0 hV m10 hA10 hgq t1 t2 t3 t4 t5 t6 t7 t8 t9 t10 t11 t12 tz hgq10 hm9 hfr9 hn9 HMK
              go_wp2_with (refine wpList_copy rfl (.tmp 138) (.tmp 140) 49 49 rfl _ _ rfl rfl hcp ?_;go_simp)
              refine HMK2.out.mono ?_
              rintro e w11 ⟨a11,c11,f11,rfl,hA11,hn11,hm11,hfr11⟩
              obtain ⟨bu,rfl⟩:=hA11.form (by omega)
              obtain ⟨t1,t2,t3,t4,t5,t6,t7,t8,t9,t10,t11,t12,tz⟩:=HT.out
              obtain ⟨hA10,hR0,hmd10⟩:=HA10.out
              have tu:bu=bq∨w10.heap.size≤bu:=by
                rcases hfr11 with h | ⟨q,h,hq⟩
                · injection h with h;injection h with h;exact .inl h
                · injection h with h;injection h with h;exact .inr (by omega)
              obtain ⟨hone,_,hMr,_⟩:=HF.out wr hmd.out
              have hbol:=hone.lt
              have HBASE:=Lib.hid (show PgBase wr vm vx n bp bo n bm cm bz bu k' fm from
                ⟨hpw.out,hone,hMr,by omega,by omega,by omega,by omega,by omega,by omega,HKQ.out.1,HKQ.out.2,HVM.out,HCO.out,hn0,by omega⟩)
              have HSTART:=Lib.hid (show PgSt wr vm vx n bz bu bz c9 bu c11 v0 0 w11 from
                ⟨(hmd10.mono fun k o _ h=>.inl h).trans' hm11 (fun _ _ _ h=>h.elim),(show Num w10 bz n c9 v0 from ⟨⟨_,hA10,by
                  rw [← HV0.out.1]
                  exact val_congr fun j hj=>by unfold lay;rw [if_pos (by omega),Nat.sub_zero]⟩,HV0.out.2⟩).mod hm11 (fun _ h=>h),hR0,⟨_,hA11⟩,hn11,by omega,.inl rfl,.inr (.inl rfl)⟩)
              have HYF:=Lib.hid (show ∀ wx,Mod (fun k _=>k=bz∨k=bu) wr wx→NatIs wx (some ⟨by_,0,none⟩) ny cy fy vy from fun wx m=>by
                have hyl:=HY.out.arr.lt
                have hYr:=(HY.out.mod HWM.out.2.1 (fun A hA o h=>by injection hA with hA;subst hA;exact HSS.out.2.2.1 h.symm)).mod hmd.out (fun A hA o h=>by injection hA with hA;subst hA;have h9:by_=bp:=h;omega)
                exact hYr.mod m (fun A hA o h=>by injection hA with hA;subst hA;have h9:by_=bz∨by_=bu:=h;omega))
              have HFIN:=Lib.hid (show ∀ w',Mod (fun k _=>k=bz∨k=bu) wr w'→Mod (fun k o=>BlkOf az k o∨k=s) w w'∧StkIs w' s w.heap.size from fun w' m=>by
                obtain ⟨N,hst,hN1,hN2⟩:=hrr.out.stk
                have hwc:Mod (fun k _=>k=bp∨k=bz∨k=bu) wc w':=((HWM.out.2.2.1.of_none:Mod (fun k _=>k=bp∨k=bz∨k=bu) wc W).trans (hmd.out.mono fun k o _ h=>.inl h)).trans (m.mono fun k o _ h=>.inr h)
                have hsl:=lt_of_heap HS.out
                constructor
                · refine (((HWM.out.2.1.mono fun k o _ h=>.inr h:Mod (fun k o=>BlkOf az k o∨k=s) w W)).trans' hmd.out (fun k o hk h=>by omega)).trans' m (fun k o hk h => ?_)
                  rcases h with h | h
                  · rcases tz with h2 | h2
                    · exact .inl ⟨_,h2.2.2.2.2,h.symm⟩
                    · omega
                  · omega
                · have h1:=stkIs_mod hst hwc (fun o h=>by omega) (fun k o h1 h2 h3=>by omega)
                  rcases h1 with h1 | ⟨q,a,l,c,h1,h2,h3⟩
                  · exact .inl h1
                  · exact .inr ⟨q,a,l,c,h1,by omega,fun A hA=>by have:=h3 A hA;omega⟩)
              have HFR:=Lib.hid (show ∀ b,(b=bz∨b=bu∨wr.heap.size≤b)→(some (⟨b,0,none⟩:Addr)=az∨Fresh w (some ⟨b,0,none⟩)) from fun b hb=>by
                rcases hb with h | h | h
                · subst h
                  rcases tz with h2 | h2
                  · exact .inl h2.2.2.2.2.symm
                  · exact .inr ⟨_,rfl,by omega⟩
                · subst h
                  exact .inr ⟨_,rfl,by omega⟩
                · exact .inr ⟨_,rfl,by omega⟩)
              clear hA11 hn11 hm11 hfr11 t1 t2 t3 t4 t5 t6 t7 t8 t9 t10 t11 t12 tz tu hA10 hR0 hmd10 hone hMr hbol HMK2 q0' hcp
              have hny1:=HNN.out.2.2.1
              obtain ⟨wP,rfl⟩:∃ wP,wP=wr:=⟨_,rfl⟩
              go_wp2_with fail
              go_loopw [0,17,21] (fun s0 s17 s21 wx=>∃ (i z cz q cq v:Nat),s0=.slice (some ⟨z,0,none⟩) n cz∧s17=.slice (some ⟨q,0,none⟩) n cq∧s21=.int .i64 ((i:Int) - 1)∧Hid (i≤ny)∧Hid (PgSt wP vm vx n bz bu z cz q cq v (expAt fy ny i 64) wx)) (fun _ _ s21 _=>(intOf s21+1).toNat)
              case atStart =>
                refine ⟨ny,bz,c9,bu,c11,v0,rfl,rfl,rfl,Nat.le_refl _,?_⟩
                have h1:expAt fy ny ny 64=0:=by
                  obtain ⟨d,hd⟩:∃ d,ny=d+1:=⟨ny - 1,by omega⟩
                  have h2:=expAt_next fy ny d
                  have h3:=expAt_top (f:=fy) (n:=ny) (fun j hj=>HY.out.arr.words j (by have:=HY.out.le;omega)) hny1
                  rw [hd] at h2 h3 ⊢
                  rw [h2];exact h3
                rw [h1]
                exact HSTART.out
              case round =>
                clear HSTART HV0 HA10
                obtain ⟨i,z,cz1,q,cq1,v,rfl,rfl,rfl,hi,hst⟩:=hrel
                by_cases hi0:i=0
                · subst hi0
                  have d1:¬ (0:Int)≤((0:Nat):Int) - 1:=by omega
                  have HEND:=Lib.hid (show PgSt wP vm vx n bz bu z cz1 q cq1 v vy wr from by have:=hst.out;rw [expAt_end,HY.out.val] at this;exact this)
                  have HL:=Lib.hid (HBASE.out.last HEND.out)
                  clear hst hi
                  go_wp2_with fail
                  refine HL.out.mono ?_
                  rintro e w12 ⟨b12,c12,v12,rfl,hN12,hv12,hle12,hm12,hb12⟩
                  have hMm:=(HBASE.out.keep hm12).2.2
                  have HC:=Lib.hid (cmp_num b12 bm n c12 cm v12 vm w12 hN12 hMm.toNum (by omega) (by omega))
                  by_cases hlt:v12<vm
                  · rw [cmpV_lt hlt] at HC
                    obtain ⟨⟨f12,hA12,hvv⟩,hl12⟩:=hN12
                    have HNORM:=Lib.hid (fun q=>norm_any (some ⟨b12,0,none⟩) n c12 (w12.drewN q) f12 (hA12.drewN q) hl12 (by omega))
                    have HRES:=Lib.hid (fun q m (hnat:NatIs (w12.drewN q) (some ⟨b12,0,none⟩) m c12 f12 (val f12 n))=>(show ExpRet w s az (vx^vy%vm) (.returned (.slice (some ⟨b12,0,none⟩) m c12)) (w12.drewN q) from by
                      obtain ⟨r1,r2⟩:=HFIN.out (w12.drewN q) (hm12.drewN q)
                      rw [hvv,← Nat.mod_eq_of_lt hlt,hv12] at hnat
                      exact ⟨_,_,_,_,rfl,hnat,HFR.out b12 hb12,r1,r2⟩))
                    clear hv12 hle12 hm12 hb12 hMm hlt HL hA12 hvv hl12
                    go_wp2_with fail
                    refine HC.out.mono ?_
                    rintro e w13 ⟨rfl,q,rfl⟩
                    go_wp2_with fail
                    refine (HNORM.out q).mono ?_
                    rintro e w14 ⟨m,rfl,hw14,_,hnat⟩
                    obtain rfl:=hw14.symm
                    have RES:=Lib.hid (HRES.out q m hnat)
                    clear hnat hw14 HRES HNORM HC
                    go_wp2_with fail
                    go_ret
                    exact RES.out
                  · have heq:v12=vm:=by omega
                    rw [heq,cmpV_eq] at HC
                    rw [heq] at hv12 hN12
                    obtain ⟨⟨f12,hA12,hvv⟩,hl12⟩:=hN12
                    have hvb:=HM.out.ge (by omega)
                    have htop:f12 (n - 1)≠0:=fun h0=>by
                      have h1:val f12 n=val f12 (n - 1):=val_drop (by omega) fun j h1 h2=>by obtain rfl:j=n - 1:=(by omega);exact h0
                      have h2:=val_lt (f:=f12) (n:=n - 1) (fun j hj=>hA12.words j (by omega))
                      omega
                    have hX12:NatIs w12 (some ⟨b12,0,none⟩) n c12 f12 vm:=⟨hA12,hl12,hvv,.inr htop⟩
                    have HSUB:=Lib.hid (fun q=>natSub_any (some ⟨b12,0,none⟩) (some ⟨b12,0,none⟩) (some ⟨bm,0,none⟩) n c12 n c12 n cm vm vm (w12.drewN q) f12 f12 fm (hA12.drewN q) hl12 (hX12.drewN q) (hMm.drewN q) (by omega) (Nat.le_refl _))
                    have HV12:=Lib.hid (And.intro hv12 (And.intro hm12 hb12))
                    clear hv12 hm12 hb12 hle12 hMm hlt heq hA12 hvv hl12 hvb htop hX12 HL
                    go_wp2_with fail
                    refine HC.out.mono ?_
                    rintro e w13 ⟨rfl,q,rfl⟩
                    go_wp2_with fail
                    refine (HSUB.out q).mono ?_
                    rintro e w15 ⟨a15,n15,c15,f15,rfl,hN15,hm15,hfr15⟩
                    rw [Nat.sub_self] at hN15
                    obtain ⟨hv12,hm12,hb12⟩:=HV12.out
                    have hmP:Mod (fun k _=>k=bz∨k=bu) wP w15:=(hm12.drewN q).trans' hm15 (fun k o hk hh=>by
                      obtain ⟨A,hA,h⟩:=hh
                      injection hA with hA
                      subst hA
                      have h9:b12=k:=h
                      omega)
                    have hM15:=(HBASE.out.keep hmP).2.2
                    have hn15:=hN15.len_le (m:=0) (by decide)
                    have HC2:=Lib.hid (cmp_any a15 (some ⟨bm,0,none⟩) n15 c15 n cm 0 vm f15 fm w15 hN15 hM15 (by omega) (by omega))
                    rw [cmpV_lt HVM.out] at HC2
                    have HNORM:=Lib.hid (fun q=>norm_any a15 n15 c15 (w15.drewN q) f15 (hN15.arr.drewN q) hN15.le (by omega))
                    have hsz:w.heap.size≤(w12.drewN q).heap.size:=by
                      have h1:=hm12.size
                      have h2:=(HFIN.out w12 hm12).1.size
                      exact h2
                    have HRES:=Lib.hid (fun q2 m (hnat:NatIs (w15.drewN q2) a15 m c15 f15 (val f15 n15))=>(show ExpRet w s az (vx^vy%vm) (.returned (.slice a15 m c15)) (w15.drewN q2) from by
                      obtain ⟨r1,r2⟩:=HFIN.out (w15.drewN q2) (hmP.drewN q2)
                      rw [hN15.val] at hnat
                      rw [← hv12,Nat.mod_self]
                      refine ⟨_,_,_,_,rfl,hnat,?_,r1,r2⟩
                      rcases hfr15 with h | ⟨q3,h,hq3⟩
                      · rw [h];exact HFR.out b12 hb12
                      · exact .inr ⟨q3,h,by omega⟩))
                    clear hv12 hm12 hb12 hmP hM15 hn15 hN15 hm15 hfr15 hsz HSUB HV12 HC
                    go_wp2_with fail
                    refine HC2.out.mono ?_
                    rintro e w16 ⟨rfl,q2,rfl⟩
                    go_wp2_with fail
                    refine (HNORM.out q2).mono ?_
                    rintro e w17 ⟨m,rfl,hw17,_,hnat⟩
                    obtain rfl:=hw17.symm
                    have RES:=Lib.hid (HRES.out q2 m hnat)
                    clear hnat hw17 HRES HNORM HC2
                    go_wp2_with fail
                    go_ret
                    exact RES.out
                · obtain ⟨i',rfl⟩:∃ i',i=i'+1:=⟨i - 1,by omega⟩
                  have hi1:=hi.out
                  have e0:((i'+1:Nat):Int) - 1=(i':Int):=by omega
                  have e1:(i':Int)<(ny:Int):=by omega
                  have e2:(0:Int)≤(i':Int):=by omega
                  obtain ⟨y1,_,y3⟩:=(HYF.out _ hst.out.mod).arr.vec i' (by have:=HY.out.le;omega)
                  rw [Nat.zero_add] at y1
                  have HIN:=Lib.hid (show PgSt wP vm vx n bz bu z cz1 q cq1 v (expAt fy ny i' 0) wr from by have:=hst.out;rw [expAt_next] at this;exact this)
                  have HY3:=Lib.hid y3
                  clear hst hi0 y3
                  rw [e0]
                  go_wp2_with fail
                  clear y1
                  go_loopw [0,17,22,23] (fun s0 s17 s22 s23 wx=>∃ (j z cz q cq v y:Nat),s0=.slice (some ⟨z,0,none⟩) n cz∧s17=.slice (some ⟨q,0,none⟩) n cq∧s22=U y∧s23=.int .i64 (j:Int)∧Hid (j≤64∧j%4=0∧y=fy i'*2^j%B64)∧Hid (PgSt wP vm vx n bz bu z cz q cq v (expAt fy ny i' j) wx)) (fun _ _ _ s23 _=>(64 - intOf s23).toNat)
                  case atStart=>exact ⟨0,z,cz1,q,cq1,v,fy i',rfl,rfl,rfl,rfl,⟨by omega,rfl,by rw [Nat.pow_zero,Nat.mul_one,Nat.mod_eq_of_lt HY3.out]⟩,HIN.out⟩
                  case round =>
                    clear HIN
                    obtain ⟨j,z,cz1,q,cq1,v,y,rfl,rfl,rfl,rfl,hj,hst⟩:=hrel
                    by_cases hj64:j=64
                    · subst hj64
                      have d1:¬ ((64:Nat):Int)<64:=by omega
                      have d2:IntKind.i64.wrap ((i':Int) - 1)=(i':Int) - 1:=by rw [IntKind.wrap_i64];omega
                      go_wp2_with fail
                      go_roundw
                      case rel=>exact ⟨i',z,cz1,q,cq1,v,rfl,rfl,rfl,(show i'≤ny by omega),hst.out⟩
                      case measure=>first | (simp [intOf];done) | (simp [intOf];omega)
                    · have d1:(j:Int)<64:=by have:=hj.out.1;omega
                      have HJ:=Lib.hid (show j+4≤64 by have:=hj.out.1;have:=hj.out.2.1;omega)
                      clear hj64
                      have b1:IntKind.i64.wrap ((ny:Int) - 1)=(ny:Int) - 1:=by rw [IntKind.wrap_i64];have:=HNN.out.2.2.2;omega
                      go_upto_region 42 with fail
                      go_cut [168] from 160 to 168 (fun s168 wx=>s168=.bool (decide (¬ (i'+1=ny∧j=0)))∧wx=wr)
                      case first =>
                        by_cases ha:i'+1=ny
                        · have b2:((i':Int) != (ny:Int) - 1)=false:=by simp;omega
                          by_cases hb:j=0
                          · subst hb
                            go_wp2_with fail
                            go_meet
                            case rel=>simp [ha]
                          · have b3:((j:Int) != 0)=true:=by simp;omega
                            go_wp2_with fail
                            go_meet
                            case rel=>simp [hb]
                        · have b2:((i':Int) != (ny:Int) - 1)=true:=by simp;omega
                          go_wp2_with fail
                          go_meet
                          case rel=>simp [ha]
                      case rest =>
                        obtain ⟨rfl,rfl⟩:=hcut
                        go_upto_if 168 with fail
                        go_cut [0,17] from 168 to 196 (fun s0 s17 wx=>∃ z cz q cq v,s0=.slice (some ⟨z,0,none⟩) n cz∧s17=.slice (some ⟨q,0,none⟩) n cq∧Hid (PgSt wP vm vx n bz bu z cz q cq v (16*expAt fy ny i' j) wx))
                        case first =>
                          by_cases hc:i'+1=ny∧j=0
                          · have hc1:decide (¬ (i'+1=ny∧j=0))=false:=decide_eq_false (fun h=>h hc)
                            rw [hc1]
                            have HR:=Lib.hid (show PgSt wP vm vx n bz bu z cz1 q cq1 v (16*expAt fy ny i' j) _ from by
                              have h1:expAt fy ny i' j=0:=by
                                have h2:=expAt_top (f:=fy) (n:=ny) (fun j hj=>HY.out.arr.words j (by have:=HY.out.le;omega)) hny1
                                rw [hc.2,show i'=ny - 1 by omega];exact h2
                              have h3:=hst.out
                              rw [h1] at h3 ⊢
                              exact h3)
                            clear hc hc1
                            go_wp2_with fail
                            go_meet
                            case rel=>exact ⟨z,cz1,q,cq1,v,rfl,rfl,HR.out⟩
                          · have hc1:decide (¬ (i'+1=ny∧j=0))=true:=decide_eq_true hc
                            rw [hc1]
                            clear hc hc1
                            have HQ1:=Lib.hid (HBASE.out.sq hst.out)
                            go_wp2_with fail
                            refine HQ1.out.mono ?_
                            rintro e x1 ⟨y1,g1,r1,rfl,hs1⟩
                            have PS1:=Lib.hid hs1
                            clear hs1 HQ1
                            have HQ2:=Lib.hid (HBASE.out.sq PS1.out)
                            go_wp2_with fail
                            refine HQ2.out.mono ?_
                            rintro e x2 ⟨y2,g2,r2,rfl,hs2⟩
                            have PS2:=Lib.hid hs2
                            clear hs2 HQ2
                            have HQ3:=Lib.hid (HBASE.out.sq PS2.out)
                            go_wp2_with fail
                            refine HQ3.out.mono ?_
                            rintro e x3 ⟨y3,g3,r3,rfl,hs3⟩
                            have PS3:=Lib.hid hs3
                            clear hs3 HQ3
                            have HQ4:=Lib.hid (HBASE.out.sq PS3.out)
                            go_wp2_with fail
                            refine HQ4.out.mono ?_
                            rintro e x4 ⟨y4,g4,r4,rfl,hs4⟩
                            have PS4:=Lib.hid hs4
                            clear hs4 HQ4
                            go_wp2_with fail
                            go_meet
                            case rel=>exact ⟨_,_,_,_,_,rfl,rfl,by have h:=PS4.out;rw [show 2*(2*(2*(2*expAt fy ny i' j)))=16*expAt fy ny i' j by omega] at h;exact h⟩
                        case rest =>
                          obtain ⟨z3,cz3,q3,cq3,v3,rfl,rfl,hp3⟩:=hcut
                          obtain ⟨dg,hdg⟩:∃ d,d=y/1152921504606846976:=⟨_,rfl⟩
                          have hyb:y<B64:=by rw [hj.out.2.2];exact Nat.mod_lt _ B64_pos
                          have hd16:dg<16:=by rw [hdg];rw [B64_eq] at hyb;omega
                          have g1:(y:Int)/1152921504606846976=(dg:Int):=by rw [hdg];simp
                          have g2:(dg:Int)<16:=by omega
                          have g3:(0:Int)≤(dg:Int):=by omega
                          obtain ⟨y',hy'⟩:∃ y',y'=y*16%B64:=⟨_,rfl⟩
                          have g4:IntKind.u64.wrap ((y:Int)*16)=(y':Int):=by rw [IntKind.wrap_u64,hy',B64_eq];omega
                          have g5:IntKind.i64.wrap ((j:Int)+4)=(j:Int)+4:=by rw [IntKind.wrap_i64];have:=HJ.out;omega
                          obtain ⟨bt,ct,hct,hcall⟩:=HBASE.out.mulp hp3.out hd16
                          have HCALL:=Lib.hid (hcall _ (.refl _ _))
                          have HNX:=Lib.hid (show y'=fy i'*2^(j+4)%B64∧16*expAt fy ny i' j+dg=expAt fy ny i' (j+4) by
                            constructor
                            · rw [hy',hj.out.2.2,Nat.mod_mul_mod,Nat.pow_add,Nat.mul_assoc]
                            · rw [expAt_step (fun j hj=>HY.out.arr.words j (by have:=HY.out.le;omega)) (by omega) HJ.out,hdg,hj.out.2.2])
                          have HJ4:=Lib.hid hj.out.2.1
                          clear hyb hdg hy' hcall hst hj hd16
                          go_wp2_with fail
                          refine HCALL.out.mono ?_
                          rintro e x9 ⟨b9,c9',v9,rfl,hs9⟩
                          have HS9:=Lib.hid hs9
                          clear hs9 HCALL hct
                          go_wp2_with fail
                          go_roundw
                          case rel=>exact ⟨j+4,b9,c9',z3,cz3,v9,y',rfl,rfl,rfl,(by first | rfl | simp),⟨HJ.out,by have:=HJ4.out;omega,HNX.out.1⟩,by have h:=HS9.out;rw [HNX.out.2] at h;exact h⟩
                          case measure=>have:=HJ.out;first | (simp [intOf];done) | (simp [intOf];omega)
end Go.Proofs.YtpfmbfkhjapbbaaGreatDoor
