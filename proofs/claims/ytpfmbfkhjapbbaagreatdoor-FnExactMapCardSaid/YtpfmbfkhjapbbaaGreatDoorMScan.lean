/-
  big's nat.scan in base 10, at a text of decimal digits: the number that it tells. Conditions: 1 to 1000 digits; io.EOF holds an errors.errorString's pointer.
-/
import Derived.Test.YtpfmbfkhjapbbaaGreatDoorMg04
import Derived.LaidEql
set_option linter.unusedVariables false
set_option linter.unusedSimpArgs false
namespace Go.Proofs.YtpfmbfkhjapbbaaGreatDoor
open Go Go.RowKit
def numOf (b:Nat) (D:Nat→Nat):Nat→Nat
  | 0=>0
  | k+1=>numOf b D k*b+D k
theorem numOf_lt {b:Nat} {D:Nat→Nat} {n:Nat} (hD:∀ j,j<n→D j<b):∀ k,k≤n→numOf b D k<b^k
  | 0,_=>by simp [numOf]
  | k+1,h=>by
    have h1:=numOf_lt hD k (by omega)
    have h2:=hD k (by omega)
    have h3:(numOf b D k+1)*b≤b^k*b:=Nat.mul_le_mul_right _ h1
    rw [Nat.pow_succ]
    simp only [numOf]
    rw [Nat.add_mul] at h3
    omega
theorem info254:(Tryz.prog.info? 254).isSome=true∧((Tryz.prog.info? 254).map (·.comparable))=some true:=⟨by kernel_rfl,by kernel_rfl⟩
theorem info316:(Tryz.prog.info? 316).isSome=true:=by kernel_rfl
theorem eof_eql (a:Addr) (w:World):(binOp .eql 95 (.iface 254 (.pointer (some a))) (.iface 254 (.pointer (some a)))).run Tryz.prog w=.ok (.bool true) w:=by
  obtain ⟨i,hi⟩:=Option.isSome_iff_exists.1 info254.1
  obtain ⟨j,hj⟩:=Option.isSome_iff_exists.1 info316
  have hc:=info254.2
  rw [hi] at hc
  exact run_eql_iface_ptr_same w a Tryz.underlying95 Tryz.underlying254 hi (by simpa using hc) hj
theorem eof_neq (a:Addr) (w:World):(binOp .neq 95 (.iface 254 (.pointer (some a))) (.iface 254 (.pointer (some a)))).run Tryz.prog w=.ok (.bool false) w:=by
  obtain ⟨i,hi⟩:=Option.isSome_iff_exists.1 info254.1
  obtain ⟨j,hj⟩:=Option.isSome_iff_exists.1 info316
  have hc:=info254.2
  rw [hi] at hc
  simp only [binOp]
  simp [Op.equal,Op.maxDepth,run_equalIn_iface_ptr_same w 9998 a Tryz.underlying95 Tryz.underlying254 hi (by simpa using hc) hj]
def Eof (w:World) (ea:Addr):Prop:=w.cell? ⟨0,0,none⟩=some (.iface 254 (.pointer (some ea)))
structure Dec (w wr:World) (rb:Nat) (s:ByteArray) (D:Nat→Nat) (k i di:Nat) (a:Option Addr) (nn c:Nat) (f:Nat→Nat) (V:Nat):Prop where
  num:NatIs wr a nn c f V
  here:a=none∨Fresh w a
  mod:Mod (InB rb) w wr
  val:V*10^i+di=numOf 10 D k
  small:di<10^i
  room:i<19
  rd:Rd wr rb s (min (k+1) s.size)
theorem Fresh.mono {w wr:World} {a:Option Addr} (h:Fresh wr a) (hs:w.heap.size≤wr.heap.size):Fresh w a:=by
  obtain ⟨k,e,hk⟩:=h
  exact ⟨k,e,by omega⟩
theorem grow {w wr:World} {rb:Nat} {s:ByteArray} {pos v:Nat} {a:Option Addr} {e:Ending} {w':World} (hm:Mod (InB rb) w wr) (ha:a=none∨Fresh w a) (hr:Rd wr rb s pos) (hrb:rb<w.heap.size) (h:NatRet wr a v e w') :
    ∃ a' n c f,e=.returned (.slice a' n c)∧NatIs w' a' n c f v∧(a'=none∨Fresh w a')∧Mod (InB rb) w w'∧Rd w' rb s pos:=by
  obtain ⟨a',n,c,f,rfl,h1,h2,h3⟩:=h
  have hoff:∀ k o,k<w.heap.size→¬ BlkOf a k o:=by
    rintro k o hk ⟨A,rfl,rfl⟩
    rcases ha with h | ⟨k',e,hk'⟩
    · cases h
    · have:A.block=k':=congrArg Addr.block (Option.some.inj e)
      omega
  refine ⟨a',n,c,f,rfl,h1,?_,hm.trans' h2 fun k o hk hb=>(hoff k o hk hb).elim,hr.mod h2 fun o=>hoff rb o hrb⟩
  rcases h3 with rfl | h3
  · exact ha
  · exact .inr (h3.mono hm.size)
theorem off_reader {w:World} {rb:Nat} {a:Option Addr} (ha:a=none∨Fresh w a) (hrb:rb<w.heap.size):Off a (InB rb):=by
  intro A hA o ho
  rcases ha with rfl | ⟨k',e,hk'⟩
  · cases hA
  · have h1:A.block=k':=congrArg Addr.block (Option.some.inj (hA.symm.trans e))
    unfold InB at ho
    omega
theorem Dec.part {w wr w':World} {rb:Nat} {s:ByteArray} {D:Nat→Nat} {k i d:Nat} {a:Option Addr} {nn c:Nat} {f:Nat→Nat} {V:Nat} (h:Dec w wr rb s D k i d a nn c f V) (hD:D k<10) (hi:i<18) (hrb:rb<w.heap.size)
    (hm:Mod (InB rb) wr w') (hr:Rd w' rb s (min (k+2) s.size)):Dec w w' rb s D (k+1) (i+1) (d*10+D k) a nn c f V :=
  ⟨h.num.mod hm (off_reader h.here hrb),h.here,h.mod.trans hm,by
    have:=h.val
    simp only [numOf]
    rw [← this,Nat.pow_succ,Nat.add_mul]
    have:V*(10^i*10)=V*10^i*10:=by ac_rfl
    omega,by have:=h.small;rw [Nat.pow_succ];omega,by omega,hr⟩
theorem Dec.full {w wr w':World} {rb:Nat} {s:ByteArray} {D:Nat→Nat} {k d:Nat} {a a':Option Addr} {nn c n' c':Nat} {f f':Nat→Nat} {V:Nat} (h:Dec w wr rb s D k 18 d a nn c f V)
    (hn:NatIs w' a' n' c' f' (V*10000000000000000000+(d*10+D k))) (ha:a'=none∨Fresh w a') (hm:Mod (InB rb) w w') (hr:Rd w' rb s (min (k+2) s.size)) :
    Dec w w' rb s D (k+1) 0 0 a' n' c' f' (V*10000000000000000000+(d*10+D k)) :=
  ⟨hn,ha,hm,by
    have:=h.val
    simp only [numOf]
    rw [← this]
    omega,by decide,by decide,hr⟩
theorem next_byte (rb k:Nat) (s:ByteArray) (w:World) (ea:Addr) (D:Nat→Nat) (hD:∀ j,(h:j<s.size)→s[j].toNat=48+D j∧D j<10) (hk:k<s.size) (h:Rd w rb s (min (k+1) s.size)) (hs:s.size<1099511627776) (hE:Eof w ea) (hrb:0<rb) :
    Calls Tryz.prog 292 #[.pointer (some ⟨rb,0,none⟩)] w fun e w'=>∃ ch err,e=.returned (.tuple #[.int .u8 ch,err])∧((k+1<s.size→err=.nilIface∧Value.int .u8 ch=.int .u8 (48+(D (k+1):Int)))∧(k+1=s.size→err=.iface 254 (.pointer (some ea))))∧(err=.nilIface∨err=.iface 254 (.pointer (some ea)))∧Rd w' rb s (min (k+2) s.size)∧Mod (InB rb) w w':=by
  by_cases hlt:k+1<s.size
  · rw [Nat.min_eq_left (by omega)] at h
    refine (readByte_any rb (k+1) s w h hlt hs).mono ?_
    rintro e w' ⟨rfl,h1,h2⟩
    refine ⟨_,_,rfl,⟨fun _=>⟨rfl,?_⟩,fun h=>by omega⟩,.inl rfl,?_,h2⟩
    · rw [(hD (k+1) hlt).1];simp
    · rwa [Nat.min_eq_left (by omega)]
  · rw [Nat.min_eq_right (by omega)] at h
    refine (readByte_end rb s w _ h hs hE ⟨_,_,rfl⟩ hrb).mono ?_
    rintro e w' ⟨rfl,h1,h2⟩
    refine ⟨_,_,rfl,⟨fun h=>by omega,fun _=>rfl⟩,.inr rfl,?_,h2⟩
    rwa [Nat.min_eq_right (by omega)]
set_option maxRecDepth 100000 in
set_option maxHeartbeats 1000000 in
theorem scan10 (rb:Nat) (s:ByteArray) (w:World) (ea:Addr) (D:Nat→Nat) (hD:∀ j,(h:j<s.size)→s[j].toNat=48+D j∧D j<10) (hR:Rd w rb s 0) (hE:Eof w ea) (hs:0<s.size) (hs2:s.size≤1000) (hrb:0<rb) :
    Calls Tryz.prog 122 #[.slice none 0 0,.iface 149 (.pointer (some ⟨rb,0,none⟩)),.int .i64 10,.bool false] w fun e w' =>
      ∃ a n c f,e=.returned (.tuple #[.slice a n c,.int .i64 10,.int .i64 (s.size:Int),.nilIface])∧NatIs w' a n c f (numOf 10 D s.size)∧(a=none∨Fresh w a)∧Mod (InB rb) w w'∧Rd w' rb s s.size:=by
  have heq:=eof_eql ea
  have HD:=Lib.hid hD
  have hD0:=(hD 0 hs).1
  clear hD
  go_enter Tryz.func122,Tryz.ntmps122
  go_wp2_with fail
  refine (readByte_any rb 0 s _ hR hs (by omega)).mono ?_
  rintro e w1 ⟨rfl,hR1,hm1⟩
  go_wp2_with fail
  refine (maxPow_ten _).mono ?_
  rintro e w2 ⟨rfl,rfl⟩
  go_wp2_with fail
  go_loopw [0,3,10,11,13,14,15,20,21,22] (fun z fr cnt err prev inv ch di i dp wr=>∃ (k i' d:Nat) (p:Int) (a:Option Addr) (nn c:Nat) (f:Nat→Nat) (V:Nat),k≤s.size∧z=.slice a nn c∧fr=.bool false∧cnt=.int .i64 (k:Int)∧prev=.int .i32 p∧inv=.bool false∧di=U d∧i=.int .i64 (i':Int)∧dp=.int .i64 (-1)∧(p == 95)=false∧Hid ((k<s.size→err=.nilIface∧ch=.int .u8 (48+(D k:Int)))∧(k=s.size→err=.iface 254 (.pointer (some ea))))∧Hid (Dec w wr rb s D k i' d a nn c f V)) (fun _ _ cnt _ _ _ _ _ _ _ _=>s.size - (intOf cnt).toNat)
  case atStart=>exact ⟨0,0,0,46,none,0,0,fun _=>0,0,by omega,rfl,rfl,rfl,rfl,rfl,rfl,rfl,rfl,rfl,⟨fun _=>⟨rfl,rfl⟩,fun h=>by omega⟩,⟨⟨.nil _ _,Nat.le_refl _,rfl,.inl rfl⟩,.inl rfl,hm1,rfl,by decide,by decide,by rw [Nat.min_eq_left (by omega)];exact hR1⟩⟩
  case round =>
    obtain ⟨k,i',d,p,a,nn,c,f,V,hk,rfl,rfl,rfl,rfl,rfl,rfl,rfl,rfl,hp,herr,hdec⟩:=hrel
    by_cases hlt:k<s.size
    · obtain ⟨rfl,rfl⟩:=herr.out.1 hlt
      clear herr
      have hx:=(HD.out k hlt).2
      have hro:=hdec.out.room
      have hd18:d<1000000000000000000:=Nat.lt_of_lt_of_le hdec.out.small (Nat.le_trans (Nat.pow_le_pow_right (by decide) (show i'≤18 by omega)) (by decide))
      have hsz:rb<w.heap.size:=by obtain ⟨q,hq⟩:=hR;exact lt_of_heap hq
      generalize hxk:D k=x at hx ⊢
      have Hxk:=Lib.hid hxk
      clear hxk
      have t1:((48+(x:Int)) == 46)=false:=by simp;omega
      have t2:((48+(x:Int)) == 95)=false:=by simp;omega
      have t4:(48+(x:Int) - 48)=(x:Int):=by omega
      have tp:((48:Int) == 95)=false:=by decide
      by_cases hi:i'=18
      · have t3':(((i':Int)+1) == 19)=true:=by simp;omega
        have Hi:=Lib.hid hi
        clear hi
        go_wp2_with fail
        rw [show ((d:Int)*10+(x:Int))=((d*10+x:Nat):Int) by omega]
        have hN:=hdec.out.num
        have hnn:nn≤1000000:=by
          have h1:=hdec.out.val
          have h2:=numOf_lt (b:=10) (D:=D) (n:=s.size) (fun j hj=>(HD.out j hj).2) k hk
          have h3:V≤V*10^i':=Nat.le_mul_of_pos_right _ (Nat.pow_pos (by decide))
          have h4:(10:Nat)^k≤B64^k:=Nat.pow_le_pow_left (by decide) k
          have:=hN.len_le (m:=k) (by omega)
          omega
        refine (mulAddWW_any a a nn c nn c 10000000000000000000 (d*10+x) V _ f f hN.arr hN.le hN hnn (by decide) (by rw [B64_eq];omega)).mono ?_
        intro e w4 hr4
        obtain ⟨a4,n4,c4,f4,rfl,h1,h2,h3,h4⟩:=grow hdec.out.mod hdec.out.here hdec.out.rd hsz hr4
        go_wp2_with fail
        refine (next_byte rb k s _ ea D HD.out hlt h4 (by omega) (h3.cell_some hE fun h=>by unfold InB at h;omega) hrb).mono ?_
        rintro e w5 ⟨ch,err,rfl,h5,h6,h7,h8⟩
        go_wp2_with fail
        go_roundw
        case rel =>
          refine ⟨k+1,0,0,48,a4,n4,c4,f4,V*10000000000000000000+(d*10+x),by omega,rfl,rfl,by go_num,rfl,rfl,rfl,rfl,rfl,tp,⟨fun h=>h5.1 h,fun h=>h5.2 h⟩,?_⟩
          have hd:=hdec.out
          rw [Hi.out] at hd
          have hf:=hd.full (a':=a4) (n':=n4) (c':=c4) (f':=f4) (by rw [Hxk.out];exact h1.mod h8 (off_reader h2 hsz)) h2 (h3.trans h8) h7
          rw [Hxk.out] at hf
          exact hf
        case measure=>simp [intOf];omega
      · have t3':(((i':Int)+1) == 19)=false:=by simp;omega
        have hi':i'<18:=by omega
        clear hi
        go_wp2_with fail
        refine (next_byte rb k s _ ea D HD.out hlt hdec.out.rd (by omega) (hdec.out.mod.cell_some hE fun h=>by unfold InB at h;omega) hrb).mono ?_
        rintro e w5 ⟨ch,err,rfl,h5,h6,h7,h8⟩
        go_wp2_with fail
        go_roundw
        case rel =>
          refine ⟨k+1,i'+1,d*10+x,48,a,nn,c,f,V,by omega,rfl,rfl,by go_num,rfl,rfl,by go_num,by go_num,rfl,tp,⟨fun h=>h5.1 h,fun h=>h5.2 h⟩,?_⟩
          have hd:=hdec.out.part (w':=w5) (by rw [Hxk.out];exact hx) hi' hsz h8 h7
          rw [Hxk.out] at hd
          exact hd
        case measure=>simp [intOf];omega
    · obtain rfl:=herr.out.2 (by omega)
      clear herr
      have hks:k=s.size:=by omega
      have heof:wr.cell? ⟨0,0,none⟩=some (.iface 254 (.pointer (some ea))):=hdec.out.mod.cell_some hE fun h=>by unfold InB at h;omega
      have hk0:((k:Int) == 0)=false:=by simp;omega
      have Hks:=Lib.hid hks
      clear hks
      by_cases hi0:i'=0
      · have hi0':¬ (0<i'):=by omega
        have Hi:=Lib.hid hi0
        clear hi0
        go_wp2_with fail
        refine bodyPost_ret (v:=.tuple #[.slice a nn c,.int .i64 10,.int .i64 (k:Int),.nilIface]) (by simp [results,Tryz.results122,go_sem]) rfl ?_
        have h:=hdec.out
        have hd0:d=0:=by have:=h.small;rw [Hi.out] at this;simpa using this
        have hv:V=numOf 10 D s.size:=by have:=h.val;rw [Hi.out,hd0,Hks.out] at this;simpa using this
        refine ⟨a,nn,c,f,by rw [Hks.out],hv ▸ h.num,h.here,h.mod,?_⟩
        have:=h.rd
        rwa [Hks.out,Nat.min_eq_right (by omega)] at this
      · have hi0':0<i':=by omega
        clear hi0
        go_wp2_with fail
        refine (pow_any 10 i' (by decide) (by have:=hdec.out.room;omega) _).mono ?_
        rintro e w3 ⟨rfl,rfl⟩
        have hp10:10^i'%B64=10^i':=Nat.mod_eq_of_lt (Nat.lt_of_le_of_lt (Nat.pow_le_pow_right (by omega) (show i'≤18 by have:=hdec.out.room;omega)) (by decide))
        rw [hp10]
        have hplt:10^i'<B64:=by rw [← hp10];exact Nat.mod_lt _ B64_pos
        have hdlt:d<B64:=Nat.lt_trans hdec.out.small hplt
        have Hp:=Lib.hid (rfl:10^i'=10^i')
        clear hp10
        generalize hP:10^i'=P at hplt
        have HP:=Lib.hid hP
        clear hP Hp
        go_wp2_with fail
        have hN:=hdec.out.num
        have hnn:nn≤1000000:=by
          have h1:=hdec.out.val
          have h2:=numOf_lt (b:=10) (D:=D) (n:=s.size) (fun j hj=>(HD.out j hj).2) k hk
          have h3:V≤V*10^i':=Nat.le_mul_of_pos_right _ (Nat.pow_pos (by decide))
          have h4:(10:Nat)^k≤B64^k:=Nat.pow_le_pow_left (by decide) k
          have:=hN.len_le (m:=k) (by omega)
          omega
        refine (mulAddWW_any a a nn c nn c P d V _ f f hN.arr hN.le hN hnn hplt hdlt).mono ?_
        intro e w4 hr4
        have hsz:rb<w.heap.size:=by obtain ⟨q,hq⟩:=hR;exact lt_of_heap hq
        obtain ⟨a4,n4,c4,f4,rfl,h1,h2,h3,h4⟩:=grow hdec.out.mod hdec.out.here hdec.out.rd hsz hr4
        go_wp2_with fail
        refine bodyPost_ret (v:=.tuple #[.slice a4 n4 c4,.int .i64 10,.int .i64 (k:Int),.nilIface]) (by simp [results,Tryz.results122,go_sem]) rfl ?_
        have hv:V*P+d=numOf 10 D s.size:=by have:=hdec.out.val;rw [HP.out,Hks.out] at this;exact this
        refine ⟨a4,n4,c4,f4,by rw [Hks.out],hv ▸ h1,h2,h3,?_⟩
        rwa [Hks.out,Nat.min_eq_right (by omega)] at h4
end Go.Proofs.YtpfmbfkhjapbbaaGreatDoor
