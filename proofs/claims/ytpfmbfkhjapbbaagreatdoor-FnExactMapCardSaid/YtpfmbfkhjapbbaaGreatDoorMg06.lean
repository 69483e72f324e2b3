/-
  big's nat.scan in base 0, at a text of hexadecimal digits (small letters) behind '0x': the number that it tells. Conditions: 1 to 998 digits; io.EOF holds an errors.errorString's pointer. Turned out of ScanHex by a program (gen_scanpre.py).
  addVW and subVW: a word added to a row of words, or taken off. Conditions: the rows are there, equally long; the row that is written is the one that is read, or another array's.
-/
import Derived.Test.YtpfmbfkhjapbbaaGreatDoorMScanHex
import Derived.Test.YtpfmbfkhjapbbaaGreatDoorMg05
import Derived.Lib.Builder
import Derived.Deep.RegionHeld3
import Derived.Deep.DeepCutAuto
import Derived.StillTailTactics
set_option linter.unusedVariables false
set_option linter.unusedSimpArgs false
namespace Go.Proofs.YtpfmbfkhjapbbaaGreatDoor
section
open Go Go.RowKit
theorem byte_lit (rb pos c:Nat) (s:ByteArray) (w:World) (h:Rd w rb s pos) (hp:pos<s.size) (hs:s.size<1099511627776) (hc:s[pos].toNat=c) :
    Calls Tryz.prog 292 #[.pointer (some ⟨rb,0,none⟩)] w fun e w'=>e=.returned (.tuple #[.int .u8 (c:Int),.nilIface])∧Rd w' rb s (pos+1)∧Mod (InB rb) w w':=by
  subst hc
  exact readByte_any rb pos s w h hp hs
theorem next_byteP (rb k n:Nat) (s:ByteArray) (w:World) (ea:Addr) (C:Nat→Nat) (hn:s.size=n+2) (hC:∀ j,(h:j+2<s.size)→s[j+2].toNat=C j) (hk:k<n) (h:Rd w rb s (min (k+3) s.size)) (hs:s.size<1099511627776) (hE:Eof w ea) (hrb:0<rb) :
    Calls Tryz.prog 292 #[.pointer (some ⟨rb,0,none⟩)] w fun e w'=>∃ ch err,e=.returned (.tuple #[.int .u8 ch,err])∧((k+1<n→err=.nilIface∧Value.int .u8 ch=.int .u8 (C (k+1):Int))∧(k+1=n→err=.iface 254 (.pointer (some ea))))∧Rd w' rb s (min (k+4) s.size)∧Mod (InB rb) w w':=by
  by_cases hlt:k+1<n
  · rw [Nat.min_eq_left (by omega)] at h
    refine (readByte_any rb (k+3) s w h (by omega) hs).mono ?_
    rintro e w' ⟨rfl,h1,h2⟩
    refine ⟨_,_,rfl,⟨fun _=>⟨rfl,?_⟩,fun h=>by omega⟩,?_,h2⟩
    · rw [hC (k+1) (by omega)]
    · rwa [Nat.min_eq_left (by omega)]
  · rw [Nat.min_eq_right (by omega)] at h
    refine (readByte_end rb s w _ h hs hE ⟨_,_,rfl⟩ hrb).mono ?_
    rintro e w' ⟨rfl,h1,h2⟩
    refine ⟨_,_,rfl,⟨fun h=>by omega,fun _=>rfl⟩,?_,h2⟩
    rwa [Nat.min_eq_right (by omega)]
structure HexP (w wr:World) (rb:Nat) (s:ByteArray) (D:Nat→Nat) (k q i d:Nat) (a:Option Addr) (c:Nat) (f:Nat→Nat):Prop where
  arr:Arr wr a c f
  le:q≤c
  words:∀ j,j<q→f j=numOf 16 (fun t=>D (16*j+t)) 16
  last:d=numOf 16 (fun t=>D (16*q+t)) i
  count:k=16*q+i
  room:i<16
  here:a=none∨Fresh w a
  mod:Mod (InB rb) w wr
  rd:Rd wr rb s (min (k+3) s.size)
set_option maxRecDepth 100000 in
set_option maxHeartbeats 2000000 in
theorem scanP (rb n:Nat) (s:ByteArray) (w:World) (ea:Addr) (D C:Nat→Nat) (hn:s.size=n+2) (hp0:s[0].toNat=48) (hp1:s[1].toNat=120) (hC:∀ j,(h:j+2<s.size)→s[j+2].toNat=C j) (hD:∀ j,j<n→(C j=48+D j∧D j<10)∨(C j=87+D j∧10≤D j∧D j<16)) (hR:Rd w rb s 0) (hE:Eof w ea) (hs:0<n) (hs2:s.size≤1000) (hrb:0<rb) :
    Calls Tryz.prog 122 #[.slice none 0 0,.iface 149 (.pointer (some ⟨rb,0,none⟩)),.int .i64 0,.bool false] w fun e w' =>
      ∃ a m c f,e=.returned (.tuple #[.slice a m c,.int .i64 16,.int .i64 (n:Int),.nilIface])∧NatIs w' a m c f (numOf 16 D n)∧(a=none∨Fresh w a)∧Mod (InB rb) w w'∧Rd w' rb s s.size:=by
  have heq:=eof_eql ea
  obtain ⟨i0,hinf,hz0,hz1,hz2⟩:=info121'
  have Hinf:=Lib.hid hinf
  have Hz0:=Lib.hid hz0
  have Hz1:=Lib.hid hz1
  clear hinf hz0 hz1
  have HC:=Lib.hid hC
  have HD:=Lib.hid hD
  have hC0:=hC 0 (by omega)
  have hsz:rb<w.heap.size:=by obtain ⟨q,hq⟩:=hR;exact lt_of_heap hq
  have HS:=Lib.hid hn
  have hs3:n≤1000:=by omega
  have HB0:=Lib.hid (byte_lit rb 0 48 s w hR (by omega) (by omega) hp0)
  have HB1:=Lib.hid (fun w1 (h:Rd w1 rb s 1)=>byte_lit rb 1 120 s w1 h (by omega) (by omega) hp1)
  have HB2:=Lib.hid (fun w1 (h:Rd w1 rb s 2)=>byte_lit rb 2 (C 0) s w1 h (by omega) (by omega) hC0)
  clear hC hD hp0 hp1 hC0 hn
  go_enter Tryz.func122,Tryz.ntmps122
  go_wp2_with fail
  refine HB0.out.mono ?_
  rintro e wa ⟨rfl,hRa,hma⟩
  have HB1':=Lib.hid (HB1.out wa hRa)
  clear HB1 HB0 hRa
  go_wp2_with fail
  refine HB1'.out.mono ?_
  rintro e wb ⟨rfl,hRb,hmb⟩
  have HB2':=Lib.hid (HB2.out wb hRb)
  clear HB2 HB1' hRb
  go_wp2_with fail
  refine HB2'.out.mono ?_
  rintro e w1 ⟨rfl,hR1,hmc⟩
  have hm1:=(hma.trans hmb).trans hmc
  clear hma hmb hmc HB2'
  go_wp2_with fail
  go_loopw [0,3,10,11,13,14,15,20,21,22] (fun z fr cnt err prev inv ch di i dp wr=>∃ (k q i' d:Nat) (p:Int) (a:Option Addr) (c:Nat) (f:Nat→Nat),k≤n∧z=.slice a q c∧fr=.bool false∧cnt=.int .i64 (k:Int)∧prev=.int .i32 p∧inv=.bool false∧di=U d∧i=.int .i64 (i':Int)∧dp=.int .i64 (-1)∧(p == 95)=false∧Hid ((k<n→err=.nilIface∧ch=.int .u8 (C k:Int))∧(k=n→err=.iface 254 (.pointer (some ea))))∧Hid (HexP w wr rb s D k q i' d a c f)) (fun _ _ cnt _ _ _ _ _ _ _ _=>n - (intOf cnt).toNat)
  case atStart=>exact ⟨0,0,0,0,48,none,0,fun _=>0,by omega,rfl,rfl,rfl,rfl,rfl,rfl,rfl,rfl,rfl,⟨fun _=>⟨rfl,rfl⟩,fun h=>by omega⟩,⟨.nil _ _,Nat.le_refl _,fun j hj=>by omega,rfl,rfl,by decide,.inl rfl,hm1,by rw [Nat.min_eq_left (by have:=HS.out;omega)];exact hR1⟩⟩
  case round =>
    obtain ⟨k,q,i',d,p,a,c,f,hk,rfl,rfl,rfl,rfl,rfl,rfl,rfl,rfl,hp,herr,hhex⟩:=hrel
    by_cases hlt:k<n
    · obtain ⟨rfl,rfl⟩:=herr.out.1 hlt
      clear herr
      have hx:=HD.out k hlt
      have hro:=hhex.out.room
      have hdl:d<16^i':=by rw [hhex.out.last];exact numOf_lt (n:=i') (fun j hj=>by
        have:=hhex.out.count
        rcases HD.out (16*q+j) (by omega) with h | h <;> omega) i' (Nat.le_refl _)
      have hd15:d<1152921504606846976:=Nat.lt_of_lt_of_le hdl (Nat.le_trans (Nat.pow_le_pow_right (by decide) (show i'≤15 by omega)) (by decide))
      have Hdl:=Lib.hid hdl
      clear hdl
      generalize hxk:D k=x at hx ⊢
      have Hxk:=Lib.hid hxk
      clear hxk
      generalize hyk:C k=y at hx ⊢
      clear hyk
      have tp:((48:Int) == 95)=false:=by decide
      rcases hx with ⟨rfl,hx⟩ | ⟨rfl,hx10,hx⟩
      · have t1:((48+(x:Int)) == 46)=false:=by simp;omega
        have t2:((48+(x:Int)) == 95)=false:=by simp;omega
        have t4:(48+(x:Int) - 48)=(x:Int):=by omega
        by_cases hi:i'=15
        · have t3':(((i':Int)+1) == 16)=true:=by simp;omega
          have Hi:=Lib.hid hi
          clear hi
          have hle:=hhex.out.le
          have hqs:q≤1000:=by have:=hhex.out.count;omega
          have hcast:((d:Int)*16+(x:Int))=((d*16+x:Nat):Int):=by omega
          have hlt2:d*16+x<B64:=by rw [B64_eq];omega
          have Hcast:=Lib.hid hcast
          clear hcast
          go_wp2_with (at_builtin;rw [Hcast.out];refine wpList_append_g rfl (.tmp 193) (.tmp 195) 49 121 rfl i0 (.int .u64 0) Tryz.underlying49 Hinf.out Hz0.out rfl Hz1.out hz2 a q c (fun j=>U (f j)) rfl ?hA hle wr.heap.size 0 1 1 rfl (fun _=>U (d*16+x)) ?hx (by omega) (by omega) ?hK)
          case hA=>exact ((hhex.out.arr.toG).mod ((Mod.refl NoP _).alloc _) (Off.noP _))
          case hx =>
            intro j hj
            obtain rfl:j=0:=by omega
            exact ⟨by rw [cell?_of_heap (heap_alloc_new wr _)];rfl,rfl⟩
          case hK =>
            intro a' c' g' w' hap
            obtain ⟨f',hA',hold,hnew⟩:=appended_word hap (fun j hj=>hhex.out.arr.words j hj) hlt2 hle hhex.out.arr.cap
            have hle':=hap.le
            have hmall:Mod (InB rb) w w':=(hhex.out.mod.alloc _).trans' hap.mod fun k' o hk' e=>(new_off hhex.out.here hk' e).elim
            have hhere:a'=none∨Fresh w a':=by
              rcases hap.here with rfl | h
              · exact hhex.out.here
              · exact .inr (h.mono (hhex.out.mod.alloc _).size)
            have hrd':Rd w' rb s (min (k+3) s.size):=(hhex.out.rd.mod ((Mod.refl NoP _).alloc _) fun _ h=>h).mod hap.mod fun o=>new_off hhex.out.here hsz
            have Hold:=Lib.hid hold
            have Hnew:=Lib.hid hnew
            clear hap hold hnew
            go_wp2_with fail
            refine (next_byteP rb k n s _ ea C HS.out HC.out hlt hrd' (by omega) (hmall.cell_some hE fun h=>by unfold InB at h;omega) hrb).mono ?_
            rintro e w5 ⟨ch,err,rfl,h5,h7,h8⟩
            go_wp2_with fail
            go_roundw
            case rel =>
              refine ⟨k+1,q+1,0,0,48,a',c',f',by omega,rfl,rfl,by go_num,rfl,rfl,rfl,rfl,rfl,tp,h5,?_⟩
              have h:=hhex.out
              refine ⟨hA'.mod h8 (off_reader hhere hsz),hle',fun j hj => ?_,rfl,by have:=h.count;have:=Hi.out;omega,by decide,hhere,hmall.trans h8,h7⟩
              by_cases hjq:j<q
              · rw [Hold.out j hjq];exact h.words j hjq
              · obtain rfl:j=q:=by omega
                rw [Hnew.out,h.last,Hi.out,← Hxk.out,h.count,Hi.out]
                rfl
            case measure=>simp [intOf];omega
        · have t3':(((i':Int)+1) == 16)=false:=by simp;omega
          have hi':i'<15:=by omega
          clear hi
          go_wp2_with fail
          refine (next_byteP rb k n s _ ea C HS.out HC.out hlt hhex.out.rd (by omega) (hhex.out.mod.cell_some hE fun h=>by unfold InB at h;omega) hrb).mono ?_
          rintro e w5 ⟨ch,err,rfl,h5,h7,h8⟩
          go_wp2_with fail
          go_roundw
          case rel =>
            refine ⟨k+1,q,i'+1,d*16+x,48,a,c,f,by omega,rfl,rfl,by go_num,rfl,rfl,by go_num,by go_num,rfl,tp,h5,?_⟩
            have h:=hhex.out
            exact ⟨h.arr.mod h8 (off_reader h.here hsz),h.le,h.words,by
              simp only [numOf]
              rw [← h.last,← h.count,Hxk.out],by have:=h.count;omega,by omega,h.here,h.mod.trans h8,h7⟩
          case measure=>simp [intOf];omega
      · have t1:((87+(x:Int)) == 46)=false:=by simp;omega
        have t2:((87+(x:Int)) == 95)=false:=by simp;omega
        have t4:(87+(x:Int) - 97+10)=(x:Int):=by omega
        by_cases hi:i'=15
        · have t3':(((i':Int)+1) == 16)=true:=by simp;omega
          have Hi:=Lib.hid hi
          clear hi
          have hle:=hhex.out.le
          have hqs:q≤1000:=by have:=hhex.out.count;omega
          have hcast:((d:Int)*16+(x:Int))=((d*16+x:Nat):Int):=by omega
          have hlt2:d*16+x<B64:=by rw [B64_eq];omega
          have Hcast:=Lib.hid hcast
          clear hcast
          go_wp2_with (at_builtin;rw [Hcast.out];refine wpList_append_g rfl (.tmp 193) (.tmp 195) 49 121 rfl i0 (.int .u64 0) Tryz.underlying49 Hinf.out Hz0.out rfl Hz1.out hz2 a q c (fun j=>U (f j)) rfl ?hA hle wr.heap.size 0 1 1 rfl (fun _=>U (d*16+x)) ?hx (by omega) (by omega) ?hK)
          case hA=>exact ((hhex.out.arr.toG).mod ((Mod.refl NoP _).alloc _) (Off.noP _))
          case hx =>
            intro j hj
            obtain rfl:j=0:=by omega
            exact ⟨by rw [cell?_of_heap (heap_alloc_new wr _)];rfl,rfl⟩
          case hK =>
            intro a' c' g' w' hap
            obtain ⟨f',hA',hold,hnew⟩:=appended_word hap (fun j hj=>hhex.out.arr.words j hj) hlt2 hle hhex.out.arr.cap
            have hle':=hap.le
            have hmall:Mod (InB rb) w w':=(hhex.out.mod.alloc _).trans' hap.mod fun k' o hk' e=>(new_off hhex.out.here hk' e).elim
            have hhere:a'=none∨Fresh w a':=by
              rcases hap.here with rfl | h
              · exact hhex.out.here
              · exact .inr (h.mono (hhex.out.mod.alloc _).size)
            have hrd':Rd w' rb s (min (k+3) s.size):=(hhex.out.rd.mod ((Mod.refl NoP _).alloc _) fun _ h=>h).mod hap.mod fun o=>new_off hhex.out.here hsz
            have Hold:=Lib.hid hold
            have Hnew:=Lib.hid hnew
            clear hap hold hnew
            go_wp2_with fail
            refine (next_byteP rb k n s _ ea C HS.out HC.out hlt hrd' (by omega) (hmall.cell_some hE fun h=>by unfold InB at h;omega) hrb).mono ?_
            rintro e w5 ⟨ch,err,rfl,h5,h7,h8⟩
            go_wp2_with fail
            go_roundw
            case rel =>
              refine ⟨k+1,q+1,0,0,48,a',c',f',by omega,rfl,rfl,by go_num,rfl,rfl,rfl,rfl,rfl,tp,h5,?_⟩
              have h:=hhex.out
              refine ⟨hA'.mod h8 (off_reader hhere hsz),hle',fun j hj => ?_,rfl,by have:=h.count;have:=Hi.out;omega,by decide,hhere,hmall.trans h8,h7⟩
              by_cases hjq:j<q
              · rw [Hold.out j hjq];exact h.words j hjq
              · obtain rfl:j=q:=by omega
                rw [Hnew.out,h.last,Hi.out,← Hxk.out,h.count,Hi.out]
                rfl
            case measure=>simp [intOf];omega
        · have t3':(((i':Int)+1) == 16)=false:=by simp;omega
          have hi':i'<15:=by omega
          clear hi
          go_wp2_with fail
          refine (next_byteP rb k n s _ ea C HS.out HC.out hlt hhex.out.rd (by omega) (hhex.out.mod.cell_some hE fun h=>by unfold InB at h;omega) hrb).mono ?_
          rintro e w5 ⟨ch,err,rfl,h5,h7,h8⟩
          go_wp2_with fail
          go_roundw
          case rel =>
            refine ⟨k+1,q,i'+1,d*16+x,48,a,c,f,by omega,rfl,rfl,by go_num,rfl,rfl,by go_num,by go_num,rfl,tp,h5,?_⟩
            have h:=hhex.out
            exact ⟨h.arr.mod h8 (off_reader h.here hsz),h.le,h.words,by
              simp only [numOf]
              rw [← h.last,← h.count,Hxk.out],by have:=h.count;omega,by omega,h.here,h.mod.trans h8,h7⟩
          case measure=>simp [intOf];omega
    · obtain rfl:=herr.out.2 (by omega)
      clear herr
      have hks:k=n:=by omega
      have heof:wr.cell? ⟨0,0,none⟩=some (.iface 254 (.pointer (some ea))):=hhex.out.mod.cell_some hE fun h=>by unfold InB at h;omega
      have hk0:((k:Int) == 0)=false:=by simp;omega
      have Hks:=Lib.hid hks
      clear hks
      by_cases hi0:i'=0
      · have hi0':¬ (0<i'):=by omega
        have Hi:=Lib.hid hi0
        clear hi0
        have hq0:0<q:=by have:=hhex.out.count;have:=Hks.out;have:=Hi.out;omega
        obtain ⟨b,rfl⟩:=hhex.out.arr.form (by have:=hhex.out.le;omega)
        go_wp2_with fail
        refine (reverse_any b q c _ f hhex.out.arr hhex.out.le (by have:=hhex.out.count;omega)).mono ?_
        rintro e w3 ⟨rfl,hA3,hm3⟩
        go_wp2_with fail
        refine (norm_any _ q c _ _ hA3 hhex.out.le (by have:=hhex.out.count;omega)).mono ?_
        rintro e w4 ⟨m,rfl,rfl,hmq,hN⟩
        go_wp2_with fail
        refine bodyPost_ret (v:=.tuple #[.slice (some ⟨b,0,none⟩) m c,.int .i64 16,.int .i64 (k:Int),.nilIface]) (by simp [results,Tryz.results122,go_sem]) rfl ?_
        have h:=hhex.out
        have hv:val (revW f q) q=numOf 16 D n:=by rw [val_rev_num h.words,← Hks.out,h.count,Hi.out];rfl
        have hmw:Mod (InB rb) w w4:=h.mod.trans' hm3 fun k' o hk' e=>by
          unfold InB at e;subst e
          rcases h.here with e | ⟨k2,e,hk2⟩
          · cases e
          · have:k'=k2:=congrArg Addr.block (Option.some.inj e)
            omega
        refine ⟨some ⟨b,0,none⟩,m,c,_,by rw [Hks.out],hv ▸ hN,h.here,hmw,?_⟩
        have hrd:=h.rd
        rw [Hks.out,Nat.min_eq_right (by have:=HS.out;omega)] at hrd
        refine hrd.mod hm3 fun o e => ?_
        unfold InB at e
        rcases h.here with e' | ⟨k2,e',hk2⟩
        · cases e'
        · have:b=k2:=congrArg Addr.block (Option.some.inj e')
          omega
      · have hi0':0<i':=by omega
        have hro:=hhex.out.room
        clear hi0
        go_wp2_with fail
        rw [show (16 - (i':Int))=((16 - i':Nat):Int) by omega]
        refine (pow_any 16 (16 - i') (by decide) (by omega) _).mono ?_
        rintro e w3 ⟨rfl,rfl⟩
        have hp16:16^(16 - i')%B64=16^(16 - i'):=Nat.mod_eq_of_lt (Nat.lt_of_le_of_lt (Nat.pow_le_pow_right (by omega) (show 16 - i'≤15 by omega)) (by decide))
        rw [hp16]
        have hdl:d<16^i':=by rw [hhex.out.last];exact numOf_lt (n:=i') (fun j hj=>by
          have:=hhex.out.count
          rcases HD.out (16*q+j) (by omega) with h | h <;> omega) i' (Nat.le_refl _)
        have hprod:d*16^(16 - i')<B64:=by
          have h1:d*16^(16 - i')<16^i'*16^(16 - i'):=Nat.mul_lt_mul_of_pos_right hdl (Nat.pow_pos (by decide))
          rw [← Nat.pow_add,show i'+(16 - i')=16 by omega] at h1
          exact h1
        clear hp16
        generalize hP:16^(16 - i')=P at hprod ⊢
        have HP:=Lib.hid hP
        have hwm:IntKind.u64.wrap ((d:Int)*(P:Int))=((d*P:Nat):Int):=by rw [wrap_mul,wMul,Nat.mod_eq_of_lt hprod]
        generalize hdp:d*P=dP at hwm hprod
        have Hdp:=Lib.hid hdp
        clear hP hdp hdl
        have hA3:Arr w3 a c f:=hhex.out.arr
        have hle:=hhex.out.le
        have hqs:q≤1000:=by have:=hhex.out.count;omega
        have HA3:=Lib.hid hA3
        clear hA3
        go_wp2_with (at_builtin;refine wpList_append_g rfl (.tmp 232) (.tmp 240) 49 121 rfl i0 (.int .u64 0) Tryz.underlying49 Hinf.out Hz0.out rfl Hz1.out hz2 a q c (fun j=>U (f j)) rfl ?hA hle w3.heap.size 0 1 1 rfl (fun _=>U dP) ?hx (by omega) (by omega) ?hK)
        case hA=>exact ((HA3.out.toG).mod ((Mod.refl NoP _).alloc _) (Off.noP _))
        case hx =>
          intro j hj
          obtain rfl:j=0:=by omega
          exact ⟨by rw [cell?_of_heap (heap_alloc_new w3 _)];rfl,rfl⟩
        case hK =>
          intro a' c' g' w' hap
          obtain ⟨f',hA',hold,hnew⟩:=appended_word hap (fun j hj=>hhex.out.arr.words j hj) hprod hle hhex.out.arr.cap
          have hle':=hap.le
          have hmall:Mod (InB rb) w w':=(hhex.out.mod.alloc _).trans' hap.mod fun k' o hk' e=>(new_off hhex.out.here hk' e).elim
          have hhere:a'=none∨Fresh w a':=by
            rcases hap.here with rfl | h
            · exact hhex.out.here
            · exact .inr (h.mono (hhex.out.mod.alloc _).size)
          have hrd':Rd w' rb s (min (k+3) s.size):=(hhex.out.rd.mod ((Mod.refl NoP _).alloc _) fun _ h=>h).mod hap.mod fun o=>new_off hhex.out.here hsz
          obtain ⟨b,rfl⟩:=hA'.form (by omega)
          have Hold:=Lib.hid hold
          have Hnew:=Lib.hid hnew
          clear hap hold hnew
          go_wp2_with fail
          refine (reverse_any b (q+1) c' _ f' hA' hle' (by omega)).mono ?_
          rintro e w4 ⟨rfl,hA4,hm4⟩
          go_wp2_with fail
          refine (norm_any _ (q+1) c' _ _ hA4 hle' (by omega)).mono ?_
          rintro e w5 ⟨m,rfl,rfl,hmq,hN⟩
          go_wp2_with fail
          rw [show ((16 - (i':Int))*4)=(((16 - i')*4:Nat):Int) by omega]
          refine (rsh_any (some ⟨b,0,none⟩) (some ⟨b,0,none⟩) m c' m c' ((16 - i')*4) _ _ _ _ hN.arr hN.le hN (by omega) (by omega) (by omega)).mono ?_
          intro e w6 hr6
          have h2:val (revW f' (q+1)) (q+1)=numOf 16 D n*P:=by
            rw [val_rev,Hnew.out,revW_congr Hold.out,val_rev_num hhex.out.words,← Hks.out,hhex.out.count,numOf_add,← hhex.out.last,Nat.add_mul,← Hdp.out]
            have:numOf 16 D (16*q)*16^i'*P=B64*numOf 16 D (16*q):=by
              rw [← HP.out,Nat.mul_assoc,← Nat.pow_add,show i'+(16 - i')=16 by omega,Nat.mul_comm];rfl
            omega
          have h3:val (revW f' (q+1)) (q+1)/2^((16 - i')*4)=numOf 16 D n:=by
            have e1:2^((16 - i')*4)=P:=by rw [← HP.out,show (16:Nat)=2^4 from rfl,← Nat.pow_mul,Nat.mul_comm]
            rw [h2,e1,Nat.mul_div_cancel _ (by rw [← HP.out];exact Nat.pow_pos (by decide))]
          rw [h3] at hr6
          have hb4:∀ k' o,k'<w.heap.size→InB b k' o→InB rb k' o:=fun k' o hk' e=>by
            unfold InB at e;subst e
            exact (new_off hhere (k:=k') (o:=o) hk' ⟨_,rfl,rfl⟩).elim
          obtain ⟨a6,n6,c6,f6,rfl,h4,h5,h6,h7⟩:=grow (rb:=rb) (s:=s) (hmall.trans' hm4 hb4) hhere (hrd'.mod hm4 fun o e=>new_off hhere (k:=rb) (o:=o) hsz ⟨_,rfl,by unfold InB at e;exact e.symm⟩) hsz hr6
          go_wp2_with fail
          refine bodyPost_ret (v:=.tuple #[.slice a6 n6 c6,.int .i64 16,.int .i64 (k:Int),.nilIface]) (by simp [results,Tryz.results122,go_sem]) rfl ?_
          refine ⟨a6,n6,c6,f6,by rw [Hks.out],h4,h5,h6,?_⟩
          rwa [Hks.out,Nat.min_eq_right (by have:=HS.out;omega)] at h7
theorem scans0 {s:ByteArray} {D C:Nat→Nat} {n:Nat} (hn:s.size=n+2) (hp0:s[0].toNat=48) (hp1:s[1].toNat=120) (hC:∀ j,(h:j+2<s.size)→s[j+2].toNat=C j) (hD:∀ j,j<n→(C j=48+D j∧D j<10)∨(C j=87+D j∧10≤D j∧D j<16)) (hs:0<n) (hs2:s.size≤1000):Scans 0 s (numOf 16 D n) :=
  fun rb w ea hR hE hrb=>(scanP rb n s w ea D C hn hp0 hp1 hC hD hR hE hs hs2 hrb).mono fun e w' ⟨a,m,c,f,h⟩=>⟨a,m,c,f,_,_,h⟩
end
section
open Go Go.RowKit
theorem copyRest_run {w:World} {bz oz cz bx ox cx n cc k o1 o2:Nat} {f X:Nat→Nat} (hA:Arr w (some ⟨bz,0,none⟩) cc f) (hfit:oz+n≤cc) (hX:Vec w bx ox n X) (hk:k≤n) (h1:k<cz→o1=oz+k) (h1':o1≤oz+k) (h2:k<cx→o2=ox+k) (hcz:n≤cz) (hcx:n≤cx) (ty:TypeId) :
    ∃ w',(Builtin.copy_ #[48,48] ty #[.slice (some ⟨bz,o1,none⟩) (n - k) (cz - k),.slice (some ⟨bx,o2,none⟩) (n - k) (cx - k)]).run Tryz.prog w=.ok (.int .i64 ((n - k:Nat):Int)) w'∧Vec w' bz o1 (n - k) (fun j=>X (k+j))∧Mod (InR bz o1 (n - k)) w w' :=
  copyV_run w 48 ty Tryz.underlying48 48 bz o1 (n - k) (cz - k) cc f hA (by omega) bx o2 (cx - k) (fun j=>X (k+j)) fun j hj=>by
    rw [h2 (by omega),Nat.add_assoc]
    exact hX (k+j) (by omega)
theorem info121'':∃ j,Tryz.prog.info? 121=some j∧j.size≠0:=by
  obtain ⟨i0,hi,hz0,hz1,hz2⟩:=info121'
  exact ⟨i0,hi,by omega⟩
theorem ptr_neq {w:World} {bz oz bx ox:Nat} {C D:Array Value} {t u:TypeId} (hz:w.heap[bz]? = some (.cells C t (0,0))) (hx:w.heap[bx]? = some (.cells D u (0,0))) (al:bz=bx→oz=ox) :
    (binOp .neq 187 (.pointer (some ⟨bz,oz,none⟩)) (.pointer (some ⟨bx,ox,none⟩))).run Tryz.prog w=.ok (.bool (decide (bz≠bx))) w:=by
  obtain ⟨j,hj,hs⟩:=info121''
  by_cases he:bz=bx
  · subst he
    obtain rfl:=al rfl
    rw [Lib.run_neq_ptr_same w _ Tryz.underlying187 hj]
    simp
  · have h:∀ d:Nat,(Op.equalIn (d+1) 187 (.pointer (some ⟨bz,oz,none⟩)) (.pointer (some ⟨bx,ox,none⟩))).run Tryz.prog w=.ok false w:=fun d=>by
      simp [Op.equalIn,run_underlying Tryz.underlying187,sizeOf,typeInfo,hj,hs,run_sameAddr_other w (a:=⟨bz,oz,none⟩) (b:=⟨bx,ox,none⟩) (fun h=>he (congrArg Addr.block h)) hz hx]
    simp only [binOp]
    simp [Op.equal,Op.maxDepth,h 9999,he]
theorem ret_u64 {a b:Nat} (h:a=b):Ending.returned (U a)=.returned (U b):=by rw [h]
set_option maxRecDepth 100000 in
set_option maxHeartbeats 2000000 in
theorem addVW_any (bz oz cz bx ox cx n cc:Nat) (f X:Nat→Nat) (y:Nat) (w:World) (hA:Arr w (some ⟨bz,0,none⟩) cc f) (hfit:oz+n≤cc) (hX:Vec w bx ox n X) (hB:∃ D u,w.heap[bx]? = some (.cells D u (0,0))) (hy:y<B64) (hn:n≤1048576) (hcz:n≤cz) (hcx:n≤cx) (al:bz=bx→oz=ox) :
    Calls Tryz.prog 124 #[.slice (some ⟨bz,oz,none⟩) n cz,.slice (some ⟨bx,ox,none⟩) n cx,U y] w
      fun e w'=>e=.returned (U (awC X y n))∧Vec w' bz oz n (awW X y)∧Mod (InR bz oz n) w w':=by
  have hZ:Vec w bz oz n (fun j=>f (oz+j)):=fun j hj=>by have:=hA.vec (oz+j) (by omega);rwa [Nat.zero_add] at this
  have hx:=fun j hj=>(hX j hj).2.2
  by_cases hn0:n=0
  · subst hn0
    clear hA hZ hX
    go_enter Tryz.func124,Tryz.ntmps124
    go_wp2_with fail
    go_ret
    exact ⟨rfl,fun j hj=>by omega,Mod.refl _ _⟩
  have hn1:0<n:=by omega
  have hw64:∀ j,j<n→awW X y j<B64:=fun j hj=>wAdd_lt _ _ _
  have ax:Up bz oz bx ox n:=fun h=>.inl (by have:=al h.symm;omega)
  
  have hrest:∀ k wr,k≤n→awC X y k=0→Written w wr bz oz k (awW X y)→bz≠bx→∀ o1 o2,(k<cz→o1=oz+k)→o1≤oz+k→(k<cx→o2=ox+k) →
      ∃ w',(Builtin.copy_ #[48,48] 3 #[.slice (some ⟨bz,o1,none⟩) (n - k) (cz - k),.slice (some ⟨bx,o2,none⟩) (n - k) (cx - k)]).run Tryz.prog wr=.ok (.int .i64 ((n - k:Nat):Int)) w'∧Vec w' bz oz n (awW X y)∧Mod (InR bz oz n) w w':=fun k wr hk h0 hw hne o1 o2 h1 h1' h2=>by
    have hAr:Arr wr (some ⟨bz,0,none⟩) cc (fun j=>if oz≤j∧j<oz+k then awW X y (j - oz) else f j):=by
      refine hA.turned hw.mod fun j hj => ?_
      have hv:=hA.vec j hj
      rw [Nat.zero_add] at hv ⊢
      by_cases h:oz≤j∧j<oz+k
      · rw [if_pos h]
        have h3:=hw.cells (j - oz) (by omega)
        rw [show oz+(j - oz)=j by omega] at h3
        exact ⟨h3,hw.mod.free hv.1 hv.2.1,hw64 _ (by omega)⟩
      · rw [if_neg h]
        exact ⟨hw.mod.cell_some hv.1 (fun hh=>h ⟨hh.2.1,hh.2.2⟩),hw.mod.free hv.1 hv.2.1,hv.2.2⟩
    obtain ⟨w',hr,hV,hm⟩:=copyRest_run (cz:=cz) (cx:=cx) hAr hfit (hX.mod hw.mod fun j hj h=>hne h.1.symm) hk h1 h1' h2 hcz hcx 3
    have hf:=hw.rest hZ hk hV (fun h=>h1 (by omega)) hm (fun j h3 h4=>by rw [show k+(j - k)=j by omega,aw_same hx h0 h3 h4]) hw64
    exact ⟨w',hr,hf.1,hf.2⟩
  have hstay:∀ k wr,k≤n→awC X y k=0→Written w wr bz oz k (awW X y)→bz=bx→Vec wr bz oz n (awW X y)∧Mod (InR bz oz n) w wr:=fun k wr hk h0 hw he=>by
    subst he
    obtain rfl:=al rfl
    exact hw.stay hX hk (fun j h3 h4=>(aw_same hx h0 h3 h4).symm) hw64
  have hfirst:Written w (w.setCell ⟨bz,oz,none⟩ (U (awW X y 0))) bz oz 1 (awW X y):=by
    have:=(Written.zero w bz oz (awW X y)).step (hZ 0 hn1).1 (x:=awW X y 0) rfl
    rwa [Nat.add_zero] at this
  have hstop:=fun k (hk:k≤n) (h:awC X y k=0)=>aw_stop hx h n hk (Nat.le_refl _)
  have hcx0:=(hX 0 hn1).1
  have hcz0:=(hZ 0 hn1).1
  have hfz0:=(hZ 0 hn1).2.1
  rw [Nat.add_zero] at hcx0 hcz0 hfz0
  have hpt:∀ M w0,Mod M w w0→(binOp .neq 187 (.pointer (some ⟨bz,oz,none⟩)) (.pointer (some ⟨bx,ox,none⟩))).run Tryz.prog w0=.ok (.bool (decide (bz≠bx))) w0:=fun M w0 m=>by
    obtain ⟨D,u,hb⟩:=hB
    rcases hA with ⟨h,_⟩ | ⟨b',C,t,e,hbz,_,_⟩
    · cases h
    obtain rfl:bz=b':=by simpa using e
    obtain ⟨C',h1,_⟩:=m.cells hbz
    obtain ⟨D',h2,_⟩:=m.cells hb
    exact ptr_neq h1 h2 al
  have HPT:=Lib.hid hpt
  have HR:=Lib.hid hrest
  have HS:=Lib.hid hstay
  have HF:=Lib.hid hfirst
  have HST:=Lib.hid hstop
  have HX:=Lib.hid hX
  have HZ:=Lib.hid hZ
  have HW:=Lib.hid (show awW X y 0=awW X y 0 from rfl)
  have HC1:=Lib.hid (show wCar (X 0) y 0=awC X y 1 from rfl)
  clear hrest hstay hfirst hstop hA hX hZ hpt hB
  have hc1:awC X y 1=wCar (X 0) y 0:=rfl
  have hle1:wCar (X 0) y 0≤1:=wCar_le (hx 0 hn1) hy (by omega)
  rw [show awW X y 0=wAdd (X 0) y 0 from rfl] at HF
  have HXX:=Lib.hid (show ∀ k,awC X y k=1→awW X y k=wAdd (X k) 1 0∧awC X y (k+1)=wCar (X k) 1 0 from fun k h=>⟨by unfold awW;rw [h],by simp only [awC];rw [h]⟩)
  generalize hx0:X 0=x0 at *
  generalize hzz:f (oz+0)=z0 at *
  have HX0:=Lib.hid hx0
  have Hc1:=Lib.hid hc1
  clear hx0 hc1 hzz HW HC1
  generalize hw1:w.setCell ⟨bz,oz,none⟩ (U (wAdd x0 y 0))=w1 at HF
  have HW1:=Lib.hid hw1
  have m01:=HF.out.mod
  clear hw1
  by_cases hz:wCar x0 y 0=0
  · have hb0:(((wCar x0 y 0:Nat):Int) == 0)=true:=by simp [hz]
    have Hz:=Lib.hid hz
    clear hz
    by_cases he:bz=bx
    · have hp1:∀ q,(binOp .neq 187 (.pointer (some ⟨bz,oz,none⟩)) (.pointer (some ⟨bx,ox,none⟩))).run Tryz.prog (w1.drewN q)=.ok (.bool false) (w1.drewN q):=fun q=>by
        rw [HPT.out _ _ (m01.drewN q)]
        simp [he]
      have HE:=Lib.hid he
      clear he
      go_enter Tryz.func124,Tryz.ntmps124
      go_wp2_with fail
      refine (add_any _ _ 0 (by omega) _).mono ?_
      rintro e w' ⟨rfl,hw'⟩
      obtain rfl:=hw'.symm
      go_upto_region 7 with fail
      rw [HW1.out]
      go_wp2_with fail
      go_quiet (fail)
      go_wp2_with fail
      go_ret
      have h2:=HS.out 1 _ (by omega) (Hc1.out.trans Hz.out) (HF.out.drewN nq) HE.out
      exact ⟨ret_u64 (HST.out 1 (by omega) (Hc1.out.trans Hz.out)).symm,h2.1,h2.2⟩
    · have hp1:∀ q,(binOp .neq 187 (.pointer (some ⟨bz,oz,none⟩)) (.pointer (some ⟨bx,ox,none⟩))).run Tryz.prog (w1.drewN q)=.ok (.bool true) (w1.drewN q):=fun q=>by
        rw [HPT.out _ _ (m01.drewN q)]
        simp [he]
      obtain ⟨o1,hs1,hk1,hl1⟩:=slice_from 48 bz oz n cz 1 (by omega) hcz (.inl rfl) 1 rfl
      obtain ⟨o2,hs2,hk2,hl2⟩:=slice_from 48 bx ox n cx 1 (by omega) hcx (.inl rfl) 1 rfl
      have Hk1:=Lib.hid hk1
      have Hk2:=Lib.hid hk2
      clear hk1 hk2
      go_enter Tryz.func124,Tryz.ntmps124
      go_wp2_with fail
      refine (add_any _ _ 0 (by omega) _).mono ?_
      rintro e w' ⟨rfl,hw'⟩
      obtain rfl:=hw'.symm
      go_upto_region 7 with fail
      rw [HW1.out]
      go_wp2_with fail
      go_quiet (fail)
      have hF2:=Lib.hid (HF.out.drewN nq)
      generalize w1.drewN nq=w2 at *
      clear hp1
      go_wp2_with fail
      obtain ⟨w3,hcp,hV3,m3⟩:=HR.out 1 _ (by omega) (Hc1.out.trans Hz.out) hF2.out.drew he o1 o2 Hk1.out hl1 Hk2.out
      go_still_tail 4,(by kernel_rfl)
      simp only [World.drew_eq]
      go_wp2_with (refine wpList_copy rfl (.tmp 40) (.tmp 42) 48 48 rfl _ _ rfl rfl hcp ?_;go_simp)
      go_ret
      exact ⟨ret_u64 (HST.out 1 (by omega) (Hc1.out.trans Hz.out)).symm,hV3,m3⟩
  · have h1c:wCar x0 y 0=1:=by omega
    have hb0:(((wCar x0 y 0:Nat):Int) == 0)=false:=by simp [h1c]
    have H1c:=Lib.hid (Hc1.out.trans h1c)
    clear hz h1c
    go_enter Tryz.func124,Tryz.ntmps124
    go_wp2_with fail
    refine (add_any _ _ 0 (by omega) _).mono ?_
    rintro e w' ⟨rfl,hw'⟩
    obtain rfl:=hw'.symm
    go_upto_region 7 with fail
    rw [HW1.out]
    go_wp2_with fail
    go_loopw [9] (fun i wr=>∃ k:Nat,1≤k∧k≤n∧i=.int .i64 (k:Int)∧awC X y k=1∧Written w wr bz oz k (awW X y)) (fun i _=>n - (intOf i).toNat)
    case atStart=>exact ⟨1,Nat.le_refl _,by omega,rfl,H1c.out,HF.out⟩
    case round =>
    obtain ⟨k,hk1,hk,rfl,hck,hw⟩:=hrel
    by_cases hlt:k<n
    · have hcxk:=hw.read HX.out ax hlt
      obtain ⟨zk,hczk⟩:=hw.there HZ.out hlt
      have hfzk:=hw.free HZ.out hlt
      have HZK:=Lib.hid (HZ.out k hlt).1
      have hWk:awW X y k=wAdd (X k) 1 0:=(HXX.out k hck).1
      have hCk:awC X y (k+1)=wCar (X k) 1 0:=(HXX.out k hck).2
      have hst:IntKind.u64.wrap (((X k:Nat):Int)+1)=((awW X y k:Nat):Int):=by rw [hWk];exact wrap_add (X k) 1
      have hnf:X k≠18446744073709551615→awC X y (k+1)=0:=fun h=>by rw [hCk];unfold wCar;exact Nat.div_eq_of_lt (by have:=hx k hlt;simp only [B64_eq] at *;omega)
      have hfu:X k=18446744073709551615→awC X y (k+1)=1∧awW X y k=0:=fun h=>by rw [hCk,hWk,h];exact ⟨by decide,by decide⟩
      have k0:(0:Int)≤(k:Int):=by omega
      have k1:(k:Int)<(n:Int):=by omega
      have k2:(k:Int).toNat=k:=by omega
      have d1:decide ((k:Int)<(n:Int))=true:=decide_eq_true k1
      have Hw:=Lib.hid hw
      have Hck:=Lib.hid hck
      clear hWk hCk hw hck
      by_cases hfull:X k=18446744073709551615
      · have HFU:=Lib.hid (hfu hfull)
        rw [hfull] at hcxk
        clear hfu hnf hst hfull
        go_wp2_with fail
        go_roundw
        case rel=>exact ⟨k+1,by omega,by omega,by go_num,HFU.out.1,Hw.out.step HZK.out HFU.out.2.symm⟩
        case measure=>simp [intOf];omega
      · have h0:=Lib.hid (hnf hfull)
        have Hst:=Lib.hid hst
        have hne:(((X k:Nat):Int) == 18446744073709551615)=false:=by simp;omega
        have hne2:(((X k:Nat):Int) != 18446744073709551615)=true:=by simp;omega
        have HW2:=Lib.hid (Hw.out.step (x:=awW X y k) HZK.out rfl)
        clear hfu hnf hfull
        generalize awW X y k=wk at *
        generalize X k=xk at *
        generalize hw2:wr.setCell ⟨bz,oz+k,none⟩ (U wk)=w2 at HW2
        have HWW:=Lib.hid hw2
        clear hw2
        have m02:=HW2.out.mod
        have e1:IntKind.i64.wrap ((k:Int)+1)=(k:Int)+1:=IntWalk.i64_in _ (by omega)
        by_cases he:bz=bx
        · have hp1:∀ q,(binOp .neq 187 (.pointer (some ⟨bz,oz,none⟩)) (.pointer (some ⟨bx,ox,none⟩))).run Tryz.prog (w2.drewN q)=.ok (.bool false) (w2.drewN q):=fun q=>by
            rw [HPT.out _ _ (m02.drewN q)]
            simp [he]
          have HE:=Lib.hid he
          clear he
          go_upto_region 17 with fail
          rw [HWW.out]
          go_quiet (fail)
          go_wp2_with fail
          go_ret
          have h2:=HS.out (k+1) _ (by omega) h0.out (HW2.out.drewN nq) HE.out
          exact ⟨ret_u64 (HST.out (k+1) (by omega) h0.out).symm,h2.1,h2.2⟩
        · have hp1:∀ q,(binOp .neq 187 (.pointer (some ⟨bz,oz,none⟩)) (.pointer (some ⟨bx,ox,none⟩))).run Tryz.prog (w2.drewN q)=.ok (.bool true) (w2.drewN q):=fun q=>by
            rw [HPT.out _ _ (m02.drewN q)]
            simp [he]
          obtain ⟨o1,hs1,hk1',hl1⟩:=slice_from 48 bz oz n cz (k+1) (by omega) hcz (.inl rfl) ((k:Int)+1) (by omega)
          obtain ⟨o2,hs2,hk2',hl2⟩:=slice_from 48 bx ox n cx (k+1) (by omega) hcx (.inl rfl) ((k:Int)+1) (by omega)
          have Hk1:=Lib.hid hk1'
          have Hk2:=Lib.hid hk2'
          clear hk1' hk2'
          go_upto_region 17 with fail
          rw [HWW.out]
          go_quiet (fail)
          have hF2:=Lib.hid (HW2.out.drewN nq)
          generalize w2.drewN nq=w3 at *
          clear hp1
          go_wp2_with fail
          obtain ⟨w4,hcp,hV3,m3⟩:=HR.out (k+1) _ (by omega) h0.out hF2.out.drew he o1 o2 Hk1.out hl1 Hk2.out
          go_still_tail 8,(by kernel_rfl)
          simp only [World.drew_eq]
          go_wp2_with (refine wpList_copy rfl (.tmp 69) (.tmp 73) 48 48 rfl _ _ rfl rfl hcp ?_;go_simp)
          go_ret
          exact ⟨ret_u64 (HST.out (k+1) (by omega) h0.out).symm,hV3,m3⟩
    · obtain rfl:k=n:=by omega
      have d1:decide ((k:Int)<(k:Int))=false:=decide_eq_false (by omega)
      have hvec:=hw.vec HZ.out hw64
      have hmod:=hw.mod
      have Hck:=Lib.hid hck
      clear hw hck
      go_wp2_with fail
      go_ret
      exact ⟨ret_u64 Hck.out.symm,hvec,hmod⟩
set_option maxRecDepth 100000 in
set_option maxHeartbeats 2000000 in
theorem subVW_any (bz oz cz bx ox cx n cc:Nat) (f X:Nat→Nat) (y:Nat) (w:World) (hA:Arr w (some ⟨bz,0,none⟩) cc f) (hfit:oz+n≤cc) (hX:Vec w bx ox n X) (hB:∃ D u,w.heap[bx]? = some (.cells D u (0,0))) (hy:y<B64) (hn:n≤1048576) (hcz:n≤cz) (hcx:n≤cx) (al:bz=bx→oz=ox) :
    Calls Tryz.prog 126 #[.slice (some ⟨bz,oz,none⟩) n cz,.slice (some ⟨bx,ox,none⟩) n cx,U y] w
      fun e w'=>e=.returned (U (swC X y n))∧Vec w' bz oz n (swW X y)∧Mod (InR bz oz n) w w':=by
  have hZ:Vec w bz oz n (fun j=>f (oz+j)):=fun j hj=>by have:=hA.vec (oz+j) (by omega);rwa [Nat.zero_add] at this
  have hx:=fun j hj=>(hX j hj).2.2
  by_cases hn0:n=0
  · subst hn0
    clear hA hZ hX
    go_enter Tryz.func126,Tryz.ntmps126
    go_wp2_with fail
    go_ret
    exact ⟨rfl,fun j hj=>by omega,Mod.refl _ _⟩
  have hn1:0<n:=by omega
  have hw64:∀ j,j<n→swW X y j<B64:=fun j hj=>wSub_lt _ _ _
  have ax:Up bz oz bx ox n:=fun h=>.inl (by have:=al h.symm;omega)
  
  have hrest:∀ k wr,k≤n→swC X y k=0→Written w wr bz oz k (swW X y)→bz≠bx→∀ o1 o2,(k<cz→o1=oz+k)→o1≤oz+k→(k<cx→o2=ox+k) →
      ∃ w',(Builtin.copy_ #[48,48] 3 #[.slice (some ⟨bz,o1,none⟩) (n - k) (cz - k),.slice (some ⟨bx,o2,none⟩) (n - k) (cx - k)]).run Tryz.prog wr=.ok (.int .i64 ((n - k:Nat):Int)) w'∧Vec w' bz oz n (swW X y)∧Mod (InR bz oz n) w w':=fun k wr hk h0 hw hne o1 o2 h1 h1' h2=>by
    have hAr:Arr wr (some ⟨bz,0,none⟩) cc (fun j=>if oz≤j∧j<oz+k then swW X y (j - oz) else f j):=by
      refine hA.turned hw.mod fun j hj => ?_
      have hv:=hA.vec j hj
      rw [Nat.zero_add] at hv ⊢
      by_cases h:oz≤j∧j<oz+k
      · rw [if_pos h]
        have h3:=hw.cells (j - oz) (by omega)
        rw [show oz+(j - oz)=j by omega] at h3
        exact ⟨h3,hw.mod.free hv.1 hv.2.1,hw64 _ (by omega)⟩
      · rw [if_neg h]
        exact ⟨hw.mod.cell_some hv.1 (fun hh=>h ⟨hh.2.1,hh.2.2⟩),hw.mod.free hv.1 hv.2.1,hv.2.2⟩
    obtain ⟨w',hr,hV,hm⟩:=copyRest_run (cz:=cz) (cx:=cx) hAr hfit (hX.mod hw.mod fun j hj h=>hne h.1.symm) hk h1 h1' h2 hcz hcx 3
    have hf:=hw.rest hZ hk hV (fun h=>h1 (by omega)) hm (fun j h3 h4=>by rw [show k+(j - k)=j by omega,sw_same hx h0 h3 h4]) hw64
    exact ⟨w',hr,hf.1,hf.2⟩
  have hstay:∀ k wr,k≤n→swC X y k=0→Written w wr bz oz k (swW X y)→bz=bx→Vec wr bz oz n (swW X y)∧Mod (InR bz oz n) w wr:=fun k wr hk h0 hw he=>by
    subst he
    obtain rfl:=al rfl
    exact hw.stay hX hk (fun j h3 h4=>(sw_same hx h0 h3 h4).symm) hw64
  have hfirst:Written w (w.setCell ⟨bz,oz,none⟩ (U (swW X y 0))) bz oz 1 (swW X y):=by
    have:=(Written.zero w bz oz (swW X y)).step (hZ 0 hn1).1 (x:=swW X y 0) rfl
    rwa [Nat.add_zero] at this
  have hstop:=fun k (hk:k≤n) (h:swC X y k=0)=>sw_stop h n hk
  have hcx0:=(hX 0 hn1).1
  have hcz0:=(hZ 0 hn1).1
  have hfz0:=(hZ 0 hn1).2.1
  rw [Nat.add_zero] at hcx0 hcz0 hfz0
  have hpt:∀ M w0,Mod M w w0→(binOp .neq 187 (.pointer (some ⟨bz,oz,none⟩)) (.pointer (some ⟨bx,ox,none⟩))).run Tryz.prog w0=.ok (.bool (decide (bz≠bx))) w0:=fun M w0 m=>by
    obtain ⟨D,u,hb⟩:=hB
    rcases hA with ⟨h,_⟩ | ⟨b',C,t,e,hbz,_,_⟩
    · cases h
    obtain rfl:bz=b':=by simpa using e
    obtain ⟨C',h1,_⟩:=m.cells hbz
    obtain ⟨D',h2,_⟩:=m.cells hb
    exact ptr_neq h1 h2 al
  have HPT:=Lib.hid hpt
  have HR:=Lib.hid hrest
  have HS:=Lib.hid hstay
  have HF:=Lib.hid hfirst
  have HST:=Lib.hid hstop
  have HX:=Lib.hid hX
  have HZ:=Lib.hid hZ
  have HW:=Lib.hid (show swW X y 0=swW X y 0 from rfl)
  have HC1:=Lib.hid (show wBor (X 0) y 0=swC X y 1 from rfl)
  clear hrest hstay hfirst hstop hA hX hZ hpt hB
  have hc1:swC X y 1=wBor (X 0) y 0:=rfl
  have hle1:wBor (X 0) y 0≤1:=wBor_le _ _ _
  rw [show swW X y 0=wSub (X 0) y 0 from rfl] at HF
  have HXX:=Lib.hid (show ∀ k,swC X y k=1→swW X y k=wSub (X k) 1 0∧swC X y (k+1)=wBor (X k) 1 0 from fun k h=>⟨by unfold swW;rw [h],by simp only [swC];rw [h]⟩)
  generalize hx0:X 0=x0 at *
  generalize hzz:f (oz+0)=z0 at *
  have HX0:=Lib.hid hx0
  have Hc1:=Lib.hid hc1
  clear hx0 hc1 hzz HW HC1
  generalize hw1:w.setCell ⟨bz,oz,none⟩ (U (wSub x0 y 0))=w1 at HF
  have HW1:=Lib.hid hw1
  have m01:=HF.out.mod
  clear hw1
  by_cases hz:wBor x0 y 0=0
  · have hb0:(((wBor x0 y 0:Nat):Int) == 0)=true:=by simp [hz]
    have Hz:=Lib.hid hz
    clear hz
    by_cases he:bz=bx
    · have hp1:∀ q,(binOp .neq 187 (.pointer (some ⟨bz,oz,none⟩)) (.pointer (some ⟨bx,ox,none⟩))).run Tryz.prog (w1.drewN q)=.ok (.bool false) (w1.drewN q):=fun q=>by
        rw [HPT.out _ _ (m01.drewN q)]
        simp [he]
      have HE:=Lib.hid he
      clear he
      go_enter Tryz.func126,Tryz.ntmps126
      go_wp2_with fail
      refine (sub_any _ _ 0 (by omega) _).mono ?_
      rintro e w' ⟨rfl,hw'⟩
      obtain rfl:=hw'.symm
      go_upto_region 7 with fail
      rw [HW1.out]
      go_wp2_with fail
      go_quiet (fail)
      go_wp2_with fail
      go_ret
      have h2:=HS.out 1 _ (by omega) (Hc1.out.trans Hz.out) (HF.out.drewN nq) HE.out
      exact ⟨ret_u64 (HST.out 1 (by omega) (Hc1.out.trans Hz.out)).symm,h2.1,h2.2⟩
    · have hp1:∀ q,(binOp .neq 187 (.pointer (some ⟨bz,oz,none⟩)) (.pointer (some ⟨bx,ox,none⟩))).run Tryz.prog (w1.drewN q)=.ok (.bool true) (w1.drewN q):=fun q=>by
        rw [HPT.out _ _ (m01.drewN q)]
        simp [he]
      obtain ⟨o1,hs1,hk1,hl1⟩:=slice_from 48 bz oz n cz 1 (by omega) hcz (.inl rfl) 1 rfl
      obtain ⟨o2,hs2,hk2,hl2⟩:=slice_from 48 bx ox n cx 1 (by omega) hcx (.inl rfl) 1 rfl
      have Hk1:=Lib.hid hk1
      have Hk2:=Lib.hid hk2
      clear hk1 hk2
      go_enter Tryz.func126,Tryz.ntmps126
      go_wp2_with fail
      refine (sub_any _ _ 0 (by omega) _).mono ?_
      rintro e w' ⟨rfl,hw'⟩
      obtain rfl:=hw'.symm
      go_upto_region 7 with fail
      rw [HW1.out]
      go_wp2_with fail
      go_quiet (fail)
      have hF2:=Lib.hid (HF.out.drewN nq)
      generalize w1.drewN nq=w2 at *
      clear hp1
      go_wp2_with fail
      obtain ⟨w3,hcp,hV3,m3⟩:=HR.out 1 _ (by omega) (Hc1.out.trans Hz.out) hF2.out.drew he o1 o2 Hk1.out hl1 Hk2.out
      go_still_tail 4,(by kernel_rfl)
      simp only [World.drew_eq]
      go_wp2_with (refine wpList_copy rfl (.tmp 40) (.tmp 42) 48 48 rfl _ _ rfl rfl hcp ?_;go_simp)
      go_ret
      exact ⟨ret_u64 (HST.out 1 (by omega) (Hc1.out.trans Hz.out)).symm,hV3,m3⟩
  · have h1c:wBor x0 y 0=1:=by omega
    have hb0:(((wBor x0 y 0:Nat):Int) == 0)=false:=by simp [h1c]
    have H1c:=Lib.hid (Hc1.out.trans h1c)
    clear hz h1c
    go_enter Tryz.func126,Tryz.ntmps126
    go_wp2_with fail
    refine (sub_any _ _ 0 (by omega) _).mono ?_
    rintro e w' ⟨rfl,hw'⟩
    obtain rfl:=hw'.symm
    go_upto_region 7 with fail
    rw [HW1.out]
    go_wp2_with fail
    go_loopw [9] (fun i wr=>∃ k:Nat,1≤k∧k≤n∧i=.int .i64 (k:Int)∧swC X y k=1∧Written w wr bz oz k (swW X y)) (fun i _=>n - (intOf i).toNat)
    case atStart=>exact ⟨1,Nat.le_refl _,by omega,rfl,H1c.out,HF.out⟩
    case round =>
    obtain ⟨k,hk1,hk,rfl,hck,hw⟩:=hrel
    by_cases hlt:k<n
    · have hcxk:=hw.read HX.out ax hlt
      obtain ⟨zk,hczk⟩:=hw.there HZ.out hlt
      have hfzk:=hw.free HZ.out hlt
      have HZK:=Lib.hid (HZ.out k hlt).1
      have hWk:swW X y k=wSub (X k) 1 0:=(HXX.out k hck).1
      have hCk:swC X y (k+1)=wBor (X k) 1 0:=(HXX.out k hck).2
      have hnf:X k≠0→swC X y (k+1)=0:=fun h=>by rw [hCk];unfold wBor;rw [if_neg (by omega)]
      have hst:X k≠0→IntKind.u64.wrap (((X k:Nat):Int) - 1)=((swW X y k:Nat):Int):=fun h=>by
        rw [hWk,IntKind.wrap_u64];unfold wSub;have:=hx k hlt;simp only [B64_eq] at *;omega
      have hfu:X k=0→swC X y (k+1)=1∧swW X y k=18446744073709551615:=fun h=>by rw [hCk,hWk,h];exact ⟨by decide,by decide⟩
      have k0:(0:Int)≤(k:Int):=by omega
      have k1:(k:Int)<(n:Int):=by omega
      have k2:(k:Int).toNat=k:=by omega
      have d1:decide ((k:Int)<(n:Int))=true:=decide_eq_true k1
      have Hw:=Lib.hid hw
      have Hck:=Lib.hid hck
      clear hWk hCk hw hck
      by_cases hfull:X k=0
      · have HFU:=Lib.hid (hfu hfull)
        rw [hfull] at hcxk
        clear hfu hnf hst hfull
        go_wp2_with fail
        go_roundw
        case rel=>exact ⟨k+1,by omega,by omega,by go_num,HFU.out.1,Hw.out.step HZK.out HFU.out.2.symm⟩
        case measure=>simp [intOf];omega
      · have h0:=Lib.hid (hnf hfull)
        have hst:=hst hfull
        have Hst:=Lib.hid hst
        have hne:(((X k:Nat):Int) == 0)=false:=by simp;omega
        have hne2:(((X k:Nat):Int) != 0)=true:=by simp;omega
        have HW2:=Lib.hid (Hw.out.step (x:=swW X y k) HZK.out rfl)
        clear hfu hnf hfull
        generalize swW X y k=wk at *
        generalize X k=xk at *
        generalize hw2:wr.setCell ⟨bz,oz+k,none⟩ (U wk)=w2 at HW2
        have HWW:=Lib.hid hw2
        clear hw2
        have m02:=HW2.out.mod
        have e1:IntKind.i64.wrap ((k:Int)+1)=(k:Int)+1:=IntWalk.i64_in _ (by omega)
        by_cases he:bz=bx
        · have hp1:∀ q,(binOp .neq 187 (.pointer (some ⟨bz,oz,none⟩)) (.pointer (some ⟨bx,ox,none⟩))).run Tryz.prog (w2.drewN q)=.ok (.bool false) (w2.drewN q):=fun q=>by
            rw [HPT.out _ _ (m02.drewN q)]
            simp [he]
          have HE:=Lib.hid he
          clear he
          go_upto_region 17 with fail
          rw [HWW.out]
          go_quiet (fail)
          go_wp2_with fail
          go_ret
          have h2:=HS.out (k+1) _ (by omega) h0.out (HW2.out.drewN nq) HE.out
          exact ⟨ret_u64 (HST.out (k+1) (by omega) h0.out).symm,h2.1,h2.2⟩
        · have hp1:∀ q,(binOp .neq 187 (.pointer (some ⟨bz,oz,none⟩)) (.pointer (some ⟨bx,ox,none⟩))).run Tryz.prog (w2.drewN q)=.ok (.bool true) (w2.drewN q):=fun q=>by
            rw [HPT.out _ _ (m02.drewN q)]
            simp [he]
          obtain ⟨o1,hs1,hk1',hl1⟩:=slice_from 48 bz oz n cz (k+1) (by omega) hcz (.inl rfl) ((k:Int)+1) (by omega)
          obtain ⟨o2,hs2,hk2',hl2⟩:=slice_from 48 bx ox n cx (k+1) (by omega) hcx (.inl rfl) ((k:Int)+1) (by omega)
          have Hk1:=Lib.hid hk1'
          have Hk2:=Lib.hid hk2'
          clear hk1' hk2'
          go_upto_region 17 with fail
          rw [HWW.out]
          go_quiet (fail)
          have hF2:=Lib.hid (HW2.out.drewN nq)
          generalize w2.drewN nq=w3 at *
          clear hp1
          go_wp2_with fail
          obtain ⟨w4,hcp,hV3,m3⟩:=HR.out (k+1) _ (by omega) h0.out hF2.out.drew he o1 o2 Hk1.out hl1 Hk2.out
          go_still_tail 8,(by kernel_rfl)
          simp only [World.drew_eq]
          go_wp2_with (refine wpList_copy rfl (.tmp 69) (.tmp 73) 48 48 rfl _ _ rfl rfl hcp ?_;go_simp)
          go_ret
          exact ⟨ret_u64 (HST.out (k+1) (by omega) h0.out).symm,hV3,m3⟩
    · obtain rfl:k=n:=by omega
      have d1:decide ((k:Int)<(k:Int))=false:=decide_eq_false (by omega)
      have hvec:=hw.vec HZ.out hw64
      have hmod:=hw.mod
      have Hck:=Lib.hid hck
      clear hw hck
      go_wp2_with fail
      go_ret
      exact ⟨ret_u64 Hck.out.symm,hvec,hmod⟩
end
end Go.Proofs.YtpfmbfkhjapbbaaGreatDoor
