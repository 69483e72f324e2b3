/-
  big's nat.scan in base 16, at a text of hexadecimal digits (small letters): the number that it tells. Conditions: 1 to 1000 digits; io.EOF holds an errors.errorString's pointer.
-/
import Derived.Test.YtpfmbfkhjapbbaaGreatDoorMg03
import Derived.Test.YtpfmbfkhjapbbaaGreatDoorMScan
set_option linter.unusedVariables false
set_option linter.unusedSimpArgs false
namespace Go.Proofs.YtpfmbfkhjapbbaaGreatDoor
open Go Go.RowKit
theorem numOf_add (b:Nat) (D:Nat→Nat) (m n:Nat):numOf b D (m+n)=numOf b D m*b^n+numOf b (fun t=>D (m+t)) n:=by
  induction n with
  | zero=>simp [numOf]
  | succ n ih =>
    rw [← Nat.add_assoc]
    simp only [numOf]
    rw [ih,Nat.pow_succ,Nat.add_mul]
    have:numOf b D m*b^n*b=numOf b D m*(b^n*b):=by ac_rfl
    omega
theorem val_rev (f:Nat→Nat) (q:Nat):val (revW f (q+1)) (q+1)=f q+B64*val (revW f q) q:=by
  have h:=val_add (revW f (q+1)) 1 q
  rw [Nat.add_comm 1 q] at h
  rw [h]
  simp only [val_one,Nat.pow_one]
  have e0:revW f (q+1) 0=f q:=by simp [revW]
  have e1:val (fun j=>revW f (q+1) (1+j)) q=val (revW f q) q:=val_congr fun j hj=>by
    unfold revW
    rw [if_pos (by omega),if_pos hj]
    congr 1;omega
  rw [e0,e1]
theorem val_rev_num {f D:Nat→Nat} {q:Nat} (h:∀ j,j<q→f j=numOf 16 (fun t=>D (16*j+t)) 16):val (revW f q) q=numOf 16 D (16*q):=by
  induction q with
  | zero=>rfl
  | succ q ih =>
    rw [val_rev,ih fun j hj=>h j (by omega),h q (by omega),show 16*(q+1)=16*q+16 by omega,numOf_add,show (16:Nat)^16=B64 from rfl]
    rw [Nat.mul_comm (numOf 16 D (16*q)) B64];omega
theorem revW_congr {f g:Nat→Nat} {q:Nat} (h:∀ j,j<q→f j=g j):val (revW f q) q=val (revW g q) q:=val_congr fun j hj=>by
  unfold revW;rw [if_pos hj,if_pos hj];exact h _ (by omega)
def unU:Value→Nat
  | .int _ m=>m.toNat
  | _=>0
theorem unU_U (x:Nat):unU (U x)=x:=by simp [unU]
theorem appended_word {w w':World} {a a':Option Addr} {n c c' x:Nat} {f:Nat→Nat} {g':Nat→Value} (h:Appended w w' a n c 1 (fun j=>U (f j)) (fun _=>U x) (.int .u64 0) a' c' g') (hf:∀ j,j<c→f j<B64) (hx:x<B64) (hn:n≤c) (hcap:c≤9223372036854775807) :
    ∃ f',Arr w' a' c' f'∧(∀ j,j<n→f' j=f j)∧f' n=x:=by
  have hw:∀ j,j<c'→∃ y,g' j=U y∧y<B64:=by
    intro j hj
    by_cases h1:j<n
    · exact ⟨f j,h.old j h1,hf j (by omega)⟩
    · by_cases h2:j=n
      · subst h2;exact ⟨x,by simpa using h.new 0 (by omega),hx⟩
      · rcases h.spare j (by omega) hj with h3 | h3
        · exact ⟨f j,h3.1,hf j h3.2⟩
        · exact ⟨0,h3,B64_pos⟩
  refine ⟨fun j=>unU (g' j),h.arr.toArr (h.cap hcap) fun j hj => ?_,fun j hj => ?_,?_⟩
  · obtain ⟨y,e,hy⟩:=hw j hj
    simp only [e,unU_U];exact ⟨trivial,hy⟩
  · simp only [h.old j hj,unU_U]
  · have:=h.new 0 (by omega)
    simp only [Nat.add_zero] at this
    simp only [this,unU_U]
theorem new_off {w:World} {a:Option Addr} (h:a=none∨Fresh w a) {k o:Nat} (hk:k<w.heap.size):¬ BlkOf a k o:=by
  rintro ⟨A,rfl,rfl⟩
  rcases h with h | ⟨k',e,hk'⟩
  · cases h
  · have:A.block=k':=congrArg Addr.block (Option.some.inj e)
    omega
theorem next_byte' (rb k:Nat) (s:ByteArray) (w:World) (ea:Addr) (C:Nat→Nat) (hC:∀ j,(h:j<s.size)→s[j].toNat=C j) (hk:k<s.size) (h:Rd w rb s (min (k+1) s.size)) (hs:s.size<1099511627776) (hE:Eof w ea) (hrb:0<rb) :
    Calls Tryz.prog 292 #[.pointer (some ⟨rb,0,none⟩)] w fun e w'=>∃ ch err,e=.returned (.tuple #[.int .u8 ch,err])∧((k+1<s.size→err=.nilIface∧Value.int .u8 ch=.int .u8 (C (k+1):Int))∧(k+1=s.size→err=.iface 254 (.pointer (some ea))))∧Rd w' rb s (min (k+2) s.size)∧Mod (InB rb) w w':=by
  by_cases hlt:k+1<s.size
  · rw [Nat.min_eq_left (by omega)] at h
    refine (readByte_any rb (k+1) s w h hlt hs).mono ?_
    rintro e w' ⟨rfl,h1,h2⟩
    refine ⟨_,_,rfl,⟨fun _=>⟨rfl,?_⟩,fun h=>by omega⟩,?_,h2⟩
    · rw [hC (k+1) hlt]
    · rwa [Nat.min_eq_left (by omega)]
  · rw [Nat.min_eq_right (by omega)] at h
    refine (readByte_end rb s w _ h hs hE ⟨_,_,rfl⟩ hrb).mono ?_
    rintro e w' ⟨rfl,h1,h2⟩
    refine ⟨_,_,rfl,⟨fun h=>by omega,fun _=>rfl⟩,?_,h2⟩
    rwa [Nat.min_eq_right (by omega)]
structure Hex (w wr:World) (rb:Nat) (s:ByteArray) (D:Nat→Nat) (k q i d:Nat) (a:Option Addr) (c:Nat) (f:Nat→Nat):Prop where
  arr:Arr wr a c f
  le:q≤c
  words:∀ j,j<q→f j=numOf 16 (fun t=>D (16*j+t)) 16
  last:d=numOf 16 (fun t=>D (16*q+t)) i
  count:k=16*q+i
  room:i<16
  here:a=none∨Fresh w a
  mod:Mod (InB rb) w wr
  rd:Rd wr rb s (min (k+1) s.size)
theorem info121':∃ i,Tryz.prog.info? 121=some i∧i.zero=some (.int .u64 0)∧i.size=1∧i.bytes≤8:=by
  obtain ⟨i0,hi,hz0,hz1,hz2⟩:=info_parts info121
  exact ⟨i0,hi,hz0,hz1,by omega⟩
set_option maxRecDepth 100000 in
set_option maxHeartbeats 2000000 in
theorem scan16 (rb:Nat) (s:ByteArray) (w:World) (ea:Addr) (D C:Nat→Nat) (hC:∀ j,(h:j<s.size)→s[j].toNat=C j) (hD:∀ j,j<s.size→(C j=48+D j∧D j<10)∨(C j=87+D j∧10≤D j∧D j<16)) (hR:Rd w rb s 0) (hE:Eof w ea) (hs:0<s.size) (hs2:s.size≤1000) (hrb:0<rb) :
    Calls Tryz.prog 122 #[.slice none 0 0,.iface 149 (.pointer (some ⟨rb,0,none⟩)),.int .i64 16,.bool false] w fun e w' =>
      ∃ a n c f,e=.returned (.tuple #[.slice a n c,.int .i64 16,.int .i64 (s.size:Int),.nilIface])∧NatIs w' a n c f (numOf 16 D s.size)∧(a=none∨Fresh w a)∧Mod (InB rb) w w'∧Rd w' rb s s.size:=by
  have heq:=eof_eql ea
  obtain ⟨i0,hinf,hz0,hz1,hz2⟩:=info121'
  have Hinf:=Lib.hid hinf
  have Hz0:=Lib.hid hz0
  have Hz1:=Lib.hid hz1
  clear hinf hz0 hz1
  have HC:=Lib.hid hC
  have HD:=Lib.hid hD
  have hC0:=hC 0 hs
  have hsz:rb<w.heap.size:=by obtain ⟨q,hq⟩:=hR;exact lt_of_heap hq
  clear hC hD
  go_enter Tryz.func122,Tryz.ntmps122
  go_wp2_with fail
  refine (readByte_any rb 0 s _ hR hs (by omega)).mono ?_
  rintro e w1 ⟨rfl,hR1,hm1⟩
  go_wp2_with fail
  go_loopw [0,3,10,11,13,14,15,20,21,22] (fun z fr cnt err prev inv ch di i dp wr=>∃ (k q i' d:Nat) (p:Int) (a:Option Addr) (c:Nat) (f:Nat→Nat),k≤s.size∧z=.slice a q c∧fr=.bool false∧cnt=.int .i64 (k:Int)∧prev=.int .i32 p∧inv=.bool false∧di=U d∧i=.int .i64 (i':Int)∧dp=.int .i64 (-1)∧(p == 95)=false∧Hid ((k<s.size→err=.nilIface∧ch=.int .u8 (C k:Int))∧(k=s.size→err=.iface 254 (.pointer (some ea))))∧Hid (Hex w wr rb s D k q i' d a c f)) (fun _ _ cnt _ _ _ _ _ _ _ _=>s.size - (intOf cnt).toNat)
  case atStart=>exact ⟨0,0,0,0,46,none,0,fun _=>0,by omega,rfl,rfl,rfl,rfl,rfl,rfl,rfl,rfl,rfl,⟨fun _=>⟨rfl,rfl⟩,fun h=>by omega⟩,⟨.nil _ _,Nat.le_refl _,fun j hj=>by omega,rfl,rfl,by decide,.inl rfl,hm1,by rw [Nat.min_eq_left (by omega)];exact hR1⟩⟩
  case round =>
    obtain ⟨k,q,i',d,p,a,c,f,hk,rfl,rfl,rfl,rfl,rfl,rfl,rfl,rfl,hp,herr,hhex⟩:=hrel
    by_cases hlt:k<s.size
    · obtain ⟨rfl,rfl⟩:=herr.out.1 hlt
      clear herr
      have hx:=HD.out k hlt
      have hro:=hhex.out.room
      have hdl:d<16^i':=by rw [hhex.out.last];exact numOf_lt (n:=i') (fun j hj=>by
        have:=hhex.out.count
        rcases HD.out (16*q+j) (by omega) with h | h <;> omega) i' (Nat.le_refl _)
      have hd15:d<1152921504606846976:=Nat.lt_of_lt_of_le hdl (Nat.le_trans (Nat.pow_le_pow_right (by decide) (show i'≤15 by omega)) (by decide))
      have Hdl:=Lib.hid hdl
      clear hdl
      generalize hxk:D k=x at hx ⊢
      have Hxk:=Lib.hid hxk
      clear hxk
      generalize hyk:C k=y at hx ⊢
      clear hyk
      have tp:((48:Int) == 95)=false:=by decide
      rcases hx with ⟨rfl,hx⟩ | ⟨rfl,hx10,hx⟩
      · have t1:((48+(x:Int)) == 46)=false:=by simp;omega
        have t2:((48+(x:Int)) == 95)=false:=by simp;omega
        have t4:(48+(x:Int) - 48)=(x:Int):=by omega
        by_cases hi:i'=15
        · have t3':(((i':Int)+1) == 16)=true:=by simp;omega
          have Hi:=Lib.hid hi
          clear hi
          have hle:=hhex.out.le
          have hqs:q≤1000:=by have:=hhex.out.count;omega
          have hcast:((d:Int)*16+(x:Int))=((d*16+x:Nat):Int):=by omega
          have hlt2:d*16+x<B64:=by rw [B64_eq];omega
          have Hcast:=Lib.hid hcast
          clear hcast
          go_wp2_with (at_builtin;rw [Hcast.out];refine wpList_append_g rfl (.tmp 193) (.tmp 195) 49 121 rfl i0 (.int .u64 0) Tryz.underlying49 Hinf.out Hz0.out rfl Hz1.out hz2 a q c (fun j=>U (f j)) rfl ?hA hle wr.heap.size 0 1 1 rfl (fun _=>U (d*16+x)) ?hx (by omega) (by omega) ?hK)
          case hA=>exact ((hhex.out.arr.toG).mod ((Mod.refl NoP _).alloc _) (Off.noP _))
          case hx =>
            intro j hj
            obtain rfl:j=0:=by omega
            exact ⟨by rw [cell?_of_heap (heap_alloc_new wr _)];rfl,rfl⟩
          case hK =>
            intro a' c' g' w' hap
            obtain ⟨f',hA',hold,hnew⟩:=appended_word hap (fun j hj=>hhex.out.arr.words j hj) hlt2 hle hhex.out.arr.cap
            have hle':=hap.le
            have hmall:Mod (InB rb) w w':=(hhex.out.mod.alloc _).trans' hap.mod fun k' o hk' e=>(new_off hhex.out.here hk' e).elim
            have hhere:a'=none∨Fresh w a':=by
              rcases hap.here with rfl | h
              · exact hhex.out.here
              · exact .inr (h.mono (hhex.out.mod.alloc _).size)
            have hrd':Rd w' rb s (min (k+1) s.size):=(hhex.out.rd.mod ((Mod.refl NoP _).alloc _) fun _ h=>h).mod hap.mod fun o=>new_off hhex.out.here hsz
            have Hold:=Lib.hid hold
            have Hnew:=Lib.hid hnew
            clear hap hold hnew
            go_wp2_with fail
            refine (next_byte' rb k s _ ea C HC.out hlt hrd' (by omega) (hmall.cell_some hE fun h=>by unfold InB at h;omega) hrb).mono ?_
            rintro e w5 ⟨ch,err,rfl,h5,h7,h8⟩
            go_wp2_with fail
            go_roundw
            case rel =>
              refine ⟨k+1,q+1,0,0,48,a',c',f',by omega,rfl,rfl,by go_num,rfl,rfl,rfl,rfl,rfl,tp,h5,?_⟩
              have h:=hhex.out
              refine ⟨hA'.mod h8 (off_reader hhere hsz),hle',fun j hj => ?_,rfl,by have:=h.count;have:=Hi.out;omega,by decide,hhere,hmall.trans h8,h7⟩
              by_cases hjq:j<q
              · rw [Hold.out j hjq];exact h.words j hjq
              · obtain rfl:j=q:=by omega
                rw [Hnew.out,h.last,Hi.out,← Hxk.out,h.count,Hi.out]
                rfl
            case measure=>simp [intOf];omega
        · have t3':(((i':Int)+1) == 16)=false:=by simp;omega
          have hi':i'<15:=by omega
          clear hi
          go_wp2_with fail
          refine (next_byte' rb k s _ ea C HC.out hlt hhex.out.rd (by omega) (hhex.out.mod.cell_some hE fun h=>by unfold InB at h;omega) hrb).mono ?_
          rintro e w5 ⟨ch,err,rfl,h5,h7,h8⟩
          go_wp2_with fail
          go_roundw
          case rel =>
            refine ⟨k+1,q,i'+1,d*16+x,48,a,c,f,by omega,rfl,rfl,by go_num,rfl,rfl,by go_num,by go_num,rfl,tp,h5,?_⟩
            have h:=hhex.out
            exact ⟨h.arr.mod h8 (off_reader h.here hsz),h.le,h.words,by
              simp only [numOf]
              rw [← h.last,← h.count,Hxk.out],by have:=h.count;omega,by omega,h.here,h.mod.trans h8,h7⟩
          case measure=>simp [intOf];omega
      · have t1:((87+(x:Int)) == 46)=false:=by simp;omega
        have t2:((87+(x:Int)) == 95)=false:=by simp;omega
        have t4:(87+(x:Int) - 97+10)=(x:Int):=by omega
        by_cases hi:i'=15
        · have t3':(((i':Int)+1) == 16)=true:=by simp;omega
          have Hi:=Lib.hid hi
          clear hi
          have hle:=hhex.out.le
          have hqs:q≤1000:=by have:=hhex.out.count;omega
          have hcast:((d:Int)*16+(x:Int))=((d*16+x:Nat):Int):=by omega
          have hlt2:d*16+x<B64:=by rw [B64_eq];omega
          have Hcast:=Lib.hid hcast
          clear hcast
          go_wp2_with (at_builtin;rw [Hcast.out];refine wpList_append_g rfl (.tmp 193) (.tmp 195) 49 121 rfl i0 (.int .u64 0) Tryz.underlying49 Hinf.out Hz0.out rfl Hz1.out hz2 a q c (fun j=>U (f j)) rfl ?hA hle wr.heap.size 0 1 1 rfl (fun _=>U (d*16+x)) ?hx (by omega) (by omega) ?hK)
          case hA=>exact ((hhex.out.arr.toG).mod ((Mod.refl NoP _).alloc _) (Off.noP _))
          case hx =>
            intro j hj
            obtain rfl:j=0:=by omega
            exact ⟨by rw [cell?_of_heap (heap_alloc_new wr _)];rfl,rfl⟩
          case hK =>
            intro a' c' g' w' hap
            obtain ⟨f',hA',hold,hnew⟩:=appended_word hap (fun j hj=>hhex.out.arr.words j hj) hlt2 hle hhex.out.arr.cap
            have hle':=hap.le
            have hmall:Mod (InB rb) w w':=(hhex.out.mod.alloc _).trans' hap.mod fun k' o hk' e=>(new_off hhex.out.here hk' e).elim
            have hhere:a'=none∨Fresh w a':=by
              rcases hap.here with rfl | h
              · exact hhex.out.here
              · exact .inr (h.mono (hhex.out.mod.alloc _).size)
            have hrd':Rd w' rb s (min (k+1) s.size):=(hhex.out.rd.mod ((Mod.refl NoP _).alloc _) fun _ h=>h).mod hap.mod fun o=>new_off hhex.out.here hsz
            have Hold:=Lib.hid hold
            have Hnew:=Lib.hid hnew
            clear hap hold hnew
            go_wp2_with fail
            refine (next_byte' rb k s _ ea C HC.out hlt hrd' (by omega) (hmall.cell_some hE fun h=>by unfold InB at h;omega) hrb).mono ?_
            rintro e w5 ⟨ch,err,rfl,h5,h7,h8⟩
            go_wp2_with fail
            go_roundw
            case rel =>
              refine ⟨k+1,q+1,0,0,48,a',c',f',by omega,rfl,rfl,by go_num,rfl,rfl,rfl,rfl,rfl,tp,h5,?_⟩
              have h:=hhex.out
              refine ⟨hA'.mod h8 (off_reader hhere hsz),hle',fun j hj => ?_,rfl,by have:=h.count;have:=Hi.out;omega,by decide,hhere,hmall.trans h8,h7⟩
              by_cases hjq:j<q
              · rw [Hold.out j hjq];exact h.words j hjq
              · obtain rfl:j=q:=by omega
                rw [Hnew.out,h.last,Hi.out,← Hxk.out,h.count,Hi.out]
                rfl
            case measure=>simp [intOf];omega
        · have t3':(((i':Int)+1) == 16)=false:=by simp;omega
          have hi':i'<15:=by omega
          clear hi
          go_wp2_with fail
          refine (next_byte' rb k s _ ea C HC.out hlt hhex.out.rd (by omega) (hhex.out.mod.cell_some hE fun h=>by unfold InB at h;omega) hrb).mono ?_
          rintro e w5 ⟨ch,err,rfl,h5,h7,h8⟩
          go_wp2_with fail
          go_roundw
          case rel =>
            refine ⟨k+1,q,i'+1,d*16+x,48,a,c,f,by omega,rfl,rfl,by go_num,rfl,rfl,by go_num,by go_num,rfl,tp,h5,?_⟩
            have h:=hhex.out
            exact ⟨h.arr.mod h8 (off_reader h.here hsz),h.le,h.words,by
              simp only [numOf]
              rw [← h.last,← h.count,Hxk.out],by have:=h.count;omega,by omega,h.here,h.mod.trans h8,h7⟩
          case measure=>simp [intOf];omega
    · obtain rfl:=herr.out.2 (by omega)
      clear herr
      have hks:k=s.size:=by omega
      have heof:wr.cell? ⟨0,0,none⟩=some (.iface 254 (.pointer (some ea))):=hhex.out.mod.cell_some hE fun h=>by unfold InB at h;omega
      have hk0:((k:Int) == 0)=false:=by simp;omega
      have Hks:=Lib.hid hks
      clear hks
      by_cases hi0:i'=0
      · have hi0':¬ (0<i'):=by omega
        have Hi:=Lib.hid hi0
        clear hi0
        have hq0:0<q:=by have:=hhex.out.count;have:=Hks.out;have:=Hi.out;omega
        obtain ⟨b,rfl⟩:=hhex.out.arr.form (by have:=hhex.out.le;omega)
        go_wp2_with fail
        refine (reverse_any b q c _ f hhex.out.arr hhex.out.le (by have:=hhex.out.count;omega)).mono ?_
        rintro e w3 ⟨rfl,hA3,hm3⟩
        go_wp2_with fail
        refine (norm_any _ q c _ _ hA3 hhex.out.le (by have:=hhex.out.count;omega)).mono ?_
        rintro e w4 ⟨m,rfl,rfl,hmq,hN⟩
        go_wp2_with fail
        refine bodyPost_ret (v:=.tuple #[.slice (some ⟨b,0,none⟩) m c,.int .i64 16,.int .i64 (k:Int),.nilIface]) (by simp [results,Tryz.results122,go_sem]) rfl ?_
        have h:=hhex.out
        have hv:val (revW f q) q=numOf 16 D s.size:=by rw [val_rev_num h.words,← Hks.out,h.count,Hi.out];rfl
        have hmw:Mod (InB rb) w w4:=h.mod.trans' hm3 fun k' o hk' e=>by
          unfold InB at e;subst e
          rcases h.here with e | ⟨k2,e,hk2⟩
          · cases e
          · have:k'=k2:=congrArg Addr.block (Option.some.inj e)
            omega
        refine ⟨some ⟨b,0,none⟩,m,c,_,by rw [Hks.out],hv ▸ hN,h.here,hmw,?_⟩
        have hrd:=h.rd
        rw [Hks.out,Nat.min_eq_right (by omega)] at hrd
        refine hrd.mod hm3 fun o e => ?_
        unfold InB at e
        rcases h.here with e' | ⟨k2,e',hk2⟩
        · cases e'
        · have:b=k2:=congrArg Addr.block (Option.some.inj e')
          omega
      · have hi0':0<i':=by omega
        have hro:=hhex.out.room
        clear hi0
        go_wp2_with fail
        rw [show (16 - (i':Int))=((16 - i':Nat):Int) by omega]
        refine (pow_any 16 (16 - i') (by decide) (by omega) _).mono ?_
        rintro e w3 ⟨rfl,rfl⟩
        have hp16:16^(16 - i')%B64=16^(16 - i'):=Nat.mod_eq_of_lt (Nat.lt_of_le_of_lt (Nat.pow_le_pow_right (by omega) (show 16 - i'≤15 by omega)) (by decide))
        rw [hp16]
        have hdl:d<16^i':=by rw [hhex.out.last];exact numOf_lt (n:=i') (fun j hj=>by
          have:=hhex.out.count
          rcases HD.out (16*q+j) (by omega) with h | h <;> omega) i' (Nat.le_refl _)
        have hprod:d*16^(16 - i')<B64:=by
          have h1:d*16^(16 - i')<16^i'*16^(16 - i'):=Nat.mul_lt_mul_of_pos_right hdl (Nat.pow_pos (by decide))
          rw [← Nat.pow_add,show i'+(16 - i')=16 by omega] at h1
          exact h1
        clear hp16
        generalize hP:16^(16 - i')=P at hprod ⊢
        have HP:=Lib.hid hP
        have hwm:IntKind.u64.wrap ((d:Int)*(P:Int))=((d*P:Nat):Int):=by rw [wrap_mul,wMul,Nat.mod_eq_of_lt hprod]
        generalize hdp:d*P=dP at hwm hprod
        have Hdp:=Lib.hid hdp
        clear hP hdp hdl
        have hA3:Arr w3 a c f:=hhex.out.arr
        have hle:=hhex.out.le
        have hqs:q≤1000:=by have:=hhex.out.count;omega
        have HA3:=Lib.hid hA3
        clear hA3
        go_wp2_with (at_builtin;refine wpList_append_g rfl (.tmp 232) (.tmp 240) 49 121 rfl i0 (.int .u64 0) Tryz.underlying49 Hinf.out Hz0.out rfl Hz1.out hz2 a q c (fun j=>U (f j)) rfl ?hA hle w3.heap.size 0 1 1 rfl (fun _=>U dP) ?hx (by omega) (by omega) ?hK)
        case hA=>exact ((HA3.out.toG).mod ((Mod.refl NoP _).alloc _) (Off.noP _))
        case hx =>
          intro j hj
          obtain rfl:j=0:=by omega
          exact ⟨by rw [cell?_of_heap (heap_alloc_new w3 _)];rfl,rfl⟩
        case hK =>
          intro a' c' g' w' hap
          obtain ⟨f',hA',hold,hnew⟩:=appended_word hap (fun j hj=>hhex.out.arr.words j hj) hprod hle hhex.out.arr.cap
          have hle':=hap.le
          have hmall:Mod (InB rb) w w':=(hhex.out.mod.alloc _).trans' hap.mod fun k' o hk' e=>(new_off hhex.out.here hk' e).elim
          have hhere:a'=none∨Fresh w a':=by
            rcases hap.here with rfl | h
            · exact hhex.out.here
            · exact .inr (h.mono (hhex.out.mod.alloc _).size)
          have hrd':Rd w' rb s (min (k+1) s.size):=(hhex.out.rd.mod ((Mod.refl NoP _).alloc _) fun _ h=>h).mod hap.mod fun o=>new_off hhex.out.here hsz
          obtain ⟨b,rfl⟩:=hA'.form (by omega)
          have Hold:=Lib.hid hold
          have Hnew:=Lib.hid hnew
          clear hap hold hnew
          go_wp2_with fail
          refine (reverse_any b (q+1) c' _ f' hA' hle' (by omega)).mono ?_
          rintro e w4 ⟨rfl,hA4,hm4⟩
          go_wp2_with fail
          refine (norm_any _ (q+1) c' _ _ hA4 hle' (by omega)).mono ?_
          rintro e w5 ⟨m,rfl,rfl,hmq,hN⟩
          go_wp2_with fail
          rw [show ((16 - (i':Int))*4)=(((16 - i')*4:Nat):Int) by omega]
          refine (rsh_any (some ⟨b,0,none⟩) (some ⟨b,0,none⟩) m c' m c' ((16 - i')*4) _ _ _ _ hN.arr hN.le hN (by omega) (by omega) (by omega)).mono ?_
          intro e w6 hr6
          have h2:val (revW f' (q+1)) (q+1)=numOf 16 D s.size*P:=by
            rw [val_rev,Hnew.out,revW_congr Hold.out,val_rev_num hhex.out.words,← Hks.out,hhex.out.count,numOf_add,← hhex.out.last,Nat.add_mul,← Hdp.out]
            have:numOf 16 D (16*q)*16^i'*P=B64*numOf 16 D (16*q):=by
              rw [← HP.out,Nat.mul_assoc,← Nat.pow_add,show i'+(16 - i')=16 by omega,Nat.mul_comm];rfl
            omega
          have h3:val (revW f' (q+1)) (q+1)/2^((16 - i')*4)=numOf 16 D s.size:=by
            have e1:2^((16 - i')*4)=P:=by rw [← HP.out,show (16:Nat)=2^4 from rfl,← Nat.pow_mul,Nat.mul_comm]
            rw [h2,e1,Nat.mul_div_cancel _ (by rw [← HP.out];exact Nat.pow_pos (by decide))]
          rw [h3] at hr6
          have hb4:∀ k' o,k'<w.heap.size→InB b k' o→InB rb k' o:=fun k' o hk' e=>by
            unfold InB at e;subst e
            exact (new_off hhere (k:=k') (o:=o) hk' ⟨_,rfl,rfl⟩).elim
          obtain ⟨a6,n6,c6,f6,rfl,h4,h5,h6,h7⟩:=grow (rb:=rb) (s:=s) (hmall.trans' hm4 hb4) hhere (hrd'.mod hm4 fun o e=>new_off hhere (k:=rb) (o:=o) hsz ⟨_,rfl,by unfold InB at e;exact e.symm⟩) hsz hr6
          go_wp2_with fail
          refine bodyPost_ret (v:=.tuple #[.slice a6 n6 c6,.int .i64 16,.int .i64 (k:Int),.nilIface]) (by simp [results,Tryz.results122,go_sem]) rfl ?_
          refine ⟨a6,n6,c6,f6,by rw [Hks.out],h4,h5,h6,?_⟩
          rwa [Hks.out,Nat.min_eq_right (by omega)] at h7
end Go.Proofs.YtpfmbfkhjapbbaaGreatDoor
