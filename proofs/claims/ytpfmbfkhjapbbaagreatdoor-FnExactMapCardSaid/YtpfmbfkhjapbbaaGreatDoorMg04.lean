/-
  Shifts of rows of words: big's rshVU, rsh. Conditions: a shift between 1 and 63 bits.
  big's nat.rsh by less than a word, and slices.Reverse on words. Conditions: a shift between 1 and 63 bits; at most 10^6 words.
  strings.Reader: NewReader, ReadByte, UnreadByte; big's scanSign on a text that begins with no sign. Conditions: the text is shorter than 2^40 bytes; the variable io.EOF holds what it holds.
  The specification's numbers of nine words: small, sum, difference, less, add. No condition.
-/
import Derived.Test.YtpfmbfkhjapbbaaGreatDoorMg03
import Derived.StillTailTactics
import Derived.Deep.QuietTactic
import Derived.BigQuiet
set_option linter.unusedVariables false
set_option linter.unusedSimpArgs false
namespace Go.Proofs.YtpfmbfkhjapbbaaGreatDoor
section
open Go Go.RowKit
theorem u64_and63 (x:Nat) (h:x<18446744073709551616):bits .and .u64 (x:Int) 63=((x%64:Nat):Int):=by
  have h:=u64_and_nat x 63 h (by decide)
  rw [show (63:Nat)=2^6 - 1 from rfl,Nat.and_two_pow_sub_one_eq_mod] at h
  exact h
def shrW (X:Nat→Nat) (n s:Nat) (k:Nat):Nat:=X k/2^s+(if k+1<n then X (k+1)*2^(64 - s)%B64 else 0)
theorem or_shr (x y s:Nat) (hx:x<B64) (h1:0<s) (h2:s<64) :
    bits .or .u64 ((x:Int)/2^s) (IntKind.u64.wrap ((y:Int)*2^(64 - s)))=((x/2^s+y*2^(64 - s)%B64:Nat):Int):=by
  have hp:2^(64 - s)*2^s=B64:=by rw [← Nat.pow_add,show 64 - s+s=64 by omega];rfl
  have hps:0<2^s:=Nat.two_pow_pos s
  have hx':x/2^s<2^(64 - s):=Nat.div_lt_of_lt_mul (by rw [Nat.mul_comm,hp];exact hx)
  have hb:y*2^(64 - s)%B64=2^(64 - s)*(y%2^s):=by
    rw [← hp,Nat.mul_comm y,Nat.mul_mod_mul_left]
  have hlt:y*2^(64 - s)%B64<B64:=Nat.mod_lt _ B64_pos
  have e1:(x:Int)/2^s=((x/2^s:Nat):Int):=by simp
  have e2:IntKind.u64.wrap ((y:Int)*2^(64 - s))=((y*2^(64 - s)%B64:Nat):Int):=by
    have:=wrap_mul y (2^(64 - s))
    simpa [wMul] using this
  have h64:2^(64 - s)≤B64:=by rw [B64_pow];exact Nat.pow_le_pow_right (by omega) (by omega)
  rw [e1,e2,(bits_nat .u64 64 (by decide) (fun n h h'=>by rw [IntKind.wrap_u64];omega) _ _ (by rw [← B64_pow];omega) (by rw [← B64_pow];exact hlt)).2]
  congr 1
  rw [hb,Nat.or_comm,← Nat.two_pow_add_eq_or_of_lt hx']
  omega
theorem shr_word (x s:Nat):(x:Int)/2^s=((x/2^s:Nat):Int):=by simp
theorem shrW_lt (X:Nat→Nat) {n s:Nat} (h1:0<s) (h2:s<64) {k:Nat} (hx:X k<B64):shrW X n s k<B64:=by
  have hp:2^(64 - s)*2^s=B64:=by rw [← Nat.pow_add,show 64 - s+s=64 by omega];rfl
  have hx':X k/2^s<2^(64 - s):=Nat.div_lt_of_lt_mul (by rw [Nat.mul_comm,hp];exact hx)
  unfold shrW
  split
  · have hb:X (k+1)*2^(64 - s)%B64=2^(64 - s)*(X (k+1)%2^s):=by
      rw [← hp,Nat.mul_comm (X (k+1)),Nat.mul_mod_mul_left]
    have hm:X (k+1)%2^s+1≤2^s:=Nat.mod_lt _ (Nat.two_pow_pos s)
    have:=Nat.mul_le_mul_left (2^(64 - s)) hm
    rw [Nat.mul_add,hp] at this
    omega
  · have:=Nat.pow_le_pow_right (n:=2) (by omega) (show 64 - s≤64 by omega)
    rw [← B64_pow] at this
    omega
set_option maxRecDepth 100000 in
set_option maxHeartbeats 400000 in
theorem rshVU_g_any (bz oz cz bx ox cx n s:Nat) (X Z:Nat→Nat) (w:World)
   (hX:Vec w bx ox n X) (hZ:Vec w bz oz n Z) (hn:n<4611686018427387904) (hn0:0<n) (h1:0<s) (h2:s<64) (ax:Up bz oz bx ox n) :
    Calls Tryz.prog 143 #[.slice (some ⟨bz,oz,none⟩) n cz,.slice (some ⟨bx,ox,none⟩) n cx,U s] w
      fun e w'=>(∃ c,e=.returned (U c))∧Vec w' bz oz n (shrW X n s)∧Mod (InR bz oz n) w w':=by
  have hs:bits .and .u64 (s:Int) 63=(s:Int):=by rw [u64_and63 s (by omega),Nat.mod_eq_of_lt h2]
  have hs':bits .and .u64 (64 - (s:Int)) 63=64 - (s:Int):=by
    have:=u64_and63 (64 - s) (by omega)
    rw [Nat.mod_eq_of_lt (by omega)] at this
    rw [show (64 - (s:Int))=((64 - s:Nat):Int) by omega,this]
  have hx0:=(hX 0 hn0).1
  rw [Nat.add_zero] at hx0
  have hs0:((s:Int) == 0)=false:=by simp;omega
  have hn0':((n:Int) == 0)=false:=by simp;omega
  go_enter Tryz.func143,Tryz.ntmps143
  go_wp2
  go_loopw [8] (fun i wr=>∃ j:Nat,j+1≤n∧i=.int .i64 ((j:Int)+1)∧Written w wr bz oz j (shrW X n s)) (fun i _=>n - (intOf i).toNat)
  case atStart=>exact ⟨0,by omega,rfl,.zero _ _ _ _⟩
  case round =>
    obtain ⟨j,hj,rfl,hw⟩:=hrel
    have hj':j<n:=by omega
    have hcx:=hw.read hX ax hj'
    have hi1:((j:Int)+1 - 1)=(j:Int):=by omega
    obtain ⟨zk,hcz⟩:=hw.there hZ hj'
    have hfz:=hw.free hZ hj'
    have HZ:=Lib.hid (hZ j hj').1
    have Hw:=Lib.hid hw
    by_cases hlt:j+1<n
    · have hcx1:wr.cell? ⟨bx,ox+(j+1),none⟩=some (U (X (j+1))) :=
        hw.mod.cell_some (hX (j+1) hlt).1 fun ⟨a,b,c⟩=>by have:=ax a;omega
      have Hs:=Lib.hid (show X j/2^s+X (j+1)*2^(64 - s)%B64=shrW X n s j by simp [shrW,hlt])
      clear hw
      have hxl:=(hX j hj').2.2
      generalize X j=xj at *
      generalize X (j+1)=xk at *
      have hwj:IntKind.i64.wrap (j:Int)=(j:Int):=IntWalk.i64_in _ (by omega)
      have hj1:(0:Int)≤(j:Int)+1:=by omega
      have hj2:(j:Int)+1<(n:Int):=by omega
      have hj3:((j:Int)+1).toNat=j+1:=by omega
      go_wp2_with fail
      go_still_tail 18,(by kernel_rfl)
      simp only [World.drew_eq]
      go_wp2_with fail
      go_roundw
      case rel=>exact ⟨j+1,by omega,by go_num,Hw.out.drew.step' (f:=shrW X n s) HZ.out (by rw [or_shr _ _ _ hxl h1 h2,Hs.out])⟩
      case measure=>simp [intOf];omega
    · obtain rfl:n=j+1:=by omega
      clear hw
      have Hs:=Lib.hid (show X j/2^s=shrW X (j+1) s j by simp [shrW])
      generalize X j=xj at *
      go_wp2_with fail
      go_ret
      have hst:=Hw.out.step' (f:=shrW X (j+1) s) HZ.out (u:=.int .u64 ((xj:Int)/2^s)) (by rw [shr_word,Hs.out])
      exact ⟨⟨X 0*2^(64 - s)%B64,by
        have:=wrap_mul (X 0) (2^(64 - s))
        simpa [wMul] using this⟩,hst.vec hZ (fun i hi=>shrW_lt X h1 h2 (hX i hi).2.2),hst.mod⟩
theorem rshVU_any (bz oz cz bx ox cx n s:Nat) (X Z:Nat→Nat) (w:World)
   (hX:Vec w bx ox n X) (hZ:Vec w bz oz n Z) (hn:n<4611686018427387904) (hn0:0<n) (h1:0<s) (h2:s<64) (ax:Up bz oz bx ox n) :
    Calls Tryz.prog 128 #[.slice (some ⟨bz,oz,none⟩) n cz,.slice (some ⟨bx,ox,none⟩) n cx,U s] w
      fun e w'=>(∃ c,e=.returned (U c))∧Vec w' bz oz n (shrW X n s)∧Mod (InR bz oz n) w w':=by
  go_enter Tryz.func128,Tryz.ntmps128
  go_wp2_with fail
  refine (rshVU_g_any bz oz cz bx ox cx n s X Z _ hX hZ hn hn0 h1 h2 ax).mono ?_
  rintro e w' ⟨⟨c,rfl⟩,h3,h4⟩
  go_wp2
  go_ret
  exact ⟨⟨c,rfl⟩,h3,h4⟩
theorem shr_val (X:Nat→Nat) (n s:Nat) (h1:0<s) (h2:s<64):val (shrW X n s) n=val X n/2^s:=by
  have hp:2^(64 - s)*2^s=B64:=by rw [← Nat.pow_add,show 64 - s+s=64 by omega];rfl
  have hps:0<2^s:=Nat.two_pow_pos s
  
  have key:∀ m k,k+m=n→val (fun j=>shrW X n s (k+j)) m=val (fun j=>X (k+j)) m/2^s:=by
    intro m
    induction m with
    | zero=>intro k _;simp [val]
    | succ m ih =>
      intro k hk
      have h:=ih (k+1) (by omega)
      have e1:=val_add (fun j=>shrW X n s (k+j)) 1 m
      have e2:=val_add (fun j=>X (k+j)) 1 m
      rw [Nat.add_comm 1 m] at e1 e2
      simp only [val_one,Nat.pow_one,Nat.add_zero] at e1 e2
      have e3:(fun j=>shrW X n s (k+(1+j)))=fun j=>shrW X n s (k+1+j):=by funext j;rw [Nat.add_assoc]
      have e4:(fun j=>X (k+(1+j)))=fun j=>X (k+1+j):=by funext j;rw [Nat.add_assoc]
      rw [e1,e2,e3,e4,h]
      generalize hv:val (fun j=>X (k+1+j)) m=v
      have hq:X k/2^s+(if k+1<n then X (k+1)*2^(64 - s)%B64 else 0)+B64*(v/2^s)=(X k+B64*v)/2^s:=by
        have hB:B64*v=2^s*(2^(64 - s)*v):=by rw [← hp];ac_rfl
        rw [hB,Nat.add_mul_div_left _ _ hps]
        have hv2:2^(64 - s)*v=2^(64 - s)*(v%2^s)+B64*(v/2^s):=by
          have h5:=Nat.div_add_mod v (2^s)
          rw [← hp,Nat.mul_assoc,← Nat.mul_add]
          congr 1
          omega
        rw [hv2]
        have hx:(if k+1<n then X (k+1)*2^(64 - s)%B64 else 0)=2^(64 - s)*(v%2^s):=by
          split
          · obtain ⟨m',rfl⟩:∃ m',m=m'+1:=⟨m - 1,by omega⟩
            have e5:=val_add (fun j=>X (k+1+j)) 1 m'
            rw [Nat.add_comm 1 m'] at e5
            simp only [val_one,Nat.pow_one,Nat.add_zero] at e5
            rw [← hv,e5,← hp,Nat.mul_comm (X (k+1)),Nat.mul_mod_mul_left]
            congr 1
            rw [Nat.mul_comm (2^(64 - s)),Nat.mul_assoc,Nat.add_mul_mod_self_left]
          · obtain rfl:m=0:=by omega
            rw [← hv];simp [val]
        rw [hx];omega
      exact hq
  have h:=key n 0 (by omega)
  simpa using h
end
section
open Go Go.RowKit
theorem blk_of {w:World} {z:Option Addr} {b:Nat} (hf:some (⟨b,0,none⟩:Addr)=z∨Fresh w (some ⟨b,0,none⟩)) (hb:b<w.heap.size) (o:Nat):BlkOf z b o:=by
  rcases hf with e | ⟨k,e,hk⟩
  · exact ⟨_,e.symm,rfl⟩
  · obtain rfl:b=k:=congrArg Addr.block (Option.some.inj e)
    omega
set_option maxHeartbeats 400000 in
theorem rsh_any (az ax:Option Addr) (nz cz nx cx s vx:Nat) (w:World) (fz fx:Nat→Nat) (hZ:Arr w az cz fz) (hnz:nz≤cz) (hX:NatIs w ax nx cx fx vx) (hs:nx≤1000000) (h1:0<s) (h2:s<64) :
    Calls Tryz.prog 113 #[.slice az nz cz,.slice ax nx cx,U s] w (NatRet w az (vx/2^s)):=by
  have hs0:((s:Int) == 0)=false:=by simp;omega
  have hsd:(s:Int)/64=0:=by omega
  have hsm:(s:Int)%64=(s:Int):=by omega
  by_cases hx0:nx=0
  · subst hx0
    have hv:vx=0:=hX.zero_iff.1 rfl
    have hz:=slice_zero az nz cz hZ hnz
    have HN:=Lib.hid (NatIs.zero hZ)
    have hq:=Lib.hid (show 0=vx/2^s by rw [hv];simp)
    clear hZ hv
    go_enter Tryz.func113,Tryz.ntmps113
    go_wp2
    go_ret
    rw [← hq.out]
    exact .mk HN.out (.refl _ _) (.inl rfl)
  · have hnx:¬ (nx≤0):=by omega
    obtain ⟨bx,rfl⟩:=hX.arr.form (by have:=hX.le;omega)
    have hle:=hX.le
    go_enter Tryz.func113,Tryz.ntmps113
    go_wp2_with fail
    refine (make_any az nz cz nx _ fz hZ hnz (by omega)).mono ?_
    rintro e w1 ⟨a',c',f',rfl,hA',hm,hmod,hfr⟩
    obtain ⟨b,rfl⟩:=hA'.form (by omega)
    have hX1:=hX.mod hmod (Off.noP _)
    go_wp2_with fail
    refine (rshVU_any b 0 c' bx 0 cx nx s fx f' _ (hX1.arr.vec.take hX1.le) (hA'.vec.take hm) (by omega) (by omega) h1 h2 (fun _=>.inl (Nat.le_refl _))).mono ?_
    rintro e w2 ⟨⟨c0,rfl⟩,hw,hmod2⟩
    have hA2:=hA'.wrote hw hmod2
    have HV:=Lib.hid (show val (splice (shrW fx nx s) nx f') nx=vx/2^s by rw [val_splice _ _ (Nat.le_refl _),shr_val _ _ _ h1 h2,hX.val])
    go_wp2_with fail
    refine (norm_any _ nx c' _ _ hA2 hm (by omega)).mono ?_
    rintro e w4 hr4
    obtain ⟨a,n,c,f,rfl,h3,h4,h5⟩:=hr4.ret HV.out (mod_wrote hmod hfr hmod2) hfr
    go_wp2
    go_ret
    exact .mk h3 h4 h5
def revW (f:Nat→Nat) (n:Nat) (j:Nat):Nat:=if j<n then f (n - 1 - j) else f j
def revTo (f:Nat→Nat) (n k:Nat) (j:Nat):Nat:=if j<n∧(j<k∨n - 1 - k<j) then f (n - 1 - j) else f j
theorem revTo_step (f:Nat→Nat) {n k:Nat} (h:k+k+1<n):put (put (revTo f n k) k (f (n - 1 - k))) (n - 1 - k) (f k)=revTo f n (k+1):=by
  funext j
  unfold put revTo
  by_cases h1:j=n - 1 - k
  · rw [if_pos h1,if_pos ⟨by omega,.inr (by omega)⟩]
    congr 1;omega
  · rw [if_neg h1]
    by_cases h2:j=k
    · rw [if_pos h2,if_pos ⟨by omega,.inl (by omega)⟩]
      congr 1;omega
    · rw [if_neg h2]
      by_cases h3:j<n∧(j<k∨n - 1 - k<j)
      · rw [if_pos h3,if_pos ⟨h3.1,by omega⟩]
      · rw [if_neg h3,if_neg (by omega)]
theorem revTo_end (f:Nat→Nat) {n k:Nat} (h:¬ k+k+1<n) (hk:k+k≤n+1):revTo f n k=revW f n:=by
  funext j
  unfold revTo revW
  by_cases h1:j<n
  · rw [if_pos h1]
    by_cases h3:j<k∨n - 1 - k<j
    · rw [if_pos ⟨h1,h3⟩]
    · rw [if_neg (by omega)]
      congr 1;omega
  · rw [if_neg h1,if_neg (by omega)]
set_option maxRecDepth 100000 in
set_option maxHeartbeats 1000000 in
theorem reverse_any (b n c:Nat) (w:World) (f:Nat→Nat) (hA:Arr w (some ⟨b,0,none⟩) c f) (hn:n≤c) (hs:n≤1048576) :
    Calls Tryz.prog 138 #[.slice (some ⟨b,0,none⟩) n c] w fun e w'=>e=.returned (.tuple #[])∧Arr w' (some ⟨b,0,none⟩) c (revW f n)∧Mod (InB b) w w':=by
  go_enter Tryz.func138,Tryz.ntmps138
  go_wp2
  go_loopw [2,3] (fun i j wr=>∃ k:Nat,k+k≤n+1∧i=.int .i64 (k:Int)∧j=.int .i64 ((n:Int) - 1 - (k:Int))∧Hid (Arr wr (some ⟨b,0,none⟩) c (revTo f n k)∧Mod (InB b) w wr)) (fun i _ _=>n - (intOf i).toNat)
  case atStart=>exact ⟨0,by omega,rfl,by simp,by
    have e:revTo f n 0=f:=by funext j;unfold revTo;rw [if_neg (by omega)]
    rw [e];exact ⟨hA,.refl _ _⟩⟩
  case round =>
    obtain ⟨k,hk,rfl,rfl,hinv⟩:=hrel
    by_cases hlt:k+k+1<n
    · obtain ⟨j,hj⟩:∃ j,n=j+1+k:=⟨n - 1 - k,by omega⟩
      have hji:((n:Int) - 1 - (k:Int))=(j:Int):=by omega
      have hkj:k<j:=by omega
      have hjn:j<n:=by omega
      have hv:=hinv.out.1.vec
      have hci:=(hv k (by omega)).1
      have hcj:=(hv j (by omega)).1
      have hfi:=(hv k (by omega)).2.1
      have hfj:=(hv j (by omega)).2.1
      rw [Nat.zero_add] at hci hcj hfi hfj
      have e1:revTo f n k k=f k:=by unfold revTo;rw [if_neg (by omega)]
      have e2:revTo f n k j=f j:=by unfold revTo;rw [if_neg (by omega)]
      rw [e1] at hci
      rw [e2] at hcj
      have hlk:f k<B64:=by rw [← e1];exact (hv k (by omega)).2.2
      have hlj:f j<B64:=by rw [← e2];exact (hv j (by omega)).2.2
      have HS:=Lib.hid (revTo_step f hlt)
      have Hj:=Lib.hid hj
      have Hji:=Lib.hid hji
      have Hlt:=Lib.hid hlt
      clear hv e1 e2 hj hlt
      rw [hji]
      clear hji
      generalize hx:f k=x at *
      generalize hy:f j=y at *
      have Hx:=Lib.hid hx
      have Hy:=Lib.hid hy
      clear hx hy
      go_wp2_with fail
      go_region
      go_wp2_with fail
      go_roundw
      case rel =>
        refine ⟨k+1,by have:=Hlt.out;omega,by go_num,by rw [← Hji.out];congr 1;omega,?_⟩
        have hA1:=((hinv.out.1).store (i:=k) hlj).store (i:=j) hlk
        have hm1:=((hinv.out.2).setCell (b:=b) (o:=k) (fun _=>rfl) (U y)).setCell (b:=b) (o:=j) (fun _=>rfl) (U x)
        have ej:n - 1 - k=j:=by have:=Hj.out;omega
        have hR:put (put (revTo f n k) k y) j x=revTo f n (k+1):=by
          rw [← HS.out,ej,Hy.out]
        rw [hR] at hA1
        exact ⟨hA1,hm1.drew⟩
      case measure=>simp [intOf];omega
    · have hd:decide ((k:Int)<(n:Int) - 1 - (k:Int))=false:=decide_eq_false (by omega)
      go_wp2_with fail
      go_end0
      rw [revTo_end f hlt hk] at hinv
      exact ⟨rfl,hinv.out.1,hinv.out.2⟩
end
section
open Go Go.RowKit
def Rd (w:World) (rb:Nat) (s:ByteArray) (pos:Nat):Prop:=∃ q,w.heap[rb]? = some (.cells #[.string s,.int .i64 (pos:Int),.int .i64 q] 169 (0,0))
theorem Rd.mod {w w':World} {rb:Nat} {s:ByteArray} {pos:Nat} {M:Places} (h:Rd w rb s pos) (hm:Mod M w w') (hd:∀ o,¬ M rb o):Rd w' rb s pos:=by
  obtain ⟨q,hq⟩:=h
  exact ⟨q,by rw [hm.heap (lt_of_heap hq) hd,hq]⟩
theorem Rd.of_cells {w w':World} {rb:Nat} {s:ByteArray} {pos pos':Nat} {q:Int} (h:Rd w rb s pos) (hm:Mod (InB rb) w w') (h0:w'.cell? ⟨rb,0,none⟩=some (.string s)) (h1:w'.cell? ⟨rb,1,none⟩=some (.int .i64 (pos':Int)))
    (h2:w'.cell? ⟨rb,2,none⟩=some (.int .i64 q)):Rd w' rb s pos':=by
  obtain ⟨q0,hq⟩:=h
  obtain ⟨C',hb,hs,_⟩:=hm.cells hq
  refine ⟨q,?_⟩
  rw [cell?_of_heap hb] at h0 h1 h2
  rw [hb]
  have:C'=#[.string s,.int .i64 (pos':Int),.int .i64 q]:=by
    apply Array.ext_getElem?
    intro j
    match j with
    | 0=>simpa using h0
    | 1=>simpa using h1
    | 2=>simpa using h2
    | j+3=>rw [Array.getElem?_eq_none (by rw [hs];simp),Array.getElem?_eq_none (by simp)]
  rw [this]
theorem mod_own (w:World) (b o:Nat) (v:Value):Mod (InB b) w (w.setCell ⟨b,o,none⟩ v):=(setCell_mod w b o v).mono fun _ _ _ h=>h.1
theorem rd_back {w:World} {rb:Nat} {s:ByteArray} {pos:Nat} (h:Rd w rb s pos) (n:Nat) :
    Rd ((w.setCell ⟨rb,2,none⟩ (.int .i64 (-1))).drewN n) rb s pos∧Mod (InB rb) w ((w.setCell ⟨rb,2,none⟩ (.int .i64 (-1))).drewN n):=by
  have hm:Mod (InB rb) w ((w.setCell ⟨rb,2,none⟩ (.int .i64 (-1))).drewN n):=(mod_own w rb 2 _).drewN n
  refine ⟨?_,hm⟩
  have hR:=h
  obtain ⟨q,hq⟩:=h
  have h0:w.cell? ⟨rb,0,none⟩=some (.string s):=by rw [cell?_of_heap hq];rfl
  have h1:w.cell? ⟨rb,1,none⟩=some (.int .i64 (pos:Int)):=by rw [cell?_of_heap hq];rfl
  have h2:w.cell? ⟨rb,2,none⟩=some (.int .i64 q):=by rw [cell?_of_heap hq];rfl
  refine hR.of_cells (q := -1) hm ?_ ?_ ?_
  · rw [World.cell?_drewN,cell_other (.inr (by decide))];exact h0
  · rw [World.cell?_drewN,cell_other (.inr (by decide))];exact h1
  · rw [World.cell?_drewN];exact cell_same h2 _
theorem rd_to {w:World} {rb:Nat} {s:ByteArray} {pos:Nat} (h:Rd w rb s pos) (p:Nat) :
    Rd (w.setCell ⟨rb,1,none⟩ (.int .i64 (p:Int))) rb s p∧Mod (InB rb) w (w.setCell ⟨rb,1,none⟩ (.int .i64 (p:Int))):=by
  have hm:Mod (InB rb) w (w.setCell ⟨rb,1,none⟩ (.int .i64 (p:Int))):=mod_own w rb 1 _
  refine ⟨?_,hm⟩
  have hR:=h
  obtain ⟨q,hq⟩:=h
  have h0:w.cell? ⟨rb,0,none⟩=some (.string s):=by rw [cell?_of_heap hq];rfl
  have h1:w.cell? ⟨rb,1,none⟩=some (.int .i64 (pos:Int)):=by rw [cell?_of_heap hq];rfl
  have h2:w.cell? ⟨rb,2,none⟩=some (.int .i64 q):=by rw [cell?_of_heap hq];rfl
  refine hR.of_cells (q:=q) hm ?_ ?_ ?_
  · rw [cell_other (.inr (by decide))];exact h0
  · exact cell_same h1 _
  · rw [cell_other (.inr (by decide))];exact h2
set_option maxHeartbeats 400000 in
theorem readByte_any (rb pos:Nat) (s:ByteArray) (w:World) (h:Rd w rb s pos) (hp:pos<s.size) (hs:s.size<1099511627776) :
    Calls Tryz.prog 292 #[.pointer (some ⟨rb,0,none⟩)] w fun e w'=>e=.returned (.tuple #[.int .u8 (s[pos].toNat:Int),.nilIface])∧Rd w' rb s (pos+1)∧Mod (InB rb) w w':=by
  have hR:=Lib.hid h
  obtain ⟨q,hq⟩:=h
  have h0:w.cell? ⟨rb,0,none⟩=some (.string s):=by rw [cell?_of_heap hq];rfl
  have h1:w.cell? ⟨rb,1,none⟩=some (.int .i64 (pos:Int)):=by rw [cell?_of_heap hq];rfl
  have h2:w.cell? ⟨rb,2,none⟩=some (.int .i64 q):=by rw [cell?_of_heap hq];rfl
  have f0:=free_of_heap hq 0
  have f1:=free_of_heap hq 1
  have f2:=free_of_heap hq 2
  clear hq
  go_enter Tryz.func292,Tryz.ntmps292
  go_wp2_with fail
  go_quiet (fail)
  go_wp2_with fail
  go_quiet (fail)
  go_wp2_with fail
  go_ret2
  have hb:=rd_back hR.out
  exact ⟨rfl,(rd_to (hb _).1 (pos+1)).1,(hb _).2.trans (rd_to (hb _).1 (pos+1)).2⟩
theorem readByte_end (rb:Nat) (s:ByteArray) (w:World) (v:Value) (h:Rd w rb s s.size) (hs:s.size<1099511627776) (hv:w.cell? ⟨0,0,none⟩=some v) (h1v:∃ t a,v=.iface t (.pointer (some a))) (hrb:0<rb) :
    Calls Tryz.prog 292 #[.pointer (some ⟨rb,0,none⟩)] w fun e w'=>e=.returned (.tuple #[.int .u8 0,v])∧Rd w' rb s s.size∧Mod (InB rb) w w':=by
  have hR:=Lib.hid h
  obtain ⟨t,a,rfl⟩:=h1v
  obtain ⟨q,hq⟩:=h
  have h0:w.cell? ⟨rb,0,none⟩=some (.string s):=by rw [cell?_of_heap hq];rfl
  have h1:w.cell? ⟨rb,1,none⟩=some (.int .i64 (s.size:Int)):=by rw [cell?_of_heap hq];rfl
  have h2:w.cell? ⟨rb,2,none⟩=some (.int .i64 q):=by rw [cell?_of_heap hq];rfl
  have f0:=free_of_heap hq 0
  have f1:=free_of_heap hq 1
  have f2:=free_of_heap hq 2
  clear hq
  go_enter Tryz.func292,Tryz.ntmps292
  go_wp2_with fail
  go_quiet (fail)
  go_wp2_with fail
  go_quiet (fail)
  go_wp2_with fail
  go_ret2
  have hb:=rd_back hR.out
  refine ⟨rfl,?_⟩
  simp only [World.drewN_drewN]
  exact hb _
theorem unreadByte_any (rb pos:Nat) (s:ByteArray) (w:World) (h:Rd w rb s (pos+1)) (hs:s.size<1099511627776) (hp:pos<s.size) :
    Calls Tryz.prog 293 #[.pointer (some ⟨rb,0,none⟩)] w fun e w'=>e=.returned .nilIface∧Rd w' rb s pos∧Mod (InB rb) w w':=by
  have hR:=Lib.hid h
  obtain ⟨q,hq⟩:=h
  have h0:w.cell? ⟨rb,0,none⟩=some (.string s):=by rw [cell?_of_heap hq];rfl
  have h1:w.cell? ⟨rb,1,none⟩=some (.int .i64 ((pos+1:Nat):Int)):=by rw [cell?_of_heap hq];rfl
  have h2:w.cell? ⟨rb,2,none⟩=some (.int .i64 q):=by rw [cell?_of_heap hq];rfl
  have f0:=free_of_heap hq 0
  have f1:=free_of_heap hq 1
  have f2:=free_of_heap hq 2
  clear hq
  have hb:=Lib.hid (rd_back hR.out)
  go_enter Tryz.func293,Tryz.ntmps293
  go_wp2_with fail
  go_ret
  refine ⟨rfl,?_⟩
  have h3:=rd_to (hb.out 0).1 pos
  exact ⟨h3.1,(hb.out 0).2.trans h3.2⟩
theorem scanSign_any (rb:Nat) (s:ByteArray) (w:World) (h:Rd w rb s 0) (hs:s.size<1099511627776) (hp:0<s.size) (h1:s[0].toNat≠45) (h2:s[0].toNat≠43) :
    Calls Tryz.prog 121 #[.iface 149 (.pointer (some ⟨rb,0,none⟩))] w fun e w'=>e=.returned (.tuple #[.bool false,.nilIface])∧Rd w' rb s 0∧Mod (InB rb) w w':=by
  have e1:(((s[0].toNat:Nat):Int) == 45)=false:=by simp;omega
  have e2:(((s[0].toNat:Nat):Int) == 43)=false:=by simp;omega
  generalize hx:s[0].toNat=x at *
  have Hx:=Lib.hid hx
  clear hx
  go_enter Tryz.func121,Tryz.ntmps121
  go_wp2_with fail
  refine (readByte_any rb 0 s _ h hp hs).mono ?_
  rw [Hx.out]
  rintro e w1 ⟨rfl,hR1,hm1⟩
  go_wp2_with fail
  refine (unreadByte_any rb 0 s _ hR1 hs hp).mono ?_
  rintro e w2 ⟨rfl,hR2,hm2⟩
  go_wp2_with fail
  go_ret2
  exact ⟨rfl,hR2,hm1.trans hm2⟩
theorem newReader_any (s:ByteArray) (w:World) :
    Calls Tryz.prog 89 #[.string s] w fun e w'=>e=.returned (.pointer (some ⟨w.heap.size,0,none⟩))∧w'=w.alloc (.cells #[.string s,.int .i64 0,.int .i64 (-1)] 169 (0,0)):=by
  go_enter Tryz.func89,Tryz.ntmps89
  go_wp2_with fail
  go_ret
  exact ⟨rfl,rfl⟩
end
section
open Go Go.RowKit
@[reducible] def nc (f:Nat→Nat):Array Value:=#[U (f 0),U (f 1),U (f 2),U (f 3),U (f 4),U (f 5),U (f 6),U (f 7),U (f 8)]
@[reducible] def nv (f:Nat→Nat):Value:=.agg (nc f)
theorem nc_at (f:Nat→Nat) (j:Nat) (hj:j<9):(nc f)[j]? = some (U (f j)):=by
  obtain rfl | rfl | rfl | rfl | rfl | rfl | rfl | rfl | rfl:j=0∨j=1∨j=2∨j=3∨j=4∨j=5∨j=6∨j=7∨j=8:=by omega
  all_goals rfl
def NIs (w:World) (b:Nat) (f:Nat→Nat):Prop:=w.heap[b]? = some (.cells (nc f) 63 (0,0))
theorem NIs.vec {w:World} {b:Nat} {f:Nat→Nat} (h:NIs w b f) (hf:∀ j,j<9→f j<B64):Vec w b 0 9 f :=
  fun j hj=>⟨by rw [cell?_of_heap h,Nat.zero_add];exact nc_at f j hj,free_of_heap h _,hf j hj⟩
theorem NIs.mod {w w':World} {b:Nat} {f:Nat→Nat} {M:Places} (h:NIs w b f) (hm:Mod M w w') (hM:∀ o,¬ M b o):NIs w' b f:=by
  unfold NIs at *
  rw [hm.heap (lt_of_heap h) hM,h]
theorem small_any (n:Nat) (w:World):Calls Tryz.prog 51 #[U n] w fun e w'=>e=.returned (nv fun j=>if j=0 then n else 0)∧Mod NoP w w':=by
  go_enter Tryz.func51,Tryz.ntmps51
  go_wp2_with fail
  refine bodyPost_ret (v:=nv fun j=>if j=0 then n else 0) (by simp [results,Tryz.results51,go_sem]) rfl ⟨rfl,(Mod.refl _ _).alloc _⟩
theorem four_new (w:World) (o1 o2 o3 o4:Obj) :
    ((((w.alloc o1).alloc o2).alloc o3).alloc o4).heap[w.heap.size]? = some o1∧((((w.alloc o1).alloc o2).alloc o3).alloc o4).heap[w.heap.size+1]? = some o2 ∧
    ((((w.alloc o1).alloc o2).alloc o3).alloc o4).heap[w.heap.size+1+1]? = some o3∧((((w.alloc o1).alloc o2).alloc o3).alloc o4).heap[w.heap.size+1+1+1]? = some o4 ∧
    Mod NoP w ((((w.alloc o1).alloc o2).alloc o3).alloc o4):=by
  have s1:(w.alloc o1).heap.size=w.heap.size+1:=by simp
  have s2:((w.alloc o1).alloc o2).heap.size=w.heap.size+1+1:=by simp
  have s3:(((w.alloc o1).alloc o2).alloc o3).heap.size=w.heap.size+1+1+1:=by simp
  refine ⟨?_,?_,?_,?_,((((Mod.refl _ w).alloc _).alloc _).alloc _).alloc _⟩
  · rw [heap_alloc_old _ _ (by omega),heap_alloc_old _ _ (by omega),heap_alloc_old _ _ (by omega)]
    exact heap_alloc_new w o1
  · rw [heap_alloc_old _ _ (by omega),heap_alloc_old _ _ (by omega),← s1]
    exact heap_alloc_new _ o2
  · rw [heap_alloc_old _ _ (by omega),← s2]
    exact heap_alloc_new _ o3
  · rw [← s3]
    exact heap_alloc_new _ o4
theorem NIs.turned {w w':World} {b:Nat} {f g:Nat→Nat} {M:Places} (h:NIs w b f) (hm:Mod M w w') (hV:Vec w' b 0 9 g):NIs w' b g:=by
  obtain ⟨C',h1,h2,_⟩:=hm.cells h
  have:C'=nc g:=by
    refine Array.ext_getElem? fun j => ?_
    by_cases hj:j<9
    · have:=(hV j hj).1
      rw [cell?_of_heap h1,Nat.zero_add] at this
      rw [this,nc_at g j hj]
    · rw [Array.getElem?_eq_none (by rw [h2];simp [nc];omega),Array.getElem?_eq_none (by simp [nc];omega)]
  unfold NIs
  rw [h1,this]
@[reducible] def zN:Obj:=.cells #[.int .u64 0,.int .u64 0,.int .u64 0,.int .u64 0,.int .u64 0,.int .u64 0,.int .u64 0,.int .u64 0,.int .u64 0] 63 (0,0)
theorem NIs.nine {w:World} {b:Nat} {f:Nat→Nat} (h:NIs w b f) :
    (w.cell? ⟨b,0,none⟩=some (U (f 0))∧w.cell? ⟨b,1,none⟩=some (U (f 1))∧w.cell? ⟨b,2,none⟩=some (U (f 2))∧w.cell? ⟨b,3,none⟩=some (U (f 3))∧w.cell? ⟨b,4,none⟩=some (U (f 4))∧w.cell? ⟨b,5,none⟩=some (U (f 5))∧w.cell? ⟨b,6,none⟩=some (U (f 6))∧w.cell? ⟨b,7,none⟩=some (U (f 7))∧w.cell? ⟨b,8,none⟩=some (U (f 8))):=by
  refine ⟨?_,?_,?_,?_,?_,?_,?_,?_,?_⟩ <;> (rw [cell?_of_heap h];exact nc_at f _ (by omega))
theorem NIs.free {w:World} {b:Nat} {f:Nat→Nat} (h:NIs w b f) :
    (w.frozen? ⟨b,0,none⟩=false∧w.frozen? ⟨b,1,none⟩=false∧w.frozen? ⟨b,2,none⟩=false∧w.frozen? ⟨b,3,none⟩=false∧w.frozen? ⟨b,4,none⟩=false∧w.frozen? ⟨b,5,none⟩=false∧w.frozen? ⟨b,6,none⟩=false∧w.frozen? ⟨b,7,none⟩=false∧w.frozen? ⟨b,8,none⟩=false) :=
  ⟨free_of_heap h _,free_of_heap h _,free_of_heap h _,free_of_heap h _,free_of_heap h _,free_of_heap h _,free_of_heap h _,free_of_heap h _,free_of_heap h _⟩
set_option maxRecDepth 100000 in
set_option maxHeartbeats 1000000 in
theorem sum_any (f g:Nat→Nat) (hf:∀ j,j<9→f j<B64) (hg:∀ j,j<9→g j<B64) (w:World):Calls Tryz.prog 53 #[nv f,nv g] w fun e w'=>e=.returned (nv (addW f g))∧Mod NoP w w':=by
  go_enter Tryz.func53,Tryz.ntmps53
  go_wp2_with fail
  obtain ⟨h1,h2,h3,h4,hm⟩:=four_new w (.cells (nc f) 63 (0,0)) (.cells (nc g) 63 (0,0)) zN zN
  generalize hw4:(((w.alloc (.cells (nc f) 63 (0,0))).alloc (.cells (nc g) 63 (0,0))).alloc zN).alloc zN=w4 at *
  clear hw4
  have v1:NIs w4 w.heap.size f:=h1
  have v2:NIs w4 (w.heap.size+1) g:=h2
  have v3:NIs w4 (w.heap.size+1+1) (fun _=>0):=h3
  have v4:NIs w4 (w.heap.size+1+1+1) (fun _=>0):=h4
  clear h1 h2 h3 h4
  have hn:=Nat.le_refl w.heap.size
  generalize hb0:w.heap.size=b0 at *
  generalize hb1:b0+1=b1 at *
  generalize hb2:b1+1=b2 at *
  generalize hb3:b2+1=b3 at *
  have hX:=v1.vec hf
  have hY:=v2.vec hg
  have hZ:=v4.vec (fun _ _=>B64_pos)
  go_loopw [6,7] (fun c i wr=>∃ k:Nat,k≤9∧i=.int .i64 (k:Int)∧c=U (addC f g k)∧Written w4 wr b3 0 k (addW f g)) (fun _ i _=>9 - (intOf i).toNat)
  case atStart=>exact ⟨0,Nat.zero_le _,rfl,rfl,.zero _ _ _ _⟩
  case round =>
    obtain ⟨k,hk,rfl,rfl,hw⟩:=hrel
    by_cases hlt:k<9
    · have hcx:=hw.read hX (fun h=>by omega) hlt
      have hcy:=hw.read hY (fun h=>by omega) hlt
      obtain ⟨zk,hcz⟩:=hw.there hZ hlt
      have hfz:=hw.free hZ hlt
      rw [Nat.zero_add] at hcx hcy hcz hfz
      have hcl:=addC_le hf hg k hk
      have Hs:=Lib.hid (show wAdd (f k) (g k) (addC f g k)=addW f g k from rfl)
      have Hc:=Lib.hid (show wCar (f k) (g k) (addC f g k)=addC f g (k+1) from rfl)
      have Hw:=Lib.hid hw
      have HZ:=Lib.hid (hZ k hlt).1
      clear hw v1 v2 v3 v4 hX hY hZ
      generalize addC f g k=c at *
      generalize f k=xk at *
      generalize g k=yk at *
      have h76:=add64_run xk yk c (by omega)
      have k0:(0:Int)≤(k:Int):=by omega
      have k1:(k:Int)<9:=by omega
      have k2:(k:Int).toNat=k:=by omega
      go_wp2_with fail
      go_quiet (fail)
      go_wp2_with fail
      go_roundw
      case rel =>
        have hst:=fun m=>(Hw.out.drewN m).step HZ.out Hs.out
        simp only [Nat.zero_add] at hst
        exact ⟨k+1,by omega,by go_num,by rw [Hc.out],hst _⟩
      case measure=>simp [intOf];omega
    · obtain rfl:k=9:=by omega
      have hV:=hw.vec hZ (fun j hj=>wAdd_lt _ _ _)
      have V4:=v4.turned hw.mod hV
      have V3:=v3.mod hw.mod (fun o h=>by have:=h.1;omega)
      have A:=V4.nine
      have B:=V3.nine
      have F:=V3.free
      obtain ⟨a0,a1,a2,a3,a4,a5,a6,a7,a8⟩:=A
      obtain ⟨d0,d1,d2,d3,d4,d5,d6,d7,d8⟩:=B
      obtain ⟨e0,e1,e2,e3,e4,e5,e6,e7,e8⟩:=F
      have Hw:=Lib.hid hw
      clear hw v1 v2 v3 v4 hX hY hZ hV
      go_wp2_with fail
      refine bodyPost_ret (v:=nv (addW f g)) (by simp [results,Tryz.results53,go_sem, *]) rfl ⟨rfl,?_⟩
      have hm2:Mod NoP w wr:=hm.trans' Hw.out.mod fun k o hk h=>by have:=h.1;omega
      have hlt2:∀ o,b2<w.heap.size→NoP b2 o:=fun o h=>by omega
      exact ((((((((hm2.setCell (hlt2 _) _).setCell (hlt2 _) _).setCell (hlt2 _) _).setCell (hlt2 _) _).setCell (hlt2 _) _).setCell (hlt2 _) _).setCell (hlt2 _) _).setCell (hlt2 _) _).setCell (hlt2 _) _
def subC (X Y:Nat→Nat):Nat→Nat
  | 0=>0
  | k+1=>wBor (X k) (Y k) (subC X Y k)
def subW (X Y:Nat→Nat) (k:Nat):Nat:=wSub (X k) (Y k) (subC X Y k)
theorem subC_le (X Y:Nat→Nat):∀ k,subC X Y k≤1
  | 0=>by simp [subC]
  | k+1=>by
    show wBor _ _ _≤1
    unfold wBor
    split <;> omega
theorem sub_val (X Y:Nat→Nat) (n:Nat) (hx:∀ j,j<n→X j<B64) (hy:∀ j,j<n→Y j<B64):val (subW X Y) n+val Y n=val X n+subC X Y n*B64^n:=by
  induction n with
  | zero=>simp [val,subC]
  | succ n ih =>
    have ih:=ih (fun j hj=>hx j (by omega)) (fun j hj=>hy j (by omega))
    have h:=wSub_bor (hx n (by omega)) (hy n (by omega)) (subC_le X Y n)
    have h1:subC X Y (n+1)*B64^(n+1)+X n*B64^n=(subW X Y n+Y n+subC X Y n)*B64^n:=by
      show wBor (X n) (Y n) (subC X Y n)*B64^(n+1)+X n*B64^n=(wSub (X n) (Y n) (subC X Y n)+Y n+subC X Y n)*B64^n
      rw [h,Nat.pow_succ,Nat.add_mul,Nat.mul_assoc,Nat.mul_comm B64,Nat.add_comm]
    simp only [val]
    rw [Nat.add_mul,Nat.add_mul] at h1
    omega
set_option maxRecDepth 100000 in
set_option maxHeartbeats 1000000 in
theorem difference_any (f g:Nat→Nat) (hf:∀ j,j<9→f j<B64) (hg:∀ j,j<9→g j<B64) (w:World):Calls Tryz.prog 52 #[nv f,nv g] w fun e w'=>e=.returned (nv (subW f g))∧Mod NoP w w':=by
  go_enter Tryz.func52,Tryz.ntmps52
  go_wp2_with fail
  obtain ⟨h1,h2,h3,h4,hm⟩:=four_new w (.cells (nc f) 63 (0,0)) (.cells (nc g) 63 (0,0)) zN zN
  generalize hw4:(((w.alloc (.cells (nc f) 63 (0,0))).alloc (.cells (nc g) 63 (0,0))).alloc zN).alloc zN=w4 at *
  clear hw4
  have v1:NIs w4 w.heap.size f:=h1
  have v2:NIs w4 (w.heap.size+1) g:=h2
  have v3:NIs w4 (w.heap.size+1+1) (fun _=>0):=h3
  have v4:NIs w4 (w.heap.size+1+1+1) (fun _=>0):=h4
  clear h1 h2 h3 h4
  have hn:=Nat.le_refl w.heap.size
  generalize hb0:w.heap.size=b0 at *
  generalize hb1:b0+1=b1 at *
  generalize hb2:b1+1=b2 at *
  generalize hb3:b2+1=b3 at *
  have hX:=v1.vec hf
  have hY:=v2.vec hg
  have hZ:=v4.vec (fun _ _=>B64_pos)
  go_loopw [6,7] (fun c i wr=>∃ k:Nat,k≤9∧i=.int .i64 (k:Int)∧c=U (subC f g k)∧Written w4 wr b3 0 k (subW f g)) (fun _ i _=>9 - (intOf i).toNat)
  case atStart=>exact ⟨0,Nat.zero_le _,rfl,rfl,.zero _ _ _ _⟩
  case round =>
    obtain ⟨k,hk,rfl,rfl,hw⟩:=hrel
    by_cases hlt:k<9
    · have hcx:=hw.read hX (fun h=>by omega) hlt
      have hcy:=hw.read hY (fun h=>by omega) hlt
      obtain ⟨zk,hcz⟩:=hw.there hZ hlt
      have hfz:=hw.free hZ hlt
      rw [Nat.zero_add] at hcx hcy hcz hfz
      have hcl:=subC_le f g k
      have Hs:=Lib.hid (show wSub (f k) (g k) (subC f g k)=subW f g k from rfl)
      have Hc:=Lib.hid (show wBor (f k) (g k) (subC f g k)=subC f g (k+1) from rfl)
      have Hw:=Lib.hid hw
      have HZ:=Lib.hid (hZ k hlt).1
      clear hw v1 v2 v3 v4 hX hY hZ
      generalize subC f g k=c at *
      generalize f k=xk at *
      generalize g k=yk at *
      have h75:=sub64_run xk yk c (by omega)
      have k0:(0:Int)≤(k:Int):=by omega
      have k1:(k:Int)<9:=by omega
      have k2:(k:Int).toNat=k:=by omega
      go_wp2_with fail
      go_quiet (fail)
      go_wp2_with fail
      go_roundw
      case rel =>
        have hst:=fun m=>(Hw.out.drewN m).step HZ.out Hs.out
        simp only [Nat.zero_add] at hst
        exact ⟨k+1,by omega,by go_num,by rw [Hc.out],hst _⟩
      case measure=>simp [intOf];omega
    · obtain rfl:k=9:=by omega
      have hV:=hw.vec hZ (fun j hj=>wSub_lt _ _ _)
      have V4:=v4.turned hw.mod hV
      have V3:=v3.mod hw.mod (fun o h=>by have:=h.1;omega)
      have A:=V4.nine
      have B:=V3.nine
      have F:=V3.free
      obtain ⟨a0,a1,a2,a3,a4,a5,a6,a7,a8⟩:=A
      obtain ⟨d0,d1,d2,d3,d4,d5,d6,d7,d8⟩:=B
      obtain ⟨e0,e1,e2,e3,e4,e5,e6,e7,e8⟩:=F
      have Hw:=Lib.hid hw
      clear hw v1 v2 v3 v4 hX hY hZ hV
      go_wp2_with fail
      refine bodyPost_ret (v:=nv (subW f g)) (by simp [results,Tryz.results52,go_sem, *]) rfl ⟨rfl,?_⟩
      have hm2:Mod NoP w wr:=hm.trans' Hw.out.mod fun k o hk h=>by have:=h.1;omega
      have hlt2:∀ o,b2<w.heap.size→NoP b2 o:=fun o h=>by omega
      exact ((((((((hm2.setCell (hlt2 _) _).setCell (hlt2 _) _).setCell (hlt2 _) _).setCell (hlt2 _) _).setCell (hlt2 _) _).setCell (hlt2 _) _).setCell (hlt2 _) _).setCell (hlt2 _) _).setCell (hlt2 _) _
theorem two_new (w:World) (o1 o2:Obj) :
    ((w.alloc o1).alloc o2).heap[w.heap.size]? = some o1∧((w.alloc o1).alloc o2).heap[w.heap.size+1]? = some o2∧Mod NoP w ((w.alloc o1).alloc o2):=by
  have s1:(w.alloc o1).heap.size=w.heap.size+1:=by simp
  refine ⟨?_,?_,((Mod.refl _ w).alloc _).alloc _⟩
  · rw [heap_alloc_old _ _ (by omega)]
    exact heap_alloc_new w o1
  · rw [← s1]
    exact heap_alloc_new _ o2
theorem val_lt_of_word {f g:Nat→Nat} {m n:Nat} (hf:∀ j,j<n→f j<B64) (hm:m<n) (heq:∀ j,m+1≤j→j<n→f j=g j) (hlt:f m<g m):val f n<val g n:=by
  obtain ⟨d,rfl⟩:∃ d,n=m+1+d:=⟨n - (m+1),by omega⟩
  rw [val_add f (m+1) d,val_add g (m+1) d,val_congr (n:=d) (f:=fun j=>f (m+1+j)) (g:=fun j=>g (m+1+j)) fun j hj=>heq (m+1+j) (by omega) (by omega)]
  have h1:val f m<B64^m:=val_lt fun j hj=>hf j (by omega)
  have h2:(f m+1)*B64^m≤g m*B64^m:=Nat.mul_le_mul_right _ hlt
  rw [Nat.add_mul] at h2
  simp only [val]
  omega
theorem val_eq_of_words {f g:Nat→Nat} {n:Nat} (heq:∀ j,j<n→f j=g j):val f n=val g n:=val_congr heq
set_option maxRecDepth 100000 in
set_option maxHeartbeats 1000000 in
theorem less_any (f g:Nat→Nat) (hf:∀ j,j<9→f j<B64) (hg:∀ j,j<9→g j<B64) (w:World):Calls Tryz.prog 36 #[nv f,nv g] w fun e w'=>e=.returned (.bool (decide (val f 9<val g 9)))∧Mod NoP w w':=by
  go_enter Tryz.func36,Tryz.ntmps36
  go_wp2_with fail
  obtain ⟨h1,h2,hm⟩:=two_new w (.cells (nc f) 63 (0,0)) (.cells (nc g) 63 (0,0))
  generalize hw4:(w.alloc (.cells (nc f) 63 (0,0))).alloc (.cells (nc g) 63 (0,0))=w4 at *
  clear hw4
  have v1:NIs w4 w.heap.size f:=h1
  have v2:NIs w4 (w.heap.size+1) g:=h2
  clear h1 h2
  generalize hb0:w.heap.size=b0 at *
  generalize hb1:b0+1=b1 at *
  have hX:=v1.vec hf
  have hY:=v2.vec hg
  go_loopw [5] (fun i wr=>∃ k:Nat,k≤9∧i=.int .i64 ((k:Int) - 1)∧(∀ j,k≤j→j<9→f j=g j)∧Mod NoP w4 wr) (fun i _=>(intOf i+1).toNat)
  case atStart=>exact ⟨9,by omega,rfl,fun j h1 h2=>by omega,.refl _ _⟩
  case round =>
    obtain ⟨k,hk,rfl,hq,hw⟩:=hrel
    by_cases hlt:0<k
    · obtain ⟨m,rfl⟩:∃ m,k=m+1:=⟨k - 1,by omega⟩
      rw [show (((m+1:Nat):Int) - 1)=(m:Int) by omega]
      have hcx:=hw.cell_some (hX m (by omega)).1 (fun h=>h)
      have hcy:=hw.cell_some (hY m (by omega)).1 (fun h=>h)
      rw [Nat.zero_add] at hcx hcy
      have Hq:=Lib.hid hq
      have Hw:=Lib.hid hw
      have k0:(0:Int)≤(m:Int):=by omega
      have k1:(m:Int)<9:=by omega
      have k2:(m:Int).toNat=m:=by omega
      have kg:decide ((m:Int) ≥ 0)=true:=decide_eq_true (by omega)
      clear hq hw v1 v2 hX hY
      by_cases he:f m=g m
      · have hstep:∀ j,m≤j→j<9→f j=g j:=fun j h1 h2=>by
          by_cases hj:j=m
          · rw [hj,he]
          · exact Hq.out j (by omega) h2
        have HS:=Lib.hid hstep
        clear hstep
        rw [he] at hcx
        clear he
        generalize g m=yk at *
        go_wp2_with fail
        go_quiet (fail)
        go_wp2_with fail
        go_roundw
        case rel=>exact ⟨m,by omega,by go_num,HS.out,Hw.out.drewN _⟩
        case measure=>simp [intOf]
      · have hres:(decide (val f 9<val g 9))=decide (f m<g m):=by
          by_cases hfg:f m<g m
          · rw [decide_eq_true (val_lt_of_word hf (by omega) Hq.out hfg),decide_eq_true hfg]
          · rw [decide_eq_false (by have:=val_lt_of_word hg (show m<9 by omega) (fun j h1 h2=>(Hq.out j h1 h2).symm) (show g m<f m by omega);omega),decide_eq_false hfg]
        have Hres:=Lib.hid hres
        have hne:((f m:Int) == (g m:Int))=false:=by simp;omega
        clear hres
        generalize f m=xk at *
        generalize g m=yk at *
        go_wp2_with fail
        go_quiet (fail)
        go_wp2_with fail
        go_quiet (fail)
        go_wp2_with fail
        go_ret
        exact ⟨by rw [Hres.out];rfl,((hm.trans (Hw.out.drewN _)).drewN _)⟩
    · obtain rfl:k=0:=by omega
      go_wp2_with fail
      go_ret
      exact ⟨by rw [val_eq_of_words fun j hj=>hq j (by omega) hj];simp,hm.trans hw⟩
end
end Go.Proofs.YtpfmbfkhjapbbaaGreatDoor
