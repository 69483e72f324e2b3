/-
  Words: what the functions on single words come to (bits.Add, Sub, Mul, and big's mulWW, mulAddWWW_g, nlz, greaterThan). Conditions: each word below 2^64, a carry at most 1.
  Rows of words: what big's vector functions come to (addVV, subVV, mulAddVWW, addMulVVWW): the carry that they return, the words that they write, and that nothing else turns. Conditions: the rows are there, equally long, words below 2^64; the row that is written is one that is read, or lies ahead of it, or apart from it.
  Numbers of many words (big's nat): make, norm, setWord, mulAddWW: which slice is returned and which number its words make. Conditions: the arrays are there, at most 2^20 words.
  The built-in append on a whole array of one-cell elements that the program owns: in place or in new memory, every cell up to the capacity told. Conditions: the array and the appended row are there; the new length's bytes at most 2^47.
  Rows of bytes: make([]byte, n), an append of a row of bytes, slices.Clone of a row of bytes. Conditions: the rows are there, at most 2^20 bytes.
  big's maxPow at 10, and pow modulo 2^64. Conditions: words below 2^64, an exponent below 2^40.
  A run of cells written into a whole array of bytes: copy, clear, append(s, make([]byte, n)...), slices.Grow of a full row. Conditions: the rows are there, at most 2^20 bytes.
-/
import Derived.Test.YtpfmbfkhjapbbaaGreatDoorShelf
import Derived.Test.YtpfmbfkhjapbbaaGreatDoorMg02
import Derived.WalkLawsBesides
import Derived.Lib.Hide
import Derived.Deep.QuietTactic
import Derived.BigQuiet
import Derived.Laws.Externs
import Derived.Handy
import Derived.KernelRfl
import Derived.Lib.AppendZerosOnto
import Derived.Lib.SliceRun
import Derived.IntWalk
set_option linter.unusedVariables false
set_option linter.unusedSimpArgs false
namespace Go.Proofs.YtpfmbfkhjapbbaaGreatDoor
section
open Go Go.RowKit
def wAdd (x y c:Nat):Nat:=(x+y+c)%B64
def wCar (x y c:Nat):Nat:=(x+y+c)/B64
def wSub (x y b:Nat):Nat:=(x+B64 - y - b)%B64
def wBor (x y b:Nat):Nat:=if x<y+b then 1 else 0
def wHi (x y c:Nat):Nat:=(x*y+c)/B64
def wLo (x y c:Nat):Nat:=(x*y+c)%B64
theorem wAdd_lt (x y c:Nat):wAdd x y c<B64:=Nat.mod_lt _ B64_pos
theorem wSub_lt (x y c:Nat):wSub x y c<B64:=Nat.mod_lt _ B64_pos
theorem wLo_lt (x y c:Nat):wLo x y c<B64:=Nat.mod_lt _ B64_pos
theorem wCar_le {x y c:Nat} (hx:x<B64) (hy:y<B64) (hc:c≤1):wCar x y c≤1:=by
  unfold wCar;simp only [B64_eq] at *;omega
theorem wBor_le (x y c:Nat):wBor x y c≤1:=by unfold wBor;split <;> omega
theorem wHi_lt {x y c:Nat} (hx:x<B64) (hy:y<B64) (hc:c<B64):wHi x y c<B64:=by
  unfold wHi
  refine Nat.div_lt_of_lt_mul ?_
  have h1:x*y≤(B64 - 1)*(B64 - 1):=Nat.mul_le_mul (by omega) (by omega)
  have h2:(B64 - 1)*(B64 - 1)+B64≤B64*B64:=by decide
  omega
theorem wHi_lo (x y c:Nat):wHi x y c*B64+wLo x y c=x*y+c:=by
  unfold wHi wLo;rw [Nat.mul_comm];exact Nat.div_add_mod _ _
theorem wCar_add (x y c:Nat):wCar x y c*B64+wAdd x y c=x+y+c:=by
  unfold wCar wAdd;rw [Nat.mul_comm];exact Nat.div_add_mod _ _
theorem wSub_bor {x y b:Nat} (hx:x<B64) (hy:y<B64) (hb:b≤1):wSub x y b+y+b=x+wBor x y b*B64:=by
  unfold wSub wBor
  simp only [B64_eq] at *
  split <;> omega
theorem add64_run (x y c:Nat) (hc:c≤1) (w:World) :
    (callFunc 76 #[.int .u64 x,.int .u64 y,.int .u64 c]).run Tryz.prog w=.ok (.value (.tuple #[U (wAdd x y c),U (wCar x y c)])) w:=by
  rw [run_callFunc_extern Tryz.func76 (by kernel_rfl) (by kernel_rfl) (by kernel_rfl) (e:=add64Entry) (by kernel_rfl),run_add64 x y c (by omega) (by omega) (by omega) (by omega)]
  simp only [Result.andThen,wAdd,wCar,B64_eq]
  congr 5 <;> omega
def sub64Entry:Array Value→Sem Value:=fun args=>do
  let (x,y,b) ← Extern.MathBitsCarry.three "Sub64" args
  pure (Extern.MathBitsCarry.pair ((x+Extern.MathBitsCarry.m64 - y - b)%Extern.MathBitsCarry.m64) (if x<y+b then 1 else 0))
theorem run_sub64 {P:Program} (x y b:Nat) (hb:b≤1) (w:World) :
    (sub64Entry #[.int .u64 x,.int .u64 y,.int .u64 b]).run P w=.ok (.tuple #[U (wSub x y b),U (wBor x y b)]) w:=by
  have:b=0∨b=1:=by omega
  rcases this with rfl | rfl <;> rfl
theorem sub64_run (x y c:Nat) (hc:c≤1) (w:World) :
    (callFunc 75 #[.int .u64 x,.int .u64 y,.int .u64 c]).run Tryz.prog w=.ok (.value (.tuple #[U (wSub x y c),U (wBor x y c)])) w:=by
  rw [run_callFunc_extern Tryz.func75 (by kernel_rfl) (by kernel_rfl) (by kernel_rfl) (e:=sub64Entry) (by kernel_rfl),run_sub64 x y c hc]
  rfl
theorem add_any (x y c:Nat) (hc:c≤1) (w:World) :
    Calls Tryz.prog 140 #[.int .u64 x,.int .u64 y,.int .u64 c] w fun e w'=>e=.returned (.tuple #[U (wAdd x y c),U (wCar x y c)])∧w'=w:=by
  have h:=add64_run x y c hc
  go_enter Tryz.func140,Tryz.ntmps140
  go_wp2
  go_ret2
  exact ⟨rfl,rfl⟩
theorem sub_any (x y c:Nat) (hc:c≤1) (w:World) :
    Calls Tryz.prog 142 #[.int .u64 x,.int .u64 y,.int .u64 c] w fun e w'=>e=.returned (.tuple #[U (wSub x y c),U (wBor x y c)])∧w'=w:=by
  have h:=sub64_run x y c hc
  go_enter Tryz.func142,Tryz.ntmps142
  go_wp2
  go_ret2
  exact ⟨rfl,rfl⟩
theorem mul_any (x y:Nat) (hx:x<B64) (hy:y<B64) (w:World) :
    Calls Tryz.prog 177 #[.int .u64 x,.int .u64 y] w fun e w'=>e=.returned (.tuple #[U (wHi x y 0),U (wLo x y 0)])∧w'=w :=
  (Tryz.bits_Mul x y hx hy w).mono fun e w' ⟨he,hw⟩=>⟨by rw [he];simp only [wHi,wLo,B64_eq,Nat.add_zero],hw⟩
theorem mulWW_any (x y:Nat) (hx:x<B64) (hy:y<B64) (w:World) :
    Calls Tryz.prog 148 #[.int .u64 x,.int .u64 y] w fun e w'=>e=.returned (.tuple #[U (wHi x y 0),U (wLo x y 0)])∧w'=w:=by
  go_enter Tryz.func148,Tryz.ntmps148
  go_wp2_with (go_at_call 177;refine (mul_any _ _ hx hy _).mono ?_;rintro e w' ⟨rfl,rfl⟩)
  go_ret2
  exact ⟨rfl,rfl⟩
theorem hi_car {x y c:Nat} (hx:x<B64) (hy:y<B64) (hc:c<B64):wHi x y 0+wCar (wLo x y 0) c 0=wHi x y c∧wAdd (wLo x y 0) c 0=wLo x y c:=by
  unfold wHi wCar wLo wAdd
  generalize x*y=p
  simp only [Nat.add_zero]
  constructor
  · have h:p+c=B64*(p/B64)+(p%B64+c):=by have:=Nat.div_add_mod p B64;omega
    rw [h,Nat.mul_add_div B64_pos]
  · rw [Nat.mod_add_mod]
set_option maxHeartbeats 400000 in
theorem mulAddWWW_g_any (x y c:Nat) (hx:x<B64) (hy:y<B64) (hc:c<B64) (w:World) :
    Calls Tryz.prog 206 #[.int .u64 x,.int .u64 y,.int .u64 c] w fun e w'=>e=.returned (.tuple #[U (wHi x y c),U (wLo x y c)])∧w'=w:=by
  have hs:=hi_car hx hy hc
  have hlt:wHi x y 0+wCar (wLo x y 0) c 0<18446744073709551616:=by rw [hs.1];exact wHi_lt hx hy hc
  have H1:=Lib.hid hs.1
  have H2:=Lib.hid hs.2
  clear hs
  go_enter Tryz.func206,Tryz.ntmps206
  go_wp2_with (first
    | (go_at_call 177;refine (mul_any _ _ hx hy _).mono ?_;rintro e w' ⟨rfl,rfl⟩)
    | (go_at_call 140;refine (add_any _ _ 0 (by omega) _).mono ?_;rintro e w' ⟨rfl,rfl⟩))
  go_ret2
  refine ⟨?_,rfl⟩
  rw [← H1.out,← H2.out]
  simp
def lz (x:Nat):Nat:=64 - Lib.bitLen x
end
section
open Go Go.RowKit
def Up (bz oz b o n:Nat):Prop:=b=bz→oz≤o∨o+n≤oz
structure Written (w wr:World) (b o k:Nat) (f:Nat→Nat):Prop where
  cells:∀ j,j<k→wr.cell? ⟨b,o+j,none⟩=some (U (f j))
  mod:Mod (InR b o k) w wr
theorem Written.zero (w:World) (b o:Nat) (f:Nat→Nat):Written w w b o 0 f:=⟨fun _ h=>by omega,.refl _ _⟩
theorem Written.drewN {w wr:World} {b o k:Nat} {f:Nat→Nat} (h:Written w wr b o k f) (m:Nat):Written w (wr.drewN m) b o k f:=⟨h.cells,h.mod.drewN m⟩
theorem Written.drew {w wr:World} {b o k:Nat} {f:Nat→Nat} (h:Written w wr b o k f):Written w wr.drew b o k f:=⟨h.cells,h.mod.drew⟩
theorem Written.step {w wr:World} {b o k:Nat} {f:Nat→Nat} (h:Written w wr b o k f) {v:Value} (hv:w.cell? ⟨b,o+k,none⟩=some v) {x:Nat} (hx:x=f k) :
    Written w (wr.setCell ⟨b,o+k,none⟩ (U x)) b o (k+1) f:=by
  subst hx
  refine ⟨fun j hj => ?_,(h.mod.mono fun _ _ _ ⟨a,b,c⟩=>⟨a,b,by omega⟩).setCell (fun _=>⟨rfl,by omega,by omega⟩) _⟩
  by_cases e:j=k
  · subst e
    obtain ⟨u,hu⟩:=h.mod.cell_there hv
    exact cell_same hu _
  · rw [cell_other (.inr (by omega))]
    exact h.cells j (by omega)
theorem Written.step' {w wr:World} {b o k:Nat} {f:Nat→Nat} (h:Written w wr b o k f) {v:Value} (hv:w.cell? ⟨b,o+k,none⟩=some v) {u:Value} (hu:u=U (f k)) :
    Written w (wr.setCell ⟨b,o+k,none⟩ u) b o (k+1) f:=by
  subst hu;exact h.step hv rfl
theorem Written.read {w wr:World} {bz oz k n:Nat} {f:Nat→Nat} (h:Written w wr bz oz k f) {b o:Nat} {g:Nat→Nat} (hv:Vec w b o n g) (hu:Up bz oz b o n) (hk:k<n) :
    wr.cell? ⟨b,o+k,none⟩=some (U (g k)) :=
  h.mod.cell_some (hv k hk).1 fun ⟨a,b,c⟩=>by have:=hu a;omega
theorem Written.free {w wr:World} {bz oz k n:Nat} {f:Nat→Nat} (h:Written w wr bz oz k f) {g:Nat→Nat} (hv:Vec w bz oz n g) (hk:k<n) :
    wr.frozen? ⟨bz,oz+k,none⟩=false:=h.mod.free (hv k hk).1 (hv k hk).2.1
theorem Written.there {w wr:World} {bz oz k n:Nat} {f:Nat→Nat} (h:Written w wr bz oz k f) {g:Nat→Nat} (hv:Vec w bz oz n g) (hk:k<n) :
    ∃ u,wr.cell? ⟨bz,oz+k,none⟩=some u:=h.mod.cell_there (hv k hk).1
theorem Written.vec {w wr:World} {b o n:Nat} {f g:Nat→Nat} (h:Written w wr b o n f) (hv:Vec w b o n g) (hf:∀ j,j<n→f j<B64):Vec wr b o n f :=
  fun j hj=>⟨h.cells j hj,h.mod.free (hv j hj).1 (hv j hj).2.1,hf j hj⟩
def addC (X Y:Nat→Nat):Nat→Nat
  | 0=>0
  | k+1=>wCar (X k) (Y k) (addC X Y k)
def addW (X Y:Nat→Nat) (k:Nat):Nat:=wAdd (X k) (Y k) (addC X Y k)
theorem addC_le {X Y:Nat→Nat} {n:Nat} (hx:∀ j,j<n→X j<B64) (hy:∀ j,j<n→Y j<B64):∀ k,k≤n→addC X Y k≤1
  | 0,_=>by simp [addC]
  | k+1,h=>wCar_le (hx k (by omega)) (hy k (by omega)) (addC_le hx hy k (by omega))
theorem add_val (X Y:Nat→Nat) (n:Nat):val (addW X Y) n+addC X Y n*B64^n=val X n+val Y n:=by
  induction n with
  | zero=>simp [val,addC]
  | succ n ih =>
    have h:=wCar_add (X n) (Y n) (addC X Y n)
    have h1:addC X Y (n+1)*B64^(n+1)+addW X Y n*B64^n=(X n+Y n+addC X Y n)*B64^n:=by
      show wCar (X n) (Y n) (addC X Y n)*B64^(n+1)+wAdd (X n) (Y n) (addC X Y n)*B64^n=_
      rw [← h,Nat.pow_succ,Nat.add_mul,Nat.mul_assoc,Nat.mul_comm B64]
    simp only [val]
    rw [Nat.add_mul,Nat.add_mul] at h1
    omega
set_option maxHeartbeats 400000 in
theorem addVV_g_any (bz oz cz bx ox cx by_ oy cy n:Nat) (X Y Z:Nat→Nat) (w:World)
   (hX:Vec w bx ox n X) (hY:Vec w by_ oy n Y) (hZ:Vec w bz oz n Z) (hn:n<4611686018427387904)
   (ax:Up bz oz bx ox n) (ay:Up bz oz by_ oy n) :
    Calls Tryz.prog 139 #[.slice (some ⟨bz,oz,none⟩) n cz,.slice (some ⟨bx,ox,none⟩) n cx,.slice (some ⟨by_,oy,none⟩) n cy] w
      fun e w'=>e=.returned (U (addC X Y n))∧Vec w' bz oz n (addW X Y)∧Mod (InR bz oz n) w w':=by
  go_enter Tryz.func139,Tryz.ntmps139
  go_wp2
  go_loopw [6,25] (fun c i wr=>∃ k:Nat,k≤n∧i=.int .i64 (k:Int)∧c=U (addC X Y k)∧Written w wr bz oz k (addW X Y)) (fun _ i _=>n - (intOf i).toNat)
  case atStart=>exact ⟨0,Nat.zero_le _,rfl,rfl,.zero _ _ _ _⟩
  case round =>
    obtain ⟨k,hk,rfl,rfl,hw⟩:=hrel
    by_cases hlt:k<n
    · have hcx:=hw.read hX ax hlt
      have hcy:=hw.read hY ay hlt
      obtain ⟨zk,hcz⟩:=hw.there hZ hlt
      have hfz:=hw.free hZ hlt
      have hcl:=addC_le (fun j hj=>(hX j hj).2.2) (fun j hj=>(hY j hj).2.2) k hk
      have Hs:=Lib.hid (show wAdd (X k) (Y k) (addC X Y k)=addW X Y k from rfl)
      have Hc:=Lib.hid (show wCar (X k) (Y k) (addC X Y k)=addC X Y (k+1) from rfl)
      have Hw:=Lib.hid hw
      have HZ:=Lib.hid (hZ k hlt).1
      clear hw
      generalize addC X Y k=c at *
      generalize X k=xk at *
      generalize Y k=yk at *
      go_wp2_with fail
      go_quiet ((go_at_call 140;exact Calls.quiet_of_same (add_any _ _ _ (by omega) _)))
      go_wp2_with fail
      go_roundw
      case rel=>exact ⟨k+1,by omega,by go_num,by rw [Hc.out],(Hw.out.drewN _).step HZ.out Hs.out⟩
      case measure=>simp [intOf];omega
    · obtain rfl:k=n:=by omega
      go_wp2_with fail
      go_ret
      exact ⟨rfl,hw.vec hZ (fun j hj=>wAdd_lt _ _ _),hw.mod⟩
def mulC (X:Nat→Nat) (y r:Nat):Nat→Nat
  | 0=>r
  | k+1=>wHi (X k) y (mulC X y r k)
def mulW (X:Nat→Nat) (y r:Nat) (k:Nat):Nat:=wLo (X k) y (mulC X y r k)
theorem mulC_lt {X:Nat→Nat} {y r n:Nat} (hx:∀ j,j<n→X j<B64) (hy:y<B64) (hr:r<B64):∀ k,k≤n→mulC X y r k<B64
  | 0,_=>hr
  | k+1,h=>wHi_lt (hx k (by omega)) hy (mulC_lt hx hy hr k (by omega))
theorem mul_val (X:Nat→Nat) (y r n:Nat):val (mulW X y r) n+mulC X y r n*B64^n=val X n*y+r:=by
  induction n with
  | zero=>simp [val,mulC]
  | succ n ih =>
    have h:=wHi_lo (X n) y (mulC X y r n)
    have h1:mulC X y r (n+1)*B64^(n+1)+mulW X y r n*B64^n=(X n*y+mulC X y r n)*B64^n:=by
      show wHi (X n) y (mulC X y r n)*B64^(n+1)+wLo (X n) y (mulC X y r n)*B64^n=_
      rw [← h,Nat.pow_succ,Nat.add_mul,Nat.mul_assoc,Nat.mul_comm B64]
    simp only [val]
    rw [Nat.add_mul] at h1
    have h2:X n*y*B64^n=X n*B64^n*y:=by ac_rfl
    rw [Nat.add_mul]
    omega
set_option maxHeartbeats 400000 in
theorem mulAddVWW_g_any (bz oz cz bx ox cx n y r:Nat) (X Z:Nat→Nat) (w:World)
   (hX:Vec w bx ox n X) (hZ:Vec w bz oz n Z) (hn:n<4611686018427387904) (hy:y<B64) (hr:r<B64) (ax:Up bz oz bx ox n) :
    Calls Tryz.prog 191 #[.slice (some ⟨bz,oz,none⟩) n cz,.slice (some ⟨bx,ox,none⟩) n cx,U y,U r] w
      fun e w'=>e=.returned (U (mulC X y r n))∧Vec w' bz oz n (mulW X y r)∧Mod (InR bz oz n) w w':=by
  go_enter Tryz.func191,Tryz.ntmps191
  go_wp2
  go_loopw [8,19] (fun c i wr=>∃ k:Nat,k≤n∧i=.int .i64 (k:Int)∧c=U (mulC X y r k)∧Written w wr bz oz k (mulW X y r)) (fun _ i _=>n - (intOf i).toNat)
  case atStart=>exact ⟨0,Nat.zero_le _,rfl,rfl,.zero _ _ _ _⟩
  case round =>
    obtain ⟨k,hk,rfl,rfl,hw⟩:=hrel
    by_cases hlt:k<n
    · have hcx:=hw.read hX ax hlt
      obtain ⟨zk,hcz⟩:=hw.there hZ hlt
      have hfz:=hw.free hZ hlt
      have hcl:=mulC_lt (fun j hj=>(hX j hj).2.2) hy hr k hk
      have hxl:=(hX k hlt).2.2
      have Hs:=Lib.hid (show wLo (X k) y (mulC X y r k)=mulW X y r k from rfl)
      have Hc:=Lib.hid (show wHi (X k) y (mulC X y r k)=mulC X y r (k+1) from rfl)
      have Hw:=Lib.hid hw
      have HZ:=Lib.hid (hZ k hlt).1
      clear hw
      generalize mulC X y r k=c at *
      generalize X k=xk at *
      go_wp2_with (go_at_call 206;refine (mulAddWWW_g_any _ _ _ hxl hy hcl _).mono ?_;rintro e w' ⟨rfl,rfl⟩)
      go_roundw
      case rel=>exact ⟨k+1,by omega,by go_num,by rw [Hc.out],Hw.out.step HZ.out Hs.out⟩
      case measure=>simp [intOf];omega
    · obtain rfl:k=n:=by omega
      go_wp2_with fail
      go_ret
      exact ⟨rfl,hw.vec hZ (fun j hj=>wLo_lt _ _ _),hw.mod⟩
theorem mulAddVWW_any (bz oz cz bx ox cx n y r:Nat) (X Z:Nat→Nat) (w:World)
   (hX:Vec w bx ox n X) (hZ:Vec w bz oz n Z) (hn:n<4611686018427387904) (hy:y<B64) (hr:r<B64) (ax:Up bz oz bx ox n) :
    Calls Tryz.prog 169 #[.slice (some ⟨bz,oz,none⟩) n cz,.slice (some ⟨bx,ox,none⟩) n cx,U y,U r] w
      fun e w'=>e=.returned (U (mulC X y r n))∧Vec w' bz oz n (mulW X y r)∧Mod (InR bz oz n) w w':=by
  go_enter Tryz.func169,Tryz.ntmps169
  go_wp2_with (go_at_call 191;refine (mulAddVWW_g_any _ _ _ _ _ _ _ _ _ X Z _ hX hZ hn hy hr ax).mono ?_;rintro e w' ⟨rfl,h1,h2⟩)
  go_ret
  exact ⟨rfl,h1,h2⟩
end
section
open Go Go.RowKit
def BlkOf (a:Option Addr):Places:=fun k _=>∃ A,a=some A∧A.block=k
def Fresh (w:World) (a:Option Addr):Prop:=∃ k,a=some ⟨k,0,none⟩∧w.heap.size≤k
structure NatIs (w:World) (a:Option Addr) (n c:Nat) (f:Nat→Nat) (v:Nat):Prop where
  arr:Arr w a c f
  le:n≤c
  val:val f n=v
  top:n=0∨f (n - 1)≠0
def NatRet (w:World) (z:Option Addr) (v:Nat) (e:Ending) (w':World):Prop :=
  ∃ a n c f,e=.returned (.slice a n c)∧NatIs w' a n c f v∧Mod (BlkOf z) w w'∧(a=z∨Fresh w a)
theorem Arr.words {w:World} {a:Option Addr} {c:Nat} {f:Nat→Nat} (h:Arr w a c f):∀ j,j<c→f j<B64:=by
  rcases h with ⟨_,rfl⟩ | ⟨b,C,t,rfl,hb,hs,hc⟩
  · intro j hj;omega
  · exact fun j hj=>(hc j hj).2
theorem NatIs.small {w:World} {a:Option Addr} {n c:Nat} {f:Nat→Nat} {v:Nat} (h:NatIs w a n c f v) (hn:n≠0):B64^(n - 1)≤v:=by
  obtain ⟨m,rfl⟩:∃ m,n=m+1:=⟨n - 1,by omega⟩
  rw [← h.val]
  exact le_val_of_top (by have:=h.top;simpa using this)
theorem NatIs.lt {w:World} {a:Option Addr} {n c:Nat} {f:Nat→Nat} {v:Nat} (h:NatIs w a n c f v):v<B64^n:=by
  rw [← h.val]
  exact val_lt fun j hj=>h.arr.words j (by have:=h.le;omega)
theorem NatIs.len_le {w:World} {a:Option Addr} {n c:Nat} {f:Nat→Nat} {v m:Nat} (h:NatIs w a n c f v) (hv:v<B64^m):n≤m:=by
  by_cases hn:n=0
  · omega
  · refine Classical.byContradiction fun hlt => ?_
    have h1:=h.small hn
    have h2:B64^m≤B64^(n - 1):=Nat.pow_le_pow_right B64_pos (by omega)
    omega
theorem NatIs.zero_iff {w:World} {a:Option Addr} {n c:Nat} {f:Nat→Nat} {v:Nat} (h:NatIs w a n c f v):n=0 ↔ v=0:=by
  constructor
  · rintro rfl;rw [← h.val];rfl
  · rintro rfl
    refine Classical.byContradiction fun hn => ?_
    have h1:=h.small hn
    have:=pow_pos (n - 1)
    omega
theorem NatIs.mod {w w':World} {a:Option Addr} {n c:Nat} {f:Nat→Nat} {v:Nat} {M:Places} (h:NatIs w a n c f v) (hm:Mod M w w') (hd:Off a M):NatIs w' a n c f v :=
  ⟨h.arr.mod hm hd,h.le,h.val,h.top⟩
theorem info121:(Tryz.prog.info? 121).map (fun i=>(i.zero,i.size,i.bytes))=some (some (.int .u64 0),1,8):=by kernel_rfl
theorem make_old (a:Option Addr) (n c m:Nat) (w:World) (f:Nat→Nat) (hA:Arr w a c f) (hn:n≤c) (hm:m≤c) (hs:m≤1048576) :
    Calls Tryz.prog 65 #[.slice a n c,.int .i64 (m:Int)] w fun e w'=>e=.returned (.slice a m c)∧w'=w:=by
  rcases hA with ⟨rfl,rfl⟩ | ⟨b,C,t,rfl,hb,hsz,hc⟩
  · obtain rfl:n=0:=by omega
    obtain rfl:m=0:=by omega
    go_enter Tryz.func65,Tryz.ntmps65
    go_wp2
    go_ret
    exact ⟨rfl,rfl⟩
  · go_enter Tryz.func65,Tryz.ntmps65
    go_wp2
    go_ret
    exact ⟨rfl,rfl⟩
def zeros (c:Nat):Obj:=.cells (madeCells #[.int .u64 0] c) 121 (0,0)
theorem arr_zeros (w:World) (c:Nat) (hc:c≤9223372036854775807):Arr (w.alloc (zeros c)) (some ⟨w.heap.size,0,none⟩) c (fun _=>0) :=
  Arr.fresh w _ _ c _ (size_madeCells _ _) hc fun j hj=>⟨by simp [madeCells,hj,Nat.mod_one],B64_pos⟩
theorem makeSlice49 (l c:Nat) (hlc:l≤c) (hc:c≤2097152) (u:World) (L K:Int) (hL:L=l) (hK:K=c) :
    (Instr.makeSlice 49 (.int .i64 L) (.int .i64 K)).run Tryz.prog u=.ok (.slice (some ⟨u.heap.size,0,none⟩) l c) (u.alloc (zeros c)):=by
  subst hL;subst hK
  obtain ⟨i0,hi,hz0,hz1,hz2⟩:=info_parts info121
  have h:=run_make (P:=Tryz.prog) u 49 121 i0 (.int .u64 0) Tryz.underlying49 hi hz0 .i64 .i64 (l:Int) (c:Int) (by omega) (by omega) (by rw [hz2];omega) (by omega)
  simpa [hz1,Value.cells,zeros] using h
def newCap (m:Nat):Nat:=if m=1 then 1 else m+4
theorem le_newCap (m:Nat):m≤newCap m:=by unfold newCap;split <;> omega
theorem make_new (a:Option Addr) (n c m:Nat) (w:World) (hm:c<m) (hs:m≤1048576) :
    Calls Tryz.prog 65 #[.slice a n c,.int .i64 (m:Int)] w fun e w'=>e=.returned (.slice (some ⟨w.heap.size,0,none⟩) m (newCap m))∧w'=w.alloc (zeros (newCap m)):=by
  have hmc:decide ((m:Int)≤(c:Int))=false:=decide_eq_false (by omega)
  by_cases h1:m=1
  · subst h1
    have hmk:=fun u=>makeSlice49 1 1 (by omega) (by omega) u 1 1 rfl rfl
    go_enter Tryz.func65,Tryz.ntmps65
    go_wp2
    go_ret
    exact ⟨rfl,rfl⟩
  · have hmk:=fun u=>makeSlice49 m (m+4) (by omega) (by omega) u (m:Int) ((m:Int)+4) rfl rfl
    have hb:((m:Int) == 1)=false:=by simp;omega
    go_enter Tryz.func65,Tryz.ntmps65
    go_wp2
    go_ret
    exact ⟨by simp [newCap,h1],by simp [newCap,h1]⟩
theorem make_any (a:Option Addr) (n c m:Nat) (w:World) (f:Nat→Nat) (hA:Arr w a c f) (hn:n≤c) (hs:m≤1048576) :
    Calls Tryz.prog 65 #[.slice a n c,.int .i64 (m:Int)] w fun e w'=>∃ a' c' f',e=.returned (.slice a' m c')∧Arr w' a' c' f'∧m≤c'∧Mod NoP w w'∧(a'=a∨Fresh w a'):=by
  by_cases hm:m≤c
  · exact (make_old a n c m w f hA hn hm hs).mono fun e w' ⟨he,hw⟩=>⟨a,c,f,he,by rw [hw];exact hA,hm,by rw [hw];exact .refl _ _,.inl rfl⟩
  · exact (make_new a n c m w (by omega) hs).mono fun e w' ⟨he,hw⟩ =>
      ⟨_,_,fun _=>0,he,hw ▸ arr_zeros w _ (by unfold newCap;split <;> omega),le_newCap m,hw ▸ (Mod.refl _ _).alloc _,.inr ⟨_,rfl,Nat.le_refl _⟩⟩
def NormRet (w:World) (a:Option Addr) (n c:Nat) (f:Nat→Nat) (e:Ending) (w':World):Prop :=
  ∃ m,e=.returned (.slice a m c)∧w'=w∧m≤n∧NatIs w a m c f (val f n)
theorem NormRet.mk {w:World} {a:Option Addr} {n c:Nat} {f:Nat→Nat} (m:Nat) (hm:m≤n) (h:NatIs w a m c f (val f n)):NormRet w a n c f (.returned (.slice a m c)) w :=
  ⟨m,rfl,rfl,hm,h⟩
theorem norm_any (a:Option Addr) (n c:Nat) (w:World) (f:Nat→Nat) (hA:Arr w a c f) (hn:n≤c) (hs:n≤1048576) :
    Calls Tryz.prog 67 #[.slice a n c] w (NormRet w a n c f):=by
  rcases hA with ⟨rfl,rfl⟩ | ⟨b,C,t,rfl,hb,hsz,hc⟩
  · obtain rfl:n=0:=by omega
    have hz:NatIs w none 0 0 f (val f 0):=⟨.nil _ _,Nat.le_refl _,rfl,.inl rfl⟩
    have HZ:=Lib.hid hz
    clear hz
    go_enter Tryz.func67,Tryz.ntmps67
    go_wp2
    go_loop [3] (fun i=>i=.int .i64 0) (fun _=>0)
    case atStart=>rfl
    case round =>
      subst hrel
      go_wp2
      go_ret
      exact .mk 0 (Nat.le_refl _) HZ.out
  · have hA:Arr w (some ⟨b,0,none⟩) c f:=.inr ⟨b,C,t,rfl,hb,hsz,hc⟩
    have HA:=Lib.hid hA
    have HC:=Lib.hid hc
    clear hc hA
    go_enter Tryz.func67,Tryz.ntmps67
    go_wp2
    go_loop [3] (fun i=>∃ k:Nat,k≤n∧i=.int .i64 (k:Int)∧Hid (∀ j,k≤j→j<n→f j=0)) (fun i=>(intOf i).toNat)
    case atStart=>exact ⟨n,Nat.le_refl _,rfl,fun j h1 h2=>by omega⟩
    case round =>
      obtain ⟨k,hk,rfl,hz⟩:=hrel
      by_cases hp:0<k
      · obtain ⟨m,rfl⟩:∃ m,k=m+1:=⟨k - 1,by omega⟩
        have hcell:w.cell? ⟨b,m,none⟩=some (U (f m)):=by rw [cell?_of_heap hb];exact (HC.out m (by omega)).1
        have HF:Hid (f m≠0→NatIs w (some ⟨b,0,none⟩) (m+1) c f (val f n)):=fun h=>⟨HA.out,by omega,(val_drop hk fun j h1 h2=>hz.out j h1 h2).symm,.inr (by simpa using h)⟩
        have HN:Hid (f m=0→∀ j,m≤j→j<n→f j=0):=fun h0 j h1 h2=>by
          by_cases e:j=m
          · rw [e];exact h0
          · exact hz.out j (by omega) h2
        have HX:Hid (f m=f m):=rfl
        generalize hx:f m=x at hcell HF HN
        have Hx:=Lib.hid hx
        clear hx
        by_cases h0:x=0
        · have hb0:(((x:Nat):Int) == 0)=true:=by simp [h0]
          have HN':=Lib.hid (HN.out h0)
          clear h0 HN
          go_wp2
          go_round
          case rel=>exact ⟨m,by omega,by go_num,HN'.out⟩
          case measure=>simp [intOf]
        · have hb0:(((x:Nat):Int) == 0)=false:=by simp;omega
          have HF':=Lib.hid (HF.out h0)
          clear h0 HF
          go_wp2
          go_ret
          exact .mk (m+1) hk HF'.out
      · obtain rfl:k=0:=by omega
        have HF:Hid (NatIs w (some ⟨b,0,none⟩) 0 c f (val f n)):=⟨HA.out,by omega,(val_drop hk fun j h1 h2=>hz.out j h1 h2).symm,.inl rfl⟩
        go_wp2
        go_ret
        exact .mk 0 hk HF.out
theorem NatRet.mk {w w':World} {z a:Option Addr} {n c v:Nat} {f:Nat→Nat} (h:NatIs w' a n c f v) (hm:Mod (BlkOf z) w w') (hf:a=z∨Fresh w a):NatRet w z v (.returned (.slice a n c)) w' :=
  ⟨a,n,c,f,rfl,h,hm,hf⟩
theorem NatIs.zero {w:World} {a:Option Addr} {c:Nat} {f:Nat→Nat} (h:Arr w a c f):NatIs w a 0 c f 0:=⟨h,Nat.zero_le _,rfl,.inl rfl⟩
def put (f:Nat→Nat) (i x:Nat):Nat→Nat:=fun j=>if j=i then x else f j
theorem put_same (f:Nat→Nat) (i x:Nat):put f i x i=x:=by simp [put]
theorem put_other (f:Nat→Nat) {i j:Nat} (x:Nat) (h:j≠i):put f i x j=f j:=by simp [put,h]
theorem Arr.store {w:World} {b c:Nat} {f:Nat→Nat} (h:Arr w (some ⟨b,0,none⟩) c f) {i x:Nat} (hx:x<B64):Arr (w.setCell ⟨b,i,none⟩ (U x)) (some ⟨b,0,none⟩) c (put f i x):=by
  refine h.turned (setCell_mod w b i (U x)) fun j hj => ?_
  have hv:=h.vec j hj
  rw [Nat.zero_add] at *
  by_cases e:j=i
  · subst e
    exact ⟨by rw [put_same];exact cell_same hv.1 _,by rw [World.frozen?_setCell];exact hv.2.1,by rw [put_same];exact hx⟩
  · exact ⟨by rw [put_other f x e,cell_other (.inr (Ne.symm e))];exact hv.1,by rw [World.frozen?_setCell];exact hv.2.1,by rw [put_other f x e];exact hv.2.2⟩
theorem val_put_ge (f:Nat→Nat) {i x n:Nat} (h:n≤i):val (put f i x) n=val f n:=val_congr fun j hj=>put_other f x (by omega)
theorem mod_store {w w1:World} {z:Option Addr} {b i:Nat} (hm:Mod NoP w w1) (hf:some (⟨b,0,none⟩:Addr)=z∨Fresh w (some ⟨b,0,none⟩)) (v:Value):Mod (BlkOf z) w (w1.setCell ⟨b,i,none⟩ v):=by
  refine hm.of_none.setCell (fun hb => ?_) v
  rcases hf with rfl | ⟨k,e,hk⟩
  · exact ⟨_,rfl,rfl⟩
  · obtain rfl:b=k:=congrArg Addr.block (Option.some.inj e)
    omega
theorem slice_zero (a:Option Addr) (n c:Nat) {w:World} {f:Nat→Nat} (hA:Arr w a c f) (hn:n≤c) :
    (Instr.slice 49 (.slice a n c) none (some (.int .i64 0)) none).run Tryz.prog w=.ok (.slice a 0 c) w:=by
  rcases hA with ⟨rfl,rfl⟩ | ⟨b,C,t,rfl,hb,hsz,hc⟩
  · obtain rfl:n=0:=by omega
    simp [go_sem]
  · simp [go_sem]
theorem setWord_any (a:Option Addr) (n c x:Nat) (w:World) (f:Nat→Nat) (hA:Arr w a c f) (hn:n≤c) (hx:x<B64) :
    Calls Tryz.prog 107 #[.slice a n c,U x] w (NatRet w a x):=by
  by_cases h0:x=0
  · subst h0
    have hs:=slice_zero a n c hA hn
    have HN:=Lib.hid (NatIs.zero hA)
    clear hA
    go_enter Tryz.func107,Tryz.ntmps107
    go_wp2
    go_ret
    exact .mk HN.out (.refl _ _) (.inl rfl)
  · have hb0:(((x:Nat):Int) == 0)=false:=by simp;omega
    go_enter Tryz.func107,Tryz.ntmps107
    go_wp2_with fail
    refine (make_any a n c 1 _ f hA hn (by omega)).mono ?_
    rintro e w' ⟨a',c',f',rfl,hA',hm,hmod,hfr⟩
    obtain ⟨b,rfl⟩:=hA'.form (by omega)
    have hv:=(hA'.vec) 0 (by omega)
    have hcell:=hv.1
    have hfree:=hv.2.1
    clear hv
    go_wp2
    go_ret
    have hst:=hA'.store (i:=0) hx
    exact .mk ⟨hst,by omega,by rw [val_one,put_same],.inr (by simpa [put] using h0)⟩ (mod_store hmod hfr _) hfr
def splice (g:Nat→Nat) (m:Nat) (f:Nat→Nat):Nat→Nat:=fun j=>if j<m then g j else f j
theorem splice_lt (g f:Nat→Nat) {m j:Nat} (h:j<m):splice g m f j=g j:=by simp [splice,h]
theorem splice_ge (g f:Nat→Nat) {m j:Nat} (h:m≤j):splice g m f j=f j:=by simp [splice];omega
theorem val_splice (g f:Nat→Nat) {m n:Nat} (h:n≤m):val (splice g m f) n=val g n:=val_congr fun j hj=>splice_lt g f (by omega)
theorem Arr.wrote {w w':World} {b c m:Nat} {f g:Nat→Nat} (h:Arr w (some ⟨b,0,none⟩) c f) (hg:Vec w' b 0 m g) (hm:Mod (InR b 0 m) w w'):Arr w' (some ⟨b,0,none⟩) c (splice g m f):=by
  refine h.turned hm fun j hj => ?_
  by_cases e:j<m
  · rw [splice_lt g f e];exact hg j e
  · rw [splice_ge g f (by omega)]
    have hv:=h.vec j hj
    exact ⟨hm.cell_some hv.1 (fun ⟨_,_,h3⟩=>by omega),hm.free hv.1 hv.2.1,hv.2.2⟩
theorem Off.noP (a:Option Addr):Off a NoP:=fun _ _ _ x=>x
theorem mod_wrote {w w1 w2:World} {z:Option Addr} {b o n:Nat} (hm:Mod NoP w w1) (hf:some (⟨b,0,none⟩:Addr)=z∨Fresh w (some ⟨b,0,none⟩)) (h2:Mod (InR b o n) w1 w2):Mod (BlkOf z) w w2:=by
  refine (hm.of_none (M:=BlkOf z)).trans' h2 fun k j hk ⟨e,_⟩ => ?_
  subst e
  rcases hf with rfl | ⟨k',e',hk'⟩
  · exact ⟨_,rfl,rfl⟩
  · obtain rfl:k=k':=congrArg Addr.block (Option.some.inj e')
    omega
theorem NormRet.ret {w w1:World} {z a:Option Addr} {n c v:Nat} {f:Nat→Nat} {e:Ending} {w':World} (h:NormRet w1 a n c f e w') (hv:val f n=v) (hm:Mod (BlkOf z) w w1) (hf:a=z∨Fresh w a):NatRet w z v e w':=by
  obtain ⟨m,rfl,rfl,h1,h2⟩:=h
  exact .mk (hv ▸ h2) hm hf
set_option maxHeartbeats 400000 in
theorem mulAddWW_any (az ax:Option Addr) (nz cz nx cx y r vx:Nat) (w:World) (fz fx:Nat→Nat) (hZ:Arr w az cz fz) (hnz:nz≤cz) (hX:NatIs w ax nx cx fx vx) (hs:nx≤1000000) (hy:y<B64) (hr:r<B64) :
    Calls Tryz.prog 136 #[.slice az nz cz,.slice ax nx cx,U y,U r] w (NatRet w az (vx*y+r)):=by
  by_cases hx0:nx=0
  · subst hx0
    have hv:vx=0:=hX.zero_iff.1 rfl
    subst hv
    have hq:=Lib.hid (show r=0*y+r by omega)
    go_enter Tryz.func136,Tryz.ntmps136
    go_wp2_with fail
    refine (setWord_any az nz cz r _ fz hZ hnz hr).mono ?_
    rintro e w' ⟨a,n,c,f,rfl,h1,h2,h3⟩
    go_wp2
    go_ret
    rw [← hq.out]
    exact .mk h1 h2 h3
  · have hnx:decide ((nx:Int)=0)=false:=decide_eq_false (by omega)
    have hnx':((nx:Int) == 0)=false:=by simp;omega
    by_cases hy0:y=0
    · subst hy0
      have hq:=Lib.hid (show r=vx*0+r by omega)
      go_enter Tryz.func136,Tryz.ntmps136
      go_wp2_with fail
      refine (setWord_any az nz cz r _ fz hZ hnz hr).mono ?_
      rintro e w' ⟨a,n,c,f,rfl,h1,h2,h3⟩
      go_wp2
      go_ret
      rw [← hq.out]
      exact .mk h1 h2 h3
    · have hyb:((y:Int) == 0)=false:=by simp;omega
      obtain ⟨bx,rfl⟩:=hX.arr.form (by have:=hX.le;omega)
      go_enter Tryz.func136,Tryz.ntmps136
      go_wp2_with fail
      refine (make_any az nz cz (nx+1) _ fz hZ hnz (by omega)).mono ?_
      rintro e w1 ⟨a',c',f',rfl,hA',hm,hmod,hfr⟩
      obtain ⟨b,rfl⟩:=hA'.form (by omega)
      have hX1:=hX.mod hmod (Off.noP _)
      go_wp2_with fail
      refine (mulAddVWW_any b 0 c' bx 0 cx nx y r fx f' _ (hX1.arr.vec.take hX1.le) (hA'.vec.take (by omega)) (by omega) hy hr (fun _=>.inl (Nat.le_refl _))).mono ?_
      rintro e w2 ⟨rfl,hw,hmod2⟩
      have hA2:=hA'.wrote hw hmod2
      have hv2:=hA2.vec nx (by omega)
      have hcell:=hv2.1
      have hfree:=hv2.2.1
      rw [Nat.zero_add] at hcell hfree
      clear hv2
      have hC:mulC fx y r nx<B64:=mulC_lt (fun j hj=>hX.arr.words j (by have:=hX.le;omega)) hy hr nx (Nat.le_refl _)
      have hA3:=hA2.store (i:=nx) hC
      have hval:val (put (splice (mulW fx y r) nx f') nx (mulC fx y r nx)) (nx+1)=vx*y+r:=by
        have h1:=mul_val fx y r nx
        rw [hX.val] at h1
        rw [← h1]
        simp only [val]
        rw [put_same,val_put_ge _ (Nat.le_refl _),val_splice _ _ (Nat.le_refl _)]
      have HV:=Lib.hid hval
      clear hval
      go_wp2_with fail
      refine (norm_any _ (nx+1) c' _ _ hA3 hm (by omega)).mono ?_
      rintro e w4 hr4
      have hres:NatRet w az (vx*y+r) e w4:=by
        refine hr4.ret HV.out ?_ hfr
        refine (mod_wrote hmod hfr hmod2).setCell (fun hb => ?_) _
        rcases hfr with e' | ⟨k,e',hk⟩
        · exact ⟨_,e'.symm,rfl⟩
        · obtain rfl:b=k:=congrArg Addr.block (Option.some.inj e')
          omega
      obtain ⟨a,n,c,f,rfl,h1,h2,h3⟩:=hres
      go_wp2
      go_ret
      exact .mk h1 h2 h3
end
section
open Go Go.RowKit
def ArrG (w:World) (a:Option Addr) (c:Nat) (g:Nat→Value):Prop :=
  (a=none∧c=0)∨∃ b C t,a=some ⟨b,0,none⟩∧w.heap[b]? = some (.cells C t (0,0))∧C.size=c∧∀ j,j<c→C[j]? = some (g j)
theorem Arr.toG {w:World} {a:Option Addr} {c:Nat} {f:Nat→Nat} (h:Arr w a c f):ArrG w a c (fun j=>U (f j)):=by
  rcases h with h | ⟨b,C,t,h1,h2,h3,h4⟩
  · exact .inl h
  · exact .inr ⟨b,C,t,h1,h2,h3.1,fun j hj=>(h4 j hj).1⟩
theorem ArrG.toArr {w:World} {a:Option Addr} {c:Nat} {g:Nat→Value} {f:Nat→Nat} (h:ArrG w a c g) (hcap:c≤9223372036854775807) (hg:∀ j,j<c→g j=U (f j)∧f j<B64):Arr w a c f:=by
  rcases h with h | ⟨b,C,t,h1,h2,h3,h4⟩
  · exact .inl h
  · exact .inr ⟨b,C,t,h1,h2,⟨h3,hcap⟩,fun j hj=>⟨by rw [h4 j hj,(hg j hj).1],(hg j hj).2⟩⟩
theorem ArrG.mod {w w':World} {a:Option Addr} {c:Nat} {g:Nat→Value} {M:Places} (h:ArrG w a c g) (hm:Mod M w w') (hd:Off a M):ArrG w' a c g:=by
  rcases h with ⟨rfl,rfl⟩ | ⟨b,C,t,rfl,hb,hs,hc⟩
  · exact .inl ⟨rfl,rfl⟩
  · exact .inr ⟨b,C,t,rfl,by rw [hm.heap (lt_of_heap hb) (hd _ rfl),hb],hs,hc⟩
theorem ArrG.cell {w:World} {b:Nat} {c:Nat} {g:Nat→Value} (h:ArrG w (some ⟨b,0,none⟩) c g) {j:Nat} (hj:j<c):w.cell? ⟨b,j,none⟩=some (g j)∧w.frozen? ⟨b,j,none⟩=false:=by
  rcases h with ⟨h,_⟩ | ⟨b',C,t,e,hb,hs,hc⟩
  · cases h
  · obtain rfl:b=b':=by simpa using e
    exact ⟨by rw [cell?_of_heap hb];exact hc j hj,free_of_heap hb _⟩
structure Appended (w w':World) (a:Option Addr) (n c m:Nat) (g h:Nat→Value) (z:Value) (a':Option Addr) (c':Nat) (g':Nat→Value):Prop where
  arr:ArrG w' a' c' g'
  le:n+m≤c'
  old:∀ j,j<n→g' j=g j
  new:∀ j,j<m→g' (n+j)=h j
  spare:∀ j,n+m≤j→j<c'→(g' j=g j∧j<c)∨g' j=z
  mod:Mod (BlkOf a) w w'
  here:a'=a∨Fresh w a'
  cap:c≤9223372036854775807→c'≤9223372036854775807
theorem getElem?_zeroCells (z:Value) (hz:z.cells=#[z]) (n j:Nat) (hj:j<n):(Builtin.zeroCells z.cells n)[j]? = some z:=by
  simp [Builtin.zeroCells,hz,hj,Nat.mod_one]
theorem run_append_g (w:World) (t ty e:TypeId) (i:TypeInfo) (z:Value) (ht:Tryz.prog.underlying t=some (.slice e)) (hi:Tryz.prog.info? e=some i) (hz:i.zero=some z) (hzc:z.cells=#[z]) (hsz:i.size=1) (hb8:i.bytes≤8)
    (a:Option Addr) (n c:Nat) (g:Nat→Value) (hA:ArrG w a c g) (hn:n≤c) (bx ox m cx:Nat) (h:Nat→Value) (hx:∀ j,j<m→w.cell? ⟨bx,ox+j,none⟩=some (h j)∧(h j).oneCell'=true) (hm:n+m≤1099511627776) (hm0:0<m) :
    ∃ a' c' g' w',(Builtin.append_ #[t,t] ty #[.slice a n c,.slice (some ⟨bx,ox,none⟩) m cx]).run Tryz.prog w=.ok (.slice a' (n+m) c') w'∧Appended w w' a n c m g h z a' c' g':=by
  have hl:((List.range m).map h).length=m*i.size:=by simp [hsz]
  have hnews:∀ j u,((List.range m).map h)[j]? = some u→w.cell? ((⟨bx,ox,none⟩:Addr).add j)=some u:=by
    intro j u hu
    obtain ⟨hj,rfl⟩:j<m∧h j=u:=by
      rw [List.getElem?_map,Option.map_eq_some_iff] at hu
      obtain ⟨k,hk,rfl⟩:=hu
      obtain ⟨hj,rfl⟩:=List.getElem?_eq_some_iff.1 hk
      simp at hj
      simp [hj]
    rw [Addr.add_lit]
    exact (hx j hj).1
  have h1:∀ u ∈ (List.range m).map h,u.oneCell'=true:=by
    intro u hu
    obtain ⟨j,hj,rfl⟩:=List.mem_map.1 hu
    exact (hx j (by simpa using hj)).2
  have hbytes:(n+m)*i.bytes≤140737488355328:=by
    have:=Nat.mul_le_mul hm hb8
    omega
  rcases hA with ⟨rfl,rfl⟩ | ⟨b,C,tb,rfl,hb,hs,hc⟩
  · obtain rfl:n=0:=by omega
    have hr:=run_append_nil (P:=Tryz.prog) w t ty e i z ht hi hz ⟨bx,ox,none⟩ m cx _ hl hnews hm0 (by omega) (by simp at hbytes;omega)
    have hge:=grownCap_ge w m 0 e
    simp only [Nat.zero_add] at *
    refine ⟨_,_,fun j=>if j<m then h j else z,_,hr,?_,by omega,fun j hj=>by omega,fun j hj=>by simp [hj],fun j hj _=>.inr (by simp;omega),?_,.inr ⟨_,rfl,Nat.le_refl _⟩,fun _=>by have:=grownCap_le_maxLen w m 0 e (by unfold maxLen;omega);unfold maxLen at this;omega⟩
    · refine .inr ⟨w.heap.size,_,_,rfl,heap_alloc_new w.drew _,by simp [size_zeroCells,hzc];omega,fun j hj => ?_⟩
      rw [Array.getElem?_append]
      split
      · rename_i hlt
        have hlt':j<m:=by simpa using hlt
        simp [hlt']
      · rename_i hlt
        have hlt':¬ j<m:=by simpa using hlt
        rw [getElem?_zeroCells z hzc _ _ (by simp;omega)]
        simp [hlt']
    · exact ((Mod.refl _ w).drew).alloc _
  · by_cases hroom:n+m≤c
    · have hf:=run_firstCells_some (P:=Tryz.prog) w i.size m ⟨bx,ox,none⟩ m cx _ hl hnews
      have hst:=run_storeCells_at Tryz.prog b n tb ((List.range m).map h) 0 C w hb (by simp;omega) h1
      simp only [Nat.add_zero] at hst
      have hr:(Builtin.append_ #[t,t] ty #[.slice (some ⟨b,0,none⟩) n c,.slice (some ⟨bx,ox,none⟩) m cx]).run Tryz.prog w =
          .ok (.slice (some ⟨b,0,none⟩) (n+m) c) (w.setRow b (C.toList.take n ++ (List.range m).map h ++ C.toList.drop (n+((List.range m).map h).length)).toArray):=by
        simp [Builtin.append_,run_underlying ht,sizeOf,typeInfo,hi,hsz,Builtin.lenOf,hroom] at hf hst ⊢
        simp [hf,hst,Addr.add_lit]
      have hh:=setRow_heap w b C (C.toList.take n ++ (List.range m).map h ++ C.toList.drop (n+((List.range m).map h).length)).toArray tb (0,0) hb
      refine ⟨_,_,fun j=>if j<n then g j else if j<n+m then h (j - n) else g j,_,hr,?_,hroom,fun j hj=>by simp [hj],fun j hj=>by simp [hj];omega,fun j hj hjc=>.inl ⟨?_,hjc⟩,?_,.inl rfl,id⟩
      · refine .inr ⟨b,_,_,rfl,hh,by simp;omega,fun j hj => ?_⟩
        have hcj:=hc j hj
        rw [List.getElem?_toArray,List.append_assoc,List.getElem?_append]
        simp only [List.length_take,Array.length_toList,hs,Nat.min_eq_left hn,List.length_map,List.length_range]
        by_cases h1':j<n
        · simp [h1',hcj]
        · rw [if_neg h1',List.getElem?_append]
          simp only [List.length_map,List.length_range]
          by_cases h2':j<n+m
          · rw [if_pos (by omega)]
            simp [h1',h2',show j - n<m by omega]
          · rw [if_neg (by omega)]
            simp [h1',h2']
            rw [show n+m+(j - n - m)=j by omega,hcj]
      · rw [if_neg (by omega),if_neg (by omega)]
      · refine ⟨rfl,rfl,rfl,by simp,fun k hk => ?_⟩
        by_cases hkb:k=b
        · subst hkb
          refine .inr ⟨C,_,tb,(0,0),hb,hh,by simp;omega,fun j hj=>(hj ⟨_,rfl,rfl⟩).elim⟩
        · exact .inl (setRow_other w b k _ hkb)
    · have holds:∀ j u,((List.range n).map g)[j]? = some u→w.cell? ((⟨b,0,none⟩:Addr).add j)=some u:=by
        intro j u hu
        obtain ⟨hj,rfl⟩:j<n∧g j=u:=by
          rw [List.getElem?_map,Option.map_eq_some_iff] at hu
          obtain ⟨k,hk,rfl⟩:=hu
          obtain ⟨hj,rfl⟩:=List.getElem?_eq_some_iff.1 hk
          simp at hj
          simp [hj]
        rw [Addr.add_lit,Nat.zero_add,cell?_of_heap hb]
        exact hc j (by omega)
      have hr:=run_append_grow (P:=Tryz.prog) w t ty e i z ht hi hz ⟨b,0,none⟩ n c ((List.range n).map g) (by simp [hsz]) holds ⟨bx,ox,none⟩ m cx _ hl hnews (by omega) (by omega) (growslice_fits (by omega) hbytes)
      have hge:=grownCap_ge w (n+m) c e
      refine ⟨_,_,fun j=>if j<n then g j else if j<n+m then h (j - n) else z,_,hr,?_,hge,fun j hj=>by simp [hj],fun j hj=>by simp [hj];omega,fun j hj _=>.inr (by rw [if_neg (by omega),if_neg (by omega)]),?_,.inr ⟨_,rfl,Nat.le_refl _⟩,fun _=>by have:=grownCap_le_maxLen w (n+m) c e (by unfold maxLen;omega);unfold maxLen at this;omega⟩
      · refine .inr ⟨w.heap.size,_,_,rfl,heap_alloc_new w.drew _,by simp [size_zeroCells,hzc];omega,fun j hj => ?_⟩
        rw [Array.append_assoc,Array.getElem?_append]
        simp only [List.size_toArray,List.length_map,List.length_range]
        by_cases h1':j<n
        · simp [h1']
        · rw [if_neg h1',Array.getElem?_append]
          simp only [List.size_toArray,List.length_map,List.length_range]
          by_cases h2':j<n+m
          · rw [if_pos (by omega)]
            simp [h1',h2',show j - n<m by omega]
          · rw [if_neg (by omega),getElem?_zeroCells z hzc _ _ (by omega)]
            simp [h1',h2']
      · exact ((Mod.refl _ w).drew).alloc _
theorem wpList_append_g {ops:Array Oper} {rest:List Oper} {o:Oper} {av:Act} {Q:Exit→Act→World→Prop} {w:World} (hgd:o.guard=none) (s x:Operand) (t e:TypeId)
    (ho:o.op=.call { callee:=.builtin .append,args:=#[s,x],argTypes:=#[t,t] })
    (i:TypeInfo) (z:Value) (ht:Tryz.prog.underlying t=some (.slice e)) (hi:Tryz.prog.info? e=some i) (hz:i.zero=some z) (hzc:z.cells=#[z]) (hsz:i.size=1) (hb8:i.bytes≤8)
    (a:Option Addr) (n c:Nat) (g:Nat→Value) (hs:av.eval s=.slice a n c) (hA:ArrG w a c g) (hn:n≤c) (bx ox m cx:Nat) (hxv:av.eval x=.slice (some ⟨bx,ox,none⟩) m cx)
    (h:Nat→Value) (hx:∀ j,j<m→w.cell? ⟨bx,ox+j,none⟩=some (h j)∧(h j).oneCell'=true) (hm:n+m≤1099511627776) (hm0:0<m)
    (hK:∀ a' c' g' w',Appended w w' a n c m g h z a' c' g'→wpList Tryz.prog ops Q rest (av.put o.dst (.slice a' (n+m) c')) w'):wpList Tryz.prog ops Q (o :: rest) av w:=by
  refine wpList_plain hgd fun K hK' => ?_
  obtain ⟨a',c',g',w',hr,hap⟩:=run_append_g w t o.type e i z ht hi hz hzc hsz hb8 a n c g hA hn bx ox m cx h hx hm hm0
  unfold Oper.wp execOp
  simp only [ho,resolve,invoke,builtin,Sem.run_bind,Sem.run_pure,Result.andThen_ok,List.map_toArray,List.map_cons,List.map_nil,hs,hxv,hr]
  exact hK' _ _ (hK a' c' g' w' hap)
end
section
open Go Go.RowKit
abbrev BArr (w:World) (a:Option Addr) (c:Nat) (f:Nat→Nat):Prop:=ArrG w a c fun j=>Bt (f j)
def Bts (w:World) (b o n:Nat) (f:Nat→Nat):Prop:=∀ j,j<n→w.cell? ⟨b,o+j,none⟩=some (Bt (f j))
theorem Bts.mod {w w':World} {b o n:Nat} {f:Nat→Nat} {M:Places} (h:Bts w b o n f) (hm:Mod M w w') (hd:∀ j,j<n→¬ M b (o+j)):Bts w' b o n f :=
  fun j hj=>hm.cell_some (h j hj) (hd j hj)
theorem BArr.bts {w:World} {b c:Nat} {f:Nat→Nat} (h:BArr w (some ⟨b,0,none⟩) c f):Bts w b 0 c f:=fun j hj=>by rw [Nat.zero_add];exact (h.cell hj).1
theorem info5:(Tryz.prog.info? 5).map (fun i=>(i.zero,i.size,i.bytes))=some (some (.int .u8 0),1,1):=by kernel_rfl
def zerosB (c:Nat):Obj:=.cells (madeCells #[.int .u8 0] c) 5 (0,0)
theorem barr_zeros (w:World) (c:Nat):BArr (w.alloc (zerosB c)) (some ⟨w.heap.size,0,none⟩) c (fun _=>0) :=
  .inr ⟨w.heap.size,_,_,rfl,heap_alloc_new w _,size_madeCells _ _,fun j hj=>by simp [madeCells,hj,Nat.mod_one]⟩
theorem makeSlice22 (l c:Nat) (hlc:l≤c) (hc:c≤2097152) (u:World) (L K:Int) (hL:L=l) (hK:K=c) :
    (Instr.makeSlice 22 (.int .i64 L) (.int .i64 K)).run Tryz.prog u=.ok (.slice (some ⟨u.heap.size,0,none⟩) l c) (u.alloc (zerosB c)):=by
  subst hL;subst hK
  obtain ⟨i0,hi,hz0,hz1,hz2⟩:=info_parts info5
  have h:=run_make (P:=Tryz.prog) u 22 5 i0 (.int .u8 0) Tryz.underlying22 hi hz0 .i64 .i64 (l:Int) (c:Int) (by omega) (by omega) (by rw [hz2];omega) (by omega)
  simpa [hz1,Value.cells,zerosB] using h
theorem box2 (w:World) (x y:Value) (t:TypeId):(w.alloc (.cells #[x,y] t (0,0))).cell? ⟨w.heap.size,0,none⟩=some x∧(w.alloc (.cells #[x,y] t (0,0))).cell? ⟨w.heap.size,1,none⟩=some y :=
  ⟨by rw [cell?_of_heap (heap_alloc_new w _)];simp,by rw [cell?_of_heap (heap_alloc_new w _)];simp⟩
end
section
open Go Go.RowKit
def wMul (x y:Nat):Nat:=x*y%B64
theorem wMul_lt (x y:Nat):wMul x y<B64:=Nat.mod_lt _ B64_pos
theorem wrap_mul (x y:Nat):IntKind.u64.wrap ((x:Int)*(y:Int))=((wMul x y:Nat):Int):=by
  rw [IntKind.wrap_u64]
  unfold wMul
  rw [B64_eq,← Int.natCast_mul]
  omega
theorem wrap_add (x y:Nat):IntKind.u64.wrap ((x:Int)+(y:Int))=((wAdd x y 0:Nat):Int):=by
  rw [IntKind.wrap_u64]
  unfold wAdd
  rw [B64_eq]
  omega
theorem maxPow_ten (w:World):Calls Tryz.prog 135 #[U 10] w fun e w'=>e=.returned (.tuple #[U 10000000000000000000,.int .i64 19])∧w'=w:=by
  go_enter Tryz.func135,Tryz.ntmps135
  go_wp2
  go_loop [2,3] (fun p n=>∃ k:Nat,1≤k∧k≤19∧p=U (10^k)∧n=.int .i64 (k:Int)) (fun _ n=>19 - (intOf n).toNat)
  case atStart=>exact ⟨1,by omega,by omega,rfl,rfl⟩
  case round =>
    obtain ⟨k,h1,h2,rfl,rfl⟩:=hrel
    by_cases hk:k<19
    · have hp:10^k≤1000000000000000000:=Nat.le_trans (Nat.pow_le_pow_right (by omega) (show k≤18 by omega)) (by decide)
      have hs:=Lib.hid (Nat.pow_succ 10 k)
      generalize 10^k=p at *
      go_wp2
      go_round
      case rel=>exact ⟨k+1,by omega,by omega,by rw [hs.out];simp,by go_num⟩
      case measure=>simp [intOf];omega
    · obtain rfl:k=19:=by omega
      go_wp2
      go_ret2
      exact ⟨rfl,rfl⟩
theorem pow_step {P X N:Nat} (h:N≠0):(P*X^N)%B64=((if N%2=1 then wMul P X else P)*(wMul X X)^(N/2))%B64:=by
  have hN:=Nat.div_add_mod N 2
  have h2:X^(2*(N/2))=(X*X)^(N/2):=by rw [Nat.pow_mul,Nat.pow_two]
  rcases Nat.mod_two_eq_zero_or_one N with h0 | h1
  · rw [if_neg (by omega)]
    have:X^N=(X*X)^(N/2):=by rw [← h2];congr 1;omega
    rw [this];unfold wMul
    rw [Nat.mul_mod,Nat.pow_mod,← Nat.mul_mod]
  · rw [if_pos h1]
    have:X^N=X*(X*X)^(N/2):=by
      rw [← h2,Nat.mul_comm,← Nat.pow_succ];congr 1;omega
    rw [this,← Nat.mul_assoc];unfold wMul
    simp [Nat.mul_mod,Nat.pow_mod]
theorem wraps_i64 (n:Int) (h₀:0≤n) (h₁:n<2^63):IntKind.i64.wrap n=n:=by rw [IntKind.wrap_i64];omega
theorem i64_and1 (x:Nat) (h:x<1099511627776):bits .and .i64 (x:Int) 1=((x%2:Nat):Int):=by
  have h:=(bits_nat .i64 63 (by decide) wraps_i64 x 1 (by omega) (by decide)).1
  rw [Nat.and_one_is_mod] at h
  exact h
theorem pow_any (x n:Nat) (hx:x<B64) (hn:n<1099511627776) (w:World) :
    Calls Tryz.prog 137 #[U x,.int .i64 (n:Int)] w fun e w'=>e=.returned (U (x^n%B64))∧w'=w:=by
  go_enter Tryz.func137,Tryz.ntmps137
  go_wp2
  go_loop [0,1,4] (fun xv nv pv=>∃ X N P:Nat,xv=U X∧nv=.int .i64 (N:Int)∧pv=U P∧N≤n∧Hid (X<B64∧P<B64∧P*X^N%B64=x^n%B64)) (fun _ nv _=>(intOf nv).toNat)
  case atStart=>exact ⟨x,n,1,rfl,rfl,rfl,Nat.le_refl _,hx,by decide,by simp⟩
  case round =>
    obtain ⟨X,N,P,rfl,rfl,rfl,hN,hinv⟩:=hrel
    have hm1:=wrap_mul P X
    have hm2:=wrap_mul X X
    by_cases h0:N≤0
    · have hf:Hid (x^n%B64=P):=by
        have h:=hinv.out
        rw [show N=0 by omega,Nat.pow_zero,Nat.mul_one,Nat.mod_eq_of_lt h.2.1] at h
        exact h.2.2.symm
      go_wp2
      go_ret
      exact ⟨by rw [hf.out];rfl,rfl⟩
    · have ha:=i64_and1 N (by omega)
      have hs:=Lib.hid (pow_step (P:=P) (X:=X) (N:=N) (by omega))
      have hd:(N:Int)/2=((N/2:Nat):Int):=by omega
      have HD:=Lib.hid hd
      clear hd
      rcases Nat.mod_two_eq_zero_or_one N with h2 | h2
      · have hb:(bits .and .i64 (N:Int) 1 != 0)=false:=by rw [ha,h2];rfl
        have H2:=Lib.hid h2
        clear h2 ha
        go_wp2
        go_round
        case rel=>exact ⟨wMul X X,N/2,P,rfl,by rw [HD.out],rfl,by omega,wMul_lt _ _,hinv.out.2.1,by rw [← hinv.out.2.2,hs.out,if_neg (by rw [H2.out];decide)]⟩
        case measure=>simp [intOf];omega
      · have hb:(bits .and .i64 (N:Int) 1 != 0)=true:=by rw [ha,h2];rfl
        have H2:=Lib.hid h2
        clear h2 ha
        go_wp2
        go_round
        case rel=>exact ⟨wMul X X,N/2,wMul P X,rfl,by rw [HD.out],rfl,by omega,wMul_lt _ _,wMul_lt _ _,by rw [← hinv.out.2.2,hs.out,if_pos H2.out]⟩
        case measure=>simp [intOf];omega
end
section
open Go Go.RowKit
def over (f:Nat→Nat) (o n:Nat) (g:Nat→Nat) (j:Nat):Nat:=if o≤j∧j<o+n then g (j - o) else f j
theorem row_set {w:World} {b c o n:Nat} {f g:Nat→Nat} {C:Array Value} {t:TypeId} (hb:w.heap[b]? = some (.cells C t (0,0))) (hs:C.size=c) (hc:∀ j,j<c→C[j]? = some (Bt (f j))) (hfit:o+n≤c)
    (cs:List Value) (hl:cs.length=n) (hcs:∀ j,j<n→cs[j]? = some (Bt (g j))) :
    BArr (w.setRow b (C.toList.take o ++ cs ++ C.toList.drop (o+cs.length)).toArray) (some ⟨b,0,none⟩) c (over f o n g)∧Mod (InB b) w (w.setRow b (C.toList.take o ++ cs ++ C.toList.drop (o+cs.length)).toArray):=by
  have hh:=setRow_heap w b C (C.toList.take o ++ cs ++ C.toList.drop (o+cs.length)).toArray t (0,0) hb
  have hsz:(C.toList.take o ++ cs ++ C.toList.drop (o+cs.length)).length=c:=by simp;omega
  refine ⟨.inr ⟨b,_,t,rfl,hh,by simpa using hsz,fun j hj => ?_⟩,rfl,rfl,rfl,by simp,fun k hk => ?_⟩
  · have hcj:=hc j hj
    rw [List.getElem?_toArray,List.append_assoc,List.getElem?_append]
    simp only [List.length_take,Array.length_toList,hs,Nat.min_eq_left (show o≤c by omega)]
    unfold over
    by_cases h1':j<o
    · rw [if_pos h1',if_neg (by omega)]
      simp [h1',hcj]
    · rw [if_neg h1',List.getElem?_append]
      by_cases h2':j<o+n
      · rw [if_pos (by omega),if_pos (by omega),hcs _ (by omega)]
      · rw [if_neg (by omega),if_neg (by omega)]
        simp only [List.getElem?_drop,Array.getElem?_toList]
        rw [show o+cs.length+(j - o - cs.length)=j by omega,hcj]
  · by_cases hkb:k=b
    · subst hkb
      exact .inr ⟨C,_,t,(0,0),hb,hh,by simpa [hs] using hsz,fun j hj=>(hj rfl).elim⟩
    · exact .inl (setRow_other w b k _ hkb)
theorem wpList_copy {ops:Array Oper} {rest:List Oper} {o:Oper} {av:Act} {Q:Exit→Act→World→Prop} {w:World} (hgd:o.guard=none) (d s:Operand) (t t':TypeId)
    (ho:o.op=.call { callee:=.builtin .copy,args:=#[d,s],argTypes:=#[t,t'] }) (vd vs:Value) (hd:av.eval d=vd) (hs:av.eval s=vs) {v':Value} {w':World}
    (hr:(Builtin.copy_ #[t,t'] o.type #[vd,vs]).run Tryz.prog w=.ok v' w') (hK:wpList Tryz.prog ops Q rest (av.put o.dst v') w'):wpList Tryz.prog ops Q (o :: rest) av w:=by
  refine wpList_plain hgd fun K hK' => ?_
  unfold Oper.wp execOp
  simp only [ho,resolve,invoke,builtin,Sem.run_bind,Sem.run_pure,Result.andThen_ok,List.map_toArray,List.map_cons,List.map_nil,hd,hs,hr]
  exact hK' _ _ hK
theorem zero5 (w:World):(zeroValue 5).run Tryz.prog w=.ok (.int .u8 0) w:=by kernel_rfl
theorem clear_run (w:World) (ty:TypeId) (b o n cap c:Nat) (f:Nat→Nat) (hA:BArr w (some ⟨b,0,none⟩) c f) (hfit:o+n≤c) (hn:0<n) :
    ∃ w',(Builtin.clear_ #[22] ty #[.slice (some ⟨b,o,none⟩) n cap]).run Tryz.prog w=.ok (.tuple #[]) w'∧BArr w' (some ⟨b,0,none⟩) c (over f o n fun _=>0)∧Mod (InB b) w w':=by
  rcases hA with ⟨h,_⟩ | ⟨b',C,t,e,hb,hs,hc⟩
  · cases h
  obtain rfl:b=b':=by simpa using e
  have hzc:(Builtin.zeroCells (Value.cells (.int .u8 0)) n).toList=List.replicate n (.int .u8 0):=by
    simp [Builtin.zeroCells,Value.cells]
    apply List.ext_getElem
    · simp
    · intro i h1 h2
      simp [Nat.mod_one]
  have hst:=run_storeCells_at Tryz.prog b o t (List.replicate n (.int .u8 0)) 0 C w hb (by simp;omega) (by intro v hv';rw [List.eq_of_mem_replicate hv'];rfl)
  have hset:=row_set hb hs hc (o:=o) (n:=n) (g:=fun _=>0) hfit (List.replicate n (.int .u8 0)) (by simp) (fun j hj=>by simp [hj])
  refine ⟨_,?_,hset.1,hset.2⟩
  simp only [Nat.add_zero] at hst
  obtain ⟨m,rfl⟩:∃ m,n=m+1:=⟨n - 1,by omega⟩
  simp [Builtin.clear_,run_underlying Tryz.underlying22,zero5,hzc,hst]
end
end Go.Proofs.YtpfmbfkhjapbbaaGreatDoor
