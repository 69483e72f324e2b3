/-
  Rows of bytes as numbers, the highest byte first: which of two is less, when one is 0, the number that the specification's ofBytes makes. No condition; no program in sight.
  cggroup's plain twins of crypto/subtle (byte equality, selection, comparison), isLessThanBE, constantTimeCompare. Conditions: the rows are there, at most 2^20 bytes.
  nat: cmp, set, add, sub. Conditions: normal numbers of at most 10^6 words; z an array of its own.
  nat: set, sub, add. Conditions: normal numbers of at most 10^6 words; z an array of its own, or that of an argument.
-/
import Derived.Test.YtpfmbfkhjapbbaaGreatDoorMg06
import Derived.Test.YtpfmbfkhjapbbaaGreatDoorMg08
import Derived.Laws.BytesString
set_option linter.unusedVariables false
set_option linter.unusedSimpArgs false
namespace Go.Proofs.YtpfmbfkhjapbbaaGreatDoor
section
open Go Go.RowKit
theorem beN_lt {f:Nat→Nat} {n:Nat} (h:∀ j,j<n→f j<256):beN f n<256^n:=by
  induction n with
  | zero=>simp [beN]
  | succ n ih =>
    have h1:=ih fun j hj=>h j (by omega)
    have h2:=h n (by omega)
    simp only [beN,Nat.pow_succ]
    omega
theorem beN_add (f:Nat→Nat) (m n:Nat):beN f (m+n)=beN f m*256^n+beN (fun j=>f (m+j)) n:=by
  induction n with
  | zero=>simp [beN]
  | succ n ih =>
    rw [← Nat.add_assoc]
    simp only [beN]
    rw [ih,Nat.pow_succ,Nat.add_mul,Nat.mul_assoc,Nat.add_assoc]
def obW (f:Nat→Nat) (n:Nat):Nat→Nat→Nat
  | 0,_=>0
  | k+1,q=>if q=k/8 then obW f n k q+f (n - 1 - k)*2^(8*(k%8)) else obW f n k q
theorem obW_lt (f:Nat→Nat) (n:Nat) (hf:∀ j,j<n→f j<256):∀ k q,k≤n→obW f n k q<2^(8*min 8 (k - 8*q))
  | 0,q,_=>by simp [obW]
  | k+1,q,h=>by
    have ih:=obW_lt f n hf k q (by omega)
    simp only [obW]
    by_cases e:q=k/8
    · rw [if_pos e]
      have h1:min 8 (k - 8*q)=k%8:=by omega
      have h2:min 8 (k+1 - 8*q)=k%8+1:=by omega
      rw [h1] at ih
      rw [h2]
      have h3:(f (n - 1 - k)+1)*2^(8*(k%8))≤256*2^(8*(k%8)):=Nat.mul_le_mul_right _ (hf _ (by omega))
      have h4:2^(8*(k%8+1))=256*2^(8*(k%8)):=by rw [Nat.mul_add,Nat.pow_add];omega
      rw [Nat.add_mul] at h3
      omega
    · rw [if_neg e]
      refine Nat.lt_of_lt_of_le ih (Nat.pow_le_pow_right (by omega) ?_)
      omega
theorem obW_lt64 (f:Nat→Nat) (n:Nat) (hf:∀ j,j<n→f j<256) (k q:Nat) (h:k≤n):obW f n k q<B64 :=
  Nat.lt_of_lt_of_le (obW_lt f n hf k q h) (by rw [B64_pow];exact Nat.pow_le_pow_right (by omega) (by omega))
theorem val_obW (f:Nat→Nat) (n m:Nat):∀ k,k≤n→k≤8*m→val (obW f n k) m=beN (fun j=>f (n - k+j)) k
  | 0,_,_=>val_zero fun j _=>rfl
  | k+1,h,hm=>by
    have ih:=val_obW f n m k (by omega) (by omega)
    have h1:beN (fun j=>f (n - (k+1)+j)) (k+1)=f (n - (k+1))*256^k+beN (fun j=>f (n - k+j)) k:=by
      rw [show k+1=1+k by omega,beN_add]
      simp only [beN]
      congr 1
      · simp
      · exact beN_congr fun j hj=>by congr 1;omega
    rw [h1,← ih]
    have h2:∀ m',k/8<m'→val (obW f n (k+1)) m'=f (n - (k+1))*256^k+val (obW f n k) m':=by
      intro m' hm'
      obtain ⟨d,rfl⟩:∃ d,m'=k/8+1+d:=⟨m' - (k/8+1),by omega⟩
      rw [val_add,val_add (obW f n k)]
      have e1:val (fun j=>obW f n (k+1) (k/8+1+j)) d=val (fun j=>obW f n k (k/8+1+j)) d:=val_congr fun j hj=>by
        simp only [obW]
        rw [if_neg (by omega)]
      rw [e1]
      simp only [val]
      have e2:val (obW f n (k+1)) (k/8)=val (obW f n k) (k/8):=val_congr fun j hj=>by
        simp only [obW]
        rw [if_neg (by omega)]
      rw [e2]
      have e3:obW f n (k+1) (k/8)=obW f n k (k/8)+f (n - 1 - k)*2^(8*(k%8)):=by
        simp [obW]
      rw [e3,Nat.add_mul]
      have e4:f (n - 1 - k)*2^(8*(k%8))*B64^(k/8)=f (n - (k+1))*256^k:=by
        rw [Nat.mul_assoc,B64_pow,← Nat.pow_mul,← Nat.pow_add,show (256:Nat)=2^8 from rfl,← Nat.pow_mul]
        congr 2
        all_goals (first | omega | (congr 1;omega))
      rw [e4]
      omega
    exact h2 m (by omega)
end
section
open Go Go.RowKit
def Drew (w w':World):Prop:=∃ q,w'=w.drewN q
theorem Drew.refl (w:World):Drew w w:=⟨0,rfl⟩
theorem Drew.more {w w':World} (h:Drew w w') (m:Nat):Drew w (w'.drewN m):=by
  obtain ⟨q,rfl⟩:=h
  exact ⟨q+m,by rw [World.drewN_drewN]⟩
theorem Drew.mod {w w':World} (h:Drew w w') (M:Places):Mod M w w':=by
  obtain ⟨q,rfl⟩:=h
  exact (Mod.refl M w).drewN q
theorem Drew.cell {w w':World} (h:Drew w w') {b o:Nat} {v:Value} (hc:w.cell? ⟨b,o,none⟩=some v):w'.cell? ⟨b,o,none⟩=some v:=(h.mod NoP).cell_some hc fun x=>x
theorem ret_i64 {a b:Int} (h:a=b):Ending.returned (.int .i64 a)=.returned (.int .i64 b):=by rw [h]
end
section
open Go Go.RowKit
def cmpV (x y:Nat):Int:=if x<y then -1 else if y<x then 1 else 0
theorem cmpV_lt {x y:Nat} (h:x<y):cmpV x y = -1:=by unfold cmpV;rw [if_pos h]
theorem cmpV_gt {x y:Nat} (h:y<x):cmpV x y=1:=by unfold cmpV;rw [if_neg (by omega),if_pos h]
theorem cmpV_eq (x:Nat):cmpV x x=0:=by unfold cmpV;rw [if_neg (by omega),if_neg (by omega)]
theorem NatIs.ge {w:World} {a:Option Addr} {n c v:Nat} {f:Nat→Nat} (h:NatIs w a n c f v) (hn:0<n):B64^(n - 1)≤v:=by
  rw [← h.val]
  rcases h.top with h1 | h1
  · omega
  · have:=le_val_of_top (f:=f) (n:=n - 1) h1
    rwa [show n - 1+1=n by omega] at this
theorem NatIs.less_len {w w':World} {a b:Option Addr} {n m c d v u:Nat} {f g:Nat→Nat} (h:NatIs w a n c f v) (h':NatIs w' b m d g u) (hlt:n<m):v<u:=by
  have h1:=h.lt
  have h2:=h'.ge (by omega)
  have h3:B64^n≤B64^(m - 1):=Nat.pow_le_pow_right B64_pos (by omega)
  omega
set_option maxRecDepth 100000 in
set_option maxHeartbeats 1000000 in
theorem cmp_any (a b:Option Addr) (n c m d v u:Nat) (f g:Nat→Nat) (w:World) (hX:NatIs w a n c f v) (hY:NatIs w b m d g u) (hn:n≤1000000) (hm:m≤1000000) :
    Calls Tryz.prog 110 #[.slice a n c,.slice b m d] w fun e w'=>e=.returned (.int .i64 (cmpV v u))∧∃ q,w'=w.drewN q:=by
  rcases Nat.lt_trichotomy n m with hlt | heq | hgt
  · have hv:=hX.less_len hY hlt
    rw [cmpV_lt hv]
    have hb:((n:Int) != (m:Int))=true:=by simp;omega
    have hd:decide ((n:Int)<(m:Int))=true:=decide_eq_true (by omega)
    clear hX hY hv
    go_enter Tryz.func110,Tryz.ntmps110
    go_wp2_with fail
    go_ret
    exact ⟨rfl,0,rfl⟩
  · subst heq
    by_cases h0:n=0
    · subst h0
      have e1:v=0:=hX.zero_iff.1 rfl
      have e2:u=0:=hY.zero_iff.1 rfl
      subst e1 e2
      rw [cmpV_eq]
      clear hX hY
      go_enter Tryz.func110,Tryz.ntmps110
      go_wp2_with fail
      go_ret
      exact ⟨rfl,0,rfl⟩
    · obtain ⟨ba,rfl⟩:=hX.arr.form (by have:=hX.le;omega)
      obtain ⟨bb,rfl⟩:=hY.arr.form (by have:=hY.le;omega)
      have hXv:=hX.arr.vec.take hX.le
      have hYv:=hY.arr.vec.take hY.le
      have hb0:((n:Int) == 0)=false:=by simp;omega
      have hfin:∀ k,k<n→(∀ j,k+1≤j→j<n→f j=g j)→(k=0∨f k≠g k)→(f k<g k→v<u)∧(g k<f k→u<v)∧(f k=g k→v=u):=fun k hk hj hor=>by
        rw [← hX.val,← hY.val]
        refine ⟨fun h=>val_lt_of_word (fun j h=>(hXv j h).2.2) hk hj h,fun h=>val_lt_of_word (fun j h=>(hYv j h).2.2) hk (fun j h1 h2=>(hj j h1 h2).symm) h,fun h=>val_congr fun j hjn => ?_⟩
        rcases hor with rfl | hne
        · by_cases e:j=0
          · rw [e,h]
          · exact hj j (by omega) hjn
        · exact absurd h hne
      have HF:=Lib.hid hfin
      have HX:=Lib.hid hXv
      have HY:=Lib.hid hYv
      clear hX hY hfin hXv hYv
      go_enter Tryz.func110,Tryz.ntmps110
      go_wp2_with fail
      go_loopw [7] (fun i wr=>∃ k:Nat,k<n∧i=.int .i64 (k:Int)∧(∀ j,k+1≤j→j<n→f j=g j)∧Drew w wr) (fun i _=>(intOf i).toNat)
      case atStart=>exact ⟨n - 1,by omega,by congr 1;omega,fun j h1 h2=>by omega,.refl _⟩
      case round =>
      obtain ⟨k,hk,rfl,hj,hw⟩:=hrel
      have hcx:=hw.cell (HX.out k hk).1
      have hcy:=hw.cell (HY.out k hk).1
      rw [Nat.zero_add] at hcx hcy
      have k0:(0:Int)≤(k:Int):=by omega
      have k1:(k:Int)<(n:Int):=by omega
      have k2:(k:Int).toNat=k:=by omega
      have Hj:=Lib.hid hj
      have Hw:=Lib.hid hw
      clear hj hw
      by_cases hp:0<k∧f k=g k
      · obtain ⟨hp,he⟩:=hp
        have HE:=Lib.hid he
        rw [he] at hcx
        clear he
        generalize hy:g k=y at *
        have Hy:=Lib.hid hy
        clear hy
        have dp:decide ((k:Int) > 0)=true:=decide_eq_true (by omega)
        go_wp2_with fail
        go_quiet (fail)
        go_wp2_with fail
        go_roundw
        case rel=>exact ⟨k - 1,by omega,by congr 1;omega,fun j h1 h2=>by
          by_cases e:j=k
          · rw [e];exact HE.out.trans Hy.out.symm
          · exact Hj.out j (by omega) h2,Hw.out.more _⟩
        case measure=>simp [intOf];omega
      · have HFk:=Lib.hid (HF.out k hk Hj.out (by omega))
        clear HF
        by_cases hk0:k=0
        · have dp:decide (0<(k:Int))=false:=decide_eq_false (by omega)
          have dp':decide (0<k)=false:=decide_eq_false (by omega)
          clear hp
          generalize hx:f k=x at *
          generalize hy:g k=y at *
          have Hx:=Lib.hid hx
          have Hy:=Lib.hid hy
          clear hx hy hk0
          rcases Nat.lt_trichotomy x y with hxy | hxy | hxy
          · have c1:decide ((x:Int)<(y:Int))=true:=decide_eq_true (by omega)
            have HV:=Lib.hid (cmpV_lt (HFk.out.1 hxy)).symm
            clear HFk
            go_wp2_with fail
            go_quiet (fail)
            have Hw1:=Lib.hid (Hw.out.more nq)
            generalize wr.drewN nq=w2 at *
            clear Hw
            have e1:=Hw1.out.cell (HX.out k hk).1
            have e2:=Hw1.out.cell (HY.out k hk).1
            rw [Nat.zero_add,Hx.out] at e1
            rw [Nat.zero_add,Hy.out] at e2
            go_wp2_with fail
            go_quiet (fail)
            have Hw2:=Lib.hid (Hw1.out.more nq)
            generalize w2.drewN nq=w3 at *
            clear Hw1 e1 e2
            go_wp2_with fail
            go_ret
            obtain ⟨q,hq⟩:=Hw2.out
            exact ⟨ret_i64 HV.out,q,hq⟩
          · subst hxy
            have c1:decide ((x:Int)<(x:Int))=false:=decide_eq_false (by omega)
            have c2:decide ((x:Int) > (x:Int))=false:=decide_eq_false (by omega)
            have HV:=Lib.hid (show (0:Int)=cmpV v u by rw [HFk.out.2.2 rfl,cmpV_eq])
            clear HFk
            go_wp2_with fail
            go_quiet (fail)
            have Hw1:=Lib.hid (Hw.out.more nq)
            generalize wr.drewN nq=w2 at *
            clear Hw
            have e1:=Hw1.out.cell (HX.out k hk).1
            have e2:=Hw1.out.cell (HY.out k hk).1
            rw [Nat.zero_add,Hx.out] at e1
            rw [Nat.zero_add,Hy.out] at e2
            go_wp2_with fail
            go_quiet (fail)
            have Hw2:=Lib.hid (Hw1.out.more nq)
            generalize w2.drewN nq=w3 at *
            clear Hw1 e1 e2
            have e1:=Hw2.out.cell (HX.out k hk).1
            have e2:=Hw2.out.cell (HY.out k hk).1
            rw [Nat.zero_add,Hx.out] at e1
            rw [Nat.zero_add,Hy.out] at e2
            go_wp2_with fail
            go_quiet (fail)
            have Hw3:=Lib.hid (Hw2.out.more nq)
            generalize w3.drewN nq=w4 at *
            go_wp2_with fail
            go_ret
            obtain ⟨q,hq⟩:=Hw3.out
            exact ⟨ret_i64 HV.out,q,hq⟩
          · have c1:decide ((x:Int)<(y:Int))=false:=decide_eq_false (by omega)
            have c2:decide ((x:Int) > (y:Int))=true:=decide_eq_true (by omega)
            have HV:=Lib.hid (cmpV_gt (HFk.out.2.1 hxy)).symm
            clear HFk
            go_wp2_with fail
            go_quiet (fail)
            have Hw1:=Lib.hid (Hw.out.more nq)
            generalize wr.drewN nq=w2 at *
            clear Hw
            have e1:=Hw1.out.cell (HX.out k hk).1
            have e2:=Hw1.out.cell (HY.out k hk).1
            rw [Nat.zero_add,Hx.out] at e1
            rw [Nat.zero_add,Hy.out] at e2
            go_wp2_with fail
            go_quiet (fail)
            have Hw2:=Lib.hid (Hw1.out.more nq)
            generalize w2.drewN nq=w3 at *
            clear Hw1 e1 e2
            have e1:=Hw2.out.cell (HX.out k hk).1
            have e2:=Hw2.out.cell (HY.out k hk).1
            rw [Nat.zero_add,Hx.out] at e1
            rw [Nat.zero_add,Hy.out] at e2
            go_wp2_with fail
            go_quiet (fail)
            have Hw3:=Lib.hid (Hw2.out.more nq)
            generalize w3.drewN nq=w4 at *
            go_wp2_with fail
            go_ret
            obtain ⟨q,hq⟩:=Hw3.out
            exact ⟨ret_i64 HV.out,q,hq⟩
        · have dp:decide (0<(k:Int))=true:=decide_eq_true (by omega)
          have dp':decide (0<k)=true:=decide_eq_true (by omega)
          have hne:f k≠g k:=fun h=>hp ⟨by omega,h⟩
          clear hp
          generalize hx:f k=x at *
          generalize hy:g k=y at *
          have Hx:=Lib.hid hx
          have Hy:=Lib.hid hy
          clear hx hy hk0
          have hbe:((x:Int) == (y:Int))=false:=by simp;omega
          rcases Nat.lt_or_gt_of_ne hne with hxy | hxy
          · have c1:decide ((x:Int)<(y:Int))=true:=decide_eq_true (by omega)
            have HV:=Lib.hid (cmpV_lt (HFk.out.1 hxy)).symm
            clear HFk
            go_wp2_with fail
            go_quiet (fail)
            have Hw1:=Lib.hid (Hw.out.more nq)
            generalize wr.drewN nq=w2 at *
            clear Hw
            have e1:=Hw1.out.cell (HX.out k hk).1
            have e2:=Hw1.out.cell (HY.out k hk).1
            rw [Nat.zero_add,Hx.out] at e1
            rw [Nat.zero_add,Hy.out] at e2
            go_wp2_with fail
            go_quiet (fail)
            have Hw2:=Lib.hid (Hw1.out.more nq)
            generalize w2.drewN nq=w3 at *
            clear Hw1 e1 e2
            go_wp2_with fail
            go_ret
            obtain ⟨q,hq⟩:=Hw2.out
            exact ⟨ret_i64 HV.out,q,hq⟩
          · have c1:decide ((x:Int)<(y:Int))=false:=decide_eq_false (by omega)
            have c2:decide ((x:Int) > (y:Int))=true:=decide_eq_true (by omega)
            have HV:=Lib.hid (cmpV_gt (HFk.out.2.1 hxy)).symm
            clear HFk
            go_wp2_with fail
            go_quiet (fail)
            have Hw1:=Lib.hid (Hw.out.more nq)
            generalize wr.drewN nq=w2 at *
            clear Hw
            have e1:=Hw1.out.cell (HX.out k hk).1
            have e2:=Hw1.out.cell (HY.out k hk).1
            rw [Nat.zero_add,Hx.out] at e1
            rw [Nat.zero_add,Hy.out] at e2
            go_wp2_with fail
            go_quiet (fail)
            have Hw2:=Lib.hid (Hw1.out.more nq)
            generalize w2.drewN nq=w3 at *
            clear Hw1 e1 e2
            have e1:=Hw2.out.cell (HX.out k hk).1
            have e2:=Hw2.out.cell (HY.out k hk).1
            rw [Nat.zero_add,Hx.out] at e1
            rw [Nat.zero_add,Hy.out] at e2
            go_wp2_with fail
            go_quiet (fail)
            have Hw3:=Lib.hid (Hw2.out.more nq)
            generalize w3.drewN nq=w4 at *
            go_wp2_with fail
            go_ret
            obtain ⟨q,hq⟩:=Hw3.out
            exact ⟨ret_i64 HV.out,q,hq⟩
  · have hv:=hY.less_len hX hgt
    rw [cmpV_gt hv]
    have hb:((n:Int) != (m:Int))=true:=by simp;omega
    have hd:decide ((n:Int)<(m:Int))=false:=decide_eq_false (by omega)
    have hd':decide ((n:Int) > (m:Int))=true:=decide_eq_true (by omega)
    clear hX hY hv
    go_enter Tryz.func110,Tryz.ntmps110
    go_wp2_with fail
    go_ret
    exact ⟨rfl,0,rfl⟩
end
section
open Go Go.RowKit
theorem Arr.row {w:World} {b c:Nat} {f:Nat→Nat} (h:Arr w (some ⟨b,0,none⟩) c f):∃ C t,w.heap[b]? = some (.cells C t (0,0)):=by
  rcases h with ⟨h,_⟩ | ⟨b',C,t,e,hb,hs,hc⟩
  · cases h
  obtain rfl:b=b':=by simpa using e
  exact ⟨C,t,hb⟩
theorem row_mod {w w':World} {b:Nat} {M:Places} (h:∃ C t,w.heap[b]? = some (.cells C t (0,0))) (m:Mod M w w'):∃ C t,w'.heap[b]? = some (.cells C t (0,0)):=by
  obtain ⟨C,t,hb⟩:=h
  obtain ⟨C',hb',_⟩:=m.cells hb
  exact ⟨C',t,hb'⟩
theorem copy0_run (w:World) (ty t1 t2:TypeId) (h1:Tryz.prog.underlying t1=some (.slice 121)) (a b:Option Addr) (c d:Nat) :
    (Builtin.copy_ #[t1,t2] ty #[.slice a 0 c,.slice b 0 d]).run Tryz.prog w=.ok (.int .i64 0) w:=by
  obtain ⟨i0,hi,hz0,hz1,hz2⟩:=info121'
  cases a <;> cases b <;> simp [Builtin.copy_,run_underlying h1,sizeOf,typeInfo,hi,hz1,go_sem,loadCells,storeCells,goInt]
  all_goals (first | rfl | skip)
def lay (f:Nat→Nat) (o n:Nat) (g:Nat→Nat) (j:Nat):Nat:=if o≤j∧j<o+n then g (j - o) else f j
theorem Arr.wroteAt {w w':World} {b c o n:Nat} {f g:Nat→Nat} (h:Arr w (some ⟨b,0,none⟩) c f) (hg:Vec w' b o n g) (hm:Mod (InR b o n) w w'):Arr w' (some ⟨b,0,none⟩) c (lay f o n g):=by
  refine h.turned hm fun j hj => ?_
  have hv:=h.vec j hj
  rw [Nat.zero_add] at hv ⊢
  unfold lay
  by_cases e:o≤j∧j<o+n
  · rw [if_pos e]
    have:=hg (j - o) (by omega)
    rwa [show o+(j - o)=j by omega] at this
  · rw [if_neg e]
    exact ⟨hm.cell_some hv.1 (fun ⟨_,h2,h3⟩=>e ⟨h2,h3⟩),hm.free hv.1 hv.2.1,hv.2.2⟩
theorem val_lay_lo (f:Nat→Nat) (o n:Nat) (g:Nat→Nat) {m:Nat} (h:m≤o):val (lay f o n g) m=val f m:=val_congr fun j hj=>by unfold lay;rw [if_neg (by omega)]
theorem val_lay (f:Nat→Nat) (o n:Nat) (g:Nat→Nat):val (lay f o n g) (o+n)=val f o+B64^o*val g n:=by
  rw [val_add,val_lay_lo _ _ _ _ (Nat.le_refl _)]
  congr 2
  exact val_congr fun j hj=>by unfold lay;rw [if_pos (by omega),Nat.add_sub_cancel_left]
theorem slice_to (b o n c k:Nat) (hk:k≤c) (w:World):(Instr.slice 49 (.slice (some ⟨b,o,none⟩) n c) none (some (.int .i64 (k:Int))) none).run Tryz.prog w=.ok (.slice (some ⟨b,o,none⟩) k c) w:=by
  have h2:(k:Int)≤(c:Int):=by omega
  simp [go_sem,hk]
theorem NatIs.top_of {f g:Nat→Nat} {n:Nat} (h:n=0∨f (n - 1)≠0) (hg:∀ j,j<n→g j=f j):n=0∨g (n - 1)≠0:=by
  rcases h with h | h
  · exact .inl h
  · by_cases e:n=0
    · exact .inl e
    · rw [hg (n - 1) (by omega)];exact .inr h
set_option maxRecDepth 100000 in
set_option maxHeartbeats 1000000 in
theorem natSet_any (az ax:Option Addr) (nz cz nx cx vx:Nat) (w:World) (fz fx:Nat→Nat) (hZ:Arr w az cz fz) (hnz:nz≤cz) (hX:NatIs w ax nx cx fx vx) (hs:nx≤1000000) :
    Calls Tryz.prog 68 #[.slice az nz cz,.slice ax nx cx] w (NatRet w az vx):=by
  have hmk:=make_any az nz cz nx w fz hZ hnz (by omega)
  have HM:=Lib.hid hmk
  have HX:=Lib.hid hX
  have hax:nx=0∨∃ b,ax=some ⟨b,0,none⟩:=by
    by_cases h:nx=0
    · exact .inl h
    · exact .inr (hX.arr.form (by have:=hX.le;omega))
  clear hmk hX hZ
  rcases hax with rfl | ⟨bx,rfl⟩
  · have hc0:=fun w a b c d=>copy0_run w 3 49 49 Tryz.underlying49 a b c d
    have hv:vx=0:=HX.out.zero_iff.1 rfl
    subst hv
    go_enter Tryz.func68,Tryz.ntmps68
    go_wp2_with fail
    refine HM.out.mono ?_
    rintro e w1 ⟨a',c',f',rfl,hA',hm,hmod,hfr⟩
    have HA:=Lib.hid hA'
    clear hA'
    go_wp2_with (refine wpList_copy rfl (.tmp 9) (.tmp 10) 49 49 rfl _ _ rfl rfl (hc0 _ _ _ _ _) ?_;go_simp)
    go_ret
    exact .mk (.zero HA.out) hmod.of_none hfr
  · by_cases h0:nx=0
    · subst h0
      have hc0:=fun w a b c d=>copy0_run w 3 49 49 Tryz.underlying49 a b c d
      have hv:vx=0:=HX.out.zero_iff.1 rfl
      subst hv
      go_enter Tryz.func68,Tryz.ntmps68
      go_wp2_with fail
      refine HM.out.mono ?_
      rintro e w1 ⟨a',c',f',rfl,hA',hm,hmod,hfr⟩
      have HA:=Lib.hid hA'
      clear hA'
      go_wp2_with (refine wpList_copy rfl (.tmp 9) (.tmp 10) 49 49 rfl _ _ rfl rfl (hc0 _ _ _ _ _) ?_;go_simp)
      go_ret
      exact .mk (.zero HA.out) hmod.of_none hfr
    · go_enter Tryz.func68,Tryz.ntmps68
      go_wp2_with fail
      refine HM.out.mono ?_
      rintro e w1 ⟨a',c',f',rfl,hA',hm,hmod,hfr⟩
      obtain ⟨b,rfl⟩:=hA'.form (by omega)
      have hX1:=HX.out.mod hmod (Off.noP _)
      obtain ⟨w2,hcp,hV,m2⟩:=copyV_run w1 49 3 Tryz.underlying49 49 b 0 nx c' c' f' hA' (by omega) bx 0 cx fx (hX1.arr.vec.take hX1.le)
      have HA2:=Lib.hid (hA'.wrote hV m2)
      have HM2:=Lib.hid (mod_wrote hmod hfr m2)
      have HX1:=Lib.hid hX1
      clear hA' hV hX1 m2
      go_wp2_with (refine wpList_copy rfl (.tmp 9) (.tmp 10) 49 49 rfl _ _ rfl rfl hcp ?_;go_simp)
      go_ret
      refine .mk ⟨HA2.out,hm,by rw [val_splice _ _ (Nat.le_refl _)];exact HX1.out.val,NatIs.top_of HX1.out.top fun j hj=>splice_lt _ _ hj⟩ HM2.out hfr
set_option maxRecDepth 100000 in
set_option maxHeartbeats 2000000 in
theorem natSub_any (az ax ay:Option Addr) (nz cz nx cx ny cy vx vy:Nat) (w:World) (fz fx fy:Nat→Nat) (hZ:Arr w az cz fz) (hnz:nz≤cz) (hX:NatIs w ax nx cx fx vx) (hY:NatIs w ay ny cy fy vy) (hsx:nx≤1000000) (hle:vy≤vx) :
    Calls Tryz.prog 111 #[.slice az nz cz,.slice ax nx cx,.slice ay ny cy] w (NatRet w az (vx - vy)):=by
  have hnn:ny≤nx:=by
    rcases Nat.lt_or_ge nx ny with h | h
    · have:=hX.less_len hY h;omega
    · exact h
  have d0:decide ((nx:Int)<(ny:Int))=false:=decide_eq_false (by omega)
  by_cases hx0:nx=0
  · subst hx0
    obtain rfl:ny=0:=by omega
    have e1:vx=0:=hX.zero_iff.1 rfl
    have e2:vy=0:=hY.zero_iff.1 rfl
    subst e1 e2
    have hs:=slice_zero az nz cz hZ hnz
    have HN:=Lib.hid (NatIs.zero hZ)
    clear hZ hX hY
    go_enter Tryz.func111,Tryz.ntmps111
    go_wp2_with fail
    go_ret
    exact .mk HN.out (.refl _ _) (.inl rfl)
  have hb0:((nx:Int) == 0)=false:=by simp;omega
  by_cases hy0:ny=0
  · subst hy0
    have e2:vy=0:=hY.zero_iff.1 rfl
    subst e2
    have hset:=natSet_any az ax nz cz nx cx vx w fz fx hZ hnz hX hsx
    have HS:=Lib.hid hset
    clear hset hZ hX hY
    go_enter Tryz.func111,Tryz.ntmps111
    go_wp2_with fail
    refine HS.out.mono ?_
    rintro e w1 ⟨a,n,c,f,rfl,h1,h2,h3⟩
    have H1:=Lib.hid h1
    clear h1
    go_wp2_with fail
    go_ret
    exact .mk H1.out h2 h3
  have hb1:((ny:Int) == 0)=false:=by simp;omega
  obtain ⟨bx,rfl⟩:=hX.arr.form (by have:=hX.le;omega)
  obtain ⟨by_,rfl⟩:=hY.arr.form (by have:=hY.le;omega)
  have HM:=Lib.hid (make_any az nz cz nx w fz hZ hnz (by omega))
  have HX:=Lib.hid hX
  have HY:=Lib.hid hY
  have hxc:=hX.le
  have hyc:=hY.le
  clear hX hY hZ
  go_enter Tryz.func111,Tryz.ntmps111
  go_wp2_with fail
  refine HM.out.mono ?_
  rintro e w1 ⟨a',c',f',rfl,hA',hm,hmod,hfr⟩
  obtain ⟨b,rfl⟩:=hA'.form (by omega)
  have HX1:=Lib.hid (HX.out.mod hmod (Off.noP _))
  have HY1:=Lib.hid (HY.out.mod hmod (Off.noP _))
  have HA:=Lib.hid hA'
  clear hA'
  have hsv:=fun w2 (m:Mod NoP w1 w2)=>subVV_any b 0 c' bx 0 cx by_ 0 cy ny fx fy f' w2 ((HX1.out.arr.vec.take (by omega)).mod m fun _ _ h=>h) ((HY1.out.arr.vec.take (by omega)).mod m fun _ _ h=>h) ((HA.out.vec.take (by omega)).mod m fun _ _ h=>h) (by omega) (fun _=>.inl (Nat.le_refl _)) (fun _=>.inl (Nat.le_refl _))
  have HSV:=Lib.hid hsv
  clear hsv
  have hs1:=slice_to b 0 nx c' ny (by omega)
  have hs2:=slice_to bx 0 nx cx ny (by omega)
  have hs3:=slice_to by_ 0 ny cy ny (by omega)
  go_wp2_with fail
  go_still_tail 9,(by kernel_rfl)
  simp only [World.drew_eq]
  go_wp2_with fail
  refine (HSV.out _ (Mod.refl NoP w1).drew).mono ?_
  rintro e w2 ⟨rfl,hV2,m2⟩
  have hA2:=(Arr.drewN HA.out 1).wroteAt (w:=w1.drew) hV2 m2
  have m12:Mod (InR b 0 ny) w1 w2:=(Mod.refl _ w1).drew.trans m2
  have HXV:=Lib.hid (HX1.out.arr.vec.take (show nx≤cx by omega))
  have HXw:=Lib.hid (show ∀ j,j<nx→fx j<B64 from fun j hj=>HX1.out.arr.words j (by omega))
  have HYw:=Lib.hid (show ∀ j,j<ny→fy j<B64 from fun j hj=>HY1.out.arr.words j (by omega))
  have HB:=Lib.hid (row_mod HX1.out.arr.row m12)
  have HA2:=Lib.hid hA2
  have HM12:=Lib.hid m12
  have hsub:=sub_val fx fy ny (fun j hj=>HXw.out j (by omega)) HYw.out
  have hc1:=subC_le fx fy ny
  have HVX:=Lib.hid HX1.out.val
  have HVY:=Lib.hid HY1.out.val
  clear hV2 m2 hA2 m12 HSV HX HY HM hs1 hs2 hs3
  by_cases hgt:ny<nx
  · have hd:decide ((nx:Int) > (ny:Int))=true:=decide_eq_true (by omega)
    obtain ⟨o1,hs1,hk1,hl1⟩:=slice_from 49 b 0 nx c' ny (by omega) (by omega) (.inr rfl) (ny:Int) rfl
    obtain ⟨o2,hs2,hk2,hl2⟩:=slice_from 49 bx 0 nx cx ny (by omega) (by omega) (.inr rfl) (ny:Int) rfl
    obtain rfl:o1=ny:=by rw [hk1 (by omega)];omega
    obtain rfl:o2=o1:=by rw [hk2 (by omega)];omega
    clear hk1 hk2 hl1 hl2
    have hXh:Vec w2 bx o2 (nx - o2) (fun j=>fx (o2+j)):=fun j hj=>by
      have h:=HXV.out (o2+j) (by omega)
      rw [Nat.zero_add] at h
      exact ⟨HM12.out.cell_some h.1 (fun hh=>by have:=hh.2.2;omega),HM12.out.free h.1 h.2.1,h.2.2⟩
    have hcB:subC fx fy o2<B64:=Nat.lt_of_le_of_lt hc1 (by decide)
    have hsw:=fun w3 (m:Mod NoP w2 w3)=>subVW_any b o2 (c' - o2) bx o2 (cx - o2) (nx - o2) c' _ (fun j=>fx (o2+j)) (subC fx fy o2) w3 (HA2.out.mod m (Off.noP _)) (by omega) (hXh.mod m fun _ _ h=>h) (row_mod HB.out m) hcB (by omega) (by omega) (by omega) (fun _=>rfl)
    have HSW:=Lib.hid hsw
    have hswv:=sw_val (fun j=>fx (o2+j)) (subC fx fy o2) (nx - o2) (fun j hj=>HXw.out _ (by omega)) hcB
    have hvx:vx=val fx o2+B64^o2*val (fun j=>fx (o2+j)) (nx - o2):=by
      rw [← HVX.out,← val_add,show o2+(nx - o2)=nx by omega]
    have hpow:B64^o2*B64^(nx - o2)=B64^nx:=by rw [← Nat.pow_add,show o2+(nx - o2)=nx by omega]
    
    have htot:val (lay (lay f' 0 o2 (subW fx fy)) o2 (nx - o2) (swW (fun j=>fx (o2+j)) (subC fx fy o2))) nx=vx - vy∧swC (fun j=>fx (o2+j)) (subC fx fy o2) (nx - o2)=0:=by
      have hlo:val (lay f' 0 o2 (subW fx fy)) o2=val (subW fx fy) o2:=by
        have:=val_lay f' 0 o2 (subW fx fy)
        rw [Nat.zero_add,Nat.pow_zero,Nat.one_mul] at this
        rw [this];simp [val]
      have ht:=val_lay (lay f' 0 o2 (subW fx fy)) o2 (nx - o2) (swW (fun j=>fx (o2+j)) (subC fx fy o2))
      rw [show o2+(nx - o2)=nx by omega,hlo] at ht
      have hb:=hswv.2 (by omega)
      have h1:=hswv.1
      have hlt:val (subW fx fy) o2<B64^o2:=val_lt fun j hj=>wSub_lt _ _ _
      have hlt2:val (swW (fun j=>fx (o2+j)) (subC fx fy o2)) (nx - o2)<B64^(nx - o2):=val_lt fun j hj=>wSub_lt _ _ _
      rw [HVY.out] at hsub
      generalize val (subW fx fy) o2=lo at *
      generalize val (swW (fun j=>fx (o2+j)) (subC fx fy o2)) (nx - o2)=hi at *
      generalize swC (fun j=>fx (o2+j)) (subC fx fy o2) (nx - o2)=cc at *
      generalize val (fun j=>fx (o2+j)) (nx - o2)=xh at *
      generalize subC fx fy o2=c1 at *
      generalize val fx o2=xl at *
      generalize B64^o2=P at *
      generalize B64^(nx - o2)=Q at *
      generalize B64^nx=R at *
      rw [ht]
      
      have e1:P*hi+P*c1=P*xh+cc*R:=by
        have:=congrArg (P*·) h1
        simp only [Nat.mul_add] at this
        rw [this,← hpow]
        congr 1
        ac_rfl
      have e2:P*c1=c1*P:=Nat.mul_comm _ _
      have hhi:P*(hi+1)≤P*Q:=Nat.mul_le_mul_left _ hlt2
      rw [Nat.mul_add,Nat.mul_one,hpow] at hhi
      have hcc:cc=0:=by
        rcases Nat.eq_zero_or_pos cc with h | h
        · exact h
        · obtain rfl:cc=1:=by omega
          omega
      subst hcc
      exact ⟨by omega,rfl⟩
    have HT:=Lib.hid htot
    clear htot hswv hvx hpow hsub hcB hXh hsw
    generalize subC fx fy o2=c1 at *
    go_wp2_with fail
    go_still_tail 7,(by kernel_rfl)
    simp only [World.drew_eq]
    go_wp2_with fail
    refine (HSW.out _ (Mod.refl NoP w2).drew).mono ?_
    rintro e w3 ⟨rfl,hV3,m3⟩
    have hA3:=(Arr.drewN HA2.out 1).wroteAt (w:=w2.drew) hV3 m3
    have m13:Mod (InB b) w1 w3:=(HM12.out.mono fun _ _ _ h=>h.1).trans' ((Mod.refl _ w2).drew.trans m3) fun _ _ _ h=>h.1
    have HA3:=Lib.hid hA3
    have HM13:=Lib.hid m13
    clear hV3 m3 hA3 m13 HSW
    rw [HT.out.2]
    go_wp2_with fail
    refine (norm_any _ nx c' _ _ HA3.out hm (by omega)).mono ?_
    rintro e w4 hr4
    have hres:NatRet w az (vx - vy) e w4:=by
      refine hr4.ret HT.out.1 ?_ hfr
      refine (hmod.of_none (M:=BlkOf az)).trans' HM13.out fun k o hk h => ?_
      unfold InB at h
      subst h
      exact blk_of hfr hk o
    obtain ⟨a,n,c,f,rfl,h1,h2,h3⟩:=hres
    have H1:=Lib.hid h1
    clear h1
    go_wp2_with fail
    go_ret
    exact .mk H1.out h2 h3
  · obtain rfl:nx=ny:=by omega
    have hd:decide ((nx:Int) > (nx:Int))=false:=decide_eq_false (by omega)
    have htot:val (lay f' 0 nx (subW fx fy)) nx=vx - vy∧subC fx fy nx=0:=by
      have hlo:val (lay f' 0 nx (subW fx fy)) nx=val (subW fx fy) nx:=by
        have:=val_lay f' 0 nx (subW fx fy)
        rw [Nat.zero_add,Nat.pow_zero,Nat.one_mul] at this
        rw [this];simp [val]
      have hlt:val (subW fx fy) nx<B64^nx:=val_lt fun j hj=>wSub_lt _ _ _
      rw [HVY.out,HVX.out] at hsub
      rw [hlo]
      generalize val (subW fx fy) nx=lo at *
      generalize subC fx fy nx=c1 at *
      generalize B64^nx=P at *
      have hcc:c1=0:=by
        rcases Nat.eq_zero_or_pos c1 with h | h
        · exact h
        · obtain rfl:c1=1:=by omega
          omega
      subst hcc
      exact ⟨by omega,rfl⟩
    have HT:=Lib.hid htot
    clear htot hsub
    have m13:Mod (InB b) w1 w2:=HM12.out.mono fun _ _ _ h=>h.1
    have HM13:=Lib.hid m13
    clear m13
    rw [HT.out.2]
    go_wp2_with fail
    refine (norm_any _ nx c' _ _ HA2.out hm (by omega)).mono ?_
    rintro e w4 hr4
    have hres:NatRet w az (vx - vy) e w4:=by
      refine hr4.ret HT.out.1 ?_ hfr
      refine (hmod.of_none (M:=BlkOf az)).trans' HM13.out fun k o hk h => ?_
      unfold InB at h
      subst h
      exact blk_of hfr hk o
    obtain ⟨a,n,c,f,rfl,h1,h2,h3⟩:=hres
    have H1:=Lib.hid h1
    clear h1
    go_wp2_with fail
    go_ret
    exact .mk H1.out h2 h3
end
end Go.Proofs.YtpfmbfkhjapbbaaGreatDoor
