/-
  The specification's functions on numbers, each by the one value that it returns in whatever world. Conditions: numbers below a modulus that is at most half of 2^576; the inverse: modulo an odd prime, of a number that is not 0.
  The specification's right and root over a curve. Condition: numbers below the curve's prime. Lines alike from operation to operation: printed by a program (gen_specrt.py).
-/
import Derived.Test.YtpfmbfkhjapbbaaGreatDoorMg01
import Derived.Test.YtpfmbfkhjapbbaaGreatDoorMg02
import Derived.Test.YtpfmbfkhjapbbaaGreatDoorMg07
import Derived.Test.YtpfmbfkhjapbbaaGreatDoorMg08
import Derived.Test.YtpfmbfkhjapbbaaGreatDoorMg16
import Derived.Test.YtpfmbfkhjapbbaaGreatDoorMSpecJ
set_option linter.unusedVariables false
set_option linter.unusedSimpArgs false
namespace Go.Proofs.YtpfmbfkhjapbbaaGreatDoor
section
open Go Go.RowKit
def VRet (v:Value) (w:World) (e:Ending) (w':World):Prop:=e=.returned v∧Mod NoP w w'
theorem nc_congr {f g:Nat→Nat} (h:∀ j,j<9→f j=g j):nc f=nc g:=by
  have h0:=h 0 (by omega)
  have h1:=h 1 (by omega)
  have h2:=h 2 (by omega)
  have h3:=h 3 (by omega)
  have h4:=h 4 (by omega)
  have h5:=h 5 (by omega)
  have h6:=h 6 (by omega)
  have h7:=h 7 (by omega)
  have h8:=h 8 (by omega)
  simp only [nc,h0,h1,h2,h3,h4,h5,h6,h7,h8]
theorem words_of {f:Nat→Nat} {v:Nat} (hf:∀ j,j<9→f j<B64) (hv:val f 9=v):nv f=nv (words v):=by
  have hlt:v<B64^9:=by rw [← hv];exact val_lt hf
  have h:=words_val 9 hf (fun j _=>words_lt v j) (by rw [hv,val_words,Nat.mod_eq_of_lt hlt])
  show Value.agg (nc f)=Value.agg (nc (words v))
  rw [nc_congr h]
theorem NRet.fix {v:Nat} {w w':World} {e:Ending} (h:NRet v w e w'):VRet (nv (words v)) w e w':=by
  obtain ⟨f,rfl,hf,hv,m⟩:=h
  exact ⟨by rw [words_of hf hv],m⟩
theorem val_w {v:Nat} (h:v<B64^9):val (words v) 9=v:=by rw [val_words,Nat.mod_eq_of_lt h]
structure Fits (p:Nat):Prop where
  one:1<p
  half:2*p≤B64^9
theorem Fits.lt {p:Nat} (h:Fits p):p<B64^9:=by have:=h.half;have:=h.one;omega
theorem mulV {p a b:Nat} (F:Fits p) (ha:a<p) (hb:b<B64^9) (w:World):Calls Tryz.prog 44 #[nv (words a),nv (words b),nv (words p)] w (VRet (nv (words (mm p a b))) w):=by
  have h:=mul9_any (words a) (words b) (words p) (fun j _=>words_lt a j) (fun j _=>words_lt b j) (fun j _=>words_lt p j) (by rw [val_w F.lt,val_w (Nat.lt_trans ha F.lt)];exact ha) (by rw [val_w F.lt];exact F.half) w
  rw [val_w F.lt,val_w (Nat.lt_trans ha F.lt),val_w hb] at h
  exact h.mono fun e w' h=>h.fix
theorem addV {p a b:Nat} (F:Fits p) (ha:a<p) (hb:b<p) (w:World):Calls Tryz.prog 43 #[nv (words a),nv (words b),nv (words p)] w (VRet (nv (words (ma p a b))) w):=by
  have ha9:=Nat.lt_trans ha F.lt
  have hb9:=Nat.lt_trans hb F.lt
  have h:=add9_any (words a) (words b) (words p) (fun j _=>words_lt a j) (fun j _=>words_lt b j) (fun j _=>words_lt p j) (by rw [val_w F.lt,val_w ha9];exact ha) (by rw [val_w F.lt,val_w hb9];exact hb) (by rw [val_w F.lt];exact F.half) w
  rw [val_w F.lt,val_w ha9,val_w hb9] at h
  exact h.mono fun e w' h=>h.fix
theorem subV {p a b:Nat} (F:Fits p) (ha:a<p) (hb:b<p) (w:World):Calls Tryz.prog 34 #[nv (words a),nv (words b),nv (words p)] w (VRet (nv (words (ms p a b))) w):=by
  have ha9:=Nat.lt_trans ha F.lt
  have hb9:=Nat.lt_trans hb F.lt
  have h:=sub9_any (words a) (words b) (words p) (fun j _=>words_lt a j) (fun j _=>words_lt b j) (fun j _=>words_lt p j) (by rw [val_w F.lt,val_w ha9];exact ha) (by rw [val_w F.lt,val_w hb9];exact hb) (by rw [val_w F.lt];exact F.half) w
  rw [val_w F.lt,val_w ha9,val_w hb9] at h
  exact h.mono fun e w' h=>h.fix
theorem powV {p a b:Nat} (F:Fits p) (ha:a<p) (hb:b<B64^9) (w:World):Calls Tryz.prog 82 #[nv (words a),nv (words b),nv (words p)] w (VRet (nv (words (a^b%p))) w):=by
  have ha9:=Nat.lt_trans ha F.lt
  have h:=power_any (words a) (words b) (words p) (fun j _=>words_lt a j) (fun j _=>words_lt b j) (fun j _=>words_lt p j) (by rw [val_w F.lt,val_w ha9];exact ha) (by rw [val_w F.lt];exact F.one) (by rw [val_w F.lt];exact F.half) w
  rw [val_w F.lt,val_w ha9,val_w hb] at h
  exact h.mono fun e w' h=>h.fix
theorem halfV {a:Nat} (ha:a<B64^9) (w:World):Calls Tryz.prog 63 #[nv (words a)] w (VRet (nv (words (a/2))) w):=by
  have h:=half_any (words a) (fun j _=>words_lt a j) w
  rw [val_w ha] at h
  exact h.mono fun e w' h=>h.fix
theorem sumV {a b:Nat} (h:a+b<B64^9) (w:World):Calls Tryz.prog 53 #[nv (words a),nv (words b)] w (VRet (nv (words (a+b))) w):=by
  have hv:val (addW (words a) (words b)) 9=a+b:=by
    rw [sum_val9 (fun j _=>words_lt a j) (fun j _=>words_lt b j) (by rw [val_w (by omega),val_w (by omega)];exact h),val_w (by omega),val_w (by omega)]
  refine (sum_any (words a) (words b) (fun j _=>words_lt a j) (fun j _=>words_lt b j) w).mono ?_
  rintro e w' ⟨rfl,m⟩
  exact ⟨by rw [words_of (f:=addW (words a) (words b)) (fun j _=>wAdd_lt _ _ _) hv],m⟩
theorem small_words {n:Nat} (h:n<B64):∀ j,j<9→(if j=0 then n else 0)=words n j:=fun j hj=>by
  by_cases h0:j=0
  · subst h0
    rw [if_pos rfl]
    unfold words
    rw [Nat.pow_zero,Nat.div_one,Nat.mod_eq_of_lt h]
  · rw [if_neg h0]
    unfold words
    have:n/B64^j=0:=Nat.div_eq_of_lt (Nat.lt_of_lt_of_le h (by have:=Nat.pow_le_pow_right B64_pos (show 1≤j by omega);rwa [Nat.pow_one] at this))
    rw [this,Nat.zero_mod]
theorem smallV {n:Nat} (h:n<B64) (w:World):Calls Tryz.prog 51 #[U n] w (VRet (nv (words n)) w):=by
  refine (small_any n w).mono ?_
  rintro e w' ⟨rfl,m⟩
  refine ⟨?_,m⟩
  show Ending.returned (Value.agg (nc _))=Ending.returned (Value.agg (nc _))
  rw [nc_congr (small_words h)]
noncomputable def invN (p a:Nat):Nat:=if h:∃ x,x<p∧mm p a x=1 then Classical.choose h else 0
theorem invN_spec {p a x:Nat} (hx:x<p) (h:mm p a x=1):invN p a<p∧mm p a (invN p a)=1:=by
  have hex:∃ x,x<p∧mm p a x=1:=⟨x,hx,h⟩
  unfold invN
  rw [dif_pos hex]
  exact Classical.choose_spec hex
theorem invN_eq {p a x:Nat} (hp:Pr p) (hx:x<p) (h:mm p a x=1):x=invN p a:=by
  haveI:NeZero p:=⟨by omega⟩
  obtain ⟨h1,h2⟩:=invN_spec hx h
  have e1:cc p a*cc p x=1:=by rw [← cc_mm,h,cc_one]
  have e2:cc p a*cc p (invN p a)=1:=by rw [← cc_mm,h2,cc_one]
  exact cc_inj hx h1 (inv_unique e1 e2)
theorem invV {p a:Nat} (F:Fits p) (hp:Pr p) (hodd:p%2=1) (ha:a<p) (h0:a≠0) (w:World):Calls Tryz.prog 45 #[nv (words a),nv (words p)] w fun e w'=>VRet (nv (words (invN p a))) w e w'∧invN p a<p∧mm p a (invN p a)=1:=by
  have ha9:=Nat.lt_trans ha F.lt
  have h:=inverse_pos (words a) (words p) (fun j _=>words_lt a j) (fun j _=>words_lt p j) (by rw [val_w ha9];exact h0) (by rw [val_w F.lt,val_w ha9];exact ha) (by rw [val_w F.lt];exact hp) (by rw [val_w F.lt];exact hodd) (by rw [val_w F.lt];exact F.half) w
  rw [val_w F.lt,val_w ha9] at h
  refine h.mono ?_
  rintro e w' ⟨f,rfl,hf,hlt,hi,m⟩
  have e1:=invN_eq hp hlt (hi h0)
  exact ⟨⟨by rw [words_of hf e1],m⟩,e1 ▸ hlt,e1 ▸ hi h0⟩
end
section
open Go Go.RowKit
def CvAt (w:World) (b k:Nat):Prop:=w.heap[b]? = some (.cells (cvK k).toArray 65 (0,0))
theorem CvAt.mod {w w':World} {b k:Nat} {M:Places} (h:CvAt w b k) (m:Mod M w w') (hb:∀ o,¬ M b o):CvAt w' b k:=by
  unfold CvAt at *
  rw [m.heap (lt_of_heap h) hb,h]
theorem CvAt.p {w:World} {b k:Nat} (h:CvAt w b k):w.rangeAt b 0 (ncl (words (pK k))):=fun j v hv=>by
  rw [cell?_of_heap h]
  have hj:j<9:=by have:=(List.getElem?_eq_some_iff.1 hv).1;simpa using this
  obtain rfl | rfl | rfl | rfl | rfl | rfl | rfl | rfl | rfl:j=0∨j=1∨j=2∨j=3∨j=4∨j=5∨j=6∨j=7∨j=8:=by omega
  all_goals exact hv
theorem CvAt.b {w:World} {b k:Nat} (h:CvAt w b k):w.rangeAt b 9 (ncl (words (bK k))):=fun j v hv=>by
  rw [cell?_of_heap h]
  have hj:j<9:=by have:=(List.getElem?_eq_some_iff.1 hv).1;simpa using this
  obtain rfl | rfl | rfl | rfl | rfl | rfl | rfl | rfl | rfl:j=0∨j=1∨j=2∨j=3∨j=4∨j=5∨j=6∨j=7∨j=8:=by omega
  all_goals exact hv
theorem CvAt.all {w:World} {b k:Nat} (h:CvAt w b k):w.rangeAt b 0 (cvK k):=range_of_heap h
theorem CvAt.mz {w:World} {b k:Nat} (h:CvAt w b k):w.cell? ⟨b,46,none⟩=some (U (mzK k)):=by rw [cell?_of_heap h];rfl
theorem pK_fits (k:Nat) (hk:k≤2):Fits (pK k):=by
  obtain rfl | rfl | rfl:k=0∨k=1∨k=2:=by omega
  all_goals exact ⟨by decide +kernel,by decide +kernel⟩
theorem bK_lt (k:Nat) (hk:k≤2):bK k<pK k:=by
  obtain rfl | rfl | rfl:k=0∨k=1∨k=2:=by omega
  all_goals decide +kernel
theorem mm_lt' {p a b:Nat} (h:0<p):mm p a b<p:=Nat.mod_lt _ h
theorem ms_lt' {p a b:Nat} (h:0<p):ms p a b<p:=Nat.mod_lt _ h
theorem ma_lt' {p a b:Nat} (h:0<p):ma p a b<p:=Nat.mod_lt _ h
theorem mRight_lt {p B x:Nat} (h:0<p):mRight p B x<p:=Nat.mod_lt _ h
theorem mRoot_lt {p a:Nat} (h:0<p):mRoot p a<p:=Nat.mod_lt _ h
theorem nine_stored {wa w' w2:World} {b:Nat} {f g:Nat→Nat} (hz:NIs wa b f) (m1:Mod NoP wa w') (m3:Mod NoP (w'.setCells b 0 (nc g).toList) w2):NIs w2 b g∧Mod (InB b) wa w2:=by
  have e:w'.setCells b 0 (nc g).toList=setNine w' b g:=rfl
  rw [e] at m3
  exact ⟨(setNine_is (hz.mod m1 fun _ h=>h) g).mod m3 fun _ h=>h,(m1.of_none.trans (setNine_own w' b g)).trans m3.of_none⟩
theorem Mod.fresh {w0 wa w2:World} {b:Nat} (m:Mod NoP w0 wa) (h:Mod (InB b) wa w2) (hb:w0.heap.size≤b):Mod NoP w0 w2:=m.trans' h fun k o hk hh=>by unfold InB at hh;omega
theorem nc_one (f:Nat→Nat):(nc f).all (·.oneCell')=true:=by kernel_rfl
theorem size63n (f:Nat→Nat):(Tryz.prog.info? 63).map (·.size)=some (nc f).size:=size63
theorem NIs.there9 {w:World} {b:Nat} {f:Nat→Nat} (h:NIs w b f) (g:Nat→Nat):w.there b 0 (nc g).size:=h.there
theorem nine_into {w0 w':World} {b:Nat} (g:Nat→Nat) (h:Mod (InB b) w0 w'):Mod (InB b) w0 (w'.setCells b 0 (nc g).toList):=by
  have e:w'.setCells b 0 (nc g).toList=setNine w' b g:=rfl
  rw [e]
  exact h.trans' (setNine_own w' b g) fun _ _ _ h=>h
theorem result60 (tmps:Array Value) (w:World) (b:Nat) (hs:tmps.getD 4 undef=.pointer (some ⟨b,0,none⟩)) (f:Nat→Nat) (hr:w.rangeAt b 0 (ncl f)):(results Tryz.f60 tmps).run Tryz.prog w=.ok (nv f) w:=by
  simp only [results,Tryz.results60]
  simp only [Array.getD_eq_getD_getElem?] at hs
  simp [Sem.run_bind,hs,asAddr,run_loadVar_mid w b 0 63 (ncl f) _ hr Tryz.underlying63 rfl size63]
set_option maxRecDepth 100000 in
set_option maxHeartbeats 4000000 in
theorem right_any (k:Nat) (hk:k≤2) (x:Nat) (hx:x<pK k) (w:World):Calls Tryz.prog 60 #[.agg (cvK k).toArray,nv (words x)] w (VRet (nv (words (mRight (pK k) (bK k) x))) w):=by
  have F:=pK_fits k hk
  have hp0:0<pK k:=by have:=F.one;omega
  have hb:=bK_lt k hk
  have hp3:3<pK k:=by
    obtain rfl | rfl | rfl:k=0∨k=1∨k=2:=by omega
    all_goals decide +kernel
  have HF:=Lib.hid F
  have HCV:Hid (∀ (w:World) (b:Nat),w.heap[b]? = some (.cells (cvK k).toArray 65 (0,0))→CvAt w b k):=Lib.hid fun w b h=>h
  obtain ⟨p,hpe⟩:∃ p,p=pK k:=⟨_,rfl⟩
  obtain ⟨B,hBe⟩:∃ B,B=bK k:=⟨_,rfl⟩
  have HPR:Hid (∀ (w:World) (b:Nat),CvAt w b k→w.rangeAt b 0 (ncl (words p))∧w.rangeAt b 9 (ncl (words B))):=Lib.hid fun w b h=>by subst hpe hBe;exact ⟨h.p,h.b⟩
  rw [← hpe] at hx hb hp0 hp3 HF
  rw [← hBe] at hb
  rw [← hpe,← hBe]
  clear F hk hpe hBe
  obtain ⟨R,hR⟩:∃ R,R=mRight p B x:=⟨_,rfl⟩
  rw [← hR]
  have HRR:Hid (R=ma p (ms p (mm p (mm p x x) x) (mm p 3 x)) B):=Lib.hid hR
  clear hR
  have x9:=Nat.lt_trans hx HF.out.lt
  obtain ⟨a,ha⟩:∃ a,a=mm p x x:=⟨_,rfl⟩
  obtain ⟨c,hc⟩:∃ c,c=mm p a x:=⟨_,rfl⟩
  obtain ⟨d,hd⟩:∃ d,d=mm p 3 x:=⟨_,rfl⟩
  obtain ⟨f,hf⟩:∃ f,f=ms p c d:=⟨_,rfl⟩
  have ha1:a<p:=by rw [ha];exact mm_lt' hp0
  have hc1:c<p:=by rw [hc];exact mm_lt' hp0
  have hd1:d<p:=by rw [hd];exact mm_lt' hp0
  have hf1:f<p:=by rw [hf];exact ms_lt' hp0
  rw [← ha,← hc,← hd,← hf] at HRR
  have M1:Hid (∀ w,Calls Tryz.prog 44 #[nv (words x),nv (words x),nv (words p)] w (VRet (nv (words a)) w)):=Lib.hid fun w=>by rw [ha];exact mulV HF.out hx x9 w
  have M2:Hid (∀ w,Calls Tryz.prog 44 #[nv (words a),nv (words x),nv (words p)] w (VRet (nv (words c)) w)):=Lib.hid fun w=>by rw [hc];exact mulV HF.out ha1 x9 w
  have M3:Hid (∀ w,Calls Tryz.prog 44 #[nv (words 3),nv (words x),nv (words p)] w (VRet (nv (words d)) w)):=Lib.hid fun w=>by rw [hd];exact mulV HF.out hp3 x9 w
  have M4:Hid (∀ w,Calls Tryz.prog 34 #[nv (words c),nv (words d),nv (words p)] w (VRet (nv (words f)) w)):=Lib.hid fun w=>by rw [hf];exact subV HF.out hc1 hd1 w
  have M5:Hid (∀ w,Calls Tryz.prog 43 #[nv (words f),nv (words B),nv (words p)] w (VRet (nv (words R)) w)):=Lib.hid fun w=>by rw [HRR.out];exact addV HF.out hf1 hb w
  have MS:Hid (∀ w,Calls Tryz.prog 51 #[.int .u64 3] w (VRet (nv (words 3)) w)):=Lib.hid fun w=>smallV (n:=3) (by decide) w
  clear ha hc hd hf HRR HF hx hb hp0 hp3 x9 ha1 hc1 hd1 hf1
  generalize hcv:(cvK k).toArray=cv at *
  clear hcv
  go_enter Tryz.func60,Tryz.ntmps60
  go_upto_region 1 with fail
  obtain ⟨k1,k2,k3,mm0⟩:=three_new w (.cells cv 65 (0,0)) (.cells (nc (words x)) 63 (0,0)) zN
  generalize hw4:((w.alloc (.cells cv 65 (0,0))).alloc (.cells (nc (words x)) 63 (0,0))).alloc zN=w4 at *
  clear hw4
  have C1:=Lib.hid (HCV.out _ _ k1)
  have X1:Hid (NIs w4 (w.heap.size+1) (words x)):=Lib.hid k2
  have Z1:Hid (NIs w4 (w.heap.size+1+1) (fun _=>0)):=Lib.hid k3
  have MM:=Lib.hid mm0
  clear k1 k2 k3 mm0 HCV
  generalize hb0:w.heap.size=b0 at *
  generalize hb1:b0+1=b1 at *
  generalize hb2:b1+1=b2 at *
  refine wp_region_T 10 NoP (by kernel_rfl) (by kernel_rfl) ?_
  refine wpAnyT_take (i:=0) (v:=nv (words (x))) 6 (by kernel_rfl) rfl rfl rfl (by kernel_rfl) (by kernel_rfl) (by kernel_rfl) (fun _ _ _ h=>h) (YT.row (by rfl) 63 (.tmp 3) rfl b1 0 rfl (fun _ h=>h) (ncl (words (x))) _ (X1.out.range) Tryz.underlying63 rfl size63) ?_
  simp only [Act.put,List.setIfInBounds_toArray,List.set_cons_zero,List.set_cons_succ]
  refine wpAnyT_take (i:=1) (v:=nv (words (x))) 7 (by kernel_rfl) rfl rfl rfl (by kernel_rfl) (by kernel_rfl) (by kernel_rfl) (fun _ _ _ h=>h) (YT.row (by rfl) 63 (.tmp 3) rfl b1 0 rfl (fun _ h=>h) (ncl (words (x))) _ (X1.out.range) Tryz.underlying63 rfl size63) ?_
  simp only [Act.put,List.setIfInBounds_toArray,List.set_cons_zero,List.set_cons_succ]
  refine wpAnyT_take (i:=2) (v:=.pointer (some ⟨b0,0,none⟩)) 8 (by kernel_rfl) rfl rfl rfl (by kernel_rfl) (by kernel_rfl) (by kernel_rfl) (fun _ _ _ h=>h) (YT.pure (by rfl) (fun w=>by go_simp)) ?_
  simp only [Act.put,List.setIfInBounds_toArray,List.set_cons_zero,List.set_cons_succ]
  refine wpAnyT_take (i:=3) (v:=nv (words (p))) 9 (by kernel_rfl) rfl rfl rfl (by kernel_rfl) (by kernel_rfl) (by kernel_rfl) (fun _ _ _ h=>h) (YT.row (by rfl) 63 (.tmp 8) rfl b0 0 rfl (fun _ h=>h) (ncl (words (p))) _ ((HPR.out _ _ C1.out).1) Tryz.underlying63 rfl size63) ?_
  simp only [Act.put,List.setIfInBounds_toArray,List.set_cons_zero,List.set_cons_succ]
  refine wpAnyT_take (i:=4) (v:=nv (words (a))) 10 (by kernel_rfl) rfl rfl rfl (by kernel_rfl) (by kernel_rfl) (by kernel_rfl) (fun _ _ _ h=>h) (YT.call (by rfl) 44 #[nv (words (x)),nv (words (x)),nv (words (p))] (fun w=>by go_simp) (fun w m=>M1.out w)) ?_
  simp only [Act.put,List.setIfInBounds_toArray,List.set_cons_zero,List.set_cons_succ]
  refine wpAnyT_take (i:=5) (v:=nv (words (x))) 11 (by kernel_rfl) rfl rfl rfl (by kernel_rfl) (by kernel_rfl) (by kernel_rfl) (fun _ _ _ h=>h) (YT.row (by rfl) 63 (.tmp 3) rfl b1 0 rfl (fun _ h=>h) (ncl (words (x))) _ (X1.out.range) Tryz.underlying63 rfl size63) ?_
  simp only [Act.put,List.setIfInBounds_toArray,List.set_cons_zero,List.set_cons_succ]
  refine wpAnyT_take (i:=6) (v:=.pointer (some ⟨b0,0,none⟩)) 12 (by kernel_rfl) rfl rfl rfl (by kernel_rfl) (by kernel_rfl) (by kernel_rfl) (fun _ _ _ h=>h) (YT.pure (by rfl) (fun w=>by go_simp)) ?_
  simp only [Act.put,List.setIfInBounds_toArray,List.set_cons_zero,List.set_cons_succ]
  refine wpAnyT_take (i:=7) (v:=nv (words (p))) 13 (by kernel_rfl) rfl rfl rfl (by kernel_rfl) (by kernel_rfl) (by kernel_rfl) (fun _ _ _ h=>h) (YT.row (by rfl) 63 (.tmp 12) rfl b0 0 rfl (fun _ h=>h) (ncl (words (p))) _ ((HPR.out _ _ C1.out).1) Tryz.underlying63 rfl size63) ?_
  simp only [Act.put,List.setIfInBounds_toArray,List.set_cons_zero,List.set_cons_succ]
  refine wpAnyT_take (i:=8) (v:=nv (words (c))) 14 (by kernel_rfl) rfl rfl rfl (by kernel_rfl) (by kernel_rfl) (by kernel_rfl) (fun _ _ _ h=>h) (YT.call (by rfl) 44 #[nv (words (a)),nv (words (x)),nv (words (p))] (fun w=>by go_simp) (fun w m=>M2.out w)) ?_
  simp only [Act.put,List.setIfInBounds_toArray,List.set_cons_zero,List.set_cons_succ]
  refine wpAnyT_alloc (i:=9) 5 (by kernel_rfl) rfl rfl rfl zN (fun w=>by go_simp) ?_
  intro wa1 ma1 mb1
  simp only [Act.put,List.setIfInBounds_toArray,List.set_cons_zero,List.set_cons_succ]
  refine wpAnyT_store (by kernel_rfl) (by kernel_rfl) rfl rfl rfl 63 (.tmp 5) (.tmp 14) rfl wa1.heap.size 0 (nc (words (c))) rfl rfl (NIs.there9 (f:=fun _=>0) (heap_alloc_new wa1 zN) (words (c))) (size63n _) (nc_one _) ?_
  intro ws1 wt1 mc1 md1 me1
  have hst:=nine_stored (wa:=wa1.alloc zN) (f:=fun _=>0) (g:=words c) (heap_alloc_new wa1 zN) mc1 me1
  have ms0:=ma1.size
  have ms1:Mod NoP w4 wt1:=Mod.fresh (ma1.alloc zN) hst.2 ms0
  have V1:=Lib.hid hst.1
  have C2:=Lib.hid (C1.out.mod ms1 fun _ h=>h)
  have X2:=Lib.hid (X1.out.mod ms1 fun _ h=>h)
  have Z2:=Lib.hid (Z1.out.mod ms1 fun _ h=>h)
  have MM2:=Lib.hid (MM.out.trans ms1)
  have hl1:=lt_of_heap X1.out
  have hl2:=lt_of_heap C1.out
  have hl3:=lt_of_heap Z1.out
  have NE:Hid (b0≠wa1.heap.size∧b1≠wa1.heap.size∧b2≠wa1.heap.size∧w.heap.size≤wa1.heap.size):=Lib.hid (by omega)
  clear hst ms0 ms1 ma1 mb1 mc1 md1 me1 hl1 hl2 hl3 C1 X1 Z1 MM
  generalize wa1.heap.size=b5 at *
  go_wp2_with fail
  refine wp_region_T 9 NoP (by kernel_rfl) (by kernel_rfl) ?_
  refine wpAnyT_take (i:=0) (v:=nv (words (c))) 15 (by kernel_rfl) rfl rfl rfl (by kernel_rfl) (by kernel_rfl) (by kernel_rfl) (fun _ _ _ h=>h) (YT.row (by rfl) 63 (.tmp 5) rfl b5 0 rfl (fun _ h=>h) (ncl (words (c))) _ (V1.out.range) Tryz.underlying63 rfl size63) ?_
  simp only [Act.put,List.setIfInBounds_toArray,List.set_cons_zero,List.set_cons_succ]
  refine wpAnyT_take (i:=1) (v:=nv (words 3)) 16 (by kernel_rfl) rfl rfl rfl (by kernel_rfl) (by kernel_rfl) (by kernel_rfl) (fun _ _ _ h=>h) (YT.call (by rfl) 51 #[.int .u64 3] (fun w=>by go_simp) (fun w m=>MS.out w)) ?_
  simp only [Act.put,List.setIfInBounds_toArray,List.set_cons_zero,List.set_cons_succ]
  refine wpAnyT_take (i:=2) (v:=nv (words (x))) 17 (by kernel_rfl) rfl rfl rfl (by kernel_rfl) (by kernel_rfl) (by kernel_rfl) (fun _ _ _ h=>h) (YT.row (by rfl) 63 (.tmp 3) rfl b1 0 rfl (fun _ h=>h) (ncl (words (x))) _ (X2.out.range) Tryz.underlying63 rfl size63) ?_
  simp only [Act.put,List.setIfInBounds_toArray,List.set_cons_zero,List.set_cons_succ]
  refine wpAnyT_take (i:=3) (v:=.pointer (some ⟨b0,0,none⟩)) 18 (by kernel_rfl) rfl rfl rfl (by kernel_rfl) (by kernel_rfl) (by kernel_rfl) (fun _ _ _ h=>h) (YT.pure (by rfl) (fun w=>by go_simp)) ?_
  simp only [Act.put,List.setIfInBounds_toArray,List.set_cons_zero,List.set_cons_succ]
  refine wpAnyT_take (i:=4) (v:=nv (words (p))) 19 (by kernel_rfl) rfl rfl rfl (by kernel_rfl) (by kernel_rfl) (by kernel_rfl) (fun _ _ _ h=>h) (YT.row (by rfl) 63 (.tmp 18) rfl b0 0 rfl (fun _ h=>h) (ncl (words (p))) _ ((HPR.out _ _ C2.out).1) Tryz.underlying63 rfl size63) ?_
  simp only [Act.put,List.setIfInBounds_toArray,List.set_cons_zero,List.set_cons_succ]
  refine wpAnyT_take (i:=5) (v:=nv (words (d))) 20 (by kernel_rfl) rfl rfl rfl (by kernel_rfl) (by kernel_rfl) (by kernel_rfl) (fun _ _ _ h=>h) (YT.call (by rfl) 44 #[nv (words (3)),nv (words (x)),nv (words (p))] (fun w=>by go_simp) (fun w m=>M3.out w)) ?_
  simp only [Act.put,List.setIfInBounds_toArray,List.set_cons_zero,List.set_cons_succ]
  refine wpAnyT_take (i:=6) (v:=.pointer (some ⟨b0,0,none⟩)) 21 (by kernel_rfl) rfl rfl rfl (by kernel_rfl) (by kernel_rfl) (by kernel_rfl) (fun _ _ _ h=>h) (YT.pure (by rfl) (fun w=>by go_simp)) ?_
  simp only [Act.put,List.setIfInBounds_toArray,List.set_cons_zero,List.set_cons_succ]
  refine wpAnyT_take (i:=7) (v:=nv (words (p))) 22 (by kernel_rfl) rfl rfl rfl (by kernel_rfl) (by kernel_rfl) (by kernel_rfl) (fun _ _ _ h=>h) (YT.row (by rfl) 63 (.tmp 21) rfl b0 0 rfl (fun _ h=>h) (ncl (words (p))) _ ((HPR.out _ _ C2.out).1) Tryz.underlying63 rfl size63) ?_
  simp only [Act.put,List.setIfInBounds_toArray,List.set_cons_zero,List.set_cons_succ]
  refine wpAnyT_take (i:=8) (v:=nv (words (f))) 23 (by kernel_rfl) rfl rfl rfl (by kernel_rfl) (by kernel_rfl) (by kernel_rfl) (fun _ _ _ h=>h) (YT.call (by rfl) 34 #[nv (words (c)),nv (words (d)),nv (words (p))] (fun w=>by go_simp) (fun w m=>M4.out w)) ?_
  simp only [Act.put,List.setIfInBounds_toArray,List.set_cons_zero,List.set_cons_succ]
  refine wpAnyT_store (by kernel_rfl) (by kernel_rfl) rfl rfl rfl 63 (.tmp 5) (.tmp 23) rfl b5 0 (nc (words (f))) rfl rfl (V1.out.there9 (words (f))) (size63n _) (nc_one _) ?_
  intro ws2 wt2 mc2 md2 me2
  have hst:=nine_stored (g:=words f) V1.out mc2 me2
  have V2:=Lib.hid hst.1
  have C3:=Lib.hid (C2.out.mod hst.2 fun _ h=>NE.out.1 h)
  have Z3:=Lib.hid (Z2.out.mod hst.2 fun _ h=>NE.out.2.2.1 h)
  have MM3:=Lib.hid (MM2.out.fresh hst.2 NE.out.2.2.2)
  clear hst mc2 md2 me2 V1 C2 X2 Z2 MM2 NE
  go_upto_region 3 with fail
  apply wp_region_lit
  refine wpList_row 24 rfl rfl 63 (.tmp 5) rfl b5 0 rfl (ncl (words (f))) _ (V2.out.range) Tryz.underlying63 rfl size63 ?_
  simp only [Act.put,List.setIfInBounds_toArray,List.set_cons_zero,List.set_cons_succ]
  refine wpList_val (v:=.pointer (some ⟨b0,9,none⟩)) 25 rfl rfl (by go_simp) ?_
  simp only [Act.put,List.setIfInBounds_toArray,List.set_cons_zero,List.set_cons_succ]
  refine wpList_row 26 rfl rfl 63 (.tmp 25) rfl b0 9 rfl (ncl (words (B))) _ ((HPR.out _ _ C3.out).2) Tryz.underlying63 rfl size63 ?_
  simp only [Act.put,List.setIfInBounds_toArray,List.set_cons_zero,List.set_cons_succ]
  refine wpList_val (v:=.pointer (some ⟨b0,0,none⟩)) 27 rfl rfl (by go_simp) ?_
  simp only [Act.put,List.setIfInBounds_toArray,List.set_cons_zero,List.set_cons_succ]
  refine wpList_row 28 rfl rfl 63 (.tmp 27) rfl b0 0 rfl (ncl (words (p))) _ ((HPR.out _ _ C3.out).1) Tryz.underlying63 rfl size63 ?_
  simp only [Act.put,List.setIfInBounds_toArray,List.set_cons_zero,List.set_cons_succ]
  refine wpList_callV (v:=nv (words (R))) 29 rfl rfl 43 #[nv (words (f)),nv (words (B)),nv (words (p))] (by go_simp) (M5.out _) ?_
  intro w5 mw5
  simp only [Act.put,List.setIfInBounds_toArray,List.set_cons_zero,List.set_cons_succ]
  refine wpList_store rfl rfl 63 (.tmp 4) (.tmp 29) rfl b2 0 (nc (words (R))) rfl rfl ((Z3.out.mod mw5 fun _ h=>h).there9 (words (R))) (size63n _) (nc_one _) ?_
  have hst:=nine_stored (g:=words R) Z3.out mw5 (.refl NoP _)
  have MM4:=Lib.hid (MM3.out.fresh hst.2 (by omega))
  have V3:=Lib.hid hst.1
  clear hst MM3 Z3 C3 V2 M1 M2 M3 M4 M5 MS HPR
  generalize w5.setCells b2 0 (nc (words R)).toList=w6 at *
  go_wp2_with fail
  exact bodyPost_ret (v:=nv (words R)) (result60 _ w6 b2 rfl _ V3.out.range) rfl ⟨rfl,MM4.out⟩
end
end Go.Proofs.YtpfmbfkhjapbbaaGreatDoor
