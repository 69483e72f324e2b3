/-
  The specification's root over a curve. Condition: a number below the curve's prime. Lines alike from operation to operation: printed by a program (gen_root.py).
-/
import Derived.Test.YtpfmbfkhjapbbaaGreatDoorMg18
set_option linter.unusedVariables false
set_option linter.unusedSimpArgs false
namespace Go.Proofs.YtpfmbfkhjapbbaaGreatDoor
open Go Go.RowKit
theorem result59 (tmps:Array Value) (w:World) (b:Nat) (v:Value) (hs:tmps.getD 4 undef=.pointer (some ⟨b,0,none⟩)) (hv:tmps.getD 5 undef=v) (f:Nat→Nat) (hr:w.rangeAt b 0 (ncl f)):(results Tryz.f59 tmps).run Tryz.prog w=.ok (.tuple #[nv f,v]) w:=by
  simp only [results,Tryz.results59]
  simp only [Array.getD_eq_getD_getElem?] at hs hv
  simp [Sem.run_bind,hs,hv,asAddr,run_loadVar_mid w b 0 63 (ncl f) _ hr Tryz.underlying63 rfl size63]
set_option maxRecDepth 100000 in
set_option maxHeartbeats 4000000 in
theorem root_any (k:Nat) (hk:k≤2) (x:Nat) (hx:x<pK k) (w:World):Calls Tryz.prog 59 #[.agg (cvK k).toArray,nv (words x)] w (VRet (.tuple #[nv (words (mRoot (pK k) x)),.bool (decide (mm (pK k) (mRoot (pK k) x) (mRoot (pK k) x)=x))]) w):=by
  have F:=pK_fits k hk
  have hp0:0<pK k:=by have:=F.one;omega
  have hs1:pK k+1<B64^9:=by have h1:=F.half;have h2:=F.one;omega
  have HCV:Hid (∀ (w:World) (b:Nat),w.heap[b]? = some (.cells (cvK k).toArray 65 (0,0))→CvAt w b k):=Lib.hid fun w b h=>h
  obtain ⟨p,hpe⟩:∃ p,p=pK k:=⟨_,rfl⟩
  have HPR:Hid (∀ (w:World) (b:Nat),CvAt w b k→w.rangeAt b 0 (ncl (words p))):=Lib.hid fun w b h=>by subst hpe;exact h.p
  rw [← hpe] at hx hp0 F hs1
  rw [← hpe]
  clear hk hpe
  obtain ⟨s,hs⟩:∃ s,s=p+1:=⟨_,rfl⟩
  obtain ⟨a,ha⟩:∃ a,a=s/2:=⟨_,rfl⟩
  obtain ⟨q,hq⟩:∃ q,q=a/2:=⟨_,rfl⟩
  have hq4:q=(p+1)/4:=by rw [hq,ha,hs,Nat.div_div_eq_div_mul]
  obtain ⟨r,hr⟩:∃ r,r=mRoot p x:=⟨_,rfl⟩
  have hr':r=x^q%p:=by rw [hr,hq4];rfl
  have hr1:r<p:=by rw [hr];exact mRoot_lt hp0
  obtain ⟨c,hc⟩:∃ c,c=mm p r r:=⟨_,rfl⟩
  have hc1:c<p:=by rw [hc];exact mm_lt' hp0
  rw [← hr,← hc]
  have M1:Hid (∀ w,Calls Tryz.prog 51 #[.int .u64 1] w (VRet (nv (words 1)) w)):=Lib.hid fun w=>smallV (n:=1) (by decide) w
  have M2:Hid (∀ w,Calls Tryz.prog 53 #[nv (words p),nv (words 1)] w (VRet (nv (words s)) w)):=Lib.hid fun w=>by rw [hs];exact sumV hs1 w
  have M3:Hid (∀ w,Calls Tryz.prog 63 #[nv (words s)] w (VRet (nv (words a)) w)):=Lib.hid fun w=>by rw [ha];exact halfV (by omega) w
  have M4:Hid (∀ w,Calls Tryz.prog 63 #[nv (words a)] w (VRet (nv (words q)) w)):=Lib.hid fun w=>by rw [hq];exact halfV (by omega) w
  have M5:Hid (∀ w,Calls Tryz.prog 82 #[nv (words x),nv (words q),nv (words p)] w (VRet (nv (words r)) w)):=Lib.hid fun w=>by rw [hr'];exact powV F hx (by omega) w
  have M6:Hid (∀ w,Calls Tryz.prog 44 #[nv (words r),nv (words r),nv (words p)] w (VRet (nv (words c)) w)):=Lib.hid fun w=>by rw [hc];exact mulV F hr1 (Nat.lt_trans hr1 F.lt) w
  have ME:Hid (∀ w,(Op.equalIn 10000 63 (nv (words c)) (nv (words x))).run Tryz.prog w=.ok (decide (c=x)) w):=Lib.hid fun w=>by
    have h:=eqN_in (words c) (words x) w
    rw [alike_iff (fun j _=>words_lt c j) (fun j _=>words_lt x j)] at h
    rw [val_w (Nat.lt_trans hc1 F.lt),val_w (Nat.lt_trans hx F.lt)] at h
    exact h
  generalize hbb:decide (c=x)=bb at *
  clear F hx hp0 hs ha hq hq4 hr hr' hr1 hc hc1 hbb hs1
  generalize hcv:(cvK k).toArray=cv at *
  clear hcv
  go_enter Tryz.func59,Tryz.ntmps59
  go_upto_region 1 with fail
  obtain ⟨k1,k2,k3,mm0⟩:=three_new w (.cells cv 65 (0,0)) (.cells (nc (words x)) 63 (0,0)) zN
  generalize hw4:((w.alloc (.cells cv 65 (0,0))).alloc (.cells (nc (words x)) 63 (0,0))).alloc zN=w4 at *
  clear hw4
  have C1:=Lib.hid (HCV.out _ _ k1)
  have X1:Hid (NIs w4 (w.heap.size+1) (words x)):=Lib.hid k2
  have Z1:Hid (NIs w4 (w.heap.size+1+1) (fun _=>0)):=Lib.hid k3
  have MM:=Lib.hid mm0
  clear k1 k2 k3 mm0 HCV
  generalize hb0:w.heap.size=b0 at *
  generalize hb1:b0+1=b1 at *
  generalize hb2:b1+1=b2 at *
  refine wp_region_T 11 NoP (by kernel_rfl) (by kernel_rfl) ?_
  refine wpAnyT_take (i:=0) (v:=nv (words (x))) 7 (by kernel_rfl) rfl rfl rfl (by kernel_rfl) (by kernel_rfl) (by kernel_rfl) (fun _ _ _ h=>h) (YT.row (by rfl) 63 (.tmp 3) rfl b1 0 rfl (fun _ h=>h) (ncl (words (x))) _ (X1.out.range) Tryz.underlying63 rfl size63) ?_
  simp only [Act.put,List.setIfInBounds_toArray,List.set_cons_zero,List.set_cons_succ]
  refine wpAnyT_take (i:=1) (v:=.pointer (some ⟨b0,0,none⟩)) 8 (by kernel_rfl) rfl rfl rfl (by kernel_rfl) (by kernel_rfl) (by kernel_rfl) (fun _ _ _ h=>h) (YT.pure (by rfl) (fun w=>by go_simp)) ?_
  simp only [Act.put,List.setIfInBounds_toArray,List.set_cons_zero,List.set_cons_succ]
  refine wpAnyT_take (i:=2) (v:=nv (words (p))) 9 (by kernel_rfl) rfl rfl rfl (by kernel_rfl) (by kernel_rfl) (by kernel_rfl) (fun _ _ _ h=>h) (YT.row (by rfl) 63 (.tmp 8) rfl b0 0 rfl (fun _ h=>h) (ncl (words (p))) _ (HPR.out _ _ C1.out) Tryz.underlying63 rfl size63) ?_
  simp only [Act.put,List.setIfInBounds_toArray,List.set_cons_zero,List.set_cons_succ]
  refine wpAnyT_take (i:=3) (v:=nv (words 1)) 10 (by kernel_rfl) rfl rfl rfl (by kernel_rfl) (by kernel_rfl) (by kernel_rfl) (fun _ _ _ h=>h) (YT.call (by rfl) 51 #[.int .u64 1] (fun w=>by go_simp) (fun w m=>M1.out w)) ?_
  simp only [Act.put,List.setIfInBounds_toArray,List.set_cons_zero,List.set_cons_succ]
  refine wpAnyT_take (i:=4) (v:=nv (words (s))) 11 (by kernel_rfl) rfl rfl rfl (by kernel_rfl) (by kernel_rfl) (by kernel_rfl) (fun _ _ _ h=>h) (YT.call (by rfl) 53 #[nv (words (p)),nv (words (1))] (fun w=>by go_simp) (fun w m=>M2.out w)) ?_
  simp only [Act.put,List.setIfInBounds_toArray,List.set_cons_zero,List.set_cons_succ]
  refine wpAnyT_take (i:=5) (v:=nv (words (a))) 12 (by kernel_rfl) rfl rfl rfl (by kernel_rfl) (by kernel_rfl) (by kernel_rfl) (fun _ _ _ h=>h) (YT.call (by rfl) 63 #[nv (words (s))] (fun w=>by go_simp) (fun w m=>M3.out w)) ?_
  simp only [Act.put,List.setIfInBounds_toArray,List.set_cons_zero,List.set_cons_succ]
  refine wpAnyT_take (i:=6) (v:=nv (words (q))) 13 (by kernel_rfl) rfl rfl rfl (by kernel_rfl) (by kernel_rfl) (by kernel_rfl) (fun _ _ _ h=>h) (YT.call (by rfl) 63 #[nv (words (a))] (fun w=>by go_simp) (fun w m=>M4.out w)) ?_
  simp only [Act.put,List.setIfInBounds_toArray,List.set_cons_zero,List.set_cons_succ]
  refine wpAnyT_take (i:=7) (v:=.pointer (some ⟨b0,0,none⟩)) 14 (by kernel_rfl) rfl rfl rfl (by kernel_rfl) (by kernel_rfl) (by kernel_rfl) (fun _ _ _ h=>h) (YT.pure (by rfl) (fun w=>by go_simp)) ?_
  simp only [Act.put,List.setIfInBounds_toArray,List.set_cons_zero,List.set_cons_succ]
  refine wpAnyT_take (i:=8) (v:=nv (words (p))) 15 (by kernel_rfl) rfl rfl rfl (by kernel_rfl) (by kernel_rfl) (by kernel_rfl) (fun _ _ _ h=>h) (YT.row (by rfl) 63 (.tmp 14) rfl b0 0 rfl (fun _ h=>h) (ncl (words (p))) _ (HPR.out _ _ C1.out) Tryz.underlying63 rfl size63) ?_
  simp only [Act.put,List.setIfInBounds_toArray,List.set_cons_zero,List.set_cons_succ]
  refine wpAnyT_take (i:=9) (v:=nv (words (r))) 16 (by kernel_rfl) rfl rfl rfl (by kernel_rfl) (by kernel_rfl) (by kernel_rfl) (fun _ _ _ h=>h) (YT.call (by rfl) 82 #[nv (words (x)),nv (words (q)),nv (words (p))] (fun w=>by go_simp) (fun w m=>M5.out w)) ?_
  simp only [Act.put,List.setIfInBounds_toArray,List.set_cons_zero,List.set_cons_succ]
  refine wpAnyT_alloc (i:=10) 6 (by kernel_rfl) rfl rfl rfl zN (fun w=>by go_simp) ?_
  intro wa1 ma1 mb1
  simp only [Act.put,List.setIfInBounds_toArray,List.set_cons_zero,List.set_cons_succ]
  refine wpAnyT_store (by kernel_rfl) (by kernel_rfl) rfl rfl rfl 63 (.tmp 6) (.tmp 16) rfl wa1.heap.size 0 (nc (words (r))) rfl rfl (NIs.there9 (f:=fun _=>0) (heap_alloc_new wa1 zN) (words (r))) (size63n _) (nc_one _) ?_
  intro ws1 wt1 mc1 md1 me1
  have hst:=nine_stored (wa:=wa1.alloc zN) (f:=fun _=>0) (g:=words r) (heap_alloc_new wa1 zN) mc1 me1
  have ms0:=ma1.size
  have ms1:Mod NoP w4 wt1:=Mod.fresh (ma1.alloc zN) hst.2 ms0
  have V1:=Lib.hid hst.1
  have C2:=Lib.hid (C1.out.mod ms1 fun _ h=>h)
  have X2:=Lib.hid (X1.out.mod ms1 fun _ h=>h)
  have Z2:=Lib.hid (Z1.out.mod ms1 fun _ h=>h)
  have MM2:=Lib.hid (MM.out.trans ms1)
  have hl3:=lt_of_heap Z1.out
  have NE:Hid (b0≠b2∧b1≠b2∧wa1.heap.size≠b2∧w.heap.size≤b2):=Lib.hid (by omega)
  clear hst ms0 ms1 ma1 mb1 mc1 md1 me1 hl3 C1 X1 Z1 MM
  generalize wa1.heap.size=b5 at *
  go_wp2_with fail
  refine wp_region_T 99 (InB b2) (by kernel_rfl) (by kernel_rfl) ?_
  refine wpAnyT_take (i:=0) (v:=nv (words (r))) 17 (by kernel_rfl) rfl rfl rfl (by kernel_rfl) (by kernel_rfl) (by kernel_rfl) (fun _ _ _ h=>h) (YT.row (by rfl) 63 (.tmp 6) rfl b5 0 rfl (fun _ h=>NE.out.2.2.1 h) (ncl (words (r))) _ (V1.out.range) Tryz.underlying63 rfl size63) ?_
  simp only [Act.put,List.setIfInBounds_toArray,List.set_cons_zero,List.set_cons_succ]
  refine wpAnyT_take (i:=1) (v:=nv (words (r))) 18 (by kernel_rfl) rfl rfl rfl (by kernel_rfl) (by kernel_rfl) (by kernel_rfl) (fun _ _ _ h=>h) (YT.row (by rfl) 63 (.tmp 6) rfl b5 0 rfl (fun _ h=>NE.out.2.2.1 h) (ncl (words (r))) _ (V1.out.range) Tryz.underlying63 rfl size63) ?_
  simp only [Act.put,List.setIfInBounds_toArray,List.set_cons_zero,List.set_cons_succ]
  refine wpAnyT_take (i:=2) (v:=nv (words (r))) 19 (by kernel_rfl) rfl rfl rfl (by kernel_rfl) (by kernel_rfl) (by kernel_rfl) (fun _ _ _ h=>h) (YT.row (by rfl) 63 (.tmp 6) rfl b5 0 rfl (fun _ h=>NE.out.2.2.1 h) (ncl (words (r))) _ (V1.out.range) Tryz.underlying63 rfl size63) ?_
  simp only [Act.put,List.setIfInBounds_toArray,List.set_cons_zero,List.set_cons_succ]
  refine wpAnyT_take (i:=3) (v:=.pointer (some ⟨b0,0,none⟩)) 20 (by kernel_rfl) rfl rfl rfl (by kernel_rfl) (by kernel_rfl) (by kernel_rfl) (fun _ _ _ h=>h) (YT.pure (by rfl) (fun w=>by go_simp)) ?_
  simp only [Act.put,List.setIfInBounds_toArray,List.set_cons_zero,List.set_cons_succ]
  refine wpAnyT_take (i:=4) (v:=nv (words (p))) 21 (by kernel_rfl) rfl rfl rfl (by kernel_rfl) (by kernel_rfl) (by kernel_rfl) (fun _ _ _ h=>h) (YT.row (by rfl) 63 (.tmp 20) rfl b0 0 rfl (fun _ h=>NE.out.1 h) (ncl (words (p))) _ (HPR.out _ _ C2.out) Tryz.underlying63 rfl size63) ?_
  simp only [Act.put,List.setIfInBounds_toArray,List.set_cons_zero,List.set_cons_succ]
  refine wpAnyT_take (i:=5) (v:=nv (words (c))) 22 (by kernel_rfl) rfl rfl rfl (by kernel_rfl) (by kernel_rfl) (by kernel_rfl) (fun _ _ _ h=>h) (YT.call (by rfl) 44 #[nv (words (r)),nv (words (r)),nv (words (p))] (fun w=>by go_simp) (fun w m=>M6.out w)) ?_
  simp only [Act.put,List.setIfInBounds_toArray,List.set_cons_zero,List.set_cons_succ]
  refine wpAnyT_take (i:=6) (v:=nv (words (x))) 23 (by kernel_rfl) rfl rfl rfl (by kernel_rfl) (by kernel_rfl) (by kernel_rfl) (fun _ _ _ h=>h) (YT.row (by rfl) 63 (.tmp 3) rfl b1 0 rfl (fun _ h=>NE.out.2.1 h) (ncl (words (x))) _ (X2.out.range) Tryz.underlying63 rfl size63) ?_
  simp only [Act.put,List.setIfInBounds_toArray,List.set_cons_zero,List.set_cons_succ]
  refine wpAnyT_take (i:=7) (v:=.bool bb) 24 (by kernel_rfl) rfl rfl rfl (by kernel_rfl) (by kernel_rfl) (by kernel_rfl) (fun _ _ _ h=>h) (YT.pure (by rfl) (fun w=>by have:=ME.out w;go_simp)) ?_
  simp only [Act.put,List.setIfInBounds_toArray,List.set_cons_zero,List.set_cons_succ]
  refine wpAnyT_store1 (i:=8) (by kernel_rfl) rfl rfl rfl 63 (.tmp 4) (.tmp 17) rfl b2 0 (nc (words (r))) rfl rfl (Z2.out.there9 (words (r))) (size63n _) (nc_one _) (fun w h=>nine_into (words r) h) ?_
  intro wb2 mc2 md2
  refine wpAnyT_take (i:=9) (v:=.bool bb) 5 (by kernel_rfl) rfl rfl rfl (by kernel_rfl) (by kernel_rfl) (by kernel_rfl) (fun _ _ _ h=>h) (YT.pure (by rfl) (fun w=>by go_simp)) ?_
  simp only [Act.put,List.setIfInBounds_toArray,List.set_cons_zero,List.set_cons_succ]
  refine wpAnyT_done (by kernel_rfl) ?_ _
  intro wt2 me2
  have hst:=nine_stored (g:=words r) Z2.out mc2 me2
  have V3:=Lib.hid hst.1
  have MM4:=Lib.hid (MM2.out.fresh hst.2 NE.out.2.2.2)
  clear hst mc2 md2 me2 V1 C2 X2 Z2 MM2 NE M1 M2 M3 M4 M5 M6 ME HPR
  go_wp2_with fail
  exact bodyPost_ret (v:=.tuple #[nv (words r),.bool bb]) (result59 _ wt2 b2 _ rfl rfl _ V3.out.range) rfl ⟨rfl,MM4.out⟩
end Go.Proofs.YtpfmbfkhjapbbaaGreatDoor
