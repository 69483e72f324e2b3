/-
  sswu3mod4Map, walked: the point's numbers are those of the plain law's straight line. Conditions: a prime that leaves 3 if it is divided by 4, of 3 to 9 words; the curve's Ints belong to nobody. Printed by a program (gen_sswu.py).
-/
import Derived.Test.YtpfmbfkhjapbbaaGreatDoorMGroups
import Derived.Test.YtpfmbfkhjapbbaaGreatDoorMg12
import Derived.Test.YtpfmbfkhjapbbaaGreatDoorMg22
import Derived.Deep.DeepCutAuto
set_option linter.unusedVariables false
set_option linter.unusedSimpArgs false
namespace Go.Proofs.YtpfmbfkhjapbbaaGreatDoor
open Go Go.RowKit
theorem SwE.cell2 {own0:Nat→Option Nat} {w0 w w':World} {R P:List Nat} {T V:List Int} {C:List (Nat × Nat × Value)} (h:SwE own0 w0 R T C w P V) (m:Mod NoP w w') {b o o':Nat} {v v':Value} (hc:w'.cell? ⟨b,o,none⟩=some v) (hc':w'.cell? ⟨b,o',none⟩=some v') (hb:w.heap.size≤b):SwE own0 w0 R T ((b,o,v) :: (b,o',v') :: C) w' P V:=by
  obtain ⟨own,s⟩:=h
  obtain ⟨own',s,e,hn⟩:=s.still m
  refine ⟨own',s.env,s.ext,s.len,s.ints,s.wr,s.inj,s.rd,?_,s.bdV,s.bdT⟩
  rintro (_ | _ | j) k o' v' hk
  · simp only [List.getElem?_cons_zero] at hk
    cases hk
    exact ⟨hc,hn _ hb⟩
  · simp only [List.getElem?_cons_succ,List.getElem?_cons_zero] at hk
    cases hk
    exact ⟨hc',hn _ hb⟩
  · simp only [List.getElem?_cons_succ] at hk
    exact s.caps j k o' v' hk
theorem jD_eq (p mz u:Nat):(if decide (jD1 p mz u=0)=true then iMul p (-(mz:Int)) (-3) else jD1 p mz u)=jD p mz u:=by
  unfold jD
  by_cases h:jD1 p mz u=0
  · rw [decide_eq_true h,if_pos rfl,if_pos h]
  · rw [decide_eq_false h,if_neg (by decide),if_neg h]
theorem iq_bounds {p:Nat} (hp:0<p) (a:Int):0≤iq p a∧iq p a<p:=⟨Int.emod_nonneg _ (by omega),Int.emod_lt_of_pos _ (by omega)⟩
theorem jYc_bounds {p:Nat} (hp:0<p) (B mz u C2:Nat):0≤jYc p B mz u C2∧jYc p B mz u C2<p:=by
  unfold jYc
  split
  · exact iq_bounds hp _
  · exact iq_bounds hp _
theorem jD_bounds {p:Nat} (hp:0<p) (mz u:Nat):0≤jD p mz u∧jD p mz u<p:=by
  unfold jD
  split
  · exact iq_bounds hp _
  · exact iq_bounds hp _
theorem jY_eq (p B mz u C2:Nat) {b:Bool} (hp:0<p) (hb:(((u%2:Nat):Int) == (((jYc p B mz u C2).natAbs%2:Nat):Int))=b):(if b=true then jYc p B mz u C2 else -jYc p B mz u C2)%(p:Int)=jY p B mz u C2:=by
  obtain ⟨h1,h2⟩:=jYc_bounds hp B mz u C2
  unfold jY iq
  generalize jYc p B mz u C2=y at *
  congr 1
  by_cases h:(u:Int)%2=y%2
  · rw [if_pos h]
    have hb1:b=true:=by rw [← hb];simp;omega
    rw [if_pos hb1]
  · rw [if_neg h]
    have hb1:b=false:=by rw [← hb];simp;omega
    rw [hb1,if_neg (by decide)]
theorem gcd_prime {p:Nat} (hp:Pr p) {g:Nat} (h0:0<g) (hg:g<p):Nat.gcd g p=1:=by
  have h1:=Nat.gcd_dvd_right g p
  have h2:=Nat.gcd_dvd_left g p
  rcases hp.2 _ h1 with h | h
  · exact h
  · rw [h] at h2
    have:=Nat.le_of_dvd h0 h2
    omega
def MapRet (own0:Nat→Option Nat) (w0:World) (p B mz u C2:Nat) (g0 g1:Value) (e:Ending) (w':World):Prop :=
  ∃ (t el px py:Nat),t<p∧iMul p (jD p mz u) (t:Int)=1∧e=.returned (.pointer (some ⟨el,0,none⟩))∧w0.heap.size≤el ∧
    w'.heap[el]? = some (.cells #[.pointer (some ⟨px,0,none⟩),.pointer (some ⟨py,0,none⟩),g0,g1] 131 (0,0)) ∧
    ∃ own',OEnv own' w'∧Ext (fun z=>w0.heap.size≤z) own0 own' w0 w'∧IntO own' w' px (jX p B mz u (t:Int))∧IntO own' w' py (jY p B mz u C2)∧px≠py∧w0.heap.size≤px∧w0.heap.size≤py∧el≠px∧el≠py
theorem SwE.map {own0:Nat→Option Nat} {w0 w:World} {R P:List Nat} {T V:List Int} {C:List (Nat × Nat × Value)} (h:SwE own0 w0 R T C w P V) {p B mz u C2 t px py:Nat} (g0 g1:Value) (ht:t<p) (hi:iMul p (jD p mz u) (t:Int)=1)
    (h2:P[2]? = some py) (v2:V[2]? = some (jY p B mz u C2)) (h3:P[3]? = some px) (v3:V[3]? = some (jX p B mz u (t:Int))) :
    MapRet own0 w0 p B mz u C2 g0 g1 (.returned (.pointer (some ⟨w.heap.size,0,none⟩))) (w.alloc (.cells #[.pointer (some ⟨px,0,none⟩),.pointer (some ⟨py,0,none⟩),g0,g1] 131 (0,0))):=by
  obtain ⟨own,s⟩:=h
  have hge:=s.ge
  have lx:=(s.ints 3 px _ h3 v3).lt
  have ly:=(s.ints 2 py _ h2 v2).lt
  obtain ⟨own',s',e,hn⟩:=s.still (w':=w.alloc (.cells #[.pointer (some ⟨px,0,none⟩),.pointer (some ⟨py,0,none⟩),g0,g1] 131 (0,0))) ((Mod.refl NoP w).alloc _)
  exact ⟨t,_,px,py,ht,hi,rfl,hge,heap_alloc_new w _,own',s'.env,s'.ext,s'.ints 3 px _ h3 v3,s'.ints 2 py _ h2 v2,fun e'=>by have:=s.inj 3 2 px h3 (e' ▸ h2);omega,(s.wr 3 px h3).2,(s.wr 2 py h2).2,by omega,by omega⟩
set_option maxRecDepth 100000 in
set_option maxHeartbeats 16000000 in
theorem sswu_any (own0:Nat→Option Nat) (w0 w:World) (p B mz u C2 pu pZ pC2 pB pp prm go L:Nat) (hp:Pr p) (h4:p%4=3) (hu:u<p) (hbig:4*B64+3≤p) (hlt:p<B64^9) (hD:jD p mz u≠0)
    (h:SwE own0 w0 [pZ,pC2,pB,pp] [-(mz:Int),(C2:Int),(B:Int),(p:Int)] [(prm,0,.pointer (some ⟨pp,0,none⟩)),(prm,2,.pointer (some ⟨pB,0,none⟩))] w [pu] [(u:Int)]) :
    Calls Tryz.prog 81 #[.agg #[.iface 125 (.pointer (some ⟨prm,0,none⟩)),.slice (some ⟨go,0,none⟩) L L],.pointer (some ⟨pu,0,none⟩),.pointer (some ⟨pZ,0,none⟩),.pointer (some ⟨pC2,0,none⟩)] w
      (MapRet own0 w0 p B mz u C2 (.iface 125 (.pointer (some ⟨prm,0,none⟩))) (.slice (some ⟨go,0,none⟩) L L)):=by
  have hp0:0<p:=by omega
  have HP:=Lib.hid (And.intro hp (And.intro h4 (And.intro hu (And.intro hbig (And.intro hlt hD)))))
  have HP0:=Lib.hid hp0
  have HH:=Lib.hid h
  have hme:=fun W=>methodParams W ⟨prm,0,none⟩
  have hmf:∀ (fn:Fn) (first cap:Array Value) (w:World),(Instr.makeFunc fn first cap).run Tryz.prog w=.ok (.func fn first cap) w:=fun _ _ _ _=>rfl
  clear h hp h4 hu hbig hlt hD hp0
  go_enter Tryz.func81,Tryz.ntmps81
  go_upto_region 1 with fail
  have bx:=box2 w (.iface 125 (.pointer (some ⟨prm,0,none⟩))) (.slice (some ⟨go,0,none⟩) L L) 108
  have S0:=Lib.hid (HH.out.cell2 ((Mod.refl NoP w).alloc (.cells #[.iface 125 (.pointer (some ⟨prm,0,none⟩)),.slice (some ⟨go,0,none⟩) L L] 108 (0,0))) bx.1 bx.2 (Nat.le_refl _))
  clear bx HH
  generalize hw1:w.alloc (.cells #[.iface 125 (.pointer (some ⟨prm,0,none⟩)),.slice (some ⟨go,0,none⟩) L L] 108 (0,0))=w1 at *
  generalize hbg:w.heap.size=bg at *
  clear hw1 hbg
  go_upto_region 2 with fail
  have S1:=Lib.hid S0.out.new
  clear S0
  generalize hw2:w1.alloc (.cells #[.bool false,.slice none 0 0] 51 (0,0))=w2 at *
  generalize hq1:w1.heap.size=q_tv1 at *
  clear hw2 hq1
  go_upto_region 3 with fail
  have S2:=Lib.hid S1.out.new
  clear S1
  generalize hw3:w2.alloc (.cells #[.bool false,.slice none 0 0] 51 (0,0))=w3 at *
  generalize hq2:w2.heap.size=q_tv2 at *
  clear hw3 hq2
  go_upto_region 4 with fail
  have S3:=Lib.hid S2.out.new
  clear S2
  generalize hw4:w3.alloc (.cells #[.bool false,.slice none 0 0] 51 (0,0))=w4 at *
  generalize hq3:w3.heap.size=q_tv3 at *
  clear hw4 hq3
  go_upto_region 5 with fail
  have S4:=Lib.hid S3.out.new
  clear S3
  generalize hw5:w4.alloc (.cells #[.bool false,.slice none 0 0] 51 (0,0))=w5 at *
  generalize hq4:w4.heap.size=q_tv4 at *
  clear hw5 hq4
  go_upto_region 6 with fail
  have S5:=Lib.hid S4.out.new
  clear S4
  generalize hw6:w5.alloc (.cells #[.bool false,.slice none 0 0] 51 (0,0))=w6 at *
  generalize hq5:w5.heap.size=q_xn at *
  clear hw6 hq5
  go_upto_region 7 with fail
  have S6:=Lib.hid S5.out.new
  clear S5
  generalize hw7:w6.alloc (.cells #[.bool false,.slice none 0 0] 51 (0,0))=w7 at *
  generalize hq6:w6.heap.size=q_xd at *
  clear hw7 hq6
  go_upto_region 8 with fail
  have S7:=Lib.hid S6.out.new
  clear S6
  generalize hw8:w7.alloc (.cells #[.bool false,.slice none 0 0] 51 (0,0))=w8 at *
  generalize hq7:w7.heap.size=q_x1n at *
  clear hw8 hq7
  go_upto_region 9 with fail
  have S8:=Lib.hid S7.out.new
  clear S7
  generalize hw9:w8.alloc (.cells #[.bool false,.slice none 0 0] 51 (0,0))=w9 at *
  generalize hq8:w8.heap.size=q_x2n at *
  clear hw9 hq8
  go_upto_region 10 with fail
  have S9:=Lib.hid S8.out.new
  clear S8
  generalize hw10:w9.alloc (.cells #[.bool false,.slice none 0 0] 51 (0,0))=w10 at *
  generalize hq9:w9.heap.size=q_gx1 at *
  clear hw10 hq9
  go_upto_region 11 with fail
  have S10:=Lib.hid S9.out.new
  clear S9
  generalize hw11:w10.alloc (.cells #[.bool false,.slice none 0 0] 51 (0,0))=w11 at *
  generalize hq10:w10.heap.size=q_gxd at *
  clear hw11 hq10
  go_upto_region 12 with fail
  have S11:=Lib.hid S10.out.new
  clear S10
  generalize hw12:w11.alloc (.cells #[.bool false,.slice none 0 0] 51 (0,0))=w12 at *
  generalize hq11:w11.heap.size=q_y1 at *
  clear hw12 hq11
  go_upto_region 13 with fail
  have S12:=Lib.hid S11.out.new
  clear S11
  generalize hw13:w12.alloc (.cells #[.bool false,.slice none 0 0] 51 (0,0))=w13 at *
  generalize hq12:w12.heap.size=q_y2 at *
  clear hw13 hq12
  go_upto_region 14 with fail
  have S13:=Lib.hid S12.out.new
  clear S12
  generalize hw14:w13.alloc (.cells #[.bool false,.slice none 0 0] 51 (0,0))=w14 at *
  generalize hq13:w13.heap.size=q_x at *
  clear hw14 hq13
  go_upto_region 15 with fail
  have S14:=Lib.hid S13.out.new
  clear S13
  generalize hw15:w14.alloc (.cells #[.bool false,.slice none 0 0] 51 (0,0))=w15 at *
  generalize hq14:w14.heap.size=q_y at *
  clear hw15 hq14
  go_wp2_with fail
  refine (newInt_any _ (-3) (by omega) (by omega)).mono ?_
  rintro e w16 hr
  obtain ⟨q_A,rfl,s⟩:=S14.out.push (by rw [B64_eq];decide) hr
  have S15:=Lib.hid s
  clear s hr S14
  have k0:=S15.out.cap 0 rfl
  have k2:=S15.out.cap 2 rfl
  have k3:=S15.out.cap 3 rfl
  go_wp2_with fail
  refine (params_any prm _).mono ?_
  rintro e w' ⟨rfl,hw'⟩
  obtain rfl:=hw'.symm
  go_wp2_with fail
  refine (params_any prm _).mono ?_
  rintro e w' ⟨rfl,hw'⟩
  obtain rfl:=hw'.symm
  go_upto_region 18 with fail
  have S17:=Lib.hid (S15.out.cell (w':=w16.alloc (.cells #[.pointer (some ⟨pp,0,none⟩)] 47 (0,0))) ((Mod.refl NoP w16).alloc _) (cell?_of_heap (heap_alloc_new w16 _) 0) (Nat.le_refl _))
  clear k0 k2 k3 S15 hme
  generalize hw17:w16.alloc (.cells #[.pointer (some ⟨pp,0,none⟩)] 47 (0,0))=w17 at *
  generalize hbp:w16.heap.size=bp at *
  clear hw17 hbp
  go_upto_region 19 with fail
  have S18:=Lib.hid S17.out.new
  clear S17
  generalize hw18:w17.alloc (.cells #[.bool false,.slice none 0 0] 51 (0,0))=w18 at *
  generalize hq17:w17.heap.size=q_c1 at *
  clear hw18 hq17
  have HB:Hid (Base [pZ,pC2,pB,pp] [-(mz:Int),(C2:Int),(B:Int),(p:Int)] [(bp,0,.pointer (some ⟨pp,0,none⟩)),(bg,0,.iface 125 (.pointer (some ⟨prm,0,none⟩))),(bg,1,.slice (some ⟨go,0,none⟩) L L),(prm,0,.pointer (some ⟨pp,0,none⟩)),(prm,2,.pointer (some ⟨pB,0,none⟩))] bp pp p):=Lib.hid ⟨⟨3,rfl,rfl⟩,⟨0,rfl⟩,by have:=HP.out.2.2.2.1;omega,HP.out.2.2.2.2.1⟩
  have cb:=S18.out.cap 0 rfl
  have H90:=Lib.hid (fun w1 (m:Mod NoP w18 w1)=>S18.out.three m)
  have e3:(p:Int) - 3=((p - 3:Nat):Int):=by have:=HP.out.2.1;have:=HP0.out;omega
  have H91:=Lib.hid (fun w1 q h=>SwE.sub3 (own0:=own0) (w0:=w0) (w:=w1) (q:=q) (P:=[q_c1,q_A,q_y,q_x,q_y2,q_y1,q_gxd,q_gx1,q_x2n,q_x1n,q_xd,q_xn,q_tv4,q_tv3,q_tv2,q_tv1,pu]) (V:=[0,-3,0,0,0,0,0,0,0,0,0,0,0,0,0,0,(u:Int)]) HB.out 0 rfl h [((p - 3:Nat):Int),-3,0,0,0,0,0,0,0,0,0,0,0,0,0,0,(u:Int)] (by rw [e3];rfl))
  have H92:=Lib.hid (fun w1 (h:SwE own0 w0 [pZ,pC2,pB,pp] [-(mz:Int),(C2:Int),(B:Int),(p:Int)] [(bp,0,.pointer (some ⟨pp,0,none⟩)),(bg,0,.iface 125 (.pointer (some ⟨prm,0,none⟩))),(bg,1,.slice (some ⟨go,0,none⟩) L L),(prm,0,.pointer (some ⟨pp,0,none⟩)),(prm,2,.pointer (some ⟨pB,0,none⟩))] w1 [q_c1,q_A,q_y,q_x,q_y2,q_y1,q_gxd,q_gx1,q_x2n,q_x1n,q_xd,q_xn,q_tv4,q_tv3,q_tv2,q_tv1,pu] [((p - 3:Nat):Int),-3,0,0,0,0,0,0,0,0,0,0,0,0,0,0,(u:Int)])=>SwE.rsh2 h 0 rfl rfl [(((p - 3)/4:Nat):Int),-3,0,0,0,0,0,0,0,0,0,0,0,0,0,0,(u:Int)] rfl)
  have HMF:=Lib.hid hmf
  clear S18 e3 hmf
  go_region_held3 (fun w'=>w'.cell? ⟨bp,0,none⟩=some (.pointer (some ⟨pp,0,none⟩))) (first | exact cb4 | exact cb3 | exact cb2 | exact cb)
    (first
      | (go_at_call 90;refine (H90.out _ ?_).mono ?_;((first | exact (Mod.refl NoP w18).drew | exact (Mod.refl NoP w18).drewN _));rintro e w20 ⟨q3,rfl,h20⟩;have cb2:=(by obtain ⟨own,s,_⟩:=h20;exact (s.caps 0 _ _ _ rfl).cell:w20.cell? ⟨bp,0,none⟩=some (.pointer (some ⟨pp,0,none⟩)));have T20:=Lib.hid h20;clear h20)
      | (go_at_call 91;refine (H91.out _ _ T20.out).mono ?_;rintro e w21 ⟨rfl,s21⟩;have cb3:=s21.cap 0 rfl;have T21:=Lib.hid s21;clear s21)
      | (go_at_call 92;refine (H92.out _ T21.out).mono ?_;rintro e w22 ⟨rfl,s22⟩;have cb4:=s22.cap 0 rfl;have T22:=Lib.hid s22;clear s22))
  have S:=T22
  have hmf:=HMF.out
  clear H90 H91 H92 cb cb2 cb3 cb4 T20 T21 T22 HMF
  have H:=Lib.hid (S.out.sqr HB.out 15 rfl (.w 16 rfl rfl) [(((p - 3)/4:Nat):Int),-3,0,0,0,0,0,0,0,0,0,0,0,0,0,jTv1 p u,(u:Int)] rfl)
  go_wp2_with fail
  refine H.out.mono ?_
  rintro e w30 ⟨rfl,s⟩
  clear H S
  have S:=Lib.hid s
  clear s
  have H:=Lib.hid (S.out.mul HB.out 13 rfl (.r 0 rfl rfl) (.w 15 rfl rfl) [(((p - 3)/4:Nat):Int),-3,0,0,0,0,0,0,0,0,0,0,0,jTv3 p mz u,0,jTv1 p u,(u:Int)] rfl)
  go_wp2_with fail
  refine H.out.mono ?_
  rintro e w31 ⟨rfl,s⟩
  clear H S
  have S:=Lib.hid s
  clear s
  have H:=Lib.hid (S.out.sqr HB.out 14 rfl (.w 13 rfl rfl) [(((p - 3)/4:Nat):Int),-3,0,0,0,0,0,0,0,0,0,0,0,jTv3 p mz u,iMul p (jTv3 p mz u) (jTv3 p mz u),jTv1 p u,(u:Int)] rfl)
  go_wp2_with fail
  refine H.out.mono ?_
  rintro e w32 ⟨rfl,s⟩
  clear H S
  have S:=Lib.hid s
  clear s
  have H:=Lib.hid (S.out.add HB.out 10 rfl (.w 14 rfl rfl) (.w 13 rfl rfl) [(((p - 3)/4:Nat):Int),-3,0,0,0,0,0,0,0,0,jT p mz u,0,0,jTv3 p mz u,iMul p (jTv3 p mz u) (jTv3 p mz u),jTv1 p u,(u:Int)] rfl)
  go_wp2_with fail
  refine H.out.mono ?_
  rintro e w33 ⟨rfl,s⟩
  clear H S
  have S:=Lib.hid s
  clear s
  go_wp2_with fail
  refine (newInt_any _ 1 (by omega) (by omega)).mono ?_
  rintro e w34 hr
  obtain ⟨qn,rfl,hcall⟩:=S.out.add1 HB.out 9 rfl (.w 10 rfl rfl) (by rw [B64_eq];decide) [(((p - 3)/4:Nat):Int),-3,0,0,0,0,0,0,0,iAdd p (jT p mz u) (1),jT p mz u,0,0,jTv3 p mz u,iMul p (jTv3 p mz u) (jTv3 p mz u),jTv1 p u,(u:Int)] rfl hr
  have H:=Lib.hid hcall
  clear hr hcall S
  go_wp2_with fail
  refine H.out.mono ?_
  rintro e w35 ⟨rfl,s⟩
  clear H
  have S:=Lib.hid s
  clear s
  have H:=Lib.hid (S.out.mul HB.out 9 rfl (.w 9 rfl rfl) (.r 2 rfl rfl) [(((p - 3)/4:Nat):Int),-3,0,0,0,0,0,0,0,jN p B mz u,jT p mz u,0,0,jTv3 p mz u,iMul p (jTv3 p mz u) (jTv3 p mz u),jTv1 p u,(u:Int)] rfl)
  go_wp2_with fail
  refine H.out.mono ?_
  rintro e w36 ⟨rfl,s⟩
  clear H S
  have S:=Lib.hid s
  clear s
  have H:=Lib.hid (S.out.neg 12 1 rfl rfl rfl (by decide) [(((p - 3)/4:Nat):Int),-3,0,0,0,0,0,0,0,jN p B mz u,jT p mz u,0,3,jTv3 p mz u,iMul p (jTv3 p mz u) (jTv3 p mz u),jTv1 p u,(u:Int)] rfl)
  go_wp2_with fail
  refine H.out.mono ?_
  rintro e w37 ⟨rfl,s⟩
  clear H S
  have S:=Lib.hid s
  clear s
  have H:=Lib.hid (S.out.mul HB.out 10 rfl (.w 12 rfl rfl) (.w 10 rfl rfl) [(((p - 3)/4:Nat):Int),-3,0,0,0,0,0,0,0,jN p B mz u,jD1 p mz u,0,3,jTv3 p mz u,iMul p (jTv3 p mz u) (jTv3 p mz u),jTv1 p u,(u:Int)] rfl)
  go_wp2_with fail
  refine H.out.mono ?_
  rintro e w38 ⟨rfl,s⟩
  clear H S
  have S:=Lib.hid s
  clear s
  have H:=Lib.hid (S.out.sign (i:=jD1 p mz u) (.w 10 rfl rfl) (iq_bounds HP0.out _).1)
  go_wp2_with fail
  refine H.out.mono ?_
  rintro e w39 ⟨⟨s1,rfl,hs1⟩,hw'⟩
  obtain rfl:=hw'.symm
  have HB1:=Lib.hid (jD_eq p mz u)
  generalize decide (jD1 p mz u=0)=b1 at *
  clear H
  have H:=Lib.hid (S.out.mul HB.out 12 rfl (.r 0 rfl rfl) (.w 1 rfl rfl) [(((p - 3)/4:Nat):Int),-3,0,0,0,0,0,0,0,jN p B mz u,jD1 p mz u,0,iMul p (-(mz:Int)) (-3),jTv3 p mz u,iMul p (jTv3 p mz u) (jTv3 p mz u),jTv1 p u,(u:Int)] rfl)
  go_wp2_with fail
  refine H.out.mono ?_
  rintro e w40 ⟨rfl,s⟩
  clear H S
  have S:=Lib.hid s
  clear s
  have H:=Lib.hid (S.out.cmv 10 b1 rfl (.w 10 rfl rfl) (.w 12 rfl rfl) [(((p - 3)/4:Nat):Int),-3,0,0,0,0,0,0,0,jN p B mz u,jD p mz u,0,iMul p (-(mz:Int)) (-3),jTv3 p mz u,iMul p (jTv3 p mz u) (jTv3 p mz u),jTv1 p u,(u:Int)] (by rw [HB1.out];rfl))
  go_wp2_with fail
  refine H.out.mono ?_
  rintro e w41 ⟨rfl,s⟩
  clear H S
  have S:=Lib.hid s
  clear s HB1
  have H:=Lib.hid (S.out.sqr HB.out 14 rfl (.w 10 rfl rfl) [(((p - 3)/4:Nat):Int),-3,0,0,0,0,0,0,0,jN p B mz u,jD p mz u,0,iMul p (-(mz:Int)) (-3),jTv3 p mz u,jD2 p mz u,jTv1 p u,(u:Int)] rfl)
  go_wp2_with fail
  refine H.out.mono ?_
  rintro e w42 ⟨rfl,s⟩
  clear H S
  have S:=Lib.hid s
  clear s
  have H:=Lib.hid (S.out.mul HB.out 6 rfl (.w 14 rfl rfl) (.w 10 rfl rfl) [(((p - 3)/4:Nat):Int),-3,0,0,0,0,jD3 p mz u,0,0,jN p B mz u,jD p mz u,0,iMul p (-(mz:Int)) (-3),jTv3 p mz u,jD2 p mz u,jTv1 p u,(u:Int)] rfl)
  go_wp2_with fail
  refine H.out.mono ?_
  rintro e w43 ⟨rfl,s⟩
  clear H S
  have S:=Lib.hid s
  clear s
  have H:=Lib.hid (S.out.mul HB.out 14 rfl (.w 1 rfl rfl) (.w 14 rfl rfl) [(((p - 3)/4:Nat):Int),-3,0,0,0,0,jD3 p mz u,0,0,jN p B mz u,jD p mz u,0,iMul p (-(mz:Int)) (-3),jTv3 p mz u,iMul p (-3) (jD2 p mz u),jTv1 p u,(u:Int)] rfl)
  go_wp2_with fail
  refine H.out.mono ?_
  rintro e w44 ⟨rfl,s⟩
  clear H S
  have S:=Lib.hid s
  clear s
  have H:=Lib.hid (S.out.sqr HB.out 7 rfl (.w 9 rfl rfl) [(((p - 3)/4:Nat):Int),-3,0,0,0,0,jD3 p mz u,iMul p (jN p B mz u) (jN p B mz u),0,jN p B mz u,jD p mz u,0,iMul p (-(mz:Int)) (-3),jTv3 p mz u,iMul p (-3) (jD2 p mz u),jTv1 p u,(u:Int)] rfl)
  go_wp2_with fail
  refine H.out.mono ?_
  rintro e w45 ⟨rfl,s⟩
  clear H S
  have S:=Lib.hid s
  clear s
  have H:=Lib.hid (S.out.add HB.out 7 rfl (.w 7 rfl rfl) (.w 14 rfl rfl) [(((p - 3)/4:Nat):Int),-3,0,0,0,0,jD3 p mz u,iAdd p (iMul p (jN p B mz u) (jN p B mz u)) (iMul p (-3) (jD2 p mz u)),0,jN p B mz u,jD p mz u,0,iMul p (-(mz:Int)) (-3),jTv3 p mz u,iMul p (-3) (jD2 p mz u),jTv1 p u,(u:Int)] rfl)
  go_wp2_with fail
  refine H.out.mono ?_
  rintro e w46 ⟨rfl,s⟩
  clear H S
  have S:=Lib.hid s
  clear s
  have H:=Lib.hid (S.out.mul HB.out 7 rfl (.w 7 rfl rfl) (.w 9 rfl rfl) [(((p - 3)/4:Nat):Int),-3,0,0,0,0,jD3 p mz u,iMul p (iAdd p (iMul p (jN p B mz u) (jN p B mz u)) (iMul p (-3) (jD2 p mz u))) (jN p B mz u),0,jN p B mz u,jD p mz u,0,iMul p (-(mz:Int)) (-3),jTv3 p mz u,iMul p (-3) (jD2 p mz u),jTv1 p u,(u:Int)] rfl)
  go_wp2_with fail
  refine H.out.mono ?_
  rintro e w47 ⟨rfl,s⟩
  clear H S
  have S:=Lib.hid s
  clear s
  have H:=Lib.hid (S.out.mul HB.out 14 rfl (.r 2 rfl rfl) (.w 6 rfl rfl) [(((p - 3)/4:Nat):Int),-3,0,0,0,0,jD3 p mz u,iMul p (iAdd p (iMul p (jN p B mz u) (jN p B mz u)) (iMul p (-3) (jD2 p mz u))) (jN p B mz u),0,jN p B mz u,jD p mz u,0,iMul p (-(mz:Int)) (-3),jTv3 p mz u,iMul p ((B:Int)) (jD3 p mz u),jTv1 p u,(u:Int)] rfl)
  go_wp2_with fail
  refine H.out.mono ?_
  rintro e w48 ⟨rfl,s⟩
  clear H S
  have S:=Lib.hid s
  clear s
  have H:=Lib.hid (S.out.add HB.out 7 rfl (.w 7 rfl rfl) (.w 14 rfl rfl) [(((p - 3)/4:Nat):Int),-3,0,0,0,0,jD3 p mz u,jG p B mz u,0,jN p B mz u,jD p mz u,0,iMul p (-(mz:Int)) (-3),jTv3 p mz u,iMul p ((B:Int)) (jD3 p mz u),jTv1 p u,(u:Int)] rfl)
  go_wp2_with fail
  refine H.out.mono ?_
  rintro e w49 ⟨rfl,s⟩
  clear H S
  have S:=Lib.hid s
  clear s
  have H:=Lib.hid (S.out.sqr HB.out 12 rfl (.w 6 rfl rfl) [(((p - 3)/4:Nat):Int),-3,0,0,0,0,jD3 p mz u,jG p B mz u,0,jN p B mz u,jD p mz u,0,iMul p (jD3 p mz u) (jD3 p mz u),jTv3 p mz u,iMul p ((B:Int)) (jD3 p mz u),jTv1 p u,(u:Int)] rfl)
  go_wp2_with fail
  refine H.out.mono ?_
  rintro e w50 ⟨rfl,s⟩
  clear H S
  have S:=Lib.hid s
  clear s
  have H:=Lib.hid (S.out.mul HB.out 14 rfl (.w 7 rfl rfl) (.w 6 rfl rfl) [(((p - 3)/4:Nat):Int),-3,0,0,0,0,jD3 p mz u,jG p B mz u,0,jN p B mz u,jD p mz u,0,iMul p (jD3 p mz u) (jD3 p mz u),jTv3 p mz u,jS p B mz u,jTv1 p u,(u:Int)] rfl)
  go_wp2_with fail
  refine H.out.mono ?_
  rintro e w51 ⟨rfl,s⟩
  clear H S
  have S:=Lib.hid s
  clear s
  have H:=Lib.hid (S.out.mul HB.out 12 rfl (.w 12 rfl rfl) (.w 14 rfl rfl) [(((p - 3)/4:Nat):Int),-3,0,0,0,0,jD3 p mz u,jG p B mz u,0,jN p B mz u,jD p mz u,0,jE p B mz u,jTv3 p mz u,jS p B mz u,jTv1 p u,(u:Int)] rfl)
  go_wp2_with fail
  refine H.out.mono ?_
  rintro e w52 ⟨rfl,s⟩
  clear H S
  have S:=Lib.hid s
  clear s
  have H:=Lib.hid (S.out.exp HB.out 5 12 0 rfl rfl rfl rfl rfl (by decide) (by decide) (iq_bounds HP0.out _).1 (iq_bounds HP0.out _).2 (by have:=HP.out.2.1;omega) (by have:=HP.out.2.2.2.1;omega) [(((p - 3)/4:Nat):Int),-3,0,0,0,iq p (jE p B mz u^((p - 3)/4)),jD3 p mz u,jG p B mz u,0,jN p B mz u,jD p mz u,0,jE p B mz u,jTv3 p mz u,jS p B mz u,jTv1 p u,(u:Int)] rfl)
  go_wp2_with fail
  refine H.out.mono ?_
  rintro e w53 ⟨rfl,s⟩
  clear H S
  have S:=Lib.hid s
  clear s
  have H:=Lib.hid (S.out.mul HB.out 5 rfl (.w 5 rfl rfl) (.w 14 rfl rfl) [(((p - 3)/4:Nat):Int),-3,0,0,0,jY1 p B mz u,jD3 p mz u,jG p B mz u,0,jN p B mz u,jD p mz u,0,jE p B mz u,jTv3 p mz u,jS p B mz u,jTv1 p u,(u:Int)] rfl)
  go_wp2_with fail
  refine H.out.mono ?_
  rintro e w54 ⟨rfl,s⟩
  clear H S
  have S:=Lib.hid s
  clear s
  have H:=Lib.hid (S.out.mul HB.out 8 rfl (.w 13 rfl rfl) (.w 9 rfl rfl) [(((p - 3)/4:Nat):Int),-3,0,0,0,jY1 p B mz u,jD3 p mz u,jG p B mz u,jN2 p B mz u,jN p B mz u,jD p mz u,0,jE p B mz u,jTv3 p mz u,jS p B mz u,jTv1 p u,(u:Int)] rfl)
  go_wp2_with fail
  refine H.out.mono ?_
  rintro e w55 ⟨rfl,s⟩
  clear H S
  have S:=Lib.hid s
  clear s
  have H:=Lib.hid (S.out.mul HB.out 4 rfl (.w 5 rfl rfl) (.r 1 rfl rfl) [(((p - 3)/4:Nat):Int),-3,0,0,iMul p (jY1 p B mz u) ((C2:Int)),jY1 p B mz u,jD3 p mz u,jG p B mz u,jN2 p B mz u,jN p B mz u,jD p mz u,0,jE p B mz u,jTv3 p mz u,jS p B mz u,jTv1 p u,(u:Int)] rfl)
  go_wp2_with fail
  refine H.out.mono ?_
  rintro e w56 ⟨rfl,s⟩
  clear H S
  have S:=Lib.hid s
  clear s
  have H:=Lib.hid (S.out.mul HB.out 4 rfl (.w 4 rfl rfl) (.w 15 rfl rfl) [(((p - 3)/4:Nat):Int),-3,0,0,iMul p (iMul p (jY1 p B mz u) ((C2:Int))) (jTv1 p u),jY1 p B mz u,jD3 p mz u,jG p B mz u,jN2 p B mz u,jN p B mz u,jD p mz u,0,jE p B mz u,jTv3 p mz u,jS p B mz u,jTv1 p u,(u:Int)] rfl)
  go_wp2_with fail
  refine H.out.mono ?_
  rintro e w57 ⟨rfl,s⟩
  clear H S
  have S:=Lib.hid s
  clear s
  have H:=Lib.hid (S.out.mul HB.out 4 rfl (.w 4 rfl rfl) (.w 16 rfl rfl) [(((p - 3)/4:Nat):Int),-3,0,0,jY2 p B mz u C2,jY1 p B mz u,jD3 p mz u,jG p B mz u,jN2 p B mz u,jN p B mz u,jD p mz u,0,jE p B mz u,jTv3 p mz u,jS p B mz u,jTv1 p u,(u:Int)] rfl)
  go_wp2_with fail
  refine H.out.mono ?_
  rintro e w58 ⟨rfl,s⟩
  clear H S
  have S:=Lib.hid s
  clear s
  have H:=Lib.hid (S.out.sqr HB.out 14 rfl (.w 5 rfl rfl) [(((p - 3)/4:Nat):Int),-3,0,0,jY2 p B mz u C2,jY1 p B mz u,jD3 p mz u,jG p B mz u,jN2 p B mz u,jN p B mz u,jD p mz u,0,jE p B mz u,jTv3 p mz u,iMul p (jY1 p B mz u) (jY1 p B mz u),jTv1 p u,(u:Int)] rfl)
  go_wp2_with fail
  refine H.out.mono ?_
  rintro e w59 ⟨rfl,s⟩
  clear H S
  have S:=Lib.hid s
  clear s
  have H:=Lib.hid (S.out.mul HB.out 14 rfl (.w 14 rfl rfl) (.w 6 rfl rfl) [(((p - 3)/4:Nat):Int),-3,0,0,jY2 p B mz u C2,jY1 p B mz u,jD3 p mz u,jG p B mz u,jN2 p B mz u,jN p B mz u,jD p mz u,0,jE p B mz u,jTv3 p mz u,iMul p (iMul p (jY1 p B mz u) (jY1 p B mz u)) (jD3 p mz u),jTv1 p u,(u:Int)] rfl)
  go_wp2_with fail
  refine H.out.mono ?_
  rintro e w60 ⟨rfl,s⟩
  clear H S
  have S:=Lib.hid s
  clear s
  have H:=Lib.hid (S.out.cmp 14 7 rfl rfl rfl rfl (by decide) (iq_bounds HP0.out _).1 (iq_bounds HP0.out _).1)
  go_wp2_with fail
  refine H.out.mono ?_
  rintro e w61 ⟨⟨s2,rfl,hs2⟩,s⟩
  have hs2':(s2 == 0)=jOk p B mz u:=hs2
  clear H S hs2
  have S:=Lib.hid s
  clear s
  have H:=Lib.hid (S.out.cmv 11 (jOk p B mz u) rfl (.w 8 rfl rfl) (.w 9 rfl rfl) [(((p - 3)/4:Nat):Int),-3,0,0,jY2 p B mz u C2,jY1 p B mz u,jD3 p mz u,jG p B mz u,jN2 p B mz u,jN p B mz u,jD p mz u,(if jOk p B mz u then jN p B mz u else jN2 p B mz u),jE p B mz u,jTv3 p mz u,iMul p (iMul p (jY1 p B mz u) (jY1 p B mz u)) (jD3 p mz u),jTv1 p u,(u:Int)] rfl)
  go_wp2_with fail
  refine H.out.mono ?_
  rintro e w62 ⟨rfl,s⟩
  clear H S
  have S:=Lib.hid s
  clear s
  have H:=Lib.hid (S.out.cmv 2 (jOk p B mz u) rfl (.w 4 rfl rfl) (.w 5 rfl rfl) [(((p - 3)/4:Nat):Int),-3,jYc p B mz u C2,0,jY2 p B mz u C2,jY1 p B mz u,jD3 p mz u,jG p B mz u,jN2 p B mz u,jN p B mz u,jD p mz u,(if jOk p B mz u then jN p B mz u else jN2 p B mz u),jE p B mz u,jTv3 p mz u,iMul p (iMul p (jY1 p B mz u) (jY1 p B mz u)) (jD3 p mz u),jTv1 p u,(u:Int)] rfl)
  go_wp2_with fail
  refine H.out.mono ?_
  rintro e w63 ⟨rfl,s⟩
  clear H S
  have S:=Lib.hid s
  clear s
  clear hs2'
  have H:=Lib.hid (S.out.sgn HB.out 16 rfl rfl (by omega) (by have:=HP.out.2.2.1;omega))
  obtain ⟨b3,hb3⟩:∃ b,(((u%2:Nat):Int) == (((jYc p B mz u C2).natAbs%2:Nat):Int))=b:=⟨_,rfl⟩
  have HB3:=Lib.hid (jY_eq p B mz u C2 HP0.out hb3)
  rw [Int.natAbs_natCast] at H
  generalize u%2=r1 at *
  generalize hr2:(jYc p B mz u C2).natAbs%2=r2 at *
  have HR2:=Lib.hid hr2
  clear hr2
  go_wp2_with fail
  refine H.out.mono ?_
  rintro e w64 ⟨rfl,s⟩
  clear H S
  have S:=Lib.hid s
  clear s
  have H:=Lib.hid (S.out.sgn HB.out 2 rfl rfl (jYc_bounds HP0.out B mz u C2).1 (jYc_bounds HP0.out B mz u C2).2)
  rw [HR2.out] at H
  go_wp2_with fail
  refine H.out.mono ?_
  rintro e w65 ⟨rfl,s⟩
  clear H S HR2
  have S:=Lib.hid s
  clear s
  have H:=Lib.hid (S.out.neg 15 2 rfl rfl rfl (by decide) [(((p - 3)/4:Nat):Int),-3,jYc p B mz u C2,0,jY2 p B mz u C2,jY1 p B mz u,jD3 p mz u,jG p B mz u,jN2 p B mz u,jN p B mz u,jD p mz u,(if jOk p B mz u then jN p B mz u else jN2 p B mz u),jE p B mz u,jTv3 p mz u,iMul p (iMul p (jY1 p B mz u) (jY1 p B mz u)) (jD3 p mz u),-jYc p B mz u C2,(u:Int)] rfl)
  go_wp2_with fail
  refine H.out.mono ?_
  rintro e w66 ⟨rfl,s⟩
  clear H S
  have S:=Lib.hid s
  clear s
  have H:=Lib.hid (S.out.cmv 2 b3 rfl (.w 15 rfl rfl) (.w 2 rfl rfl) [(((p - 3)/4:Nat):Int),-3,(if b3=true then jYc p B mz u C2 else -jYc p B mz u C2),0,jY2 p B mz u C2,jY1 p B mz u,jD3 p mz u,jG p B mz u,jN2 p B mz u,jN p B mz u,jD p mz u,(if jOk p B mz u then jN p B mz u else jN2 p B mz u),jE p B mz u,jTv3 p mz u,iMul p (iMul p (jY1 p B mz u) (jY1 p B mz u)) (jD3 p mz u),-jYc p B mz u C2,(u:Int)] rfl)
  go_wp2_with fail
  refine H.out.mono ?_
  rintro e w67 ⟨rfl,s⟩
  clear H S hb3
  have S:=Lib.hid s
  clear s
  have cb:=S.out.cap 0 rfl
  obtain ⟨g,hg⟩:∃ g:Nat,jD p mz u=(g:Int):=⟨(jD p mz u).toNat,by have:=(jD_bounds HP0.out mz u).1;omega⟩
  have hgb:0<g∧g<p:=by have h1:=jD_bounds HP0.out mz u;have h2:=HP.out.2.2.2.2.2;rw [hg] at h1 h2;omega
  have H:=Lib.hid (S.out.inv HB.out 15 10 (g:=g) rfl rfl (by rw [← hg];rfl) (by decide) hgb.1 hgb.2 (gcd_prime HP.out.1 hgb.1 hgb.2))
  have HG:=Lib.hid (And.intro hg hgb)
  clear hg hgb
  go_wp2_with fail
  refine H.out.mono ?_
  rintro e w68 ⟨rfl,t,ht,hti,s⟩
  have HT:Hid (t<p∧iMul p (jD p mz u) (t:Int)=1):=Lib.hid ⟨ht,by
    rw [HG.out.1]
    show ((g:Int)*(t:Int))%(p:Int)=1
    rw [← Int.natCast_mul,← Int.natCast_emod,Nat.mul_comm,hti];rfl⟩
  clear H S ht hti HG cb
  have S:=Lib.hid s
  clear s
  have H:=Lib.hid (S.out.mul HB.out 3 rfl (.w 11 rfl rfl) (.w 15 rfl rfl) [(((p - 3)/4:Nat):Int),-3,(if b3=true then jYc p B mz u C2 else -jYc p B mz u C2),jX p B mz u (t:Int),jY2 p B mz u C2,jY1 p B mz u,jD3 p mz u,jG p B mz u,jN2 p B mz u,jN p B mz u,jD p mz u,(if jOk p B mz u then jN p B mz u else jN2 p B mz u),jE p B mz u,jTv3 p mz u,iMul p (iMul p (jY1 p B mz u) (jY1 p B mz u)) (jD3 p mz u),(t:Int),(u:Int)] rfl)
  go_wp2_with fail
  refine H.out.mono ?_
  rintro e w69 ⟨rfl,s⟩
  clear H S
  have S:=Lib.hid s
  clear s
  have cb:=S.out.cap 0 rfl
  have H:=Lib.hid (S.out.mod HB.out 2 rfl rfl [(((p - 3)/4:Nat):Int),-3,jY p B mz u C2,jX p B mz u (t:Int),jY2 p B mz u C2,jY1 p B mz u,jD3 p mz u,jG p B mz u,jN2 p B mz u,jN p B mz u,jD p mz u,(if jOk p B mz u then jN p B mz u else jN2 p B mz u),jE p B mz u,jTv3 p mz u,iMul p (iMul p (jY1 p B mz u) (jY1 p B mz u)) (jD3 p mz u),(t:Int),(u:Int)] (by rw [HB3.out];rfl))
  go_wp2_with fail
  refine H.out.mono ?_
  rintro e w70 ⟨rfl,s⟩
  clear H S cb
  have S:=Lib.hid s
  clear s
  have k0:=S.out.cap 1 rfl
  have k1:=S.out.cap 2 rfl
  have RES:=Lib.hid (S.out.map (p:=p) (B:=B) (mz:=mz) (u:=u) (C2:=C2) (t:=t) (.iface 125 (.pointer (some ⟨prm,0,none⟩))) (.slice (some ⟨go,0,none⟩) L L) HT.out.1 HT.out.2 rfl rfl rfl rfl)
  clear S
  go_wp2_with fail
  go_ret
  exact RES.out
end Go.Proofs.YtpfmbfkhjapbbaaGreatDoor
