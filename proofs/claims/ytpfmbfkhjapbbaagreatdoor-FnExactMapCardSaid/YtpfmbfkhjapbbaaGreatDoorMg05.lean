/-
  big's Int.SetString on a text of digits, and elliptic's bigFromDecimal, bigFromHex: a new Int of the number that the text tells. Conditions: 1 to 1000 digits; io.EOF holds an errors.errorString's pointer.
  elliptic's P256, P384, P521: a new CurveParams whose numbers are those of the curve; cggroup's orders by their bytes, its groups, and impl.groupOf. Condition: io.EOF holds an errors.errorString's pointer. Its lines that are alike from curve to curve were printed by a program (gencurves.py).
  Rows of words, more: addVV, subVV; copy of a row of words; addVW, subVW. Conditions as in Vecs.
-/
import Derived.Test.YtpfmbfkhjapbbaaGreatDoorMg03
import Derived.Test.YtpfmbfkhjapbbaaGreatDoorMg04
import Derived.Test.YtpfmbfkhjapbbaaGreatDoorMScanHex
import Derived.KernelRfl
import Derived.Handy
set_option linter.unusedVariables false
set_option linter.unusedSimpArgs false
namespace Go.Proofs.YtpfmbfkhjapbbaaGreatDoor
section
open Go Go.RowKit
structure IntIs (w:World) (p:Nat) (neg:Bool) (a:Option Addr) (n c:Nat) (f:Nat→Nat) (m:Nat):Prop where
  cells:w.heap[p]? = some (.cells #[.bool neg,.slice a n c] 51 (0,0))
  num:NatIs w a n c f m
  apart:∀ A,a=some A→A.block≠p
theorem IntIs.mod {w w':World} {p:Nat} {neg:Bool} {a:Option Addr} {n c:Nat} {f:Nat→Nat} {m:Nat} {M:Places} (h:IntIs w p neg a n c f m) (hm:Mod M w w') (hp:∀ o,¬ M p o) (ha:Off a M):IntIs w' p neg a n c f m :=
  ⟨by rw [hm.heap (lt_of_heap h.cells) hp,h.cells],h.num.mod hm ha,h.apart⟩
theorem heap_set {w:World} {b:Nat} {C:Array Value} {t:TypeId} {fr:Nat × Nat} (h:w.heap[b]? = some (.cells C t fr)) (o:Nat) (v:Value):(w.setCell ⟨b,o,none⟩ v).heap[b]? = some (.cells (C.setIfInBounds o v) t fr):=by
  simp [World.setCell,Array.getElem?_modify,h]
theorem heap_set_other {w:World} {b k:Nat} (h:k≠b) (o:Nat) (v:Value):(w.setCell ⟨b,o,none⟩ v).heap[k]? = w.heap[k]? := Below.heap_setCell w ⟨b,o,none⟩ v k h
def Scans (base:Int) (s:ByteArray) (v:Nat):Prop :=
  ∀ (rb:Nat) (w:World) (ea:Addr),Rd w rb s 0→Eof w ea→0<rb →
    Calls Tryz.prog 122 #[.slice none 0 0,.iface 149 (.pointer (some ⟨rb,0,none⟩)),.int .i64 base,.bool false] w fun e w' =>
      ∃ (a:Option Addr) (n c:Nat) (f:Nat→Nat) (bb cc:Int),e=.returned (.tuple #[.slice a n c,.int .i64 bb,.int .i64 cc,.nilIface])∧NatIs w' a n c f v∧(a=none∨Fresh w a)∧Mod (InB rb) w w'∧Rd w' rb s s.size
theorem scans10 {s:ByteArray} {D:Nat→Nat} (hD:∀ j,(h:j<s.size)→s[j].toNat=48+D j∧D j<10) (hs:0<s.size) (hs2:s.size≤1000):Scans 10 s (numOf 10 D s.size) :=
  fun rb w ea hR hE hrb=>(scan10 rb s w ea D hD hR hE hs hs2 hrb).mono fun e w' ⟨a,n,c,f,h⟩=>⟨a,n,c,f,_,_,h⟩
theorem scans16 {s:ByteArray} {D C:Nat→Nat} (hC:∀ j,(h:j<s.size)→s[j].toNat=C j) (hD:∀ j,j<s.size→(C j=48+D j∧D j<10)∨(C j=87+D j∧10≤D j∧D j<16)) (hs:0<s.size) (hs2:s.size≤1000):Scans 16 s (numOf 16 D s.size) :=
  fun rb w ea hR hE hrb=>(scan16 rb s w ea D C hC hD hR hE hs hs2 hrb).mono fun e w' ⟨a,n,c,f,h⟩=>⟨a,n,c,f,_,_,h⟩
def ScanPost (p rb:Nat) (s:ByteArray) (v:Nat) (w:World) (e:Ending) (w':World):Prop :=
  ∃ (a:Option Addr) (n c:Nat) (f:Nat→Nat) (bb:Int),e=.returned (.tuple #[.pointer (some ⟨p,0,none⟩),.int .i64 bb,.nilIface])∧IntIs w' p false a n c f v∧(a=none∨Fresh w a)∧Mod (fun k _=>k=p∨k=rb) w w'∧Rd w' rb s s.size
set_option maxHeartbeats 400000 in
theorem int_scan (p rb:Nat) (s:ByteArray) (w:World) (ea:Addr) (base:Int) (v:Nat) (hsc:Scans base s v) (hR:Rd w rb s 0) (hE:Eof w ea) (hs:0<s.size) (hs2:s.size≤1000) (h1:s[0].toNat≠45) (h2:s[0].toNat≠43) (hrb:0<rb)
    (hp:w.heap[p]? = some (.cells #[.bool false,.slice none 0 0] 51 (0,0))) (hpr:p≠rb) :
    Calls Tryz.prog 108 #[.pointer (some ⟨p,0,none⟩),.iface 149 (.pointer (some ⟨rb,0,none⟩)),.int .i64 base] w (ScanPost p rb s v w):=by
  have hpl:=lt_of_heap hp
  go_enter Tryz.func108,Tryz.ntmps108
  go_wp2_with fail
  refine (scanSign_any rb s _ hR (by omega) hs h1 h2).mono ?_
  rintro e w1 ⟨rfl,hR1,hm1⟩
  have hp1:w1.heap[p]? = some (.cells #[.bool false,.slice none 0 0] 51 (0,0)):=by rw [hm1.heap hpl (fun o h=>hpr h),hp]
  have c1:w1.cell? ⟨p,1,none⟩=some (.slice none 0 0):=by rw [cell?_of_heap hp1];rfl
  go_wp2_with fail
  refine (hsc rb _ ea hR1 (hm1.cell_some hE fun h=>by unfold InB at h;omega) hrb).mono ?_
  rintro e w2 ⟨a,n,c,f,bb,cc,rfl,hN,hhere,hm2,hR2⟩
  have hp2:w2.heap[p]? = some (.cells #[.bool false,.slice none 0 0] 51 (0,0)):=by rw [hm2.heap (lt_of_heap hp1) (fun o h=>hpr h),hp1]
  have c20:w2.cell? ⟨p,0,none⟩=some (.bool false):=by rw [cell?_of_heap hp2];rfl
  have c21:w2.cell? ⟨p,1,none⟩=some (.slice none 0 0):=by rw [cell?_of_heap hp2];rfl
  have f20:=free_of_heap hp2 0
  have f21:=free_of_heap hp2 1
  have HN:=Lib.hid hN
  clear hN
  go_wp2_with fail
  all_goals
    go_ret3
    have h4:=heap_set (heap_set hp2 1 (.slice a n c)) 0 (.bool false)
    have hpo:∀ A,a=some A→A.block≠p:=by
      intro A hA
      rcases hhere with rfl | ⟨k,e,hk⟩
      · cases hA
      · have h5:A.block=k:=congrArg Addr.block (Option.some.inj (hA.symm.trans e))
        have:=hm1.size
        omega
    have hmm:Mod (fun k _=>k=p∨k=rb) w2 ((w2.setCell ⟨p,1,none⟩ (.slice a n c)).setCell ⟨p,0,none⟩ (.bool false)) :=
      ((mod_own w2 p 1 _).mono fun _ _ _ h=>.inl h).trans ((mod_own _ p 0 _).mono fun _ _ _ h=>.inl h)
    have hw2:Mod (fun k _=>k=p∨k=rb) w w2:=(hm1.trans hm2).mono fun _ _ _ h=>.inr h
    refine ⟨a,n,c,f,bb,rfl,⟨h4,HN.out.mod hmm fun A hA o => ?_,hpo⟩,?_,hw2.trans hmm,?_⟩
    · have h5:=hpo A hA
      intro h6
      rcases h6 with h6 | h6
      · exact h5 h6
      · rcases hhere with rfl | ⟨k,e,hk⟩
        · cases hA
        · have h7:A.block=k:=congrArg Addr.block (Option.some.inj (hA.symm.trans e))
          obtain ⟨q,hq⟩:=hR1
          have:=lt_of_heap hq
          omega
    · rcases hhere with h | h
      · exact .inl h
      · exact .inr (h.mono hm1.size)
    · obtain ⟨q,hq⟩:=hR2
      exact ⟨q,by rw [heap_set_other (Ne.symm hpr),heap_set_other (Ne.symm hpr),hq]⟩
set_option maxHeartbeats 400000 in
theorem setFromScanner_any (p rb:Nat) (s:ByteArray) (w:World) (ea:Addr) (base:Int) (v:Nat) (hsc:Scans base s v) (hR:Rd w rb s 0) (hE:Eof w ea) (hs:0<s.size) (hs2:s.size≤1000) (h1:s[0].toNat≠45) (h2:s[0].toNat≠43) (hrb:0<rb) (hp0:0<p)
    (hp:w.heap[p]? = some (.cells #[.bool false,.slice none 0 0] 51 (0,0))) (hpr:p≠rb) :
    Calls Tryz.prog 88 #[.pointer (some ⟨p,0,none⟩),.iface 149 (.pointer (some ⟨rb,0,none⟩)),.int .i64 base] w fun e w' =>
      ∃ (a:Option Addr) (n c:Nat) (f:Nat→Nat),e=.returned (.tuple #[.pointer (some ⟨p,0,none⟩),.bool true])∧IntIs w' p false a n c f v∧(a=none∨Fresh w a)∧Mod (fun k _=>k=p∨k=rb) w w':=by
  have hpl:=lt_of_heap hp
  have hneq:=eof_neq ea
  have hrl:rb<w.heap.size:=by obtain ⟨q,hq⟩:=hR;exact lt_of_heap hq
  go_enter Tryz.func88,Tryz.ntmps88
  go_wp2_with fail
  refine (int_scan p rb s _ ea base v hsc hR hE hs hs2 h1 h2 hrb hp hpr).mono ?_
  rintro e w1 ⟨a,n,c,f,bb,rfl,hI,hhere,hm1,hR1⟩
  have hE1:Eof w1 ea:=hm1.cell_some hE (by rintro (h | h) <;> omega)
  go_wp2_with fail
  refine (readByte_end rb s _ _ hR1 (by omega) hE1 ⟨_,_,rfl⟩ hrb).mono ?_
  rintro e w2 ⟨rfl,hR2,hm2⟩
  have hE2:w2.cell? ⟨0,0,none⟩=some (.iface 254 (.pointer (some ea))):=hm2.cell_some hE1 fun h=>by unfold InB at h;omega
  have hI2:IntIs w2 p false a n c f v:=hI.mod hm2 (fun o h=>hpr h) (off_reader hhere hrl)
  clear hI
  go_wp2_with fail
  go_ret2
  exact ⟨a,n,c,f,rfl,hI2,hhere,hm1.trans (hm2.mono fun _ _ _ h=>.inr h)⟩
set_option maxHeartbeats 400000 in
theorem setString_any (p:Nat) (s:ByteArray) (w:World) (ea:Addr) (base:Int) (v:Nat) (hsc:Scans base s v) (hE:Eof w ea) (hs:0<s.size) (hs2:s.size≤1000) (h1:s[0].toNat≠45) (h2:s[0].toNat≠43) (hp0:0<p)
    (hp:w.heap[p]? = some (.cells #[.bool false,.slice none 0 0] 51 (0,0))) :
    Calls Tryz.prog 79 #[.pointer (some ⟨p,0,none⟩),.string s,.int .i64 base] w fun e w' =>
      ∃ (a:Option Addr) (n c:Nat) (f:Nat→Nat),e=.returned (.tuple #[.pointer (some ⟨p,0,none⟩),.bool true])∧IntIs w' p false a n c f v∧(a=none∨Fresh w a)∧Mod (InB p) w w':=by
  have hpl:=lt_of_heap hp
  go_enter Tryz.func79,Tryz.ntmps79
  go_wp2_with fail
  refine (newReader_any s _).mono ?_
  rintro e w1 ⟨rfl,rfl⟩
  go_wp2_with fail
  refine (setFromScanner_any p w.heap.size s _ ea base v hsc ⟨-1,heap_alloc_new w _⟩ ?_ hs hs2 h1 h2 (by omega) hp0 (by rw [heap_alloc_old w _ hpl,hp]) (by omega)).mono ?_
  · exact ((Mod.refl NoP w).alloc _).cell_some hE fun h=>h
  rintro e w2 ⟨a,n,c,f,rfl,hI,hhere,hm2⟩
  go_wp2_with fail
  go_ret2
  refine ⟨a,n,c,f,rfl,hI,?_,((Mod.refl (InB p) w).alloc _).trans' hm2 fun k o hk h => ?_⟩
  · rcases hhere with h | h
    · exact .inl h
    · exact .inr (h.mono (by simp))
  · rcases h with h | h
    · exact h
    · omega
theorem bigFromDecimal_any (s:ByteArray) (w:World) (ea:Addr) (v:Nat) (hsc:Scans 10 s v) (hE:Eof w ea) (hs:0<s.size) (hs2:s.size≤1000) (h1:s[0].toNat≠45) (h2:s[0].toNat≠43) :
    Calls Tryz.prog 85 #[.string s] w fun e w' =>
      ∃ (a:Option Addr) (n c:Nat) (f:Nat→Nat),e=.returned (.pointer (some ⟨w.heap.size,0,none⟩))∧IntIs w' w.heap.size false a n c f v∧(a=none∨Fresh w a)∧Mod NoP w w':=by
  have h0:0<w.heap.size:=lt_of_cell? hE
  go_enter Tryz.func85,Tryz.ntmps85
  go_wp2_with fail
  refine (setString_any w.heap.size s _ ea 10 v hsc (((Mod.refl NoP w).alloc _).cell_some hE fun h=>h) hs hs2 h1 h2 h0 (heap_alloc_new w _)).mono ?_
  rintro e w2 ⟨a,n,c,f,rfl,hI,hhere,hm2⟩
  go_wp2_with fail
  go_ret
  refine ⟨a,n,c,f,rfl,hI,?_,((Mod.refl NoP w).alloc _).trans' hm2 fun k o hk h => ?_⟩
  · rcases hhere with h | h
    · exact .inl h
    · exact .inr (h.mono (by simp))
  · unfold InB at h;omega
theorem bigFromHex_any (s:ByteArray) (w:World) (ea:Addr) (v:Nat) (hsc:Scans 16 s v) (hE:Eof w ea) (hs:0<s.size) (hs2:s.size≤1000) (h1:s[0].toNat≠45) (h2:s[0].toNat≠43) :
    Calls Tryz.prog 86 #[.string s] w fun e w' =>
      ∃ (a:Option Addr) (n c:Nat) (f:Nat→Nat),e=.returned (.pointer (some ⟨w.heap.size,0,none⟩))∧IntIs w' w.heap.size false a n c f v∧(a=none∨Fresh w a)∧Mod NoP w w':=by
  have h0:0<w.heap.size:=lt_of_cell? hE
  go_enter Tryz.func86,Tryz.ntmps86
  go_wp2_with fail
  refine (setString_any w.heap.size s _ ea 16 v hsc (((Mod.refl NoP w).alloc _).cell_some hE fun h=>h) hs hs2 h1 h2 h0 (heap_alloc_new w _)).mono ?_
  rintro e w2 ⟨a,n,c,f,rfl,hI,hhere,hm2⟩
  go_wp2_with fail
  go_ret
  refine ⟨a,n,c,f,rfl,hI,?_,((Mod.refl NoP w).alloc _).trans' hm2 fun k o hk h => ?_⟩
  · rcases hhere with h | h
    · exact .inl h
    · exact .inr (h.mono (by simp))
  · unfold InB at h;omega
end
section
open Go Go.RowKit
def chr (s:ByteArray) (j:Nat):Nat:=(s.data.getD j 0).toNat
def dig10 (s:ByteArray) (j:Nat):Nat:=chr s j - 48
def dig16 (s:ByteArray) (j:Nat):Nat:=if chr s j<58 then chr s j - 48 else chr s j - 87
def ok10 (s:ByteArray):Bool:=decide (0<s.size) && decide (s.size≤1000) && (List.range s.size).all fun j=>decide (48≤chr s j) && decide (chr s j<58)
def ok16 (s:ByteArray):Bool:=decide (0<s.size) && decide (s.size≤1000) && (List.range s.size).all fun j=>(decide (48≤chr s j) && decide (chr s j<58)) || (decide (97≤chr s j) && decide (chr s j<103))
theorem chr_eq (s:ByteArray) (j:Nat) (h:j<s.size):s[j].toNat=chr s j:=by
  have h':j<s.data.size:=h
  unfold chr
  rw [Array.getD_eq_getD_getElem?,Array.getElem?_eq_getElem h']
  rfl
def IntAt (w:World) (lo p v:Nat):Prop:=∃ (a:Option Addr) (n c:Nat) (f:Nat→Nat),IntIs w p false a n c f v∧lo≤p∧∀ A,a=some A→lo≤A.block
def NewInt (v:Nat) (w:World) (e:Ending) (w':World):Prop:=e=.returned (.pointer (some ⟨w.heap.size,0,none⟩))∧IntAt w' w.heap.size w.heap.size v∧Mod NoP w w'
theorem IntAt.mod {w w':World} {lo p v:Nat} (h:IntAt w lo p v) {M:Places} (hm:Mod M w w') (hM:∀ k o,lo≤k→¬ M k o):IntAt w' lo p v:=by
  obtain ⟨a,n,c,f,h1,h2,h3⟩:=h
  exact ⟨a,n,c,f,h1.mod hm (fun o=>hM _ _ h2) fun A hA o=>hM _ _ (h3 A hA),h2,h3⟩
theorem IntAt.lower {w:World} {lo lo' p v:Nat} (h:IntAt w lo p v) (hl:lo'≤lo):IntAt w lo' p v:=by
  obtain ⟨a,n,c,f,h1,h2,h3⟩:=h
  exact ⟨a,n,c,f,h1,by omega,fun A hA=>by have:=h3 A hA;omega⟩
theorem fresh_lo {w:World} {a:Option Addr} (h:a=none∨Fresh w a):∀ A,a=some A→w.heap.size≤A.block:=by
  intro A hA
  rcases h with rfl | ⟨k,e,hk⟩
  · cases hA
  · have:A.block=k:=congrArg Addr.block (Option.some.inj (hA.symm.trans e))
    omega
theorem dec_new (s:ByteArray) (h:ok10 s=true) (w:World) (ea:Addr) (hE:Eof w ea):Calls Tryz.prog 85 #[.string s] w (NewInt (numOf 10 (dig10 s) s.size) w):=by
  simp only [ok10,Bool.and_eq_true,decide_eq_true_eq,List.all_eq_true,List.mem_range] at h
  obtain ⟨⟨h1,h2⟩,h3⟩:=h
  have h0:=h3 0 h1
  rw [← chr_eq s 0 h1] at h0
  refine (bigFromDecimal_any s w ea _ (scans10 (D:=dig10 s) (fun j hj => ?_) h1 h2) hE h1 h2 (by omega) (by omega)).mono ?_
  · have:=h3 j hj
    rw [chr_eq]
    unfold dig10
    omega
  · rintro e w' ⟨a,n,c,f,rfl,hI,hh,hm⟩
    exact ⟨rfl,⟨a,n,c,f,hI,Nat.le_refl _,fresh_lo hh⟩,hm⟩
theorem hex_new (s:ByteArray) (h:ok16 s=true) (w:World) (ea:Addr) (hE:Eof w ea):Calls Tryz.prog 86 #[.string s] w (NewInt (numOf 16 (dig16 s) s.size) w):=by
  simp only [ok16,Bool.and_eq_true,Bool.or_eq_true,decide_eq_true_eq,List.all_eq_true,List.mem_range] at h
  obtain ⟨⟨h1,h2⟩,h3⟩:=h
  have h0:=h3 0 h1
  rw [← chr_eq s 0 h1] at h0
  refine (bigFromHex_any s w ea _ (scans16 (D:=dig16 s) (C:=chr s) (fun j hj=>chr_eq s j hj) (fun j hj => ?_) h1 h2) hE h1 h2 (by omega) (by omega)).mono ?_
  · have:=h3 j hj
    unfold dig16
    split <;> omega
  · rintro e w' ⟨a,n,c,f,rfl,hI,hh,hm⟩
    exact ⟨rfl,⟨a,n,c,f,hI,Nat.le_refl _,fresh_lo hh⟩,hm⟩
def CurveIs (w:World) (lo p bits P N B X Y:Nat):Prop :=
  ∃ (bp bn bb bx bY:Nat) (nm:ByteArray),w.heap[p]? = some (.cells #[.pointer (some ⟨bp,0,none⟩),.pointer (some ⟨bn,0,none⟩),.pointer (some ⟨bb,0,none⟩),.pointer (some ⟨bx,0,none⟩),.pointer (some ⟨bY,0,none⟩),.int .i64 bits,.string nm] 138 (0,0))∧lo≤p ∧
    IntAt w lo bp P∧IntAt w lo bn N∧IntAt w lo bb B∧IntAt w lo bx X∧IntAt w lo bY Y
theorem CurveIs.mod {w w':World} {lo p bits P N B X Y:Nat} (h:CurveIs w lo p bits P N B X Y) {M:Places} (hm:Mod M w w') (hM:∀ k o,lo≤k→¬ M k o):CurveIs w' lo p bits P N B X Y:=by
  obtain ⟨bp,bn,bb,bx,bY,nm,h0,h1,h2,h3,h4,h5,h6⟩:=h
  exact ⟨bp,bn,bb,bx,bY,nm,by rw [hm.heap (lt_of_heap h0) (fun o=>hM _ _ h1),h0],h1,h2.mod hm hM,h3.mod hm hM,h4.mod hm hM,h5.mod hm hM,h6.mod hm hM⟩
theorem nop {lo:Nat}:∀ k o,lo≤k→¬ NoP k o:=fun _ _ _ h=>h
def strP256P:ByteArray:={ data:=([49,49,53,55,57,50,48,56,57,50,49,48,51,53,54,50,52,56,55,54,50,54,57,55,52,52,54,57,52,57,52,48,55,53,55,51,53,51,48].append [48,56,54,49,52,51,52,49,53,50,57,48,51,49,52,49,57,53,53,51,51,54,51,49,51,48,56,56,54,55,48,57,55,56,53,51,57,53,49]).toArray }
def strP256N:ByteArray:={ data:=([49,49,53,55,57,50,48,56,57,50,49,48,51,53,54,50,52,56,55,54,50,54,57,55,52,52,54,57,52,57,52,48,55,53,55,51,53,50,57].append [57,57,54,57,53,53,50,50,52,49,51,53,55,54,48,51,52,50,52,50,50,50,53,57,48,54,49,48,54,56,53,49,50,48,52,52,51,54,57]).toArray }
def strP256B:ByteArray:={ data:=#[53,97,99,54,51,53,100,56,97,97,51,97,57,51,101,55,98,51,101,98,98,100,53,53,55,54,57,56,56,54,98,99,54,53,49,100,48,54,98,48,99,99,53,51,98,48,102,54,51,98,99,101,51,99,51,101,50,55,100,50,54,48,52,98] }
def strP256X:ByteArray:={ data:=#[54,98,49,55,100,49,102,50,101,49,50,99,52,50,52,55,102,56,98,99,101,54,101,53,54,51,97,52,52,48,102,50,55,55,48,51,55,100,56,49,50,100,101,98,51,51,97,48,102,52,97,49,51,57,52,53,100,56,57,56,99,50,57,54] }
def strP256Y:ByteArray:={ data:=#[52,102,101,51,52,50,101,50,102,101,49,97,55,102,57,98,56,101,101,55,101,98,52,97,55,99,48,102,57,101,49,54,50,98,99,101,51,51,53,55,54,98,51,49,53,101,99,101,99,98,98,54,52,48,54,56,51,55,98,102,53,49,102,53] }
def nP256P:Nat:=115792089210356248762697446949407573530086143415290314195533631308867097853951
def nP256N:Nat:=115792089210356248762697446949407573529996955224135760342422259061068512044369
def nP256B:Nat:=41058363725152142129326129780047268409114441015993725554835256314039467401291
def nP256X:Nat:=48439561293906451759052585252797914202762949526041747995844080717082404635286
def nP256Y:Nat:=36134250956749795798585127919587881956611106672985015071877198253568414405109
theorem newP256P (w:World) (ea:Addr) (hE:Eof w ea):Calls Tryz.prog 85 #[.string { data:=([49,49,53,55,57,50,48,56,57,50,49,48,51,53,54,50,52,56,55,54,50,54,57,55,52,52,54,57,52,57,52,48,55,53,55,51,53,51,48].append [48,56,54,49,52,51,52,49,53,50,57,48,51,49,52,49,57,53,53,51,51,54,51,49,51,48,56,56,54,55,48,57,55,56,53,51,57,53,49]).toArray }] w (NewInt nP256P w):=by
  have h:=dec_new strP256P (by kernel_rfl) w ea hE
  rw [show numOf 10 (dig10 strP256P) strP256P.size=nP256P by kernel_rfl] at h
  exact h
theorem newP256N (w:World) (ea:Addr) (hE:Eof w ea):Calls Tryz.prog 85 #[.string { data:=([49,49,53,55,57,50,48,56,57,50,49,48,51,53,54,50,52,56,55,54,50,54,57,55,52,52,54,57,52,57,52,48,55,53,55,51,53,50,57].append [57,57,54,57,53,53,50,50,52,49,51,53,55,54,48,51,52,50,52,50,50,50,53,57,48,54,49,48,54,56,53,49,50,48,52,52,51,54,57]).toArray }] w (NewInt nP256N w):=by
  have h:=dec_new strP256N (by kernel_rfl) w ea hE
  rw [show numOf 10 (dig10 strP256N) strP256N.size=nP256N by kernel_rfl] at h
  exact h
theorem newP256B (w:World) (ea:Addr) (hE:Eof w ea):Calls Tryz.prog 86 #[.string { data:=#[53,97,99,54,51,53,100,56,97,97,51,97,57,51,101,55,98,51,101,98,98,100,53,53,55,54,57,56,56,54,98,99,54,53,49,100,48,54,98,48,99,99,53,51,98,48,102,54,51,98,99,101,51,99,51,101,50,55,100,50,54,48,52,98] }] w (NewInt nP256B w):=by
  have h:=hex_new strP256B (by kernel_rfl) w ea hE
  rw [show numOf 16 (dig16 strP256B) strP256B.size=nP256B by kernel_rfl] at h
  exact h
theorem newP256X (w:World) (ea:Addr) (hE:Eof w ea):Calls Tryz.prog 86 #[.string { data:=#[54,98,49,55,100,49,102,50,101,49,50,99,52,50,52,55,102,56,98,99,101,54,101,53,54,51,97,52,52,48,102,50,55,55,48,51,55,100,56,49,50,100,101,98,51,51,97,48,102,52,97,49,51,57,52,53,100,56,57,56,99,50,57,54] }] w (NewInt nP256X w):=by
  have h:=hex_new strP256X (by kernel_rfl) w ea hE
  rw [show numOf 16 (dig16 strP256X) strP256X.size=nP256X by kernel_rfl] at h
  exact h
theorem newP256Y (w:World) (ea:Addr) (hE:Eof w ea):Calls Tryz.prog 86 #[.string { data:=#[52,102,101,51,52,50,101,50,102,101,49,97,55,102,57,98,56,101,101,55,101,98,52,97,55,99,48,102,57,101,49,54,50,98,99,101,51,51,53,55,54,98,51,49,53,101,99,101,99,98,98,54,52,48,54,56,51,55,98,102,53,49,102,53] }] w (NewInt nP256Y w):=by
  have h:=hex_new strP256Y (by kernel_rfl) w ea hE
  rw [show numOf 16 (dig16 strP256Y) strP256Y.size=nP256Y by kernel_rfl] at h
  exact h
theorem curveP256 (w:World) (ea:Addr) (hE:Eof w ea):Calls Tryz.prog 73 #[] w fun e w'=>∃ p,e=.returned (.pointer (some ⟨p,0,none⟩))∧CurveIs w' w.heap.size p 256 nP256P nP256N nP256B nP256X nP256Y∧Mod NoP w w':=by
  go_enter Tryz.func73,Tryz.ntmps73
  go_wp2_with fail
  refine (newP256P _ ea hE).mono ?_
  rintro e w1 ⟨rfl,i1,m1⟩
  have hE1:Eof w1 ea:=m1.cell_some hE fun h=>h
  go_wp2_with fail
  refine (newP256N _ ea hE1).mono ?_
  rintro e w2 ⟨rfl,i2,m2⟩
  have hE2:Eof w2 ea:=m2.cell_some hE1 fun h=>h
  have i12:=i1.mod m2 nop
  go_wp2_with fail
  refine (newP256B _ ea hE2).mono ?_
  rintro e w3 ⟨rfl,i3,m3⟩
  have hE3:Eof w3 ea:=m3.cell_some hE2 fun h=>h
  have i13:=i12.mod m3 nop
  have i23:=i2.mod m3 nop
  go_wp2_with fail
  refine (newP256X _ ea hE3).mono ?_
  rintro e w4 ⟨rfl,i4,m4⟩
  have hE4:Eof w4 ea:=m4.cell_some hE3 fun h=>h
  have i14:=i13.mod m4 nop
  have i24:=i23.mod m4 nop
  have i34:=i3.mod m4 nop
  go_wp2_with fail
  refine (newP256Y _ ea hE4).mono ?_
  rintro e w5 ⟨rfl,i5,m5⟩
  have s1:=m1.size
  have s2:=m2.size
  have s3:=m3.size
  have s4:=m4.size
  have s5:=m5.size
  have i15:=i14.mod m5 nop
  have i25:=i24.mod m5 nop
  have i35:=i34.mod m5 nop
  have i45:=i4.mod m5 nop
  clear i1 i12 i13 i14 i2 i23 i24 i3 i34 i4
  go_wp2_with fail
  go_ret
  have ma:∀ o,Mod NoP w5 (w5.alloc o):=fun o=>(Mod.refl NoP w5).alloc o
  refine ⟨_,rfl,⟨_,_,_,_,_,_,heap_alloc_new _ _,by omega,?_,?_,?_,?_,?_⟩,((((m1.trans m2).trans m3).trans m4).trans m5).trans (ma _)⟩
  · exact (i15.mod (ma _) nop).lower (Nat.le_refl _)
  · exact (i25.mod (ma _) nop).lower (by omega)
  · exact (i35.mod (ma _) nop).lower (by omega)
  · exact (i45.mod (ma _) nop).lower (by omega)
  · exact (i5.mod (ma _) nop).lower (by omega)
def strP384P:ByteArray:={ data:=([51,57,52,48,50,48,48,54,49,57,54,51,57,52,52,55,57,50,49,50,50,55,57,48,52,48,49,48,48,49,52,51,54,49,51,56,48,53,48,55,57,55,51,57,50,55,48,52,54,53,52,52,54,54,54,55,57,52].append [56,50,57,51,52,48,52,50,52,53,55,50,49,55,55,49,52,57,54,56,55,48,51,50,57,48,52,55,50,54,54,48,56,56,50,53,56,57,51,56,48,48,49,56,54,49,54,48,54,57,55,51,49,49,50,51,49,57]).toArray }
def strP384N:ByteArray:={ data:=([51,57,52,48,50,48,48,54,49,57,54,51,57,52,52,55,57,50,49,50,50,55,57,48,52,48,49,48,48,49,52,51,54,49,51,56,48,53,48,55,57,55,51,57,50,55,48,52,54,53,52,52,54,54,54,55,57,52].append [54,57,48,53,50,55,57,54,50,55,54,53,57,51,57,57,49,49,51,50,54,51,53,54,57,51,57,56,57,53,54,51,48,56,49,53,50,50,57,52,57,49,51,53,53,52,52,51,51,54,53,51,57,52,50,54,52,51]).toArray }
def strP384B:ByteArray:={ data:=([98,51,51,49,50,102,97,55,101,50,51,101,101,55,101,52,57,56,56,101,48,53,54,98,101,51,102,56,50,100,49,57,49,56,49,100,57,99,54,101,102,101,56,49,52,49,49,50].append [48,51,49,52,48,56,56,102,53,48,49,51,56,55,53,97,99,54,53,54,51,57,56,100,56,97,50,101,100,49,57,100,50,97,56,53,99,56,101,100,100,51,101,99,50,97,101,102]).toArray }
def strP384X:ByteArray:={ data:=([97,97,56,55,99,97,50,50,98,101,56,98,48,53,51,55,56,101,98,49,99,55,49,101,102,51,50,48,97,100,55,52,54,101,49,100,51,98,54,50,56,98,97,55,57,98,57,56].append [53,57,102,55,52,49,101,48,56,50,53,52,50,97,51,56,53,53,48,50,102,50,53,100,98,102,53,53,50,57,54,99,51,97,53,52,53,101,51,56,55,50,55,54,48,97,98,55]).toArray }
def strP384Y:ByteArray:={ data:=([51,54,49,55,100,101,52,97,57,54,50,54,50,99,54,102,53,100,57,101,57,56,98,102,57,50,57,50,100,99,50,57,102,56,102,52,49,100,98,100,50,56,57,97,49,52,55,99].append [101,57,100,97,51,49,49,51,98,53,102,48,98,56,99,48,48,97,54,48,98,49,99,101,49,100,55,101,56,49,57,100,55,97,52,51,49,100,55,99,57,48,101,97,48,101,53,102]).toArray }
def nP384P:Nat:=39402006196394479212279040100143613805079739270465446667948293404245721771496870329047266088258938001861606973112319
def nP384N:Nat:=39402006196394479212279040100143613805079739270465446667946905279627659399113263569398956308152294913554433653942643
def nP384B:Nat:=27580193559959705877849011840389048093056905856361568521428707301988689241309860865136260764883745107765439761230575
def nP384X:Nat:=26247035095799689268623156744566981891852923491109213387815615900925518854738050089022388053975719786650872476732087
def nP384Y:Nat:=8325710961489029985546751289520108179287853048861315594709205902480503199884419224438643760392947333078086511627871
theorem newP384P (w:World) (ea:Addr) (hE:Eof w ea):Calls Tryz.prog 85 #[.string { data:=([51,57,52,48,50,48,48,54,49,57,54,51,57,52,52,55,57,50,49,50,50,55,57,48,52,48,49,48,48,49,52,51,54,49,51,56,48,53,48,55,57,55,51,57,50,55,48,52,54,53,52,52,54,54,54,55,57,52].append [56,50,57,51,52,48,52,50,52,53,55,50,49,55,55,49,52,57,54,56,55,48,51,50,57,48,52,55,50,54,54,48,56,56,50,53,56,57,51,56,48,48,49,56,54,49,54,48,54,57,55,51,49,49,50,51,49,57]).toArray }] w (NewInt nP384P w):=by
  have h:=dec_new strP384P (by kernel_rfl) w ea hE
  rw [show numOf 10 (dig10 strP384P) strP384P.size=nP384P by kernel_rfl] at h
  exact h
theorem newP384N (w:World) (ea:Addr) (hE:Eof w ea):Calls Tryz.prog 85 #[.string { data:=([51,57,52,48,50,48,48,54,49,57,54,51,57,52,52,55,57,50,49,50,50,55,57,48,52,48,49,48,48,49,52,51,54,49,51,56,48,53,48,55,57,55,51,57,50,55,48,52,54,53,52,52,54,54,54,55,57,52].append [54,57,48,53,50,55,57,54,50,55,54,53,57,51,57,57,49,49,51,50,54,51,53,54,57,51,57,56,57,53,54,51,48,56,49,53,50,50,57,52,57,49,51,53,53,52,52,51,51,54,53,51,57,52,50,54,52,51]).toArray }] w (NewInt nP384N w):=by
  have h:=dec_new strP384N (by kernel_rfl) w ea hE
  rw [show numOf 10 (dig10 strP384N) strP384N.size=nP384N by kernel_rfl] at h
  exact h
theorem newP384B (w:World) (ea:Addr) (hE:Eof w ea):Calls Tryz.prog 86 #[.string { data:=([98,51,51,49,50,102,97,55,101,50,51,101,101,55,101,52,57,56,56,101,48,53,54,98,101,51,102,56,50,100,49,57,49,56,49,100,57,99,54,101,102,101,56,49,52,49,49,50].append [48,51,49,52,48,56,56,102,53,48,49,51,56,55,53,97,99,54,53,54,51,57,56,100,56,97,50,101,100,49,57,100,50,97,56,53,99,56,101,100,100,51,101,99,50,97,101,102]).toArray }] w (NewInt nP384B w):=by
  have h:=hex_new strP384B (by kernel_rfl) w ea hE
  rw [show numOf 16 (dig16 strP384B) strP384B.size=nP384B by kernel_rfl] at h
  exact h
theorem newP384X (w:World) (ea:Addr) (hE:Eof w ea):Calls Tryz.prog 86 #[.string { data:=([97,97,56,55,99,97,50,50,98,101,56,98,48,53,51,55,56,101,98,49,99,55,49,101,102,51,50,48,97,100,55,52,54,101,49,100,51,98,54,50,56,98,97,55,57,98,57,56].append [53,57,102,55,52,49,101,48,56,50,53,52,50,97,51,56,53,53,48,50,102,50,53,100,98,102,53,53,50,57,54,99,51,97,53,52,53,101,51,56,55,50,55,54,48,97,98,55]).toArray }] w (NewInt nP384X w):=by
  have h:=hex_new strP384X (by kernel_rfl) w ea hE
  rw [show numOf 16 (dig16 strP384X) strP384X.size=nP384X by kernel_rfl] at h
  exact h
theorem newP384Y (w:World) (ea:Addr) (hE:Eof w ea):Calls Tryz.prog 86 #[.string { data:=([51,54,49,55,100,101,52,97,57,54,50,54,50,99,54,102,53,100,57,101,57,56,98,102,57,50,57,50,100,99,50,57,102,56,102,52,49,100,98,100,50,56,57,97,49,52,55,99].append [101,57,100,97,51,49,49,51,98,53,102,48,98,56,99,48,48,97,54,48,98,49,99,101,49,100,55,101,56,49,57,100,55,97,52,51,49,100,55,99,57,48,101,97,48,101,53,102]).toArray }] w (NewInt nP384Y w):=by
  have h:=hex_new strP384Y (by kernel_rfl) w ea hE
  rw [show numOf 16 (dig16 strP384Y) strP384Y.size=nP384Y by kernel_rfl] at h
  exact h
theorem curveP384 (w:World) (ea:Addr) (hE:Eof w ea):Calls Tryz.prog 69 #[] w fun e w'=>∃ p,e=.returned (.pointer (some ⟨p,0,none⟩))∧CurveIs w' w.heap.size p 384 nP384P nP384N nP384B nP384X nP384Y∧Mod NoP w w':=by
  go_enter Tryz.func69,Tryz.ntmps69
  go_wp2_with fail
  refine (newP384P _ ea hE).mono ?_
  rintro e w1 ⟨rfl,i1,m1⟩
  have hE1:Eof w1 ea:=m1.cell_some hE fun h=>h
  go_wp2_with fail
  refine (newP384N _ ea hE1).mono ?_
  rintro e w2 ⟨rfl,i2,m2⟩
  have hE2:Eof w2 ea:=m2.cell_some hE1 fun h=>h
  have i12:=i1.mod m2 nop
  go_wp2_with fail
  refine (newP384B _ ea hE2).mono ?_
  rintro e w3 ⟨rfl,i3,m3⟩
  have hE3:Eof w3 ea:=m3.cell_some hE2 fun h=>h
  have i13:=i12.mod m3 nop
  have i23:=i2.mod m3 nop
  go_wp2_with fail
  refine (newP384X _ ea hE3).mono ?_
  rintro e w4 ⟨rfl,i4,m4⟩
  have hE4:Eof w4 ea:=m4.cell_some hE3 fun h=>h
  have i14:=i13.mod m4 nop
  have i24:=i23.mod m4 nop
  have i34:=i3.mod m4 nop
  go_wp2_with fail
  refine (newP384Y _ ea hE4).mono ?_
  rintro e w5 ⟨rfl,i5,m5⟩
  have s1:=m1.size
  have s2:=m2.size
  have s3:=m3.size
  have s4:=m4.size
  have s5:=m5.size
  have i15:=i14.mod m5 nop
  have i25:=i24.mod m5 nop
  have i35:=i34.mod m5 nop
  have i45:=i4.mod m5 nop
  clear i1 i12 i13 i14 i2 i23 i24 i3 i34 i4
  go_wp2_with fail
  go_ret
  have ma:∀ o,Mod NoP w5 (w5.alloc o):=fun o=>(Mod.refl NoP w5).alloc o
  refine ⟨_,rfl,⟨_,_,_,_,_,_,heap_alloc_new _ _,by omega,?_,?_,?_,?_,?_⟩,((((m1.trans m2).trans m3).trans m4).trans m5).trans (ma _)⟩
  · exact (i15.mod (ma _) nop).lower (Nat.le_refl _)
  · exact (i25.mod (ma _) nop).lower (by omega)
  · exact (i35.mod (ma _) nop).lower (by omega)
  · exact (i45.mod (ma _) nop).lower (by omega)
  · exact (i5.mod (ma _) nop).lower (by omega)
def strP521P:ByteArray:={ data:=(([54,56,54,52,55,57,55,54,54,48,49,51,48,54,48,57,55,49,52,57,56,49,57,48,48,55,57,57,48,56,49,51,57,51,50,49,55,50,54].append [57,52,51,53,51,48,48,49,52,51,51,48,53,52,48,57,51,57,52,52,54,51,52,53,57,49,56,53,53,52,51,49,56,51,51,57,55,54,53]).append ([54,48,53,50,49,50,50,53,53,57,54,52,48,54,54,49,52,53,52,53,53,52,57,55,55,50,57,54,51,49,49,51,57,49,52,56,48,56,53].append [56,48,51,55,49,50,49,57,56,55,57,57,57,55,49,54,54,52,51,56,49,50,53,55,52,48,50,56,50,57,49,49,49,53,48,53,55,49,53,49])).toArray }
def strP521N:ByteArray:={ data:=(([54,56,54,52,55,57,55,54,54,48,49,51,48,54,48,57,55,49,52,57,56,49,57,48,48,55,57,57,48,56,49,51,57,51,50,49,55,50,54].append [57,52,51,53,51,48,48,49,52,51,51,48,53,52,48,57,51,57,52,52,54,51,52,53,57,49,56,53,53,52,51,49,56,51,51,57,55,54,53]).append ([53,51,57,52,50,52,53,48,53,55,55,52,54,51,51,51,50,49,55,49,57,55,53,51,50,57,54,51,57,57,54,51,55,49,51,54,51,51,50].append [49,49,49,51,56,54,52,55,54,56,54,49,50,52,52,48,51,56,48,51,52,48,51,55,50,56,48,56,56,57,50,55,48,55,48,48,53,52,52,57])).toArray }
def strP521B:ByteArray:={ data:=(([48,48,53,49,57,53,51,101,98,57,54,49,56,101,49,99,57,97,49,102,57,50,57,97,50,49,97,48,98,54,56,53,52].append [48,101,101,97,50,100,97,55,50,53,98,57,57,98,51,49,53,102,51,98,56,98,52,56,57,57,49,56,101,102,49,48,57]).append ([101,49,53,54,49,57,51,57,53,49,101,99,55,101,57,51,55,98,49,54,53,50,99,48,98,100,51,98,98,49,98,102,48].append [55,51,53,55,51,100,102,56,56,51,100,50,99,51,52,102,49,101,102,52,53,49,102,100,52,54,98,53,48,51,102,48,48])).toArray }
def strP521X:ByteArray:={ data:=(([48,48,99,54,56,53,56,101,48,54,98,55,48,52,48,52,101,57,99,100,57,101,51,101,99,98,54,54,50,51,57,53,98].append [52,52,50,57,99,54,52,56,49,51,57,48,53,51,102,98,53,50,49,102,56,50,56,97,102,54,48,54,98,52,100,51,100]).append ([98,97,97,49,52,98,53,101,55,55,101,102,101,55,53,57,50,56,102,101,49,100,99,49,50,55,97,50,102,102,97,56,100].append [101,51,51,52,56,98,51,99,49,56,53,54,97,52,50,57,98,102,57,55,101,55,101,51,49,99,50,101,53,98,100,54,54])).toArray }
def strP521Y:ByteArray:={ data:=(([48,49,49,56,51,57,50,57,54,97,55,56,57,97,51,98,99,48,48,52,53,99,56,97,53,102,98,52,50,99,55,100,49].append [98,100,57,57,56,102,53,52,52,52,57,53,55,57,98,52,52,54,56,49,55,97,102,98,100,49,55,50,55,51,101,54,54]).append ([50,99,57,55,101,101,55,50,57,57,53,101,102,52,50,54,52,48,99,53,53,48,98,57,48,49,51,102,97,100,48,55,54].append [49,51,53,51,99,55,48,56,54,97,50,55,50,99,50,52,48,56,56,98,101,57,52,55,54,57,102,100,49,54,54,53,48])).toArray }
def nP521P:Nat:=6864797660130609714981900799081393217269435300143305409394463459185543183397656052122559640661454554977296311391480858037121987999716643812574028291115057151
def nP521N:Nat:=6864797660130609714981900799081393217269435300143305409394463459185543183397655394245057746333217197532963996371363321113864768612440380340372808892707005449
def nP521B:Nat:=1093849038073734274511112390766805569936207598951683748994586394495953116150735016013708737573759623248592132296706313309438452531591012912142327488478985984
def nP521X:Nat:=2661740802050217063228768716723360960729859168756973147706671368418802944996427808491545080627771902352094241225065558662157113545570916814161637315895999846
def nP521Y:Nat:=3757180025770020463545507224491183603594455134769762486694567779615544477440556316691234405012945539562144444537289428522585666729196580810124344277578376784
theorem newP521P (w:World) (ea:Addr) (hE:Eof w ea):Calls Tryz.prog 85 #[.string { data:=(([54,56,54,52,55,57,55,54,54,48,49,51,48,54,48,57,55,49,52,57,56,49,57,48,48,55,57,57,48,56,49,51,57,51,50,49,55,50,54].append [57,52,51,53,51,48,48,49,52,51,51,48,53,52,48,57,51,57,52,52,54,51,52,53,57,49,56,53,53,52,51,49,56,51,51,57,55,54,53]).append ([54,48,53,50,49,50,50,53,53,57,54,52,48,54,54,49,52,53,52,53,53,52,57,55,55,50,57,54,51,49,49,51,57,49,52,56,48,56,53].append [56,48,51,55,49,50,49,57,56,55,57,57,57,55,49,54,54,52,51,56,49,50,53,55,52,48,50,56,50,57,49,49,49,53,48,53,55,49,53,49])).toArray }] w (NewInt nP521P w):=by
  have h:=dec_new strP521P (by kernel_rfl) w ea hE
  rw [show numOf 10 (dig10 strP521P) strP521P.size=nP521P by kernel_rfl] at h
  exact h
theorem newP521N (w:World) (ea:Addr) (hE:Eof w ea):Calls Tryz.prog 85 #[.string { data:=(([54,56,54,52,55,57,55,54,54,48,49,51,48,54,48,57,55,49,52,57,56,49,57,48,48,55,57,57,48,56,49,51,57,51,50,49,55,50,54].append [57,52,51,53,51,48,48,49,52,51,51,48,53,52,48,57,51,57,52,52,54,51,52,53,57,49,56,53,53,52,51,49,56,51,51,57,55,54,53]).append ([53,51,57,52,50,52,53,48,53,55,55,52,54,51,51,51,50,49,55,49,57,55,53,51,50,57,54,51,57,57,54,51,55,49,51,54,51,51,50].append [49,49,49,51,56,54,52,55,54,56,54,49,50,52,52,48,51,56,48,51,52,48,51,55,50,56,48,56,56,57,50,55,48,55,48,48,53,52,52,57])).toArray }] w (NewInt nP521N w):=by
  have h:=dec_new strP521N (by kernel_rfl) w ea hE
  rw [show numOf 10 (dig10 strP521N) strP521N.size=nP521N by kernel_rfl] at h
  exact h
theorem newP521B (w:World) (ea:Addr) (hE:Eof w ea):Calls Tryz.prog 86 #[.string { data:=(([48,48,53,49,57,53,51,101,98,57,54,49,56,101,49,99,57,97,49,102,57,50,57,97,50,49,97,48,98,54,56,53,52].append [48,101,101,97,50,100,97,55,50,53,98,57,57,98,51,49,53,102,51,98,56,98,52,56,57,57,49,56,101,102,49,48,57]).append ([101,49,53,54,49,57,51,57,53,49,101,99,55,101,57,51,55,98,49,54,53,50,99,48,98,100,51,98,98,49,98,102,48].append [55,51,53,55,51,100,102,56,56,51,100,50,99,51,52,102,49,101,102,52,53,49,102,100,52,54,98,53,48,51,102,48,48])).toArray }] w (NewInt nP521B w):=by
  have h:=hex_new strP521B (by kernel_rfl) w ea hE
  rw [show numOf 16 (dig16 strP521B) strP521B.size=nP521B by kernel_rfl] at h
  exact h
theorem newP521X (w:World) (ea:Addr) (hE:Eof w ea):Calls Tryz.prog 86 #[.string { data:=(([48,48,99,54,56,53,56,101,48,54,98,55,48,52,48,52,101,57,99,100,57,101,51,101,99,98,54,54,50,51,57,53,98].append [52,52,50,57,99,54,52,56,49,51,57,48,53,51,102,98,53,50,49,102,56,50,56,97,102,54,48,54,98,52,100,51,100]).append ([98,97,97,49,52,98,53,101,55,55,101,102,101,55,53,57,50,56,102,101,49,100,99,49,50,55,97,50,102,102,97,56,100].append [101,51,51,52,56,98,51,99,49,56,53,54,97,52,50,57,98,102,57,55,101,55,101,51,49,99,50,101,53,98,100,54,54])).toArray }] w (NewInt nP521X w):=by
  have h:=hex_new strP521X (by kernel_rfl) w ea hE
  rw [show numOf 16 (dig16 strP521X) strP521X.size=nP521X by kernel_rfl] at h
  exact h
theorem newP521Y (w:World) (ea:Addr) (hE:Eof w ea):Calls Tryz.prog 86 #[.string { data:=(([48,49,49,56,51,57,50,57,54,97,55,56,57,97,51,98,99,48,48,52,53,99,56,97,53,102,98,52,50,99,55,100,49].append [98,100,57,57,56,102,53,52,52,52,57,53,55,57,98,52,52,54,56,49,55,97,102,98,100,49,55,50,55,51,101,54,54]).append ([50,99,57,55,101,101,55,50,57,57,53,101,102,52,50,54,52,48,99,53,53,48,98,57,48,49,51,102,97,100,48,55,54].append [49,51,53,51,99,55,48,56,54,97,50,55,50,99,50,52,48,56,56,98,101,57,52,55,54,57,102,100,49,54,54,53,48])).toArray }] w (NewInt nP521Y w):=by
  have h:=hex_new strP521Y (by kernel_rfl) w ea hE
  rw [show numOf 16 (dig16 strP521Y) strP521Y.size=nP521Y by kernel_rfl] at h
  exact h
theorem curveP521 (w:World) (ea:Addr) (hE:Eof w ea):Calls Tryz.prog 71 #[] w fun e w'=>∃ p,e=.returned (.pointer (some ⟨p,0,none⟩))∧CurveIs w' w.heap.size p 521 nP521P nP521N nP521B nP521X nP521Y∧Mod NoP w w':=by
  go_enter Tryz.func71,Tryz.ntmps71
  go_wp2_with fail
  refine (newP521P _ ea hE).mono ?_
  rintro e w1 ⟨rfl,i1,m1⟩
  have hE1:Eof w1 ea:=m1.cell_some hE fun h=>h
  go_wp2_with fail
  refine (newP521N _ ea hE1).mono ?_
  rintro e w2 ⟨rfl,i2,m2⟩
  have hE2:Eof w2 ea:=m2.cell_some hE1 fun h=>h
  have i12:=i1.mod m2 nop
  go_wp2_with fail
  refine (newP521B _ ea hE2).mono ?_
  rintro e w3 ⟨rfl,i3,m3⟩
  have hE3:Eof w3 ea:=m3.cell_some hE2 fun h=>h
  have i13:=i12.mod m3 nop
  have i23:=i2.mod m3 nop
  go_wp2_with fail
  refine (newP521X _ ea hE3).mono ?_
  rintro e w4 ⟨rfl,i4,m4⟩
  have hE4:Eof w4 ea:=m4.cell_some hE3 fun h=>h
  have i14:=i13.mod m4 nop
  have i24:=i23.mod m4 nop
  have i34:=i3.mod m4 nop
  go_wp2_with fail
  refine (newP521Y _ ea hE4).mono ?_
  rintro e w5 ⟨rfl,i5,m5⟩
  have s1:=m1.size
  have s2:=m2.size
  have s3:=m3.size
  have s4:=m4.size
  have s5:=m5.size
  have i15:=i14.mod m5 nop
  have i25:=i24.mod m5 nop
  have i35:=i34.mod m5 nop
  have i45:=i4.mod m5 nop
  clear i1 i12 i13 i14 i2 i23 i24 i3 i34 i4
  go_wp2_with fail
  go_ret
  have ma:∀ o,Mod NoP w5 (w5.alloc o):=fun o=>(Mod.refl NoP w5).alloc o
  refine ⟨_,rfl,⟨_,_,_,_,_,_,heap_alloc_new _ _,by omega,?_,?_,?_,?_,?_⟩,((((m1.trans m2).trans m3).trans m4).trans m5).trans (ma _)⟩
  · exact (i15.mod (ma _) nop).lower (Nat.le_refl _)
  · exact (i25.mod (ma _) nop).lower (by omega)
  · exact (i35.mod (ma _) nop).lower (by omega)
  · exact (i45.mod (ma _) nop).lower (by omega)
  · exact (i5.mod (ma _) nop).lower (by omega)
end
section
open Go Go.RowKit
theorem addVV_any (bz oz cz bx ox cx by_ oy cy n:Nat) (X Y Z:Nat→Nat) (w:World)
   (hX:Vec w bx ox n X) (hY:Vec w by_ oy n Y) (hZ:Vec w bz oz n Z) (hn:n<4611686018427387904)
   (ax:Up bz oz bx ox n) (ay:Up bz oz by_ oy n) :
    Calls Tryz.prog 123 #[.slice (some ⟨bz,oz,none⟩) n cz,.slice (some ⟨bx,ox,none⟩) n cx,.slice (some ⟨by_,oy,none⟩) n cy] w
      fun e w'=>e=.returned (U (addC X Y n))∧Vec w' bz oz n (addW X Y)∧Mod (InR bz oz n) w w':=by
  have h:=addVV_g_any bz oz cz bx ox cx by_ oy cy n X Y Z w hX hY hZ hn ax ay
  have H:=Lib.hid h
  clear h hX hY hZ
  go_enter Tryz.func123,Tryz.ntmps123
  go_wp2_with fail
  refine H.out.mono ?_
  rintro e w' ⟨rfl,h3,h4⟩
  go_wp2_with fail
  go_ret
  exact ⟨rfl,h3,h4⟩
set_option maxHeartbeats 400000 in
theorem subVV_g_any (bz oz cz bx ox cx by_ oy cy n:Nat) (X Y Z:Nat→Nat) (w:World)
   (hX:Vec w bx ox n X) (hY:Vec w by_ oy n Y) (hZ:Vec w bz oz n Z) (hn:n<4611686018427387904)
   (ax:Up bz oz bx ox n) (ay:Up bz oz by_ oy n) :
    Calls Tryz.prog 141 #[.slice (some ⟨bz,oz,none⟩) n cz,.slice (some ⟨bx,ox,none⟩) n cx,.slice (some ⟨by_,oy,none⟩) n cy] w
      fun e w'=>e=.returned (U (subC X Y n))∧Vec w' bz oz n (subW X Y)∧Mod (InR bz oz n) w w':=by
  go_enter Tryz.func141,Tryz.ntmps141
  go_wp2
  go_loopw [6,25] (fun c i wr=>∃ k:Nat,k≤n∧i=.int .i64 (k:Int)∧c=U (subC X Y k)∧Written w wr bz oz k (subW X Y)) (fun _ i _=>n - (intOf i).toNat)
  case atStart=>exact ⟨0,Nat.zero_le _,rfl,rfl,.zero _ _ _ _⟩
  case round =>
    obtain ⟨k,hk,rfl,rfl,hw⟩:=hrel
    by_cases hlt:k<n
    · have hcx:=hw.read hX ax hlt
      have hcy:=hw.read hY ay hlt
      obtain ⟨zk,hcz⟩:=hw.there hZ hlt
      have hfz:=hw.free hZ hlt
      have hcl:=subC_le X Y k
      have Hs:=Lib.hid (show wSub (X k) (Y k) (subC X Y k)=subW X Y k from rfl)
      have Hc:=Lib.hid (show wBor (X k) (Y k) (subC X Y k)=subC X Y (k+1) from rfl)
      have Hw:=Lib.hid hw
      have HZ:=Lib.hid (hZ k hlt).1
      clear hw
      generalize subC X Y k=c at *
      generalize X k=xk at *
      generalize Y k=yk at *
      go_wp2_with fail
      go_quiet ((go_at_call 142;exact Calls.quiet_of_same (sub_any _ _ _ (by omega) _)))
      go_wp2_with fail
      go_roundw
      case rel=>exact ⟨k+1,by omega,by go_num,by rw [Hc.out],(Hw.out.drewN _).step HZ.out Hs.out⟩
      case measure=>simp [intOf];omega
    · obtain rfl:k=n:=by omega
      go_wp2_with fail
      go_ret
      exact ⟨rfl,hw.vec hZ (fun j hj=>wSub_lt _ _ _),hw.mod⟩
theorem subVV_any (bz oz cz bx ox cx by_ oy cy n:Nat) (X Y Z:Nat→Nat) (w:World)
   (hX:Vec w bx ox n X) (hY:Vec w by_ oy n Y) (hZ:Vec w bz oz n Z) (hn:n<4611686018427387904)
   (ax:Up bz oz bx ox n) (ay:Up bz oz by_ oy n) :
    Calls Tryz.prog 125 #[.slice (some ⟨bz,oz,none⟩) n cz,.slice (some ⟨bx,ox,none⟩) n cx,.slice (some ⟨by_,oy,none⟩) n cy] w
      fun e w'=>e=.returned (U (subC X Y n))∧Vec w' bz oz n (subW X Y)∧Mod (InR bz oz n) w w':=by
  have h:=subVV_g_any bz oz cz bx ox cx by_ oy cy n X Y Z w hX hY hZ hn ax ay
  have H:=Lib.hid h
  clear h hX hY hZ
  go_enter Tryz.func125,Tryz.ntmps125
  go_wp2_with fail
  refine H.out.mono ?_
  rintro e w' ⟨rfl,h3,h4⟩
  go_wp2_with fail
  go_ret
  exact ⟨rfl,h3,h4⟩
theorem size121:(Tryz.prog.info? 121).map (·.size)=some 1:=by kernel_rfl
theorem copyV_run (w:World) (tt ty:TypeId) (ht:Tryz.prog.underlying tt=some (.slice 121)) (t2:TypeId) (b o n c cc:Nat) (f:Nat→Nat) (hA:Arr w (some ⟨b,0,none⟩) cc f) (hfit:o+n≤cc) (sb so sc:Nat) (X:Nat→Nat) (hX:Vec w sb so n X) :
    ∃ w',(Builtin.copy_ #[tt,t2] ty #[.slice (some ⟨b,o,none⟩) n c,.slice (some ⟨sb,so,none⟩) n sc]).run Tryz.prog w=.ok (.int .i64 (n:Nat)) w'∧Vec w' b o n X∧Mod (InR b o n) w w':=by
  rcases hA with ⟨h,_⟩ | ⟨b',C,t,e,hb,hs,hc⟩
  · cases h
  obtain rfl:b=b':=by simpa using e
  have hcs:∀ j,j<n→((List.range n).map fun j=>U (X j))[j]? = some (U (X j)):=fun j hj=>by simp [hj]
  have hr:=run_copy_row (P:=Tryz.prog) w tt t2 ty 121 b o n c ⟨sb,so,none⟩ n sc C t ((List.range n).map fun j=>U (X j)) ht size121 hb (by simp) (fun j v hv=>by
    obtain ⟨hj,rfl⟩:j<n∧U (X j)=v:=by
      rw [List.getElem?_map,Option.map_eq_some_iff] at hv
      obtain ⟨k,hk,rfl⟩:=hv
      obtain ⟨hj,rfl⟩:=List.getElem?_eq_some_iff.1 hk
      simp at hj
      simp [hj]
    rw [Addr.add_lit]
    exact (hX j hj).1) (by simp;omega) (by
    intro v hv
    obtain ⟨j,_,rfl⟩:=List.mem_map.1 hv
    rfl)
  have hh:=setRow_heap w b C (C.toList.take o ++ ((List.range n).map fun j=>U (X j)) ++ C.toList.drop (o+((List.range n).map fun j=>U (X j)).length)).toArray t (0,0) hb
  generalize hR:(C.toList.take o ++ ((List.range n).map fun j=>U (X j)) ++ C.toList.drop (o+((List.range n).map fun j=>U (X j)).length))=R at *
  have hRs:R.length=cc:=by rw [← hR];simp;omega
  have hRg:∀ j,R[j]? = if o≤j∧j<o+n then some (U (X (j - o))) else C[j]? := fun j=>by
    rw [← hR,List.append_assoc,List.getElem?_append]
    simp only [List.length_take,Array.length_toList,hs.1,Nat.min_eq_left (show o≤cc by omega)]
    by_cases h1':j<o
    · rw [if_pos h1',if_neg (by omega)]
      simp [h1']
    · rw [if_neg h1',List.getElem?_append]
      simp only [List.length_map,List.length_range]
      by_cases h2':j<o+n
      · rw [if_pos (by omega),if_pos (by omega),hcs _ (by omega)]
      · rw [if_neg (by omega),if_neg (by omega)]
        simp only [List.getElem?_drop,Array.getElem?_toList]
        rw [show o+n+(j - o - n)=j by omega]
  refine ⟨_,?_,fun j hj=>⟨?_,free_of_heap hh _,(hX j hj).2.2⟩,rfl,rfl,rfl,by simp,fun k hk => ?_⟩
  · rw [hr]
    simp [goInt]
  · rw [cell?_of_heap hh,List.getElem?_toArray,hRg,if_pos (by omega),Nat.add_sub_cancel_left]
  · by_cases hkb:k=b
    · subst hkb
      refine .inr ⟨C,_,t,(0,0),hb,hh,by simp [hRs,hs.1],fun j hj => ?_⟩
      rw [List.getElem?_toArray,hRg,if_neg (fun h=>hj ⟨rfl,h⟩)]
    · exact .inl (setRow_other w b k _ hkb)
def awC (X:Nat→Nat) (y:Nat):Nat→Nat
  | 0=>y
  | k+1=>wCar (X k) (awC X y k) 0
def awW (X:Nat→Nat) (y:Nat) (k:Nat):Nat:=wAdd (X k) (awC X y k) 0
def swC (X:Nat→Nat) (y:Nat):Nat→Nat
  | 0=>y
  | k+1=>wBor (X k) (swC X y k) 0
def swW (X:Nat→Nat) (y:Nat) (k:Nat):Nat:=wSub (X k) (swC X y k) 0
theorem aw_val (X:Nat→Nat) (y n:Nat):val (awW X y) n+awC X y n*B64^n=val X n+y:=by
  induction n with
  | zero=>simp [val,awC]
  | succ n ih =>
    have h:=wCar_add (X n) (awC X y n) 0
    have h1:awC X y (n+1)*B64^(n+1)+awW X y n*B64^n=(X n+awC X y n)*B64^n:=by
      show wCar (X n) (awC X y n) 0*B64^(n+1)+wAdd (X n) (awC X y n) 0*B64^n=_
      rw [show X n+awC X y n=X n+awC X y n+0 from rfl,← h,Nat.pow_succ,Nat.add_mul,Nat.mul_assoc,Nat.mul_comm B64]
    simp only [val]
    rw [Nat.add_mul] at h1
    omega
theorem sw_val (X:Nat→Nat) (y n:Nat) (hx:∀ j,j<n→X j<B64) (hy:y<B64):val (swW X y) n+y=val X n+swC X y n*B64^n∧(0<n→swC X y n≤1):=by
  induction n with
  | zero=>simp [val,swC]
  | succ n ih =>
    obtain ⟨ih,hc⟩:=ih (fun j hj=>hx j (by omega))
    have hcl:swC X y n<B64:=by
      rcases Nat.eq_zero_or_pos n with h0 | h0
      · subst h0;exact hy
      · have:=hc h0;have:1<B64:=by decide
        omega
    have h:=wSub_bor (hx n (by omega)) hcl (show 0≤1 by omega)
    have h1:swC X y (n+1)*B64^(n+1)+X n*B64^n=(swW X y n+swC X y n)*B64^n:=by
      show wBor (X n) (swC X y n) 0*B64^(n+1)+X n*B64^n=(wSub (X n) (swC X y n) 0+swC X y n)*B64^n
      rw [show wSub (X n) (swC X y n) 0+swC X y n=wSub (X n) (swC X y n) 0+swC X y n+0 from rfl,h,Nat.pow_succ,Nat.add_mul,Nat.mul_assoc,Nat.mul_comm B64,Nat.add_comm]
    refine ⟨?_,fun _=>wBor_le _ _ _⟩
    simp only [val]
    rw [Nat.add_mul] at h1
    omega
theorem aw_stop {X:Nat→Nat} {y i n:Nat} (hx:∀ j,j<n→X j<B64) (h:awC X y i=0):∀ j,i≤j→j≤n→awC X y j=0:=by
  intro j hj hn
  induction j with
  | zero=>rw [show i=0 by omega] at h;exact h
  | succ j ih =>
    by_cases e:i=j+1
    · rw [← e];exact h
    · simp only [awC]
      rw [ih (by omega) (by omega)]
      unfold wCar
      exact Nat.div_eq_of_lt (by have:=hx j (by omega);omega)
theorem aw_same {X:Nat→Nat} {y i n:Nat} (hx:∀ j,j<n→X j<B64) (h:awC X y i=0) {j:Nat} (hj:i≤j) (hn:j<n):awW X y j=X j:=by
  unfold awW
  rw [aw_stop hx h j hj (by omega)]
  unfold wAdd
  exact Nat.mod_eq_of_lt (by have:=hx j hn;omega)
theorem sw_stop {X:Nat→Nat} {y i:Nat} (h:swC X y i=0):∀ j,i≤j→swC X y j=0:=by
  intro j hj
  induction j with
  | zero=>rw [show i=0 by omega] at h;exact h
  | succ j ih =>
    by_cases e:i=j+1
    · rw [← e];exact h
    · simp only [swC]
      rw [ih (by omega)]
      unfold wBor
      rw [if_neg (by omega)]
theorem sw_same {X:Nat→Nat} {y i n:Nat} (hx:∀ j,j<n→X j<B64) (h:swC X y i=0) {j:Nat} (hj:i≤j) (hn:j<n):swW X y j=X j:=by
  unfold swW
  rw [sw_stop h j hj]
  unfold wSub
  have:=hx j hn
  rw [show X j+B64 - 0 - 0=X j+B64 by omega,Nat.add_mod_right,Nat.mod_eq_of_lt this]
theorem slice_from (tt:TypeId) (b o n c k:Nat) (hk:k≤n) (hn:n≤c) (ht:tt=48∨tt=49) (K:Int) (hK:K=k) :
    ∃ o',(∀ w,(Instr.slice tt (.slice (some ⟨b,o,none⟩) n c) (some (.int .i64 K)) none none).run Tryz.prog w=.ok (.slice (some ⟨b,o',none⟩) (n - k) (c - k)) w)∧(k<c→o'=o+k)∧o'≤o+k:=by
  subst hK
  have h1:(0:Int)≤(k:Int):=by omega
  have h2:(k:Int)≤(n:Int):=by omega
  have h3:(n:Int)≤(c:Int):=by omega
  by_cases e:c=k
  · refine ⟨o,fun w => ?_,fun h=>by omega,by omega⟩
    rcases ht with rfl | rfl <;> simp [go_sem,h1,h2,h3,e]
  · refine ⟨o+k,fun w => ?_,fun h=>rfl,by omega⟩
    rcases ht with rfl | rfl <;> simp [go_sem,h1,h2,h3,e]
theorem Written.rest {w wr w':World} {bz oz n k:Nat} {f g X:Nat→Nat} {o':Nat} (h:Written w wr bz oz k f) (hZ:Vec w bz oz n g) (hk:k≤n) (hV:Vec w' bz o' (n - k) X) (ho:k<n→o'=oz+k) (m:Mod (InR bz o' (n - k)) wr w') (hX:∀ j,k≤j→j<n→X (j - k)=f j) (hf:∀ j,j<n→f j<B64) :
    Vec w' bz oz n f∧Mod (InR bz oz n) w w':=by
  have hm:Mod (InR bz oz n) w w':=(h.mod.mono fun _ _ _ ⟨a,b,c⟩=>⟨a,b,by omega⟩).trans' m fun k' o hk' ⟨a,b,c⟩=>by
    have:=ho (by omega)
    exact ⟨a,by omega,by omega⟩
  refine ⟨fun j hj => ?_,hm⟩
  refine ⟨?_,hm.free (hZ j hj).1 (hZ j hj).2.1,hf j hj⟩
  by_cases hlt:j<k
  · exact m.cell_some (h.cells j hlt) fun ⟨a,b,c⟩=>by
      have:=ho (by omega)
      omega
  · have h1:=(hV (j - k) (by omega)).1
    have h2:=ho (by omega)
    rw [h2,show oz+k+(j - k)=oz+j by omega,hX j (by omega) hj] at h1
    exact h1
theorem Written.stay {w wr:World} {bz oz n k:Nat} {f g:Nat→Nat} (h:Written w wr bz oz k f) (hZ:Vec w bz oz n g) (hk:k≤n) (hX:∀ j,k≤j→j<n→g j=f j) (hf:∀ j,j<n→f j<B64) :
    Vec wr bz oz n f∧Mod (InR bz oz n) w wr:=by
  have hm:Mod (InR bz oz n) w wr:=h.mod.mono fun _ _ _ ⟨a,b,c⟩=>⟨a,b,by omega⟩
  refine ⟨fun j hj=>⟨?_,hm.free (hZ j hj).1 (hZ j hj).2.1,hf j hj⟩,hm⟩
  by_cases hlt:j<k
  · exact h.cells j hlt
  · rw [← hX j (by omega) hj]
    exact h.mod.cell_some (hZ j hj).1 fun ⟨a,b,c⟩=>by omega
end
end Go.Proofs.YtpfmbfkhjapbbaaGreatDoor
