/-
  cggroup's groups P256, P384, P521 (and impl.groupOf): an interface over a curve and its order's bytes; byteSize, NewScalar. Condition: io.EOF holds an errors.errorString's pointer. Lines alike from curve to curve: printed by a program (gengroups.py).
-/
import Derived.Test.YtpfmbfkhjapbbaaGreatDoorMg03
import Derived.Test.YtpfmbfkhjapbbaaGreatDoorMg05
import Derived.Deep.RegionHeld3
import Derived.Deep.DeepCutAuto
set_option linter.unusedVariables false
set_option linter.unusedSimpArgs false
namespace Go.Proofs.YtpfmbfkhjapbbaaGreatDoor
open Go Go.RowKit
def bitsK:Nat→Nat | 1=>384 | 2=>521 | _=>256
def lenK:Nat→Nat | 1=>48 | 2=>66 | _=>32
def pK:Nat→Nat | 1=>nP384P | 2=>nP521P | _=>nP256P
def ordK:Nat→Nat | 1=>nP384N | 2=>nP521N | _=>nP256N
def bK:Nat→Nat | 1=>nP384B | 2=>nP521B | _=>nP256B
def gxK:Nat→Nat | 1=>nP384X | 2=>nP521X | _=>nP256X
def gyK:Nat→Nat | 1=>nP384Y | 2=>nP521Y | _=>nP256Y
def byteAt (n v j:Nat):Nat:=v/256^(n - 1 - j)%256
def GrpIs (w:World) (lo k:Nat) (g:Value):Prop :=
  ∃ p o,g=.agg #[.iface 125 (.pointer (some ⟨p,0,none⟩)),.slice (some ⟨o,0,none⟩) (lenK k) (lenK k)]∧lo≤p∧lo≤o∧CurveIs w lo p (bitsK k) (pK k) (ordK k) (bK k) (gxK k) (gyK k)∧BArr w (some ⟨o,0,none⟩) (lenK k) (byteAt (lenK k) (ordK k))
theorem GrpIs.mod {w w':World} {lo k:Nat} {g:Value} (h:GrpIs w lo k g) {M:Places} (hm:Mod M w w') (hM:∀ k o,lo≤k→¬ M k o):GrpIs w' lo k g:=by
  obtain ⟨p,o,h1,h2,h3,h4,h5⟩:=h
  exact ⟨p,o,h1,h2,h3,h4.mod hm hM,h5.mod hm fun A hA i=>by obtain rfl:=Option.some.inj hA;exact hM _ _ h3⟩
theorem bts_row (l:List Nat) (f:Nat→Nat) (n:Nat) (hn:l.length=n) (h:(List.range n).all (fun j=>l.getD j 0 == f j)=true) (j:Nat) (hj:j<n):(l.map Bt).toArray[j]? = some (Bt (f j)):=by
  rw [List.all_eq_true] at h
  have h1:=h j (by simpa using hj)
  have hjl:j<l.length:=by omega
  simp only [beq_iff_eq,List.getD_eq_getElem?_getD,List.getElem?_eq_getElem hjl,Option.getD_some] at h1
  simp [hjl,h1]
def byP256:List Nat:=[255,255,255,255,0,0,0,0,255,255,255,255,255,255,255,255,188,230,250,173,167,23,158,132,243,185,202,194,252,99,37,81]
theorem orderP256_run (w:World):Calls Tryz.prog 74 #[] w fun e w'=>e=.returned (.slice (some ⟨w.heap.size,0,none⟩) 32 32)∧BArr w' (some ⟨w.heap.size,0,none⟩) 32 (byteAt 32 (ordK 0))∧Mod NoP w w':=by
  go_enter Tryz.func74,Tryz.ntmps74
  go_wp2_with fail
  go_ret
  refine ⟨rfl,.inr ⟨_,_,_,rfl,heap_alloc_new _ _,rfl,fun j hj => ?_⟩,(Mod.refl NoP w).alloc _⟩
  exact bts_row byP256 (byteAt 32 (ordK 0)) 32 rfl (by kernel_rfl) j hj
theorem groupP256 (w:World) (ea:Addr) (hE:Eof w ea):Calls Tryz.prog 50 #[] w fun e w'=>∃ g,e=.returned (.iface 108 g)∧GrpIs w' w.heap.size 0 g∧Mod NoP w w':=by
  go_enter Tryz.func50,Tryz.ntmps50
  go_wp2_with fail
  refine (curveP256 _ ea hE).mono ?_
  rintro e w1 ⟨p,rfl,hC,m1⟩
  have HC:=Lib.hid hC
  clear hC
  go_wp2_with fail
  refine (orderP256_run _).mono ?_
  rintro e w2 ⟨rfl,hB,m2⟩
  have HB:=Lib.hid hB
  clear hB
  go_wp2_with fail
  go_ret
  have hC2:=HC.out.mod m2 nop
  have s1:=m1.size
  obtain ⟨_,_,_,_,_,_,_,hp,_⟩:=id hC2
  exact ⟨_,rfl,⟨p,_,rfl,hp,s1,hC2,HB.out⟩,m1.trans m2⟩
def byP384:List Nat:=[255,255,255,255,255,255,255,255,255,255,255,255,255,255,255,255,255,255,255,255,255,255,255,255,199,99,77,129,244,55,45,223,88,26,13,178,72,176,167,122,236,236,25,106,204,197,41,115]
theorem orderP384_run (w:World):Calls Tryz.prog 70 #[] w fun e w'=>e=.returned (.slice (some ⟨w.heap.size,0,none⟩) 48 48)∧BArr w' (some ⟨w.heap.size,0,none⟩) 48 (byteAt 48 (ordK 1))∧Mod NoP w w':=by
  go_enter Tryz.func70,Tryz.ntmps70
  go_wp2_with fail
  go_ret
  refine ⟨rfl,.inr ⟨_,_,_,rfl,heap_alloc_new _ _,rfl,fun j hj => ?_⟩,(Mod.refl NoP w).alloc _⟩
  exact bts_row byP384 (byteAt 48 (ordK 1)) 48 rfl (by kernel_rfl) j hj
theorem groupP384 (w:World) (ea:Addr) (hE:Eof w ea):Calls Tryz.prog 48 #[] w fun e w'=>∃ g,e=.returned (.iface 108 g)∧GrpIs w' w.heap.size 1 g∧Mod NoP w w':=by
  go_enter Tryz.func48,Tryz.ntmps48
  go_wp2_with fail
  refine (curveP384 _ ea hE).mono ?_
  rintro e w1 ⟨p,rfl,hC,m1⟩
  have HC:=Lib.hid hC
  clear hC
  go_wp2_with fail
  refine (orderP384_run _).mono ?_
  rintro e w2 ⟨rfl,hB,m2⟩
  have HB:=Lib.hid hB
  clear hB
  go_wp2_with fail
  go_ret
  have hC2:=HC.out.mod m2 nop
  have s1:=m1.size
  obtain ⟨_,_,_,_,_,_,_,hp,_⟩:=id hC2
  exact ⟨_,rfl,⟨p,_,rfl,hp,s1,hC2,HB.out⟩,m1.trans m2⟩
def byP521:List Nat:=[1,255,255,255,255,255,255,255,255,255,255,255,255,255,255,255,255,255,255,255,255,255,255,255,255,255,255,255,255,255,255,255,255,250,81,134,135,131,191,47,150,107,127,204,1,72,247,9,165,208,59,181,201,184,137,156,71,174,187,111,183,30,145,56,100,9]
theorem orderP521_run (w:World):Calls Tryz.prog 72 #[] w fun e w'=>e=.returned (.slice (some ⟨w.heap.size,0,none⟩) 66 66)∧BArr w' (some ⟨w.heap.size,0,none⟩) 66 (byteAt 66 (ordK 2))∧Mod NoP w w':=by
  go_enter Tryz.func72,Tryz.ntmps72
  go_wp2_with fail
  go_ret
  refine ⟨rfl,.inr ⟨_,_,_,rfl,heap_alloc_new _ _,rfl,fun j hj => ?_⟩,(Mod.refl NoP w).alloc _⟩
  exact bts_row byP521 (byteAt 66 (ordK 2)) 66 rfl (by kernel_rfl) j hj
theorem groupP521 (w:World) (ea:Addr) (hE:Eof w ea):Calls Tryz.prog 49 #[] w fun e w'=>∃ g,e=.returned (.iface 108 g)∧GrpIs w' w.heap.size 2 g∧Mod NoP w w':=by
  go_enter Tryz.func49,Tryz.ntmps49
  go_wp2_with fail
  refine (curveP521 _ ea hE).mono ?_
  rintro e w1 ⟨p,rfl,hC,m1⟩
  have HC:=Lib.hid hC
  clear hC
  go_wp2_with fail
  refine (orderP521_run _).mono ?_
  rintro e w2 ⟨rfl,hB,m2⟩
  have HB:=Lib.hid hB
  clear hB
  go_wp2_with fail
  go_ret
  have hC2:=HC.out.mod m2 nop
  have s1:=m1.size
  obtain ⟨_,_,_,_,_,_,_,hp,_⟩:=id hC2
  exact ⟨_,rfl,⟨p,_,rfl,hp,s1,hC2,HB.out⟩,m1.trans m2⟩
theorem groupOf_any (k:Nat) (hk:k≤2) (w:World) (ea:Addr) (hE:Eof w ea):Calls Tryz.prog 31 #[.int .i64 k] w fun e w'=>∃ g,e=.returned (.iface 108 g)∧GrpIs w' w.heap.size k g∧Mod NoP w w':=by
  obtain rfl | rfl | rfl:k=0∨k=1∨k=2:=by omega
  · go_enter Tryz.func31,Tryz.ntmps31
    go_wp2_with fail
    refine (groupP256 _ ea hE).mono ?_
    rintro e w1 ⟨g,rfl,hG,m1⟩
    go_wp2_with fail
    go_ret
    exact ⟨g,rfl,hG,m1⟩
  · go_enter Tryz.func31,Tryz.ntmps31
    go_wp2_with fail
    refine (groupP384 _ ea hE).mono ?_
    rintro e w1 ⟨g,rfl,hG,m1⟩
    go_wp2_with fail
    go_ret
    exact ⟨g,rfl,hG,m1⟩
  · go_enter Tryz.func31,Tryz.ntmps31
    go_wp2_with fail
    refine (groupP521 _ ea hE).mono ?_
    rintro e w1 ⟨g,rfl,hG,m1⟩
    go_wp2_with fail
    go_ret
    exact ⟨g,rfl,hG,m1⟩
theorem params_any (p:Nat) (w:World):Calls Tryz.prog 283 #[.pointer (some ⟨p,0,none⟩)] w fun e w'=>e=.returned (.pointer (some ⟨p,0,none⟩))∧w'=w:=by
  go_enter Tryz.func283,Tryz.ntmps283
  go_wp2_with fail
  go_ret
  exact ⟨rfl,rfl⟩
theorem byteSize_any (k:Nat) (hk:k≤2) (g:Value) (lo:Nat) (w:World) (h:GrpIs w lo k g):Calls Tryz.prog 244 #[g] w fun e w'=>e=.returned (.int .i64 (lenK k))∧Mod NoP w w':=by
  obtain ⟨p,o,rfl,hp,ho,⟨bp,bn,bb,bx,bY,nm,hc,_⟩,hb⟩:=h
  have hc5:w.cell? ⟨p,5,none⟩=some (.int .i64 (bitsK k)):=by rw [cell?_of_heap hc];rfl
  have hq:wrap64 (Int.tdiv (wrap64 ((bitsK k:Int)+7)) 8)=(lenK k:Int):=by
    obtain rfl | rfl | rfl:k=0∨k=1∨k=2:=by omega
    all_goals kernel_rfl
  generalize bitsK k=bits at *
  generalize lenK k=len at *
  go_enter Tryz.func244,Tryz.ntmps244
  go_wp2_with fail
  refine (params_any p _).mono ?_
  rintro e w1 ⟨rfl,hw⟩
  have m1:Mod NoP w w1:=by rw [hw];exact (Mod.refl NoP w).alloc _
  have hc1:w1.cell? ⟨p,5,none⟩=some (.int .i64 bits):=m1.cell_some hc5 fun h=>h
  clear hw hc5
  go_wp2_with fail
  go_ret
  exact ⟨congrArg (fun x=>Ending.returned (.int .i64 x)) hq,m1⟩
theorem lenK_le (k:Nat) (hk:k≤2):lenK k≤66∧32≤lenK k:=by
  obtain rfl | rfl | rfl:k=0∨k=1∨k=2:=by omega
  all_goals decide
end Go.Proofs.YtpfmbfkhjapbbaaGreatDoor
