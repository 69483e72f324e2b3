/-
  The specification's curves by their words, toBytes, bytesOf, ScalarOf; slices.Equal of two rows of bytes; IsCurve. Conditions: rows of at most 2^20 bytes.
  The specification's toBytes, bytesOf, ScalarOf; slices.Equal of two rows of bytes. Conditions: rows of at most 2^20 bytes; numbers in at most 72 bytes.
  The specification's bytesOf and ScalarOf: the bytes of a number modulo the order. Conditions: rows of at most 2^20 bytes.
  laws.FnExactNumber, walked: it returns true and turns no cell that was there. Conditions: io.EOF holds an errors.errorString's pointer; the number below 2^64.
-/
import Derived.Test.YtpfmbfkhjapbbaaGreatDoorMSpecMod
import Derived.Test.YtpfmbfkhjapbbaaGreatDoorMg07
set_option linter.unusedVariables false
set_option linter.unusedSimpArgs false
namespace Go.Proofs.YtpfmbfkhjapbbaaGreatDoor
section
open Go Go.RowKit
def words (v j:Nat):Nat:=v/B64^j%B64
theorem words_lt (v j:Nat):words v j<B64:=Nat.mod_lt _ B64_pos
theorem val_words (v n:Nat):val (words v) n=v%B64^n:=by
  induction n with
  | zero=>simp [val,Nat.mod_one]
  | succ n ih =>
    simp only [val]
    rw [ih,Nat.pow_succ,Nat.mod_mul,Nat.mul_comm (words v n)]
    rfl
def mzK:Nat→Nat | 1=>12 | 2=>4 | _=>10
def longK:Nat→Nat | 1=>72 | 2=>98 | _=>48
@[reducible] def cvl (P B N X Y:Nat→Nat) (s z l:Nat):List Value:=[U (P 0),U (P 1),U (P 2),U (P 3),U (P 4),U (P 5),U (P 6),U (P 7),U (P 8),U (B 0),U (B 1),U (B 2),U (B 3),U (B 4),U (B 5),U (B 6),U (B 7),U (B 8),U (N 0),U (N 1),U (N 2),U (N 3),U (N 4),U (N 5),U (N 6),U (N 7),U (N 8),U (X 0),U (X 1),U (X 2),U (X 3),U (X 4),U (X 5),U (X 6),U (X 7),U (X 8),U (Y 0),U (Y 1),U (Y 2),U (Y 3),U (Y 4),U (Y 5),U (Y 6),U (Y 7),U (Y 8),.int .i64 s,.int .u64 z,.int .i64 l]
def cvK (k:Nat):List Value:=cvl (words (pK k)) (words (bK k)) (words (ordK k)) (words (gxK k)) (words (gyK k)) (lenK k) (mzK k) (longK k)
def curveV (k:Nat):Value:=.agg (cvK k).toArray
theorem size65:(Tryz.prog.info? 65).map (·.size)=some 48:=by kernel_rfl
def litK0:List Value:=[.int .u64 18446744073709551615,.int .u64 4294967295,.int .u64 0,.int .u64 18446744069414584321,.int .u64 0,.int .u64 0,.int .u64 0,.int .u64 0,.int .u64 0,.int .u64 4309448131093880907,.int .u64 7285987128567378166,.int .u64 12964664127075681980,.int .u64 6540974713487397863,.int .u64 0,.int .u64 0,.int .u64 0,.int .u64 0,.int .u64 0,.int .u64 17562291160714782033,.int .u64 13611842547513532036,.int .u64 18446744073709551615,.int .u64 18446744069414584320,.int .u64 0,.int .u64 0,.int .u64 0,.int .u64 0,.int .u64 0,.int .u64 17627433388654248598,.int .u64 8575836109218198432,.int .u64 17923454489921339634,.int .u64 7716867327612699207,.int .u64 0,.int .u64 0,.int .u64 0,.int .u64 0,.int .u64 0,.int .u64 14678990851816772085,.int .u64 3156516839386865358,.int .u64 10297457778147434006,.int .u64 5756518291402817435,.int .u64 0,.int .u64 0,.int .u64 0,.int .u64 0,.int .u64 0,.int .i64 32,.int .u64 10,.int .i64 48]
theorem litK0_eq:litK0=cvK 0:=by kernel_rfl
def litK1:List Value:=[.int .u64 4294967295,.int .u64 18446744069414584320,.int .u64 18446744073709551614,.int .u64 18446744073709551615,.int .u64 18446744073709551615,.int .u64 18446744073709551615,.int .u64 0,.int .u64 0,.int .u64 0,.int .u64 3064076045283764975,.int .u64 14291673747578343837,.int .u64 221811693264799578,.int .u64 1737717031765098770,.int .u64 10992729701402291481,.int .u64 12912154004749740004,.int .u64 0,.int .u64 0,.int .u64 0,.int .u64 17072048233947408755,.int .u64 6348401684107011962,.int .u64 14367412456785391071,.int .u64 18446744073709551615,.int .u64 18446744073709551615,.int .u64 18446744073709551615,.int .u64 0,.int .u64 0,.int .u64 0,.int .u64 4203087948775033527,.int .u64 6125724927633205612,.int .u64 6482722621138151992,.int .u64 7934563412932533144,.int .u64 10282218360005504372,.int .u64 12288012358878168375,.int .u64 0,.int .u64 0,.int .u64 0,.int .u64 8809917716911230559,.int .u64 747793036959711645,.int .u64 16850834916486723776,.int .u64 17938995913990739068,.int .u64 6745997240412855337,.int .u64 3897828414440483951,.int .u64 0,.int .u64 0,.int .u64 0,.int .i64 48,.int .u64 12,.int .i64 72]
theorem litK1_eq:litK1=cvK 1:=by kernel_rfl
def litK2:List Value:=[.int .u64 18446744073709551615,.int .u64 18446744073709551615,.int .u64 18446744073709551615,.int .u64 18446744073709551615,.int .u64 18446744073709551615,.int .u64 18446744073709551615,.int .u64 18446744073709551615,.int .u64 18446744073709551615,.int .u64 511,.int .u64 17241221745651760896,.int .u64 3851667882566759665,.int .u64 1608559935907544839,.int .u64 6204052985702421371,.int .u64 13309414057048082913,.int .u64 11734817516813489651,.int .u64 10563792850091589870,.int .u64 10754236788854528543,.int .u64 81,.int .u64 13506215149420700681,.int .u64 4302566813442262958,.int .u64 9208736750959699408,.int .u64 5874531763869423211,.int .u64 18446744073709551610,.int .u64 18446744073709551615,.int .u64 18446744073709551615,.int .u64 18446744073709551615,.int .u64 511,.int .u64 17977945514697932134,.int .u64 3695401138005885595,.int .u64 18311004035940853982,.int .u64 11622487132578732328,.int .u64 17881735149126499770,.int .u64 11269274249489003809,.int .u64 11402774946092790850,.int .u64 9623636836853541325,.int .u64 198,.int .u64 9853476271941576272,.int .u64 3836064706166178368,.int .u64 14218067438623065953,.int .u64 10947813747232876096,.int .u64 1706790690937005612,.int .u64 11021790744852251752,.int .u64 6668247425720589273,.int .u64 4118940400423256068,.int .u64 280,.int .i64 66,.int .u64 4,.int .i64 98]
theorem litK2_eq:litK2=cvK 2:=by kernel_rfl
theorem isCurve_any (k:Int) (w:World):Calls Tryz.prog 11 #[.int .i64 k] w fun e w'=>e=.returned (.bool (decide (0≤k) && decide (k≤2)))∧w'=w:=by
  by_cases h:0≤k
  · have h1:decide (k ≥ 0)=true:=decide_eq_true h
    go_enter Tryz.func11,Tryz.ntmps11
    go_wp2_with fail
    go_ret
    exact ⟨by simp [h],rfl⟩
  · have h1:decide (k ≥ 0)=false:=decide_eq_false h
    go_enter Tryz.func11,Tryz.ntmps11
    go_wp2_with fail
    go_ret
    exact ⟨by simp [h],rfl⟩
def zl65:List Value:=[.int .u64 0,.int .u64 0,.int .u64 0,.int .u64 0,.int .u64 0,.int .u64 0,.int .u64 0,.int .u64 0,.int .u64 0,.int .u64 0,.int .u64 0,.int .u64 0,.int .u64 0,.int .u64 0,.int .u64 0,.int .u64 0,.int .u64 0,.int .u64 0,.int .u64 0,.int .u64 0,.int .u64 0,.int .u64 0,.int .u64 0,.int .u64 0,.int .u64 0,.int .u64 0,.int .u64 0,.int .u64 0,.int .u64 0,.int .u64 0,.int .u64 0,.int .u64 0,.int .u64 0,.int .u64 0,.int .u64 0,.int .u64 0,.int .u64 0,.int .u64 0,.int .u64 0,.int .u64 0,.int .u64 0,.int .u64 0,.int .u64 0,.int .u64 0,.int .u64 0,.int .i64 0,.int .u64 0,.int .i64 0]
theorem zl65_size0:zl65.toArray.size=litK0.toArray.size:=by kernel_rfl
theorem zl65_size1:zl65.toArray.size=litK1.toArray.size:=by kernel_rfl
theorem zl65_size2:zl65.toArray.size=litK2.toArray.size:=by kernel_rfl
theorem setRow_mod {w:World} {b:Nat} {C C':Array Value} {t:TypeId} (hb:w.heap[b]? = some (.cells C t (0,0))) (hs:C'.size=C.size):Mod (InB b) w (w.setRow b C'):=by
  have hh:=setRow_heap w b C C' t (0,0) hb
  refine ⟨rfl,rfl,rfl,by simp,fun k hk => ?_⟩
  by_cases hkb:k=b
  · subst hkb
    exact .inr ⟨C,C',t,(0,0),hb,hh,hs,fun j hj=>(hj rfl).elim⟩
  · exact .inl (setRow_other w b k _ hkb)
theorem range_of_heap {w:World} {b:Nat} {cs:List Value} {t:TypeId} {fr:Nat × Nat} (h:w.heap[b]? = some (.cells cs.toArray t fr)):w.rangeAt b 0 cs:=fun j v hv=>by
  rw [cell?_of_heap h,Nat.zero_add,← hv]
  exact List.getElem?_toArray ..
theorem result32 (tmps:Array Value) (w:World) (b:Nat) (hs:tmps.getD 2 undef=.pointer (some ⟨b,0,none⟩)) (cs:List Value) (hr:w.rangeAt b 0 cs) (hi:(Tryz.prog.info? 65).map (·.size)=some cs.length) :
    (results Tryz.f32 tmps).run Tryz.prog w=.ok (.agg cs.toArray) w:=by
  simp only [results,Tryz.results32]
  simp only [Array.getD_eq_getD_getElem?] at hs
  simp [Sem.run_bind,hs,asAddr,run_loadVar_mid w b 0 65 cs _ hr Tryz.underlying65 rfl hi]
set_option maxRecDepth 100000 in
theorem curveOf0 (w:World):Calls Tryz.prog 32 #[.int .i64 0] w fun e w'=>e=.returned (curveV 0)∧Mod NoP w w':=by
  go_enter Tryz.func32,Tryz.ntmps32
  go_upto_region 6 with fail
  generalize hw1:w.alloc _=w1
  have h1:w1.heap[w.heap.size]? = some (.cells zl65.toArray 65 (0,0)):=by rw [← hw1];exact heap_alloc_new w _
  have m1:Mod NoP w w1:=by rw [← hw1];exact (Mod.refl _ w).alloc _
  clear hw1
  apply wp_region_lit
  refine wpList_build rfl 63 _ rfl (by kernel_rfl) ?_
  refine wpList_build rfl 63 _ rfl (by kernel_rfl) ?_
  refine wpList_build rfl 63 _ rfl (by kernel_rfl) ?_
  refine wpList_build rfl 63 _ rfl (by kernel_rfl) ?_
  refine wpList_build rfl 63 _ rfl (by kernel_rfl) ?_
  refine wpList_build rfl 65 _ rfl (by kernel_rfl) ?_
  refine wpList_store_row rfl 65 (.tmp 2) (.tmp 25) rfl w.heap.size litK0.toArray (by kernel_rfl) (by kernel_rfl) 65 zl65.toArray h1 size65 zl65_size0 (by kernel_rfl) ?_
  have h2:=setRow_heap w1 w.heap.size zl65.toArray litK0.toArray 65 (0,0) h1
  have m2:Mod NoP w (w1.setRow w.heap.size litK0.toArray):=m1.trans' (setRow_mod h1 (by rw [zl65_size0])) fun k o hk h=>by unfold InB at h;omega
  generalize w1.setRow w.heap.size litK0.toArray=w2 at *
  generalize hact:Act.put _ _ _=act
  have ha1:act.tmps.getD 2 undef=.pointer (some ⟨w.heap.size,0,none⟩):=by rw [← hact];kernel_rfl
  have ha2:act.defers=[]:=by rw [← hact];kernel_rfl
  clear hact
  go_wp2_with fail
  exact bodyPost_ret (v:=curveV 0) ((result32 _ w2 w.heap.size ha1 litK0 (range_of_heap h2) size65).trans (by rw [litK0_eq];rfl)) ha2 ⟨rfl,m2⟩
set_option maxRecDepth 100000 in
theorem curveOf1 (w:World):Calls Tryz.prog 32 #[.int .i64 1] w fun e w'=>e=.returned (curveV 1)∧Mod NoP w w':=by
  go_enter Tryz.func32,Tryz.ntmps32
  go_upto_region 3 with fail
  generalize hw1:w.alloc _=w1
  have h1:w1.heap[w.heap.size]? = some (.cells zl65.toArray 65 (0,0)):=by rw [← hw1];exact heap_alloc_new w _
  have m1:Mod NoP w w1:=by rw [← hw1];exact (Mod.refl _ w).alloc _
  clear hw1
  apply wp_region_lit
  refine wpList_build rfl 63 _ rfl (by kernel_rfl) ?_
  refine wpList_build rfl 63 _ rfl (by kernel_rfl) ?_
  refine wpList_build rfl 63 _ rfl (by kernel_rfl) ?_
  refine wpList_build rfl 63 _ rfl (by kernel_rfl) ?_
  refine wpList_build rfl 63 _ rfl (by kernel_rfl) ?_
  refine wpList_build rfl 65 _ rfl (by kernel_rfl) ?_
  refine wpList_store_row rfl 65 (.tmp 2) (.tmp 11) rfl w.heap.size litK1.toArray (by kernel_rfl) (by kernel_rfl) 65 zl65.toArray h1 size65 zl65_size1 (by kernel_rfl) ?_
  have h2:=setRow_heap w1 w.heap.size zl65.toArray litK1.toArray 65 (0,0) h1
  have m2:Mod NoP w (w1.setRow w.heap.size litK1.toArray):=m1.trans' (setRow_mod h1 (by rw [zl65_size1])) fun k o hk h=>by unfold InB at h;omega
  generalize w1.setRow w.heap.size litK1.toArray=w2 at *
  generalize hact:Act.put _ _ _=act
  have ha1:act.tmps.getD 2 undef=.pointer (some ⟨w.heap.size,0,none⟩):=by rw [← hact];kernel_rfl
  have ha2:act.defers=[]:=by rw [← hact];kernel_rfl
  clear hact
  go_wp2_with fail
  exact bodyPost_ret (v:=curveV 1) ((result32 _ w2 w.heap.size ha1 litK1 (range_of_heap h2) size65).trans (by rw [litK1_eq];rfl)) ha2 ⟨rfl,m2⟩
set_option maxRecDepth 100000 in
theorem curveOf2 (w:World):Calls Tryz.prog 32 #[.int .i64 2] w fun e w'=>e=.returned (curveV 2)∧Mod NoP w w':=by
  go_enter Tryz.func32,Tryz.ntmps32
  go_upto_region 5 with fail
  generalize hw1:w.alloc _=w1
  have h1:w1.heap[w.heap.size]? = some (.cells zl65.toArray 65 (0,0)):=by rw [← hw1];exact heap_alloc_new w _
  have m1:Mod NoP w w1:=by rw [← hw1];exact (Mod.refl _ w).alloc _
  clear hw1
  apply wp_region_lit
  refine wpList_build rfl 63 _ rfl (by kernel_rfl) ?_
  refine wpList_build rfl 63 _ rfl (by kernel_rfl) ?_
  refine wpList_build rfl 63 _ rfl (by kernel_rfl) ?_
  refine wpList_build rfl 63 _ rfl (by kernel_rfl) ?_
  refine wpList_build rfl 63 _ rfl (by kernel_rfl) ?_
  refine wpList_build rfl 65 _ rfl (by kernel_rfl) ?_
  refine wpList_store_row rfl 65 (.tmp 2) (.tmp 19) rfl w.heap.size litK2.toArray (by kernel_rfl) (by kernel_rfl) 65 zl65.toArray h1 size65 zl65_size2 (by kernel_rfl) ?_
  have h2:=setRow_heap w1 w.heap.size zl65.toArray litK2.toArray 65 (0,0) h1
  have m2:Mod NoP w (w1.setRow w.heap.size litK2.toArray):=m1.trans' (setRow_mod h1 (by rw [zl65_size2])) fun k o hk h=>by unfold InB at h;omega
  generalize w1.setRow w.heap.size litK2.toArray=w2 at *
  generalize hact:Act.put _ _ _=act
  have ha1:act.tmps.getD 2 undef=.pointer (some ⟨w.heap.size,0,none⟩):=by rw [← hact];kernel_rfl
  have ha2:act.defers=[]:=by rw [← hact];kernel_rfl
  clear hact
  go_wp2_with fail
  exact bodyPost_ret (v:=curveV 2) ((result32 _ w2 w.heap.size ha1 litK2 (range_of_heap h2) size65).trans (by rw [litK2_eq];rfl)) ha2 ⟨rfl,m2⟩
theorem curveOf_any (k:Nat) (hk:k≤2) (w:World):Calls Tryz.prog 32 #[.int .i64 k] w fun e w'=>e=.returned (curveV k)∧Mod NoP w w':=by
  obtain rfl | rfl | rfl:k=0∨k=1∨k=2:=by omega
  · exact curveOf0 w
  · exact curveOf1 w
  · exact curveOf2 w
end
section
open Go Go.RowKit
def byteW (f:Nat→Nat) (i:Nat):Nat:=f (i/8)/2^(8*(i%8))%256
theorem val_div (f:Nat→Nat) {n q:Nat} (hq:q≤n) (hf:∀ j,j<n→f j<B64):val f n/B64^q=val (fun j=>f (q+j)) (n - q):=by
  have h:=val_add f q (n - q)
  rw [show q+(n - q)=n by omega] at h
  rw [h,Nat.add_mul_div_left _ _ (pow_pos q),Nat.div_eq_of_lt (val_lt fun j hj=>hf j (by omega)),Nat.zero_add]
theorem val_byte (f:Nat→Nat) (n:Nat) (hf:∀ j,j<n→f j<B64) (i:Nat) (hi:i/8<n):val f n/256^i%256=byteW f i:=by
  have h1:256^i=B64^(i/8)*2^(8*(i%8)):=by
    rw [B64_pow,show (256:Nat)=2^8 from rfl,← Nat.pow_mul,← Nat.pow_mul,← Nat.pow_add]
    congr 1
    omega
  rw [h1,← Nat.div_div_eq_div_mul,val_div f (by omega) hf]
  obtain ⟨d,hd⟩:∃ d,n - i/8=1+d:=⟨n - i/8 - 1,by omega⟩
  rw [hd,val_add,val_one,Nat.add_zero,Nat.pow_one]
  generalize val (fun j=>f (i/8+(1+j))) d=y
  unfold byteW
  have hr:i%8<8:=Nat.mod_lt _ (by omega)
  generalize i%8=r at *
  have hB:B64=2^(8*r)*(2^(56 - 8*r)*256):=by
    rw [B64_pow,show (256:Nat)=2^8 from rfl,← Nat.pow_add,← Nat.pow_add]
    congr 1
    omega
  rw [hB,Nat.mul_assoc,Nat.add_mul_div_left _ _ (Nat.two_pow_pos _),show 2^(56 - 8*r)*256*y=256*(2^(56 - 8*r)*y) by ac_rfl,Nat.add_mul_mod_self_left]
theorem ArrG.congrB {w:World} {a:Option Addr} {c:Nat} {f g:Nat→Nat} (h:BArr w a c f) (hg:∀ j,j<c→g j=f j):BArr w a c g:=by
  rcases h with h | ⟨b,C,t,rfl,hb,hs,hc⟩
  · exact .inl h
  · exact .inr ⟨b,C,t,rfl,hb,hs,fun j hj=>by rw [hc j hj];show some (Bt (f j))=some (Bt (g j));rw [hg j hj]⟩
set_option maxRecDepth 100000 in
set_option maxHeartbeats 1000000 in
theorem toBytes_any (f:Nat→Nat) (n:Nat) (hf:∀ j,j<9→f j<B64) (hn:n≤72) (w:World) :
    Calls Tryz.prog 54 #[nv f,.int .i64 n] w fun e w'=>∃ b,e=.returned (.slice (some ⟨b,0,none⟩) n n)∧BArr w' (some ⟨b,0,none⟩) n (byteAt n (val f 9))∧w.heap.size≤b∧Mod NoP w w':=by
  have hmk:=fun u=>makeSlice22 n n (Nat.le_refl _) (by omega) u (n:Int) (n:Int) rfl rfl
  go_enter Tryz.func54,Tryz.ntmps54
  go_wp2_with fail
  have hx:=heap_alloc_new w (.cells (nc f) 63 (0,0))
  have m1:=(Mod.refl NoP w).alloc (.cells (nc f) 63 (0,0))
  have hs1:(w.alloc (.cells (nc f) 63 (0,0))).heap.size=w.heap.size+1:=by simp
  generalize w.alloc (.cells (nc f) 63 (0,0))=w1 at *
  have hz:=barr_zeros w1 n
  rw [hs1] at hz
  have v1:NIs (w1.alloc (zerosB n)) w.heap.size f:=NIs.mod hx ((Mod.refl NoP w1).alloc (zerosB n)) (fun _ h=>h)
  have m2:=m1.alloc (zerosB n)
  generalize hw2:w1.alloc (zerosB n)=w2 at *
  clear hw2 hx
  have hX:=v1.vec hf
  generalize hb0:w.heap.size=b0 at *
  generalize hb1:b0+1=b1 at *
  go_loopw [6] (fun i wr=>∃ k:Nat,k≤n∧i=.int .i64 (k:Int)∧∃ g:Nat→Nat,BArr wr (some ⟨b1,0,none⟩) n g∧(∀ j,j<k→g (n - 1 - j)=byteW f j)∧Mod (InB b1) w2 wr) (fun i _=>n - (intOf i).toNat)
  case atStart=>exact ⟨0,by omega,rfl,_,hz,fun j hj=>by omega,.refl _ _⟩
  case round =>
    obtain ⟨k,hk,rfl,g,hg,hgk,hm⟩:=hrel
    by_cases hlt:k<n
    · have d1:decide ((k:Int)<(n:Int))=true:=decide_eq_true (by omega)
      have hcx:=hm.cell_some (hX (k/8) (by omega)).1 (fun h=>by unfold InB at h;omega)
      rw [Nat.zero_add] at hcx
      have hst:=hg.cell (show n - 1 - k<n by omega)
      have hs1:=hst.1
      have hs2:=hst.2
      have HG:=Lib.hid hg
      have HK:=Lib.hid hgk
      have Hm:=Lib.hid hm
      have e1:IntKind.i64.wrap ((n:Int) - 1)=(n:Int) - 1:=IntWalk.i64_in _ (by omega)
      have e2:IntKind.i64.wrap ((n:Int) - 1 - (k:Int))=((n - 1 - k:Nat):Int):=by rw [IntWalk.i64_in _ (by omega)];omega
      have hby:=Lib.hid (show f (k/8)/2^(8*(k%8))%256=byteW f k from rfl)
      clear hg hgk hm hst
      generalize f (k/8)=x at *
      go_wp2_with fail
      go_roundw
      case rel =>
        have hbv:(x:Int)/2^(8*(k%8))%256=((byteW f k:Nat):Int):=by rw [← hby.out];simp
        have hst:=HG.out.store (show n - 1 - k<n by omega) (byteW f k)
        rw [hbv]
        refine ⟨k+1,by omega,by simp,_,hst.1,fun j hj => ?_,Hm.out.trans hst.2⟩
        by_cases hjk:j=k
        · subst hjk;simp
        · rw [if_neg (by omega)]
          exact HK.out j (by omega)
      case measure=>simp [intOf];omega
    · obtain rfl:k=n:=by omega
      have d1:decide ((k:Int)<(k:Int))=false:=decide_eq_false (by omega)
      go_wp2_with fail
      go_ret
      refine ⟨b1,rfl,hg.congrB fun j hj => ?_,by omega,m2.trans' hm fun q r hq hh=>by unfold InB at hh;omega⟩
      have h1:=hgk (k - 1 - j) (by omega)
      rw [show k - 1 - (k - 1 - j)=j by omega] at h1
      rw [h1]
      exact val_byte f 9 hf _ (by omega)
end
section
open Go Go.RowKit
def BRet (n v:Nat) (w:World) (e:Ending) (w':World):Prop :=
  ∃ b,e=.returned (.slice (some ⟨b,0,none⟩) n n)∧BArr w' (some ⟨b,0,none⟩) n (byteAt n v)∧w.heap.size≤b∧Mod NoP w w'
set_option maxRecDepth 100000 in
set_option maxHeartbeats 1000000 in
theorem specBytesOf (P B N X Y f:Nat→Nat) (s z l:Nat) (hs:s≤72) (hf:∀ j,j<9→f j<B64) (w:World) :
    Calls Tryz.prog 35 #[.agg (cvl P B N X Y s z l).toArray,nv f] w (BRet s (val f 9) w):=by
  have ht:=fun w1=>toBytes_any f s hf hs w1
  have HT:=Lib.hid ht
  clear ht
  go_enter Tryz.func35,Tryz.ntmps35
  go_wp2_with fail
  refine (HT.out _).mono ?_
  rintro e w1 ⟨b,rfl,hB,hb,m1⟩
  have HB:=Lib.hid hB
  clear hB
  go_wp2_with fail
  go_ret
  exact ⟨b,rfl,HB.out,by simp at hb;omega,(((Mod.refl NoP w).alloc _).alloc _).trans m1⟩
theorem zl65_sizeK (k:Nat):zl65.toArray.size=(cvK k).toArray.size:=by kernel_rfl
theorem cvK_one (k:Nat):(cvK k).toArray.all (·.oneCell')=true:=by kernel_rfl
end
section
open Go Go.RowKit
theorem beN_congr {f g:Nat→Nat} {n:Nat} (h:∀ j,j<n→f j=g j):beN f n=beN g n:=by
  induction n with
  | zero=>rfl
  | succ n ih=>simp only [beN];rw [ih fun j hj=>h j (by omega),h n (by omega)]
end
end Go.Proofs.YtpfmbfkhjapbbaaGreatDoor
