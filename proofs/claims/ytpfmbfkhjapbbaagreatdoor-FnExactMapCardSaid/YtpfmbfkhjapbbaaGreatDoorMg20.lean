/-
  Int.Add, Sub, Mul over the ghost map of owners: the Int that is set is set to the sum, difference, product; all other Ints are as they were. Conditions: at most 11 words (Mul: 11; Add, Sub: 40).
  Lists of Ints over the ghost map of owners: what a step that sets one of them leaves; cells that nobody owns. No condition; no program's function in sight.
  big's Int.Mod over the ghost map of owners. Conditions: the modulus is positive, of 2 to 39 words, and another Int than the one that is set; the number has at most 900 words.
  Int.Set, Neg, SetInt64, Rsh over the ghost map of owners; a sign that is set alone. Conditions: at most 10^6 words.
  Int.Exp over the ghost map of owners. Conditions: a number below the modulus, not negative; an exponent of at least two words; an odd modulus of 2 to 9 words; the Int that is set is another than these three.
  NewInt, intOne: a new Int that holds a number. Condition: the number is an int64.
  mulW and lehmerUpdate over the ghost map of owners. Conditions: at most 30 words.
-/
import Derived.Test.YtpfmbfkhjapbbaaGreatDoorMIntSet
import Derived.Test.YtpfmbfkhjapbbaaGreatDoorMQuoRem
import Derived.Test.YtpfmbfkhjapbbaaGreatDoorMExpNN
import Derived.Test.YtpfmbfkhjapbbaaGreatDoorMInts7
import Derived.Deep.QuietTactic
import Derived.BigQuiet
set_option linter.unusedVariables false
set_option linter.unusedSimpArgs false
namespace Go.Proofs.YtpfmbfkhjapbbaaGreatDoor
section
open Go Go.RowKit
structure OEnv (own:Nat→Option Nat) (w:World):Prop where
  ok:OwnOk own w
  g3:Glo w 3 12
  g4:Glo w 4 80
  g5:Glo w 5 40
  g6:Glo w 6 40
  n:∀ k,k<7→own k=none
theorem OEnv.six {own:Nat→Option Nat} {w:World} (h:OEnv own w):6<w.heap.size:=lt_of_cell? h.g6
theorem OEnv.ext {Z:Nat→Prop} {own own':Nat→Option Nat} {w w':World} (h:OEnv own w) (e:Ext Z own own' w w'):OEnv own' w':=by
  have h6:=h.six
  refine ⟨e.ok,e.cell h.g3 ?_,e.cell h.g4 ?_,e.cell h.g5 ?_,e.cell h.g6 ?_,fun k hk=>(e.old k (by omega)).trans (h.n k hk)⟩ <;>
  · intro z hz
    rw [h.n _ (by omega)] at hz
    cases hz
theorem IntO.any {own:Nat→Option Nat} {w:World} {p:Nat} {i:Int} (h:IntO own w p i) :
    ∃ a n c f,IntIs w p (decide (i<0)) a n c f i.natAbs∧(∀ A,a=some A→own A.block=own p)∧(own p=some p∨own p=none):=by
  obtain ⟨a,n,c,f,hI,⟨h1,h2⟩ | ⟨h1,h2⟩⟩:=h
  · exact ⟨a,n,c,f,hI,fun A hA=>(h2 A hA).trans h1.symm,.inl h1⟩
  · exact ⟨a,n,c,f,hI,fun A hA=>(h2 A hA).trans h1.symm,.inr h1⟩
theorem own_apart {own:Nat→Option Nat} {w:World} {pz px nz cz vz:Nat} {bz:Bool} {az:Option Addr} {fz:Nat→Nat} (hZ:IntIs w pz bz az nz cz fz vz) (ha:∀ A,az=some A→own A.block=own pz) (oz:own pz=some pz)
    (hx:own px=some px∨own px=none):∀ A,az=some A→A.block≠px:=by
  intro A hA he
  have h1:=ha A hA
  rw [he,oz] at h1
  rcases hx with h | h
  · rw [h] at h1
    have h2:px=pz:=Option.some.inj h1
    exact hZ.apart A hA (he.trans h2)
  · rw [h] at h1;cases h1
theorem own_words {own:Nat→Option Nat} {pz px:Nat} {az ax:Option Addr} (ha:∀ A,az=some A→own A.block=own pz) (oz:own pz=some pz) (hb:∀ A,ax=some A→own A.block=own px)
    (hx:own px=some px∨own px=none) (hne:pz≠px):∀ A A',az=some A→ax=some A'→A.block≠A'.block:=by
  intro A A' hA hA' he
  have h1:=ha A hA
  rw [he,hb A' hA',oz] at h1
  rcases hx with h | h
  · rw [h] at h1;exact hne (Option.some.inj h1).symm
  · rw [h] at h1;cases h1
theorem IntIs.words_le {w:World} {p n c:Nat} {i:Int} {neg:Bool} {a:Option Addr} {f:Nat→Nat} (h:IntIs w p neg a n c f i.natAbs) {m:Nat} (hb:i.natAbs<B64^m):n≤m:=h.num.len_le hb
theorem sg_not (b:Bool) (v:Nat):sg (!b) v = -sg b v:=by cases b <;> simp [sg]
theorem intAdd_o (own:Nat→Option Nat) (w:World) (pz px py:Nat) (k i j:Int) (m:Nat) (E:OEnv own w) (hz:IntO own w pz k) (oz:own pz=some pz) (hx:IntO own w px i) (hy:IntO own w py j) (hm:m≤1000)
    (bi:i.natAbs<B64^m) (bj:j.natAbs<B64^m):Calls Tryz.prog 94 #[.pointer (some ⟨pz,0,none⟩),.pointer (some ⟨px,0,none⟩),.pointer (some ⟨py,0,none⟩)] w (OwnRet own w pz (i+j)):=by
  obtain ⟨az,nz,cz,fz,hZ,z2,_⟩:=hz.any
  obtain ⟨ax,nx,cx,fx,hX,x2,_⟩:=hx.any
  obtain ⟨ay,ny,cy,fy,hY,y2,_⟩:=hy.any
  have h:=intAdd_sg pz px py nz cz nx cx ny cy _ _ _ _ _ _ az ax ay fz fx fy w hZ hX hY (by have:=hX.words_le bi;omega) (by have:=hY.words_le bj;omega)
  rw [sg_self,sg_self] at h
  exact h.mono fun e w' hr=>hr.own E.ok oz (fun A hA=>(z2 A hA).trans oz) hZ.lt hZ.ltA rfl rfl
theorem intSub_o (own:Nat→Option Nat) (w:World) (pz px py:Nat) (k i j:Int) (m:Nat) (E:OEnv own w) (hz:IntO own w pz k) (oz:own pz=some pz) (hx:IntO own w px i) (hy:IntO own w py j) (hm:m≤1000)
    (bi:i.natAbs<B64^m) (bj:j.natAbs<B64^m):Calls Tryz.prog 91 #[.pointer (some ⟨pz,0,none⟩),.pointer (some ⟨px,0,none⟩),.pointer (some ⟨py,0,none⟩)] w (OwnRet own w pz (i - j)):=by
  obtain ⟨az,nz,cz,fz,hZ,z2,_⟩:=hz.any
  obtain ⟨ax,nx,cx,fx,hX,x2,_⟩:=hx.any
  obtain ⟨ay,ny,cy,fy,hY,y2,_⟩:=hy.any
  have h:=intSub_sg pz px py nz cz nx cx ny cy _ _ _ _ _ _ az ax ay fz fx fy w hZ hX hY (by have:=hX.words_le bi;omega) (by have:=hY.words_le bj;omega)
  rw [sg_not,sg_self,sg_self,← Int.sub_eq_add_neg] at h
  exact h.mono fun e w' hr=>hr.own E.ok oz (fun A hA=>(z2 A hA).trans oz) hZ.lt hZ.ltA rfl rfl
theorem intMul_o (own:Nat→Option Nat) (w:World) (pz px py:Nat) (k i j:Int) (E:OEnv own w) (hz:IntO own w pz k) (oz:own pz=some pz) (hx:IntO own w px i) (hy:IntO own w py j)
    (bi:i.natAbs<B64^11) (bj:j.natAbs<B64^11) (hij:px=py→i=j):Calls Tryz.prog 97 #[.pointer (some ⟨pz,0,none⟩),.pointer (some ⟨px,0,none⟩),.pointer (some ⟨py,0,none⟩)] w (OwnRet own w pz (i*j)):=by
  obtain ⟨az,nz,cz,fz,hZ,z2,_⟩:=hz.any
  obtain ⟨ax,nx,cx,fx,hX,x2,x3⟩:=hx.any
  obtain ⟨ay,ny,cy,fy,hY,y2,y3⟩:=hy.any
  by_cases hne:px=py
  · subst hne
    obtain rfl:=hij rfl
    have h:=intSqr_any pz px nz cz nx cx _ _ _ _ az ax fz fx w E.g3 E.g4 hZ hX (by have:=hX.words_le bi;omega) (fun A hA=>⟨own_apart hZ z2 oz x3 A hA,own_apart hZ z2 oz x3 A hA⟩)
    refine h.mono fun e w' hr=>hr.own E.ok oz (fun A hA=>(z2 A hA).trans oz) hZ.lt hZ.ltA ?_ ?_
    · have:¬ i*i<0:=by
        have hsq:0≤i*i:=by
          rcases Int.le_total 0 i with h | h
          · exact Int.mul_nonneg h h
          · exact Int.mul_nonneg_of_nonpos_of_nonpos h h
        omega
      rw [decide_eq_false this]
    · rw [Int.natAbs_mul]
  · have h:=intMul_any pz px py nz cz nx cx ny cy _ _ _ _ _ _ az ax ay fz fx fy w E.g5 hZ hX hY (by have:=hX.words_le bi;omega) (by have:=hY.words_le bj;omega) hne (fun A hA=>⟨own_apart hZ z2 oz x3 A hA,own_apart hZ z2 oz y3 A hA⟩)
    rw [sg_self,sg_self] at h
    exact h.mono fun e w' hr=>hr.own E.ok oz (fun A hA=>(z2 A hA).trans oz) hZ.lt hZ.ltA rfl rfl
end
section
open Go Go.RowKit
structure Cap (own:Nat→Option Nat) (w:World) (k o:Nat) (v:Value):Prop where
  cell:w.cell? ⟨k,o,none⟩=some v
  none:own k=Option.none
theorem Cap.ext {Z:Nat→Prop} {own own':Nat→Option Nat} {w w':World} {k o:Nat} {v:Value} (h:Cap own w k o v) (e:Ext Z own own' w w'):Cap own' w' k o v :=
  ⟨e.cell h.cell (fun z hz=>by rw [h.none] at hz;cases hz),(e.old k (lt_of_cell? h.cell)).trans h.none⟩
def OwnSet (own:Nat→Option Nat) (w:World) (z:Nat) (i:Int) (w':World):Prop:=∃ own',Ext (·=z) own own' w w'∧IntO own' w' z i
theorem OwnSet.trans {own:Nat→Option Nat} {w w1 w2:World} {own1:Nat→Option Nat} {z:Nat} {i:Int} (e:Ext (·=z) own own1 w w1) (h:OwnSet own1 w1 z i w2):OwnSet own w z i w2:=by
  obtain ⟨own2,e2,h2⟩:=h
  exact ⟨own2,e.trans e2,h2⟩
structure OSt (own:Nat→Option Nat) (w:World) (K:Nat) (P:List Nat) (V:List Int):Prop where
  env:OEnv own w
  st:St own w K P V
theorem OSt.put {own:Nat→Option Nat} {w w':World} {K:Nat} {P:List Nat} {V:List Int} (h:OSt own w K P V) {z:Nat} {i:Int} (c:Nat) (hc:P[c]? = some z) (hs:OwnSet own w z i w') :
    ∃ own',Ext (·=z) own own' w w'∧OSt own' w' K P (V.set c i):=by
  obtain ⟨own',e,hi⟩:=hs
  exact ⟨own',e,h.env.ext e,h.st.put hc e hi⟩
theorem OSt.still {own:Nat→Option Nat} {w w':World} {K:Nat} {P:List Nat} {V:List Int} (h:OSt own w K P V) (m:Mod NoP w w'):∃ own',Ext (fun _=>False) own own' w w'∧OSt own' w' K P V:=by
  obtain ⟨own',e⟩:=Ext.quiet (Z:=fun _=>False) h.env.ok m
  exact ⟨own',e,h.env.ext e,h.st.quiet e fun _ _ _ h=>h⟩
theorem OSt.push {own:Nat→Option Nat} {w w':World} {K:Nat} {P:List Nat} {V:List Int} (h:OSt own w K P V) (m:Mod NoP w w') {p n c:Nat} {i:Int} {a:Option Addr} {f:Nat→Nat}
    (hI:IntIs w' p (decide (i<0)) a n c f i.natAbs) (hp:w.heap.size≤p) (ha:∀ A,a=some A→w.heap.size≤A.block) :
    ∃ own',Ext (fun _=>False) own own' w w'∧OSt own' w' (K+1) (p :: P) (i :: V):=by
  obtain ⟨own',e,s⟩:=h.st.push m hI hp ha
  exact ⟨own',e,h.env.ext e,s⟩
theorem intNew (w:World):IntIs (w.alloc (.cells #[.bool false,.slice none 0 0] 51 (0,0))) w.heap.size (decide ((0:Int)<0)) none 0 0 (fun _=>0) (0:Int).natAbs :=
  ⟨heap_alloc_new w _,⟨.nil _ _,Nat.le_refl _,rfl,.inl rfl⟩,fun A hA=>by cases hA⟩
theorem OSt.new {own:Nat→Option Nat} {w:World} {K:Nat} {P:List Nat} {V:List Int} (h:OSt own w K P V) :
    ∃ own',Ext (fun _=>False) own own' w (w.alloc (.cells #[.bool false,.slice none 0 0] 51 (0,0)))∧OSt own' (w.alloc (.cells #[.bool false,.slice none 0 0] 51 (0,0))) (K+1) (w.heap.size :: P) (0 :: V) :=
  h.push ((Mod.refl NoP w).alloc _) (intNew w) (Nat.le_refl _) fun A hA=>by cases hA
theorem OSt.get {own:Nat→Option Nat} {w:World} {K:Nat} {P:List Nat} {V:List Int} (h:OSt own w K P V) {p:Nat} {i:Int} (c:Nat) (hp:P[c]? = some p) (hi:V[c]? = some i):IntO own w p i:=h.st.ints c p i hp hi
theorem OSt.own {own:Nat→Option Nat} {w:World} {K:Nat} {P:List Nat} {V:List Int} (h:OSt own w K P V) {p:Nat} (c:Nat) (hc:c<K) (hp:P[c]? = some p):Go.Proofs.YtpfmbfkhjapbbaaGreatDoor.OwnOk own w∧own p=some p:=⟨h.env.ok,h.st.wr c p hc hp⟩
theorem OSt.ne {own:Nat→Option Nat} {w:World} {K:Nat} {P:List Nat} {V:List Int} (h:OSt own w K P V) {p q:Nat} (c d:Nat) (hcd:c≠d) (hp:P[c]? = some p) (hq:P[d]? = some q):p≠q:=fun e=>hcd (h.st.inj c d p hp (e ▸ hq))
end
section
open Go Go.RowKit
theorem mod_pos {i j:Int} (hj:0<j) (h:¬ (i<0∧0<i.natAbs%j.natAbs)):(if decide (i<0) && decide (0<i.natAbs%j.natAbs) then -((i.natAbs%j.natAbs:Nat):Int) else ((i.natAbs%j.natAbs:Nat):Int))=i%j:=by
  have hb:(decide (i<0) && decide (0<i.natAbs%j.natAbs))=false:=by
    rw [Bool.and_eq_false_iff]
    by_cases h1:i<0
    · right;exact decide_eq_false fun h2=>h ⟨h1,h2⟩
    · left;exact decide_eq_false h1
  rw [hb,if_neg (by decide)]
  by_cases h1:i<0
  · have h0:i.natAbs%j.natAbs=0:=Nat.eq_zero_of_not_pos fun h2=>h ⟨h1,h2⟩
    rw [h0]
    have hd:j ∣ i:=by
      rw [← Int.natAbs_dvd_natAbs]
      exact Nat.dvd_of_mod_eq_zero h0
    rw [Int.emod_eq_zero_of_dvd hd];rfl
  · rw [Int.natCast_emod]
    congr 1 <;> omega
theorem mod_neg {i j:Int} (hj:0<j) (h1:i<0) (h2:0<i.natAbs%j.natAbs) : -((i.natAbs%j.natAbs:Nat):Int)+j=i%j:=by
  have e1:(i.natAbs:Int) = -i:=by omega
  have e2:(j.natAbs:Int)=j:=by omega
  have e3:((i.natAbs%j.natAbs:Nat):Int)=(-i)%j:=by rw [Int.natCast_emod,e1,e2]
  have h3:0<(-i)%j:=by rw [← e3];omega
  have h4:(-i)%j<j:=Int.emod_lt_of_pos _ hj
  rw [e3]
  have h5:=Int.emod_add_mul_ediv (-i) j
  generalize (-i)%j=r at *
  generalize (-i)/j=q at *
  have h6:i=(j - r)+j*(-q - 1):=by
    have h7:j*(-q - 1) = -(j*q) - j:=by rw [Int.mul_sub,Int.mul_neg,Int.mul_one]
    omega
  rw [h6,Int.add_mul_emod_self_left,Int.emod_eq_of_lt (by omega) (by omega)]
  omega
theorem QrDone.ret {w w1 W:World} {pq pz:Nat} {az:Option Addr} {sq sr:Bool} {q r:Nat} (h:QrDone w1 pq pz none az sq sr q r W) (m:Mod NoP w w1) (hq:w.heap.size≤pq):IntRet w pz az sr r (.returned (.pointer (some ⟨pz,0,none⟩))) W:=by
  obtain ⟨a,n,c,f,a',n',c',f',i1,i2,g,g',mm,_⟩:=h
  refine ⟨rfl,a',n',c',f',i2,?_,g'.imp id fun h=>h.mono m.size⟩
  refine (m.of_none (M:=IntP pz az)).trans' mm fun k o hk hh => ?_
  rcases hh with (rfl | ⟨A,hA,_⟩) | hh
  · omega
  · cases hA
  · exact hh
set_option maxRecDepth 100000 in
set_option maxHeartbeats 8000000 in
theorem intMod_o (own:Nat→Option Nat) (w:World) (pz px py:Nat) (k i j:Int) (E:OEnv own w) (hz:IntO own w pz k) (oz:own pz=some pz) (hx:IntO own w px i) (hy:IntO own w py j) (hj:0<j) (hyz:pz≠py)
    (bi:i.natAbs<B64^30) (bj:j.natAbs<B64^30) (hbig:B64≤j.natAbs):Calls Tryz.prog 95 #[.pointer (some ⟨pz,0,none⟩),.pointer (some ⟨px,0,none⟩),.pointer (some ⟨py,0,none⟩)] w (OwnRet own w pz (i%j)):=by
  obtain ⟨az,nz,cz,fz,hZ,z2,z3⟩:=hz.any
  obtain ⟨ax,nx,cx,fx,hX,x2,x3⟩:=hx.any
  obtain ⟨ay,ny,cy,fy,hY,y2,y3⟩:=hy.any
  have hnx:=hX.words_le bi
  have hny:=hY.words_le bj
  have hny2:2≤ny:=by
    have h:=hY.num.lt
    rcases Nat.lt_or_ge ny 2 with h1 | h1
    · have:B64^ny≤B64^1:=Nat.pow_le_pow_right B64_pos (by omega)
      rw [Nat.pow_one] at this
      omega
    · exact h1
  have hdj:decide (j<0)=false:=decide_eq_false (by omega)
  rw [hdj] at hY
  have hwo:=own_words z2 oz y2 y3 hyz
  have hpx:=own_apart hZ z2 oz x3
  have hpy:=own_apart hZ z2 oz y3
  have h6:¬ BlkOf az 6 0:=by
    rintro ⟨A,hA,e⟩
    have:=z2 A hA
    rw [e,E.n 6 (by omega),oz] at this
    cases this
  have hpt:=ptr_apart hZ.cells hY.cells hyz
  have HPT:=Lib.hid (fun (w':World) (h:w'.heap=w.heap)=>ptr_apart (w:=w') (by rw [h];exact hZ.cells) (by rw [h];exact hY.cells) hyz)
  have hal:decide (az=ay∧0<cz)=false:=decide_eq_false fun h=>by
    obtain ⟨b,hb⟩:=hZ.num.arr.form h.2
    exact hwo _ _ hb (h.1 ▸ hb) rfl
  have HAL:=Lib.hid (fun q=>(by have:=alias_any az ay nz cz ny cy fz fy (w.drewN q) (hZ.num.arr.drewN q) (hY.num.arr.drewN q) hZ.num.le hY.num.le;rw [hal] at this;exact this:Calls Tryz.prog 114 #[.slice az nz cz,.slice ay ny cy] (w.drewN q) fun e w'=>e=.returned (.bool false)∧∃ q',w'=(w.drewN q).drewN q'))
  have z1:=hZ.c1
  have y1:=hY.c1
  have HQ:=Lib.hid (fun w1 (m:Mod NoP w w1) pq (hnew:IntIs w1 pq false none 0 0 (fun _=>0) 0) (hq:w.heap.size≤pq)=>quoRem_any pq px py pz 0 0 0 nx cx _ ny cy _ nz cz _ false _ _ none ax ay az (fun _=>0) fx fy fz w1 (m.cell_some E.g6 fun h=>h)
    hnew (hX.mod m (fun _ h=>h) (Off.noP _)) (hY.mod m (fun _ h=>h) (Off.noP _)) (hZ.mod m (fun _ h=>h) (Off.noP _)) (by omega) (by omega) (by omega) (by omega) (by have:=hZ.lt;omega) (by rintro A hA;cases hA) (fun A hA=>by have:=hZ.ltA A hA;omega)
    (by rintro A A' hA;cases hA) (fun A A' hA hA'=>(hwo A' A hA' hA).symm) h6 (by have:=hX.lt;omega) (by have:=hY.lt;omega) hyz (by rintro A hA;cases hA) (fun A hA=>⟨hpx A hA,hpy A hA⟩))
  have HI:=Lib.hid (fun W (h:IntRet w pz az (decide (i<0) && decide (0<i.natAbs%j.natAbs)) (i.natAbs%j.natAbs) (.returned (.pointer (some ⟨pz,0,none⟩))) W) (v:Int) (h1:(decide (i<0) && decide (0<i.natAbs%j.natAbs))=decide (v<0)) (h2:i.natAbs%j.natAbs=v.natAbs) =>
    h.own E.ok oz (fun A hA=>(z2 A hA).trans oz) hZ.lt hZ.ltA h1 h2)
  have HY:=Lib.hid hY
  have HE:=Lib.hid E
  have HYO:=Lib.hid hy
  have hzl:=hZ.lt
  have HZS:=Lib.hid (fun W (h:IntRet w pz az (decide (i<0) && decide (0<i.natAbs%j.natAbs)) (i.natAbs%j.natAbs) (.returned (.pointer (some ⟨pz,0,none⟩))) W)=>(by
    obtain ⟨_,a',n',c',f',hI,hm,_⟩:=h
    exact ⟨hI.c0,hm.cell_some hY.c0 fun hh=>by
      rcases hh with hh | ⟨A,hA,hh⟩
      · exact hyz hh.symm
      · exact hpy A hA hh⟩:W.cell? ⟨pz,0,none⟩=some (.bool (decide (i<0) && decide (0<i.natAbs%j.natAbs)))∧W.cell? ⟨py,0,none⟩=some (.bool false)))
  have OZ:=Lib.hid oz
  have HBJ:=Lib.hid bj
  clear hZ hX hY hwo hpx hpy h6 z2 z3 x2 x3 y2 y3 E hz hx hy hal hdj hnx hny hny2 bi bj
  have hpq:=fun q=>HPT.out (w.drewN q) rfl
  have hpr:=HPT.out w.drew rfl
  generalize hsr:(decide (i<0) && decide (0<i.natAbs%j.natAbs))=sr at *
  go_enter Tryz.func95,Tryz.ntmps95
  go_wp2_with fail
  go_quiet ((go_at_call 114;exact Calls.quiet_of (HAL.out _)))
  have HSR:=Lib.hid hsr
  clear hpq hpr hpt z1 y1 hsr HAL
  go_wp2_with fail
  have m1:Mod NoP w ((w.drewN nq).alloc (.cells #[.bool false,.slice none 0 0] 51 (0,0))):=((Mod.refl NoP w).drewN nq).alloc _
  refine (HQ.out _ m1 w.heap.size (intNew (w.drewN nq)) (Nat.le_refl _)).mono ?_
  rintro e W ⟨rfl,hd⟩
  have hret:=hd.ret m1 (Nat.le_refl _)
  obtain ⟨c0,cy0⟩:=HZS.out W hret
  have HRET:=Lib.hid hret
  clear hd m1 HQ hret HZS
  cases sr
  · have hfin:=HI.out W HRET.out (i%j) (by have:=Int.emod_nonneg i (show j≠0 by omega);rw [decide_eq_false (by omega)]) (by
      have h:=mod_pos (i:=i) hj (fun hh=>by have:=HSR.out;rw [decide_eq_true hh.1,decide_eq_true hh.2] at this;cases this)
      rw [HSR.out,if_neg (by decide)] at h
      omega)
    have HFIN:=Lib.hid hfin
    clear hfin
    go_wp2_with fail
    go_ret
    exact HFIN.out
  · have hb:i<0∧0<i.natAbs%j.natAbs:=by
      have:=HSR.out
      rw [Bool.and_eq_true] at this
      exact ⟨of_decide_eq_true this.1,of_decide_eq_true this.2⟩
    have hfin:=HI.out W HRET.out (-((i.natAbs%j.natAbs:Nat):Int)) (by rw [decide_eq_true (by omega)]) (by omega)
    obtain ⟨_,own1,x1,i1⟩:=hfin
    have hyk:=HYO.out.keep x1 hyz.symm
    have HAD:=Lib.hid (intAdd_o own1 W pz pz py _ (-((i.natAbs%j.natAbs:Nat):Int)) j 30 (HE.out.ext x1) i1 ((x1.old pz (by omega)).trans OZ.out) i1 hyk (by omega) (by
      have h1:i.natAbs%j.natAbs<j.natAbs:=Nat.mod_lt _ (by omega)
      have h2:=HBJ.out
      rw [Int.natAbs_neg,Int.natAbs_natCast]
      exact Nat.lt_trans h1 h2) HBJ.out)
    have HB:=Lib.hid hb
    have HX1:=Lib.hid x1
    clear hb x1 i1 hyk
    go_wp2_with fail
    refine HAD.out.mono ?_
    rintro e W2 ⟨rfl,own2,x2,i2⟩
    rw [mod_neg hj HB.out.1 HB.out.2] at i2
    have HFIN:=Lib.hid (show OwnRet own w pz (i%j) (.returned (.pointer (some ⟨pz,0,none⟩))) W2 from ⟨rfl,own2,HX1.out.trans x2,i2⟩)
    clear x2 i2 HAD
    go_wp2_with fail
    go_ret
    exact HFIN.out
end
section
open Go Go.RowKit
theorem OwnSet.sign {own:Nat→Option Nat} {w:World} {pz:Nat} {i j:Int} (ok:OwnOk own w) (h:IntO own w pz i) (oz:own pz=some pz) (hj:j.natAbs=i.natAbs):OwnSet own w pz j (w.setCell ⟨pz,0,none⟩ (.bool (decide (j<0)))):=by
  obtain ⟨a,n,c,f,hI,hB⟩:=h
  refine ⟨own,⟨fun _ _=>rfl,(mod_own w pz 0 _).mono fun k o _ hh=>⟨pz,rfl,by unfold InB at hh;rw [hh];exact oz⟩,fun k z hk hz => ?_⟩,a,n,c,f,?_,hB⟩
  · have hs:(w.setCell ⟨pz,0,none⟩ (.bool (decide (j<0)))).heap.size=w.heap.size:=by simp
    rw [hs] at hk ⊢
    exact ok k z hk hz
  · rw [hj]
    exact ⟨by rw [heap_set hI.cells 0];rfl,hI.num.mod (mod_own w pz 0 _) fun A hA o hh=>hI.apart A hA hh,hI.apart⟩
theorem intSet_o (own:Nat→Option Nat) (w:World) (pz px:Nat) (k i:Int) (m:Nat) (E:OEnv own w) (hz:IntO own w pz k) (oz:own pz=some pz) (hx:IntO own w px i) (hm:m≤1000000) (bi:i.natAbs<B64^m) (hne:pz≠px) :
    Calls Tryz.prog 47 #[.pointer (some ⟨pz,0,none⟩),.pointer (some ⟨px,0,none⟩)] w (OwnRet own w pz i):=by
  obtain ⟨az,nz,cz,fz,hZ,z2,_⟩:=hz.any
  obtain ⟨ax,nx,cx,fx,hX,x2,x3⟩:=hx.any
  exact (intSet_any pz px nz cz nx cx _ _ _ _ az ax fz fx w hZ hX (by have:=hX.words_le bi;omega) hne (own_apart hZ z2 oz x3)).mono fun e w' hr=>hr.own E.ok oz (fun A hA=>(z2 A hA).trans oz) hZ.lt hZ.ltA rfl rfl
theorem intRsh_o (own:Nat→Option Nat) (w:World) (pz px:Nat) (k:Int) (v s m:Nat) (E:OEnv own w) (hz:IntO own w pz k) (oz:own pz=some pz) (hx:IntO own w px (v:Int)) (hm:m≤1000000) (bi:v<B64^m) (h1:0<s) (h2:s<64) :
    Calls Tryz.prog 92 #[.pointer (some ⟨pz,0,none⟩),.pointer (some ⟨px,0,none⟩),U s] w (OwnRet own w pz ((v/2^s:Nat):Int)):=by
  obtain ⟨az,nz,cz,fz,hZ,z2,_⟩:=hz.any
  obtain ⟨ax,nx,cx,fx,hX,x2,x3⟩:=hx.any
  rw [decide_eq_false (by omega),Int.natAbs_natCast] at hX
  have hX2:IntIs w px false ax nx cx fx v:=hX
  refine (intRsh_any pz px nz cz nx cx _ v s _ az ax fz fx w hZ hX2 (by have:=hX2.num.len_le bi;omega) h1 h2 (by
    by_cases hp:px=pz
    · rw [hp];exact hZ.apart
    · exact own_apart hZ z2 oz x3)).mono fun e w' hr=>hr.own E.ok oz (fun A hA=>(z2 A hA).trans oz) hZ.lt hZ.ltA (by rw [decide_eq_false (Int.not_lt.2 (Int.natCast_nonneg _))]) (by rw [Int.natAbs_natCast])
theorem intSetI64_o (own:Nat→Option Nat) (w:World) (pz:Nat) (k x:Int) (E:OEnv own w) (hz:IntO own w pz k) (oz:own pz=some pz) (hx:x.natAbs<9223372036854775808) :
    Calls Tryz.prog 78 #[.pointer (some ⟨pz,0,none⟩),.int .i64 x] w (OwnRet own w pz x):=by
  obtain ⟨az,nz,cz,fz,hZ,z2,_⟩:=hz.any
  by_cases h0:x<0
  · obtain ⟨n,rfl⟩:∃ n:Nat,x = -(n:Int):=⟨x.natAbs,by omega⟩
    exact (intSetI64_neg pz nz cz _ n _ az fz w hZ (by omega) (by omega)).mono fun e w' hr=>hr.own E.ok oz (fun A hA=>(z2 A hA).trans oz) hZ.lt hZ.ltA (by rw [decide_eq_true h0]) (by omega)
  · obtain ⟨n,rfl⟩:∃ n:Nat,x=(n:Int):=⟨x.natAbs,by omega⟩
    exact (intSetI64_pos pz nz cz _ n _ az fz w hZ (by omega)).mono fun e w' hr=>hr.own E.ok oz (fun A hA=>(z2 A hA).trans oz) hZ.lt hZ.ltA (by rw [decide_eq_false h0]) (by omega)
set_option maxRecDepth 100000 in
set_option maxHeartbeats 2000000 in
theorem intNeg_o (own:Nat→Option Nat) (w:World) (pz px:Nat) (k i:Int) (m:Nat) (E:OEnv own w) (hz:IntO own w pz k) (oz:own pz=some pz) (hx:IntO own w px i) (hm:m≤1000000) (bi:i.natAbs<B64^m) (hne:pz≠px) :
    Calls Tryz.prog 29 #[.pointer (some ⟨pz,0,none⟩),.pointer (some ⟨px,0,none⟩)] w (OwnRet own w pz (-i)):=by
  have HS:=Lib.hid (intSet_o own w pz px k i m E hz oz hx hm bi hne)
  have hzl:=hz.lt
  have HE:=Lib.hid E
  have OZ:=Lib.hid oz
  clear hz hx E oz bi
  go_enter Tryz.func29,Tryz.ntmps29
  go_wp2_with fail
  refine HS.out.mono ?_
  rintro e w1 ⟨rfl,own1,x1,i1⟩
  have hsg:=OwnSet.sign (j := -i) x1.ok i1 ((x1.old pz hzl).trans OZ.out) (by omega)
  obtain ⟨a,n,c,f,hI,_,_⟩:=i1.any
  have c0:=hI.c0
  have c1:=hI.c1
  have f0:=free_of_heap hI.cells 0
  have hn0:=hI.num.zero_iff
  have HX:=Lib.hid x1
  have HRES:=Lib.hid (hsg.trans (e:=x1):OwnSet own w pz (-i) _)
  by_cases h0:n=0
  · subst h0
    have hi:i=0:=by have:=hn0.1 rfl;omega
    have hd:decide (-i<0)=false:=decide_eq_false (by omega)
    rw [hd] at HRES
    clear hI hn0 hsg i1 x1 hd hi HS
    go_wp2_with fail
    go_ret
    exact ⟨rfl,HRES.out⟩
  · have hi:i≠0:=by intro h;exact h0 (hn0.2 (by omega))
    have hd:decide (-i<0) = !decide (i<0):=by
      by_cases h:i<0
      · rw [decide_eq_true h,decide_eq_false (by omega)];rfl
      · rw [decide_eq_false h,decide_eq_true (by omega)];rfl
    rw [hd] at HRES
    have g1:(0:Int)<(n:Int):=by omega
    have g2:decide ((n:Int) > 0)=true:=decide_eq_true g1
    have g3:decide ((0:Int)<(n:Int))=true:=decide_eq_true g1
    have g4:decide (0<n)=true:=decide_eq_true (by omega)
    generalize decide (i<0)=b at *
    clear hI hn0 hsg i1 x1 hd hi HS
    go_wp2_with fail
    go_ret
    exact ⟨rfl,HRES.out⟩
end
section
open Go Go.RowKit
set_option maxRecDepth 100000 in
set_option maxHeartbeats 4000000 in
theorem intExp_any (pz px py pm nz cz nx cx by_ ny cy bm n cm vz vx vy vm:Nat) (bz:Bool) (az ax:Option Addr) (fz fx fy fm:Nat→Nat) (w:World) (hG:Glo w 6 40) (hZ:IntIs w pz bz az nz cz fz vz) (hX:IntIs w px false ax nx cx fx vx)
    (hY:IntIs w py false (some ⟨by_,0,none⟩) ny cy fy vy) (hM:IntIs w pm false (some ⟨bm,0,none⟩) n cm fm vm) (hxm:vx<vm) (hny:2≤ny) (hny2:ny≤1000) (hn2:2≤n) (hn:n≤39) (hodd:vm%2=1) (hzm:pz≠pm)
    (hap:∀ A,az=some A→A.block≠px) (zx:∀ A,az=some A→A.block≠by_∧A.block≠bm∧A.block≠6) (zx2:∀ A A',az=some A→ax=some A'→A.block≠A'.block) :
    Calls Tryz.prog 117 #[.pointer (some ⟨pz,0,none⟩),.pointer (some ⟨px,0,none⟩),.pointer (some ⟨py,0,none⟩),.pointer (some ⟨pm,0,none⟩),.bool false] w (IntRet w pz az false (vx^vy%vm)):=by
  have z1:=hZ.c1
  have x0:=hX.c0
  have x1:=hX.c1
  have y0:=hY.c0
  have y1:=hY.c1
  have m1:=hM.c1
  have hpt:=ptr_apart hZ.cells hM.cells hzm
  have HPT:=Lib.hid (fun (w':World) (h:w'.heap=w.heap)=>ptr_apart (w:=w') (by rw [h];exact hZ.cells) (by rw [h];exact hM.cells) hzm)
  have HAL:=Lib.hid (fun q=>alias_no az (some ⟨bm,0,none⟩) nz cz n cm fz fm (w.drewN q) (hZ.num.arr.drewN q) (hM.num.arr.drewN q) hZ.num.le hM.num.le (fun A A' hA hA'=>by injection hA' with hA';subst hA';exact (zx A hA).2.1))
  have HE:=Lib.hid (fun q=>(expNN_any nz cz nx cx vx by_ ny cy vy bm n cm vm az ax fz fx fy fm (w.drewN q) hG (hZ.num.arr.drewN q) hZ.num.le (hX.num.drewN q) (hY.num.drewN q) (hM.num.drewN q) hxm hny hny2 hn2 hn hodd zx zx2).mono
    fun e w4=>setRest (s:=false) hZ hX hap ((Mod.refl NoP w).drewN q))
  clear hG hZ hX hY hM hxm hny hny2 hn2 hn hodd hap zx zx2
  generalize vx^vy%vm=v at *
  have hpq:=fun q=>HPT.out (w.drewN q) rfl
  have hpr:=HPT.out w.drew rfl
  go_enter Tryz.func117,Tryz.ntmps117
  go_wp2_with fail
  go_quiet ((go_at_call 114;exact Calls.quiet_of (HAL.out _)))
  clear hpq hpr hpt HAL
  have HE1:=Lib.hid (HE.out nq)
  clear HE
  go_wp2_with fail
  refine HE1.out.mono ?_
  rintro e w4 ⟨a',n',c',rfl,e1,f1,⟨e0,f0,ex⟩,res⟩
  have e1':=cell_same e1 (.slice a' n' c')
  have RES:=Lib.hid res
  clear res z1 x0 x1 y0 y1 m1 HE1
  by_cases h0:n'=0
  · subst h0
    go_wp2_with fail
    go_ret
    exact RES.out
  · have hn0:(n':Int) > 0:=by omega
    go_wp2_with fail
    go_ret
    exact RES.out
set_option maxRecDepth 100000 in
theorem intExp_any' (pz px py pm:Nat) (w:World) {Q:Ending→World→Prop} (h:Calls Tryz.prog 117 #[.pointer (some ⟨pz,0,none⟩),.pointer (some ⟨px,0,none⟩),.pointer (some ⟨py,0,none⟩),.pointer (some ⟨pm,0,none⟩),.bool false] w Q)
    (hq:∀ e w',Q e w'→e=.returned (.pointer (some ⟨pz,0,none⟩))) :
    Calls Tryz.prog 100 #[.pointer (some ⟨pz,0,none⟩),.pointer (some ⟨px,0,none⟩),.pointer (some ⟨py,0,none⟩),.pointer (some ⟨pm,0,none⟩)] w Q:=by
  have H:=Lib.hid h
  clear h
  go_enter Tryz.func100,Tryz.ntmps100
  go_wp2_with fail
  refine H.out.mono ?_
  rintro e w' hr
  obtain rfl:=hq e w' hr
  have HR:=Lib.hid hr
  clear hr H
  go_wp2_with fail
  exact HR.out
theorem pow_words {v n m:Nat} (h:v<B64^n) (h2:B64^m≤v):m<n:=by
  rcases Nat.lt_or_ge m n with h1 | h1
  · exact h1
  · have:B64^n≤B64^m:=Nat.pow_le_pow_right B64_pos h1
    omega
theorem intExp_o (own:Nat→Option Nat) (w:World) (pz px py pm:Nat) (k:Int) (x y m:Nat) (E:OEnv own w) (hz:IntO own w pz k) (oz:own pz=some pz) (hx:IntO own w px (x:Int)) (hy:IntO own w py (y:Int)) (hm:IntO own w pm (m:Int))
    (d1:pz≠px) (d2:pz≠py) (d3:pz≠pm) (hxm:x<m) (hodd:m%2=1) (by1:B64≤y) (by2:y<B64^9) (bm1:B64≤m) (bm2:m<B64^9) :
    Calls Tryz.prog 100 #[.pointer (some ⟨pz,0,none⟩),.pointer (some ⟨px,0,none⟩),.pointer (some ⟨py,0,none⟩),.pointer (some ⟨pm,0,none⟩)] w (OwnRet own w pz ((x^y%m:Nat):Int)):=by
  obtain ⟨az,nz,cz,fz,hZ,z2,z3⟩:=hz.any
  obtain ⟨ax,nx,cx,fx,hX,x2,x3⟩:=hx.any
  obtain ⟨ay,ny,cy,fy,hY,y2,y3⟩:=hy.any
  obtain ⟨am,n,cm,fm,hM,m2,m3⟩:=hm.any
  rw [decide_eq_false (by omega),Int.natAbs_natCast] at hX hY hM
  have hny:1<ny:=pow_words hY.num.lt (by rw [Nat.pow_one];exact by1)
  have hn:1<n:=pow_words hM.num.lt (by rw [Nat.pow_one];exact bm1)
  have hny9:=hY.num.len_le by2
  have hn9:=hM.num.len_le bm2
  obtain ⟨by_,rfl⟩:=hY.num.arr.form (by have:=hY.num.le;omega)
  obtain ⟨bm,rfl⟩:=hM.num.arr.form (by have:=hM.num.le;omega)
  have h6:∀ A,az=some A→A.block≠6:=fun A hA e=>by
    have:=z2 A hA
    rw [e,E.n 6 (by omega),oz] at this
    cases this
  refine intExp_any' pz px py pm w ((intExp_any pz px py pm nz cz nx cx by_ ny cy bm n cm _ x y m _ az ax fz fx fy fm w E.g6 hZ hX hY hM hxm (by omega) (by omega) (by omega) (by omega) hodd d3 (own_apart hZ z2 oz x3)
    (fun A hA=>⟨own_words z2 oz y2 y3 d2 A _ hA rfl,own_words z2 oz m2 m3 d3 A _ hA rfl,h6 A hA⟩) (own_words z2 oz x2 x3 d1)).mono fun e w' hr=>hr.own E.ok oz (fun A hA=>(z2 A hA).trans oz) hZ.lt hZ.ltA (by rw [decide_eq_false (by omega)]) (by rw [Int.natAbs_natCast])) fun e w' hr=>hr.1
end
section
open Go Go.RowKit
def NewRet (w:World) (i:Int) (e:Ending) (w':World):Prop :=
  ∃ p a n c f,e=.returned (.pointer (some ⟨p,0,none⟩))∧IntIs w' p (decide (i<0)) a n c f i.natAbs∧Mod NoP w w'∧w.heap.size≤p∧∀ A,a=some A→w.heap.size≤A.block
theorem newRet_word (w:World) (b:Bool) (x:Nat) (t:TypeId) (i:Int) (hx:0<x) (hxb:x<B64) (hb:b=decide (i<0)) (hi:x=i.natAbs) :
    NewRet w i (.returned (.pointer (some ⟨w.heap.size+1,0,none⟩))) ((w.alloc (.cells #[U x] t (0,0))).alloc (.cells #[.bool b,.slice (some ⟨w.heap.size,0,none⟩) 1 1] 51 (0,0))):=by
  have hs:(w.alloc (.cells #[U x] t (0,0))).heap.size=w.heap.size+1:=by simp
  have hA:=(Arr.fresh w #[U x] t 1 (fun _=>x) rfl (by decide) (fun j hj=>by
    obtain rfl:j=0:=by omega
    exact ⟨rfl,hxb⟩))
  have hn:=heap_alloc_new (w.alloc (.cells #[U x] t (0,0))) (.cells #[.bool b,.slice (some ⟨w.heap.size,0,none⟩) 1 1] 51 (0,0))
  rw [hs] at hn
  subst hb
  refine ⟨_,_,1,1,fun _=>x,rfl,⟨hn,⟨hA.mod ((Mod.refl NoP _).alloc _) (Off.noP _),Nat.le_refl _,?_,.inr ?_⟩,?_⟩,((Mod.refl NoP w).alloc _).alloc _,Nat.le_succ _,?_⟩
  · rw [val_one];exact hi
  · show x≠0
    omega
  · intro A hA
    injection hA with hA
    subst hA
    show w.heap.size≠w.heap.size+1
    omega
  · intro A hA
    injection hA with hA
    subst hA
    exact Nat.le_refl _
theorem newRet_zero (w:World) (b:Bool) (i:Int) (hb:b=decide (i<0)) (hi:i=0) :
    NewRet w i (.returned (.pointer (some ⟨w.heap.size,0,none⟩))) (w.alloc (.cells #[.bool b,.slice none 0 0] 51 (0,0))):=by
  subst hi
  subst hb
  exact ⟨_,none,0,0,fun _=>0,rfl,intNew w,(Mod.refl NoP w).alloc _,Nat.le_refl _,fun A hA=>by cases hA⟩
theorem natOne_any (w:World):Calls Tryz.prog 112 #[] w fun e w'=>e=.returned (.slice (some ⟨w.heap.size,0,none⟩) 1 1)∧w'=w.alloc (.cells #[U 1] 121 (0,0)):=by
  go_enter Tryz.func112,Tryz.ntmps112
  go_wp2_with fail
  go_ret
  exact ⟨rfl,rfl⟩
theorem intOne_any (w:World):Calls Tryz.prog 120 #[] w (NewRet w 1):=by
  have H1:=Lib.hid (natOne_any w)
  go_enter Tryz.func120,Tryz.ntmps120
  go_wp2_with fail
  refine H1.out.mono ?_
  rintro e w' ⟨rfl,rfl⟩
  go_wp2_with fail
  go_ret
  exact newRet_word w false 1 121 1 (by omega) (by decide) (by decide) rfl
theorem newInt_any (w:World) (i:Int) (h1 : -9223372036854775808≤i) (h2:i<9223372036854775808):Calls Tryz.prog 90 #[.int .i64 i] w (NewRet w i):=by
  by_cases h0:i=0
  · subst h0
    have R:=Lib.hid (newRet_zero w false 0 rfl rfl)
    go_enter Tryz.func90,Tryz.ntmps90
    go_wp2_with fail
    go_ret
    exact R.out
  · by_cases hn:i<0
    · obtain ⟨n,rfl⟩:∃ n:Nat,i = -(n:Int):=⟨i.natAbs,by omega⟩
      have R:=Lib.hid (newRet_word w true n 121 (-(n:Int)) (by omega) (by rw [B64_eq];omega) (by rw [decide_eq_true hn]) (by omega))
      have e1:IntKind.u64.wrap (-IntKind.u64.wrap (-(n:Int)))=(n:Int):=by rw [IntKind.wrap_u64,IntKind.wrap_u64];omega
      have e2:(-(n:Int) == 0)=false:=by simp;omega
      have e3:decide (-(n:Int)<0)=true:=decide_eq_true hn
      have e4:¬ (n:Int)=0:=by omega
      have e5:0<(n:Int):=by omega
      go_enter Tryz.func90,Tryz.ntmps90
      go_wp2_with fail
      go_ret
      exact R.out
    · obtain ⟨n,rfl⟩:∃ n:Nat,i=(n:Int):=⟨i.natAbs,by omega⟩
      have R:=Lib.hid (newRet_word w false n 121 (n:Int) (by omega) (by rw [B64_eq];omega) (by rw [decide_eq_false hn]) (by omega))
      have e1:IntKind.u64.wrap (n:Int)=(n:Int):=by rw [IntKind.wrap_u64];omega
      have e2:((n:Int) == 0)=false:=by simp;omega
      have e3:decide ((n:Int)<0)=false:=decide_eq_false hn
      have e4:¬ (n:Int)=0:=h0
      go_enter Tryz.func90,Tryz.ntmps90
      go_wp2_with fail
      go_ret
      exact R.out
end
section
open Go Go.RowKit
def IntL (own:Nat→Option Nat) (w:World) (p:Nat) (i:Int):Prop :=
  ∃ b a n c f v,IntIs w p b a n c f v∧sg b v=i∧(Blk own p a (some p)∨Blk own p a none)
theorem IntO.loose {own:Nat→Option Nat} {w:World} {p:Nat} {i:Int} (h:IntO own w p i):IntL own w p i:=by
  obtain ⟨a,n,c,f,hI,hB⟩:=h
  exact ⟨_,a,n,c,f,_,hI,sg_self i,hB⟩
theorem IntL.any {own:Nat→Option Nat} {w:World} {p:Nat} {i:Int} (h:IntL own w p i) :
    ∃ b a n c f v,IntIs w p b a n c f v∧sg b v=i∧(∀ A,a=some A→own A.block=own p)∧(own p=some p∨own p=none):=by
  obtain ⟨b,a,n,c,f,v,hI,hs,⟨h1,h2⟩ | ⟨h1,h2⟩⟩:=h
  · exact ⟨b,a,n,c,f,v,hI,hs,fun A hA=>(h2 A hA).trans h1.symm,.inl h1⟩
  · exact ⟨b,a,n,c,f,v,hI,hs,fun A hA=>(h2 A hA).trans h1.symm,.inr h1⟩
theorem IntL.lt {own:Nat→Option Nat} {w:World} {p:Nat} {i:Int} (h:IntL own w p i):p<w.heap.size:=by
  obtain ⟨b,a,n,c,f,v,hI,_⟩:=h
  exact hI.lt
theorem IntL.keep {own own':Nat→Option Nat} {w w':World} {p:Nat} {i:Int} {Z:Nat→Prop} (h:IntL own w p i) (e:Ext Z own own' w w') (hp:¬ Z p):IntL own' w' p i:=by
  obtain ⟨b,a,n,c,f,v,hI,hs,hB⟩:=h
  refine ⟨b,a,n,c,f,v,hI.mod e.mod ?_ ?_,hs,?_⟩
  · rintro o ⟨z,hz,hk⟩
    rcases hB with ⟨h1,_⟩ | ⟨h1,_⟩
    · rw [h1] at hk;cases hk;exact hp hz
    · rw [h1] at hk;cases hk
  · rintro A hA o ⟨z,hz,hk⟩
    rcases hB with ⟨_,h2⟩ | ⟨_,h2⟩
    · rw [h2 A hA] at hk;cases hk;exact hp hz
    · rw [h2 A hA] at hk;cases hk
  · rcases hB with ⟨h1,h2⟩ | ⟨h1,h2⟩
    · exact .inl ⟨(e.old _ hI.lt).trans h1,fun A hA=>(e.old _ (hI.ltA A hA)).trans (h2 A hA)⟩
    · exact .inr ⟨(e.old _ hI.lt).trans h1,fun A hA=>(e.old _ (hI.ltA A hA)).trans (h2 A hA)⟩
def OwnSetL (own:Nat→Option Nat) (w:World) (z:Nat) (i:Int) (w':World):Prop:=∃ own',Ext (·=z) own own' w w'∧IntL own' w' z i
theorem IntRet.ownL {own:Nat→Option Nat} {w:World} {z:Nat} {a:Option Addr} {neg:Bool} {v:Nat} {e:Ending} {w':World} (h:IntRet w z a neg v e w') (ok:OwnOk own w) (hz:own z=some z)
    (ha:∀ A,a=some A→own A.block=some z) (hzl:z<w.heap.size) (hal:∀ A,a=some A→A.block<w.heap.size):OwnSetL own w z (sg neg v) w':=by
  obtain ⟨he,a',n,c,f,hI,hm,hf⟩:=h
  refine ⟨fun k=>if k<w.heap.size then own k else some z,⟨fun k hk=>if_pos hk,hm.mono ?_,?_⟩,neg,a',n,c,f,v,hI,rfl,.inl ⟨(if_pos hzl).trans hz,?_⟩⟩
  · rintro k o hk (rfl | ⟨A,hA,rfl⟩)
    · exact ⟨_,rfl,hz⟩
    · exact ⟨_,rfl,ha A hA⟩
  · intro k x hk hx
    by_cases hl:k<w.heap.size
    · exact Nat.lt_of_lt_of_le (ok k x hl ((if_pos hl).symm.trans hx)) hm.size
    · have hx':some z=some x:=(if_neg hl).symm.trans hx
      cases hx'
      exact Nat.lt_of_lt_of_le hzl hm.size
  · intro A hA
    rcases hf with rfl | ⟨k,e1,hk⟩
    · show (if A.block<w.heap.size then own A.block else some z)=some z
      rw [if_pos (hal A hA)];exact ha A hA
    · have h5:A.block=k:=congrArg Addr.block (Option.some.inj (hA.symm.trans e1))
      show (if A.block<w.heap.size then own A.block else some z)=some z
      rw [if_neg (by omega)]
theorem intAdd_l (own:Nat→Option Nat) (w:World) (pz px py:Nat) (k i j:Int) (m:Nat) (E:OEnv own w) (hz:IntL own w pz k) (oz:own pz=some pz) (hx:IntL own w px i) (hy:IntL own w py j) (hm:m≤1000)
    (bi:i.natAbs<B64^m) (bj:j.natAbs<B64^m):Calls Tryz.prog 94 #[.pointer (some ⟨pz,0,none⟩),.pointer (some ⟨px,0,none⟩),.pointer (some ⟨py,0,none⟩)] w (OwnRet own w pz (i+j)):=by
  obtain ⟨bz,az,nz,cz,fz,vz,hZ,_,z2,_⟩:=hz.any
  obtain ⟨bx,ax,nx,cx,fx,vx,hX,rfl,x2,_⟩:=hx.any
  obtain ⟨by_,ay,ny,cy,fy,vy,hY,rfl,y2,_⟩:=hy.any
  rw [sg_abs] at bi bj
  have h:=intAdd_sg pz px py nz cz nx cx ny cy _ _ _ _ _ _ az ax ay fz fx fy w hZ hX hY (by have:=hX.num.len_le bi;omega) (by have:=hY.num.len_le bj;omega)
  exact h.mono fun e w' hr=>hr.own E.ok oz (fun A hA=>(z2 A hA).trans oz) hZ.lt hZ.ltA rfl rfl
set_option maxRecDepth 100000 in
set_option maxHeartbeats 4000000 in
theorem mulW_any (pz px nz cz nx cx vz vx d:Nat) (bz bx neg:Bool) (az ax:Option Addr) (fz fx:Nat→Nat) (w:World) (hZ:IntIs w pz bz az nz cz fz vz) (hX:IntIs w px bx ax nx cx fx vx) (hsx:nx≤1000) (hd:d<B64)
    (hap:∀ A,az=some A→A.block≠px):Calls Tryz.prog 167 #[.pointer (some ⟨pz,0,none⟩),.pointer (some ⟨px,0,none⟩),.bool neg,U d] w fun e w'=>e=.returned (.tuple #[])∧IntRet w pz az (bx != neg) (vx*d) (.returned (.pointer (some ⟨pz,0,none⟩))) w':=by
  have z1:=hZ.c1
  have x1:=hX.c1
  have HA:=Lib.hid (fun w1 (m:Mod NoP w w1)=>(by have h:=mulAddWW_any az ax nz cz nx cx d 0 vx w1 fz fx (hZ.num.arr.mod m (Off.noP _)) hZ.num.le (hX.num.mod m (Off.noP _)) (by omega) hd B64_pos;rw [Nat.add_zero] at h;exact h.mono fun e w4=>setRest (s:=bx != neg) hZ hX hap m:Calls Tryz.prog 136 #[.slice az nz cz,.slice ax nx cx,U d,U 0] w1 (SetRest w pz az nz cz bz px bx (bx != neg) (vx*d))))
  clear hZ hX
  generalize vx*d=v at *
  go_enter Tryz.func167,Tryz.ntmps167
  go_wp2_with fail
  go_region_with (go_at_call 136;refine (HA.out _ ?_).mono ?_;((first | exact (Mod.refl NoP w).drew | exact (Mod.refl NoP w).drewN _));rintro e w4 ⟨a',n',c',rfl,e1,f1,⟨e0,f0,ex⟩,res⟩)
  all_goals (have RES:=Lib.hid res;clear res;generalize w4.setCell ⟨pz,1,none⟩ (.slice a' n' c')=W at *)
  all_goals (go_wp2_with fail;go_end0;exact ⟨rfl,RES.out⟩)
theorem mulW_o (own:Nat→Option Nat) (w:World) (pz px d:Nat) (k i:Int) (neg:Bool) (m:Nat) (E:OEnv own w) (hz:IntL own w pz k) (oz:own pz=some pz) (hx:IntO own w px i) (hm:m≤1000) (bi:i.natAbs<B64^m) (hd:d<B64) :
    Calls Tryz.prog 167 #[.pointer (some ⟨pz,0,none⟩),.pointer (some ⟨px,0,none⟩),.bool neg,U d] w fun e w'=>e=.returned (.tuple #[])∧OwnSetL own w pz (if neg then -((d:Int)*i) else (d:Int)*i) w':=by
  obtain ⟨bz,az,nz,cz,fz,vz,hZ,_,z2,_⟩:=hz.any
  obtain ⟨ax,nx,cx,fx,hX,x2,x3⟩:=hx.any
  refine (mulW_any pz px nz cz nx cx _ _ d bz _ neg az ax fz fx w hZ hX (by have:=hX.words_le bi;omega) hd (by
    by_cases hp:px=pz
    · rw [hp];exact hZ.apart
    · exact own_apart hZ z2 oz x3)).mono fun e w' hr=>⟨hr.1,?_⟩
  have h:=hr.2.ownL E.ok oz (fun A hA=>(z2 A hA).trans oz) hZ.lt hZ.ltA
  have hs:sg (decide (i<0) != neg) (i.natAbs*d)=if neg then -((d:Int)*i) else (d:Int)*i:=by
    have h1:sg (decide (i<0)) (i.natAbs*d)=(d:Int)*i:=by
      by_cases h:i<0
      · rw [decide_eq_true h,sg_true,Int.natCast_mul,show (i.natAbs:Int) = -i by omega,Int.neg_mul,Int.neg_neg,Int.mul_comm]
      · rw [decide_eq_false h,sg_false,Int.natCast_mul,show (i.natAbs:Int)=i by omega,Int.mul_comm]
    cases neg
    · rw [Bool.bne_false,h1];rfl
    · rw [Bool.bne_true,sg_not,h1];rfl
  rw [hs] at h
  exact h
end
end Go.Proofs.YtpfmbfkhjapbbaaGreatDoor
