/-
  Words and memory: what the other texts of this seat say of the heap: which places a step may turn ('Mod'), that a row of cells holds words ('Vec', 'Arr'), the number that words make ('val'). No condition; no program in sight.
  The plain laws of the long division: the guess of a digit from the leading words, the division of two words by one with a reciprocal, the division in halves of a word. No condition; no program in sight.
  The plain law of a digit's guess by halves of a word. No condition; no program in sight.
  The plain laws of the specification's numbers: a bit of a number of many words, its half, the steps of a product and of a power by bits. No condition; no program in sight.
  The plain law of a power by windows of four bits. No condition; no program in sight.
  The plain laws behind two inverses modulo a prime: the specification's halving steps, and Lehmer's steps with their cosequences. Conditions: an odd prime. No program in sight.
  The plain law of Lehmer's gcd: a step by a matrix of numbers with determinant 1 or -1 keeps what the cosequences say; the steps on leading words are such steps. No condition; no program in sight.
  The plain law of lehmerSimulate's loop: what it has found so far. No condition; no program in sight.
  A region that draws its order: an operation (a load, a call) that yields one value in whatever world has grown out of the region's first, and turns nothing that was there, may be taken first. No condition; no program in sight. The kit's law on operations that leave the world as it is, with worlds that grow in its place.
  What a row asks behind a call that turned no cell that was there: the arguments and the named variables read as they did. And the sentinel io.EOF, out of the row's list. No condition.
-/
import Derived.Test.YtpfmbfkhjapbbaaGreatDoorRows
import Derived.Test.YtpfmbfkhjapbbaaGreatDoorMg01
import Derived.WalkKit
import Derived.Deep.Draws
import Derived.Deep.MidRow
import Derived.ProofKit
import Derived.OpenShut
import Derived.OpenVars
import Derived.Stop.LaidErr
import Derived.Stop.ErrReads
import Derived.Deep.DeepHandedRow
import Derived.Deep.DeepWitnessRowRef
set_option linter.unusedVariables false
set_option linter.unusedSimpArgs false
namespace Go.Proofs.YtpfmbfkhjapbbaaGreatDoor
section
open Go Go.RowKit
def B64:Nat:=18446744073709551616
theorem B64_eq:B64=18446744073709551616:=rfl
theorem B64_pos:0<B64:=by decide
theorem B64_pow:B64=2^64:=by decide
abbrev U (n:Nat):Value:=.int .u64 (n:Int)
abbrev Bt (n:Nat):Value:=.int .u8 (n:Int)
abbrev Places:=Nat→Nat→Prop
def InR (b o n:Nat):Places:=fun k j=>k=b∧o≤j∧j<o+n
def InB (b:Nat):Places:=fun k _=>k=b
def NoP:Places:=fun _ _=>False
def ObjMod (m:Nat→Prop) (o o':Option Obj):Prop :=
  o'=o∨∃ C C' t fr,o=some (.cells C t fr)∧o'=some (.cells C' t fr)∧C'.size=C.size∧∀ j,¬ m j→C'[j]? = C[j]?
theorem ObjMod.refl (m:Nat→Prop) (o:Option Obj):ObjMod m o o:=.inl rfl
theorem ObjMod.trans {m:Nat→Prop} {a b c:Option Obj} (h:ObjMod m a b) (k:ObjMod m b c):ObjMod m a c:=by
  rcases h with rfl | ⟨C,C',t,fr,h1,h2,h3,h4⟩
  · exact k
  · rcases k with rfl | ⟨D,D',t',fr',k1,k2,k3,k4⟩
    · exact .inr ⟨C,C',t,fr,h1,h2,h3,h4⟩
    · rw [h2] at k1
      obtain ⟨rfl,rfl,rfl⟩:C'=D∧t=t'∧fr=fr':=by simpa using k1
      exact .inr ⟨C,D',t,fr,h1,k2,k3.trans h3,fun j hj=>(k4 j hj).trans (h4 j hj)⟩
theorem ObjMod.mono {m m':Nat→Prop} {a b:Option Obj} (h:ObjMod m a b) (hm:∀ j,m j→m' j):ObjMod m' a b:=by
  rcases h with rfl | ⟨C,C',t,fr,h1,h2,h3,h4⟩
  · exact .inl rfl
  · exact .inr ⟨C,C',t,fr,h1,h2,h3,fun j hj=>h4 j fun h=>hj (hm j h)⟩
theorem ObjMod.eq_of_none {m:Nat→Prop} {a b:Option Obj} (h:ObjMod m a b) (hm:∀ j,¬ m j):b=a:=by
  rcases h with rfl | ⟨C,C',t,fr,h1,h2,h3,h4⟩
  · rfl
  · have:C'=C:=Array.ext_getElem? fun j=>h4 j (hm j)
    rw [h2,h1,this]
structure Mod (M:Places) (w w':World):Prop where
  os:w'.os=w.os
  tape:w'.tape=w.tape
  output:w'.output=w.output
  size:w.heap.size≤w'.heap.size
  obj:∀ k,k<w.heap.size→ObjMod (M k) w.heap[k]? w'.heap[k]?
theorem Mod.refl (M:Places) (w:World):Mod M w w:=⟨rfl,rfl,rfl,Nat.le_refl _,fun _ _=>.refl _ _⟩
theorem Mod.trans' {M M':Places} {a b c:World} (h:Mod M a b) (k:Mod M' b c) (hm:∀ k o,k<a.heap.size→M' k o→M k o):Mod M a c :=
  ⟨k.os.trans h.os,k.tape.trans h.tape,k.output.trans h.output,Nat.le_trans h.size k.size,fun i hi=>(h.obj i hi).trans ((k.obj i (Nat.lt_of_lt_of_le hi h.size)).mono fun j hj=>hm i j hi hj)⟩
theorem Mod.trans {M:Places} {a b c:World} (h:Mod M a b) (k:Mod M b c):Mod M a c:=h.trans' k fun _ _ _ x=>x
theorem Mod.mono {M M':Places} {a b:World} (h:Mod M a b) (hm:∀ k o,k<a.heap.size→M k o→M' k o):Mod M' a b :=
  ⟨h.os,h.tape,h.output,h.size,fun i hi=>(h.obj i hi).mono fun j hj=>hm i j hi hj⟩
theorem Mod.of_none {M:Places} {a b:World} (h:Mod NoP a b):Mod M a b:=h.mono fun _ _ _ x=>x.elim
theorem Mod.drew {M:Places} {a w:World} (h:Mod M a w):Mod M a w.drew:=⟨h.os,h.tape,h.output,h.size,h.obj⟩
theorem Mod.drewN {M:Places} {a w:World} (h:Mod M a w) (n:Nat):Mod M a (w.drewN n):=⟨h.os,h.tape,h.output,h.size,h.obj⟩
theorem Mod.alloc {M:Places} {a w:World} (h:Mod M a w) (o:Obj):Mod M a (w.alloc o) :=
  h.trans' (M':=NoP) ⟨rfl,rfl,rfl,by simp,fun k hk=>.inl (by show (w.heap.push o)[k]? = _;rw [Array.getElem?_push,if_neg (by omega)])⟩ fun _ _ _ x=>x.elim
theorem setCell_mod (w:World) (b o:Nat) (v:Value):Mod (fun k j=>k=b∧j=o) w (w.setCell ⟨b,o,none⟩ v):=by
  refine ⟨rfl,rfl,rfl,by simp,fun k hk => ?_⟩
  simp only [World.setCell,Array.getElem?_modify]
  by_cases hb:b=k
  · subst hb
    simp only [if_true]
    cases hh:w.heap[b]? with
    | none=>exact .inl rfl
    | some x =>
      cases x with
      | cells C t fr =>
        refine .inr ⟨C,C.setIfInBounds o v,t,fr,rfl,rfl,by simp,fun j hj => ?_⟩
        rw [Array.getElem?_setIfInBounds,if_neg (by intro e;subst e;simp at hj)]
      | _=>exact .inl rfl
  · rw [if_neg hb];exact .inl rfl
theorem Mod.setCell {M:Places} {a w:World} (h:Mod M a w) {b o:Nat} (hm:b<a.heap.size→M b o) (v:Value):Mod M a (w.setCell ⟨b,o,none⟩ v) :=
  h.trans' (setCell_mod w b o v) fun k j hk hkj=>by obtain ⟨rfl,rfl⟩:=hkj;exact hm hk
theorem Mod.heap {M:Places} {a w:World} (h:Mod M a w) {k:Nat} (hk:k<a.heap.size) (hm:∀ o,¬ M k o):w.heap[k]? = a.heap[k]? := (h.obj k hk).eq_of_none hm
theorem cell?_of_heap {w:World} {b:Nat} {C:Array Value} {t:TypeId} {fr:Nat × Nat} (h:w.heap[b]? = some (.cells C t fr)) (o:Nat):w.cell? ⟨b,o,none⟩=C[o]? := by
  simp [World.cell?,h]
theorem free_of_heap {w:World} {b:Nat} {C:Array Value} {t:TypeId} (h:w.heap[b]? = some (.cells C t (0,0))) (o:Nat):w.frozen? ⟨b,o,none⟩=false:=by
  simp [World.frozen?,h]
theorem heap_of_cell? {w:World} {b o:Nat} {v:Value} (h:w.cell? ⟨b,o,none⟩=some v):∃ C t fr,w.heap[b]? = some (.cells C t fr)∧C[o]? = some v:=by
  unfold World.cell? at h
  split at h
  · rename_i c e fr hb
    exact ⟨c,e,fr,hb,by simpa using h⟩
  · simp at h
theorem cell_same {w:World} {b o:Nat} {u:Value} (h:w.cell? ⟨b,o,none⟩=some u) (v:Value):(w.setCell ⟨b,o,none⟩ v).cell? ⟨b,o,none⟩=some v:=World.cell?_setCell_same (h:=h) ..
theorem cell_other {w:World} {b o b' o':Nat} (h:b≠b'∨o≠o') (v:Value):(w.setCell ⟨b,o,none⟩ v).cell? ⟨b',o',none⟩=w.cell? ⟨b',o',none⟩:=World.cell?_setCell_other (h:=by intro e;simp at e;omega) ..
theorem heap_alloc_new (w:World) (o:Obj):(w.alloc o).heap[w.heap.size]? = some o:=by
  show (w.heap.push o)[w.heap.size]? = _
  simp
theorem heap_alloc_old (w:World) (o:Obj) {k:Nat} (h:k<w.heap.size):(w.alloc o).heap[k]? = w.heap[k]? := Below.heap_alloc w o k h
theorem lt_of_heap {w:World} {b:Nat} {x:Obj} (h:w.heap[b]? = some x):b<w.heap.size:=(Array.getElem?_eq_some_iff.1 h).1
theorem lt_of_cell? {w:World} {b o:Nat} {v:Value} (h:w.cell? ⟨b,o,none⟩=some v):b<w.heap.size:=by
  obtain ⟨C,t,fr,hb,_⟩:=heap_of_cell? h
  exact lt_of_heap hb
theorem Mod.cells {M:Places} {a w:World} (h:Mod M a w) {k:Nat} {C:Array Value} {t:TypeId} {fr:Nat × Nat} (hk:a.heap[k]? = some (.cells C t fr)) :
    ∃ C',w.heap[k]? = some (.cells C' t fr)∧C'.size=C.size∧∀ j,¬ M k j→C'[j]? = C[j]? := by
  rcases h.obj k (lt_of_heap hk) with e | ⟨D,D',t',fr',h1,h2,h3,h4⟩
  · exact ⟨C,by rw [e,hk],rfl,fun _ _=>rfl⟩
  · rw [hk] at h1
    obtain ⟨rfl,rfl,rfl⟩:C=D∧t=t'∧fr=fr':=by simpa using h1
    exact ⟨D',h2,h3,h4⟩
theorem Mod.cell {M:Places} {a w:World} (h:Mod M a w) {k o:Nat} (hk:k<a.heap.size) (hm:¬ M k o):w.cell? ⟨k,o,none⟩=a.cell? ⟨k,o,none⟩:=by
  rcases h.obj k hk with e | ⟨D,D',t',fr',h1,h2,h3,h4⟩
  · simp [World.cell?,e]
  · simp [World.cell?,h1,h2,h4 o hm]
theorem Mod.cell_some {M:Places} {a w:World} (h:Mod M a w) {k o:Nat} {v:Value} (hc:a.cell? ⟨k,o,none⟩=some v) (hm:¬ M k o):w.cell? ⟨k,o,none⟩=some v:=by
  rw [h.cell (lt_of_cell? hc) hm,hc]
theorem Mod.cell_there {M:Places} {a w:World} (h:Mod M a w) {k o:Nat} {v:Value} (hc:a.cell? ⟨k,o,none⟩=some v):∃ u,w.cell? ⟨k,o,none⟩=some u:=by
  obtain ⟨C,t,fr,hb,hC⟩:=heap_of_cell? hc
  obtain ⟨C',hb',hs,_⟩:=h.cells hb
  have ho:o<C'.size:=by rw [hs];exact (Array.getElem?_eq_some_iff.1 hC).1
  exact ⟨C'[o],by rw [cell?_of_heap hb',Array.getElem?_eq_getElem ho]⟩
theorem Mod.frozen {M:Places} {a w:World} (h:Mod M a w) {k o:Nat} (hk:k<a.heap.size):w.frozen? ⟨k,o,none⟩=a.frozen? ⟨k,o,none⟩:=by
  rcases h.obj k hk with e | ⟨D,D',t',fr',h1,h2,h3,h4⟩
  · simp [World.frozen?,e]
  · simp [World.frozen?,h1,h2]
theorem Mod.free {M:Places} {a w:World} (h:Mod M a w) {k o:Nat} {v:Value} (hc:a.cell? ⟨k,o,none⟩=some v) (hf:a.frozen? ⟨k,o,none⟩=false):w.frozen? ⟨k,o,none⟩=false:=by
  rw [h.frozen (lt_of_cell? hc),hf]
theorem Mod.below {w w':World} (h:Mod NoP w w'):Below w.heap.size w w' :=
  ⟨h.os,h.tape,h.output,h.size,fun _ hk=>h.heap hk fun _ x=>x⟩
def Vec (w:World) (b o n:Nat) (f:Nat→Nat):Prop :=
  ∀ j,j<n→w.cell? ⟨b,o+j,none⟩=some (U (f j))∧w.frozen? ⟨b,o+j,none⟩=false∧f j<B64
theorem Vec.mod {w w':World} {b o n:Nat} {f:Nat→Nat} {M:Places} (h:Vec w b o n f) (hm:Mod M w w') (hd:∀ j,j<n→¬ M b (o+j)):Vec w' b o n f :=
  fun j hj=>⟨hm.cell_some (h j hj).1 (hd j hj),hm.free (h j hj).1 (h j hj).2.1,(h j hj).2.2⟩
theorem Vec.take {w:World} {b o n:Nat} {f:Nat→Nat} (h:Vec w b o n f) {m:Nat} (hk:m≤n):Vec w b o m f:=fun j hj=>h j (by omega)
theorem Vec.drewN {w:World} {b o n:Nat} {f:Nat→Nat} (h:Vec w b o n f) (m:Nat):Vec (w.drewN m) b o n f:=h
def CapOk (c:Nat):Prop:=c≤9223372036854775807
def Arr (w:World) (a:Option Addr) (c:Nat) (f:Nat→Nat):Prop :=
  (a=none∧c=0)∨∃ b C t,a=some ⟨b,0,none⟩∧w.heap[b]? = some (.cells C t (0,0))∧(C.size=c∧CapOk c)∧∀ j,j<c→C[j]? = some (U (f j))∧f j<B64
theorem Arr.cap {w:World} {a:Option Addr} {c:Nat} {f:Nat→Nat} (h:Arr w a c f):c≤9223372036854775807:=by
  rcases h with ⟨_,rfl⟩ | ⟨b,C,t,_,_,hs,_⟩
  · omega
  · exact hs.2
theorem Arr.nil (w:World) (f:Nat→Nat):Arr w none 0 f:=.inl ⟨rfl,rfl⟩
def Off (a:Option Addr) (M:Places):Prop:=∀ A,a=some A→∀ o,¬ M A.block o
theorem Arr.mod {w w':World} {a:Option Addr} {c:Nat} {f:Nat→Nat} {M:Places} (h:Arr w a c f) (hm:Mod M w w') (hd:Off a M):Arr w' a c f:=by
  rcases h with ⟨rfl,rfl⟩ | ⟨b,C,t,rfl,hb,hs,hc⟩
  · exact .inl ⟨rfl,rfl⟩
  · refine .inr ⟨b,C,t,rfl,?_,hs,hc⟩
    rw [hm.heap (lt_of_heap hb) (hd _ rfl),hb]
theorem Arr.vec {w:World} {b:Nat} {c:Nat} {f:Nat→Nat} (h:Arr w (some ⟨b,0,none⟩) c f):Vec w b 0 c f:=by
  rcases h with ⟨h,_⟩ | ⟨b',C,t,e,hb,hs,hc⟩
  · cases h
  · obtain rfl:b=b':=by simpa using e
    intro j hj
    exact ⟨by rw [cell?_of_heap hb,Nat.zero_add];exact (hc j hj).1,free_of_heap hb _,(hc j hj).2⟩
theorem Arr.turned {w w':World} {b:Nat} {c:Nat} {f g:Nat→Nat} {M:Places} (h:Arr w (some ⟨b,0,none⟩) c f) (hm:Mod M w w') (hg:Vec w' b 0 c g):Arr w' (some ⟨b,0,none⟩) c g:=by
  rcases h with ⟨h,_⟩ | ⟨b',C,t,e,hb,hs,hc⟩
  · cases h
  · obtain rfl:b=b':=by simpa using e
    obtain ⟨C',hb',hs',_⟩:=hm.cells hb
    refine .inr ⟨b,C',t,rfl,hb',⟨hs'.trans hs.1,hs.2⟩,fun j hj => ?_⟩
    have:=hg j hj
    rw [cell?_of_heap hb',Nat.zero_add] at this
    exact ⟨this.1,this.2.2⟩
theorem Arr.drewN {w:World} {a:Option Addr} {c:Nat} {f:Nat→Nat} (h:Arr w a c f) (n:Nat):Arr (w.drewN n) a c f:=h
theorem Arr.congr {w:World} {a:Option Addr} {c:Nat} {f g:Nat→Nat} (h:Arr w a c f) (hg:∀ j,j<c→g j=f j):Arr w a c g:=by
  rcases h with h | ⟨b,C,t,rfl,hb,hs,hc⟩
  · exact .inl h
  · exact .inr ⟨b,C,t,rfl,hb,hs,fun j hj=>by rw [hg j hj];exact hc j hj⟩
theorem Arr.lt {w:World} {b o:Nat} {c:Nat} {s:Option Nat} {f:Nat→Nat} (h:Arr w (some ⟨b,o,s⟩) c f):b<w.heap.size:=by
  rcases h with ⟨h,_⟩ | ⟨b',C,t,e,hb,hs,hc⟩
  · cases h
  · obtain ⟨rfl,rfl,rfl⟩:b=b'∧o=0∧s=none:=by simpa using e
    exact lt_of_heap hb
theorem Arr.form {w:World} {a:Option Addr} {c:Nat} {f:Nat→Nat} (h:Arr w a c f) (hc:0<c):∃ b,a=some ⟨b,0,none⟩:=by
  rcases h with ⟨_,h⟩ | ⟨b,C,t,e,_⟩
  · omega
  · exact ⟨b,e⟩
theorem Arr.fresh (w:World) (C:Array Value) (t:TypeId) (c:Nat) (f:Nat→Nat) (hs:C.size=c) (hcap:c≤9223372036854775807) (hc:∀ j,j<c→C[j]? = some (U (f j))∧f j<B64) :
    Arr (w.alloc (.cells C t (0,0))) (some ⟨w.heap.size,0,none⟩) c f :=
  .inr ⟨w.heap.size,C,t,rfl,heap_alloc_new w _,⟨hs,hcap⟩,hc⟩
def val (f:Nat→Nat):Nat→Nat
  | 0=>0
  | n+1=>val f n+f n*B64^n
theorem val_congr {f g:Nat→Nat} {n:Nat} (h:∀ j,j<n→f j=g j):val f n=val g n:=by
  induction n with
  | zero=>rfl
  | succ n ih=>simp only [val];rw [ih fun j hj=>h j (by omega),h n (by omega)]
theorem pow_pos (n:Nat):0<B64^n:=Nat.pow_pos B64_pos
theorem val_lt {f:Nat→Nat} {n:Nat} (h:∀ j,j<n→f j<B64):val f n<B64^n:=by
  induction n with
  | zero=>simp [val]
  | succ n ih =>
    have h1:=ih fun j hj=>h j (by omega)
    have h2:f n*B64^n≤(B64 - 1)*B64^n:=Nat.mul_le_mul_right _ (by have:=h n (by omega);omega)
    have h3:(B64 - 1)*B64^n+B64^n=B64^(n+1):=by
      rw [← Nat.succ_mul,Nat.succ_eq_add_one,Nat.sub_add_cancel B64_pos,Nat.pow_succ,Nat.mul_comm]
    simp only [val];omega
theorem val_add (f:Nat→Nat) (n m:Nat):val f (n+m)=val f n+B64^n*val (fun j=>f (n+j)) m:=by
  induction m with
  | zero=>simp [val]
  | succ m ih =>
    rw [← Nat.add_assoc]
    simp only [val]
    rw [ih,Nat.mul_add,Nat.pow_add]
    have:f (n+m)*(B64^n*B64^m)=B64^n*(f (n+m)*B64^m):=by ac_rfl
    omega
theorem val_zero {f:Nat→Nat} {n:Nat} (h:∀ j,j<n→f j=0):val f n=0:=by
  induction n with
  | zero=>rfl
  | succ n ih=>simp only [val];rw [ih fun j hj=>h j (by omega),h n (by omega)];simp
theorem val_one (f:Nat→Nat):val f 1=f 0:=by simp [val]
theorem le_val_of_top {f:Nat→Nat} {n:Nat} (h:f n≠0):B64^n≤val f (n+1):=by
  simp only [val]
  have:1*B64^n≤f n*B64^n:=Nat.mul_le_mul_right _ (by omega)
  omega
theorem val_drop {f:Nat→Nat} {n m:Nat} (hm:m≤n) (h:∀ j,m≤j→j<n→f j=0):val f n=val f m:=by
  obtain ⟨d,rfl⟩:∃ d,n=m+d:=⟨n - m,by omega⟩
  rw [val_add,val_zero (n:=d) fun j hj=>h (m+j) (by omega) (by omega)]
  simp
end
section
theorem div_of {X d q r:Nat} (h:q*d+r=X) (hr:r<d):X/d=q∧X%d=r:=by
  have hd:0<d:=by omega
  subst h
  constructor
  · rw [Nat.add_comm,Nat.add_mul_div_right _ _ hd,Nat.div_eq_of_lt hr,Nat.zero_add]
  · rw [Nat.add_comm,Nat.add_mul_mod_self_right,Nat.mod_eq_of_lt hr]
theorem recip_est {B d v x1 x0:Nat} (hdB:d≤B) (hv1:v*d+1≤B*B) (hv2:B*B≤v*d+d) (hx1:x1<d) (hx0:x0<B) :
    d*((v*x1+x0)/B)≤x1*B+x0∧x1*B+x0<d*((v*x1+x0)/B)+B+d∧(v*x1+x0)/B<B:=by
  have hB:0<B:=by omega
  have hdm:=Nat.div_add_mod (v*x1+x0) B
  have hr:=Nat.mod_lt (v*x1+x0) hB
  generalize (v*x1+x0)/B=t at *
  generalize (v*x1+x0)%B=ρ at *
  have p1:v*d*x1+x1≤B*B*x1:=by
    have:=Nat.mul_le_mul_right x1 hv1;rwa [Nat.add_mul,Nat.one_mul] at this
  have p2:B*B*x1≤v*d*x1+d*x1:=by
    have:=Nat.mul_le_mul_right x1 hv2;rwa [Nat.add_mul] at this
  have p3:d*x0≤B*x0:=Nat.mul_le_mul_right _ hdB
  have p4:d*x1+d≤d*B:=by
    have:=Nat.mul_le_mul_left d (show x1+1≤B by omega);rwa [Nat.mul_add,Nat.mul_one] at this
  have p6:B*x0+d*B≤d*x0+B*B:=by
    obtain ⟨g,rfl⟩:∃ g,B=d+g:=⟨B - d,by omega⟩
    have h1:g*x0≤g*(d+g):=Nat.mul_le_mul_left _ (by omega)
    have e1:(d+g)*x0=d*x0+g*x0:=Nat.add_mul ..
    have e2:(d+g)*(d+g)=d*(d+g)+g*(d+g):=Nat.add_mul ..
    omega
  have p7:d*ρ+d≤d*B:=by
    have:=Nat.mul_le_mul_left d (show ρ+1≤B by omega);rwa [Nat.mul_add,Nat.mul_one] at this
  have eT:B*(d*t)+d*ρ=v*d*x1+d*x0:=by
    have:=congrArg (d*·) hdm
    simp only [Nat.mul_add] at this
    rw [show B*(d*t)=d*(B*t) by ac_rfl,show v*d*x1=d*(v*x1) by ac_rfl]
    exact this
  have eX:B*(x1*B+x0)=B*B*x1+B*x0:=by
    rw [Nat.mul_add,show B*(x1*B)=B*B*x1 by ac_rfl]
  have k1:d*t≤x1*B+x0:=Nat.le_of_mul_le_mul_left (by rw [eX];omega) hB
  have k2:x1*B+x0<d*t+B+d:=by
    refine Nat.lt_of_mul_lt_mul_left (a:=B) ?_
    rw [eX]
    simp only [Nat.mul_add]
    rw [Nat.mul_comm B d]
    omega
  refine ⟨k1,k2,?_⟩
  refine Nat.lt_of_mul_lt_mul_left (a:=d) (Nat.lt_of_le_of_lt k1 ?_)
  have:(x1+1)*B≤d*B:=Nat.mul_le_mul_right _ hx1
  rw [Nat.add_mul] at this
  omega
theorem recip_fin {B d t X:Nat} (h2:B≤2*d) (hdB:d≤B) (k1:d*t≤X) (k2:X<d*t+B+d) :
    (X - d*t<B→d≤X - d*t→X/d=t+1∧X%d=X - d*t - d)∧(X - d*t<B→X - d*t<d→X/d=t∧X%d=X - d*t) ∧
    (B≤X - d*t→d≤X - d*t - d→X/d=t+2∧X%d=X - d*t - d - d)∧(B≤X - d*t→X - d*t - d<d→X/d=t+1∧X%d=X - d*t - d):=by
  have e0:t*d=d*t:=Nat.mul_comm ..
  have e1:(t+1)*d=d*t+d:=by rw [Nat.add_mul,Nat.one_mul,e0]
  have e2:(t+2)*d=d*t+2*d:=by rw [Nat.add_mul,e0]
  refine ⟨fun h h'=>div_of (by omega) (by omega),fun h h'=>div_of (by omega) (by omega),fun h h'=>div_of (by omega) (by omega),fun h h'=>div_of (by omega) (by omega)⟩
theorem kn_init {B P vn1 vn2 vl H u2 xl q:Nat} (hx:xl<P) (hu:u2<B) (h:H<(q+1)*vn1):(H*B+u2)*P+xl<(q+1)*((vn1*B+vn2)*P+vl):=by
  have h1:(H+1)*(B*P)≤(q+1)*vn1*(B*P):=Nat.mul_le_mul_right _ h
  have e1:(H+1)*(B*P)=H*B*P+B*P:=by rw [Nat.add_mul,Nat.one_mul,Nat.mul_assoc]
  have e2:(q+1)*((vn1*B+vn2)*P+vl)=(q+1)*vn1*(B*P)+(q+1)*(vn2*P+vl):=by
    rw [Nat.add_mul (vn1*B) vn2 P,Nat.add_assoc,Nat.mul_add (q+1)]
    congr 1
    ac_rfl
  have h2:u2*P+P≤B*P:=by
    have:=Nat.mul_le_mul_right P (show u2+1≤B by omega);rwa [Nat.add_mul,Nat.one_mul] at this
  rw [e2,Nat.add_mul]
  omega
theorem kn_dec {B P vn1 vn2 vl H u2 xl q r:Nat} (hx:xl<P) (hH:q*vn1+r=H) (h:r*B+u2<q*vn2):(H*B+u2)*P+xl<q*((vn1*B+vn2)*P+vl):=by
  subst hH
  have h1:(r*B+u2+1)*P≤q*vn2*P:=Nat.mul_le_mul_right _ h
  have e1:(r*B+u2+1)*P=r*B*P+u2*P+P:=by simp only [Nat.add_mul,Nat.one_mul]
  have e2:q*((vn1*B+vn2)*P+vl)=q*vn1*B*P+q*vn2*P+q*vl:=by
    simp only [Nat.mul_add,Nat.add_mul,← Nat.mul_assoc]
  have e3:((q*vn1+r)*B+u2)*P=q*vn1*B*P+r*B*P+u2*P:=by simp only [Nat.add_mul]
  rw [e2,e3]
  omega
theorem kn_fin {B P vn1 vn2 vl H u2 xl q r:Nat} (hB:0<B) (hvl:vl<P) (hv1:0<vn1) (hH:q*vn1+r=H) (hq:q≤B) (h:q*vn2≤r*B+u2) :
    q*((vn1*B+vn2)*P+vl)<(H*B+u2)*P+xl+((vn1*B+vn2)*P+vl):=by
  subst hH
  have h1:q*vn2*P≤(r*B+u2)*P:=Nat.mul_le_mul_right _ h
  have e1:(r*B+u2)*P=r*B*P+u2*P:=by simp only [Nat.add_mul]
  have e2:q*((vn1*B+vn2)*P+vl)=q*vn1*B*P+q*vn2*P+q*vl:=by
    simp only [Nat.mul_add,Nat.add_mul,← Nat.mul_assoc]
  have e3:((q*vn1+r)*B+u2)*P=q*vn1*B*P+r*B*P+u2*P:=by simp only [Nat.add_mul]
  have h2:q*vl≤B*vl:=Nat.mul_le_mul_right _ hq
  have h3:B*vl≤B*P:=Nat.mul_le_mul_left _ (by omega)
  have h4:1*(B*P)≤vn1*(B*P):=Nat.mul_le_mul_right _ hv1
  have e4:(vn1*B+vn2)*P=vn1*(B*P)+vn2*P:=by rw [Nat.add_mul,Nat.mul_assoc]
  have h5:B*vl<B*P:=Nat.mul_lt_mul_of_pos_left hvl hB
  rw [e2,e3,e4]
  omega
theorem kn_eq {B P vn1 vn2 vl u1 u2 xl:Nat} (hB:0<B) (hvl:vl<P) (h2:B≤2*vn1) (hv2:vn2<B) :
    (B - 1)*((vn1*B+vn2)*P+vl)<((vn1*B+u1)*B+u2)*P+xl+((vn1*B+vn2)*P+vl):=by
  have e0:(B - 1)*((vn1*B+vn2)*P+vl)+((vn1*B+vn2)*P+vl)=B*((vn1*B+vn2)*P+vl):=by
    rw [← Nat.succ_mul,Nat.succ_eq_add_one,Nat.sub_add_cancel hB]
  have e1:B*((vn1*B+vn2)*P+vl)=vn1*(B*(B*P))+B*(vn2*P+vl):=by
    rw [Nat.add_mul,Nat.add_assoc,Nat.mul_add,show B*(vn1*B*P)=vn1*(B*(B*P)) by ac_rfl]
  have e2:(vn1*B+vn2)*P=vn1*(B*P)+vn2*P:=by rw [Nat.add_mul,Nat.mul_assoc]
  have e3:((vn1*B+u1)*B+u2)*P=vn1*(B*(B*P))+u1*B*P+u2*P:=by
    simp only [Nat.add_mul]
    rw [show vn1*B*B*P=vn1*(B*(B*P)) by ac_rfl]
  have h3:vn2*P+vl<B*P:=by
    have:=Nat.mul_le_mul_right P (show vn2+1≤B by omega);rw [Nat.add_mul,Nat.one_mul] at this;omega
  have h4:B*(vn2*P+vl)≤B*(B*P):=Nat.mul_le_mul_left _ (by omega)
  have h4':B*(vn2*P+vl)<B*(B*P):=Nat.mul_lt_mul_of_pos_left h3 hB
  have h5:B*(B*P)≤2*vn1*(B*P):=Nat.mul_le_mul_right _ h2
  have e5:2*vn1*(B*P)=2*(vn1*(B*P)):=Nat.mul_assoc ..
  rw [e1] at e0
  rw [e2] at e0 ⊢
  rw [e3]
  omega
theorem half_fin {b yn1 yn0 un u1 q r:Nat} (hH:q*yn1+r=un) (h:q*yn0≤r*b+u1):q*(yn1*b+yn0)≤un*b+u1:=by
  subst hH
  have e1:q*(yn1*b+yn0)=q*yn1*b+q*yn0:=by rw [Nat.mul_add,Nat.mul_assoc]
  rw [e1,Nat.add_mul]
  omega
theorem half_dec {b yn1 yn0 un u1 q r:Nat} (hH:q*yn1+r=un) (h:r*b+u1<q*yn0):un*b+u1<q*(yn1*b+yn0):=by
  subst hH
  have e1:q*(yn1*b+yn0)=q*yn1*b+q*yn0:=by rw [Nat.mul_add,Nat.mul_assoc]
  rw [e1,Nat.add_mul]
  omega
theorem half_init {b yn1 yn0 un u1 q:Nat} (hu:u1<b) (h:un<(q+1)*yn1):un*b+u1<(q+1)*(yn1*b+yn0):=by
  have h1:(un+1)*b≤(q+1)*yn1*b:=Nat.mul_le_mul_right _ h
  have e1:(q+1)*(yn1*b+yn0)=(q+1)*yn1*b+(q+1)*yn0:=by rw [Nat.mul_add,← Nat.mul_assoc]
  rw [e1]
  rw [Nat.add_mul] at h1
  omega
end
section
def H32:Nat:=4294967296
theorem H32_eq:H32=4294967296:=rfl
theorem H32_sq:H32*H32=B64:=rfl
structure HalfSt (yn1 yn0 un u1 q r:Nat):Prop where
  e:q*yn1+r=un
  hi:un*H32+u1<(q+1)*(yn1*H32+yn0)
  rl:r<H32
structure HalfIn (yn1 yn0 un u1:Nat):Prop where
  n1:H32≤2*yn1
  l1:yn1<H32
  l0:yn0<H32
  lu:un<yn1*H32+yn0
  u:u1<H32
theorem HalfIn.start {yn1 yn0 un u1:Nat} (h:HalfIn yn1 yn0 un u1):HalfSt yn1 yn0 un u1 (un/yn1) (un%yn1):=by
  have h1:=h.n1
  have h2:=h.l1
  have hp:0<yn1:=by rw [H32_eq] at h1;omega
  have hd:=Nat.div_add_mod un yn1
  have hm:=Nat.mod_lt un hp
  refine ⟨by rw [Nat.mul_comm];exact hd,half_init h.u ?_,by omega⟩
  rw [Nat.add_mul,Nat.one_mul,Nat.mul_comm]
  omega
theorem HalfIn.q_le {yn1 yn0 un u1 q r:Nat} (h:HalfIn yn1 yn0 un u1) (hs:q*yn1+r=un):q≤H32+1:=by
  have h1:=h.n1
  have h2:=h.l1
  have h3:=h.l0
  have h4:=h.lu
  refine Classical.byContradiction fun hn => ?_
  have h5:(H32+2)*yn1≤q*yn1:=Nat.mul_le_mul_right _ (by omega)
  rw [Nat.add_mul,Nat.mul_comm] at h5
  omega
theorem HalfIn.step {yn1 yn0 un u1 q r:Nat} (h:HalfIn yn1 yn0 un u1) (hs:HalfSt yn1 yn0 un u1 q r) (hc:H32≤q∨r*H32+u1<q*yn0) :
    0<q∧(q - 1)*yn1+(r+yn1)=un∧un*H32+u1<q*(yn1*H32+yn0):=by
  have h1:=h.n1
  have h2:=h.l1
  have h4:=h.lu
  have h5:=h.u
  have hq:0<q:=by
    rcases hc with hc | hc
    · rw [H32_eq] at hc;omega
    · rcases Nat.eq_zero_or_pos q with h0 | h0
      · subst h0;omega
      · exact h0
  refine ⟨hq,?_,?_⟩
  · rw [← hs.e]
    obtain ⟨k,rfl⟩:∃ k,q=k+1:=⟨q - 1,by omega⟩
    rw [Nat.add_sub_cancel,Nat.add_mul,Nat.one_mul]
    omega
  · rcases hc with hc | hc
    · have h6:H32*(yn1*H32+yn0)≤q*(yn1*H32+yn0):=Nat.mul_le_mul_right _ hc
      have h7:(un+1)*H32≤(yn1*H32+yn0)*H32:=Nat.mul_le_mul_right _ h4
      rw [Nat.add_mul,Nat.mul_comm (yn1*H32+yn0)] at h7
      omega
    · exact half_dec hs.e hc
theorem HalfIn.fin {yn1 yn0 un u1 q r:Nat} (h:HalfIn yn1 yn0 un u1) (he:q*yn1+r=un) (hi:un*H32+u1<(q+1)*(yn1*H32+yn0)) (hc:q*yn0≤r*H32+u1) :
    (un*H32+u1)/(yn1*H32+yn0)=q∧q*(yn1*H32+yn0)≤un*H32+u1∧q<H32:=by
  have h1:=half_fin he hc
  have h4:=h.lu
  have h5:=h.u
  refine ⟨(div_of (r:=un*H32+u1 - q*(yn1*H32+yn0)) (by omega) (by rw [Nat.add_mul,Nat.one_mul] at hi;omega)).1,h1,?_⟩
  refine Classical.byContradiction fun hn => ?_
  have h6:H32*(yn1*H32+yn0)≤q*(yn1*H32+yn0):=Nat.mul_le_mul_right _ (by omega)
  have h7:(un+1)*H32≤(yn1*H32+yn0)*H32:=Nat.mul_le_mul_right _ h4
  rw [Nat.add_mul,Nat.mul_comm (yn1*H32+yn0)] at h7
  omega
theorem HalfIn.fin2 {yn1 yn0 un u1 q r:Nat} (h:HalfIn yn1 yn0 un u1) (he:q*yn1+r=un) (hi:un*H32+u1<(q+1)*(yn1*H32+yn0)) (hr:H32≤r) (hq:q≤H32) :
    (un*H32+u1)/(yn1*H32+yn0)=q∧q*(yn1*H32+yn0)≤un*H32+u1∧q<H32:=by
  refine h.fin he hi ?_
  have h3:=h.l0
  have h6:q*yn0≤H32*H32:=Nat.mul_le_mul hq (by omega)
  have h7:H32*H32≤r*H32:=Nat.mul_le_mul_right _ hr
  omega
theorem half_join {yn1 yn0 un u1 u0 q1 q0:Nat} (h1:(un*H32+u1)/(yn1*H32+yn0)=q1) (l1:q1*(yn1*H32+yn0)≤un*H32+u1)
    (h0:((un*H32+u1 - q1*(yn1*H32+yn0))*H32+u0)/(yn1*H32+yn0)=q0) (l0:q0*(yn1*H32+yn0)≤(un*H32+u1 - q1*(yn1*H32+yn0))*H32+u0) (hy:0<yn1*H32+yn0) :
    (un*B64+(u1*H32+u0))/(yn1*H32+yn0)=q1*H32+q0∧(un*B64+(u1*H32+u0))%(yn1*H32+yn0)=(un*H32+u1 - q1*(yn1*H32+yn0))*H32+u0 - q0*(yn1*H32+yn0):=by
  generalize hyy:yn1*H32+yn0=y at *
  have hlt:(un*H32+u1 - q1*y)*H32+u0 - q0*y<y:=by
    have hd:=Nat.div_add_mod ((un*H32+u1 - q1*y)*H32+u0) y
    have hm:=Nat.mod_lt ((un*H32+u1 - q1*y)*H32+u0) hy
    rw [h0,Nat.mul_comm] at hd
    omega
  refine div_of ?_ hlt
  generalize hX1:un*H32+u1=X1 at *
  have e1:un*B64+(u1*H32+u0)=X1*H32+u0:=by
    rw [← hX1]
    have e0:un*B64=un*H32*H32:=by rw [Nat.mul_assoc,H32_sq]
    rw [Nat.add_mul,e0,Nat.add_assoc]
  rw [e1]
  have e2:X1*H32=q1*H32*y+(X1 - q1*y)*H32:=by
    have e3:X1=q1*y+(X1 - q1*y):=by omega
    have e4:=congrArg (·*H32) e3
    simp only [Nat.add_mul] at e4
    rw [show q1*H32*y=q1*y*H32 by ac_rfl]
    exact e4
  rw [e2,Nat.add_mul]
  generalize (X1 - q1*y)*H32=Z at *
  omega
end
section
theorem val_bit {f:Nat→Nat} {n i:Nat} (hf:∀ j,j<n→f j<B64) (hi:i<64*n):val f n/2^i%2=f (i/64)/2^(i%64)%2:=by
  obtain ⟨q,r,rfl,hr⟩:∃ q r,i=64*q+r∧r<64:=⟨i/64,i%64,by omega,by omega⟩
  rw [show (64*q+r)/64=q by omega,show (64*q+r)%64=r by omega]
  obtain ⟨d,rfl⟩:∃ d,n=q+1+d:=⟨n - (q+1),by omega⟩
  have e1:val f (q+1+d)/B64^q=f q+B64*val (fun j=>f (q+1+j)) d:=by
    have hlo:val f q<B64^q:=val_lt fun j hj=>hf j (by omega)
    rw [val_add]
    simp only [val]
    rw [show val f q+f q*B64^q+B64^(q+1)*val (fun j=>f (q+1+j)) d=val f q+B64^q*(f q+B64*val (fun j=>f (q+1+j)) d) by
      rw [Nat.mul_add,Nat.pow_succ,Nat.add_assoc];congr 1;rw [Nat.mul_comm (f q)];congr 1;ac_rfl]
    rw [Nat.add_mul_div_left _ _ (Nat.pow_pos B64_pos),Nat.div_eq_of_lt hlo,Nat.zero_add]
  rw [Nat.pow_add,Nat.pow_mul,← B64_pow,← Nat.div_div_eq_div_mul,e1]
  obtain ⟨t,ht⟩:∃ t,64=r+1+t:=⟨63 - r,by omega⟩
  have e2:B64*val (fun j=>f (q+1+j)) d=2^r*(2*(2^t*val (fun j=>f (q+1+j)) d)):=by
    have hB : B64 = 2 ^ r * (2 * 2 ^ t) := by rw [B64_pow]; conv => lhs; rw [ht]
                                              rw [Nat.pow_add,Nat.pow_succ];ac_rfl
    rw [hB];ac_rfl
  rw [e2,Nat.add_mul_div_left _ _ (Nat.two_pow_pos r),Nat.add_mul_mod_self_left]
def hfW (f:Nat→Nat) (n j:Nat):Nat:=if j+1<n then f j/2+f (j+1)%2*9223372036854775808 else f j/2
theorem hf_lo (f:Nat→Nat) (n:Nat):∀ k,k<n→2*val (hfW f n) k+f 0%2=val f k+f k%2*B64^k
  | 0,_=>by simp [val]
  | k+1,h=>by
    have ih:=hf_lo f n k (by omega)
    have e1:hfW f n k=f k/2+f (k+1)%2*9223372036854775808:=by unfold hfW;rw [if_pos h]
    simp only [val]
    rw [e1,Nat.pow_succ]
    have e2:f (k+1)%2*(B64^k*B64)=2*(f (k+1)%2*9223372036854775808*B64^k):=by
      rw [show B64=2*9223372036854775808 from rfl];ac_rfl
    have e3:f k*B64^k=2*(f k/2*B64^k)+f k%2*B64^k:=by
      rw [← Nat.mul_assoc,← Nat.add_mul,Nat.div_add_mod]
    rw [e2,Nat.add_mul]
    omega
theorem hf_val (f:Nat→Nat) (n:Nat) (hn:0<n):val (hfW f n) n=val f n/2:=by
  obtain ⟨k,rfl⟩:∃ k,n=k+1:=⟨n - 1,by omega⟩
  have h:=hf_lo f (k+1) k (by omega)
  have e1:hfW f (k+1) k=f k/2:=by unfold hfW;rw [if_neg (by omega)]
  simp only [val]
  rw [e1]
  have e3:f k*B64^k=2*(f k/2*B64^k)+f k%2*B64^k:=by
    rw [← Nat.mul_assoc,← Nat.add_mul,Nat.div_add_mod]
  omega
theorem bits_step (b i:Nat):b/2^i=2*(b/2^(i+1))+b/2^i%2:=by
  rw [Nat.pow_succ,← Nat.div_div_eq_div_mul]
  omega
theorem mul_step0 (a b i m:Nat) (hb:b/2^i%2=0):((a*(b/2^(i+1)))%m+(a*(b/2^(i+1)))%m)%m=a*(b/2^i)%m:=by
  rw [bits_step b i,hb,← Nat.add_mod]
  congr 1
  rw [Nat.mul_add,Nat.mul_zero,show a*(2*(b/2^(i+1)))=2*(a*(b/2^(i+1))) by ac_rfl]
  omega
theorem mul_step1 (a b i m:Nat) (hb:b/2^i%2=1):(((a*(b/2^(i+1)))%m+(a*(b/2^(i+1)))%m)%m+a)%m=a*(b/2^i)%m:=by
  rw [bits_step b i,hb,← Nat.add_mod,Nat.mod_add_mod]
  congr 1
  rw [Nat.mul_add,Nat.mul_one,show a*(2*(b/2^(i+1)))=2*(a*(b/2^(i+1))) by ac_rfl]
  omega
theorem pow_step0 (a n i m:Nat) (hb:n/2^i%2=0):(a^(n/2^(i+1))%m*(a^(n/2^(i+1))%m))%m=a^(n/2^i)%m:=by
  rw [bits_step n i,hb,← Nat.mul_mod,← Nat.pow_add,show n/2^(i+1)+n/2^(i+1)=2*(n/2^(i+1))+0 by omega]
theorem pow_step1 (a n i m:Nat) (hb:n/2^i%2=1):((a^(n/2^(i+1))%m*(a^(n/2^(i+1))%m))%m*a)%m=a^(n/2^i)%m:=by
  rw [bits_step n i,hb,← Nat.mul_mod,← Nat.pow_add,Nat.mod_mul_mod,← Nat.pow_succ,show n/2^(i+1)+n/2^(i+1)=2*(n/2^(i+1)) by omega]
end
section
theorem val_div_pow {f:Nat→Nat} {n i:Nat} (hf:∀ j,j<n→f j<B64) (hi:i<n):val f n/B64^i=f i+B64*val (fun j=>f (i+1+j)) (n - (i+1)):=by
  obtain ⟨d,rfl⟩:∃ d,n=i+1+d:=⟨n - (i+1),by omega⟩
  have hlo:val f i<B64^i:=val_lt fun j hj=>hf j (by omega)
  rw [val_add,Nat.add_sub_cancel_left]
  simp only [val]
  rw [show val f i+f i*B64^i+B64^(i+1)*val (fun j=>f (i+1+j)) d=val f i+B64^i*(f i+B64*val (fun j=>f (i+1+j)) d) by
    rw [Nat.mul_add,Nat.pow_succ,Nat.add_assoc];congr 1;rw [Nat.mul_comm (f i)];congr 1;ac_rfl]
  rw [Nat.add_mul_div_left _ _ (Nat.pow_pos B64_pos),Nat.div_eq_of_lt hlo,Nat.zero_add]
def expAt (f:Nat→Nat) (n i j:Nat):Nat:=val f n/2^(64*i+(64 - j))
theorem expAt_next (f:Nat→Nat) (n i:Nat):expAt f n (i+1) 64=expAt f n i 0:=by
  unfold expAt
  rw [show 64*(i+1)+(64 - 64)=64*i+(64 - 0) by omega]
theorem expAt_top {f:Nat→Nat} {n:Nat} (hf:∀ j,j<n→f j<B64) (hn:0<n):expAt f n (n - 1) 0=0:=by
  unfold expAt
  rw [show 64*(n - 1)+(64 - 0)=64*n by omega,Nat.pow_mul,← B64_pow]
  exact Nat.div_eq_of_lt (val_lt hf)
theorem expAt_end (f:Nat→Nat) (n:Nat):expAt f n 0 64=val f n:=by
  unfold expAt
  simp
theorem expAt_step {f:Nat→Nat} {n i j:Nat} (hf:∀ j,j<n→f j<B64) (hi:i<n) (hj:j+4≤64) :
    expAt f n i (j+4)=16*expAt f n i j+(f i*2^j%B64)/1152921504606846976:=by
  unfold expAt
  obtain ⟨s,hs⟩:∃ s,64=s+(j+4):=⟨64 - (j+4),by omega⟩
  rw [show 64*i+(64 - (j+4))=64*i+s by omega,show 64*i+(64 - j)=64*i+s+4 by omega]
  have h1:val f n/2^(64*i+s)=(f i+B64*val (fun j=>f (i+1+j)) (n - (i+1)))/2^s:=by
    rw [Nat.pow_add,Nat.pow_mul,← B64_pow,← Nat.div_div_eq_div_mul,val_div_pow hf hi]
  have h2:val f n/2^(64*i+s+4)=val f n/2^(64*i+s)/16:=by
    rw [Nat.pow_add _ (64*i+s),← Nat.div_div_eq_div_mul]
  have hB:B64=2^s*(2^j*16):=by
    rw [B64_pow]
    conv=>lhs;rw [hs]
    rw [Nat.pow_add,Nat.pow_add]
  rw [h2]
  generalize hV:val f n/2^(64*i+s)=V at *
  have h3:V=f i/2^s+16*(2^j*val (fun j=>f (i+1+j)) (n - (i+1))):=by
    rw [h1,hB,show 2^s*(2^j*16)*val (fun j=>f (i+1+j)) (n - (i+1))=2^s*(16*(2^j*val (fun j=>f (i+1+j)) (n - (i+1)))) by ac_rfl,Nat.add_mul_div_left _ _ (Nat.two_pow_pos s)]
  have h4:(f i*2^j%B64)/1152921504606846976=f i/2^s%16:=by
    have hB2:B64=2^j*(2^s*16):=by rw [hB];ac_rfl
    have hC:1152921504606846976=2^j*2^s:=by
      rw [← Nat.pow_add,show j+s=60 by omega]
    rw [hC,← Nat.div_div_eq_div_mul,hB2,Nat.mul_comm (f i),Nat.mul_mod_mul_left,Nat.mul_div_cancel_left _ (Nat.two_pow_pos j),Nat.mod_mul_right_div_self]
  rw [h4]
  omega
end
section
set_option linter.unusedSectionVars false
def halvedN (x m:Nat):Nat:=if x%2=0 then x/2 else (x+m)/2
section
variable {p:Nat} [NeZero p]
structure InvSt (p:Nat) [NeZero p] (a u v x y:Nat):Prop where
  u0:0<u
  v0:0<v
  ule:u≤p
  vle:v≤p
  xlt:x<p
  ylt:y<p
  cu:cc p a*cc p x=cc p u
  cv:cc p a*cc p y=cc p v
  co:Nat.gcd u v=1
theorem InvSt.turn {a u v x y:Nat} (h:InvSt p a u v x y):InvSt p a v u y x :=
  ⟨h.v0,h.u0,h.vle,h.ule,h.ylt,h.xlt,h.cv,h.cu,by rw [Nat.gcd_comm];exact h.co⟩
theorem InvSt.start (hp:Pr p) {a:Nat} (h0:0<a) (ha:a<p):InvSt p a a p 1 0:=by
  have h2:=hp.1
  refine ⟨h0,by omega,by omega,Nat.le_refl _,by omega,by omega,by rw [cc_one];grind,by rw [cc_zero,cc_p];grind,?_⟩
  have:=hp.coprime (a:=a) fun h=>by have:=Nat.le_of_dvd h0 h;omega
  rw [Nat.gcd_comm];exact this
theorem cc_two:cc p 2=2:=by
  have:cc p 2=cc p (1+1):=rfl
  rw [this,cc_add,cc_one];grind
theorem two_ne (hp:Pr p) (hodd:p%2=1):(2:Fin p)≠0:=fun h=>by
  rw [← cc_two,cc_eq_zero] at h
  have:=Nat.le_of_dvd (by omega) h
  have:=hp.1
  omega
theorem halved_cc (hodd:p%2=1) (x:Nat):cc p (halvedN x p)*2=cc p x:=by
  rw [← cc_two,← cc_mul]
  unfold halvedN
  by_cases h:x%2=0
  · rw [if_pos h]
    congr 1
    omega
  · rw [if_neg h,show (x+p)/2*2=x+p by omega,cc_add,cc_p];grind
theorem halved_lt (hodd:p%2=1) {x:Nat} (hx:x<p):halvedN x p<p:=by
  unfold halvedN
  split <;> omega
theorem InvSt.half (hp:Pr p) (hodd:p%2=1) {a u v x y:Nat} (h:InvSt p a u v x y) (he:u%2=0):InvSt p a (u/2) v (halvedN x p) y:=by
  have:=h.u0
  have:=h.ule
  refine ⟨by omega,h.v0,by omega,h.vle,halved_lt hodd h.xlt,h.ylt,?_,h.cv,?_⟩
  · refine fp_mul_cancel hp (two_ne hp hodd) ?_
    have h1:=halved_cc hodd x
    have h2:cc p (u/2)*2=cc p u:=by
      rw [← cc_two,← cc_mul]
      congr 1
      omega
    have h3:cc p a*cc p (halvedN x p)*2=cc p a*(cc p (halvedN x p)*2):=by grind
    rw [h2,h3,h1,h.cu]
  · have hd:Nat.gcd (u/2) v ∣ Nat.gcd u v:=Nat.dvd_gcd (Nat.dvd_trans (Nat.gcd_dvd_left _ _) ⟨2,by omega⟩) (Nat.gcd_dvd_right _ _)
    rw [h.co] at hd
    exact Nat.eq_one_of_dvd_one hd
theorem InvSt.take {a u v x y:Nat} (h:InvSt p a u v x y) (hle:v≤u) (hu:u≠1):InvSt p a (u - v) v (ms p x y) y:=by
  have h0:=h.v0
  have hne:u≠v:=fun e=>by
    have:=h.co
    rw [e,Nat.gcd_self] at this
    omega
  refine ⟨by omega,h.v0,by have:=h.ule;omega,h.vle,ms_lt _ _,h.ylt,?_,h.cv,?_⟩
  · rw [cc_ms (by have:=h.ylt;omega),cc_sub hle,← h.cu,← h.cv];grind
  · rw [← h.co]
    exact Nat.gcd_sub_self_left hle
theorem InvSt.done (hp:Pr p) {a v x y:Nat} (h:InvSt p a 1 v x y):mm p a x=1:=by
  have h1:=h.cu
  rw [← cc_mul] at h1
  have h2:=cc_eq_iff.1 h1
  rw [Nat.mod_eq_of_lt (show 1<p by have:=hp.1;omega)] at h2
  exact h2
end
end
section
structure Cont (A B a b u0 u1 v0 v1:Nat) (ev:Bool):Prop where
  ha:a*v1+b*v0=A
  hb:a*u1+b*u0=B
  pos:ev=true→u0*v1=u1*v0+1
  neg:ev=false→u1*v0=u0*v1+1
theorem Cont.start (A B:Nat):Cont A B A B 1 0 0 1 true:=⟨by omega,by omega,fun _=>by omega,fun h=>by cases h⟩
theorem Cont.step {A B a b u0 u1 v0 v1:Nat} {ev:Bool} (h:Cont A B a b u0 u1 v0 v1 ev):Cont A B b (a%b) u1 (u0+a/b*u1) v1 (v0+a/b*v1) !ev:=by
  have hd:=Nat.div_add_mod a b
  generalize a/b=q at *
  generalize a%b=r at *
  obtain ⟨h1,h2,h3,h4⟩:=h
  refine ⟨?_,?_,fun h => ?_,fun h => ?_⟩
  · rw [← h1,← hd]
    simp only [Nat.mul_add,Nat.add_mul]
    have e1:b*(q*v1)=b*q*v1:=by ac_rfl
    omega
  · rw [← h2,← hd]
    simp only [Nat.mul_add,Nat.add_mul]
    have e1:b*(q*u1)=b*q*u1:=by ac_rfl
    omega
  · have:=h4 (by simpa using h)
    simp only [Nat.mul_add,Nat.add_mul]
    have e1:u1*(q*v1)=q*u1*v1:=by ac_rfl
    omega
  · have:=h3 (by simpa using h)
    simp only [Nat.mul_add,Nat.add_mul]
    have e1:u1*(q*v1)=q*u1*v1:=by ac_rfl
    omega
theorem Cont.v1_le {A B a b u0 u1 v0 v1:Nat} {ev:Bool} (h:Cont A B a b u0 u1 v0 v1 ev) (ha:0<a):v1≤A:=by
  have:=h.ha
  have:1*v1≤a*v1:=Nat.mul_le_mul_right _ ha
  omega
theorem Cont.u1_le {A B a b u0 u1 v0 v1:Nat} {ev:Bool} (h:Cont A B a b u0 u1 v0 v1 ev) (ha:0<a):u1≤B:=by
  have:=h.hb
  have:1*u1≤a*u1:=Nat.mul_le_mul_right _ ha
  omega
theorem Cont.v_le {A B a b u0 u1 v0 v1:Nat} {ev:Bool} (h:Cont A B a b u0 u1 v0 v1 ev) (ha:0<a) (hb:0<b):v0+v1≤A:=by
  have:=h.ha
  have:1*v1≤a*v1:=Nat.mul_le_mul_right _ ha
  have:1*v0≤b*v0:=Nat.mul_le_mul_right _ hb
  omega
theorem lift_le {a b S A B x y:Nat} (hA:a*S≤A) (hB:B≤(b+1)*S) (h:y*(b+1)≤x*a):y*B≤x*A:=by
  have h1:y*B≤y*((b+1)*S):=Nat.mul_le_mul_left _ hB
  have h2:y*(b+1)*S≤x*a*S:=Nat.mul_le_mul_right _ h
  have h3:x*(a*S)≤x*A:=Nat.mul_le_mul_left _ hA
  rw [Nat.mul_assoc,Nat.mul_assoc] at h2
  omega
structure GcdSt (a b A B:Nat) (Ua Ub:Int):Prop where
  le:B≤A
  ca:∃ k:Int,Ua*a=A+k*b
  cb:∃ k:Int,Ub*a=B+k*b
  gcd:Nat.gcd A B=Nat.gcd a b
  size:Ua.natAbs*B+Ub.natAbs*A=b
  sign:(Ua≤0∧0≤Ub)∨(0≤Ua∧Ub≤0)
theorem GcdSt.start1 {a b:Nat} (h:b≤a):GcdSt a b a b 1 0:=⟨h,⟨0,by omega⟩,⟨-1,by omega⟩,rfl,by simp,.inr ⟨by omega,by omega⟩⟩
theorem GcdSt.start2 {a b:Nat} (h:a≤b):GcdSt a b b a 0 1:=⟨h,⟨-1,by omega⟩,⟨0,by omega⟩,Nat.gcd_comm _ _,by simp,.inl ⟨by omega,by omega⟩⟩
theorem gcd_of_dvd {A B C D:Nat} (h1:Nat.gcd A B ∣ C) (h2:Nat.gcd A B ∣ D) (h3:Nat.gcd C D ∣ A) (h4:Nat.gcd C D ∣ B):Nat.gcd C D=Nat.gcd A B :=
  Nat.dvd_antisymm (Nat.dvd_gcd h3 h4) (Nat.dvd_gcd h1 h2)
theorem abs_add_same {x y:Int} (h:(0≤x∧0≤y)∨(x≤0∧y≤0)):(x+y).natAbs=x.natAbs+y.natAbs:=by omega
theorem mul_nat_nonneg {n:Nat} {x:Int} (h:0≤x):0≤(n:Int)*x:=Int.mul_nonneg (by omega) h
theorem mul_nat_nonpos {n:Nat} {x:Int} (h:x≤0):(n:Int)*x≤0:=by
  have:=Int.mul_nonneg (show (0:Int)≤n by omega) (show 0 ≤ -x by omega)
  rw [Int.mul_neg] at this
  omega
theorem GcdSt.step {a b A B:Nat} {Ua Ub:Int} (h:GcdSt a b A B Ua Ub) {A' B' p q r t:Nat} {s:Int} (hs:s=1∨s = -1)
    (hA:p*A'+q*B'=A) (hB:r*A'+t*B'=B) (hdet:(p:Int)*t - (q:Int)*r=s) (hle:B'≤A') :
    GcdSt a b A' B' (s*(t*Ua - q*Ub)) (s*(p*Ub - r*Ua)):=by
  have hA':(p:Int)*A'+q*B'=A:=by rw [← hA];simp
  have hB':(r:Int)*A'+t*B'=B:=by rw [← hB];simp
  have hss:s*s=1:=by rcases hs with rfl | rfl <;> rfl
  have e1:(A':Int)=s*(t*A - q*B):=by rw [← hA',← hB',← hdet] at *;grind
  have e2:(B':Int)=s*(p*B - r*A):=by rw [← hA',← hB',← hdet] at *;grind
  obtain ⟨k1,hk1⟩:=h.ca
  obtain ⟨k2,hk2⟩:=h.cb
  refine ⟨hle,⟨s*(t*k1 - q*k2),?_⟩,⟨s*(p*k2 - r*k1),?_⟩,?_,?_,?_⟩
  · rw [e1];grind
  · rw [e2];grind
  · rw [← h.gcd]
    have d1:=Nat.gcd_dvd_left A B
    have d2:=Nat.gcd_dvd_right A B
    have d3:=Nat.gcd_dvd_left A' B'
    have d4:=Nat.gcd_dvd_right A' B'
    refine gcd_of_dvd ?_ ?_ ?_ ?_
    · have:((Nat.gcd A B:Nat):Int) ∣ (A':Int):=by
        rw [e1]
        exact Int.dvd_mul_of_dvd_right (Int.dvd_sub (Int.dvd_mul_of_dvd_right (Int.natCast_dvd_natCast.2 d1)) (Int.dvd_mul_of_dvd_right (Int.natCast_dvd_natCast.2 d2)))
      exact Int.natCast_dvd_natCast.1 this
    · have:((Nat.gcd A B:Nat):Int) ∣ (B':Int):=by
        rw [e2]
        exact Int.dvd_mul_of_dvd_right (Int.dvd_sub (Int.dvd_mul_of_dvd_right (Int.natCast_dvd_natCast.2 d2)) (Int.dvd_mul_of_dvd_right (Int.natCast_dvd_natCast.2 d1)))
      exact Int.natCast_dvd_natCast.1 this
    · rw [← hA]
      exact Nat.dvd_add (Nat.dvd_mul_left_of_dvd d3 _) (Nat.dvd_mul_left_of_dvd d4 _)
    · rw [← hB]
      exact Nat.dvd_add (Nat.dvd_mul_left_of_dvd d3 _) (Nat.dvd_mul_left_of_dvd d4 _)
  · have hsn:s.natAbs=1:=by rcases hs with rfl | rfl <;> rfl
    have f1:(s*(t*Ua - q*Ub)).natAbs=t*Ua.natAbs+q*Ub.natAbs:=by
      rw [Int.natAbs_mul,hsn,Nat.one_mul,Int.sub_eq_add_neg,abs_add_same,Int.natAbs_neg,Int.natAbs_mul,Int.natAbs_mul]
      · rfl
      · rcases h.sign with ⟨h1,h2⟩ | ⟨h1,h2⟩
        · right;exact ⟨mul_nat_nonpos h1,by have:=@mul_nat_nonneg q _ h2;omega⟩
        · left;exact ⟨mul_nat_nonneg h1,by have:=@mul_nat_nonpos q _ h2;omega⟩
    have f2:(s*(p*Ub - r*Ua)).natAbs=p*Ub.natAbs+r*Ua.natAbs:=by
      rw [Int.natAbs_mul,hsn,Nat.one_mul,Int.sub_eq_add_neg,abs_add_same,Int.natAbs_neg,Int.natAbs_mul,Int.natAbs_mul]
      · rfl
      · rcases h.sign with ⟨h1,h2⟩ | ⟨h1,h2⟩
        · left;exact ⟨mul_nat_nonneg h2,by have:=@mul_nat_nonpos r _ h1;omega⟩
        · right;exact ⟨mul_nat_nonpos h2,by have:=@mul_nat_nonneg r _ h1;omega⟩
    rw [f1,f2,← h.size,← hA,← hB]
    generalize Ua.natAbs=x
    generalize Ub.natAbs=y
    simp only [Nat.mul_add,Nat.add_mul]
    have g1:t*x*B'=x*(t*B'):=by ac_rfl
    have g2:q*y*B'=y*(q*B'):=by ac_rfl
    have g3:p*y*A'=y*(p*A'):=by ac_rfl
    have g4:r*x*A'=x*(r*A'):=by ac_rfl
    omega
  · have g1:=@mul_nat_nonneg t Ua
    have g2:=@mul_nat_nonpos t Ua
    have g3:=@mul_nat_nonneg q Ub
    have g4:=@mul_nat_nonpos q Ub
    have g5:=@mul_nat_nonneg p Ub
    have g6:=@mul_nat_nonpos p Ub
    have g7:=@mul_nat_nonneg r Ua
    have g8:=@mul_nat_nonpos r Ua
    generalize (t:Int)*Ua=x1 at *
    generalize (q:Int)*Ub=x2 at *
    generalize (p:Int)*Ub=x3 at *
    generalize (r:Int)*Ua=x4 at *
    rcases h.sign with ⟨h1,h2⟩ | ⟨h1,h2⟩ <;> rcases hs with rfl | rfl
    · left;have:=g2 h1;have:=g3 h2;have:=g5 h2;have:=g8 h1;omega
    · right;have:=g2 h1;have:=g3 h2;have:=g5 h2;have:=g8 h1;omega
    · right;have:=g1 h1;have:=g4 h2;have:=g6 h2;have:=g7 h1;omega
    · left;have:=g1 h1;have:=g4 h2;have:=g6 h2;have:=g7 h1;omega
theorem GcdSt.bounds {a b A B:Nat} {Ua Ub:Int} (h:GcdSt a b A B Ua Ub) (hB:0<B):Ua.natAbs≤b∧Ub.natAbs≤b:=by
  have h1:Ua.natAbs*1≤Ua.natAbs*B:=Nat.mul_le_mul_left _ hB
  have h2:Ub.natAbs*1≤Ub.natAbs*A:=Nat.mul_le_mul_left _ (by have:=h.le;omega)
  have:=h.size
  omega
theorem GcdSt.euclid {a b A B:Nat} {Ua Ub:Int} (h:GcdSt a b A B Ua Ub) (hB:0<B):GcdSt a b B (A%B) Ub (Ua - (A/B:Nat)*Ub):=by
  have hd:=Nat.div_add_mod A B
  have:=h.step (A':=B) (B':=A%B) (p:=A/B) (q:=1) (r:=1) (t:=0) (s := -1) (.inr rfl) (by rw [Nat.mul_comm];omega) (by omega) (by simp) (Nat.le_of_lt (Nat.mod_lt _ hB))
  have e1:(-1:Int)*(((0:Nat):Int)*Ua - ((1:Nat):Int)*Ub)=Ub:=by omega
  have e2:(-1:Int)*(((A/B:Nat):Int)*Ub - ((1:Nat):Int)*Ua)=Ua - (A/B:Nat)*Ub:=by
    generalize ((A/B:Nat):Int)*Ub=z
    omega
  rw [e1,e2] at this
  exact this
structure Sim (a b u0 u1 v0 v1:Nat) (ev:Bool):Prop where
  mk ::
  ex:∃ a1 a2,Cont a b a1 a2 u0 u1 v0 v1 ev∧v1≤a2∧a2+(v0+v1)≤a1
  u0le:u0≤v0
  u1le:u1≤v1
theorem GcdSt.lehmer {a b A B:Nat} {Ua Ub:Int} (h:GcdSt a b A B Ua Ub) {x y S u0 u1 v0 v1:Nat} {ev:Bool} (hS:Sim x y u0 u1 v0 v1 ev)
    (hA1:x*S≤A) (hA2:A≤(x+1)*S) (hB1:y*S≤B) (hB2:B≤(y+1)*S) (hv0:v0≠0) (hB0:0<B) :
    ∃ A' B':Nat,(A':Int)=(if ev then 1 else -1)*(u0*A - v0*B)∧(B':Int)=(if ev then 1 else -1)*(v1*B - u1*A) ∧
      GcdSt a b A' B' ((if ev then 1 else -1)*(u0*Ua - v0*Ub)) ((if ev then 1 else -1)*(v1*Ub - u1*Ua))∧A'+B'<A+B:=by
  obtain ⟨⟨a1,a2,⟨c1,c2,c3,c4⟩,d1,d2⟩,l0,l1⟩:=hS
  have key:∃ A' B':Nat,(A':Int)=(if ev then 1 else -1)*(u0*A - v0*B)∧(B':Int)=(if ev then 1 else -1)*(v1*B - u1*A)∧B'≤A':=by
    cases ev with
    | true =>
      have hdet:=c3 rfl
      have f1:u0*x=v0*y+a1:=by
        have:(u0:Int)*x=v0*y+a1:=by
          have hd':(u0:Int)*v1=u1*v0+1:=by exact_mod_cast hdet
          have c1':(a1:Int)*v1+a2*v0=x:=by exact_mod_cast c1
          have c2':(a1:Int)*u1+a2*u0=y:=by exact_mod_cast c2
          rw [← c1',← c2'];grind
        exact_mod_cast this
      have f2:v1*y=u1*x+a2:=by
        have:(v1:Int)*y=u1*x+a2:=by
          have hd':(u0:Int)*v1=u1*v0+1:=by exact_mod_cast hdet
          have c1':(a1:Int)*v1+a2*v0=x:=by exact_mod_cast c1
          have c2':(a1:Int)*u1+a2*u0=y:=by exact_mod_cast c2
          rw [← c1',← c2'];grind
        exact_mod_cast this
      have g1:(v0+v1)*B≤(u0+u1)*A:=lift_le hA1 hB2 (by simp only [Nat.mul_add,Nat.add_mul];omega)
      have g2:u1*A≤v1*B:=lift_le hB1 hA2 (by simp only [Nat.mul_add];omega)
      simp only [Nat.add_mul] at g1
      refine ⟨u0*A - v0*B,v1*B - u1*A,?_,?_,by omega⟩
      · rw [if_pos rfl,Int.natCast_sub (by omega)];simp
      · rw [if_pos rfl,Int.natCast_sub (by omega)];simp
    | false =>
      have hdet:=c4 rfl
      have f1:v0*y=u0*x+a1:=by
        have:(v0:Int)*y=u0*x+a1:=by
          have hd':(u1:Int)*v0=u0*v1+1:=by exact_mod_cast hdet
          have c1':(a1:Int)*v1+a2*v0=x:=by exact_mod_cast c1
          have c2':(a1:Int)*u1+a2*u0=y:=by exact_mod_cast c2
          rw [← c1',← c2'];grind
        exact_mod_cast this
      have f2:u1*x=v1*y+a2:=by
        have:(u1:Int)*x=v1*y+a2:=by
          have hd':(u1:Int)*v0=u0*v1+1:=by exact_mod_cast hdet
          have c1':(a1:Int)*v1+a2*v0=x:=by exact_mod_cast c1
          have c2':(a1:Int)*u1+a2*u0=y:=by exact_mod_cast c2
          rw [← c1',← c2'];grind
        exact_mod_cast this
      have g1:(u0+u1)*A≤(v0+v1)*B:=lift_le hB1 hA2 (by simp only [Nat.mul_add,Nat.add_mul];omega)
      have g2:v1*B≤u1*A:=lift_le hA1 hB2 (by simp only [Nat.mul_add];omega)
      simp only [Nat.add_mul] at g1
      refine ⟨v0*B - u0*A,u1*A - v1*B,?_,?_,by omega⟩
      · rw [if_neg (by simp),Int.natCast_sub (by omega)];simp;omega
      · rw [if_neg (by simp),Int.natCast_sub (by omega)];simp;omega
  obtain ⟨A',B',h1,h2,hle⟩:=key
  refine ⟨A',B',h1,h2,?_⟩
  generalize hs:(if ev then (1:Int) else -1)=s at *
  have hs':s=1∨s = -1:=by cases ev <;> simp at hs <;> omega
  have hdet:(v1:Int)*u0 - (v0:Int)*u1=s:=by
    cases ev with
    | true =>
      have hd':(u0:Int)*v1=u1*v0+1:=by exact_mod_cast c3 rfl
      simp at hs
      rw [← hs];grind
    | false =>
      have hd':(u1:Int)*v0=u0*v1+1:=by exact_mod_cast c4 rfl
      simp at hs
      rw [← hs];grind
  have hss:s*s=1:=by rcases hs' with rfl | rfl <;> rfl
  have hA:v1*A'+v0*B'=A:=by
    have:(v1:Int)*A'+v0*B'=A:=by
      rw [h1,h2]
      clear hs hle h1 h2 c1 c2 c3 c4 d1 d2 l0 l1 hA1 hA2 hB1 hB2 h
      grind
    exact_mod_cast this
  have hB:u1*A'+u0*B'=B:=by
    have:(u1:Int)*A'+u0*B'=B:=by
      rw [h1,h2]
      clear hs hle h1 h2 c1 c2 c3 c4 d1 d2 l0 l1 hA1 hA2 hB1 hB2 h hA
      grind
    exact_mod_cast this
  refine ⟨h.step hs' hA hB hdet hle,?_⟩
  have hv1:v1≠0:=fun e=>by
    subst e
    have hu1:u1=0:=by omega
    subst hu1
    cases ev with
    | true=>have:=c3 rfl;omega
    | false=>have:=c4 rfl;omega
  have k1:1*A'≤v1*A':=Nat.mul_le_mul_right _ (by omega)
  have k2:1*B'≤v0*B':=Nat.mul_le_mul_right _ (by omega)
  omega
end
section
structure LehSt (A B a1 a2 u0 u1 u2 v0 v1 v2:Nat) (ev:Bool):Prop where
  c:Cont A B a1 a2 u1 u2 v1 v2 (!ev)
  le:a2≤a1
  v2p:0<v2
  l2:u2≤v2
  l1:u1≤v1∨(u1=1∧v1=0∧u2=0∧v2=1)
  sim:v0=0∨Sim A B u0 u1 v0 v1 ev
theorem LehSt.start {A B:Nat} (h:B≤A):LehSt A B A B 0 1 0 0 0 1 false:=⟨.start A B,h,by omega,by omega,.inr ⟨rfl,rfl,rfl,rfl⟩,.inl rfl⟩
theorem LehSt.step {A B a1 a2 u0 u1 u2 v0 v1 v2:Nat} {ev:Bool} (h:LehSt A B a1 a2 u0 u1 u2 v0 v1 v2 ev) (k1:v2≤a2) (k2:v1+v2≤a1 - a2) :
    LehSt A B a2 (a1%a2) u1 u2 (u1+a1/a2*u2) v1 v2 (v1+a1/a2*v2) (!ev):=by
  have hv2:=h.v2p
  have hle:=h.le
  have ha2:0<a2:=by omega
  have hq:1≤a1/a2:=(Nat.one_le_div_iff ha2).2 hle
  have hqv:1*v2≤a1/a2*v2:=Nat.mul_le_mul_right _ hq
  refine ⟨h.c.step,Nat.le_of_lt (Nat.mod_lt _ ha2),by omega,?_,.inl h.l2,?_⟩
  · have hqu:a1/a2*u2≤a1/a2*v2:=Nat.mul_le_mul_left _ h.l2
    rcases h.l1 with h1 | ⟨rfl,rfl,rfl,rfl⟩
    · omega
    · omega
  · rcases h.l1 with h1 | ⟨h1,h2,h3,h4⟩
    · by_cases h0:v1=0
      · exact .inl h0
      · exact .inr ⟨⟨a1,a2,h.c,k1,by omega⟩,h1,h.l2⟩
    · exact .inl h2
theorem LehSt.sum_le {A B a1 a2 u0 u1 u2 v0 v1 v2:Nat} {ev:Bool} (h:LehSt A B a1 a2 u0 u1 u2 v0 v1 v2 ev) (k1:v2≤a2):v1+v2≤A:=by
  have hv2:=h.v2p
  have hle:=h.le
  exact h.c.v_le (by omega) (by omega)
theorem LehSt.next_le {A B a1 a2 u0 u1 u2 v0 v1 v2:Nat} {ev:Bool} (h:LehSt A B a1 a2 u0 u1 u2 v0 v1 v2 ev) (k1:v2≤a2):v1+a1/a2*v2≤A∧u1+a1/a2*u2≤B:=by
  have hv2:=h.v2p
  exact ⟨h.c.step.v1_le (by omega),h.c.step.u1_le (by omega)⟩
theorem top_word {f:Nat→Nat} {n h:Nat} (hn:2≤n) (hf:∀ j,j<n→f j<B64) (hh:h<64) :
    val f n/2^(64*(n - 1) - h)=f (n - 1)*2^h+f (n - 2)/2^(64 - h):=by
  obtain ⟨m,rfl⟩:∃ m,n=m+2:=⟨n - 2,by omega⟩
  rw [show m+2 - 1=m+1 by omega,show m+2 - 2=m by omega]
  have hlo:val f m<B64^m:=val_lt fun j hj=>hf j (by omega)
  have e1:val f (m+2)/B64^m=f m+B64*f (m+1):=by
    simp only [val]
    rw [show val f m+f m*B64^m+f (m+1)*B64^(m+1)=val f m+B64^m*(f m+B64*f (m+1)) by
      rw [Nat.mul_add,Nat.pow_succ,Nat.add_assoc];congr 1;rw [Nat.mul_comm (f m)];congr 1;ac_rfl]
    rw [Nat.add_mul_div_left _ _ (Nat.pow_pos B64_pos),Nat.div_eq_of_lt hlo,Nat.zero_add]
  rw [show 64*(m+1) - h=64*m+(64 - h) by omega,Nat.pow_add,Nat.pow_mul,← B64_pow,← Nat.div_div_eq_div_mul,e1]
  have e2:B64*f (m+1)=2^(64 - h)*(f (m+1)*2^h):=by
    have:B64=2^(64 - h)*2^h:=by rw [B64_pow,← Nat.pow_add,show 64 - h+h=64 by omega]
    rw [this];ac_rfl
  rw [e2,Nat.add_mul_div_left _ _ (Nat.two_pow_pos _),Nat.add_comm]
theorem lead_bounds {x S:Nat} (hS:0<S):x/S*S≤x∧x<(x/S+1)*S:=by
  have h1:=Nat.div_add_mod x S
  have h2:=Nat.mod_lt x hS
  rw [Nat.add_mul,Nat.one_mul,Nat.mul_comm (x/S)]
  omega
end
section
open Go Go.RowKit
section
variable {P:Program} {ops:Array Oper} {Q:Exit→Act→World→Prop} {md:Region.Mode} {w0:World} {M:Places}
def YT (P:Program) (ops:Array Oper) (w0:World) (M:Places) (o:Oper) (v:Value) (a:Act):Prop :=
  (Region.wanted o (yielded ops a.tmps)=true∧∀ w,Mod M w0 w→(∃ w',(execOp a.eval o).run P w=.ok (.value v) w'∧Mod NoP w w') ∨
    (∃ f args w',(execOp a.eval o).run P w=.ok (.enter f args) w'∧Calls P f args w' fun e w''=>e=.returned v∧Mod NoP w w'')) ∨
  (Region.wanted o (yielded ops a.tmps)=false∧v=undef)
theorem YT.wpOp {i:Nat} {o:Oper} {v:Value} {a:Act} (hi:ops[i]? = some o) (hy:YT P ops w0 M o v a) {K:Act→World→Prop} {w:World} (hS:Mod M w0 w) (h:∀ w',Mod NoP w w'→K (a.put o.dst v) w'):wpOp P ops Q i K a w:=by
  unfold Go.wpOp
  simp only [hi]
  rcases hy with ⟨hw,hv⟩ | ⟨hw,rfl⟩
  · simp only [hw,if_true]
    refine .inl ?_
    unfold Oper.wp
    rcases hv w hS with ⟨w',hr,hm⟩ | ⟨f,args,w',hr,hc⟩
    · rw [hr];exact h w' hm
    · rw [hr]
      refine Calls.mono hc fun e w'' he => ?_
      obtain ⟨rfl,hm⟩:=he
      exact h w'' hm
  · simp only [hw,Bool.false_eq_true,if_false];exact h w (.refl _ _)
theorem YT.of_same {o:Oper} {v:Value} {a a':Act} (hy:YT P ops w0 M o v a) (he:execOp a'.eval o=execOp a.eval o)
    (hw:Region.wanted o (yielded ops a'.tmps)=Region.wanted o (yielded ops a.tmps)):YT P ops w0 M o v a':=by
  unfold YT at *
  rw [he,hw]
  exact hy
theorem wpOp_putT {j:Nat} {oi oj:Oper} {v:Value} (hj:ops[j]? = some oj) (hap:oi.apart ops oj=true)
    (hsi:∀ cs b,oi.op≠.select cs b) (hsj:∀ cs b,oj.op≠.select cs b)
    (hQ:∀ c a w,Q (.panic c) (a.put oi.dst v) w→Q (.panic c) a w) {K:Act→World→Prop} {a:Act} {w:World}
    (hy:YT P ops w0 M oi v a) (h:wpOp P ops Q j K (a.put oi.dst v) w) :
    wpOp P ops Q j (fun a' w'=>YT P ops w0 M oi v a'∧K (a'.put oi.dst v) w') a w:=by
  obtain ⟨h1,h2,h3⟩:=Oper.apart_spec hap
  have keep:∀ (a:Act),YT P ops w0 M oi v a→∀ u,YT P ops w0 M oi v (a.put oj.dst u):=fun a hy u =>
    hy.of_same (execOp_put oi hsi a oj.dst u h3) (wanted_put oi a oj.dst u h3)
  have keepD:∀ d,YT P ops w0 M oi v { a with defers:=d :: a.defers }:=fun d=>hy.of_same rfl rfl
  unfold wpOp at *
  simp only [hj] at *
  rw [wanted_put oj a oi.dst v h1] at h
  split
  · rename_i hw
    simp only [hw,if_true] at h
    rcases h with h | ⟨hasks,hlets⟩
    case inr=>exact .inr ⟨by unfold Oper.asks at *;rw [execOp_put oj hsj a oi.dst v h1] at hasks;exact hasks,hlets⟩
    refine .inl ?_
    unfold Oper.wp at *
    rw [execOp_put oj hsj a oi.dst v h1] at h
    generalize (execOp a.eval oj).run P w=r at *
    cases r with
    | ok n w' =>
      cases n <;> simp only [Oper.upon] at h ⊢
      case value u=>exact ⟨keep a hy u,by rw [← Act.put_comm a v u h2];exact h⟩
      case skip=>exact ⟨keep a hy _,by rw [← Act.put_comm a v undef h2];exact h⟩
      case defer d =>
        refine ⟨keep _ (keepD d) _,?_⟩
        rw [← Act.put_comm _ v undef h2,← Act.put_defers]
        exact h
      case enter f args =>
        refine Calls.mono h fun e w'' he => ?_
        cases e with
        | returned u=>exact ⟨keep a hy u,by rw [← Act.put_comm a v u h2];exact he⟩
        | panicked c=>exact hQ _ _ _ he
        | outgrown=>exact he
      case row row args=>exact Rows.mono h fun u w'' he=>⟨keep a hy u,by rw [← Act.put_comm a v u h2];exact he⟩
    | halt x w' =>
      cases x <;> simp only [Oper.upon] at h ⊢
      case panic u=>exact hQ _ _ _ h
  · rename_i hw
    simp only [hw] at h
    exact ⟨keep a hy _,by rw [← Act.put_comm a v undef h2];exact h⟩
def lastB (md:Region.Mode) (ops:Array Oper) (l:Nat):Bool :=
  match ops[l]? with
  | none=>false
  | some o=>(List.range ops.size).all fun i=>i == l || o.after.any fun e=>Region.binds md e && e.on == i
theorem lastB_spec {l:Nat} (h:lastB md ops l=true) {listed:Array Bool} (hl:l ∈ Region.ready md ops listed) {i:Nat} (hi:i<ops.size) (hne:i≠l):listed.getD i true=true:=by
  obtain ⟨_,o,ho,hall⟩:=mem_ready.1 hl
  unfold lastB at h
  rw [ho] at h
  simp only [List.all_eq_true,List.mem_range,Bool.or_eq_true,beq_iff_eq,Array.any_eq_true,Bool.and_eq_true] at h
  rcases h i hi with h | ⟨j,hj,hb,he⟩
  · exact absurd h hne
  · have h1:=hall _ (Array.getElem_mem hj) hb
    rw [he] at h1
    rcases Nat.lt_or_ge i listed.size with h' | h'
    · simp [h'] at h1 ⊢
      exact h1
    · simp [Array.getElem?_eq_none h']
def wpAnyT (P:Program) (md:Region.Mode) (ops:Array Oper) (Q:Exit→Act→World→Prop) (w0:World) (M:Places) (l:Nat):Nat→Array Bool→Act→World→Prop
  | 0,listed,a,w=>Region.ready md ops listed=[]∧∀ w',Mod NoP w w'→Q .normal a w'
  | fuel+1,listed,a,w=>(Region.ready md ops listed=[]→∀ w',Mod NoP w w'→Q .normal a w')∧∀ w',Mod NoP w w'→Mod M w0 w' →
    ∀ i ∈ Region.ready md ops listed,wpOp P ops Q i (fun a' w''=>(i≠l→Mod M w0 w'')∧wpAnyT P md ops Q w0 M l fuel (listed.setIfInBounds i true) a' w'') a w'
theorem ready_lt {i:Nat} {listed:Array Bool} (h:i ∈ Region.ready md ops listed):i<ops.size:=by
  obtain ⟨_,o,ho,_⟩:=mem_ready.1 h
  exact (Array.getElem?_eq_some_iff.1 ho).1
theorem wpAny_of_T {l:Nat} (hl:lastB md ops l=true∨ops.size≤l):∀ (fuel:Nat) (listed:Array Bool) (a:Act) (w:World),(Region.ready md ops listed≠[]→Mod M w0 w)→listed.size=ops.size →
    wpAnyT P md ops Q w0 M l fuel listed a w→wpAny P md ops Q fuel listed a w
  | 0,_,_,w,hw,hs,h=>⟨h.1,h.2 w (.refl _ _)⟩
  | fuel+1,listed,_,w,hw,hs,h=>⟨fun h0=>h.1 h0 w (.refl _ _),fun i hi=>wpOp_mono (fun a' w' h'=>wpAny_of_T hl fuel _ a' w' (fun hne=>by
      by_cases hil:i=l
      · subst hil
        refine absurd ?_ hne
        refine List.eq_nil_iff_forall_not_mem.2 fun j hj => ?_
        have h1:=(mem_ready.1 hj).1
        have hjl:=ready_lt hj
        by_cases hji:j=i
        · subst hji
          simp [hs,hjl] at h1
        · rw [getD_set_ne true (Ne.symm hji)] at h1
          rw [lastB_spec (hl.resolve_right fun h=>by have:=ready_lt hi;omega) hi hjl hji] at h1
          cases h1
      · exact h'.1 hil) (by simp [hs]) h'.2) (h.2 w (.refl _ _) (hw fun h0=>by rw [h0] at hi;cases hi) i hi)⟩
theorem wpAnyT.up {l:Nat}:∀ {fuel:Nat} {listed:Array Bool} {a:Act} {w w1:World},wpAnyT P md ops Q w0 M l fuel listed a w→Mod NoP w w1→wpAnyT P md ops Q w0 M l fuel listed a w1
  | 0,_,_,_,_,h,m=>⟨h.1,fun w' h1=>h.2 w' (m.trans h1)⟩
  | _+1,_,_,_,_,h,m=>⟨fun h0 w' h1=>h.1 h0 w' (m.trans h1),fun w' h1 h2=>h.2 w' (m.trans h1) h2⟩
theorem wpAnyT_first {l i:Nat} (hl:lastB md ops l=true∨ops.size≤l) (hil:i≠l) {oi:Oper} {v:Value} (hi:ops[i]? = some oi) (hsel:∀ (j:Nat) (o:Oper) cs b,ops[j]? = some o→o.op≠.select cs b)
    (hQ:∀ c a w,Q (.panic c) (a.put oi.dst v) w→Q (.panic c) a w) :
    ∀ (fuel:Nat) (listed:Array Bool) (a:Act) (w:World),
      (∀ j oj,ops[j]? = some oj→j≠i→listed.getD j true=false→(∀ e ∈ oj.after,Region.binds md e=true→e.on≠i)→oi.apart ops oj=true) →
      i ∈ Region.ready md ops listed→YT P ops w0 M oi v a →
      wpAnyT P md ops Q w0 M l fuel (listed.setIfInBounds i true) (a.put oi.dst v) w→wpAnyT P md ops Q w0 M l (fuel+1) listed a w:=by
  intro fuel
  induction fuel with
  | zero =>
    intro listed a w _ hr hy H
    refine ⟨fun h=>(by rw [h] at hr;cases hr),fun w' hF hS j hj => ?_⟩
    by_cases hji:j=i
    · subst hji;exact hy.wpOp hi hS fun w'' m=>⟨fun _=>hS.trans m.of_none,H.up (hF.trans m)⟩
    · have:=ready_mono hj hji
      rw [H.1] at this
      cases this
  | succ fuel ih =>
    intro listed a w hfree hr hy H
    refine ⟨fun h=>(by rw [h] at hr;cases hr),fun w' hF hS j hj => ?_⟩
    by_cases hji:j=i
    · subst hji;exact hy.wpOp hi hS fun w'' m=>⟨fun _=>hS.trans m.of_none,H.up (hF.trans m)⟩
    · have h1:=H.2 w' hF hS j (ready_mono hj hji)
      obtain ⟨hjun,oj,hoj,hall⟩:=mem_ready.1 hj
      have hjl:j≠l:=fun e=>by
        subst e
        have h1:=lastB_spec (hl.resolve_right fun h=>by have:=ready_lt hj;omega) hj (ready_lt hr) (Ne.symm hji)
        have h0:=(mem_ready.1 hr).1
        rw [h1] at h0
        cases h0
      have hnot:∀ e ∈ oj.after,Region.binds md e=true→e.on≠i:=fun e he hb heq=>by
        have h1:=hall e he hb
        have h0:=(mem_ready.1 hr).1
        rw [heq] at h1
        rcases Nat.lt_or_ge i listed.size with h' | h'
        · simp [h'] at h0 h1;rw [h0] at h1;cases h1
        · simp [Array.getElem?_eq_none h'] at h1
      have h2:=wpOp_putT hoj (hfree j oj hoj hji hjun hnot) (fun cs b=>hsel i oi cs b hi) (fun cs b=>hsel j oj cs b hoj) hQ hy h1
      have hfree':∀ k ok,ops[k]? = some ok→k≠i→(listed.setIfInBounds j true).getD k true=false →
          (∀ e ∈ ok.after,Region.binds md e=true→e.on≠i)→oi.apart ops ok=true:=fun k ok hk hki hun hno=>by
        refine hfree k ok hk hki ?_ hno
        by_cases hjk:j=k
        · subst hjk;exact hjun
        · rw [getD_set_ne true hjk] at hun;exact hun
      refine wpOp_mono (fun a' w'' h3=>⟨fun _=>h3.2.1 hjl,ih (listed.setIfInBounds j true) a' w'' hfree' (ready_mono hr (Ne.symm hji)) h3.1 ?_⟩) h2
      rw [Array.setIfInBounds_comm _ _ hji]
      exact h3.2.2
theorem wpAnyT_take {l i:Nat} {oi:Oper} {v:Value} {fuel:Nat} {listed:Array Bool} {a:Act} {w:World} (d:Tmp) (hl:(lastB md ops l || decide (ops.size≤l))=true) (hil:(i == l)=false) (hi:ops[i]? = some oi) (hd:oi.dst=some d)
    (hs:Region.noSelect ops=true) (hf:Region.free md ops listed i=true) (hr:(Region.ready md ops listed).contains i=true)
    (hQ:∀ c a w,Q (.panic c) (a.put oi.dst v) w→Q (.panic c) a w) (hy:YT P ops w0 M oi v a)
    (h:wpAnyT P md ops Q w0 M l fuel (listed.setIfInBounds i true) (a.put (some d) v) w):wpAnyT P md ops Q w0 M l (fuel+1) listed a w :=
  wpAnyT_first (by simpa using hl) (by simpa using hil) hi (Region.noSelect_spec hs) hQ fuel listed a w (Region.free_spec hi hf) (by simpa using hr) hy (by rw [hd];exact h)
theorem wpAnyT_one {l i:Nat} {fuel:Nat} {listed:Array Bool} {a:Act} {w:World} (hr:Region.ready md ops listed=[i])
    (h:∀ w',Mod NoP w w'→Mod M w0 w'→wpOp P ops Q i (fun a' w''=>(i≠l→Mod M w0 w'')∧wpAnyT P md ops Q w0 M l fuel (listed.setIfInBounds i true) a' w'') a w'):wpAnyT P md ops Q w0 M l (fuel+1) listed a w :=
  ⟨fun h0=>(by rw [hr] at h0;cases h0),fun w' h1 h2 j hj=>(by rw [hr] at hj;simp at hj;subst hj;exact h w' h1 h2)⟩
theorem wpOp_do {i:Nat} {o:Oper} {a:Act} {w:World} {K:Act→World→Prop} (hi:ops[i]? = some o) (hg:o.guard=none) (h:o.wp P a w K Q):wpOp P ops Q i K a w:=by
  unfold wpOp
  have hw:Region.wanted o (yielded ops a.tmps)=true:=by simp [Region.wanted,hg]
  simp only [hi,hw,if_true]
  exact .inl h
theorem wpAnyT_alloc {l i:Nat} {fuel:Nat} {listed:Array Bool} {a:Act} {w:World} {o:Oper} (d:Tmp) (hr:Region.ready md ops listed=[i]) (hi:ops[i]? = some o) (hd:o.dst=some d) (hg:o.guard=none) (obj:Obj)
    (hrun:∀ w,(execOp a.eval o).run P w=.ok (.value (.pointer (some ⟨w.heap.size,0,none⟩))) (w.alloc obj))
    (h:∀ w',Mod NoP w w'→Mod M w0 w'→wpAnyT P md ops Q w0 M l fuel (listed.setIfInBounds i true) (a.put (some d) (.pointer (some ⟨w'.heap.size,0,none⟩))) (w'.alloc obj)):wpAnyT P md ops Q w0 M l (fuel+1) listed a w :=
  wpAnyT_one hr fun w' h1 h2=>wpOp_do hi hg (by
    unfold Oper.wp
    rw [hrun]
    rw [← hd] at h
    exact ⟨fun _=>h2.alloc _,h w' h1 h2⟩)
theorem wpAnyT_store {l fuel:Nat} {listed:Array Bool} {a:Act} {w:World} {o:Oper} (hr:Region.ready md ops listed=[l]) (hn:Region.ready md ops (listed.setIfInBounds l true)=[]) (hi:ops[l]? = some o) (hd:o.dst=none) (hg:o.guard=none)
    (ty:TypeId) (x y:Operand) (ho:o.op=.store ty x y) (b i:Nat) (cells:Array Value) (hx:a.eval x=.pointer (some ⟨b,i,none⟩)) (hy:a.eval y=.agg cells)
    (ht:w.there b i cells.size) (hsz:(P.info? ty).map (·.size)=some cells.size) (h1:cells.all (·.oneCell')=true)
    (h:∀ w' w2,Mod NoP w w'→Mod M w0 w'→Mod NoP (w'.setCells b i cells.toList) w2→Q .normal a w2):wpAnyT P md ops Q w0 M l (fuel+1) listed a w :=
  wpAnyT_one hr fun w' m1 m2=>wpOp_do hi hg (wp_store_mid ty x y ho b i cells hx hy (fun j hj=>by
    obtain ⟨g1,g2⟩:=ht j hj
    obtain ⟨v,hv⟩:=Option.isSome_iff_exists.1 g1
    exact ⟨by rw [m1.cell_some hv fun h=>h];rfl,m1.free hv g2⟩) hsz h1 ⟨fun h=>absurd rfl h,by
    have hp:a.put o.dst undef=a:=by rw [hd];rfl
    rw [hp]
    cases fuel with
    | zero=>exact ⟨hn,fun w2 h2=>h w' w2 m1 m2 h2⟩
    | succ n=>exact ⟨fun _ w2 h2=>h w' w2 m1 m2 h2,fun w2 _ _ j hj=>by rw [hn] at hj;cases hj⟩⟩)
theorem wpAnyT_done {l:Nat} {listed:Array Bool} {a:Act} {w:World} (hr:Region.ready md ops listed=[]) (h:∀ w',Mod NoP w w'→Q .normal a w'):∀ fuel,wpAnyT P md ops Q w0 M l fuel listed a w
  | 0=>⟨hr,h⟩
  | _+1=>⟨fun _=>h,fun w' _ _ j hj=>by rw [hr] at hj;cases hj⟩
theorem wpAnyT_store1 {l i fuel:Nat} {listed:Array Bool} {a:Act} {w:World} {o:Oper} (hr:Region.ready md ops listed=[i]) (hi:ops[i]? = some o) (hd:o.dst=none) (hg:o.guard=none)
    (ty:TypeId) (x y:Operand) (ho:o.op=.store ty x y) (b k:Nat) (cells:Array Value) (hx:a.eval x=.pointer (some ⟨b,k,none⟩)) (hy:a.eval y=.agg cells)
    (ht:w.there b k cells.size) (hsz:(P.info? ty).map (·.size)=some cells.size) (h1:cells.all (·.oneCell')=true) (hset:∀ w',Mod M w0 w'→Mod M w0 (w'.setCells b k cells.toList))
    (h:∀ w',Mod NoP w w'→Mod M w0 w'→wpAnyT P md ops Q w0 M l fuel (listed.setIfInBounds i true) a (w'.setCells b k cells.toList)):wpAnyT P md ops Q w0 M l (fuel+1) listed a w :=
  wpAnyT_one hr fun w' m1 m2=>wpOp_do hi hg (wp_store_mid ty x y ho b k cells hx hy (fun j hj=>by
    obtain ⟨g1,g2⟩:=ht j hj
    obtain ⟨v,hv⟩:=Option.isSome_iff_exists.1 g1
    exact ⟨by rw [m1.cell_some hv fun h=>h];rfl,m1.free hv g2⟩) hsz h1 ⟨fun _=>hset w' m2,by
    have hp:a.put o.dst undef=a:=by rw [hd];rfl
    rw [hp]
    exact h w' m1 m2⟩)
theorem wp_region_T {id:Nat} {a:Act} {w:World} (l:Nat) (M:Places) (hm:P.follows .mixedOrders=true) (hl:(lastB .any ops l || decide (ops.size≤l))=true)
    (h:wpAnyT P .any ops Q w M l ops.size (Array.replicate ops.size false) a w):(Code.region id ops true).wp P Q a w :=
  wp_region_any hm (wpAny_of_T (w0:=w) (M:=M) (by simpa using hl) _ _ _ _ (fun _=>(Mod.refl M w).drew) (by simp) (h.up ((Mod.refl NoP w).drew)))
theorem YT.pure {o:Oper} {v:Value} {a:Act} (hw:Region.wanted o (yielded ops a.tmps)=true) (h:∀ w,(execOp a.eval o).run P w=.ok (.value v) w):YT P ops w0 M o v a :=
  .inl ⟨hw,fun w _=>.inl ⟨w,h w,.refl _ _⟩⟩
theorem YT.cell {o:Oper} {a:Act} {v:Value} (hw:Region.wanted o (yielded ops a.tmps)=true) (ty:TypeId) (x:Operand) (ho:o.op=.load ty x) (b i:Nat) (hx:a.eval x=.pointer (some ⟨b,i,none⟩))
    (hM:∀ j,¬ M b j) (hc:w0.cell? ⟨b,i,none⟩=some v) (hl:∀ w,w.cell? ⟨b,i,none⟩=some v→(Instr.loadAt ty (.pointer (some ⟨b,i,none⟩))).run P w=.ok v w):YT P ops w0 M o v a :=
  .inl ⟨hw,fun w hm=>.inl ⟨w,by
    unfold execOp
    simp only [ho,hx,Sem.run_bind,Sem.run_pure,hl w (hm.cell_some hc (hM _)),Result.andThen_ok],.refl _ _⟩⟩
theorem YT.row {o:Oper} {a:Act} (hw:Region.wanted o (yielded ops a.tmps)=true) (ty:TypeId) (x:Operand) (ho:o.op=.load ty x) (b i:Nat) (hx:a.eval x=.pointer (some ⟨b,i,none⟩))
    (hM:∀ j,¬ M b j) (cs:List Value) (d:TypeDesc) (hS:w0.rangeAt b i cs) (hu:P.underlying ty=some d) (hd:d.isRow=true) (hi:(P.info? ty).map (·.size)=some cs.length):YT P ops w0 M o (.agg cs.toArray) a :=
  .inl ⟨hw,fun w hm=>.inl ⟨w,by
    unfold execOp
    simp only [ho,hx,Instr.loadAt,Instr.sureAddr,Sem.run_bind,Sem.run_pure,Result.andThen_ok,run_loadVar_mid w b i ty cs d (fun j v hv=>hm.cell_some (hS j v hv) (hM _)) hu hd hi],.refl _ _⟩⟩
theorem YT.call {o:Oper} {a:Act} {v:Value} (hw:Region.wanted o (yielded ops a.tmps)=true) (f:FuncId) (args:Array Value) (hr:∀ w,(execOp a.eval o).run P w=.ok (.enter f args) w)
    (hc:∀ w,Mod M w0 w→Calls P f args w fun e w'=>e=.returned v∧Mod NoP w w'):YT P ops w0 M o v a :=
  .inl ⟨hw,fun w hm=>.inr ⟨f,args,w,hr w,hc w hm⟩⟩
theorem wpList_val {rest:List Oper} {o:Oper} {a:Act} {w:World} {v:Value} (d:Tmp) (hd:o.dst=some d) (hg:o.guard=none) (hr:(execOp a.eval o).run P w=.ok (.value v) w) (h:wpList P ops Q rest (a.put (some d) v) w):wpList P ops Q (o :: rest) a w :=
  wpList_plain hg fun _ hK=>by
    unfold Oper.wp
    rw [← hd] at h
    rw [hr]
    exact hK _ _ h
theorem wpList_callV {rest:List Oper} {o:Oper} {a:Act} {w:World} {v:Value} (d:Tmp) (hd:o.dst=some d) (hg:o.guard=none) (f:FuncId) (args:Array Value) (hr:(execOp a.eval o).run P w=.ok (.enter f args) w)
    (hc:Calls P f args w fun e w'=>e=.returned v∧Mod NoP w w') (h:∀ w',Mod NoP w w'→wpList P ops Q rest (a.put (some d) v) w'):wpList P ops Q (o :: rest) a w :=
  wpList_plain hg fun _ hK=>by
    unfold Oper.wp
    rw [← hd] at h
    rw [hr]
    refine Calls.mono hc fun e w' he => ?_
    obtain ⟨rfl,hm⟩:=he
    exact hK _ _ (h w' hm)
theorem wpList_row {rest:List Oper} {o:Oper} {a:Act} {w:World} (d:Tmp) (hd:o.dst=some d) (hg:o.guard=none) (ty:TypeId) (x:Operand) (ho:o.op=.load ty x) (b i:Nat) (hx:a.eval x=.pointer (some ⟨b,i,none⟩))
    (cs:List Value) (k:TypeDesc) (hc:w.rangeAt b i cs) (hu:P.underlying ty=some k) (hk:k.isRow=true) (hi:(P.info? ty).map (·.size)=some cs.length) (h:wpList P ops Q rest (a.put (some d) (.agg cs.toArray)) w):wpList P ops Q (o :: rest) a w :=
  wpList_load_mid hg ty x ho b i hx cs k hc hu hk hi (by rw [hd];exact h)
theorem wpList_store {rest:List Oper} {o:Oper} {a:Act} {w:World} (hd:o.dst=none) (hg:o.guard=none) (ty:TypeId) (x y:Operand) (ho:o.op=.store ty x y) (b i:Nat) (cells:Array Value) (hx:a.eval x=.pointer (some ⟨b,i,none⟩)) (hy:a.eval y=.agg cells)
    (ht:w.there b i cells.size) (hsz:(P.info? ty).map (·.size)=some cells.size) (h1:cells.all (·.oneCell')=true) (h:wpList P ops Q rest a (w.setCells b i cells.toList)):wpList P ops Q (o :: rest) a w :=
  wpList_store_mid hg ty x y ho b i cells hx hy ht hsz h1 (by rw [hd];exact h)
end
end
section
open Go Go.ChangeShapes Go.WideShapes Go.ChangeAt Go.RowKit Go.WideElems
theorem Tryz.own:ownKnob Tryz.prog.godebug=none:=by kernel_rfl
theorem Tryz.laidOut:laidOutB Tryz.prog=true:=by kernel_rfl
section
variable {H:Type} {enc:TypeId × Value→H} {P:Program} {W W':World} {sp:Nat→Bool}
theorem trodAll_stays (hl:laidOutB P=true) (hb:Below W.heap.size W W') :
    ∀ {ts:List TypeId} {vs:List Value} {ds:List (DataW H)} {ps:List MemPlace},(∀ t ∈ ts,P.readableRec t=true∧t<P.types.size)→(∀ x ∈ ps,x.block<W.heap.size)→(∀ x ∈ ps,sp x.block=true) →
      DataW.TrodAll enc P W 0 (fun _=>true) true ts vs ds ps→DataW.TrodAll enc P W' 0 sp true ts vs ds ps
  | [],_,_,_,_,_,_,h=>by
    obtain ⟨rfl,rfl,rfl⟩:=trodAll_nil h
    exact h
  | t :: ts,_,_,_,ht,hlt,hsp,h=>by
    obtain ⟨v,vs1,d,ds1,a,b,rfl,rfl,rfl,h1,h2⟩:=trodAll_cons h
    exact ⟨a,b,Trod_stays hl (ht t (by simp)).1 (ht t (by simp)).2 h1 (fun x hx=>hb.same (hlt x (by simp [hx]))) (fun x hx=>hsp x (by simp [hx])),
      trodAll_stays hl hb (fun t h=>ht t (by simp [h])) (fun x hx=>hlt x (by simp [hx])) (fun x hx=>hsp x (by simp [hx])) h2,rfl⟩
theorem trodVars_stays (hl:laidOutB P=true) (hb:Below W.heap.size W W') :
    ∀ {ns:List String} {gs:List (DataW H)} {ps:List MemPlace},varsRowed P ns=true→(∀ x ∈ ps,sp x.block=true)→DataW.TrodVars enc P W (fun _=>true) ns gs ps→DataW.TrodVars enc P W' sp ns gs ps
  | [],[],_,_,_,h=>h
  | [],_ :: _,_,_,_,h=>h.elim
  | _ :: _,[],_,_,_,h=>h.elim
  | n :: ns,d :: ds,ps,hv,hsp,h=>by
    have hlt:=h.lt
    obtain ⟨g,t,cs,fuel,p,q,h1,h2,h3,h4,hs,e⟩:=h
    have hv2:(P.readableRec t=true∧t<P.types.size)∧varsRowed P ns=true:=by
      simp only [varsRowed,List.all_cons,Bool.and_eq_true] at hv
      refine ⟨?_,hv.2⟩
      obtain ⟨gl,hgl,rfl⟩:=Option.map_eq_some_iff.1 h2
      have:=hv.1
      rw [h1] at this
      simpa [hgl] using this
    have h3':W'.var? P n=some cs:=by
      unfold World.var? at h3 ⊢
      rw [h1] at h3 ⊢
      simp only [Option.bind_some] at h3 ⊢
      by_cases hg:g<W.heap.size
      · rw [hb.block g hg];exact h3
      · rw [Array.getElem?_eq_none (by omega)] at h3
        cases h3
    have hp:∀ x ∈ p,x ∈ ps:=fun x hx=>by rw [e];simp [hx]
    have hq:∀ x ∈ q,x ∈ ps:=fun x hx=>by rw [e];simp [hx]
    exact ⟨g,t,cs,fuel,p,q,h1,h2,h3',DataW.trod_stays (kids_book hl hv2.1.1) (book_sized hv2.1.1) (fun h=>by cases h) ⟨hv2.1.2,book_self t⟩ h4 (fun x hx=>hb.same (hlt x (hp x hx))) (fun x hx=>hsp x (hp x hx)),
      trodVars_stays hl hb hv2.2 (fun x hx=>hsp x (hq x hx)) hs,e⟩
theorem post_stays (hl:laidOutB P=true) {f:Func} {s:ChangeSpec} {apart fresh handsOn again:Bool} {args:Array Value} {v:Value} {ds gs:List (DataW H)} {before:List MemPlace}
    (hb:Below W.heap.size W W') (hts:∀ t ∈ f.params.toList,P.readableRec t=true∧t<P.types.size) (hvr:varsRowed P s.vars=true)
    (hW:DataW.Whole enc P f.params.toList s.vars apart W args.toList ds gs before)
    (hfa:(s.fn H (ds ++ gs)).args=ds) (hfv:(s.fn H (ds ++ gs)).vars=gs)
    (hres:∀ (b:Nat) (sp:Nat→Bool) (hd:Bool),DataW.TrodAll enc P W' b sp hd f.resultTypes.toList (v.resultList f.resultTypes.size) (s.fn H (ds ++ gs)).results [])
    (hok:∀ (j:Nat) (t:TypeId) (r:Value),f.resultTypes[j]? = some t→(v.resultList f.resultTypes.size)[j]? = some r→Value.okWide P W' .any 0 t r) :
    s.post enc P f apart fresh handsOn again W args v W':=by
  have hlt:=hW.lt
  have hW':=hW
  obtain ⟨pa,pv,hA,hV,rfl,hz,hn⟩:=hW
  have hargs:∀ sp:Nat→Bool,(∀ p ∈ pa ++ pv,sp p.block=true)→DataW.TrodAll enc P W' 0 sp true f.params.toList args.toList (s.fn H (ds ++ gs)).args pa:=fun sp h=>by
    rw [hfa]
    exact trodAll_stays hl hb hts (fun x hx=>hlt x (by simp [hx])) (fun x hx=>h x (by simp [hx])) hA
  have hvars:∀ sp:Nat→Bool,(∀ p ∈ pa ++ pv,sp p.block=true)→DataW.TrodVars enc P W' sp s.vars (s.fn H (ds ++ gs)).vars pv:=fun sp h=>by
    rw [hfv]
    exact trodVars_stays hl hb hvr (fun x hx=>h x (by simp [hx])) hV
  have hold:∀ p ∈ pa ++ pv,(fun b=>decide (b<W.heap.size)) p.block=true:=fun p hp=>by simpa using hlt p hp
  refine ⟨ds,gs,pa ++ pv,[],pa,pv,hW',hres _ _ _,hargs _ hold,hvars _ hold,hb.frame _,fun _ => ?_⟩
  refine ⟨hok,_,_,([] ++ pa) ++ pv,⟨[] ++ pa,pv,trodAll_append (hargs _ (fun _ _=>rfl)) (hres _ _ _),hvars _ (fun _ _=>rfl),rfl,?_,?_⟩,?_⟩
  · intro b off hp
    have hm:=hz b off (by simpa using hp)
    have:b<W.heap.size:=hlt (.cell b off) (by simpa using hp)
    rw [hb.frozen (p:=⟨b,off,none⟩) this]
    exact hm
  · intro ha
    simpa using hn ha
  · intro p hp _
    simpa using hp
end
theorem gEof:Tryz.prog.globalNamed "io.EOF" = some 0:=by kernel_rfl
theorem gEofType:(Tryz.prog.globals[0]?).map (·.type)=some 95:=by kernel_rfl
theorem cells316:Tryz.prog.cellsOf 316=1:=by kernel_rfl
theorem cells9:Tryz.prog.cellsOf 9=1:=by kernel_rfl
theorem star : "*" ++ "errors.errorString" = "*errors.errorString" := by decide
theorem row254 (u:TypeId) (h:Tryz.prog.typeName? 3 u=some "*errors.errorString"):u=254 :=
  typeName_ptr_named (nm := "errors.errorString") (by rw [star];kernel_rfl) (by kernel_rfl) (by decide) u (by rw [star];exact h)
theorem eof_of_laid {W:World} {text:List UInt8} {r:List (String × DataW Unit)} (h:laidMet Tryz.prog (("io.EOF",.iface "*errors.errorString" (.ptr (.agg [.lit (.string text)]))) :: r) W) :
    ∃ a:Addr,W.cell? ⟨0,0,none⟩=some (.iface 254 (.pointer (some a))):=by
  obtain ⟨a,s,hv,_⟩:=laid_sentinel h gEof gEofType Tryz.underlying95 row254 Tryz.underlying254 Tryz.underlying316 rfl rfl Tryz.underlying9 cells316 cells9
  exact ⟨a,by simpa using World.var?_cell gEof hv 0⟩
abbrev eofS:ByteArray:={ data:=#[69,79,70] }
abbrev noDigitsS:ByteArray:={ data:=#[110,117,109,98,101,114,32,104,97,115,32,110,111,32,100,105,103,105,116,115] }
abbrev invalSepS:ByteArray:={ data:=#[39,95,39,32,109,117,115,116,32,115,101,112,97,114,97,116,101,32,115,117,99,99,101,115,115,105,118,101,32,100,105,103,105,116,115] }
noncomputable def low:Nat:=(World.holding Tryz.prog default ⟨#[],#[],[]⟩).heap.size
end
end Go.Proofs.YtpfmbfkhjapbbaaGreatDoor
