/-
  A scalar out of bytes, the rest: UnmarshalBinary, impl.scalarOf, impl.ReadScalar. Conditions: io.EOF holds an errors.errorString's pointer; rows of at most 2^20 bytes.
  Of two scalars one is chosen: wG's cvtScl, constantTimeCopy, wScl's CMov and CSelect, impl.ChooseScalar. Conditions: io.EOF holds an errors.errorString's pointer; rows of at most 2^20 bytes.
  The rows' arguments opened: a slice of bytes reads as a row of bytes below 256, or nil; a bool. No condition.
  A row's argument that is a slice: its length is within its capacity. No condition.
-/
import Derived.Test.YtpfmbfkhjapbbaaGreatDoorMg02
import Derived.Test.YtpfmbfkhjapbbaaGreatDoorMg10
import Derived.ChangeSlices
set_option linter.unusedVariables false
set_option linter.unusedSimpArgs false
namespace Go.Proofs.YtpfmbfkhjapbbaaGreatDoor
section
open Go Go.RowKit
def BSl (w:World) (a:Option Addr) (n:Nat) (f:Nat→Nat):Prop:=(a=none∧n=0)∨∃ b o,a=some ⟨b,o,none⟩∧Bts w b o n f
theorem BSl.mod {w w':World} {a:Option Addr} {n:Nat} {f:Nat→Nat} {M:Places} (h:BSl w a n f) (hm:Mod M w w') (hd:∀ b o,M b o→w.heap.size≤b):BSl w' a n f:=by
  rcases h with h | ⟨b,o,rfl,hb⟩
  · exact .inl h
  · exact .inr ⟨b,o,rfl,hb.mod hm fun j hj h=>by have:=hd _ _ h;have:=lt_of_cell? (hb j hj);omega⟩
theorem BSl.nop {w w':World} {a:Option Addr} {n:Nat} {f:Nat→Nat} (h:BSl w a n f) (hm:Mod NoP w w'):BSl w' a n f:=h.mod hm fun _ _ h=>h.elim
end
section
open Go Go.RowKit
theorem methodParams (W:World) (a:Addr):(method 424 125 (.pointer (some a)) "Params").run Tryz.prog W=.ok (283,.pointer (some a)) W:=by kernel_rfl
end
section
open Go Go.ChangeShapes Go.WideShapes Go.ChangeAt Go.RowKit
theorem cells5:Tryz.prog.cellsOf 5=1:=by kernel_rfl
set_option maxRecDepth 100000 in
theorem open_bytes {H:Type} {enc:TypeId × Value→H} {W:World} {r:Reach} {b0 base:Nat} {sp:Nat→Bool} {hd:Bool} {v:Value} {d:DataW H} {ps:List MemPlace}
    (hval:Value.okWide Tryz.prog W r b0 22 v) (h:DataW.Trod enc Tryz.prog W base sp hd 22 v d ps) :
    ∃ (a:Option Addr) (n c:Nat) (f:Nat→Nat),v=.slice a n c∧BSl W a n f∧∀ j,j<n→f j<256:=by
  have hc:∃ a n c,v=.slice a n c∧∀ A,a=some A→A.spot=none:=by
    unfold Value.okWide Cell.okWide at hval
    simp only [Tryz.underlying22] at hval
    unfold Cell.ok at hval
    simp only [Tryz.underlying22] at hval
    split at hval
    all_goals first
      | (rename_i h1;cases h1;done)
      | (cases hval;done)
      | skip
    all_goals first
      | (rename_i e a len cap h1;exact ⟨_,_,_,rfl,fun A hA=>by obtain rfl:=Option.some.inj hA;exact hval.2.2.2.1⟩)
      | exact ⟨_,_,_,rfl,fun A hA=>by cases hA⟩
  obtain ⟨a,n,c,rfl,hsp⟩:=hc
  obtain ⟨fuel,hf⟩:=h
  rcases open_ints Tryz.underlying22 Tryz.underlying5 cells5 hf with ⟨h1,_⟩ | ⟨A,len,cap,zs,h1,_,hl,_,hz,_,hcell,hwf⟩
  · simp [Value.cells] at h1
    obtain ⟨rfl,rfl,rfl⟩:=h1
    exact ⟨none,0,0,fun _=>0,rfl,.inl ⟨rfl,rfl⟩,fun j hj=>by omega⟩
  · simp [Value.cells] at h1
    obtain ⟨rfl,rfl,rfl⟩:=h1
    have hlen:n≤zs.length:=by rw [hz];split <;> omega
    have hzb:∀ j,j<zs.length→0≤zs.getD j 0∧zs.getD j 0≤255:=fun j hj=>by
      refine bounds_u8 (hwf _ ?_)
      rw [List.getD_eq_getElem?_getD,List.getElem?_eq_getElem hj]
      exact List.getElem_mem hj
    obtain ⟨b,o,s⟩:=A
    obtain rfl:s=none:=hsp _ rfl
    refine ⟨_,n,c,fun j=>(zs.getD j 0).toNat,rfl,.inr ⟨b,o,rfl,fun j hj => ?_⟩,fun j hj => ?_⟩
    · have h2:=hcell j (by omega)
      have h3:=hzb j (by omega)
      rw [Addr.add_lit] at h2
      have h4:(((zs.getD j 0).toNat:Nat):Int)=zs.getD j 0:=by omega
      show _=some (Value.int .u8 (((zs.getD j 0).toNat:Nat):Int))
      rw [h4]
      exact h2
    · have h3:=hzb j (by omega)
      show (zs.getD j 0).toNat<256
      omega
end
section
open Go Go.ChangeShapes Go.WideShapes Go.ChangeAt Go.RowKit
set_option maxRecDepth 100000 in
theorem slice_len {W:World} {r:Reach} {b0:Nat} {a:Option Addr} {n c:Nat} {f:Nat→Nat} (hval:Value.okWide Tryz.prog W r b0 22 (.slice a n c)) (hX:BSl W a n f):n≤c:=by
  unfold Value.okWide Cell.okWide at hval
  simp only [Tryz.underlying22] at hval
  unfold Cell.ok at hval
  simp only [Tryz.underlying22] at hval
  cases a with
  | none =>
    rcases hX with ⟨_,h⟩ | ⟨b,o,h,_⟩
    · omega
    · cases h
  | some A=>exact hval.1
end
end Go.Proofs.YtpfmbfkhjapbbaaGreatDoor
