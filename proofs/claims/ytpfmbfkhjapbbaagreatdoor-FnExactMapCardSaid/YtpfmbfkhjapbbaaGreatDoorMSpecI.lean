/-
  The specification's inverse: the inverse modulo an odd prime, by halves. Condition: the prime is at most half of 2^576.
-/
import Derived.Test.YtpfmbfkhjapbbaaGreatDoorMg14
import Derived.Test.YtpfmbfkhjapbbaaGreatDoorMg16
import Derived.Deep.LoopGhost
set_option linter.unusedVariables false
set_option linter.unusedSimpArgs false
namespace Go.Proofs.YtpfmbfkhjapbbaaGreatDoor
open Go Go.RowKit
def InvRet (p a:Nat) (w:World) (e:Ending) (w':World):Prop :=
  ∃ h:Nat→Nat,e=.returned (nv h)∧(∀ j,j<9→h j<B64)∧val h 9<p∧(a≠0→mm p a (val h 9)=1)∧Mod NoP w w'
def Four (b3 b4 b5 b6:Nat):Places:=fun q _=>q=b3∨q=b4∨q=b5∨q=b6
structure IvSt (w7:World) (b3 b4 b5 b6:Nat) (fu fv fx fy:Nat→Nat) (wr:World):Prop where
  u:NIs wr b3 fu
  v:NIs wr b4 fv
  x:NIs wr b5 fx
  y:NIs wr b6 fy
  uw:∀ j,j<9→fu j<B64
  vw:∀ j,j<9→fv j<B64
  xw:∀ j,j<9→fx j<B64
  yw:∀ j,j<9→fy j<B64
  mod:Mod (Four b3 b4 b5 b6) w7 wr
theorem IvSt.still {w7 wr w':World} {b3 b4 b5 b6:Nat} {fu fv fx fy:Nat→Nat} (h:IvSt w7 b3 b4 b5 b6 fu fv fx fy wr) (m:Mod NoP wr w'):IvSt w7 b3 b4 b5 b6 fu fv fx fy w' :=
  ⟨h.u.mod m (fun _ h=>h),h.v.mod m (fun _ h=>h),h.x.mod m (fun _ h=>h),h.y.mod m (fun _ h=>h),h.uw,h.vw,h.xw,h.yw,h.mod.trans m.of_none⟩
theorem IvSt.set_u {w7 wr:World} {b3 b4 b5 b6:Nat} {fu fv fx fy g:Nat→Nat} (h:IvSt w7 b3 b4 b5 b6 fu fv fx fy wr) (hg:∀ j,j<9→g j<B64) (d1:b4≠b3) (d2:b5≠b3) (d3:b6≠b3):IvSt w7 b3 b4 b5 b6 g fv fx fy (setNine wr b3 g) :=
  ⟨h.u.setNine g,h.v.mod (setNine_own wr b3 g) (fun _ hh=>d1 hh),h.x.mod (setNine_own wr b3 g) (fun _ hh=>d2 hh),h.y.mod (setNine_own wr b3 g) (fun _ hh=>d3 hh),hg,h.vw,h.xw,h.yw,h.mod.trans ((setNine_own wr b3 g).mono fun q o _ hh=>by unfold InB at hh;subst hh;exact .inl rfl)⟩
theorem IvSt.set_v {w7 wr:World} {b3 b4 b5 b6:Nat} {fu fv fx fy g:Nat→Nat} (h:IvSt w7 b3 b4 b5 b6 fu fv fx fy wr) (hg:∀ j,j<9→g j<B64) (d0:b3≠b4) (d2:b5≠b4) (d3:b6≠b4):IvSt w7 b3 b4 b5 b6 fu g fx fy (setNine wr b4 g) :=
  ⟨h.u.mod (setNine_own wr b4 g) (fun _ hh=>d0 hh),h.v.setNine g,h.x.mod (setNine_own wr b4 g) (fun _ hh=>d2 hh),h.y.mod (setNine_own wr b4 g) (fun _ hh=>d3 hh),h.uw,hg,h.xw,h.yw,h.mod.trans ((setNine_own wr b4 g).mono fun q o _ hh=>by unfold InB at hh;subst hh;exact .inr (.inl rfl))⟩
theorem IvSt.set_x {w7 wr:World} {b3 b4 b5 b6:Nat} {fu fv fx fy g:Nat→Nat} (h:IvSt w7 b3 b4 b5 b6 fu fv fx fy wr) (hg:∀ j,j<9→g j<B64) (d0:b3≠b5) (d1:b4≠b5) (d3:b6≠b5):IvSt w7 b3 b4 b5 b6 fu fv g fy (setNine wr b5 g) :=
  ⟨h.u.mod (setNine_own wr b5 g) (fun _ hh=>d0 hh),h.v.mod (setNine_own wr b5 g) (fun _ hh=>d1 hh),h.x.setNine g,h.y.mod (setNine_own wr b5 g) (fun _ hh=>d3 hh),h.uw,h.vw,hg,h.yw,h.mod.trans ((setNine_own wr b5 g).mono fun q o _ hh=>by unfold InB at hh;subst hh;exact .inr (.inr (.inl rfl)))⟩
theorem IvSt.set_y {w7 wr:World} {b3 b4 b5 b6:Nat} {fu fv fx fy g:Nat→Nat} (h:IvSt w7 b3 b4 b5 b6 fu fv fx fy wr) (hg:∀ j,j<9→g j<B64) (d0:b3≠b6) (d1:b4≠b6) (d2:b5≠b6):IvSt w7 b3 b4 b5 b6 fu fv fx g (setNine wr b6 g) :=
  ⟨h.u.mod (setNine_own wr b6 g) (fun _ hh=>d0 hh),h.v.mod (setNine_own wr b6 g) (fun _ hh=>d1 hh),h.x.mod (setNine_own wr b6 g) (fun _ hh=>d2 hh),h.y.setNine g,h.uw,h.vw,h.xw,hg,h.mod.trans ((setNine_own wr b6 g).mono fun q o _ hh=>by unfold InB at hh;subst hh;exact .inr (.inr (.inr rfl)))⟩
theorem even_of {u v:Nat} (h:Nat.gcd u v=1) (hu:u%2=0):v%2=1:=by
  refine Classical.byContradiction fun hv => ?_
  have hd:2 ∣ Nat.gcd u v:=Nat.dvd_gcd (Nat.dvd_of_mod_eq_zero hu) (Nat.dvd_of_mod_eq_zero (by omega))
  rw [h] at hd
  have:=Nat.le_of_dvd (by omega) hd
  omega
end Go.Proofs.YtpfmbfkhjapbbaaGreatDoor
