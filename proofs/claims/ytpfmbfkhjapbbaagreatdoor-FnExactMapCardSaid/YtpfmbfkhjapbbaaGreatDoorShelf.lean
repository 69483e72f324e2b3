/-
  DERIVED: THE SHELF's CONTRACTS AT THIS DUMP, IN PLAIN WORDS (tools/lay-plain.mjs out of 'TryzShelf.lean', which tools/lay-shelf.mjs wrote): THE SAME DECLARATIONS UNDER THE SAME NAMES: 'import', 'namespace', 'open', 'def', 'theorem' AND NOTHING ELSE: no command of the shelf's: FOR A HAND-IN. Each laying: the table of numbers ('.._ren') and one theorem, a field a fact of the dump's own or the kernel's comparison; each contract: ONE APPLICATION.
-/
import Derived.Test.YtpfmbfkhjapbbaaGreatDoorProg
import Derived.Shelf.Small.Bits
import Derived.Shelf.Strconv.Itoa0
import Derived.Shelf.Bits.Mul64
namespace Go.Proofs
open Go.Shelf
def Tryz.lays134_ren:Go.Shelf.Ren:=⟨fun | 134=>210 | 129=>209 | n=>n,fun | 53=>31 | 3=>3 | 4=>4 | 46=>32 | 5=>5 | 9=>9 | n=>n,fun | n=>n⟩
theorem Tryz.lays134:Go.Proofs.Lays.n134 Tryz.prog Tryz.lays134_ren:={
  mixed:=by kernel_rfl
  f129:=Tryz.func209.trans (congrArg some (by kernel_rfl))
  f134:=Tryz.func210.trans (congrArg some (by kernel_rfl))
  t3:=Tryz.underlying3
  a3:=Tryz.isAgg3
  z3:=Tryz.sizeOf3
  v3:=Tryz.zeroValue3
  t4:=Tryz.underlying4
  a4:=Tryz.isAgg4
  z4:=Tryz.sizeOf4
  v4:=Tryz.zeroValue4
  t5:=Tryz.underlying5
  a5:=Tryz.isAgg5
  z5:=Tryz.sizeOf5
  v5:=Tryz.zeroValue5
  t9:=Tryz.underlying9
  a9:=Tryz.isAgg9
  z9:=Tryz.sizeOf9
  v9:=Tryz.zeroValue9
  t46:=Tryz.underlying32
  a46:=Tryz.isAgg32
  z46:=Tryz.sizeOf32
  v46:=Tryz.zeroValue32
  t53:=Tryz.underlying31
  a53:=Tryz.isAgg31
  z53:=Tryz.sizeOf31
  v53:=Tryz.zeroValue31 }
theorem Tryz.bits_LeadingZeros64 (x:Int) (w:World) (h0:0≤x) (h1:x≤18446744073709551615) :
    Calls Tryz.prog 210 #[.int .u64 x] w fun e w'=>e=.returned (.int .i64 (64 - (Lib.bitLen x.toNat:Int)))∧w'=w:=Any.bits_LeadingZeros64 Tryz.lays134 x w h0 h1
def Tryz.lays130_ren:Go.Shelf.Ren:=⟨fun | 130=>190 | 125=>205 | 128=>208 | 129=>209 | n=>n,fun | 46=>32 | 3=>3 | 51=>144 | 53=>31 | 4=>4 | 5=>5 | 9=>9 | n=>n,fun | n=>n⟩
theorem Tryz.lays130:Go.Proofs.Lays.n130 Tryz.prog Tryz.lays130_ren:={
  mixed:=by kernel_rfl
  f125:=Tryz.func205.trans (congrArg some (by kernel_rfl))
  f128:=Tryz.func208.trans (congrArg some (by kernel_rfl))
  f129:=Tryz.func209.trans (congrArg some (by kernel_rfl))
  f130:=Tryz.func190.trans (congrArg some (by kernel_rfl))
  t3:=Tryz.underlying3
  a3:=Tryz.isAgg3
  z3:=Tryz.sizeOf3
  v3:=Tryz.zeroValue3
  t4:=Tryz.underlying4
  a4:=Tryz.isAgg4
  z4:=Tryz.sizeOf4
  v4:=Tryz.zeroValue4
  t5:=Tryz.underlying5
  a5:=Tryz.isAgg5
  z5:=Tryz.sizeOf5
  v5:=Tryz.zeroValue5
  t9:=Tryz.underlying9
  a9:=Tryz.isAgg9
  z9:=Tryz.sizeOf9
  v9:=Tryz.zeroValue9
  t46:=Tryz.underlying32
  a46:=Tryz.isAgg32
  z46:=Tryz.sizeOf32
  v46:=Tryz.zeroValue32
  t51:=Tryz.underlying144
  a51:=Tryz.isAgg144
  z51:=Tryz.sizeOf144
  v51:=Tryz.zeroValue144
  t53:=Tryz.underlying31
  a53:=Tryz.isAgg31
  z53:=Tryz.sizeOf31
  v53:=Tryz.zeroValue31 }
theorem Tryz.bits_LeadingZeros (x:Int) (w:World) (h0:0≤x) (h1:x≤18446744073709551615) :
    Calls Tryz.prog 190 #[.int .u64 x] w fun e w'=>e=.returned (.int .i64 (64 - (Lib.bitLen x.toNat:Int)))∧w'=w:=Any.bits_LeadingZeros Tryz.lays130 x w h0 h1
open Go.RowKit Go.Lib in
def Tryz.lays212_ren:Go.Shelf.Ren:=⟨fun | 212=>177 | 263=>198 | 264=>199 | n=>n,fun | 46=>32 | 51=>144 | 146=>225 | 53=>31 | 148=>128 | n=>n,fun | n=>n⟩
theorem Tryz.lays212:Go.Proofs.Lays.n212 Tryz.prog Tryz.lays212_ren:={
  mixed:=by kernel_rfl
  f212:=Tryz.func177.trans (congrArg some (by kernel_rfl))
  f263:=Tryz.func198.trans (congrArg some (by kernel_rfl))
  f264:=Tryz.func199.trans (congrArg some (by kernel_rfl))
  t46:=Tryz.underlying32
  a46:=Tryz.isAgg32
  z46:=Tryz.sizeOf32
  v46:=Tryz.zeroValue32
  t51:=Tryz.underlying144
  a51:=Tryz.isAgg144
  z51:=Tryz.sizeOf144
  v51:=Tryz.zeroValue144
  t53:=Tryz.underlying31
  a53:=Tryz.isAgg31
  z53:=Tryz.sizeOf31
  v53:=Tryz.zeroValue31
  t146:=Tryz.underlying225
  a146:=Tryz.isAgg225
  z146:=Tryz.sizeOf225
  v146:=Tryz.zeroValue225
  t148:=Tryz.underlying128
  a148:=Tryz.isAgg128
  z148:=Tryz.sizeOf128
  v148:=Tryz.zeroValue128 }
open Go.RowKit Go.Lib in
theorem Tryz.bits_Mul (x y:Nat) (hx:x<18446744073709551616) (hy:y<18446744073709551616) (w:World) :
    Calls Tryz.prog 177 #[.int .u64 x,.int .u64 y] w fun e w'=>e=.returned (.tuple #[.int .u64 ((x*y/18446744073709551616:Nat):Int),.int .u64 ((x*y%18446744073709551616:Nat):Int)])∧w'=w:=Any.bits_Mul Tryz.lays212 x y hx hy w
end Go.Proofs
