/- Contracts of Go's library at this translation, as the kit's tool wrote them (plain form), remarks struck. -/
import Derived.Shelf.Small.Bits
import Derived.Shelf.Strconv.Itoa0
import Derived.Test.YthlhcfjpijilaaaDoorProg
namespace Go.Proofs
open Go.Shelf
def Tryd.lays125_ren : Go.Shelf.Ren := ⟨fun | 125 => 42 | 128 => 45 | 129 => 46 | n => n, fun | 46 => 101 | 3 => 3 | 51 => 108 | 53 => 119 | 4 => 4 | 5 => 5 | 9 => 9 | n => n, fun | n => n⟩
theorem Tryd.lays125 : Go.Proofs.Lays.n125 Tryd.prog Tryd.lays125_ren := {
  mixed := by kernel_rfl
  f125 := Tryd.func42.trans (congrArg some (by kernel_rfl))
  f128 := Tryd.func45.trans (congrArg some (by kernel_rfl))
  f129 := Tryd.func46.trans (congrArg some (by kernel_rfl))
  t3 := Tryd.underlying3
  a3 := Tryd.isAgg3
  z3 := Tryd.sizeOf3
  v3 := Tryd.zeroValue3
  t4 := Tryd.underlying4
  a4 := Tryd.isAgg4
  z4 := Tryd.sizeOf4
  v4 := Tryd.zeroValue4
  t5 := Tryd.underlying5
  a5 := Tryd.isAgg5
  z5 := Tryd.sizeOf5
  v5 := Tryd.zeroValue5
  t9 := Tryd.underlying9
  a9 := Tryd.isAgg9
  z9 := Tryd.sizeOf9
  v9 := Tryd.zeroValue9
  t46 := Tryd.underlying101
  a46 := Tryd.isAgg101
  z46 := Tryd.sizeOf101
  v46 := Tryd.zeroValue101
  t51 := Tryd.underlying108
  a51 := Tryd.isAgg108
  z51 := Tryd.sizeOf108
  v51 := Tryd.zeroValue108
  t53 := Tryd.underlying119
  a53 := Tryd.isAgg119
  z53 := Tryd.sizeOf119
  v53 := Tryd.zeroValue119 }
theorem Tryd.bits_Len (x : Int) (w : World) (h0 : 0 ≤ x) (h1 : x ≤ 18446744073709551615) :
    Calls Tryd.prog 42 #[.int .u64 x] w fun e w' => e = .returned (.int .i64 (Lib.bitLen x.toNat)) ∧ w' = w := Any.bits_Len Tryd.lays125 x w h0 h1
end Go.Proofs
