import Derived.Shelf.Strconv.Itoa0
import Derived.Test.YbulkajrsDoorRows
namespace Go.Proofs.YbulkajrsDoor
open Go.Shelf
def lays129_ren : Go.Shelf.Ren := ⟨fun | 129 => 30 | n => n, fun | 53 => 22 | 3 => 3 | 4 => 4 | 46 => 25 | 5 => 5 | 9 => 9 | n => n, fun | n => n⟩
theorem lays129 : Go.Proofs.Lays.n129 Ybad.prog lays129_ren := {
  mixed := by kernel_rfl
  f129 := Ybad.func30.trans (congrArg some (by kernel_rfl))
  t3 := Ybad.underlying3
  a3 := Ybad.isAgg3
  z3 := Ybad.sizeOf3
  v3 := Ybad.zeroValue3
  t4 := Ybad.underlying4
  a4 := Ybad.isAgg4
  z4 := Ybad.sizeOf4
  v4 := Ybad.zeroValue4
  t5 := Ybad.underlying5
  a5 := Ybad.isAgg5
  z5 := Ybad.sizeOf5
  v5 := Ybad.zeroValue5
  t9 := Ybad.underlying9
  a9 := Ybad.isAgg9
  z9 := Ybad.sizeOf9
  v9 := Ybad.zeroValue9
  t46 := Ybad.underlying25
  a46 := Ybad.isAgg25
  z46 := Ybad.sizeOf25
  v46 := Ybad.zeroValue25
  t53 := Ybad.underlying22
  a53 := Ybad.isAgg22
  z53 := Ybad.sizeOf22
  v53 := Ybad.zeroValue22 }
/-- math/bits.Len64, by the shelf's contract. -/
theorem len64_any (x : Int) (w : World) (h0 : 0 ≤ x) (h1 : x ≤ 18446744073709551615) :
    Calls Ybad.prog 30 #[.int .u64 x] w fun e w' => e = .returned (.int .i64 (Lib.bitLen x.toNat)) ∧ w' = w := Any.bits_Len64 lays129 x w h0 h1
end Go.Proofs.YbulkajrsDoor
