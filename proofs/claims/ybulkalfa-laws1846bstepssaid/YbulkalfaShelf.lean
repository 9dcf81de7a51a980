/-
  b1846a: the shelf's contract of bits.Len64 at this dump, in plain words (written for this program by the kit's lay-shelf and lay-plain tools; remarks struck).
-/
import Derived.Shelf.Strconv.Itoa0
import Derived.Test.YbulkalfaProg
namespace Go.Proofs
open Go.Shelf
def Yba.lays129_ren : Go.Shelf.Ren := ⟨fun | 129 => 11 | n => n, fun | 53 => 23 | 3 => 3 | 4 => 4 | 46 => 40 | 5 => 5 | 9 => 9 | n => n, fun | n => n⟩
theorem Yba.lays129 : Go.Proofs.Lays.n129 Yba.prog Yba.lays129_ren := {
  mixed := by kernel_rfl
  f129 := Yba.func11.trans (congrArg some (by kernel_rfl))
  t3 := Yba.underlying3
  a3 := Yba.isAgg3
  z3 := Yba.sizeOf3
  v3 := Yba.zeroValue3
  t4 := Yba.underlying4
  a4 := Yba.isAgg4
  z4 := Yba.sizeOf4
  v4 := Yba.zeroValue4
  t5 := Yba.underlying5
  a5 := Yba.isAgg5
  z5 := Yba.sizeOf5
  v5 := Yba.zeroValue5
  t9 := Yba.underlying9
  a9 := Yba.isAgg9
  z9 := Yba.sizeOf9
  v9 := Yba.zeroValue9
  t46 := Yba.underlying40
  a46 := Yba.isAgg40
  z46 := Yba.sizeOf40
  v46 := Yba.zeroValue40
  t53 := Yba.underlying23
  a53 := Yba.isAgg23
  z53 := Yba.sizeOf23
  v53 := Yba.zeroValue23 }
theorem Yba.bits_Len64 (x : Int) (w : World) (h0 : 0 ≤ x) (h1 : x ≤ 18446744073709551615) :
    Calls Yba.prog 11 #[.int .u64 x] w fun e w' => e = .returned (.int .i64 (Lib.bitLen x.toNat)) ∧ w' = w := Any.bits_Len64 Yba.lays129 x w h0 h1
end Go.Proofs
