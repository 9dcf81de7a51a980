/-
  b1844aD: the shelf's contracts at this dump, in plain words (written for this program by the kit's lay-shelf and lay-plain tools; remarks struck): Builder.String, bits.LeadingZeros64, Len64, Mul64.
-/
import Derived.Shelf.Strings.Builder1
import Derived.Shelf.Small.Bits
import Derived.Shelf.Strconv.Itoa0
import Derived.Shelf.Bits.Mul64
import Derived.Test.YbulkaldyDoorProg
namespace Go.Proofs
open Go.Shelf
def Ybad.lays169_ren : Go.Shelf.Ren := ⟨fun | 169 => 15 | n => n, fun | 70 => 38 | 9 => 9 | 0 => 0 | 72 => 40 | 37 => 22 | 127 => 46 | 3 => 3 | 5 => 5 | n => n, fun | n => n⟩
theorem Ybad.lays169 : Go.Proofs.Lays.n169 Ybad.prog Ybad.lays169_ren := {
  mixed := by kernel_rfl
  f169 := Ybad.func15.trans (congrArg some (by kernel_rfl))
  t0 := Ybad.underlying0
  a0 := Ybad.isAgg0
  z0 := Ybad.sizeOf0
  v0 := Ybad.zeroValue0
  t3 := Ybad.underlying3
  a3 := Ybad.isAgg3
  z3 := Ybad.sizeOf3
  v3 := Ybad.zeroValue3
  t9 := Ybad.underlying9
  a9 := Ybad.isAgg9
  z9 := Ybad.sizeOf9
  v9 := Ybad.zeroValue9
  t37 := Ybad.underlying22
  a37 := Ybad.isAgg22
  z37 := Ybad.sizeOf22
  v37 := Ybad.zeroValue22
  t70 := Ybad.underlying38
  a70 := Ybad.isAgg38
  z70 := Ybad.sizeOf38
  v70 := Ybad.zeroValue38
  t72 := Ybad.underlying40
  a72 := Ybad.isAgg40
  z72 := Ybad.sizeOf40
  v72 := Ybad.zeroValue40
  t127 := Ybad.underlying46
  a127 := Ybad.isAgg46
  z127 := Ybad.sizeOf46
  v127 := Ybad.zeroValue46 }
theorem Ybad.Builder_Extra_169 : Builder.Extra Ybad.prog Ybad.lays169_ren := {
  sizeBuilder := by kernel_rfl
  liesBuilder := by kernel_rfl
  t5 := Ybad.underlying5
  a5 := Ybad.isAgg5
  z5 := Ybad.sizeOf5
  v5 := Ybad.zeroValue5
  infoByte := by kernel_rfl
  cellsByte := by kernel_rfl
  sizeByte := by kernel_rfl
  neB5 := by decide }
open Go.RowKit in
theorem Ybad.Builder_String_any (B b : Nat) (l : List UInt8) (w : World) (h : Lib.IsBuilder 40 5 B b (Lib.byteCells l) w) (hBw : B ≤ w.heap.size) :
    Calls Ybad.prog 15 #[.pointer (some ⟨b, 0, none⟩)] w fun e w' => e = .returned (.string ⟨l.toArray⟩) ∧ Below B w w' := Any.Builder_String_any Ybad.lays169 Ybad.Builder_Extra_169 B b l w h hBw
def Ybad.lays134_ren : Go.Shelf.Ren := ⟨fun | 134 => 16 | 129 => 18 | n => n, fun | 53 => 23 | 3 => 3 | 4 => 4 | 46 => 44 | 5 => 5 | 9 => 9 | n => n, fun | n => n⟩
theorem Ybad.lays134 : Go.Proofs.Lays.n134 Ybad.prog Ybad.lays134_ren := {
  mixed := by kernel_rfl
  f129 := Ybad.func18.trans (congrArg some (by kernel_rfl))
  f134 := Ybad.func16.trans (congrArg some (by kernel_rfl))
  t3 := Ybad.underlying3
  a3 := Ybad.isAgg3
  z3 := Ybad.sizeOf3
  v3 := Ybad.zeroValue3
  t4 := Ybad.underlying4
  a4 := Ybad.isAgg4
  z4 := Ybad.sizeOf4
  v4 := Ybad.zeroValue4
  t5 := Ybad.underlying5
  a5 := Ybad.isAgg5
  z5 := Ybad.sizeOf5
  v5 := Ybad.zeroValue5
  t9 := Ybad.underlying9
  a9 := Ybad.isAgg9
  z9 := Ybad.sizeOf9
  v9 := Ybad.zeroValue9
  t46 := Ybad.underlying44
  a46 := Ybad.isAgg44
  z46 := Ybad.sizeOf44
  v46 := Ybad.zeroValue44
  t53 := Ybad.underlying23
  a53 := Ybad.isAgg23
  z53 := Ybad.sizeOf23
  v53 := Ybad.zeroValue23 }
theorem Ybad.bits_LeadingZeros64 (x : Int) (w : World) (h0 : 0 ≤ x) (h1 : x ≤ 18446744073709551615) :
    Calls Ybad.prog 16 #[.int .u64 x] w fun e w' => e = .returned (.int .i64 (64 - (Lib.bitLen x.toNat : Int))) ∧ w' = w := Any.bits_LeadingZeros64 Ybad.lays134 x w h0 h1
def Ybad.lays129_ren : Go.Shelf.Ren := ⟨fun | 129 => 18 | n => n, fun | 53 => 23 | 3 => 3 | 4 => 4 | 46 => 44 | 5 => 5 | 9 => 9 | n => n, fun | n => n⟩
theorem Ybad.lays129 : Go.Proofs.Lays.n129 Ybad.prog Ybad.lays129_ren := {
  mixed := by kernel_rfl
  f129 := Ybad.func18.trans (congrArg some (by kernel_rfl))
  t3 := Ybad.underlying3
  a3 := Ybad.isAgg3
  z3 := Ybad.sizeOf3
  v3 := Ybad.zeroValue3
  t4 := Ybad.underlying4
  a4 := Ybad.isAgg4
  z4 := Ybad.sizeOf4
  v4 := Ybad.zeroValue4
  t5 := Ybad.underlying5
  a5 := Ybad.isAgg5
  z5 := Ybad.sizeOf5
  v5 := Ybad.zeroValue5
  t9 := Ybad.underlying9
  a9 := Ybad.isAgg9
  z9 := Ybad.sizeOf9
  v9 := Ybad.zeroValue9
  t46 := Ybad.underlying44
  a46 := Ybad.isAgg44
  z46 := Ybad.sizeOf44
  v46 := Ybad.zeroValue44
  t53 := Ybad.underlying23
  a53 := Ybad.isAgg23
  z53 := Ybad.sizeOf23
  v53 := Ybad.zeroValue23 }
theorem Ybad.bits_Len64 (x : Int) (w : World) (h0 : 0 ≤ x) (h1 : x ≤ 18446744073709551615) :
    Calls Ybad.prog 18 #[.int .u64 x] w fun e w' => e = .returned (.int .i64 (Lib.bitLen x.toNat)) ∧ w' = w := Any.bits_Len64 Ybad.lays129 x w h0 h1
def Ybad.lays264_ren : Go.Shelf.Ren := ⟨fun | 264 => 10 | n => n, fun | 53 => 23 | 46 => 44 | n => n, fun | n => n⟩
theorem Ybad.lays264 : Go.Proofs.Lays.n264 Ybad.prog Ybad.lays264_ren := {
  mixed := by kernel_rfl
  f264 := Ybad.func10.trans (congrArg some (by kernel_rfl))
  t46 := Ybad.underlying44
  a46 := Ybad.isAgg44
  z46 := Ybad.sizeOf44
  v46 := Ybad.zeroValue44
  t53 := Ybad.underlying23
  a53 := Ybad.isAgg23
  z53 := Ybad.sizeOf23
  v53 := Ybad.zeroValue23 }
open Go.RowKit Go.Lib in
theorem Ybad.bits_Mul64 (x y : Nat) (hx : x < 18446744073709551616) (hy : y < 18446744073709551616) (w : World) :
    Calls Ybad.prog 10 #[.int .u64 x, .int .u64 y] w fun e w' => e = .returned (.tuple #[.int .u64 ((x * y / 18446744073709551616 : Nat) : Int), .int .u64 ((x * y % 18446744073709551616 : Nat) : Int)]) ∧ w' = w := Any.bits_Mul64 Ybad.lays264 x y hx hy w
end Go.Proofs
