/- Contracts of math/bits off the shelf, laid at this program: Mul, LeadingZeros. -/
import Derived.Shelf.Small.Bits
import Derived.Shelf.Bits.Mul64
import Derived.Test.YtfbbkngonohlkaaGreatDoorProg
namespace Go.Proofs
open Go.Shelf
def Tryz.lays264_ren : Go.Shelf.Ren := ⟨fun | 264 => 272 | n => n, fun | 53 => 22 | 46 => 27 | n => n, fun | n => n⟩
theorem Tryz.lays264 : Go.Proofs.Lays.n264 Tryz.prog Tryz.lays264_ren := {
  mixed := by kernel_rfl
  f264 := Tryz.func272.trans (congrArg some (by kernel_rfl))
  t46 := Tryz.underlying27
  a46 := Tryz.isAgg27
  z46 := Tryz.sizeOf27
  v46 := Tryz.zeroValue27
  t53 := Tryz.underlying22
  a53 := Tryz.isAgg22
  z53 := Tryz.sizeOf22
  v53 := Tryz.zeroValue22 }
open Go.RowKit Go.Lib in
theorem Tryz.bits_Mul64 (x y : Nat) (hx : x < 18446744073709551616) (hy : y < 18446744073709551616) (w : World) :
    Calls Tryz.prog 272 #[.int .u64 x, .int .u64 y] w fun e w' => e = .returned (.tuple #[.int .u64 ((x * y / 18446744073709551616 : Nat) : Int), .int .u64 ((x * y % 18446744073709551616 : Nat) : Int)]) ∧ w' = w := Any.bits_Mul64 Tryz.lays264 x y hx hy w
def Tryz.lays212_ren : Go.Shelf.Ren := ⟨fun | 212 => 246 | 263 => 271 | 264 => 272 | n => n, fun | 46 => 27 | 51 => 146 | 146 => 329 | 53 => 22 | 148 => 331 | n => n, fun | n => n⟩
theorem Tryz.lays212 : Go.Proofs.Lays.n212 Tryz.prog Tryz.lays212_ren := {
  mixed := by kernel_rfl
  f212 := Tryz.func246.trans (congrArg some (by kernel_rfl))
  f263 := Tryz.func271.trans (congrArg some (by kernel_rfl))
  f264 := Tryz.func272.trans (congrArg some (by kernel_rfl))
  t46 := Tryz.underlying27
  a46 := Tryz.isAgg27
  z46 := Tryz.sizeOf27
  v46 := Tryz.zeroValue27
  t51 := Tryz.underlying146
  a51 := Tryz.isAgg146
  z51 := Tryz.sizeOf146
  v51 := Tryz.zeroValue146
  t53 := Tryz.underlying22
  a53 := Tryz.isAgg22
  z53 := Tryz.sizeOf22
  v53 := Tryz.zeroValue22
  t146 := Tryz.underlying329
  a146 := Tryz.isAgg329
  z146 := Tryz.sizeOf329
  v146 := Tryz.zeroValue329
  t148 := Tryz.underlying331
  a148 := Tryz.isAgg331
  z148 := Tryz.sizeOf331
  v148 := Tryz.zeroValue331 }
open Go.RowKit Go.Lib in
theorem Tryz.bits_Mul (x y : Nat) (hx : x < 18446744073709551616) (hy : y < 18446744073709551616) (w : World) :
    Calls Tryz.prog 246 #[.int .u64 x, .int .u64 y] w fun e w' => e = .returned (.tuple #[.int .u64 ((x * y / 18446744073709551616 : Nat) : Int), .int .u64 ((x * y % 18446744073709551616 : Nat) : Int)]) ∧ w' = w := Any.bits_Mul Tryz.lays212 x y hx hy w
def Tryz.lays134_ren : Go.Shelf.Ren := ⟨fun | 134 => 277 | 129 => 270 | n => n, fun | 53 => 22 | 3 => 3 | 4 => 4 | 46 => 27 | 5 => 5 | 9 => 9 | n => n, fun | n => n⟩
theorem Tryz.lays134 : Go.Proofs.Lays.n134 Tryz.prog Tryz.lays134_ren := {
  mixed := by kernel_rfl
  f129 := Tryz.func270.trans (congrArg some (by kernel_rfl))
  f134 := Tryz.func277.trans (congrArg some (by kernel_rfl))
  t3 := Tryz.underlying3
  a3 := Tryz.isAgg3
  z3 := Tryz.sizeOf3
  v3 := Tryz.zeroValue3
  t4 := Tryz.underlying4
  a4 := Tryz.isAgg4
  z4 := Tryz.sizeOf4
  v4 := Tryz.zeroValue4
  t5 := Tryz.underlying5
  a5 := Tryz.isAgg5
  z5 := Tryz.sizeOf5
  v5 := Tryz.zeroValue5
  t9 := Tryz.underlying9
  a9 := Tryz.isAgg9
  z9 := Tryz.sizeOf9
  v9 := Tryz.zeroValue9
  t46 := Tryz.underlying27
  a46 := Tryz.isAgg27
  z46 := Tryz.sizeOf27
  v46 := Tryz.zeroValue27
  t53 := Tryz.underlying22
  a53 := Tryz.isAgg22
  z53 := Tryz.sizeOf22
  v53 := Tryz.zeroValue22 }
theorem Tryz.bits_LeadingZeros64 (x : Int) (w : World) (h0 : 0 ≤ x) (h1 : x ≤ 18446744073709551615) :
    Calls Tryz.prog 277 #[.int .u64 x] w fun e w' => e = .returned (.int .i64 (64 - (Lib.bitLen x.toNat : Int))) ∧ w' = w := Any.bits_LeadingZeros64 Tryz.lays134 x w h0 h1
def Tryz.lays130_ren : Go.Shelf.Ren := ⟨fun | 130 => 208 | 125 => 245 | 128 => 269 | 129 => 270 | n => n, fun | 46 => 27 | 3 => 3 | 51 => 146 | 53 => 22 | 4 => 4 | 5 => 5 | 9 => 9 | n => n, fun | n => n⟩
theorem Tryz.lays130 : Go.Proofs.Lays.n130 Tryz.prog Tryz.lays130_ren := {
  mixed := by kernel_rfl
  f125 := Tryz.func245.trans (congrArg some (by kernel_rfl))
  f128 := Tryz.func269.trans (congrArg some (by kernel_rfl))
  f129 := Tryz.func270.trans (congrArg some (by kernel_rfl))
  f130 := Tryz.func208.trans (congrArg some (by kernel_rfl))
  t3 := Tryz.underlying3
  a3 := Tryz.isAgg3
  z3 := Tryz.sizeOf3
  v3 := Tryz.zeroValue3
  t4 := Tryz.underlying4
  a4 := Tryz.isAgg4
  z4 := Tryz.sizeOf4
  v4 := Tryz.zeroValue4
  t5 := Tryz.underlying5
  a5 := Tryz.isAgg5
  z5 := Tryz.sizeOf5
  v5 := Tryz.zeroValue5
  t9 := Tryz.underlying9
  a9 := Tryz.isAgg9
  z9 := Tryz.sizeOf9
  v9 := Tryz.zeroValue9
  t46 := Tryz.underlying27
  a46 := Tryz.isAgg27
  z46 := Tryz.sizeOf27
  v46 := Tryz.zeroValue27
  t51 := Tryz.underlying146
  a51 := Tryz.isAgg146
  z51 := Tryz.sizeOf146
  v51 := Tryz.zeroValue146
  t53 := Tryz.underlying22
  a53 := Tryz.isAgg22
  z53 := Tryz.sizeOf22
  v53 := Tryz.zeroValue22 }
theorem Tryz.bits_LeadingZeros (x : Int) (w : World) (h0 : 0 ≤ x) (h1 : x ≤ 18446744073709551615) :
    Calls Tryz.prog 208 #[.int .u64 x] w fun e w' => e = .returned (.int .i64 (64 - (Lib.bitLen x.toNat : Int))) ∧ w' = w := Any.bits_LeadingZeros Tryz.lays130 x w h0 h1
end Go.Proofs
