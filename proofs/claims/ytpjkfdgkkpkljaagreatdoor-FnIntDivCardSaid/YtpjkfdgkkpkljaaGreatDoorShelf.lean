/-
  The kit's contracts of the library's functions, laid at this translation's own numbers (written by the kit's tools lay-shelf and lay-plain).
-/
import Derived.Shelf.Small.Bits
import Derived.Shelf.Strconv.Itoa0
import Derived.Shelf.Bits.Mul64
import Derived.Test.YtpjkfdgkkpkljaaGreatDoorProg
namespace Go.Proofs
open Go.Shelf
def Tryz.lays128_ren : Go.Shelf.Ren := ⟨fun | 128 => 140 | n => n, fun | 51 => 39 | 3 => 3 | 4 => 4 | 46 => 77 | 5 => 5 | 9 => 9 | n => n, fun | n => n⟩
theorem Tryz.lays128 : Go.Proofs.Lays.n128 Tryz.prog Tryz.lays128_ren := {
  mixed := by kernel_rfl
  f128 := Tryz.func140.trans (congrArg some (by kernel_rfl))
  t3 := Tryz.underlying3
  a3 := Tryz.isAgg3
  z3 := Tryz.sizeOf3
  v3 := Tryz.zeroValue3
  t4 := Tryz.underlying4
  a4 := Tryz.isAgg4
  z4 := Tryz.sizeOf4
  v4 := Tryz.zeroValue4
  t5 := Tryz.underlying5
  a5 := Tryz.isAgg5
  z5 := Tryz.sizeOf5
  v5 := Tryz.zeroValue5
  t9 := Tryz.underlying9
  a9 := Tryz.isAgg9
  z9 := Tryz.sizeOf9
  v9 := Tryz.zeroValue9
  t46 := Tryz.underlying77
  a46 := Tryz.isAgg77
  z46 := Tryz.sizeOf77
  v46 := Tryz.zeroValue77
  t51 := Tryz.underlying39
  a51 := Tryz.isAgg39
  z51 := Tryz.sizeOf39
  v51 := Tryz.zeroValue39 }
theorem Tryz.bits_Len32 (x : Int) (w : World) (h0 : 0 ≤ x) (h1 : x ≤ 4294967295) :
    Calls Tryz.prog 140 #[.int .u32 x] w fun e w' => e = .returned (.int .i64 (Lib.bitLen x.toNat)) ∧ w' = w := Any.bits_Len32 Tryz.lays128 x w h0 h1
def Tryz.lays125_ren : Go.Shelf.Ren := ⟨fun | 125 => 117 | 128 => 140 | 129 => 141 | n => n, fun | 46 => 77 | 3 => 3 | 51 => 39 | 53 => 25 | 4 => 4 | 5 => 5 | 9 => 9 | n => n, fun | n => n⟩
theorem Tryz.lays125 : Go.Proofs.Lays.n125 Tryz.prog Tryz.lays125_ren := {
  mixed := by kernel_rfl
  f125 := Tryz.func117.trans (congrArg some (by kernel_rfl))
  f128 := Tryz.func140.trans (congrArg some (by kernel_rfl))
  f129 := Tryz.func141.trans (congrArg some (by kernel_rfl))
  t3 := Tryz.underlying3
  a3 := Tryz.isAgg3
  z3 := Tryz.sizeOf3
  v3 := Tryz.zeroValue3
  t4 := Tryz.underlying4
  a4 := Tryz.isAgg4
  z4 := Tryz.sizeOf4
  v4 := Tryz.zeroValue4
  t5 := Tryz.underlying5
  a5 := Tryz.isAgg5
  z5 := Tryz.sizeOf5
  v5 := Tryz.zeroValue5
  t9 := Tryz.underlying9
  a9 := Tryz.isAgg9
  z9 := Tryz.sizeOf9
  v9 := Tryz.zeroValue9
  t46 := Tryz.underlying77
  a46 := Tryz.isAgg77
  z46 := Tryz.sizeOf77
  v46 := Tryz.zeroValue77
  t51 := Tryz.underlying39
  a51 := Tryz.isAgg39
  z51 := Tryz.sizeOf39
  v51 := Tryz.zeroValue39
  t53 := Tryz.underlying25
  a53 := Tryz.isAgg25
  z53 := Tryz.sizeOf25
  v53 := Tryz.zeroValue25 }
theorem Tryz.bits_Len (x : Int) (w : World) (h0 : 0 ≤ x) (h1 : x ≤ 18446744073709551615) :
    Calls Tryz.prog 117 #[.int .u64 x] w fun e w' => e = .returned (.int .i64 (Lib.bitLen x.toNat)) ∧ w' = w := Any.bits_Len Tryz.lays125 x w h0 h1
def Tryz.lays134_ren : Go.Shelf.Ren := ⟨fun | 134 => 156 | 129 => 141 | n => n, fun | 53 => 25 | 3 => 3 | 4 => 4 | 46 => 77 | 5 => 5 | 9 => 9 | n => n, fun | n => n⟩
theorem Tryz.lays134 : Go.Proofs.Lays.n134 Tryz.prog Tryz.lays134_ren := {
  mixed := by kernel_rfl
  f129 := Tryz.func141.trans (congrArg some (by kernel_rfl))
  f134 := Tryz.func156.trans (congrArg some (by kernel_rfl))
  t3 := Tryz.underlying3
  a3 := Tryz.isAgg3
  z3 := Tryz.sizeOf3
  v3 := Tryz.zeroValue3
  t4 := Tryz.underlying4
  a4 := Tryz.isAgg4
  z4 := Tryz.sizeOf4
  v4 := Tryz.zeroValue4
  t5 := Tryz.underlying5
  a5 := Tryz.isAgg5
  z5 := Tryz.sizeOf5
  v5 := Tryz.zeroValue5
  t9 := Tryz.underlying9
  a9 := Tryz.isAgg9
  z9 := Tryz.sizeOf9
  v9 := Tryz.zeroValue9
  t46 := Tryz.underlying77
  a46 := Tryz.isAgg77
  z46 := Tryz.sizeOf77
  v46 := Tryz.zeroValue77
  t53 := Tryz.underlying25
  a53 := Tryz.isAgg25
  z53 := Tryz.sizeOf25
  v53 := Tryz.zeroValue25 }
theorem Tryz.bits_LeadingZeros64 (x : Int) (w : World) (h0 : 0 ≤ x) (h1 : x ≤ 18446744073709551615) :
    Calls Tryz.prog 156 #[.int .u64 x] w fun e w' => e = .returned (.int .i64 (64 - (Lib.bitLen x.toNat : Int))) ∧ w' = w := Any.bits_LeadingZeros64 Tryz.lays134 x w h0 h1
def Tryz.lays130_ren : Go.Shelf.Ren := ⟨fun | 130 => 123 | 125 => 117 | 128 => 140 | 129 => 141 | n => n, fun | 46 => 77 | 3 => 3 | 51 => 39 | 53 => 25 | 4 => 4 | 5 => 5 | 9 => 9 | n => n, fun | n => n⟩
theorem Tryz.lays130 : Go.Proofs.Lays.n130 Tryz.prog Tryz.lays130_ren := {
  mixed := by kernel_rfl
  f125 := Tryz.func117.trans (congrArg some (by kernel_rfl))
  f128 := Tryz.func140.trans (congrArg some (by kernel_rfl))
  f129 := Tryz.func141.trans (congrArg some (by kernel_rfl))
  f130 := Tryz.func123.trans (congrArg some (by kernel_rfl))
  t3 := Tryz.underlying3
  a3 := Tryz.isAgg3
  z3 := Tryz.sizeOf3
  v3 := Tryz.zeroValue3
  t4 := Tryz.underlying4
  a4 := Tryz.isAgg4
  z4 := Tryz.sizeOf4
  v4 := Tryz.zeroValue4
  t5 := Tryz.underlying5
  a5 := Tryz.isAgg5
  z5 := Tryz.sizeOf5
  v5 := Tryz.zeroValue5
  t9 := Tryz.underlying9
  a9 := Tryz.isAgg9
  z9 := Tryz.sizeOf9
  v9 := Tryz.zeroValue9
  t46 := Tryz.underlying77
  a46 := Tryz.isAgg77
  z46 := Tryz.sizeOf77
  v46 := Tryz.zeroValue77
  t51 := Tryz.underlying39
  a51 := Tryz.isAgg39
  z51 := Tryz.sizeOf39
  v51 := Tryz.zeroValue39
  t53 := Tryz.underlying25
  a53 := Tryz.isAgg25
  z53 := Tryz.sizeOf25
  v53 := Tryz.zeroValue25 }
theorem Tryz.bits_LeadingZeros (x : Int) (w : World) (h0 : 0 ≤ x) (h1 : x ≤ 18446744073709551615) :
    Calls Tryz.prog 123 #[.int .u64 x] w fun e w' => e = .returned (.int .i64 (64 - (Lib.bitLen x.toNat : Int))) ∧ w' = w := Any.bits_LeadingZeros Tryz.lays130 x w h0 h1
def Tryz.lays129_ren : Go.Shelf.Ren := ⟨fun | 129 => 141 | n => n, fun | 53 => 25 | 3 => 3 | 4 => 4 | 46 => 77 | 5 => 5 | 9 => 9 | n => n, fun | n => n⟩
theorem Tryz.lays129 : Go.Proofs.Lays.n129 Tryz.prog Tryz.lays129_ren := {
  mixed := by kernel_rfl
  f129 := Tryz.func141.trans (congrArg some (by kernel_rfl))
  t3 := Tryz.underlying3
  a3 := Tryz.isAgg3
  z3 := Tryz.sizeOf3
  v3 := Tryz.zeroValue3
  t4 := Tryz.underlying4
  a4 := Tryz.isAgg4
  z4 := Tryz.sizeOf4
  v4 := Tryz.zeroValue4
  t5 := Tryz.underlying5
  a5 := Tryz.isAgg5
  z5 := Tryz.sizeOf5
  v5 := Tryz.zeroValue5
  t9 := Tryz.underlying9
  a9 := Tryz.isAgg9
  z9 := Tryz.sizeOf9
  v9 := Tryz.zeroValue9
  t46 := Tryz.underlying77
  a46 := Tryz.isAgg77
  z46 := Tryz.sizeOf77
  v46 := Tryz.zeroValue77
  t53 := Tryz.underlying25
  a53 := Tryz.isAgg25
  z53 := Tryz.sizeOf25
  v53 := Tryz.zeroValue25 }
theorem Tryz.bits_Len64 (x : Int) (w : World) (h0 : 0 ≤ x) (h1 : x ≤ 18446744073709551615) :
    Calls Tryz.prog 141 #[.int .u64 x] w fun e w' => e = .returned (.int .i64 (Lib.bitLen x.toNat)) ∧ w' = w := Any.bits_Len64 Tryz.lays129 x w h0 h1
def Tryz.lays264_ren : Go.Shelf.Ren := ⟨fun | 264 => 158 | n => n, fun | 53 => 25 | 46 => 77 | n => n, fun | n => n⟩
theorem Tryz.lays264 : Go.Proofs.Lays.n264 Tryz.prog Tryz.lays264_ren := {
  mixed := by kernel_rfl
  f264 := Tryz.func158.trans (congrArg some (by kernel_rfl))
  t46 := Tryz.underlying77
  a46 := Tryz.isAgg77
  z46 := Tryz.sizeOf77
  v46 := Tryz.zeroValue77
  t53 := Tryz.underlying25
  a53 := Tryz.isAgg25
  z53 := Tryz.sizeOf25
  v53 := Tryz.zeroValue25 }
open Go.RowKit Go.Lib in
theorem Tryz.bits_Mul64 (x y : Nat) (hx : x < 18446744073709551616) (hy : y < 18446744073709551616) (w : World) :
    Calls Tryz.prog 158 #[.int .u64 x, .int .u64 y] w fun e w' => e = .returned (.tuple #[.int .u64 ((x * y / 18446744073709551616 : Nat) : Int), .int .u64 ((x * y % 18446744073709551616 : Nat) : Int)]) ∧ w' = w := Any.bits_Mul64 Tryz.lays264 x y hx hy w
def Tryz.lays212_ren : Go.Shelf.Ren := ⟨fun | 212 => 143 | 263 => 157 | 264 => 158 | n => n, fun | 46 => 77 | 51 => 39 | 146 => 156 | 53 => 25 | 148 => 158 | n => n, fun | n => n⟩
theorem Tryz.lays212 : Go.Proofs.Lays.n212 Tryz.prog Tryz.lays212_ren := {
  mixed := by kernel_rfl
  f212 := Tryz.func143.trans (congrArg some (by kernel_rfl))
  f263 := Tryz.func157.trans (congrArg some (by kernel_rfl))
  f264 := Tryz.func158.trans (congrArg some (by kernel_rfl))
  t46 := Tryz.underlying77
  a46 := Tryz.isAgg77
  z46 := Tryz.sizeOf77
  v46 := Tryz.zeroValue77
  t51 := Tryz.underlying39
  a51 := Tryz.isAgg39
  z51 := Tryz.sizeOf39
  v51 := Tryz.zeroValue39
  t53 := Tryz.underlying25
  a53 := Tryz.isAgg25
  z53 := Tryz.sizeOf25
  v53 := Tryz.zeroValue25
  t146 := Tryz.underlying156
  a146 := Tryz.isAgg156
  z146 := Tryz.sizeOf156
  v146 := Tryz.zeroValue156
  t148 := Tryz.underlying158
  a148 := Tryz.isAgg158
  z148 := Tryz.sizeOf158
  v148 := Tryz.zeroValue158 }
open Go.RowKit Go.Lib in
theorem Tryz.bits_Mul (x y : Nat) (hx : x < 18446744073709551616) (hy : y < 18446744073709551616) (w : World) :
    Calls Tryz.prog 143 #[.int .u64 x, .int .u64 y] w fun e w' => e = .returned (.tuple #[.int .u64 ((x * y / 18446744073709551616 : Nat) : Int), .int .u64 ((x * y % 18446744073709551616 : Nat) : Int)]) ∧ w' = w := Any.bits_Mul Tryz.lays212 x y hx hy w
end Go.Proofs
