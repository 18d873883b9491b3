/-
  Contracts of the library (the shelf) at this seat, laid by program in plain words.
-/
import Derived.Shelf.Spec.BitsCarry
import Derived.Shelf.Small.Bits
import Derived.Shelf.Strconv.Itoa0
import Derived.Shelf.Bits.Mul64
import Derived.Test.YtgpgacnnkjiadaaGreatDoorProg
namespace Go.Proofs.YtgpgacnnkjiadaaGreatDoor.Sh
open Go.Shelf
def lays128_ren : Go.Shelf.Ren := ⟨fun | 128 => 116 | n => n, fun | 51 => 138 | 3 => 3 | 4 => 4 | 46 => 45 | 5 => 5 | 9 => 9 | n => n, fun | n => n⟩
theorem lays128 : Go.Proofs.Lays.n128 Tryz.prog lays128_ren := {
  mixed := by kernel_rfl
  f128 := Tryz.func116.trans (congrArg some (by kernel_rfl))
  t3 := Tryz.underlying3
  a3 := Tryz.isAgg3
  z3 := Tryz.sizeOf3
  v3 := Tryz.zeroValue3
  t4 := Tryz.underlying4
  a4 := Tryz.isAgg4
  z4 := Tryz.sizeOf4
  v4 := Tryz.zeroValue4
  t5 := Tryz.underlying5
  a5 := Tryz.isAgg5
  z5 := Tryz.sizeOf5
  v5 := Tryz.zeroValue5
  t9 := Tryz.underlying9
  a9 := Tryz.isAgg9
  z9 := Tryz.sizeOf9
  v9 := Tryz.zeroValue9
  t46 := Tryz.underlying45
  a46 := Tryz.isAgg45
  z46 := Tryz.sizeOf45
  v46 := Tryz.zeroValue45
  t51 := Tryz.underlying138
  a51 := Tryz.isAgg138
  z51 := Tryz.sizeOf138
  v51 := Tryz.zeroValue138 }
theorem bits_Len32 (x : Int) (w : World) (h0 : 0 ≤ x) (h1 : x ≤ 4294967295) :
    Calls Tryz.prog 116 #[.int .u32 x] w fun e w' => e = .returned (.int .i64 (Lib.bitLen x.toNat)) ∧ w' = w := Any.bits_Len32 lays128 x w h0 h1
def lays125_ren : Go.Shelf.Ren := ⟨fun | 125 => 102 | 128 => 116 | 129 => 117 | n => n, fun | 46 => 45 | 3 => 3 | 51 => 138 | 53 => 56 | 4 => 4 | 5 => 5 | 9 => 9 | n => n, fun | n => n⟩
theorem lays125 : Go.Proofs.Lays.n125 Tryz.prog lays125_ren := {
  mixed := by kernel_rfl
  f125 := Tryz.func102.trans (congrArg some (by kernel_rfl))
  f128 := Tryz.func116.trans (congrArg some (by kernel_rfl))
  f129 := Tryz.func117.trans (congrArg some (by kernel_rfl))
  t3 := Tryz.underlying3
  a3 := Tryz.isAgg3
  z3 := Tryz.sizeOf3
  v3 := Tryz.zeroValue3
  t4 := Tryz.underlying4
  a4 := Tryz.isAgg4
  z4 := Tryz.sizeOf4
  v4 := Tryz.zeroValue4
  t5 := Tryz.underlying5
  a5 := Tryz.isAgg5
  z5 := Tryz.sizeOf5
  v5 := Tryz.zeroValue5
  t9 := Tryz.underlying9
  a9 := Tryz.isAgg9
  z9 := Tryz.sizeOf9
  v9 := Tryz.zeroValue9
  t46 := Tryz.underlying45
  a46 := Tryz.isAgg45
  z46 := Tryz.sizeOf45
  v46 := Tryz.zeroValue45
  t51 := Tryz.underlying138
  a51 := Tryz.isAgg138
  z51 := Tryz.sizeOf138
  v51 := Tryz.zeroValue138
  t53 := Tryz.underlying56
  a53 := Tryz.isAgg56
  z53 := Tryz.sizeOf56
  v53 := Tryz.zeroValue56 }
theorem bits_Len (x : Int) (w : World) (h0 : 0 ≤ x) (h1 : x ≤ 18446744073709551615) :
    Calls Tryz.prog 102 #[.int .u64 x] w fun e w' => e = .returned (.int .i64 (Lib.bitLen x.toNat)) ∧ w' = w := Any.bits_Len lays125 x w h0 h1
def lays134_ren : Go.Shelf.Ren := ⟨fun | 134 => 124 | 129 => 117 | n => n, fun | 53 => 56 | 3 => 3 | 4 => 4 | 46 => 45 | 5 => 5 | 9 => 9 | n => n, fun | n => n⟩
theorem lays134 : Go.Proofs.Lays.n134 Tryz.prog lays134_ren := {
  mixed := by kernel_rfl
  f129 := Tryz.func117.trans (congrArg some (by kernel_rfl))
  f134 := Tryz.func124.trans (congrArg some (by kernel_rfl))
  t3 := Tryz.underlying3
  a3 := Tryz.isAgg3
  z3 := Tryz.sizeOf3
  v3 := Tryz.zeroValue3
  t4 := Tryz.underlying4
  a4 := Tryz.isAgg4
  z4 := Tryz.sizeOf4
  v4 := Tryz.zeroValue4
  t5 := Tryz.underlying5
  a5 := Tryz.isAgg5
  z5 := Tryz.sizeOf5
  v5 := Tryz.zeroValue5
  t9 := Tryz.underlying9
  a9 := Tryz.isAgg9
  z9 := Tryz.sizeOf9
  v9 := Tryz.zeroValue9
  t46 := Tryz.underlying45
  a46 := Tryz.isAgg45
  z46 := Tryz.sizeOf45
  v46 := Tryz.zeroValue45
  t53 := Tryz.underlying56
  a53 := Tryz.isAgg56
  z53 := Tryz.sizeOf56
  v53 := Tryz.zeroValue56 }
theorem bits_LeadingZeros64 (x : Int) (w : World) (h0 : 0 ≤ x) (h1 : x ≤ 18446744073709551615) :
    Calls Tryz.prog 124 #[.int .u64 x] w fun e w' => e = .returned (.int .i64 (64 - (Lib.bitLen x.toNat : Int))) ∧ w' = w := Any.bits_LeadingZeros64 lays134 x w h0 h1
def lays130_ren : Go.Shelf.Ren := ⟨fun | 130 => 82 | 125 => 102 | 128 => 116 | 129 => 117 | n => n, fun | 46 => 45 | 3 => 3 | 51 => 138 | 53 => 56 | 4 => 4 | 5 => 5 | 9 => 9 | n => n, fun | n => n⟩
theorem lays130 : Go.Proofs.Lays.n130 Tryz.prog lays130_ren := {
  mixed := by kernel_rfl
  f125 := Tryz.func102.trans (congrArg some (by kernel_rfl))
  f128 := Tryz.func116.trans (congrArg some (by kernel_rfl))
  f129 := Tryz.func117.trans (congrArg some (by kernel_rfl))
  f130 := Tryz.func82.trans (congrArg some (by kernel_rfl))
  t3 := Tryz.underlying3
  a3 := Tryz.isAgg3
  z3 := Tryz.sizeOf3
  v3 := Tryz.zeroValue3
  t4 := Tryz.underlying4
  a4 := Tryz.isAgg4
  z4 := Tryz.sizeOf4
  v4 := Tryz.zeroValue4
  t5 := Tryz.underlying5
  a5 := Tryz.isAgg5
  z5 := Tryz.sizeOf5
  v5 := Tryz.zeroValue5
  t9 := Tryz.underlying9
  a9 := Tryz.isAgg9
  z9 := Tryz.sizeOf9
  v9 := Tryz.zeroValue9
  t46 := Tryz.underlying45
  a46 := Tryz.isAgg45
  z46 := Tryz.sizeOf45
  v46 := Tryz.zeroValue45
  t51 := Tryz.underlying138
  a51 := Tryz.isAgg138
  z51 := Tryz.sizeOf138
  v51 := Tryz.zeroValue138
  t53 := Tryz.underlying56
  a53 := Tryz.isAgg56
  z53 := Tryz.sizeOf56
  v53 := Tryz.zeroValue56 }
theorem bits_LeadingZeros (x : Int) (w : World) (h0 : 0 ≤ x) (h1 : x ≤ 18446744073709551615) :
    Calls Tryz.prog 82 #[.int .u64 x] w fun e w' => e = .returned (.int .i64 (64 - (Lib.bitLen x.toNat : Int))) ∧ w' = w := Any.bits_LeadingZeros lays130 x w h0 h1
def lays129_ren : Go.Shelf.Ren := ⟨fun | 129 => 117 | n => n, fun | 53 => 56 | 3 => 3 | 4 => 4 | 46 => 45 | 5 => 5 | 9 => 9 | n => n, fun | n => n⟩
theorem lays129 : Go.Proofs.Lays.n129 Tryz.prog lays129_ren := {
  mixed := by kernel_rfl
  f129 := Tryz.func117.trans (congrArg some (by kernel_rfl))
  t3 := Tryz.underlying3
  a3 := Tryz.isAgg3
  z3 := Tryz.sizeOf3
  v3 := Tryz.zeroValue3
  t4 := Tryz.underlying4
  a4 := Tryz.isAgg4
  z4 := Tryz.sizeOf4
  v4 := Tryz.zeroValue4
  t5 := Tryz.underlying5
  a5 := Tryz.isAgg5
  z5 := Tryz.sizeOf5
  v5 := Tryz.zeroValue5
  t9 := Tryz.underlying9
  a9 := Tryz.isAgg9
  z9 := Tryz.sizeOf9
  v9 := Tryz.zeroValue9
  t46 := Tryz.underlying45
  a46 := Tryz.isAgg45
  z46 := Tryz.sizeOf45
  v46 := Tryz.zeroValue45
  t53 := Tryz.underlying56
  a53 := Tryz.isAgg56
  z53 := Tryz.sizeOf56
  v53 := Tryz.zeroValue56 }
theorem bits_Len64 (x : Int) (w : World) (h0 : 0 ≤ x) (h1 : x ≤ 18446744073709551615) :
    Calls Tryz.prog 117 #[.int .u64 x] w fun e w' => e = .returned (.int .i64 (Lib.bitLen x.toNat)) ∧ w' = w := Any.bits_Len64 lays129 x w h0 h1
def lays264_ren : Go.Shelf.Ren := ⟨fun | 264 => 126 | n => n, fun | 53 => 56 | 46 => 45 | n => n, fun | n => n⟩
theorem lays264 : Go.Proofs.Lays.n264 Tryz.prog lays264_ren := {
  mixed := by kernel_rfl
  f264 := Tryz.func126.trans (congrArg some (by kernel_rfl))
  t46 := Tryz.underlying45
  a46 := Tryz.isAgg45
  z46 := Tryz.sizeOf45
  v46 := Tryz.zeroValue45
  t53 := Tryz.underlying56
  a53 := Tryz.isAgg56
  z53 := Tryz.sizeOf56
  v53 := Tryz.zeroValue56 }
open Go.RowKit Go.Lib in
theorem bits_Mul64 (x y : Nat) (hx : x < 18446744073709551616) (hy : y < 18446744073709551616) (w : World) :
    Calls Tryz.prog 126 #[.int .u64 x, .int .u64 y] w fun e w' => e = .returned (.tuple #[.int .u64 ((x * y / 18446744073709551616 : Nat) : Int), .int .u64 ((x * y % 18446744073709551616 : Nat) : Int)]) ∧ w' = w := Any.bits_Mul64 lays264 x y hx hy w
def lays212_ren : Go.Shelf.Ren := ⟨fun | 212 => 114 | 263 => 125 | 264 => 126 | n => n, fun | 46 => 45 | 51 => 138 | 146 => 141 | 53 => 56 | 148 => 133 | n => n, fun | n => n⟩
theorem lays212 : Go.Proofs.Lays.n212 Tryz.prog lays212_ren := {
  mixed := by kernel_rfl
  f212 := Tryz.func114.trans (congrArg some (by kernel_rfl))
  f263 := Tryz.func125.trans (congrArg some (by kernel_rfl))
  f264 := Tryz.func126.trans (congrArg some (by kernel_rfl))
  t46 := Tryz.underlying45
  a46 := Tryz.isAgg45
  z46 := Tryz.sizeOf45
  v46 := Tryz.zeroValue45
  t51 := Tryz.underlying138
  a51 := Tryz.isAgg138
  z51 := Tryz.sizeOf138
  v51 := Tryz.zeroValue138
  t53 := Tryz.underlying56
  a53 := Tryz.isAgg56
  z53 := Tryz.sizeOf56
  v53 := Tryz.zeroValue56
  t146 := Tryz.underlying141
  a146 := Tryz.isAgg141
  z146 := Tryz.sizeOf141
  v146 := Tryz.zeroValue141
  t148 := Tryz.underlying133
  a148 := Tryz.isAgg133
  z148 := Tryz.sizeOf133
  v148 := Tryz.zeroValue133 }
open Go.RowKit Go.Lib in
theorem bits_Mul (x y : Nat) (hx : x < 18446744073709551616) (hy : y < 18446744073709551616) (w : World) :
    Calls Tryz.prog 114 #[.int .u64 x, .int .u64 y] w fun e w' => e = .returned (.tuple #[.int .u64 ((x * y / 18446744073709551616 : Nat) : Int), .int .u64 ((x * y % 18446744073709551616 : Nat) : Int)]) ∧ w' = w := Any.bits_Mul lays212 x y hx hy w
def lays725_ren : Go.Shelf.Ren := ⟨fun | 25 => 120 | n => n, fun | 22 => 56 | n => n, fun | n => n⟩
theorem lays725 : Go.Proofs.Lays7.n25 Tryz.prog lays725_ren := {
  mixed := by kernel_rfl
  f25 := Tryz.func120.trans (congrArg some (by kernel_rfl))
  t22 := Tryz.underlying56
  a22 := Tryz.isAgg56
  z22 := Tryz.sizeOf56
  v22 := Tryz.zeroValue56
  i22 := by kernel_rfl }
theorem bits_Add64 (x y c : Nat) (hc : c ≤ 1) (w : World) : (callFunc 120 #[.int .u64 x, .int .u64 y, .int .u64 c]).run Tryz.prog w = .ok (.value (.tuple #[.int .u64 (((x + y + c) % 18446744073709551616 : Nat) : Int), .int .u64 (((x + y + c) / 18446744073709551616 : Nat) : Int)])) w := Any7.bits_Add64 lays725 x y c hc w
def lays726_ren : Go.Shelf.Ren := ⟨fun | 26 => 122 | n => n, fun | 22 => 56 | n => n, fun | n => n⟩
theorem lays726 : Go.Proofs.Lays7.n26 Tryz.prog lays726_ren := {
  mixed := by kernel_rfl
  f26 := Tryz.func122.trans (congrArg some (by kernel_rfl))
  t22 := Tryz.underlying56
  a22 := Tryz.isAgg56
  z22 := Tryz.sizeOf56
  v22 := Tryz.zeroValue56
  i22 := by kernel_rfl }
theorem bits_Sub64 (x y b : Nat) (hb : b ≤ 1) (w : World) : (callFunc 122 #[.int .u64 x, .int .u64 y, .int .u64 b]).run Tryz.prog w = .ok (.value (.tuple #[.int .u64 (((x + 18446744073709551616 - y - b) % 18446744073709551616 : Nat) : Int), .int .u64 ((if x < y + b then 1 else 0 : Nat) : Int)])) w := Any7.bits_Sub64 lays726 x y b hb w
end Go.Proofs.YtgpgacnnkjiadaaGreatDoor.Sh
