/-
  Contracts of the library (the shelf) at this seat, laid by program in plain words.
-/
import Derived.Shelf.Spec.BitsCarry
import Derived.Shelf.Spec.TrailingZeros
import Derived.Shelf.Small.Utf8
import Derived.Shelf.Small.Bits
import Derived.Shelf.Strconv.Itoa0
import Derived.Shelf.Bits.Mul64
import Derived.Test.YtnbnfjpecgbnpaaGreatDoorProg
namespace Go.Proofs.YtnbnfjpecgbnpaaGreatDoor.Sh
open Go.Shelf
def lays125_ren : Go.Shelf.Ren := ⟨fun | 125 => 78 | 128 => 104 | 129 => 105 | n => n, fun | 46 => 22 | 3 => 3 | 51 => 74 | 53 => 132 | 4 => 4 | 5 => 5 | 9 => 9 | n => n, fun | n => n⟩
theorem lays125 : Go.Proofs.Lays.n125 Tryz.prog lays125_ren := {
  mixed := by kernel_rfl
  f125 := Tryz.func78.trans (congrArg some (by kernel_rfl))
  f128 := Tryz.func104.trans (congrArg some (by kernel_rfl))
  f129 := Tryz.func105.trans (congrArg some (by kernel_rfl))
  t3 := Tryz.underlying3
  a3 := Tryz.isAgg3
  z3 := Tryz.sizeOf3
  v3 := Tryz.zeroValue3
  t4 := Tryz.underlying4
  a4 := Tryz.isAgg4
  z4 := Tryz.sizeOf4
  v4 := Tryz.zeroValue4
  t5 := Tryz.underlying5
  a5 := Tryz.isAgg5
  z5 := Tryz.sizeOf5
  v5 := Tryz.zeroValue5
  t9 := Tryz.underlying9
  a9 := Tryz.isAgg9
  z9 := Tryz.sizeOf9
  v9 := Tryz.zeroValue9
  t46 := Tryz.underlying22
  a46 := Tryz.isAgg22
  z46 := Tryz.sizeOf22
  v46 := Tryz.zeroValue22
  t51 := Tryz.underlying74
  a51 := Tryz.isAgg74
  z51 := Tryz.sizeOf74
  v51 := Tryz.zeroValue74
  t53 := Tryz.underlying132
  a53 := Tryz.isAgg132
  z53 := Tryz.sizeOf132
  v53 := Tryz.zeroValue132 }
theorem bits_Len (x : Int) (w : World) (h0 : 0 ≤ x) (h1 : x ≤ 18446744073709551615) :
    Calls Tryz.prog 78 #[.int .u64 x] w fun e w' => e = .returned (.int .i64 (Lib.bitLen x.toNat)) ∧ w' = w := Any.bits_Len lays125 x w h0 h1
def lays134_ren : Go.Shelf.Ren := ⟨fun | 134 => 216 | 129 => 105 | n => n, fun | 53 => 132 | 3 => 3 | 4 => 4 | 46 => 22 | 5 => 5 | 9 => 9 | n => n, fun | n => n⟩
theorem lays134 : Go.Proofs.Lays.n134 Tryz.prog lays134_ren := {
  mixed := by kernel_rfl
  f129 := Tryz.func105.trans (congrArg some (by kernel_rfl))
  f134 := Tryz.func216.trans (congrArg some (by kernel_rfl))
  t3 := Tryz.underlying3
  a3 := Tryz.isAgg3
  z3 := Tryz.sizeOf3
  v3 := Tryz.zeroValue3
  t4 := Tryz.underlying4
  a4 := Tryz.isAgg4
  z4 := Tryz.sizeOf4
  v4 := Tryz.zeroValue4
  t5 := Tryz.underlying5
  a5 := Tryz.isAgg5
  z5 := Tryz.sizeOf5
  v5 := Tryz.zeroValue5
  t9 := Tryz.underlying9
  a9 := Tryz.isAgg9
  z9 := Tryz.sizeOf9
  v9 := Tryz.zeroValue9
  t46 := Tryz.underlying22
  a46 := Tryz.isAgg22
  z46 := Tryz.sizeOf22
  v46 := Tryz.zeroValue22
  t53 := Tryz.underlying132
  a53 := Tryz.isAgg132
  z53 := Tryz.sizeOf132
  v53 := Tryz.zeroValue132 }
theorem bits_LeadingZeros64 (x : Int) (w : World) (h0 : 0 ≤ x) (h1 : x ≤ 18446744073709551615) :
    Calls Tryz.prog 216 #[.int .u64 x] w fun e w' => e = .returned (.int .i64 (64 - (Lib.bitLen x.toNat : Int))) ∧ w' = w := Any.bits_LeadingZeros64 lays134 x w h0 h1
def lays130_ren : Go.Shelf.Ren := ⟨fun | 130 => 112 | 125 => 78 | 128 => 104 | 129 => 105 | n => n, fun | 46 => 22 | 3 => 3 | 51 => 74 | 53 => 132 | 4 => 4 | 5 => 5 | 9 => 9 | n => n, fun | n => n⟩
theorem lays130 : Go.Proofs.Lays.n130 Tryz.prog lays130_ren := {
  mixed := by kernel_rfl
  f125 := Tryz.func78.trans (congrArg some (by kernel_rfl))
  f128 := Tryz.func104.trans (congrArg some (by kernel_rfl))
  f129 := Tryz.func105.trans (congrArg some (by kernel_rfl))
  f130 := Tryz.func112.trans (congrArg some (by kernel_rfl))
  t3 := Tryz.underlying3
  a3 := Tryz.isAgg3
  z3 := Tryz.sizeOf3
  v3 := Tryz.zeroValue3
  t4 := Tryz.underlying4
  a4 := Tryz.isAgg4
  z4 := Tryz.sizeOf4
  v4 := Tryz.zeroValue4
  t5 := Tryz.underlying5
  a5 := Tryz.isAgg5
  z5 := Tryz.sizeOf5
  v5 := Tryz.zeroValue5
  t9 := Tryz.underlying9
  a9 := Tryz.isAgg9
  z9 := Tryz.sizeOf9
  v9 := Tryz.zeroValue9
  t46 := Tryz.underlying22
  a46 := Tryz.isAgg22
  z46 := Tryz.sizeOf22
  v46 := Tryz.zeroValue22
  t51 := Tryz.underlying74
  a51 := Tryz.isAgg74
  z51 := Tryz.sizeOf74
  v51 := Tryz.zeroValue74
  t53 := Tryz.underlying132
  a53 := Tryz.isAgg132
  z53 := Tryz.sizeOf132
  v53 := Tryz.zeroValue132 }
theorem bits_LeadingZeros (x : Int) (w : World) (h0 : 0 ≤ x) (h1 : x ≤ 18446744073709551615) :
    Calls Tryz.prog 112 #[.int .u64 x] w fun e w' => e = .returned (.int .i64 (64 - (Lib.bitLen x.toNat : Int))) ∧ w' = w := Any.bits_LeadingZeros lays130 x w h0 h1
open Go.RowKit Go.Lib in
def lays212_ren : Go.Shelf.Ren := ⟨fun | 212 => 175 | 263 => 202 | 264 => 203 | n => n, fun | 46 => 22 | 51 => 74 | 146 => 172 | 53 => 132 | 148 => 174 | n => n, fun | n => n⟩
theorem lays212 : Go.Proofs.Lays.n212 Tryz.prog lays212_ren := {
  mixed := by kernel_rfl
  f212 := Tryz.func175.trans (congrArg some (by kernel_rfl))
  f263 := Tryz.func202.trans (congrArg some (by kernel_rfl))
  f264 := Tryz.func203.trans (congrArg some (by kernel_rfl))
  t46 := Tryz.underlying22
  a46 := Tryz.isAgg22
  z46 := Tryz.sizeOf22
  v46 := Tryz.zeroValue22
  t51 := Tryz.underlying74
  a51 := Tryz.isAgg74
  z51 := Tryz.sizeOf74
  v51 := Tryz.zeroValue74
  t53 := Tryz.underlying132
  a53 := Tryz.isAgg132
  z53 := Tryz.sizeOf132
  v53 := Tryz.zeroValue132
  t146 := Tryz.underlying172
  a146 := Tryz.isAgg172
  z146 := Tryz.sizeOf172
  v146 := Tryz.zeroValue172
  t148 := Tryz.underlying174
  a148 := Tryz.isAgg174
  z148 := Tryz.sizeOf174
  v148 := Tryz.zeroValue174 }
open Go.RowKit Go.Lib in
theorem bits_Mul (x y : Nat) (hx : x < 18446744073709551616) (hy : y < 18446744073709551616) (w : World) :
    Calls Tryz.prog 175 #[.int .u64 x, .int .u64 y] w fun e w' => e = .returned (.tuple #[.int .u64 ((x * y / 18446744073709551616 : Nat) : Int), .int .u64 ((x * y % 18446744073709551616 : Nat) : Int)]) ∧ w' = w := Any.bits_Mul lays212 x y hx hy w
def lays725_ren : Go.Shelf.Ren := ⟨fun | 25 => 149 | n => n, fun | 22 => 132 | n => n, fun | n => n⟩
theorem lays725 : Go.Proofs.Lays7.n25 Tryz.prog lays725_ren := {
  mixed := by kernel_rfl
  f25 := Tryz.func149.trans (congrArg some (by kernel_rfl))
  t22 := Tryz.underlying132
  a22 := Tryz.isAgg132
  z22 := Tryz.sizeOf132
  v22 := Tryz.zeroValue132
  i22 := by kernel_rfl }
theorem bits_Add64 (x y c : Nat) (hc : c ≤ 1) (w : World) : (callFunc 149 #[.int .u64 x, .int .u64 y, .int .u64 c]).run Tryz.prog w = .ok (.value (.tuple #[.int .u64 (((x + y + c) % 18446744073709551616 : Nat) : Int), .int .u64 (((x + y + c) / 18446744073709551616 : Nat) : Int)])) w := Any7.bits_Add64 lays725 x y c hc w
def lays726_ren : Go.Shelf.Ren := ⟨fun | 26 => 147 | n => n, fun | 22 => 132 | n => n, fun | n => n⟩
theorem lays726 : Go.Proofs.Lays7.n26 Tryz.prog lays726_ren := {
  mixed := by kernel_rfl
  f26 := Tryz.func147.trans (congrArg some (by kernel_rfl))
  t22 := Tryz.underlying132
  a22 := Tryz.isAgg132
  z22 := Tryz.sizeOf132
  v22 := Tryz.zeroValue132
  i22 := by kernel_rfl }
theorem bits_Sub64 (x y b : Nat) (hb : b ≤ 1) (w : World) : (callFunc 147 #[.int .u64 x, .int .u64 y, .int .u64 b]).run Tryz.prog w = .ok (.value (.tuple #[.int .u64 (((x + 18446744073709551616 - y - b) % 18446744073709551616 : Nat) : Int), .int .u64 ((if x < y + b then 1 else 0 : Nat) : Int)])) w := Any7.bits_Sub64 lays726 x y b hb w
def lays727_ren : Go.Shelf.Ren := ⟨fun | 27 => 102 | 28 => 125 | 29 => 126 | n => n, fun | 25 => 22 | 3 => 3 | 27 => 74 | 22 => 132 | 4 => 4 | 53 => 170 | 0 => 0 | 5 => 5 | 54 => 171 | n => n, fun | 0 => 2 | 1 => 3 | n => n⟩
theorem lays727 : Go.Proofs.Lays7.n27 Tryz.prog lays727_ren := {
  mixed := by kernel_rfl
  f27 := Tryz.func102.trans (congrArg some (by kernel_rfl))
  f28 := Tryz.func125.trans (congrArg some (by kernel_rfl))
  f29 := Tryz.func126.trans (congrArg some (by kernel_rfl))
  t0 := Tryz.underlying0
  a0 := Tryz.isAgg0
  z0 := Tryz.sizeOf0
  v0 := Tryz.zeroValue0
  i0 := by kernel_rfl
  t3 := Tryz.underlying3
  a3 := Tryz.isAgg3
  z3 := Tryz.sizeOf3
  v3 := Tryz.zeroValue3
  i3 := by kernel_rfl
  t4 := Tryz.underlying4
  a4 := Tryz.isAgg4
  z4 := Tryz.sizeOf4
  v4 := Tryz.zeroValue4
  i4 := by kernel_rfl
  t5 := Tryz.underlying5
  a5 := Tryz.isAgg5
  z5 := Tryz.sizeOf5
  v5 := Tryz.zeroValue5
  i5 := by kernel_rfl
  t22 := Tryz.underlying132
  a22 := Tryz.isAgg132
  z22 := Tryz.sizeOf132
  v22 := Tryz.zeroValue132
  i22 := by kernel_rfl
  t25 := Tryz.underlying22
  a25 := Tryz.isAgg22
  z25 := Tryz.sizeOf22
  v25 := Tryz.zeroValue22
  i25 := by kernel_rfl
  t27 := Tryz.underlying74
  a27 := Tryz.isAgg74
  z27 := Tryz.sizeOf74
  v27 := Tryz.zeroValue74
  i27 := by kernel_rfl
  t53 := Tryz.underlying170
  a53 := Tryz.isAgg170
  z53 := Tryz.sizeOf170
  v53 := Tryz.zeroValue170
  i53 := by kernel_rfl
  t54 := Tryz.underlying171
  a54 := Tryz.isAgg171
  z54 := Tryz.sizeOf171
  g0 := by kernel_rfl
  g1 := by kernel_rfl }
theorem bits_TrailingZeros (x : Nat) (hx : x < 18446744073709551616) (w : World) (hT : x ≠ 0 → TabAt 3 Lib.deBruijn64tab w) : Calls Tryz.prog 102 #[.int .u64 x] w fun e w' => e = .returned (.int .i64 (Lib.ctz 64 x)) ∧ w' = w := Any7.bits_TrailingZeros lays727 x hx w hT
end Go.Proofs.YtnbnfjpecgbnpaaGreatDoor.Sh
