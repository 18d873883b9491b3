/-
  Contracts of the library (the shelf) at this seat, laid by program in plain words.
-/
import Derived.Shelf.Spec.BitsCarry
import Derived.Shelf.Spec.TrailingZeros
import Derived.Shelf.Small.Utf8
import Derived.Shelf.Small.Bits
import Derived.Shelf.Strconv.Itoa0
import Derived.Shelf.Bits.Mul64
import Derived.Test.YtalfclpjkefldaaGreatDoorProg
namespace Go.Proofs.YtalfclpjkefldaaGreatDoor.Sh
open Go.Shelf
def lays120_ren : Go.Shelf.Ren := ⟨fun | 120 => 160 | n => n, fun | 5 => 5 | 4 => 4 | n => n, fun | n => n⟩
theorem lays120 : Go.Proofs.Lays.n120 Tryz.prog lays120_ren := {
  mixed := by kernel_rfl
  f120 := Tryz.func160.trans (congrArg some (by kernel_rfl))
  t4 := Tryz.underlying4
  a4 := Tryz.isAgg4
  z4 := Tryz.sizeOf4
  v4 := Tryz.zeroValue4
  t5 := Tryz.underlying5
  a5 := Tryz.isAgg5
  z5 := Tryz.sizeOf5
  v5 := Tryz.zeroValue5 }
theorem utf8_RuneStart (b : Int) (w : World) (h0 : 0 ≤ b) (h1 : b < 256) :
    Calls Tryz.prog 160 #[.int .u8 b] w fun e w' => e = .returned (.bool (Lib.runeStart b)) ∧ w' = w := Any.utf8_RuneStart lays120 b w h0 h1
def lays128_ren : Go.Shelf.Ren := ⟨fun | 128 => 118 | n => n, fun | 51 => 81 | 3 => 3 | 4 => 4 | 46 => 22 | 5 => 5 | 9 => 9 | n => n, fun | n => n⟩
theorem lays128 : Go.Proofs.Lays.n128 Tryz.prog lays128_ren := {
  mixed := by kernel_rfl
  f128 := Tryz.func118.trans (congrArg some (by kernel_rfl))
  t3 := Tryz.underlying3
  a3 := Tryz.isAgg3
  z3 := Tryz.sizeOf3
  v3 := Tryz.zeroValue3
  t4 := Tryz.underlying4
  a4 := Tryz.isAgg4
  z4 := Tryz.sizeOf4
  v4 := Tryz.zeroValue4
  t5 := Tryz.underlying5
  a5 := Tryz.isAgg5
  z5 := Tryz.sizeOf5
  v5 := Tryz.zeroValue5
  t9 := Tryz.underlying9
  a9 := Tryz.isAgg9
  z9 := Tryz.sizeOf9
  v9 := Tryz.zeroValue9
  t46 := Tryz.underlying22
  a46 := Tryz.isAgg22
  z46 := Tryz.sizeOf22
  v46 := Tryz.zeroValue22
  t51 := Tryz.underlying81
  a51 := Tryz.isAgg81
  z51 := Tryz.sizeOf81
  v51 := Tryz.zeroValue81 }
theorem bits_Len32 (x : Int) (w : World) (h0 : 0 ≤ x) (h1 : x ≤ 4294967295) :
    Calls Tryz.prog 118 #[.int .u32 x] w fun e w' => e = .returned (.int .i64 (Lib.bitLen x.toNat)) ∧ w' = w := Any.bits_Len32 lays128 x w h0 h1
def lays125_ren : Go.Shelf.Ren := ⟨fun | 125 => 87 | 128 => 118 | 129 => 119 | n => n, fun | 46 => 22 | 3 => 3 | 51 => 81 | 53 => 146 | 4 => 4 | 5 => 5 | 9 => 9 | n => n, fun | n => n⟩
theorem lays125 : Go.Proofs.Lays.n125 Tryz.prog lays125_ren := {
  mixed := by kernel_rfl
  f125 := Tryz.func87.trans (congrArg some (by kernel_rfl))
  f128 := Tryz.func118.trans (congrArg some (by kernel_rfl))
  f129 := Tryz.func119.trans (congrArg some (by kernel_rfl))
  t3 := Tryz.underlying3
  a3 := Tryz.isAgg3
  z3 := Tryz.sizeOf3
  v3 := Tryz.zeroValue3
  t4 := Tryz.underlying4
  a4 := Tryz.isAgg4
  z4 := Tryz.sizeOf4
  v4 := Tryz.zeroValue4
  t5 := Tryz.underlying5
  a5 := Tryz.isAgg5
  z5 := Tryz.sizeOf5
  v5 := Tryz.zeroValue5
  t9 := Tryz.underlying9
  a9 := Tryz.isAgg9
  z9 := Tryz.sizeOf9
  v9 := Tryz.zeroValue9
  t46 := Tryz.underlying22
  a46 := Tryz.isAgg22
  z46 := Tryz.sizeOf22
  v46 := Tryz.zeroValue22
  t51 := Tryz.underlying81
  a51 := Tryz.isAgg81
  z51 := Tryz.sizeOf81
  v51 := Tryz.zeroValue81
  t53 := Tryz.underlying146
  a53 := Tryz.isAgg146
  z53 := Tryz.sizeOf146
  v53 := Tryz.zeroValue146 }
theorem bits_Len (x : Int) (w : World) (h0 : 0 ≤ x) (h1 : x ≤ 18446744073709551615) :
    Calls Tryz.prog 87 #[.int .u64 x] w fun e w' => e = .returned (.int .i64 (Lib.bitLen x.toNat)) ∧ w' = w := Any.bits_Len lays125 x w h0 h1
def lays134_ren : Go.Shelf.Ren := ⟨fun | 134 => 232 | 129 => 119 | n => n, fun | 53 => 146 | 3 => 3 | 4 => 4 | 46 => 22 | 5 => 5 | 9 => 9 | n => n, fun | n => n⟩
theorem lays134 : Go.Proofs.Lays.n134 Tryz.prog lays134_ren := {
  mixed := by kernel_rfl
  f129 := Tryz.func119.trans (congrArg some (by kernel_rfl))
  f134 := Tryz.func232.trans (congrArg some (by kernel_rfl))
  t3 := Tryz.underlying3
  a3 := Tryz.isAgg3
  z3 := Tryz.sizeOf3
  v3 := Tryz.zeroValue3
  t4 := Tryz.underlying4
  a4 := Tryz.isAgg4
  z4 := Tryz.sizeOf4
  v4 := Tryz.zeroValue4
  t5 := Tryz.underlying5
  a5 := Tryz.isAgg5
  z5 := Tryz.sizeOf5
  v5 := Tryz.zeroValue5
  t9 := Tryz.underlying9
  a9 := Tryz.isAgg9
  z9 := Tryz.sizeOf9
  v9 := Tryz.zeroValue9
  t46 := Tryz.underlying22
  a46 := Tryz.isAgg22
  z46 := Tryz.sizeOf22
  v46 := Tryz.zeroValue22
  t53 := Tryz.underlying146
  a53 := Tryz.isAgg146
  z53 := Tryz.sizeOf146
  v53 := Tryz.zeroValue146 }
theorem bits_LeadingZeros64 (x : Int) (w : World) (h0 : 0 ≤ x) (h1 : x ≤ 18446744073709551615) :
    Calls Tryz.prog 232 #[.int .u64 x] w fun e w' => e = .returned (.int .i64 (64 - (Lib.bitLen x.toNat : Int))) ∧ w' = w := Any.bits_LeadingZeros64 lays134 x w h0 h1
def lays130_ren : Go.Shelf.Ren := ⟨fun | 130 => 146 | 125 => 87 | 128 => 118 | 129 => 119 | n => n, fun | 46 => 22 | 3 => 3 | 51 => 81 | 53 => 146 | 4 => 4 | 5 => 5 | 9 => 9 | n => n, fun | n => n⟩
theorem lays130 : Go.Proofs.Lays.n130 Tryz.prog lays130_ren := {
  mixed := by kernel_rfl
  f125 := Tryz.func87.trans (congrArg some (by kernel_rfl))
  f128 := Tryz.func118.trans (congrArg some (by kernel_rfl))
  f129 := Tryz.func119.trans (congrArg some (by kernel_rfl))
  f130 := Tryz.func146.trans (congrArg some (by kernel_rfl))
  t3 := Tryz.underlying3
  a3 := Tryz.isAgg3
  z3 := Tryz.sizeOf3
  v3 := Tryz.zeroValue3
  t4 := Tryz.underlying4
  a4 := Tryz.isAgg4
  z4 := Tryz.sizeOf4
  v4 := Tryz.zeroValue4
  t5 := Tryz.underlying5
  a5 := Tryz.isAgg5
  z5 := Tryz.sizeOf5
  v5 := Tryz.zeroValue5
  t9 := Tryz.underlying9
  a9 := Tryz.isAgg9
  z9 := Tryz.sizeOf9
  v9 := Tryz.zeroValue9
  t46 := Tryz.underlying22
  a46 := Tryz.isAgg22
  z46 := Tryz.sizeOf22
  v46 := Tryz.zeroValue22
  t51 := Tryz.underlying81
  a51 := Tryz.isAgg81
  z51 := Tryz.sizeOf81
  v51 := Tryz.zeroValue81
  t53 := Tryz.underlying146
  a53 := Tryz.isAgg146
  z53 := Tryz.sizeOf146
  v53 := Tryz.zeroValue146 }
theorem bits_LeadingZeros (x : Int) (w : World) (h0 : 0 ≤ x) (h1 : x ≤ 18446744073709551615) :
    Calls Tryz.prog 146 #[.int .u64 x] w fun e w' => e = .returned (.int .i64 (64 - (Lib.bitLen x.toNat : Int))) ∧ w' = w := Any.bits_LeadingZeros lays130 x w h0 h1
def lays129_ren : Go.Shelf.Ren := ⟨fun | 129 => 119 | n => n, fun | 53 => 146 | 3 => 3 | 4 => 4 | 46 => 22 | 5 => 5 | 9 => 9 | n => n, fun | n => n⟩
theorem lays129 : Go.Proofs.Lays.n129 Tryz.prog lays129_ren := {
  mixed := by kernel_rfl
  f129 := Tryz.func119.trans (congrArg some (by kernel_rfl))
  t3 := Tryz.underlying3
  a3 := Tryz.isAgg3
  z3 := Tryz.sizeOf3
  v3 := Tryz.zeroValue3
  t4 := Tryz.underlying4
  a4 := Tryz.isAgg4
  z4 := Tryz.sizeOf4
  v4 := Tryz.zeroValue4
  t5 := Tryz.underlying5
  a5 := Tryz.isAgg5
  z5 := Tryz.sizeOf5
  v5 := Tryz.zeroValue5
  t9 := Tryz.underlying9
  a9 := Tryz.isAgg9
  z9 := Tryz.sizeOf9
  v9 := Tryz.zeroValue9
  t46 := Tryz.underlying22
  a46 := Tryz.isAgg22
  z46 := Tryz.sizeOf22
  v46 := Tryz.zeroValue22
  t53 := Tryz.underlying146
  a53 := Tryz.isAgg146
  z53 := Tryz.sizeOf146
  v53 := Tryz.zeroValue146 }
theorem bits_Len64 (x : Int) (w : World) (h0 : 0 ≤ x) (h1 : x ≤ 18446744073709551615) :
    Calls Tryz.prog 119 #[.int .u64 x] w fun e w' => e = .returned (.int .i64 (Lib.bitLen x.toNat)) ∧ w' = w := Any.bits_Len64 lays129 x w h0 h1
def lays264_ren : Go.Shelf.Ren := ⟨fun | 264 => 219 | n => n, fun | 53 => 146 | 46 => 22 | n => n, fun | n => n⟩
theorem lays264 : Go.Proofs.Lays.n264 Tryz.prog lays264_ren := {
  mixed := by kernel_rfl
  f264 := Tryz.func219.trans (congrArg some (by kernel_rfl))
  t46 := Tryz.underlying22
  a46 := Tryz.isAgg22
  z46 := Tryz.sizeOf22
  v46 := Tryz.zeroValue22
  t53 := Tryz.underlying146
  a53 := Tryz.isAgg146
  z53 := Tryz.sizeOf146
  v53 := Tryz.zeroValue146 }
open Go.RowKit Go.Lib in
theorem bits_Mul64 (x y : Nat) (hx : x < 18446744073709551616) (hy : y < 18446744073709551616) (w : World) :
    Calls Tryz.prog 219 #[.int .u64 x, .int .u64 y] w fun e w' => e = .returned (.tuple #[.int .u64 ((x * y / 18446744073709551616 : Nat) : Int), .int .u64 ((x * y % 18446744073709551616 : Nat) : Int)]) ∧ w' = w := Any.bits_Mul64 lays264 x y hx hy w
def lays212_ren : Go.Shelf.Ren := ⟨fun | 212 => 191 | 263 => 218 | 264 => 219 | n => n, fun | 46 => 22 | 51 => 81 | 146 => 187 | 53 => 146 | 148 => 189 | n => n, fun | n => n⟩
theorem lays212 : Go.Proofs.Lays.n212 Tryz.prog lays212_ren := {
  mixed := by kernel_rfl
  f212 := Tryz.func191.trans (congrArg some (by kernel_rfl))
  f263 := Tryz.func218.trans (congrArg some (by kernel_rfl))
  f264 := Tryz.func219.trans (congrArg some (by kernel_rfl))
  t46 := Tryz.underlying22
  a46 := Tryz.isAgg22
  z46 := Tryz.sizeOf22
  v46 := Tryz.zeroValue22
  t51 := Tryz.underlying81
  a51 := Tryz.isAgg81
  z51 := Tryz.sizeOf81
  v51 := Tryz.zeroValue81
  t53 := Tryz.underlying146
  a53 := Tryz.isAgg146
  z53 := Tryz.sizeOf146
  v53 := Tryz.zeroValue146
  t146 := Tryz.underlying187
  a146 := Tryz.isAgg187
  z146 := Tryz.sizeOf187
  v146 := Tryz.zeroValue187
  t148 := Tryz.underlying189
  a148 := Tryz.isAgg189
  z148 := Tryz.sizeOf189
  v148 := Tryz.zeroValue189 }
open Go.RowKit Go.Lib in
theorem bits_Mul (x y : Nat) (hx : x < 18446744073709551616) (hy : y < 18446744073709551616) (w : World) :
    Calls Tryz.prog 191 #[.int .u64 x, .int .u64 y] w fun e w' => e = .returned (.tuple #[.int .u64 ((x * y / 18446744073709551616 : Nat) : Int), .int .u64 ((x * y % 18446744073709551616 : Nat) : Int)]) ∧ w' = w := Any.bits_Mul lays212 x y hx hy w
def lays725_ren : Go.Shelf.Ren := ⟨fun | 25 => 165 | n => n, fun | 22 => 146 | n => n, fun | n => n⟩
theorem lays725 : Go.Proofs.Lays7.n25 Tryz.prog lays725_ren := {
  mixed := by kernel_rfl
  f25 := Tryz.func165.trans (congrArg some (by kernel_rfl))
  t22 := Tryz.underlying146
  a22 := Tryz.isAgg146
  z22 := Tryz.sizeOf146
  v22 := Tryz.zeroValue146
  i22 := by kernel_rfl }
theorem bits_Add64 (x y c : Nat) (hc : c ≤ 1) (w : World) : (callFunc 165 #[.int .u64 x, .int .u64 y, .int .u64 c]).run Tryz.prog w = .ok (.value (.tuple #[.int .u64 (((x + y + c) % 18446744073709551616 : Nat) : Int), .int .u64 (((x + y + c) / 18446744073709551616 : Nat) : Int)])) w := Any7.bits_Add64 lays725 x y c hc w
def lays726_ren : Go.Shelf.Ren := ⟨fun | 26 => 163 | n => n, fun | 22 => 146 | n => n, fun | n => n⟩
theorem lays726 : Go.Proofs.Lays7.n26 Tryz.prog lays726_ren := {
  mixed := by kernel_rfl
  f26 := Tryz.func163.trans (congrArg some (by kernel_rfl))
  t22 := Tryz.underlying146
  a22 := Tryz.isAgg146
  z22 := Tryz.sizeOf146
  v22 := Tryz.zeroValue146
  i22 := by kernel_rfl }
theorem bits_Sub64 (x y b : Nat) (hb : b ≤ 1) (w : World) : (callFunc 163 #[.int .u64 x, .int .u64 y, .int .u64 b]).run Tryz.prog w = .ok (.value (.tuple #[.int .u64 (((x + 18446744073709551616 - y - b) % 18446744073709551616 : Nat) : Int), .int .u64 ((if x < y + b then 1 else 0 : Nat) : Int)])) w := Any7.bits_Sub64 lays726 x y b hb w
def lays727_ren : Go.Shelf.Ren := ⟨fun | 27 => 116 | 28 => 140 | 29 => 141 | n => n, fun | 25 => 22 | 3 => 3 | 27 => 81 | 22 => 146 | 4 => 4 | 53 => 185 | 0 => 0 | 5 => 5 | 54 => 186 | n => n, fun | 0 => 2 | 1 => 3 | n => n⟩
theorem lays727 : Go.Proofs.Lays7.n27 Tryz.prog lays727_ren := {
  mixed := by kernel_rfl
  f27 := Tryz.func116.trans (congrArg some (by kernel_rfl))
  f28 := Tryz.func140.trans (congrArg some (by kernel_rfl))
  f29 := Tryz.func141.trans (congrArg some (by kernel_rfl))
  t0 := Tryz.underlying0
  a0 := Tryz.isAgg0
  z0 := Tryz.sizeOf0
  v0 := Tryz.zeroValue0
  i0 := by kernel_rfl
  t3 := Tryz.underlying3
  a3 := Tryz.isAgg3
  z3 := Tryz.sizeOf3
  v3 := Tryz.zeroValue3
  i3 := by kernel_rfl
  t4 := Tryz.underlying4
  a4 := Tryz.isAgg4
  z4 := Tryz.sizeOf4
  v4 := Tryz.zeroValue4
  i4 := by kernel_rfl
  t5 := Tryz.underlying5
  a5 := Tryz.isAgg5
  z5 := Tryz.sizeOf5
  v5 := Tryz.zeroValue5
  i5 := by kernel_rfl
  t22 := Tryz.underlying146
  a22 := Tryz.isAgg146
  z22 := Tryz.sizeOf146
  v22 := Tryz.zeroValue146
  i22 := by kernel_rfl
  t25 := Tryz.underlying22
  a25 := Tryz.isAgg22
  z25 := Tryz.sizeOf22
  v25 := Tryz.zeroValue22
  i25 := by kernel_rfl
  t27 := Tryz.underlying81
  a27 := Tryz.isAgg81
  z27 := Tryz.sizeOf81
  v27 := Tryz.zeroValue81
  i27 := by kernel_rfl
  t53 := Tryz.underlying185
  a53 := Tryz.isAgg185
  z53 := Tryz.sizeOf185
  v53 := Tryz.zeroValue185
  i53 := by kernel_rfl
  t54 := Tryz.underlying186
  a54 := Tryz.isAgg186
  z54 := Tryz.sizeOf186
  g0 := by kernel_rfl
  g1 := by kernel_rfl }
theorem bits_TrailingZeros (x : Nat) (hx : x < 18446744073709551616) (w : World) (hT : x ≠ 0 → TabAt 3 Lib.deBruijn64tab w) : Calls Tryz.prog 116 #[.int .u64 x] w fun e w' => e = .returned (.int .i64 (Lib.ctz 64 x)) ∧ w' = w := Any7.bits_TrailingZeros lays727 x hx w hT
def lays728_ren : Go.Shelf.Ren := ⟨fun | 28 => 140 | n => n, fun | 27 => 81 | 3 => 3 | 4 => 4 | 25 => 22 | 53 => 185 | 0 => 0 | 5 => 5 | n => n, fun | 0 => 2 | n => n⟩
theorem lays728 : Go.Proofs.Lays7.n28 Tryz.prog lays728_ren := {
  mixed := by kernel_rfl
  f28 := Tryz.func140.trans (congrArg some (by kernel_rfl))
  t0 := Tryz.underlying0
  a0 := Tryz.isAgg0
  z0 := Tryz.sizeOf0
  v0 := Tryz.zeroValue0
  i0 := by kernel_rfl
  t3 := Tryz.underlying3
  a3 := Tryz.isAgg3
  z3 := Tryz.sizeOf3
  v3 := Tryz.zeroValue3
  i3 := by kernel_rfl
  t4 := Tryz.underlying4
  a4 := Tryz.isAgg4
  z4 := Tryz.sizeOf4
  v4 := Tryz.zeroValue4
  i4 := by kernel_rfl
  t5 := Tryz.underlying5
  a5 := Tryz.isAgg5
  z5 := Tryz.sizeOf5
  v5 := Tryz.zeroValue5
  i5 := by kernel_rfl
  t25 := Tryz.underlying22
  a25 := Tryz.isAgg22
  z25 := Tryz.sizeOf22
  v25 := Tryz.zeroValue22
  i25 := by kernel_rfl
  t27 := Tryz.underlying81
  a27 := Tryz.isAgg81
  z27 := Tryz.sizeOf81
  v27 := Tryz.zeroValue81
  i27 := by kernel_rfl
  t53 := Tryz.underlying185
  a53 := Tryz.isAgg185
  z53 := Tryz.sizeOf185
  v53 := Tryz.zeroValue185
  i53 := by kernel_rfl
  g0 := by kernel_rfl }
theorem bits_TrailingZeros32 (x : Nat) (hx : x < 4294967296) (w : World) (hT : x ≠ 0 → TabAt 2 Lib.deBruijn32tab w) : Calls Tryz.prog 140 #[.int .u32 x] w fun e w' => e = .returned (.int .i64 (Lib.ctz 32 x)) ∧ w' = w := Any7.bits_TrailingZeros32 lays728 x hx w hT
def lays729_ren : Go.Shelf.Ren := ⟨fun | 29 => 141 | n => n, fun | 22 => 146 | 3 => 3 | 4 => 4 | 25 => 22 | 54 => 186 | 0 => 0 | 5 => 5 | n => n, fun | 1 => 3 | n => n⟩
theorem lays729 : Go.Proofs.Lays7.n29 Tryz.prog lays729_ren := {
  mixed := by kernel_rfl
  f29 := Tryz.func141.trans (congrArg some (by kernel_rfl))
  t0 := Tryz.underlying0
  a0 := Tryz.isAgg0
  z0 := Tryz.sizeOf0
  v0 := Tryz.zeroValue0
  i0 := by kernel_rfl
  t3 := Tryz.underlying3
  a3 := Tryz.isAgg3
  z3 := Tryz.sizeOf3
  v3 := Tryz.zeroValue3
  i3 := by kernel_rfl
  t4 := Tryz.underlying4
  a4 := Tryz.isAgg4
  z4 := Tryz.sizeOf4
  v4 := Tryz.zeroValue4
  i4 := by kernel_rfl
  t5 := Tryz.underlying5
  a5 := Tryz.isAgg5
  z5 := Tryz.sizeOf5
  v5 := Tryz.zeroValue5
  i5 := by kernel_rfl
  t22 := Tryz.underlying146
  a22 := Tryz.isAgg146
  z22 := Tryz.sizeOf146
  v22 := Tryz.zeroValue146
  i22 := by kernel_rfl
  t25 := Tryz.underlying22
  a25 := Tryz.isAgg22
  z25 := Tryz.sizeOf22
  v25 := Tryz.zeroValue22
  i25 := by kernel_rfl
  t54 := Tryz.underlying186
  a54 := Tryz.isAgg186
  z54 := Tryz.sizeOf186
  g1 := by kernel_rfl }
theorem bits_TrailingZeros64 (x : Nat) (hx : x < 18446744073709551616) (w : World) (hT : x ≠ 0 → TabAt 3 Lib.deBruijn64tab w) : Calls Tryz.prog 141 #[.int .u64 x] w fun e w' => e = .returned (.int .i64 (Lib.ctz 64 x)) ∧ w' = w := Any7.bits_TrailingZeros64 lays729 x hx w hT
end Go.Proofs.YtalfclpjkefldaaGreatDoor.Sh
