/-
  Contracts of the library (the shelf) at this seat, laid by program in plain words.
-/
import Derived.Shelf.Spec.BitsCarry
import Derived.Shelf.Spec.TrailingZeros
import Derived.Shelf.Small.Bits
import Derived.Shelf.Strconv.Itoa0
import Derived.Test.YtglikgjaobedbaaDoorProg
namespace Go.Proofs.YtglikgjaobedbaaDoor.Sh
open Go.Shelf
def lays128_ren : Go.Shelf.Ren := ⟨fun | 128 => 140 | n => n, fun | 51 => 86 | 3 => 3 | 4 => 4 | 46 => 23 | 5 => 5 | 9 => 9 | n => n, fun | n => n⟩
theorem lays128 : Go.Proofs.Lays.n128 Tryd.prog lays128_ren := {
  mixed := by kernel_rfl
  f128 := Tryd.func140.trans (congrArg some (by kernel_rfl))
  t3 := Tryd.underlying3
  a3 := Tryd.isAgg3
  z3 := Tryd.sizeOf3
  v3 := Tryd.zeroValue3
  t4 := Tryd.underlying4
  a4 := Tryd.isAgg4
  z4 := Tryd.sizeOf4
  v4 := Tryd.zeroValue4
  t5 := Tryd.underlying5
  a5 := Tryd.isAgg5
  z5 := Tryd.sizeOf5
  v5 := Tryd.zeroValue5
  t9 := Tryd.underlying9
  a9 := Tryd.isAgg9
  z9 := Tryd.sizeOf9
  v9 := Tryd.zeroValue9
  t46 := Tryd.underlying23
  a46 := Tryd.isAgg23
  z46 := Tryd.sizeOf23
  v46 := Tryd.zeroValue23
  t51 := Tryd.underlying86
  a51 := Tryd.isAgg86
  z51 := Tryd.sizeOf86
  v51 := Tryd.zeroValue86 }
theorem bits_Len32 (x : Int) (w : World) (h0 : 0 ≤ x) (h1 : x ≤ 4294967295) :
    Calls Tryd.prog 140 #[.int .u32 x] w fun e w' => e = .returned (.int .i64 (Lib.bitLen x.toNat)) ∧ w' = w := Any.bits_Len32 lays128 x w h0 h1
def lays125_ren : Go.Shelf.Ren := ⟨fun | 125 => 138 | 128 => 140 | 129 => 128 | n => n, fun | 46 => 23 | 3 => 3 | 51 => 86 | 53 => 32 | 4 => 4 | 5 => 5 | 9 => 9 | n => n, fun | n => n⟩
theorem lays125 : Go.Proofs.Lays.n125 Tryd.prog lays125_ren := {
  mixed := by kernel_rfl
  f125 := Tryd.func138.trans (congrArg some (by kernel_rfl))
  f128 := Tryd.func140.trans (congrArg some (by kernel_rfl))
  f129 := Tryd.func128.trans (congrArg some (by kernel_rfl))
  t3 := Tryd.underlying3
  a3 := Tryd.isAgg3
  z3 := Tryd.sizeOf3
  v3 := Tryd.zeroValue3
  t4 := Tryd.underlying4
  a4 := Tryd.isAgg4
  z4 := Tryd.sizeOf4
  v4 := Tryd.zeroValue4
  t5 := Tryd.underlying5
  a5 := Tryd.isAgg5
  z5 := Tryd.sizeOf5
  v5 := Tryd.zeroValue5
  t9 := Tryd.underlying9
  a9 := Tryd.isAgg9
  z9 := Tryd.sizeOf9
  v9 := Tryd.zeroValue9
  t46 := Tryd.underlying23
  a46 := Tryd.isAgg23
  z46 := Tryd.sizeOf23
  v46 := Tryd.zeroValue23
  t51 := Tryd.underlying86
  a51 := Tryd.isAgg86
  z51 := Tryd.sizeOf86
  v51 := Tryd.zeroValue86
  t53 := Tryd.underlying32
  a53 := Tryd.isAgg32
  z53 := Tryd.sizeOf32
  v53 := Tryd.zeroValue32 }
theorem bits_Len (x : Int) (w : World) (h0 : 0 ≤ x) (h1 : x ≤ 18446744073709551615) :
    Calls Tryd.prog 138 #[.int .u64 x] w fun e w' => e = .returned (.int .i64 (Lib.bitLen x.toNat)) ∧ w' = w := Any.bits_Len lays125 x w h0 h1
def lays134_ren : Go.Shelf.Ren := ⟨fun | 134 => 110 | 129 => 128 | n => n, fun | 53 => 32 | 3 => 3 | 4 => 4 | 46 => 23 | 5 => 5 | 9 => 9 | n => n, fun | n => n⟩
theorem lays134 : Go.Proofs.Lays.n134 Tryd.prog lays134_ren := {
  mixed := by kernel_rfl
  f129 := Tryd.func128.trans (congrArg some (by kernel_rfl))
  f134 := Tryd.func110.trans (congrArg some (by kernel_rfl))
  t3 := Tryd.underlying3
  a3 := Tryd.isAgg3
  z3 := Tryd.sizeOf3
  v3 := Tryd.zeroValue3
  t4 := Tryd.underlying4
  a4 := Tryd.isAgg4
  z4 := Tryd.sizeOf4
  v4 := Tryd.zeroValue4
  t5 := Tryd.underlying5
  a5 := Tryd.isAgg5
  z5 := Tryd.sizeOf5
  v5 := Tryd.zeroValue5
  t9 := Tryd.underlying9
  a9 := Tryd.isAgg9
  z9 := Tryd.sizeOf9
  v9 := Tryd.zeroValue9
  t46 := Tryd.underlying23
  a46 := Tryd.isAgg23
  z46 := Tryd.sizeOf23
  v46 := Tryd.zeroValue23
  t53 := Tryd.underlying32
  a53 := Tryd.isAgg32
  z53 := Tryd.sizeOf32
  v53 := Tryd.zeroValue32 }
theorem bits_LeadingZeros64 (x : Int) (w : World) (h0 : 0 ≤ x) (h1 : x ≤ 18446744073709551615) :
    Calls Tryd.prog 110 #[.int .u64 x] w fun e w' => e = .returned (.int .i64 (64 - (Lib.bitLen x.toNat : Int))) ∧ w' = w := Any.bits_LeadingZeros64 lays134 x w h0 h1
def lays130_ren : Go.Shelf.Ren := ⟨fun | 130 => 139 | 125 => 138 | 128 => 140 | 129 => 128 | n => n, fun | 46 => 23 | 3 => 3 | 51 => 86 | 53 => 32 | 4 => 4 | 5 => 5 | 9 => 9 | n => n, fun | n => n⟩
theorem lays130 : Go.Proofs.Lays.n130 Tryd.prog lays130_ren := {
  mixed := by kernel_rfl
  f125 := Tryd.func138.trans (congrArg some (by kernel_rfl))
  f128 := Tryd.func140.trans (congrArg some (by kernel_rfl))
  f129 := Tryd.func128.trans (congrArg some (by kernel_rfl))
  f130 := Tryd.func139.trans (congrArg some (by kernel_rfl))
  t3 := Tryd.underlying3
  a3 := Tryd.isAgg3
  z3 := Tryd.sizeOf3
  v3 := Tryd.zeroValue3
  t4 := Tryd.underlying4
  a4 := Tryd.isAgg4
  z4 := Tryd.sizeOf4
  v4 := Tryd.zeroValue4
  t5 := Tryd.underlying5
  a5 := Tryd.isAgg5
  z5 := Tryd.sizeOf5
  v5 := Tryd.zeroValue5
  t9 := Tryd.underlying9
  a9 := Tryd.isAgg9
  z9 := Tryd.sizeOf9
  v9 := Tryd.zeroValue9
  t46 := Tryd.underlying23
  a46 := Tryd.isAgg23
  z46 := Tryd.sizeOf23
  v46 := Tryd.zeroValue23
  t51 := Tryd.underlying86
  a51 := Tryd.isAgg86
  z51 := Tryd.sizeOf86
  v51 := Tryd.zeroValue86
  t53 := Tryd.underlying32
  a53 := Tryd.isAgg32
  z53 := Tryd.sizeOf32
  v53 := Tryd.zeroValue32 }
theorem bits_LeadingZeros (x : Int) (w : World) (h0 : 0 ≤ x) (h1 : x ≤ 18446744073709551615) :
    Calls Tryd.prog 139 #[.int .u64 x] w fun e w' => e = .returned (.int .i64 (64 - (Lib.bitLen x.toNat : Int))) ∧ w' = w := Any.bits_LeadingZeros lays130 x w h0 h1
def lays129_ren : Go.Shelf.Ren := ⟨fun | 129 => 128 | n => n, fun | 53 => 32 | 3 => 3 | 4 => 4 | 46 => 23 | 5 => 5 | 9 => 9 | n => n, fun | n => n⟩
theorem lays129 : Go.Proofs.Lays.n129 Tryd.prog lays129_ren := {
  mixed := by kernel_rfl
  f129 := Tryd.func128.trans (congrArg some (by kernel_rfl))
  t3 := Tryd.underlying3
  a3 := Tryd.isAgg3
  z3 := Tryd.sizeOf3
  v3 := Tryd.zeroValue3
  t4 := Tryd.underlying4
  a4 := Tryd.isAgg4
  z4 := Tryd.sizeOf4
  v4 := Tryd.zeroValue4
  t5 := Tryd.underlying5
  a5 := Tryd.isAgg5
  z5 := Tryd.sizeOf5
  v5 := Tryd.zeroValue5
  t9 := Tryd.underlying9
  a9 := Tryd.isAgg9
  z9 := Tryd.sizeOf9
  v9 := Tryd.zeroValue9
  t46 := Tryd.underlying23
  a46 := Tryd.isAgg23
  z46 := Tryd.sizeOf23
  v46 := Tryd.zeroValue23
  t53 := Tryd.underlying32
  a53 := Tryd.isAgg32
  z53 := Tryd.sizeOf32
  v53 := Tryd.zeroValue32 }
theorem bits_Len64 (x : Int) (w : World) (h0 : 0 ≤ x) (h1 : x ≤ 18446744073709551615) :
    Calls Tryd.prog 128 #[.int .u64 x] w fun e w' => e = .returned (.int .i64 (Lib.bitLen x.toNat)) ∧ w' = w := Any.bits_Len64 lays129 x w h0 h1
def lays725_ren : Go.Shelf.Ren := ⟨fun | 25 => 134 | n => n, fun | 22 => 32 | n => n, fun | n => n⟩
theorem lays725 : Go.Proofs.Lays7.n25 Tryd.prog lays725_ren := {
  mixed := by kernel_rfl
  f25 := Tryd.func134.trans (congrArg some (by kernel_rfl))
  t22 := Tryd.underlying32
  a22 := Tryd.isAgg32
  z22 := Tryd.sizeOf32
  v22 := Tryd.zeroValue32
  i22 := by kernel_rfl }
theorem bits_Add64 (x y c : Nat) (hc : c ≤ 1) (w : World) : (callFunc 134 #[.int .u64 x, .int .u64 y, .int .u64 c]).run Tryd.prog w = .ok (.value (.tuple #[.int .u64 (((x + y + c) % 18446744073709551616 : Nat) : Int), .int .u64 (((x + y + c) / 18446744073709551616 : Nat) : Int)])) w := Any7.bits_Add64 lays725 x y c hc w
def lays727_ren : Go.Shelf.Ren := ⟨fun | 27 => 113 | 28 => 130 | 29 => 131 | n => n, fun | 25 => 23 | 3 => 3 | 27 => 86 | 22 => 32 | 4 => 4 | 53 => 175 | 0 => 0 | 5 => 5 | 54 => 176 | n => n, fun | 0 => 1 | 1 => 2 | n => n⟩
theorem lays727 : Go.Proofs.Lays7.n27 Tryd.prog lays727_ren := {
  mixed := by kernel_rfl
  f27 := Tryd.func113.trans (congrArg some (by kernel_rfl))
  f28 := Tryd.func130.trans (congrArg some (by kernel_rfl))
  f29 := Tryd.func131.trans (congrArg some (by kernel_rfl))
  t0 := Tryd.underlying0
  a0 := Tryd.isAgg0
  z0 := Tryd.sizeOf0
  v0 := Tryd.zeroValue0
  i0 := by kernel_rfl
  t3 := Tryd.underlying3
  a3 := Tryd.isAgg3
  z3 := Tryd.sizeOf3
  v3 := Tryd.zeroValue3
  i3 := by kernel_rfl
  t4 := Tryd.underlying4
  a4 := Tryd.isAgg4
  z4 := Tryd.sizeOf4
  v4 := Tryd.zeroValue4
  i4 := by kernel_rfl
  t5 := Tryd.underlying5
  a5 := Tryd.isAgg5
  z5 := Tryd.sizeOf5
  v5 := Tryd.zeroValue5
  i5 := by kernel_rfl
  t22 := Tryd.underlying32
  a22 := Tryd.isAgg32
  z22 := Tryd.sizeOf32
  v22 := Tryd.zeroValue32
  i22 := by kernel_rfl
  t25 := Tryd.underlying23
  a25 := Tryd.isAgg23
  z25 := Tryd.sizeOf23
  v25 := Tryd.zeroValue23
  i25 := by kernel_rfl
  t27 := Tryd.underlying86
  a27 := Tryd.isAgg86
  z27 := Tryd.sizeOf86
  v27 := Tryd.zeroValue86
  i27 := by kernel_rfl
  t53 := Tryd.underlying175
  a53 := Tryd.isAgg175
  z53 := Tryd.sizeOf175
  v53 := Tryd.zeroValue175
  i53 := by kernel_rfl
  t54 := Tryd.underlying176
  a54 := Tryd.isAgg176
  z54 := Tryd.sizeOf176
  g0 := by kernel_rfl
  g1 := by kernel_rfl }
theorem bits_TrailingZeros (x : Nat) (hx : x < 18446744073709551616) (w : World) (hT : x ≠ 0 → TabAt 2 Lib.deBruijn64tab w) : Calls Tryd.prog 113 #[.int .u64 x] w fun e w' => e = .returned (.int .i64 (Lib.ctz 64 x)) ∧ w' = w := Any7.bits_TrailingZeros lays727 x hx w hT
def lays728_ren : Go.Shelf.Ren := ⟨fun | 28 => 130 | n => n, fun | 27 => 86 | 3 => 3 | 4 => 4 | 25 => 23 | 53 => 175 | 0 => 0 | 5 => 5 | n => n, fun | 0 => 1 | n => n⟩
theorem lays728 : Go.Proofs.Lays7.n28 Tryd.prog lays728_ren := {
  mixed := by kernel_rfl
  f28 := Tryd.func130.trans (congrArg some (by kernel_rfl))
  t0 := Tryd.underlying0
  a0 := Tryd.isAgg0
  z0 := Tryd.sizeOf0
  v0 := Tryd.zeroValue0
  i0 := by kernel_rfl
  t3 := Tryd.underlying3
  a3 := Tryd.isAgg3
  z3 := Tryd.sizeOf3
  v3 := Tryd.zeroValue3
  i3 := by kernel_rfl
  t4 := Tryd.underlying4
  a4 := Tryd.isAgg4
  z4 := Tryd.sizeOf4
  v4 := Tryd.zeroValue4
  i4 := by kernel_rfl
  t5 := Tryd.underlying5
  a5 := Tryd.isAgg5
  z5 := Tryd.sizeOf5
  v5 := Tryd.zeroValue5
  i5 := by kernel_rfl
  t25 := Tryd.underlying23
  a25 := Tryd.isAgg23
  z25 := Tryd.sizeOf23
  v25 := Tryd.zeroValue23
  i25 := by kernel_rfl
  t27 := Tryd.underlying86
  a27 := Tryd.isAgg86
  z27 := Tryd.sizeOf86
  v27 := Tryd.zeroValue86
  i27 := by kernel_rfl
  t53 := Tryd.underlying175
  a53 := Tryd.isAgg175
  z53 := Tryd.sizeOf175
  v53 := Tryd.zeroValue175
  i53 := by kernel_rfl
  g0 := by kernel_rfl }
theorem bits_TrailingZeros32 (x : Nat) (hx : x < 4294967296) (w : World) (hT : x ≠ 0 → TabAt 1 Lib.deBruijn32tab w) : Calls Tryd.prog 130 #[.int .u32 x] w fun e w' => e = .returned (.int .i64 (Lib.ctz 32 x)) ∧ w' = w := Any7.bits_TrailingZeros32 lays728 x hx w hT
def lays729_ren : Go.Shelf.Ren := ⟨fun | 29 => 131 | n => n, fun | 22 => 32 | 3 => 3 | 4 => 4 | 25 => 23 | 54 => 176 | 0 => 0 | 5 => 5 | n => n, fun | 1 => 2 | n => n⟩
theorem lays729 : Go.Proofs.Lays7.n29 Tryd.prog lays729_ren := {
  mixed := by kernel_rfl
  f29 := Tryd.func131.trans (congrArg some (by kernel_rfl))
  t0 := Tryd.underlying0
  a0 := Tryd.isAgg0
  z0 := Tryd.sizeOf0
  v0 := Tryd.zeroValue0
  i0 := by kernel_rfl
  t3 := Tryd.underlying3
  a3 := Tryd.isAgg3
  z3 := Tryd.sizeOf3
  v3 := Tryd.zeroValue3
  i3 := by kernel_rfl
  t4 := Tryd.underlying4
  a4 := Tryd.isAgg4
  z4 := Tryd.sizeOf4
  v4 := Tryd.zeroValue4
  i4 := by kernel_rfl
  t5 := Tryd.underlying5
  a5 := Tryd.isAgg5
  z5 := Tryd.sizeOf5
  v5 := Tryd.zeroValue5
  i5 := by kernel_rfl
  t22 := Tryd.underlying32
  a22 := Tryd.isAgg32
  z22 := Tryd.sizeOf32
  v22 := Tryd.zeroValue32
  i22 := by kernel_rfl
  t25 := Tryd.underlying23
  a25 := Tryd.isAgg23
  z25 := Tryd.sizeOf23
  v25 := Tryd.zeroValue23
  i25 := by kernel_rfl
  t54 := Tryd.underlying176
  a54 := Tryd.isAgg176
  z54 := Tryd.sizeOf176
  g1 := by kernel_rfl }
theorem bits_TrailingZeros64 (x : Nat) (hx : x < 18446744073709551616) (w : World) (hT : x ≠ 0 → TabAt 2 Lib.deBruijn64tab w) : Calls Tryd.prog 131 #[.int .u64 x] w fun e w' => e = .returned (.int .i64 (Lib.ctz 64 x)) ∧ w' = w := Any7.bits_TrailingZeros64 lays729 x hx w hT
end Go.Proofs.YtglikgjaobedbaaDoor.Sh
