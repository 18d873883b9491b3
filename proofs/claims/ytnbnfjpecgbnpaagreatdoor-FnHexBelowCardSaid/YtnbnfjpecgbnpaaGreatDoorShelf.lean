/-
  Contracts of the library (the shelf) at this seat, laid by program in plain words.
-/
import Derived.Shelf.Spec.BitsCarry
import Derived.Shelf.Spec.TrailingZeros
import Derived.Shelf.Small.Utf8
import Derived.Shelf.Small.Bits
import Derived.Shelf.Strconv.Itoa0
import Derived.Shelf.Strconv.Itoa1
import Derived.Shelf.LaysM
import Derived.Shelf.Strconv.Itoa2
import Derived.Shelf.Strconv.AppendUint10
import Derived.Shelf.Strconv.AppendInt10
import Derived.Shelf.Strconv.AppendIntPublic10
import Derived.Shelf.Bits.Mul64
import Derived.Test.YtnbnfjpecgbnpaaGreatDoorProg
namespace Go.Proofs.YtnbnfjpecgbnpaaGreatDoor.Sh
open Go.Shelf
def lays125_ren : Go.Shelf.Ren := ⟨fun | 125 => 78 | 128 => 104 | 129 => 105 | n => n, fun | 46 => 22 | 3 => 3 | 51 => 74 | 53 => 132 | 4 => 4 | 5 => 5 | 9 => 9 | n => n, fun | n => n⟩
theorem lays125 : Go.Proofs.Lays.n125 Tryz.prog lays125_ren := {
  mixed := by kernel_rfl
  f125 := Tryz.func78.trans (congrArg some (by kernel_rfl))
  f128 := Tryz.func104.trans (congrArg some (by kernel_rfl))
  f129 := Tryz.func105.trans (congrArg some (by kernel_rfl))
  t3 := Tryz.underlying3
  a3 := Tryz.isAgg3
  z3 := Tryz.sizeOf3
  v3 := Tryz.zeroValue3
  t4 := Tryz.underlying4
  a4 := Tryz.isAgg4
  z4 := Tryz.sizeOf4
  v4 := Tryz.zeroValue4
  t5 := Tryz.underlying5
  a5 := Tryz.isAgg5
  z5 := Tryz.sizeOf5
  v5 := Tryz.zeroValue5
  t9 := Tryz.underlying9
  a9 := Tryz.isAgg9
  z9 := Tryz.sizeOf9
  v9 := Tryz.zeroValue9
  t46 := Tryz.underlying22
  a46 := Tryz.isAgg22
  z46 := Tryz.sizeOf22
  v46 := Tryz.zeroValue22
  t51 := Tryz.underlying74
  a51 := Tryz.isAgg74
  z51 := Tryz.sizeOf74
  v51 := Tryz.zeroValue74
  t53 := Tryz.underlying132
  a53 := Tryz.isAgg132
  z53 := Tryz.sizeOf132
  v53 := Tryz.zeroValue132 }
theorem bits_Len (x : Int) (w : World) (h0 : 0 ≤ x) (h1 : x ≤ 18446744073709551615) :
    Calls Tryz.prog 78 #[.int .u64 x] w fun e w' => e = .returned (.int .i64 (Lib.bitLen x.toNat)) ∧ w' = w := Any.bits_Len lays125 x w h0 h1
def lays130_ren : Go.Shelf.Ren := ⟨fun | 130 => 112 | 125 => 78 | 128 => 104 | 129 => 105 | n => n, fun | 46 => 22 | 3 => 3 | 51 => 74 | 53 => 132 | 4 => 4 | 5 => 5 | 9 => 9 | n => n, fun | n => n⟩
theorem lays130 : Go.Proofs.Lays.n130 Tryz.prog lays130_ren := {
  mixed := by kernel_rfl
  f125 := Tryz.func78.trans (congrArg some (by kernel_rfl))
  f128 := Tryz.func104.trans (congrArg some (by kernel_rfl))
  f129 := Tryz.func105.trans (congrArg some (by kernel_rfl))
  f130 := Tryz.func112.trans (congrArg some (by kernel_rfl))
  t3 := Tryz.underlying3
  a3 := Tryz.isAgg3
  z3 := Tryz.sizeOf3
  v3 := Tryz.zeroValue3
  t4 := Tryz.underlying4
  a4 := Tryz.isAgg4
  z4 := Tryz.sizeOf4
  v4 := Tryz.zeroValue4
  t5 := Tryz.underlying5
  a5 := Tryz.isAgg5
  z5 := Tryz.sizeOf5
  v5 := Tryz.zeroValue5
  t9 := Tryz.underlying9
  a9 := Tryz.isAgg9
  z9 := Tryz.sizeOf9
  v9 := Tryz.zeroValue9
  t46 := Tryz.underlying22
  a46 := Tryz.isAgg22
  z46 := Tryz.sizeOf22
  v46 := Tryz.zeroValue22
  t51 := Tryz.underlying74
  a51 := Tryz.isAgg74
  z51 := Tryz.sizeOf74
  v51 := Tryz.zeroValue74
  t53 := Tryz.underlying132
  a53 := Tryz.isAgg132
  z53 := Tryz.sizeOf132
  v53 := Tryz.zeroValue132 }
theorem bits_LeadingZeros (x : Int) (w : World) (h0 : 0 ≤ x) (h1 : x ≤ 18446744073709551615) :
    Calls Tryz.prog 112 #[.int .u64 x] w fun e w' => e = .returned (.int .i64 (64 - (Lib.bitLen x.toNat : Int))) ∧ w' = w := Any.bits_LeadingZeros lays130 x w h0 h1
open Go.Lib in
open Go.Lib in
open Go.Lib in
open Go.Lib in
open Go.RowKit Go.Sort Go.Lib in
open Go.RowKit Go.Sort Go.Lib in
open Go.RowKit Go.Sort Go.Lib in
open Go.RowKit Go.Sort Go.Lib in
open Go.RowKit Go.Sort Go.Lib in
def laysM176_ren : Go.Shelf.Ren := ⟨fun | 176 => 73 | 249 => 97 | 288 => 121 | 283 => 140 | 284 => 141 | 285 => 142 | 286 => 143 | 129 => 105 | 317 => 161 | 318 => 162 | 319 => 163 | 320 => 102 | 337 => 125 | 338 => 126 | n => n, fun | 37 => 58 | 2 => 2 | 3 => 3 | 53 => 132 | 4 => 4 | 9 => 9 | 171 => 166 | 0 => 0 | 173 => 168 | 212 => 189 | 51 => 74 | 5 => 5 | 20 => 20 | 213 => 190 | 46 => 22 | 232 => 170 | 233 => 171 | n => n, fun | 17 => 6 | 18 => 2 | 19 => 3 | n => n⟩
theorem laysM176 : Go.Proofs.LaysM.n176 Tryz.prog laysM176_ren := {
  mixed := by kernel_rfl
  f129 := Tryz.func105.trans (congrArg some (by kernel_rfl))
  f176 := Tryz.func73.trans (congrArg some (by kernel_rfl))
  f249 := Tryz.func97.trans (congrArg some (by kernel_rfl))
  f283 := Tryz.func140.trans (congrArg some (by kernel_rfl))
  f284 := Tryz.func141.trans (congrArg some (by kernel_rfl))
  f285 := Tryz.func142.trans (congrArg some (by kernel_rfl))
  f286 := Tryz.func143.trans (congrArg some (by kernel_rfl))
  f288 := Tryz.func121.trans (congrArg some (by kernel_rfl))
  f317 := Tryz.func161.trans (congrArg some (by kernel_rfl))
  f318 := Tryz.func162.trans (congrArg some (by kernel_rfl))
  f319 := Tryz.func163.trans (congrArg some (by kernel_rfl))
  f320 := Tryz.func102.trans (congrArg some (by kernel_rfl))
  f337 := Tryz.func125.trans (congrArg some (by kernel_rfl))
  f338 := Tryz.func126.trans (congrArg some (by kernel_rfl))
  t0 := Tryz.underlying0
  a0 := Tryz.isAgg0
  z0 := Tryz.sizeOf0
  v0 := Tryz.zeroValue0
  t2 := Tryz.underlying2
  a2 := Tryz.isAgg2
  z2 := Tryz.sizeOf2
  v2 := Tryz.zeroValue2
  t3 := Tryz.underlying3
  a3 := Tryz.isAgg3
  z3 := Tryz.sizeOf3
  v3 := Tryz.zeroValue3
  t4 := Tryz.underlying4
  a4 := Tryz.isAgg4
  z4 := Tryz.sizeOf4
  v4 := Tryz.zeroValue4
  t5 := Tryz.underlying5
  a5 := Tryz.isAgg5
  z5 := Tryz.sizeOf5
  v5 := Tryz.zeroValue5
  t9 := Tryz.underlying9
  a9 := Tryz.isAgg9
  z9 := Tryz.sizeOf9
  v9 := Tryz.zeroValue9
  t20 := Tryz.underlying20
  a20 := Tryz.isAgg20
  z20 := Tryz.sizeOf20
  v20 := Tryz.zeroValue20
  t37 := Tryz.underlying58
  a37 := Tryz.isAgg58
  z37 := Tryz.sizeOf58
  v37 := Tryz.zeroValue58
  t46 := Tryz.underlying22
  a46 := Tryz.isAgg22
  z46 := Tryz.sizeOf22
  v46 := Tryz.zeroValue22
  t51 := Tryz.underlying74
  a51 := Tryz.isAgg74
  z51 := Tryz.sizeOf74
  v51 := Tryz.zeroValue74
  t53 := Tryz.underlying132
  a53 := Tryz.isAgg132
  z53 := Tryz.sizeOf132
  v53 := Tryz.zeroValue132
  t171 := Tryz.underlying166
  a171 := Tryz.isAgg166
  z171 := Tryz.sizeOf166
  v171 := Tryz.zeroValue166
  t173 := Tryz.underlying168
  a173 := Tryz.isAgg168
  z173 := Tryz.sizeOf168
  v173 := Tryz.zeroValue168
  t212 := Tryz.underlying189
  a212 := Tryz.isAgg189
  z212 := Tryz.sizeOf189
  v212 := Tryz.zeroValue189
  t213 := Tryz.underlying190
  a213 := Tryz.isAgg190
  z213 := Tryz.sizeOf190
  t232 := Tryz.underlying170
  a232 := Tryz.isAgg170
  z232 := Tryz.sizeOf170
  v232 := Tryz.zeroValue170
  t233 := Tryz.underlying171
  a233 := Tryz.isAgg171
  z233 := Tryz.sizeOf171
  v233 := Tryz.zeroValue171
  g17 := by kernel_rfl
  g18 := by kernel_rfl
  g19 := by kernel_rfl
  i0 := by kernel_rfl
  i2 := by kernel_rfl
  i3 := by kernel_rfl
  i4 := by kernel_rfl
  i5 := by kernel_rfl
  i9 := by kernel_rfl
  i20 := by kernel_rfl
  i37 := by kernel_rfl
  i46 := by kernel_rfl
  i51 := by kernel_rfl
  i53 := by kernel_rfl
  i171 := by kernel_rfl
  i173 := by kernel_rfl
  i212 := by kernel_rfl
  i232 := by kernel_rfl
  i233 := by kernel_rfl
  m17 := by kernel_rfl
  m18 := by kernel_rfl
  m19 := by kernel_rfl }
open Go.RowKit Go.Sort Go.Lib in
theorem strconv_AppendInt_10 (B n : Nat) (i : Int) (h0 : -9223372036854775808 ≤ i) (h1 : i ≤ 9223372036854775807) (sv : Value) (xs : List Value) (w : World) (hown : w.ownsRow B 5 1 sv n xs) (hBw : B ≤ w.heap.size) (hlim : n + 21 ≤ 140737488355328) (htab : Lib.TabBelow Tryz.prog B w "internal/strconv.uint64pow10" .u64 Lib.pow10Tab) :
    Calls Tryz.prog 73 #[sv, .int .i64 i, .int .i64 10] w fun e w' => ∃ v', e = .returned v' ∧ w'.ownsRow B 5 1 v' (n + (Lib.itoa i).length) (xs ++ Lib.byteCells (Lib.itoa i)) ∧ Below B w w' ∧ Lib.OthersKept 5 none w w' := Any.strconv_AppendInt_10 laysM176 B n i h0 h1 sv xs w hown hBw hlim htab
open Go.RowKit Go.Lib in
open Go.RowKit Go.Lib in
def lays725_ren : Go.Shelf.Ren := ⟨fun | 25 => 149 | n => n, fun | 22 => 132 | n => n, fun | n => n⟩
theorem lays725 : Go.Proofs.Lays7.n25 Tryz.prog lays725_ren := {
  mixed := by kernel_rfl
  f25 := Tryz.func149.trans (congrArg some (by kernel_rfl))
  t22 := Tryz.underlying132
  a22 := Tryz.isAgg132
  z22 := Tryz.sizeOf132
  v22 := Tryz.zeroValue132
  i22 := by kernel_rfl }
theorem bits_Add64 (x y c : Nat) (hc : c ≤ 1) (w : World) : (callFunc 149 #[.int .u64 x, .int .u64 y, .int .u64 c]).run Tryz.prog w = .ok (.value (.tuple #[.int .u64 (((x + y + c) % 18446744073709551616 : Nat) : Int), .int .u64 (((x + y + c) / 18446744073709551616 : Nat) : Int)])) w := Any7.bits_Add64 lays725 x y c hc w
def lays727_ren : Go.Shelf.Ren := ⟨fun | 27 => 102 | 28 => 125 | 29 => 126 | n => n, fun | 25 => 22 | 3 => 3 | 27 => 74 | 22 => 132 | 4 => 4 | 53 => 170 | 0 => 0 | 5 => 5 | 54 => 171 | n => n, fun | 0 => 2 | 1 => 3 | n => n⟩
theorem lays727 : Go.Proofs.Lays7.n27 Tryz.prog lays727_ren := {
  mixed := by kernel_rfl
  f27 := Tryz.func102.trans (congrArg some (by kernel_rfl))
  f28 := Tryz.func125.trans (congrArg some (by kernel_rfl))
  f29 := Tryz.func126.trans (congrArg some (by kernel_rfl))
  t0 := Tryz.underlying0
  a0 := Tryz.isAgg0
  z0 := Tryz.sizeOf0
  v0 := Tryz.zeroValue0
  i0 := by kernel_rfl
  t3 := Tryz.underlying3
  a3 := Tryz.isAgg3
  z3 := Tryz.sizeOf3
  v3 := Tryz.zeroValue3
  i3 := by kernel_rfl
  t4 := Tryz.underlying4
  a4 := Tryz.isAgg4
  z4 := Tryz.sizeOf4
  v4 := Tryz.zeroValue4
  i4 := by kernel_rfl
  t5 := Tryz.underlying5
  a5 := Tryz.isAgg5
  z5 := Tryz.sizeOf5
  v5 := Tryz.zeroValue5
  i5 := by kernel_rfl
  t22 := Tryz.underlying132
  a22 := Tryz.isAgg132
  z22 := Tryz.sizeOf132
  v22 := Tryz.zeroValue132
  i22 := by kernel_rfl
  t25 := Tryz.underlying22
  a25 := Tryz.isAgg22
  z25 := Tryz.sizeOf22
  v25 := Tryz.zeroValue22
  i25 := by kernel_rfl
  t27 := Tryz.underlying74
  a27 := Tryz.isAgg74
  z27 := Tryz.sizeOf74
  v27 := Tryz.zeroValue74
  i27 := by kernel_rfl
  t53 := Tryz.underlying170
  a53 := Tryz.isAgg170
  z53 := Tryz.sizeOf170
  v53 := Tryz.zeroValue170
  i53 := by kernel_rfl
  t54 := Tryz.underlying171
  a54 := Tryz.isAgg171
  z54 := Tryz.sizeOf171
  g0 := by kernel_rfl
  g1 := by kernel_rfl }
theorem bits_TrailingZeros (x : Nat) (hx : x < 18446744073709551616) (w : World) (hT : x ≠ 0 → TabAt 3 Lib.deBruijn64tab w) : Calls Tryz.prog 102 #[.int .u64 x] w fun e w' => e = .returned (.int .i64 (Lib.ctz 64 x)) ∧ w' = w := Any7.bits_TrailingZeros lays727 x hx w hT
end Go.Proofs.YtnbnfjpecgbnpaaGreatDoor.Sh
