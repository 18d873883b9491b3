/-
  Contracts of the library (the shelf) at this seat, laid by program in plain words.
-/
import Derived.Shelf.Spec.BitsCarry
import Derived.Shelf.Spec.TrailingZeros
import Derived.Shelf.Small.Utf8
import Derived.Shelf.Small.Bits
import Derived.Shelf.Strconv.Itoa0
import Derived.Shelf.Strconv.Itoa1
import Derived.Shelf.LaysM
import Derived.Shelf.Strconv.Itoa2
import Derived.Shelf.Strconv.AppendUint10
import Derived.Shelf.Strconv.AppendInt10
import Derived.Shelf.Strconv.AppendIntPublic10
import Derived.Shelf.Bits.Mul64
import Derived.Test.YtfnknldbjckgoaaGreatDoorProg
namespace Go.Proofs.YtfnknldbjckgoaaGreatDoor.Sh
open Go.Shelf
def lays125_ren : Go.Shelf.Ren := ⟨fun | 125 => 77 | 128 => 108 | 129 => 109 | n => n, fun | 46 => 22 | 3 => 3 | 51 => 76 | 53 => 141 | 4 => 4 | 5 => 5 | 9 => 9 | n => n, fun | n => n⟩
theorem lays125 : Go.Proofs.Lays.n125 Tryz.prog lays125_ren := {
  mixed := by kernel_rfl
  f125 := Tryz.func77.trans (congrArg some (by kernel_rfl))
  f128 := Tryz.func108.trans (congrArg some (by kernel_rfl))
  f129 := Tryz.func109.trans (congrArg some (by kernel_rfl))
  t3 := Tryz.underlying3
  a3 := Tryz.isAgg3
  z3 := Tryz.sizeOf3
  v3 := Tryz.zeroValue3
  t4 := Tryz.underlying4
  a4 := Tryz.isAgg4
  z4 := Tryz.sizeOf4
  v4 := Tryz.zeroValue4
  t5 := Tryz.underlying5
  a5 := Tryz.isAgg5
  z5 := Tryz.sizeOf5
  v5 := Tryz.zeroValue5
  t9 := Tryz.underlying9
  a9 := Tryz.isAgg9
  z9 := Tryz.sizeOf9
  v9 := Tryz.zeroValue9
  t46 := Tryz.underlying22
  a46 := Tryz.isAgg22
  z46 := Tryz.sizeOf22
  v46 := Tryz.zeroValue22
  t51 := Tryz.underlying76
  a51 := Tryz.isAgg76
  z51 := Tryz.sizeOf76
  v51 := Tryz.zeroValue76
  t53 := Tryz.underlying141
  a53 := Tryz.isAgg141
  z53 := Tryz.sizeOf141
  v53 := Tryz.zeroValue141 }
theorem bits_Len (x : Int) (w : World) (h0 : 0 ≤ x) (h1 : x ≤ 18446744073709551615) :
    Calls Tryz.prog 77 #[.int .u64 x] w fun e w' => e = .returned (.int .i64 (Lib.bitLen x.toNat)) ∧ w' = w := Any.bits_Len lays125 x w h0 h1
def lays134_ren : Go.Shelf.Ren := ⟨fun | 134 => 222 | 129 => 109 | n => n, fun | 53 => 141 | 3 => 3 | 4 => 4 | 46 => 22 | 5 => 5 | 9 => 9 | n => n, fun | n => n⟩
theorem lays134 : Go.Proofs.Lays.n134 Tryz.prog lays134_ren := {
  mixed := by kernel_rfl
  f129 := Tryz.func109.trans (congrArg some (by kernel_rfl))
  f134 := Tryz.func222.trans (congrArg some (by kernel_rfl))
  t3 := Tryz.underlying3
  a3 := Tryz.isAgg3
  z3 := Tryz.sizeOf3
  v3 := Tryz.zeroValue3
  t4 := Tryz.underlying4
  a4 := Tryz.isAgg4
  z4 := Tryz.sizeOf4
  v4 := Tryz.zeroValue4
  t5 := Tryz.underlying5
  a5 := Tryz.isAgg5
  z5 := Tryz.sizeOf5
  v5 := Tryz.zeroValue5
  t9 := Tryz.underlying9
  a9 := Tryz.isAgg9
  z9 := Tryz.sizeOf9
  v9 := Tryz.zeroValue9
  t46 := Tryz.underlying22
  a46 := Tryz.isAgg22
  z46 := Tryz.sizeOf22
  v46 := Tryz.zeroValue22
  t53 := Tryz.underlying141
  a53 := Tryz.isAgg141
  z53 := Tryz.sizeOf141
  v53 := Tryz.zeroValue141 }
theorem bits_LeadingZeros64 (x : Int) (w : World) (h0 : 0 ≤ x) (h1 : x ≤ 18446744073709551615) :
    Calls Tryz.prog 222 #[.int .u64 x] w fun e w' => e = .returned (.int .i64 (64 - (Lib.bitLen x.toNat : Int))) ∧ w' = w := Any.bits_LeadingZeros64 lays134 x w h0 h1
def lays130_ren : Go.Shelf.Ren := ⟨fun | 130 => 136 | 125 => 77 | 128 => 108 | 129 => 109 | n => n, fun | 46 => 22 | 3 => 3 | 51 => 76 | 53 => 141 | 4 => 4 | 5 => 5 | 9 => 9 | n => n, fun | n => n⟩
theorem lays130 : Go.Proofs.Lays.n130 Tryz.prog lays130_ren := {
  mixed := by kernel_rfl
  f125 := Tryz.func77.trans (congrArg some (by kernel_rfl))
  f128 := Tryz.func108.trans (congrArg some (by kernel_rfl))
  f129 := Tryz.func109.trans (congrArg some (by kernel_rfl))
  f130 := Tryz.func136.trans (congrArg some (by kernel_rfl))
  t3 := Tryz.underlying3
  a3 := Tryz.isAgg3
  z3 := Tryz.sizeOf3
  v3 := Tryz.zeroValue3
  t4 := Tryz.underlying4
  a4 := Tryz.isAgg4
  z4 := Tryz.sizeOf4
  v4 := Tryz.zeroValue4
  t5 := Tryz.underlying5
  a5 := Tryz.isAgg5
  z5 := Tryz.sizeOf5
  v5 := Tryz.zeroValue5
  t9 := Tryz.underlying9
  a9 := Tryz.isAgg9
  z9 := Tryz.sizeOf9
  v9 := Tryz.zeroValue9
  t46 := Tryz.underlying22
  a46 := Tryz.isAgg22
  z46 := Tryz.sizeOf22
  v46 := Tryz.zeroValue22
  t51 := Tryz.underlying76
  a51 := Tryz.isAgg76
  z51 := Tryz.sizeOf76
  v51 := Tryz.zeroValue76
  t53 := Tryz.underlying141
  a53 := Tryz.isAgg141
  z53 := Tryz.sizeOf141
  v53 := Tryz.zeroValue141 }
theorem bits_LeadingZeros (x : Int) (w : World) (h0 : 0 ≤ x) (h1 : x ≤ 18446744073709551615) :
    Calls Tryz.prog 136 #[.int .u64 x] w fun e w' => e = .returned (.int .i64 (64 - (Lib.bitLen x.toNat : Int))) ∧ w' = w := Any.bits_LeadingZeros lays130 x w h0 h1
open Go.Lib in
open Go.Lib in
open Go.Lib in
open Go.Lib in
open Go.RowKit Go.Sort Go.Lib in
open Go.RowKit Go.Sort Go.Lib in
open Go.RowKit Go.Sort Go.Lib in
open Go.RowKit Go.Sort Go.Lib in
open Go.RowKit Go.Sort Go.Lib in
def laysM176_ren : Go.Shelf.Ren := ⟨fun | 176 => 70 | 249 => 99 | 288 => 124 | 283 => 146 | 284 => 147 | 285 => 148 | 286 => 149 | 129 => 109 | 317 => 167 | 318 => 168 | 319 => 169 | 320 => 106 | 337 => 130 | 338 => 131 | n => n, fun | 37 => 43 | 2 => 2 | 3 => 3 | 53 => 141 | 4 => 4 | 9 => 9 | 171 => 176 | 0 => 0 | 173 => 178 | 212 => 199 | 51 => 76 | 5 => 5 | 20 => 20 | 213 => 200 | 46 => 22 | 232 => 180 | 233 => 181 | n => n, fun | 17 => 6 | 18 => 2 | 19 => 3 | n => n⟩
theorem laysM176 : Go.Proofs.LaysM.n176 Tryz.prog laysM176_ren := {
  mixed := by kernel_rfl
  f129 := Tryz.func109.trans (congrArg some (by kernel_rfl))
  f176 := Tryz.func70.trans (congrArg some (by kernel_rfl))
  f249 := Tryz.func99.trans (congrArg some (by kernel_rfl))
  f283 := Tryz.func146.trans (congrArg some (by kernel_rfl))
  f284 := Tryz.func147.trans (congrArg some (by kernel_rfl))
  f285 := Tryz.func148.trans (congrArg some (by kernel_rfl))
  f286 := Tryz.func149.trans (congrArg some (by kernel_rfl))
  f288 := Tryz.func124.trans (congrArg some (by kernel_rfl))
  f317 := Tryz.func167.trans (congrArg some (by kernel_rfl))
  f318 := Tryz.func168.trans (congrArg some (by kernel_rfl))
  f319 := Tryz.func169.trans (congrArg some (by kernel_rfl))
  f320 := Tryz.func106.trans (congrArg some (by kernel_rfl))
  f337 := Tryz.func130.trans (congrArg some (by kernel_rfl))
  f338 := Tryz.func131.trans (congrArg some (by kernel_rfl))
  t0 := Tryz.underlying0
  a0 := Tryz.isAgg0
  z0 := Tryz.sizeOf0
  v0 := Tryz.zeroValue0
  t2 := Tryz.underlying2
  a2 := Tryz.isAgg2
  z2 := Tryz.sizeOf2
  v2 := Tryz.zeroValue2
  t3 := Tryz.underlying3
  a3 := Tryz.isAgg3
  z3 := Tryz.sizeOf3
  v3 := Tryz.zeroValue3
  t4 := Tryz.underlying4
  a4 := Tryz.isAgg4
  z4 := Tryz.sizeOf4
  v4 := Tryz.zeroValue4
  t5 := Tryz.underlying5
  a5 := Tryz.isAgg5
  z5 := Tryz.sizeOf5
  v5 := Tryz.zeroValue5
  t9 := Tryz.underlying9
  a9 := Tryz.isAgg9
  z9 := Tryz.sizeOf9
  v9 := Tryz.zeroValue9
  t20 := Tryz.underlying20
  a20 := Tryz.isAgg20
  z20 := Tryz.sizeOf20
  v20 := Tryz.zeroValue20
  t37 := Tryz.underlying43
  a37 := Tryz.isAgg43
  z37 := Tryz.sizeOf43
  v37 := Tryz.zeroValue43
  t46 := Tryz.underlying22
  a46 := Tryz.isAgg22
  z46 := Tryz.sizeOf22
  v46 := Tryz.zeroValue22
  t51 := Tryz.underlying76
  a51 := Tryz.isAgg76
  z51 := Tryz.sizeOf76
  v51 := Tryz.zeroValue76
  t53 := Tryz.underlying141
  a53 := Tryz.isAgg141
  z53 := Tryz.sizeOf141
  v53 := Tryz.zeroValue141
  t171 := Tryz.underlying176
  a171 := Tryz.isAgg176
  z171 := Tryz.sizeOf176
  v171 := Tryz.zeroValue176
  t173 := Tryz.underlying178
  a173 := Tryz.isAgg178
  z173 := Tryz.sizeOf178
  v173 := Tryz.zeroValue178
  t212 := Tryz.underlying199
  a212 := Tryz.isAgg199
  z212 := Tryz.sizeOf199
  v212 := Tryz.zeroValue199
  t213 := Tryz.underlying200
  a213 := Tryz.isAgg200
  z213 := Tryz.sizeOf200
  t232 := Tryz.underlying180
  a232 := Tryz.isAgg180
  z232 := Tryz.sizeOf180
  v232 := Tryz.zeroValue180
  t233 := Tryz.underlying181
  a233 := Tryz.isAgg181
  z233 := Tryz.sizeOf181
  v233 := Tryz.zeroValue181
  g17 := by kernel_rfl
  g18 := by kernel_rfl
  g19 := by kernel_rfl
  i0 := by kernel_rfl
  i2 := by kernel_rfl
  i3 := by kernel_rfl
  i4 := by kernel_rfl
  i5 := by kernel_rfl
  i9 := by kernel_rfl
  i20 := by kernel_rfl
  i37 := by kernel_rfl
  i46 := by kernel_rfl
  i51 := by kernel_rfl
  i53 := by kernel_rfl
  i171 := by kernel_rfl
  i173 := by kernel_rfl
  i212 := by kernel_rfl
  i232 := by kernel_rfl
  i233 := by kernel_rfl
  m17 := by kernel_rfl
  m18 := by kernel_rfl
  m19 := by kernel_rfl }
open Go.RowKit Go.Sort Go.Lib in
theorem strconv_AppendInt_10 (B n : Nat) (i : Int) (h0 : -9223372036854775808 ≤ i) (h1 : i ≤ 9223372036854775807) (sv : Value) (xs : List Value) (w : World) (hown : w.ownsRow B 5 1 sv n xs) (hBw : B ≤ w.heap.size) (hlim : n + 21 ≤ 140737488355328) (htab : Lib.TabBelow Tryz.prog B w "internal/strconv.uint64pow10" .u64 Lib.pow10Tab) :
    Calls Tryz.prog 70 #[sv, .int .i64 i, .int .i64 10] w fun e w' => ∃ v', e = .returned v' ∧ w'.ownsRow B 5 1 v' (n + (Lib.itoa i).length) (xs ++ Lib.byteCells (Lib.itoa i)) ∧ Below B w w' ∧ Lib.OthersKept 5 none w w' := Any.strconv_AppendInt_10 laysM176 B n i h0 h1 sv xs w hown hBw hlim htab
open Go.RowKit Go.Lib in
def lays212_ren : Go.Shelf.Ren := ⟨fun | 212 => 181 | 263 => 208 | 264 => 209 | n => n, fun | 46 => 22 | 51 => 76 | 146 => 182 | 53 => 141 | 148 => 184 | n => n, fun | n => n⟩
theorem lays212 : Go.Proofs.Lays.n212 Tryz.prog lays212_ren := {
  mixed := by kernel_rfl
  f212 := Tryz.func181.trans (congrArg some (by kernel_rfl))
  f263 := Tryz.func208.trans (congrArg some (by kernel_rfl))
  f264 := Tryz.func209.trans (congrArg some (by kernel_rfl))
  t46 := Tryz.underlying22
  a46 := Tryz.isAgg22
  z46 := Tryz.sizeOf22
  v46 := Tryz.zeroValue22
  t51 := Tryz.underlying76
  a51 := Tryz.isAgg76
  z51 := Tryz.sizeOf76
  v51 := Tryz.zeroValue76
  t53 := Tryz.underlying141
  a53 := Tryz.isAgg141
  z53 := Tryz.sizeOf141
  v53 := Tryz.zeroValue141
  t146 := Tryz.underlying182
  a146 := Tryz.isAgg182
  z146 := Tryz.sizeOf182
  v146 := Tryz.zeroValue182
  t148 := Tryz.underlying184
  a148 := Tryz.isAgg184
  z148 := Tryz.sizeOf184
  v148 := Tryz.zeroValue184 }
open Go.RowKit Go.Lib in
theorem bits_Mul (x y : Nat) (hx : x < 18446744073709551616) (hy : y < 18446744073709551616) (w : World) :
    Calls Tryz.prog 181 #[.int .u64 x, .int .u64 y] w fun e w' => e = .returned (.tuple #[.int .u64 ((x * y / 18446744073709551616 : Nat) : Int), .int .u64 ((x * y % 18446744073709551616 : Nat) : Int)]) ∧ w' = w := Any.bits_Mul lays212 x y hx hy w
def lays725_ren : Go.Shelf.Ren := ⟨fun | 25 => 155 | n => n, fun | 22 => 141 | n => n, fun | n => n⟩
theorem lays725 : Go.Proofs.Lays7.n25 Tryz.prog lays725_ren := {
  mixed := by kernel_rfl
  f25 := Tryz.func155.trans (congrArg some (by kernel_rfl))
  t22 := Tryz.underlying141
  a22 := Tryz.isAgg141
  z22 := Tryz.sizeOf141
  v22 := Tryz.zeroValue141
  i22 := by kernel_rfl }
theorem bits_Add64 (x y c : Nat) (hc : c ≤ 1) (w : World) : (callFunc 155 #[.int .u64 x, .int .u64 y, .int .u64 c]).run Tryz.prog w = .ok (.value (.tuple #[.int .u64 (((x + y + c) % 18446744073709551616 : Nat) : Int), .int .u64 (((x + y + c) / 18446744073709551616 : Nat) : Int)])) w := Any7.bits_Add64 lays725 x y c hc w
def lays726_ren : Go.Shelf.Ren := ⟨fun | 26 => 153 | n => n, fun | 22 => 141 | n => n, fun | n => n⟩
theorem lays726 : Go.Proofs.Lays7.n26 Tryz.prog lays726_ren := {
  mixed := by kernel_rfl
  f26 := Tryz.func153.trans (congrArg some (by kernel_rfl))
  t22 := Tryz.underlying141
  a22 := Tryz.isAgg141
  z22 := Tryz.sizeOf141
  v22 := Tryz.zeroValue141
  i22 := by kernel_rfl }
theorem bits_Sub64 (x y b : Nat) (hb : b ≤ 1) (w : World) : (callFunc 153 #[.int .u64 x, .int .u64 y, .int .u64 b]).run Tryz.prog w = .ok (.value (.tuple #[.int .u64 (((x + 18446744073709551616 - y - b) % 18446744073709551616 : Nat) : Int), .int .u64 ((if x < y + b then 1 else 0 : Nat) : Int)])) w := Any7.bits_Sub64 lays726 x y b hb w
def lays727_ren : Go.Shelf.Ren := ⟨fun | 27 => 106 | 28 => 130 | 29 => 131 | n => n, fun | 25 => 22 | 3 => 3 | 27 => 76 | 22 => 141 | 4 => 4 | 53 => 180 | 0 => 0 | 5 => 5 | 54 => 181 | n => n, fun | 0 => 2 | 1 => 3 | n => n⟩
theorem lays727 : Go.Proofs.Lays7.n27 Tryz.prog lays727_ren := {
  mixed := by kernel_rfl
  f27 := Tryz.func106.trans (congrArg some (by kernel_rfl))
  f28 := Tryz.func130.trans (congrArg some (by kernel_rfl))
  f29 := Tryz.func131.trans (congrArg some (by kernel_rfl))
  t0 := Tryz.underlying0
  a0 := Tryz.isAgg0
  z0 := Tryz.sizeOf0
  v0 := Tryz.zeroValue0
  i0 := by kernel_rfl
  t3 := Tryz.underlying3
  a3 := Tryz.isAgg3
  z3 := Tryz.sizeOf3
  v3 := Tryz.zeroValue3
  i3 := by kernel_rfl
  t4 := Tryz.underlying4
  a4 := Tryz.isAgg4
  z4 := Tryz.sizeOf4
  v4 := Tryz.zeroValue4
  i4 := by kernel_rfl
  t5 := Tryz.underlying5
  a5 := Tryz.isAgg5
  z5 := Tryz.sizeOf5
  v5 := Tryz.zeroValue5
  i5 := by kernel_rfl
  t22 := Tryz.underlying141
  a22 := Tryz.isAgg141
  z22 := Tryz.sizeOf141
  v22 := Tryz.zeroValue141
  i22 := by kernel_rfl
  t25 := Tryz.underlying22
  a25 := Tryz.isAgg22
  z25 := Tryz.sizeOf22
  v25 := Tryz.zeroValue22
  i25 := by kernel_rfl
  t27 := Tryz.underlying76
  a27 := Tryz.isAgg76
  z27 := Tryz.sizeOf76
  v27 := Tryz.zeroValue76
  i27 := by kernel_rfl
  t53 := Tryz.underlying180
  a53 := Tryz.isAgg180
  z53 := Tryz.sizeOf180
  v53 := Tryz.zeroValue180
  i53 := by kernel_rfl
  t54 := Tryz.underlying181
  a54 := Tryz.isAgg181
  z54 := Tryz.sizeOf181
  g0 := by kernel_rfl
  g1 := by kernel_rfl }
theorem bits_TrailingZeros (x : Nat) (hx : x < 18446744073709551616) (w : World) (hT : x ≠ 0 → TabAt 3 Lib.deBruijn64tab w) : Calls Tryz.prog 106 #[.int .u64 x] w fun e w' => e = .returned (.int .i64 (Lib.ctz 64 x)) ∧ w' = w := Any7.bits_TrailingZeros lays727 x hx w hT
end Go.Proofs.YtfnknldbjckgoaaGreatDoor.Sh
