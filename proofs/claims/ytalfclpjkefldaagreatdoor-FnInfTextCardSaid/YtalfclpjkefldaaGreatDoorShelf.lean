/-
  Contracts of the library (the shelf) at this seat, laid by program in plain words.
-/
import Derived.Shelf.Spec.BitsCarry
import Derived.Shelf.Spec.TrailingZeros
import Derived.Shelf.Small.Utf8
import Derived.Shelf.Small.Bits
import Derived.Shelf.Strconv.Itoa0
import Derived.Shelf.Strconv.Itoa1
import Derived.Shelf.LaysM
import Derived.Shelf.Strconv.Itoa2
import Derived.Shelf.Strconv.AppendUint10
import Derived.Shelf.Strconv.AppendInt10
import Derived.Shelf.Strconv.AppendIntPublic10
import Derived.Shelf.Bits.Mul64
import Derived.Test.YtalfclpjkefldaaGreatDoorProg
namespace Go.Proofs.YtalfclpjkefldaaGreatDoor.Sh
open Go.Shelf
def lays120_ren : Go.Shelf.Ren := ⟨fun | 120 => 160 | n => n, fun | 5 => 5 | 4 => 4 | n => n, fun | n => n⟩
theorem lays120 : Go.Proofs.Lays.n120 Tryz.prog lays120_ren := {
  mixed := by kernel_rfl
  f120 := Tryz.func160.trans (congrArg some (by kernel_rfl))
  t4 := Tryz.underlying4
  a4 := Tryz.isAgg4
  z4 := Tryz.sizeOf4
  v4 := Tryz.zeroValue4
  t5 := Tryz.underlying5
  a5 := Tryz.isAgg5
  z5 := Tryz.sizeOf5
  v5 := Tryz.zeroValue5 }
theorem utf8_RuneStart (b : Int) (w : World) (h0 : 0 ≤ b) (h1 : b < 256) :
    Calls Tryz.prog 160 #[.int .u8 b] w fun e w' => e = .returned (.bool (Lib.runeStart b)) ∧ w' = w := Any.utf8_RuneStart lays120 b w h0 h1
def lays128_ren : Go.Shelf.Ren := ⟨fun | 128 => 118 | n => n, fun | 51 => 81 | 3 => 3 | 4 => 4 | 46 => 22 | 5 => 5 | 9 => 9 | n => n, fun | n => n⟩
theorem lays128 : Go.Proofs.Lays.n128 Tryz.prog lays128_ren := {
  mixed := by kernel_rfl
  f128 := Tryz.func118.trans (congrArg some (by kernel_rfl))
  t3 := Tryz.underlying3
  a3 := Tryz.isAgg3
  z3 := Tryz.sizeOf3
  v3 := Tryz.zeroValue3
  t4 := Tryz.underlying4
  a4 := Tryz.isAgg4
  z4 := Tryz.sizeOf4
  v4 := Tryz.zeroValue4
  t5 := Tryz.underlying5
  a5 := Tryz.isAgg5
  z5 := Tryz.sizeOf5
  v5 := Tryz.zeroValue5
  t9 := Tryz.underlying9
  a9 := Tryz.isAgg9
  z9 := Tryz.sizeOf9
  v9 := Tryz.zeroValue9
  t46 := Tryz.underlying22
  a46 := Tryz.isAgg22
  z46 := Tryz.sizeOf22
  v46 := Tryz.zeroValue22
  t51 := Tryz.underlying81
  a51 := Tryz.isAgg81
  z51 := Tryz.sizeOf81
  v51 := Tryz.zeroValue81 }
theorem bits_Len32 (x : Int) (w : World) (h0 : 0 ≤ x) (h1 : x ≤ 4294967295) :
    Calls Tryz.prog 118 #[.int .u32 x] w fun e w' => e = .returned (.int .i64 (Lib.bitLen x.toNat)) ∧ w' = w := Any.bits_Len32 lays128 x w h0 h1
def lays125_ren : Go.Shelf.Ren := ⟨fun | 125 => 87 | 128 => 118 | 129 => 119 | n => n, fun | 46 => 22 | 3 => 3 | 51 => 81 | 53 => 146 | 4 => 4 | 5 => 5 | 9 => 9 | n => n, fun | n => n⟩
theorem lays125 : Go.Proofs.Lays.n125 Tryz.prog lays125_ren := {
  mixed := by kernel_rfl
  f125 := Tryz.func87.trans (congrArg some (by kernel_rfl))
  f128 := Tryz.func118.trans (congrArg some (by kernel_rfl))
  f129 := Tryz.func119.trans (congrArg some (by kernel_rfl))
  t3 := Tryz.underlying3
  a3 := Tryz.isAgg3
  z3 := Tryz.sizeOf3
  v3 := Tryz.zeroValue3
  t4 := Tryz.underlying4
  a4 := Tryz.isAgg4
  z4 := Tryz.sizeOf4
  v4 := Tryz.zeroValue4
  t5 := Tryz.underlying5
  a5 := Tryz.isAgg5
  z5 := Tryz.sizeOf5
  v5 := Tryz.zeroValue5
  t9 := Tryz.underlying9
  a9 := Tryz.isAgg9
  z9 := Tryz.sizeOf9
  v9 := Tryz.zeroValue9
  t46 := Tryz.underlying22
  a46 := Tryz.isAgg22
  z46 := Tryz.sizeOf22
  v46 := Tryz.zeroValue22
  t51 := Tryz.underlying81
  a51 := Tryz.isAgg81
  z51 := Tryz.sizeOf81
  v51 := Tryz.zeroValue81
  t53 := Tryz.underlying146
  a53 := Tryz.isAgg146
  z53 := Tryz.sizeOf146
  v53 := Tryz.zeroValue146 }
theorem bits_Len (x : Int) (w : World) (h0 : 0 ≤ x) (h1 : x ≤ 18446744073709551615) :
    Calls Tryz.prog 87 #[.int .u64 x] w fun e w' => e = .returned (.int .i64 (Lib.bitLen x.toNat)) ∧ w' = w := Any.bits_Len lays125 x w h0 h1
def lays134_ren : Go.Shelf.Ren := ⟨fun | 134 => 232 | 129 => 119 | n => n, fun | 53 => 146 | 3 => 3 | 4 => 4 | 46 => 22 | 5 => 5 | 9 => 9 | n => n, fun | n => n⟩
theorem lays134 : Go.Proofs.Lays.n134 Tryz.prog lays134_ren := {
  mixed := by kernel_rfl
  f129 := Tryz.func119.trans (congrArg some (by kernel_rfl))
  f134 := Tryz.func232.trans (congrArg some (by kernel_rfl))
  t3 := Tryz.underlying3
  a3 := Tryz.isAgg3
  z3 := Tryz.sizeOf3
  v3 := Tryz.zeroValue3
  t4 := Tryz.underlying4
  a4 := Tryz.isAgg4
  z4 := Tryz.sizeOf4
  v4 := Tryz.zeroValue4
  t5 := Tryz.underlying5
  a5 := Tryz.isAgg5
  z5 := Tryz.sizeOf5
  v5 := Tryz.zeroValue5
  t9 := Tryz.underlying9
  a9 := Tryz.isAgg9
  z9 := Tryz.sizeOf9
  v9 := Tryz.zeroValue9
  t46 := Tryz.underlying22
  a46 := Tryz.isAgg22
  z46 := Tryz.sizeOf22
  v46 := Tryz.zeroValue22
  t53 := Tryz.underlying146
  a53 := Tryz.isAgg146
  z53 := Tryz.sizeOf146
  v53 := Tryz.zeroValue146 }
theorem bits_LeadingZeros64 (x : Int) (w : World) (h0 : 0 ≤ x) (h1 : x ≤ 18446744073709551615) :
    Calls Tryz.prog 232 #[.int .u64 x] w fun e w' => e = .returned (.int .i64 (64 - (Lib.bitLen x.toNat : Int))) ∧ w' = w := Any.bits_LeadingZeros64 lays134 x w h0 h1
def lays130_ren : Go.Shelf.Ren := ⟨fun | 130 => 146 | 125 => 87 | 128 => 118 | 129 => 119 | n => n, fun | 46 => 22 | 3 => 3 | 51 => 81 | 53 => 146 | 4 => 4 | 5 => 5 | 9 => 9 | n => n, fun | n => n⟩
theorem lays130 : Go.Proofs.Lays.n130 Tryz.prog lays130_ren := {
  mixed := by kernel_rfl
  f125 := Tryz.func87.trans (congrArg some (by kernel_rfl))
  f128 := Tryz.func118.trans (congrArg some (by kernel_rfl))
  f129 := Tryz.func119.trans (congrArg some (by kernel_rfl))
  f130 := Tryz.func146.trans (congrArg some (by kernel_rfl))
  t3 := Tryz.underlying3
  a3 := Tryz.isAgg3
  z3 := Tryz.sizeOf3
  v3 := Tryz.zeroValue3
  t4 := Tryz.underlying4
  a4 := Tryz.isAgg4
  z4 := Tryz.sizeOf4
  v4 := Tryz.zeroValue4
  t5 := Tryz.underlying5
  a5 := Tryz.isAgg5
  z5 := Tryz.sizeOf5
  v5 := Tryz.zeroValue5
  t9 := Tryz.underlying9
  a9 := Tryz.isAgg9
  z9 := Tryz.sizeOf9
  v9 := Tryz.zeroValue9
  t46 := Tryz.underlying22
  a46 := Tryz.isAgg22
  z46 := Tryz.sizeOf22
  v46 := Tryz.zeroValue22
  t51 := Tryz.underlying81
  a51 := Tryz.isAgg81
  z51 := Tryz.sizeOf81
  v51 := Tryz.zeroValue81
  t53 := Tryz.underlying146
  a53 := Tryz.isAgg146
  z53 := Tryz.sizeOf146
  v53 := Tryz.zeroValue146 }
theorem bits_LeadingZeros (x : Int) (w : World) (h0 : 0 ≤ x) (h1 : x ≤ 18446744073709551615) :
    Calls Tryz.prog 146 #[.int .u64 x] w fun e w' => e = .returned (.int .i64 (64 - (Lib.bitLen x.toNat : Int))) ∧ w' = w := Any.bits_LeadingZeros lays130 x w h0 h1
def lays129_ren : Go.Shelf.Ren := ⟨fun | 129 => 119 | n => n, fun | 53 => 146 | 3 => 3 | 4 => 4 | 46 => 22 | 5 => 5 | 9 => 9 | n => n, fun | n => n⟩
theorem lays129 : Go.Proofs.Lays.n129 Tryz.prog lays129_ren := {
  mixed := by kernel_rfl
  f129 := Tryz.func119.trans (congrArg some (by kernel_rfl))
  t3 := Tryz.underlying3
  a3 := Tryz.isAgg3
  z3 := Tryz.sizeOf3
  v3 := Tryz.zeroValue3
  t4 := Tryz.underlying4
  a4 := Tryz.isAgg4
  z4 := Tryz.sizeOf4
  v4 := Tryz.zeroValue4
  t5 := Tryz.underlying5
  a5 := Tryz.isAgg5
  z5 := Tryz.sizeOf5
  v5 := Tryz.zeroValue5
  t9 := Tryz.underlying9
  a9 := Tryz.isAgg9
  z9 := Tryz.sizeOf9
  v9 := Tryz.zeroValue9
  t46 := Tryz.underlying22
  a46 := Tryz.isAgg22
  z46 := Tryz.sizeOf22
  v46 := Tryz.zeroValue22
  t53 := Tryz.underlying146
  a53 := Tryz.isAgg146
  z53 := Tryz.sizeOf146
  v53 := Tryz.zeroValue146 }
theorem bits_Len64 (x : Int) (w : World) (h0 : 0 ≤ x) (h1 : x ≤ 18446744073709551615) :
    Calls Tryz.prog 119 #[.int .u64 x] w fun e w' => e = .returned (.int .i64 (Lib.bitLen x.toNat)) ∧ w' = w := Any.bits_Len64 lays129 x w h0 h1
def lays317_ren : Go.Shelf.Ren := ⟨fun | 317 => 177 | n => n, fun | 3 => 3 | 46 => 22 | n => n, fun | n => n⟩
theorem lays317 : Go.Proofs.Lays.n317 Tryz.prog lays317_ren := {
  mixed := by kernel_rfl
  f317 := Tryz.func177.trans (congrArg some (by kernel_rfl))
  t3 := Tryz.underlying3
  a3 := Tryz.isAgg3
  z3 := Tryz.sizeOf3
  v3 := Tryz.zeroValue3
  t46 := Tryz.underlying22
  a46 := Tryz.isAgg22
  z46 := Tryz.sizeOf22
  v46 := Tryz.zeroValue22 }
open Go.Lib in
theorem internal_strconv_log10Pow2 (x : Nat) (h : x ≤ 64) (w : World) :
    Calls Tryz.prog 177 #[.int .i64 x] w fun e w' => e = .returned (.int .i64 (Lib.l10 x)) ∧ w' = w := Any.internal_strconv_log10Pow2 lays317 x h w
def lays318_ren : Go.Shelf.Ren := ⟨fun | 318 => 178 | n => n, fun | 3 => 3 | 4 => 4 | n => n, fun | n => n⟩
theorem lays318 : Go.Proofs.Lays.n318 Tryz.prog lays318_ren := {
  mixed := by kernel_rfl
  f318 := Tryz.func178.trans (congrArg some (by kernel_rfl))
  t3 := Tryz.underlying3
  a3 := Tryz.isAgg3
  z3 := Tryz.sizeOf3
  v3 := Tryz.zeroValue3
  t4 := Tryz.underlying4
  a4 := Tryz.isAgg4
  z4 := Tryz.sizeOf4
  v4 := Tryz.zeroValue4 }
open Go.Lib in
theorem internal_strconv_bool2_int (b : Bool) (w : World) :
    Calls Tryz.prog 178 #[.bool b] w fun e w' => e = .returned (.int .i64 (if b then 1 else 0)) ∧ w' = w := Any.internal_strconv_bool2_int lays318 b w
def lays283_ren : Go.Shelf.Ren := ⟨fun | 283 => 156 | n => n, fun | 3 => 3 | 9 => 9 | 4 => 4 | n => n, fun | n => n⟩
theorem lays283 : Go.Proofs.Lays.n283 Tryz.prog lays283_ren := {
  mixed := by kernel_rfl
  f283 := Tryz.func156.trans (congrArg some (by kernel_rfl))
  t3 := Tryz.underlying3
  a3 := Tryz.isAgg3
  z3 := Tryz.sizeOf3
  v3 := Tryz.zeroValue3
  t4 := Tryz.underlying4
  a4 := Tryz.isAgg4
  z4 := Tryz.sizeOf4
  v4 := Tryz.zeroValue4
  t9 := Tryz.underlying9
  a9 := Tryz.isAgg9
  z9 := Tryz.sizeOf9
  v9 := Tryz.zeroValue9 }
open Go.Lib in
theorem internal_strconv_small (i : Nat) (h : i < 100) (w : World) :
    Calls Tryz.prog 156 #[.int .i64 i] w fun e w' => e = .returned (.string ⟨(Lib.decDigits i).toArray⟩) ∧ w' = w := Any.internal_strconv_small lays283 i h w
def laysM284_ren : Go.Shelf.Ren := ⟨fun | 284 => 157 | 129 => 119 | 317 => 177 | 318 => 178 | n => n, fun | 53 => 146 | 3 => 3 | 212 => 204 | 0 => 0 | 4 => 4 | 46 => 22 | 5 => 5 | 9 => 9 | n => n, fun | 17 => 6 | n => n⟩
theorem laysM284 : Go.Proofs.LaysM.n284 Tryz.prog laysM284_ren := {
  mixed := by kernel_rfl
  f129 := Tryz.func119.trans (congrArg some (by kernel_rfl))
  f284 := Tryz.func157.trans (congrArg some (by kernel_rfl))
  f317 := Tryz.func177.trans (congrArg some (by kernel_rfl))
  f318 := Tryz.func178.trans (congrArg some (by kernel_rfl))
  t0 := Tryz.underlying0
  a0 := Tryz.isAgg0
  z0 := Tryz.sizeOf0
  v0 := Tryz.zeroValue0
  t3 := Tryz.underlying3
  a3 := Tryz.isAgg3
  z3 := Tryz.sizeOf3
  v3 := Tryz.zeroValue3
  t4 := Tryz.underlying4
  a4 := Tryz.isAgg4
  z4 := Tryz.sizeOf4
  v4 := Tryz.zeroValue4
  t5 := Tryz.underlying5
  a5 := Tryz.isAgg5
  z5 := Tryz.sizeOf5
  v5 := Tryz.zeroValue5
  t9 := Tryz.underlying9
  a9 := Tryz.isAgg9
  z9 := Tryz.sizeOf9
  v9 := Tryz.zeroValue9
  t46 := Tryz.underlying22
  a46 := Tryz.isAgg22
  z46 := Tryz.sizeOf22
  v46 := Tryz.zeroValue22
  t53 := Tryz.underlying146
  a53 := Tryz.isAgg146
  z53 := Tryz.sizeOf146
  v53 := Tryz.zeroValue146
  t212 := Tryz.underlying204
  a212 := Tryz.isAgg204
  z212 := Tryz.sizeOf204
  v212 := Tryz.zeroValue204
  g17 := by kernel_rfl
  i0 := by kernel_rfl
  i3 := by kernel_rfl
  i4 := by kernel_rfl
  i5 := by kernel_rfl
  i9 := by kernel_rfl
  i46 := by kernel_rfl
  i53 := by kernel_rfl
  i212 := by kernel_rfl
  m17 := by kernel_rfl }
open Go.Lib in
theorem internal_strconv_numDigits (u : Nat) (h1 : 1 ≤ u) (h2 : u < 18446744073709551616) (w : World) (htab : Lib.TabIs Tryz.prog w "internal/strconv.uint64pow10" .u64 Lib.pow10Tab) :
    Calls Tryz.prog 157 #[.int .u64 u] w fun e w' => e = .returned (.int .i64 (Lib.nDigits u)) ∧ w' = w := Any.internal_strconv_numDigits laysM284 u h1 h2 w htab
def lays285_ren : Go.Shelf.Ren := ⟨fun | 285 => 158 | n => n, fun | 37 => 47 | 53 => 146 | 3 => 3 | 4 => 4 | 51 => 81 | 9 => 9 | 5 => 5 | 0 => 0 | n => n, fun | n => n⟩
theorem lays285 : Go.Proofs.Lays.n285 Tryz.prog lays285_ren := {
  mixed := by kernel_rfl
  f285 := Tryz.func158.trans (congrArg some (by kernel_rfl))
  t0 := Tryz.underlying0
  a0 := Tryz.isAgg0
  z0 := Tryz.sizeOf0
  v0 := Tryz.zeroValue0
  t3 := Tryz.underlying3
  a3 := Tryz.isAgg3
  z3 := Tryz.sizeOf3
  v3 := Tryz.zeroValue3
  t4 := Tryz.underlying4
  a4 := Tryz.isAgg4
  z4 := Tryz.sizeOf4
  v4 := Tryz.zeroValue4
  t5 := Tryz.underlying5
  a5 := Tryz.isAgg5
  z5 := Tryz.sizeOf5
  v5 := Tryz.zeroValue5
  t9 := Tryz.underlying9
  a9 := Tryz.isAgg9
  z9 := Tryz.sizeOf9
  v9 := Tryz.zeroValue9
  t37 := Tryz.underlying47
  a37 := Tryz.isAgg47
  z37 := Tryz.sizeOf47
  v37 := Tryz.zeroValue47
  t51 := Tryz.underlying81
  a51 := Tryz.isAgg81
  z51 := Tryz.sizeOf81
  v51 := Tryz.zeroValue81
  t53 := Tryz.underlying146
  a53 := Tryz.isAgg146
  z53 := Tryz.sizeOf146
  v53 := Tryz.zeroValue146 }
open Go.RowKit Go.Sort Go.Lib in
theorem internal_strconv_formatBase10 (blk off cap : Nat) (u : Nat) (d : Array UInt8) (w : World) (hH : Holds (fun (b : UInt8) => Value.int .u8 (b.toNat : Int)) w blk off d) (hu : u < 10 ^ d.size) (hu64 : u < 18446744073709551616) (hsz : d.size < 4611686018427387904) :
    Calls Tryz.prog 158 #[.slice (some ⟨blk, off, none⟩) d.size cap, .int .u64 u] w fun e w' =>
      e = .returned (.tuple #[]) ∧ ∃ (n v' : Nat) (dk : Array UInt8), w' = (putRow (fun (b : UInt8) => Value.int .u8 (b.toNat : Int)) w blk off dk).drewN n ∧ FmtInv d.size u 0 v' dk := Any.internal_strconv_formatBase10 lays285 blk off cap u d w hH hu hu64 hsz
def laysM288_ren : Go.Shelf.Ren := ⟨fun | 288 => 134 | 283 => 156 | 284 => 157 | 285 => 158 | 286 => 159 | 129 => 119 | 317 => 177 | 318 => 178 | 319 => 179 | 320 => 116 | 337 => 140 | 338 => 141 | n => n, fun | 37 => 47 | 53 => 146 | 3 => 3 | 4 => 4 | 9 => 9 | 171 => 181 | 0 => 0 | 173 => 183 | 212 => 204 | 51 => 81 | 5 => 5 | 20 => 20 | 213 => 205 | 46 => 22 | 232 => 185 | 233 => 186 | n => n, fun | 17 => 6 | 18 => 2 | 19 => 3 | n => n⟩
theorem laysM288 : Go.Proofs.LaysM.n288 Tryz.prog laysM288_ren := {
  mixed := by kernel_rfl
  f129 := Tryz.func119.trans (congrArg some (by kernel_rfl))
  f283 := Tryz.func156.trans (congrArg some (by kernel_rfl))
  f284 := Tryz.func157.trans (congrArg some (by kernel_rfl))
  f285 := Tryz.func158.trans (congrArg some (by kernel_rfl))
  f286 := Tryz.func159.trans (congrArg some (by kernel_rfl))
  f288 := Tryz.func134.trans (congrArg some (by kernel_rfl))
  f317 := Tryz.func177.trans (congrArg some (by kernel_rfl))
  f318 := Tryz.func178.trans (congrArg some (by kernel_rfl))
  f319 := Tryz.func179.trans (congrArg some (by kernel_rfl))
  f320 := Tryz.func116.trans (congrArg some (by kernel_rfl))
  f337 := Tryz.func140.trans (congrArg some (by kernel_rfl))
  f338 := Tryz.func141.trans (congrArg some (by kernel_rfl))
  t0 := Tryz.underlying0
  a0 := Tryz.isAgg0
  z0 := Tryz.sizeOf0
  v0 := Tryz.zeroValue0
  t3 := Tryz.underlying3
  a3 := Tryz.isAgg3
  z3 := Tryz.sizeOf3
  v3 := Tryz.zeroValue3
  t4 := Tryz.underlying4
  a4 := Tryz.isAgg4
  z4 := Tryz.sizeOf4
  v4 := Tryz.zeroValue4
  t5 := Tryz.underlying5
  a5 := Tryz.isAgg5
  z5 := Tryz.sizeOf5
  v5 := Tryz.zeroValue5
  t9 := Tryz.underlying9
  a9 := Tryz.isAgg9
  z9 := Tryz.sizeOf9
  v9 := Tryz.zeroValue9
  t20 := Tryz.underlying20
  a20 := Tryz.isAgg20
  z20 := Tryz.sizeOf20
  v20 := Tryz.zeroValue20
  t37 := Tryz.underlying47
  a37 := Tryz.isAgg47
  z37 := Tryz.sizeOf47
  v37 := Tryz.zeroValue47
  t46 := Tryz.underlying22
  a46 := Tryz.isAgg22
  z46 := Tryz.sizeOf22
  v46 := Tryz.zeroValue22
  t51 := Tryz.underlying81
  a51 := Tryz.isAgg81
  z51 := Tryz.sizeOf81
  v51 := Tryz.zeroValue81
  t53 := Tryz.underlying146
  a53 := Tryz.isAgg146
  z53 := Tryz.sizeOf146
  v53 := Tryz.zeroValue146
  t171 := Tryz.underlying181
  a171 := Tryz.isAgg181
  z171 := Tryz.sizeOf181
  v171 := Tryz.zeroValue181
  t173 := Tryz.underlying183
  a173 := Tryz.isAgg183
  z173 := Tryz.sizeOf183
  v173 := Tryz.zeroValue183
  t212 := Tryz.underlying204
  a212 := Tryz.isAgg204
  z212 := Tryz.sizeOf204
  v212 := Tryz.zeroValue204
  t213 := Tryz.underlying205
  a213 := Tryz.isAgg205
  z213 := Tryz.sizeOf205
  t232 := Tryz.underlying185
  a232 := Tryz.isAgg185
  z232 := Tryz.sizeOf185
  v232 := Tryz.zeroValue185
  t233 := Tryz.underlying186
  a233 := Tryz.isAgg186
  z233 := Tryz.sizeOf186
  v233 := Tryz.zeroValue186
  g17 := by kernel_rfl
  g18 := by kernel_rfl
  g19 := by kernel_rfl
  i0 := by kernel_rfl
  i3 := by kernel_rfl
  i4 := by kernel_rfl
  i5 := by kernel_rfl
  i9 := by kernel_rfl
  i20 := by kernel_rfl
  i37 := by kernel_rfl
  i46 := by kernel_rfl
  i51 := by kernel_rfl
  i53 := by kernel_rfl
  i171 := by kernel_rfl
  i173 := by kernel_rfl
  i212 := by kernel_rfl
  i232 := by kernel_rfl
  i233 := by kernel_rfl
  m17 := by kernel_rfl
  m18 := by kernel_rfl
  m19 := by kernel_rfl }
open Go.RowKit Go.Sort Go.Lib in
theorem internal_strconv_AppendUint_10_small (B n u : Nat) (hu : u < 100) (sv : Value) (xs : List Value) (w : World) (hown : w.ownsRow B 5 1 sv n xs) (hBw : B ≤ w.heap.size) (hlim : n + 20 ≤ 140737488355328) :
    Calls Tryz.prog 134 #[sv, .int .u64 u, .int .i64 10] w fun e w' => ∃ v', e = .returned v' ∧ w'.ownsRow B 5 1 v' (n + (Lib.decDigits u).length) (xs ++ Lib.byteCells (Lib.decDigits u)) ∧ Below B w w' ∧ Lib.OthersKept 5 none w w' := Any.internal_strconv_AppendUint_10_small laysM288 B n u hu sv xs w hown hBw hlim
open Go.RowKit Go.Sort Go.Lib in
theorem internal_strconv_AppendUint_10_big (B n u : Nat) (hu : 100 ≤ u) (hu64 : u < 18446744073709551616) (sv : Value) (xs : List Value) (w : World) (hown : w.ownsRow B 5 1 sv n xs) (hBw : B ≤ w.heap.size) (hlim : n + 20 ≤ 140737488355328) (htab : Lib.TabIs Tryz.prog w "internal/strconv.uint64pow10" .u64 Lib.pow10Tab) :
    Calls Tryz.prog 134 #[sv, .int .u64 u, .int .i64 10] w fun e w' => ∃ v', e = .returned v' ∧ w'.ownsRow B 5 1 v' (n + (Lib.decDigits u).length) (xs ++ Lib.byteCells (Lib.decDigits u)) ∧ Below B w w' ∧ Lib.OthersKept 5 none w w' := Any.internal_strconv_AppendUint_10_big laysM288 B n u hu hu64 sv xs w hown hBw hlim htab
open Go.RowKit Go.Sort Go.Lib in
theorem internal_strconv_AppendUint_10 (B n u : Nat) (hu64 : u < 18446744073709551616) (sv : Value) (xs : List Value) (w : World) (hown : w.ownsRow B 5 1 sv n xs) (hBw : B ≤ w.heap.size) (hlim : n + 20 ≤ 140737488355328) (htab : Lib.TabIs Tryz.prog w "internal/strconv.uint64pow10" .u64 Lib.pow10Tab) :
    Calls Tryz.prog 134 #[sv, .int .u64 u, .int .i64 10] w fun e w' => ∃ v', e = .returned v' ∧ w'.ownsRow B 5 1 v' (n + (Lib.decDigits u).length) (xs ++ Lib.byteCells (Lib.decDigits u)) ∧ Below B w w' ∧ Lib.OthersKept 5 none w w' := Any.internal_strconv_AppendUint_10 laysM288 B n u hu64 sv xs w hown hBw hlim htab
def laysM249_ren : Go.Shelf.Ren := ⟨fun | 249 => 109 | 288 => 134 | 283 => 156 | 284 => 157 | 285 => 158 | 286 => 159 | 129 => 119 | 317 => 177 | 318 => 178 | 319 => 179 | 320 => 116 | 337 => 140 | 338 => 141 | n => n, fun | 37 => 47 | 2 => 2 | 3 => 3 | 53 => 146 | 4 => 4 | 9 => 9 | 171 => 181 | 0 => 0 | 173 => 183 | 212 => 204 | 51 => 81 | 5 => 5 | 20 => 20 | 213 => 205 | 46 => 22 | 232 => 185 | 233 => 186 | n => n, fun | 17 => 6 | 18 => 2 | 19 => 3 | n => n⟩
theorem laysM249 : Go.Proofs.LaysM.n249 Tryz.prog laysM249_ren := {
  mixed := by kernel_rfl
  f129 := Tryz.func119.trans (congrArg some (by kernel_rfl))
  f249 := Tryz.func109.trans (congrArg some (by kernel_rfl))
  f283 := Tryz.func156.trans (congrArg some (by kernel_rfl))
  f284 := Tryz.func157.trans (congrArg some (by kernel_rfl))
  f285 := Tryz.func158.trans (congrArg some (by kernel_rfl))
  f286 := Tryz.func159.trans (congrArg some (by kernel_rfl))
  f288 := Tryz.func134.trans (congrArg some (by kernel_rfl))
  f317 := Tryz.func177.trans (congrArg some (by kernel_rfl))
  f318 := Tryz.func178.trans (congrArg some (by kernel_rfl))
  f319 := Tryz.func179.trans (congrArg some (by kernel_rfl))
  f320 := Tryz.func116.trans (congrArg some (by kernel_rfl))
  f337 := Tryz.func140.trans (congrArg some (by kernel_rfl))
  f338 := Tryz.func141.trans (congrArg some (by kernel_rfl))
  t0 := Tryz.underlying0
  a0 := Tryz.isAgg0
  z0 := Tryz.sizeOf0
  v0 := Tryz.zeroValue0
  t2 := Tryz.underlying2
  a2 := Tryz.isAgg2
  z2 := Tryz.sizeOf2
  v2 := Tryz.zeroValue2
  t3 := Tryz.underlying3
  a3 := Tryz.isAgg3
  z3 := Tryz.sizeOf3
  v3 := Tryz.zeroValue3
  t4 := Tryz.underlying4
  a4 := Tryz.isAgg4
  z4 := Tryz.sizeOf4
  v4 := Tryz.zeroValue4
  t5 := Tryz.underlying5
  a5 := Tryz.isAgg5
  z5 := Tryz.sizeOf5
  v5 := Tryz.zeroValue5
  t9 := Tryz.underlying9
  a9 := Tryz.isAgg9
  z9 := Tryz.sizeOf9
  v9 := Tryz.zeroValue9
  t20 := Tryz.underlying20
  a20 := Tryz.isAgg20
  z20 := Tryz.sizeOf20
  v20 := Tryz.zeroValue20
  t37 := Tryz.underlying47
  a37 := Tryz.isAgg47
  z37 := Tryz.sizeOf47
  v37 := Tryz.zeroValue47
  t46 := Tryz.underlying22
  a46 := Tryz.isAgg22
  z46 := Tryz.sizeOf22
  v46 := Tryz.zeroValue22
  t51 := Tryz.underlying81
  a51 := Tryz.isAgg81
  z51 := Tryz.sizeOf81
  v51 := Tryz.zeroValue81
  t53 := Tryz.underlying146
  a53 := Tryz.isAgg146
  z53 := Tryz.sizeOf146
  v53 := Tryz.zeroValue146
  t171 := Tryz.underlying181
  a171 := Tryz.isAgg181
  z171 := Tryz.sizeOf181
  v171 := Tryz.zeroValue181
  t173 := Tryz.underlying183
  a173 := Tryz.isAgg183
  z173 := Tryz.sizeOf183
  v173 := Tryz.zeroValue183
  t212 := Tryz.underlying204
  a212 := Tryz.isAgg204
  z212 := Tryz.sizeOf204
  v212 := Tryz.zeroValue204
  t213 := Tryz.underlying205
  a213 := Tryz.isAgg205
  z213 := Tryz.sizeOf205
  t232 := Tryz.underlying185
  a232 := Tryz.isAgg185
  z232 := Tryz.sizeOf185
  v232 := Tryz.zeroValue185
  t233 := Tryz.underlying186
  a233 := Tryz.isAgg186
  z233 := Tryz.sizeOf186
  v233 := Tryz.zeroValue186
  g17 := by kernel_rfl
  g18 := by kernel_rfl
  g19 := by kernel_rfl
  i0 := by kernel_rfl
  i2 := by kernel_rfl
  i3 := by kernel_rfl
  i4 := by kernel_rfl
  i5 := by kernel_rfl
  i9 := by kernel_rfl
  i20 := by kernel_rfl
  i37 := by kernel_rfl
  i46 := by kernel_rfl
  i51 := by kernel_rfl
  i53 := by kernel_rfl
  i171 := by kernel_rfl
  i173 := by kernel_rfl
  i212 := by kernel_rfl
  i232 := by kernel_rfl
  i233 := by kernel_rfl
  m17 := by kernel_rfl
  m18 := by kernel_rfl
  m19 := by kernel_rfl }
open Go.RowKit Go.Sort Go.Lib in
theorem internal_strconv_AppendInt_10 (B n : Nat) (i : Int) (h0 : -9223372036854775808 ≤ i) (h1 : i ≤ 9223372036854775807) (sv : Value) (xs : List Value) (w : World) (hown : w.ownsRow B 5 1 sv n xs) (hBw : B ≤ w.heap.size) (hlim : n + 21 ≤ 140737488355328) (htab : Lib.TabBelow Tryz.prog B w "internal/strconv.uint64pow10" .u64 Lib.pow10Tab) :
    Calls Tryz.prog 109 #[sv, .int .i64 i, .int .i64 10] w fun e w' => ∃ v', e = .returned v' ∧ w'.ownsRow B 5 1 v' (n + (Lib.itoa i).length) (xs ++ Lib.byteCells (Lib.itoa i)) ∧ Below B w w' ∧ Lib.OthersKept 5 none w w' := Any.internal_strconv_AppendInt_10 laysM249 B n i h0 h1 sv xs w hown hBw hlim htab
def laysM176_ren : Go.Shelf.Ren := ⟨fun | 176 => 80 | 249 => 109 | 288 => 134 | 283 => 156 | 284 => 157 | 285 => 158 | 286 => 159 | 129 => 119 | 317 => 177 | 318 => 178 | 319 => 179 | 320 => 116 | 337 => 140 | 338 => 141 | n => n, fun | 37 => 47 | 2 => 2 | 3 => 3 | 53 => 146 | 4 => 4 | 9 => 9 | 171 => 181 | 0 => 0 | 173 => 183 | 212 => 204 | 51 => 81 | 5 => 5 | 20 => 20 | 213 => 205 | 46 => 22 | 232 => 185 | 233 => 186 | n => n, fun | 17 => 6 | 18 => 2 | 19 => 3 | n => n⟩
theorem laysM176 : Go.Proofs.LaysM.n176 Tryz.prog laysM176_ren := {
  mixed := by kernel_rfl
  f129 := Tryz.func119.trans (congrArg some (by kernel_rfl))
  f176 := Tryz.func80.trans (congrArg some (by kernel_rfl))
  f249 := Tryz.func109.trans (congrArg some (by kernel_rfl))
  f283 := Tryz.func156.trans (congrArg some (by kernel_rfl))
  f284 := Tryz.func157.trans (congrArg some (by kernel_rfl))
  f285 := Tryz.func158.trans (congrArg some (by kernel_rfl))
  f286 := Tryz.func159.trans (congrArg some (by kernel_rfl))
  f288 := Tryz.func134.trans (congrArg some (by kernel_rfl))
  f317 := Tryz.func177.trans (congrArg some (by kernel_rfl))
  f318 := Tryz.func178.trans (congrArg some (by kernel_rfl))
  f319 := Tryz.func179.trans (congrArg some (by kernel_rfl))
  f320 := Tryz.func116.trans (congrArg some (by kernel_rfl))
  f337 := Tryz.func140.trans (congrArg some (by kernel_rfl))
  f338 := Tryz.func141.trans (congrArg some (by kernel_rfl))
  t0 := Tryz.underlying0
  a0 := Tryz.isAgg0
  z0 := Tryz.sizeOf0
  v0 := Tryz.zeroValue0
  t2 := Tryz.underlying2
  a2 := Tryz.isAgg2
  z2 := Tryz.sizeOf2
  v2 := Tryz.zeroValue2
  t3 := Tryz.underlying3
  a3 := Tryz.isAgg3
  z3 := Tryz.sizeOf3
  v3 := Tryz.zeroValue3
  t4 := Tryz.underlying4
  a4 := Tryz.isAgg4
  z4 := Tryz.sizeOf4
  v4 := Tryz.zeroValue4
  t5 := Tryz.underlying5
  a5 := Tryz.isAgg5
  z5 := Tryz.sizeOf5
  v5 := Tryz.zeroValue5
  t9 := Tryz.underlying9
  a9 := Tryz.isAgg9
  z9 := Tryz.sizeOf9
  v9 := Tryz.zeroValue9
  t20 := Tryz.underlying20
  a20 := Tryz.isAgg20
  z20 := Tryz.sizeOf20
  v20 := Tryz.zeroValue20
  t37 := Tryz.underlying47
  a37 := Tryz.isAgg47
  z37 := Tryz.sizeOf47
  v37 := Tryz.zeroValue47
  t46 := Tryz.underlying22
  a46 := Tryz.isAgg22
  z46 := Tryz.sizeOf22
  v46 := Tryz.zeroValue22
  t51 := Tryz.underlying81
  a51 := Tryz.isAgg81
  z51 := Tryz.sizeOf81
  v51 := Tryz.zeroValue81
  t53 := Tryz.underlying146
  a53 := Tryz.isAgg146
  z53 := Tryz.sizeOf146
  v53 := Tryz.zeroValue146
  t171 := Tryz.underlying181
  a171 := Tryz.isAgg181
  z171 := Tryz.sizeOf181
  v171 := Tryz.zeroValue181
  t173 := Tryz.underlying183
  a173 := Tryz.isAgg183
  z173 := Tryz.sizeOf183
  v173 := Tryz.zeroValue183
  t212 := Tryz.underlying204
  a212 := Tryz.isAgg204
  z212 := Tryz.sizeOf204
  v212 := Tryz.zeroValue204
  t213 := Tryz.underlying205
  a213 := Tryz.isAgg205
  z213 := Tryz.sizeOf205
  t232 := Tryz.underlying185
  a232 := Tryz.isAgg185
  z232 := Tryz.sizeOf185
  v232 := Tryz.zeroValue185
  t233 := Tryz.underlying186
  a233 := Tryz.isAgg186
  z233 := Tryz.sizeOf186
  v233 := Tryz.zeroValue186
  g17 := by kernel_rfl
  g18 := by kernel_rfl
  g19 := by kernel_rfl
  i0 := by kernel_rfl
  i2 := by kernel_rfl
  i3 := by kernel_rfl
  i4 := by kernel_rfl
  i5 := by kernel_rfl
  i9 := by kernel_rfl
  i20 := by kernel_rfl
  i37 := by kernel_rfl
  i46 := by kernel_rfl
  i51 := by kernel_rfl
  i53 := by kernel_rfl
  i171 := by kernel_rfl
  i173 := by kernel_rfl
  i212 := by kernel_rfl
  i232 := by kernel_rfl
  i233 := by kernel_rfl
  m17 := by kernel_rfl
  m18 := by kernel_rfl
  m19 := by kernel_rfl }
open Go.RowKit Go.Sort Go.Lib in
theorem strconv_AppendInt_10 (B n : Nat) (i : Int) (h0 : -9223372036854775808 ≤ i) (h1 : i ≤ 9223372036854775807) (sv : Value) (xs : List Value) (w : World) (hown : w.ownsRow B 5 1 sv n xs) (hBw : B ≤ w.heap.size) (hlim : n + 21 ≤ 140737488355328) (htab : Lib.TabBelow Tryz.prog B w "internal/strconv.uint64pow10" .u64 Lib.pow10Tab) :
    Calls Tryz.prog 80 #[sv, .int .i64 i, .int .i64 10] w fun e w' => ∃ v', e = .returned v' ∧ w'.ownsRow B 5 1 v' (n + (Lib.itoa i).length) (xs ++ Lib.byteCells (Lib.itoa i)) ∧ Below B w w' ∧ Lib.OthersKept 5 none w w' := Any.strconv_AppendInt_10 laysM176 B n i h0 h1 sv xs w hown hBw hlim htab
def lays264_ren : Go.Shelf.Ren := ⟨fun | 264 => 219 | n => n, fun | 53 => 146 | 46 => 22 | n => n, fun | n => n⟩
theorem lays264 : Go.Proofs.Lays.n264 Tryz.prog lays264_ren := {
  mixed := by kernel_rfl
  f264 := Tryz.func219.trans (congrArg some (by kernel_rfl))
  t46 := Tryz.underlying22
  a46 := Tryz.isAgg22
  z46 := Tryz.sizeOf22
  v46 := Tryz.zeroValue22
  t53 := Tryz.underlying146
  a53 := Tryz.isAgg146
  z53 := Tryz.sizeOf146
  v53 := Tryz.zeroValue146 }
open Go.RowKit Go.Lib in
theorem bits_Mul64 (x y : Nat) (hx : x < 18446744073709551616) (hy : y < 18446744073709551616) (w : World) :
    Calls Tryz.prog 219 #[.int .u64 x, .int .u64 y] w fun e w' => e = .returned (.tuple #[.int .u64 ((x * y / 18446744073709551616 : Nat) : Int), .int .u64 ((x * y % 18446744073709551616 : Nat) : Int)]) ∧ w' = w := Any.bits_Mul64 lays264 x y hx hy w
def lays212_ren : Go.Shelf.Ren := ⟨fun | 212 => 191 | 263 => 218 | 264 => 219 | n => n, fun | 46 => 22 | 51 => 81 | 146 => 187 | 53 => 146 | 148 => 189 | n => n, fun | n => n⟩
theorem lays212 : Go.Proofs.Lays.n212 Tryz.prog lays212_ren := {
  mixed := by kernel_rfl
  f212 := Tryz.func191.trans (congrArg some (by kernel_rfl))
  f263 := Tryz.func218.trans (congrArg some (by kernel_rfl))
  f264 := Tryz.func219.trans (congrArg some (by kernel_rfl))
  t46 := Tryz.underlying22
  a46 := Tryz.isAgg22
  z46 := Tryz.sizeOf22
  v46 := Tryz.zeroValue22
  t51 := Tryz.underlying81
  a51 := Tryz.isAgg81
  z51 := Tryz.sizeOf81
  v51 := Tryz.zeroValue81
  t53 := Tryz.underlying146
  a53 := Tryz.isAgg146
  z53 := Tryz.sizeOf146
  v53 := Tryz.zeroValue146
  t146 := Tryz.underlying187
  a146 := Tryz.isAgg187
  z146 := Tryz.sizeOf187
  v146 := Tryz.zeroValue187
  t148 := Tryz.underlying189
  a148 := Tryz.isAgg189
  z148 := Tryz.sizeOf189
  v148 := Tryz.zeroValue189 }
open Go.RowKit Go.Lib in
theorem bits_Mul (x y : Nat) (hx : x < 18446744073709551616) (hy : y < 18446744073709551616) (w : World) :
    Calls Tryz.prog 191 #[.int .u64 x, .int .u64 y] w fun e w' => e = .returned (.tuple #[.int .u64 ((x * y / 18446744073709551616 : Nat) : Int), .int .u64 ((x * y % 18446744073709551616 : Nat) : Int)]) ∧ w' = w := Any.bits_Mul lays212 x y hx hy w
def lays725_ren : Go.Shelf.Ren := ⟨fun | 25 => 165 | n => n, fun | 22 => 146 | n => n, fun | n => n⟩
theorem lays725 : Go.Proofs.Lays7.n25 Tryz.prog lays725_ren := {
  mixed := by kernel_rfl
  f25 := Tryz.func165.trans (congrArg some (by kernel_rfl))
  t22 := Tryz.underlying146
  a22 := Tryz.isAgg146
  z22 := Tryz.sizeOf146
  v22 := Tryz.zeroValue146
  i22 := by kernel_rfl }
theorem bits_Add64 (x y c : Nat) (hc : c ≤ 1) (w : World) : (callFunc 165 #[.int .u64 x, .int .u64 y, .int .u64 c]).run Tryz.prog w = .ok (.value (.tuple #[.int .u64 (((x + y + c) % 18446744073709551616 : Nat) : Int), .int .u64 (((x + y + c) / 18446744073709551616 : Nat) : Int)])) w := Any7.bits_Add64 lays725 x y c hc w
def lays726_ren : Go.Shelf.Ren := ⟨fun | 26 => 163 | n => n, fun | 22 => 146 | n => n, fun | n => n⟩
theorem lays726 : Go.Proofs.Lays7.n26 Tryz.prog lays726_ren := {
  mixed := by kernel_rfl
  f26 := Tryz.func163.trans (congrArg some (by kernel_rfl))
  t22 := Tryz.underlying146
  a22 := Tryz.isAgg146
  z22 := Tryz.sizeOf146
  v22 := Tryz.zeroValue146
  i22 := by kernel_rfl }
theorem bits_Sub64 (x y b : Nat) (hb : b ≤ 1) (w : World) : (callFunc 163 #[.int .u64 x, .int .u64 y, .int .u64 b]).run Tryz.prog w = .ok (.value (.tuple #[.int .u64 (((x + 18446744073709551616 - y - b) % 18446744073709551616 : Nat) : Int), .int .u64 ((if x < y + b then 1 else 0 : Nat) : Int)])) w := Any7.bits_Sub64 lays726 x y b hb w
def lays727_ren : Go.Shelf.Ren := ⟨fun | 27 => 116 | 28 => 140 | 29 => 141 | n => n, fun | 25 => 22 | 3 => 3 | 27 => 81 | 22 => 146 | 4 => 4 | 53 => 185 | 0 => 0 | 5 => 5 | 54 => 186 | n => n, fun | 0 => 2 | 1 => 3 | n => n⟩
theorem lays727 : Go.Proofs.Lays7.n27 Tryz.prog lays727_ren := {
  mixed := by kernel_rfl
  f27 := Tryz.func116.trans (congrArg some (by kernel_rfl))
  f28 := Tryz.func140.trans (congrArg some (by kernel_rfl))
  f29 := Tryz.func141.trans (congrArg some (by kernel_rfl))
  t0 := Tryz.underlying0
  a0 := Tryz.isAgg0
  z0 := Tryz.sizeOf0
  v0 := Tryz.zeroValue0
  i0 := by kernel_rfl
  t3 := Tryz.underlying3
  a3 := Tryz.isAgg3
  z3 := Tryz.sizeOf3
  v3 := Tryz.zeroValue3
  i3 := by kernel_rfl
  t4 := Tryz.underlying4
  a4 := Tryz.isAgg4
  z4 := Tryz.sizeOf4
  v4 := Tryz.zeroValue4
  i4 := by kernel_rfl
  t5 := Tryz.underlying5
  a5 := Tryz.isAgg5
  z5 := Tryz.sizeOf5
  v5 := Tryz.zeroValue5
  i5 := by kernel_rfl
  t22 := Tryz.underlying146
  a22 := Tryz.isAgg146
  z22 := Tryz.sizeOf146
  v22 := Tryz.zeroValue146
  i22 := by kernel_rfl
  t25 := Tryz.underlying22
  a25 := Tryz.isAgg22
  z25 := Tryz.sizeOf22
  v25 := Tryz.zeroValue22
  i25 := by kernel_rfl
  t27 := Tryz.underlying81
  a27 := Tryz.isAgg81
  z27 := Tryz.sizeOf81
  v27 := Tryz.zeroValue81
  i27 := by kernel_rfl
  t53 := Tryz.underlying185
  a53 := Tryz.isAgg185
  z53 := Tryz.sizeOf185
  v53 := Tryz.zeroValue185
  i53 := by kernel_rfl
  t54 := Tryz.underlying186
  a54 := Tryz.isAgg186
  z54 := Tryz.sizeOf186
  g0 := by kernel_rfl
  g1 := by kernel_rfl }
theorem bits_TrailingZeros (x : Nat) (hx : x < 18446744073709551616) (w : World) (hT : x ≠ 0 → TabAt 3 Lib.deBruijn64tab w) : Calls Tryz.prog 116 #[.int .u64 x] w fun e w' => e = .returned (.int .i64 (Lib.ctz 64 x)) ∧ w' = w := Any7.bits_TrailingZeros lays727 x hx w hT
def lays728_ren : Go.Shelf.Ren := ⟨fun | 28 => 140 | n => n, fun | 27 => 81 | 3 => 3 | 4 => 4 | 25 => 22 | 53 => 185 | 0 => 0 | 5 => 5 | n => n, fun | 0 => 2 | n => n⟩
theorem lays728 : Go.Proofs.Lays7.n28 Tryz.prog lays728_ren := {
  mixed := by kernel_rfl
  f28 := Tryz.func140.trans (congrArg some (by kernel_rfl))
  t0 := Tryz.underlying0
  a0 := Tryz.isAgg0
  z0 := Tryz.sizeOf0
  v0 := Tryz.zeroValue0
  i0 := by kernel_rfl
  t3 := Tryz.underlying3
  a3 := Tryz.isAgg3
  z3 := Tryz.sizeOf3
  v3 := Tryz.zeroValue3
  i3 := by kernel_rfl
  t4 := Tryz.underlying4
  a4 := Tryz.isAgg4
  z4 := Tryz.sizeOf4
  v4 := Tryz.zeroValue4
  i4 := by kernel_rfl
  t5 := Tryz.underlying5
  a5 := Tryz.isAgg5
  z5 := Tryz.sizeOf5
  v5 := Tryz.zeroValue5
  i5 := by kernel_rfl
  t25 := Tryz.underlying22
  a25 := Tryz.isAgg22
  z25 := Tryz.sizeOf22
  v25 := Tryz.zeroValue22
  i25 := by kernel_rfl
  t27 := Tryz.underlying81
  a27 := Tryz.isAgg81
  z27 := Tryz.sizeOf81
  v27 := Tryz.zeroValue81
  i27 := by kernel_rfl
  t53 := Tryz.underlying185
  a53 := Tryz.isAgg185
  z53 := Tryz.sizeOf185
  v53 := Tryz.zeroValue185
  i53 := by kernel_rfl
  g0 := by kernel_rfl }
theorem bits_TrailingZeros32 (x : Nat) (hx : x < 4294967296) (w : World) (hT : x ≠ 0 → TabAt 2 Lib.deBruijn32tab w) : Calls Tryz.prog 140 #[.int .u32 x] w fun e w' => e = .returned (.int .i64 (Lib.ctz 32 x)) ∧ w' = w := Any7.bits_TrailingZeros32 lays728 x hx w hT
def lays729_ren : Go.Shelf.Ren := ⟨fun | 29 => 141 | n => n, fun | 22 => 146 | 3 => 3 | 4 => 4 | 25 => 22 | 54 => 186 | 0 => 0 | 5 => 5 | n => n, fun | 1 => 3 | n => n⟩
theorem lays729 : Go.Proofs.Lays7.n29 Tryz.prog lays729_ren := {
  mixed := by kernel_rfl
  f29 := Tryz.func141.trans (congrArg some (by kernel_rfl))
  t0 := Tryz.underlying0
  a0 := Tryz.isAgg0
  z0 := Tryz.sizeOf0
  v0 := Tryz.zeroValue0
  i0 := by kernel_rfl
  t3 := Tryz.underlying3
  a3 := Tryz.isAgg3
  z3 := Tryz.sizeOf3
  v3 := Tryz.zeroValue3
  i3 := by kernel_rfl
  t4 := Tryz.underlying4
  a4 := Tryz.isAgg4
  z4 := Tryz.sizeOf4
  v4 := Tryz.zeroValue4
  i4 := by kernel_rfl
  t5 := Tryz.underlying5
  a5 := Tryz.isAgg5
  z5 := Tryz.sizeOf5
  v5 := Tryz.zeroValue5
  i5 := by kernel_rfl
  t22 := Tryz.underlying146
  a22 := Tryz.isAgg146
  z22 := Tryz.sizeOf146
  v22 := Tryz.zeroValue146
  i22 := by kernel_rfl
  t25 := Tryz.underlying22
  a25 := Tryz.isAgg22
  z25 := Tryz.sizeOf22
  v25 := Tryz.zeroValue22
  i25 := by kernel_rfl
  t54 := Tryz.underlying186
  a54 := Tryz.isAgg186
  z54 := Tryz.sizeOf186
  g1 := by kernel_rfl }
theorem bits_TrailingZeros64 (x : Nat) (hx : x < 18446744073709551616) (w : World) (hT : x ≠ 0 → TabAt 3 Lib.deBruijn64tab w) : Calls Tryz.prog 141 #[.int .u64 x] w fun e w' => e = .returned (.int .i64 (Lib.ctz 64 x)) ∧ w' = w := Any7.bits_TrailingZeros64 lays729 x hx w hT
end Go.Proofs.YtalfclpjkefldaaGreatDoor.Sh
