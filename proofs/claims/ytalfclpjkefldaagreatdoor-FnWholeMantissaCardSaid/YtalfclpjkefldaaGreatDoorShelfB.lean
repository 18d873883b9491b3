/-
  The contract of strconv.AppendInt (the shelf) at this seat, laid by program in plain words.
-/
import Derived.Shelf.LaysM
import Derived.Shelf.Strconv.AppendIntPublic10
import Derived.Test.YtalfclpjkefldaaGreatDoorProg
namespace Go.Proofs.YtalfclpjkefldaaGreatDoor.Sh
open Go.Shelf
def laysM176_ren : Go.Shelf.Ren := ⟨fun | 176 => 80 | 249 => 109 | 288 => 134 | 283 => 156 | 284 => 157 | 285 => 158 | 286 => 159 | 129 => 119 | 317 => 177 | 318 => 178 | 319 => 179 | 320 => 116 | 337 => 140 | 338 => 141 | n => n, fun | 37 => 47 | 2 => 2 | 3 => 3 | 53 => 146 | 4 => 4 | 9 => 9 | 171 => 181 | 0 => 0 | 173 => 183 | 212 => 204 | 51 => 81 | 5 => 5 | 20 => 20 | 213 => 205 | 46 => 22 | 232 => 185 | 233 => 186 | n => n, fun | 17 => 6 | 18 => 2 | 19 => 3 | n => n⟩
theorem laysM176 : Go.Proofs.LaysM.n176 Tryz.prog laysM176_ren := {
  mixed := by kernel_rfl
  f129 := Tryz.func119.trans (congrArg some (by kernel_rfl))
  f176 := Tryz.func80.trans (congrArg some (by kernel_rfl))
  f249 := Tryz.func109.trans (congrArg some (by kernel_rfl))
  f283 := Tryz.func156.trans (congrArg some (by kernel_rfl))
  f284 := Tryz.func157.trans (congrArg some (by kernel_rfl))
  f285 := Tryz.func158.trans (congrArg some (by kernel_rfl))
  f286 := Tryz.func159.trans (congrArg some (by kernel_rfl))
  f288 := Tryz.func134.trans (congrArg some (by kernel_rfl))
  f317 := Tryz.func177.trans (congrArg some (by kernel_rfl))
  f318 := Tryz.func178.trans (congrArg some (by kernel_rfl))
  f319 := Tryz.func179.trans (congrArg some (by kernel_rfl))
  f320 := Tryz.func116.trans (congrArg some (by kernel_rfl))
  f337 := Tryz.func140.trans (congrArg some (by kernel_rfl))
  f338 := Tryz.func141.trans (congrArg some (by kernel_rfl))
  t0 := Tryz.underlying0
  a0 := Tryz.isAgg0
  z0 := Tryz.sizeOf0
  v0 := Tryz.zeroValue0
  t2 := Tryz.underlying2
  a2 := Tryz.isAgg2
  z2 := Tryz.sizeOf2
  v2 := Tryz.zeroValue2
  t3 := Tryz.underlying3
  a3 := Tryz.isAgg3
  z3 := Tryz.sizeOf3
  v3 := Tryz.zeroValue3
  t4 := Tryz.underlying4
  a4 := Tryz.isAgg4
  z4 := Tryz.sizeOf4
  v4 := Tryz.zeroValue4
  t5 := Tryz.underlying5
  a5 := Tryz.isAgg5
  z5 := Tryz.sizeOf5
  v5 := Tryz.zeroValue5
  t9 := Tryz.underlying9
  a9 := Tryz.isAgg9
  z9 := Tryz.sizeOf9
  v9 := Tryz.zeroValue9
  t20 := Tryz.underlying20
  a20 := Tryz.isAgg20
  z20 := Tryz.sizeOf20
  v20 := Tryz.zeroValue20
  t37 := Tryz.underlying47
  a37 := Tryz.isAgg47
  z37 := Tryz.sizeOf47
  v37 := Tryz.zeroValue47
  t46 := Tryz.underlying22
  a46 := Tryz.isAgg22
  z46 := Tryz.sizeOf22
  v46 := Tryz.zeroValue22
  t51 := Tryz.underlying81
  a51 := Tryz.isAgg81
  z51 := Tryz.sizeOf81
  v51 := Tryz.zeroValue81
  t53 := Tryz.underlying146
  a53 := Tryz.isAgg146
  z53 := Tryz.sizeOf146
  v53 := Tryz.zeroValue146
  t171 := Tryz.underlying181
  a171 := Tryz.isAgg181
  z171 := Tryz.sizeOf181
  v171 := Tryz.zeroValue181
  t173 := Tryz.underlying183
  a173 := Tryz.isAgg183
  z173 := Tryz.sizeOf183
  v173 := Tryz.zeroValue183
  t212 := Tryz.underlying204
  a212 := Tryz.isAgg204
  z212 := Tryz.sizeOf204
  v212 := Tryz.zeroValue204
  t213 := Tryz.underlying205
  a213 := Tryz.isAgg205
  z213 := Tryz.sizeOf205
  t232 := Tryz.underlying185
  a232 := Tryz.isAgg185
  z232 := Tryz.sizeOf185
  v232 := Tryz.zeroValue185
  t233 := Tryz.underlying186
  a233 := Tryz.isAgg186
  z233 := Tryz.sizeOf186
  v233 := Tryz.zeroValue186
  g17 := by kernel_rfl
  g18 := by kernel_rfl
  g19 := by kernel_rfl
  i0 := by kernel_rfl
  i2 := by kernel_rfl
  i3 := by kernel_rfl
  i4 := by kernel_rfl
  i5 := by kernel_rfl
  i9 := by kernel_rfl
  i20 := by kernel_rfl
  i37 := by kernel_rfl
  i46 := by kernel_rfl
  i51 := by kernel_rfl
  i53 := by kernel_rfl
  i171 := by kernel_rfl
  i173 := by kernel_rfl
  i212 := by kernel_rfl
  i232 := by kernel_rfl
  i233 := by kernel_rfl
  m17 := by kernel_rfl
  m18 := by kernel_rfl
  m19 := by kernel_rfl }
open Go.RowKit Go.Sort Go.Lib in
theorem strconv_AppendInt_10 (B n : Nat) (i : Int) (h0 : -9223372036854775808 ≤ i) (h1 : i ≤ 9223372036854775807) (sv : Value) (xs : List Value) (w : World) (hown : w.ownsRow B 5 1 sv n xs) (hBw : B ≤ w.heap.size) (hlim : n + 21 ≤ 140737488355328) (htab : Lib.TabBelow Tryz.prog B w "internal/strconv.uint64pow10" .u64 Lib.pow10Tab) :
    Calls Tryz.prog 80 #[sv, .int .i64 i, .int .i64 10] w fun e w' => ∃ v', e = .returned v' ∧ w'.ownsRow B 5 1 v' (n + (Lib.itoa i).length) (xs ++ Lib.byteCells (Lib.itoa i)) ∧ Below B w w' ∧ Lib.OthersKept 5 none w w' := Any.strconv_AppendInt_10 laysM176 B n i h0 h1 sv xs w hown hBw hlim htab
end Go.Proofs.YtalfclpjkefldaaGreatDoor.Sh
