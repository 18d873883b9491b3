/-
  The contract of strconv.AppendInt (the shelf) at this seat, laid by program in plain words.
-/
import Derived.Shelf.LaysM
import Derived.Shelf.Strconv.AppendIntPublic10
import Derived.Test.YtnbnfjpecgbnpaaGreatDoorProg
namespace Go.Proofs.YtnbnfjpecgbnpaaGreatDoor.Sh
open Go.Shelf
def laysM176_ren : Go.Shelf.Ren := ⟨fun | 176 => 73 | 249 => 97 | 288 => 121 | 283 => 140 | 284 => 141 | 285 => 142 | 286 => 143 | 129 => 105 | 317 => 161 | 318 => 162 | 319 => 163 | 320 => 102 | 337 => 125 | 338 => 126 | n => n, fun | 37 => 58 | 2 => 2 | 3 => 3 | 53 => 132 | 4 => 4 | 9 => 9 | 171 => 166 | 0 => 0 | 173 => 168 | 212 => 189 | 51 => 74 | 5 => 5 | 20 => 20 | 213 => 190 | 46 => 22 | 232 => 170 | 233 => 171 | n => n, fun | 17 => 6 | 18 => 2 | 19 => 3 | n => n⟩
theorem laysM176 : Go.Proofs.LaysM.n176 Tryz.prog laysM176_ren := {
  mixed := by kernel_rfl
  f129 := Tryz.func105.trans (congrArg some (by kernel_rfl))
  f176 := Tryz.func73.trans (congrArg some (by kernel_rfl))
  f249 := Tryz.func97.trans (congrArg some (by kernel_rfl))
  f283 := Tryz.func140.trans (congrArg some (by kernel_rfl))
  f284 := Tryz.func141.trans (congrArg some (by kernel_rfl))
  f285 := Tryz.func142.trans (congrArg some (by kernel_rfl))
  f286 := Tryz.func143.trans (congrArg some (by kernel_rfl))
  f288 := Tryz.func121.trans (congrArg some (by kernel_rfl))
  f317 := Tryz.func161.trans (congrArg some (by kernel_rfl))
  f318 := Tryz.func162.trans (congrArg some (by kernel_rfl))
  f319 := Tryz.func163.trans (congrArg some (by kernel_rfl))
  f320 := Tryz.func102.trans (congrArg some (by kernel_rfl))
  f337 := Tryz.func125.trans (congrArg some (by kernel_rfl))
  f338 := Tryz.func126.trans (congrArg some (by kernel_rfl))
  t0 := Tryz.underlying0
  a0 := Tryz.isAgg0
  z0 := Tryz.sizeOf0
  v0 := Tryz.zeroValue0
  t2 := Tryz.underlying2
  a2 := Tryz.isAgg2
  z2 := Tryz.sizeOf2
  v2 := Tryz.zeroValue2
  t3 := Tryz.underlying3
  a3 := Tryz.isAgg3
  z3 := Tryz.sizeOf3
  v3 := Tryz.zeroValue3
  t4 := Tryz.underlying4
  a4 := Tryz.isAgg4
  z4 := Tryz.sizeOf4
  v4 := Tryz.zeroValue4
  t5 := Tryz.underlying5
  a5 := Tryz.isAgg5
  z5 := Tryz.sizeOf5
  v5 := Tryz.zeroValue5
  t9 := Tryz.underlying9
  a9 := Tryz.isAgg9
  z9 := Tryz.sizeOf9
  v9 := Tryz.zeroValue9
  t20 := Tryz.underlying20
  a20 := Tryz.isAgg20
  z20 := Tryz.sizeOf20
  v20 := Tryz.zeroValue20
  t37 := Tryz.underlying58
  a37 := Tryz.isAgg58
  z37 := Tryz.sizeOf58
  v37 := Tryz.zeroValue58
  t46 := Tryz.underlying22
  a46 := Tryz.isAgg22
  z46 := Tryz.sizeOf22
  v46 := Tryz.zeroValue22
  t51 := Tryz.underlying74
  a51 := Tryz.isAgg74
  z51 := Tryz.sizeOf74
  v51 := Tryz.zeroValue74
  t53 := Tryz.underlying132
  a53 := Tryz.isAgg132
  z53 := Tryz.sizeOf132
  v53 := Tryz.zeroValue132
  t171 := Tryz.underlying166
  a171 := Tryz.isAgg166
  z171 := Tryz.sizeOf166
  v171 := Tryz.zeroValue166
  t173 := Tryz.underlying168
  a173 := Tryz.isAgg168
  z173 := Tryz.sizeOf168
  v173 := Tryz.zeroValue168
  t212 := Tryz.underlying189
  a212 := Tryz.isAgg189
  z212 := Tryz.sizeOf189
  v212 := Tryz.zeroValue189
  t213 := Tryz.underlying190
  a213 := Tryz.isAgg190
  z213 := Tryz.sizeOf190
  t232 := Tryz.underlying170
  a232 := Tryz.isAgg170
  z232 := Tryz.sizeOf170
  v232 := Tryz.zeroValue170
  t233 := Tryz.underlying171
  a233 := Tryz.isAgg171
  z233 := Tryz.sizeOf171
  v233 := Tryz.zeroValue171
  g17 := by kernel_rfl
  g18 := by kernel_rfl
  g19 := by kernel_rfl
  i0 := by kernel_rfl
  i2 := by kernel_rfl
  i3 := by kernel_rfl
  i4 := by kernel_rfl
  i5 := by kernel_rfl
  i9 := by kernel_rfl
  i20 := by kernel_rfl
  i37 := by kernel_rfl
  i46 := by kernel_rfl
  i51 := by kernel_rfl
  i53 := by kernel_rfl
  i171 := by kernel_rfl
  i173 := by kernel_rfl
  i212 := by kernel_rfl
  i232 := by kernel_rfl
  i233 := by kernel_rfl
  m17 := by kernel_rfl
  m18 := by kernel_rfl
  m19 := by kernel_rfl }
open Go.RowKit Go.Sort Go.Lib in
theorem strconv_AppendInt_10 (B n : Nat) (i : Int) (h0 : -9223372036854775808 ≤ i) (h1 : i ≤ 9223372036854775807) (sv : Value) (xs : List Value) (w : World) (hown : w.ownsRow B 5 1 sv n xs) (hBw : B ≤ w.heap.size) (hlim : n + 21 ≤ 140737488355328) (htab : Lib.TabBelow Tryz.prog B w "internal/strconv.uint64pow10" .u64 Lib.pow10Tab) :
    Calls Tryz.prog 73 #[sv, .int .i64 i, .int .i64 10] w fun e w' => ∃ v', e = .returned v' ∧ w'.ownsRow B 5 1 v' (n + (Lib.itoa i).length) (xs ++ Lib.byteCells (Lib.itoa i)) ∧ Below B w w' ∧ Lib.OthersKept 5 none w w' := Any.strconv_AppendInt_10 laysM176 B n i h0 h1 sv xs w hown hBw hlim htab
end Go.Proofs.YtnbnfjpecgbnpaaGreatDoor.Sh
