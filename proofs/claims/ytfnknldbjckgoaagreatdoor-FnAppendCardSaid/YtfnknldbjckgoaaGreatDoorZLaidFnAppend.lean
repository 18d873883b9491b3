/-
  WHAT THE LAID VARIABLES TELL (ten on the list): the leaf's size, the powers of ten.
-/
import Derived.Test.YtfnknldbjckgoaaGreatDoorRows
import Derived.Test.YtfnknldbjckgoaaGreatDoorZGtxb
import Derived.Test.YtfnknldbjckgoaaGreatDoorZGnat
import Derived.Lib.LaidTab
import Derived.Stop.LaidErr
import Derived.MakeChecks
namespace Go.Proofs.YtfnknldbjckgoaaGreatDoor.Sp
open Go.RowKit Go.Proofs.YtfnknldbjckgoaaGreatDoorW.PrintWords Go.Proofs.YtfnknldbjckgoaaGreatDoorW.PrintLast Go.Proofs.YtfnknldbjckgoaaGreatDoorW.PrintMore Go.Proofs.YtfnknldbjckgoaaGreatDoor.Dig
set_option linter.unusedVariables false
set_option linter.unusedSimpArgs false
theorem lit_of_head {P : Program} {W : World} {name : String} {k : IntKind} {z : Int} {rest : List (String × DataW Unit)} {g : Nat} {t : TypeId}
    (hg : P.globalNamed name = some g) (hty : (P.globals[g]?).map (·.type) = some t) (ht : P.underlying t = some (.int k))
    (h : laidMet P ((name, .lit (.int k z)) :: rest) W) : W.cell? ⟨g, 0, none⟩ = some (.int k z) := by
  obtain ⟨ps, ⟨g', t', cs, fuel, p, q, hg', ht', hvar, hd, _, _⟩, _⟩ := h
  obtain rfl := Option.some.inj (hg.symm.trans hg')
  obtain rfl := Option.some.inj (hty.symm.trans ht')
  obtain ⟨z', hc, hl, _⟩ := DataW.trod_int ht hd
  have hz : z = z' := by
    have := congrArg Prod.fst hl
    simpa using this
  subst hz
  have hh : W.var? P name = some (([z] : List Int).map fun z => Value.int k z).toArray := by
    rw [hvar]
    congr 1
    apply Array.toList_inj.1
    simpa using hc
  have := World.var?_cell hg hh 0
  simpa using this
theorem laid_tl {P : Program} {l : List (String × DataW Unit)} {W : World} (h : laidMet P l W) : laidMet P l.tail W := by
  cases l with
  | nil => exact h
  | cons a l => exact laidMet.tail h
theorem pw_data : (Rows.laid_internal_strconv_uint64pow10 : DataW Unit) = Lib.tabData .u64 Lib.pow10Tab := by rfl
set_option maxRecDepth 100000 in
theorem leaf_of_laid {W : World} (hL : laidMetH Tryz.prog Rows.fnAppendRow.laid W) : Leaf W := by
  rw [MakeChecks.laidMetH_plain _ _ _ (by kernel_rfl)] at hL
  have h2 : laidMet Tryz.prog (("loop.example/pub-g03249/pub/bigall.leafSize", .lit (.int .i64 8)) :: Rows.fnAppendRow.laid.drop 5) W := laid_tl (laid_tl (laid_tl (laid_tl hL)))
  have hc := lit_of_head (g := 1) (t := 3) (by kernel_rfl) (by kernel_rfl) (by kernel_rfl) h2
  exact ⟨hc, World.block_lt_of_cell? _ _ hc⟩
set_option maxRecDepth 100000 in
theorem pw_of_laid {W : World} (hL : laidMetH Tryz.prog Rows.fnAppendRow.laid W) : Pw W := by
  rw [MakeChecks.laidMetH_plain _ _ _ (by kernel_rfl)] at hL
  have h2 : laidMet Tryz.prog (("internal/strconv.uint64pow10", Rows.laid_internal_strconv_uint64pow10) :: Rows.fnAppendRow.laid.drop 3) W := laid_tl (laid_tl hL)
  rw [pw_data] at h2
  exact Lib.tabIs_of_head (g := 6) (t := 199) (e := 141) (n := 20) (by kernel_rfl) (by kernel_rfl) (by kernel_rfl) (by kernel_rfl) (by kernel_rfl) (by kernel_rfl) h2
theorem tb_data : (Rows.laid_math_bits_deBruijn64tab : DataW Unit) = Lib.tabData .u8 (Lib.deBruijn64tab.map Int.ofNat) := by rfl
set_option maxRecDepth 100000 in
theorem tb_of_laid {W : World} (hL : laidMetH Tryz.prog Rows.fnAppendRow.laid W) : Tb W := by
  rw [MakeChecks.laidMetH_plain _ _ _ (by kernel_rfl)] at hL
  have h2 : laidMet Tryz.prog (("math/bits.deBruijn64tab", Rows.laid_math_bits_deBruijn64tab) :: Rows.fnAppendRow.laid.drop 2) W := laid_tl hL
  rw [tb_data] at h2
  have hT := Lib.tabIs_of_head (g := 3) (t := 181) (e := 5) (n := 64) (by kernel_rfl) (by kernel_rfl) (by kernel_rfl) (by kernel_rfl) (by kernel_rfl) (by kernel_rfl) h2
  have hc := fun i hi => Lib.TabIs.cell hT (g := 3) (by kernel_rfl) i hi
  refine ⟨fun j hj => ?_, World.block_lt_of_cell? _ _ (hc 0 (by decide))⟩
  rw [hc j (by rw [List.length_map]; exact hj)]
  simp [List.getD, List.getElem?_map, List.getElem?_eq_getElem hj]
end Go.Proofs.YtfnknldbjckgoaaGreatDoor.Sp
