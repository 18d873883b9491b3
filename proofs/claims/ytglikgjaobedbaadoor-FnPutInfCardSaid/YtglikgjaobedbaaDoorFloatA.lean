/-
  CONTRACTS on Floats: infinities told.
-/
import Derived.Test.YtglikgjaobedbaaDoorBase
import Derived.Test.YtglikgjaobedbaaDoorRow
import Derived.WalkKit
import Derived.ProofKit
namespace Go.Proofs.YtglikgjaobedbaaDoor.Sp
open Go.RowKit Go.Proofs.YtglikgjaobedbaaDoorW.PrintWords Go.Proofs.YtglikgjaobedbaaDoorW.PrintLast Go.Proofs.YtglikgjaobedbaaDoorW.PrintMore
set_option linter.unusedVariables false
set_option linter.unusedSimpArgs false
set_option maxHeartbeats 1600000 in
set_option maxRecDepth 100000 in
theorem real_inf (g : Nat) (p m acc : Int) (neg : Bool) (v : Value) (x : Int) (w : World) (h : hp w g = some (.cells #[.int .u32 p, .int .u8 m, .int .i8 acc, .int .u8 2, .bool neg, v, .int .i32 x] 91 (0, 0))) (hp0 : 0 ≤ p ∧ p < 4294967296) (hm : 0 ≤ m ∧ m < 256) :
    Calls Tryd.prog 33 #[.pointer (some ⟨g, 0, none⟩)] w fun e w' => e = .returned (.agg #[.int .u64 p, .int .i64 m, .int .i64 2, .bool neg, .slice none 0 0, .int .i64 0]) ∧ Below w.heap.size w w' := by
  obtain ⟨c0, c1, c2, c3, c4, c5, c6, f0, f1, f2, f3, f4, f5, f6⟩ := blk7 h
  have hg := hp_lt h
  have hpw : IntKind.u64.wrap p = p := by rw [IntKind.wrap_u64]; omega
  clear h
  go_enter Tryd.func33, Tryd.ntmps33
  go_wp2_with (go_in)
  refine bodyPost_ret (v := .agg #[.int .u64 p, .int .i64 m, .int .i64 2, .bool neg, .slice none 0 0, .int .i64 0]) (by simp [results, Tryd.results33, go_sem]) rfl ?_
  exact ⟨rfl, below_alloc (below_alloc (Below.refl _ _) _) _⟩
end Go.Proofs.YtglikgjaobedbaaDoor.Sp
