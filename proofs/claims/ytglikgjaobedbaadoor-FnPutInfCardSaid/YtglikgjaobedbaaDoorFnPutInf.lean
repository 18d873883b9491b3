/-
  FnPutInf holds for every input.
-/
import Derived.Test.YtglikgjaobedbaaDoorFloatA
namespace Go.Proofs.YtglikgjaobedbaaDoor.fnPutInf
open Go.RowKit Go.Proofs.YtglikgjaobedbaaDoorW.PrintWords Go.Proofs.YtglikgjaobedbaaDoorW.PrintLast Go.Proofs.YtglikgjaobedbaaDoorW.PrintMore Go.Proofs.YtglikgjaobedbaaDoor.Sp
set_option linter.unusedVariables false
set_option linter.unusedSimpArgs false
set_option maxHeartbeats 3200000 in
set_option maxRecDepth 100000 in
theorem putInf_c (p m : Int) (neg : Bool) (w : World) (hp3 : 0 ≤ p ∧ p < 301) (hm3 : 0 ≤ m ∧ m < 6) :
    Calls Tryd.prog 13 #[.int .u64 p, .int .i64 m, .bool neg] w fun e w' => e = .returned (.tuple #[.agg #[.int .u64 p, .int .i64 m, .int .i64 2, .bool neg, .slice none 0 0, .int .i64 0], .int .i64 0, .bool true]) ∧ Below w.heap.size w w' := by
  by_cases h0 : p = 0
  · subst h0
    go_enter Tryd.func13, Tryd.ntmps13
    go_wp2_with ((fail_if_success go_at_call 33); go_in)
    refine (real_inf (w.heap.size + 1) 0 m 0 neg (.slice none 0 0) 0 _ (by simp (disch := first | omega | (simp; omega) | (simp; done) | fail) [hp_new, hp_old, hp_here, hp_other, setObj_cells, hp_drew, hp_drewN]) (by omega) (by omega)).mono ?_
    rintro e w1 ⟨rfl, hb⟩
    have k0 := hp_below (show hp _ w.heap.size = some (.cells #[.int .u64 0, .int .i64 0, .int .i64 0, .bool false, .slice none 0 0, .int .i64 0] 28 (0, 0)) from (by simp (disch := first | omega | (simp; omega) | (simp; done) | fail) [hp_new, hp_old, hp_here, hp_other, setObj_cells, hp_drew, hp_drewN])) hb
    have k1 := hp_below (show hp _ (w.heap.size + 1) = some (.cells #[.int .u32 0, .int .u8 m, .int .i8 0, .int .u8 2, .bool neg, .slice none 0 0, .int .i32 0] 91 (0, 0)) from (by simp (disch := first | omega | (simp; omega) | (simp; done) | fail) [hp_new, hp_old, hp_here, hp_other, setObj_cells, hp_drew, hp_drewN])) hb
    have HB : Aside0 (Below w.heap.size w w1) := ⟨below_step (below_alloc (below_alloc (Below.refl _ _) _) _) hb⟩
    obtain ⟨c0, c1, c2, c3, c4, c5, f0, f1, f2, f3, f4, f5⟩ := blk6 k0
    obtain ⟨d0, d1, d2, d3, d4, d5, d6, _, _, _, _, _, _, _⟩ := blk7 k1
    have hs0 := hp_lt k0
    have hs1 := hp_lt k1
    clear hb k0 k1
    go_wp2_with (go_in)
    refine bodyPost_ret (v := .tuple #[.agg #[.int .u64 0, .int .i64 m, .int .i64 2, .bool neg, .slice none 0 0, .int .i64 0], .int .i64 0, .bool true]) (by simp [results, Tryd.results13, go_sem, c0, c1, c2, c3, c4, c5, f0, f1, f2, f3, f4, f5]) rfl ?_
    exact ⟨rfl, (by repeat (first | (with_reducible first | exact HB.out | apply below_alloc | apply pw_below_drewN | apply below_drew1 | refine below_set ?_ (by simp)) | exact HB.out))⟩
  · have hb0 : (p == 0) = false := by rw [beq_eq_false_iff_ne]; exact h0
    go_enter Tryd.func13, Tryd.ntmps13
    go_wp2_with ((fail_if_success go_at_call 33); go_in)
    refine (real_inf (w.heap.size + 1) p m 0 neg (.slice none 0 0) 0 _ (by simp (disch := first | omega | (simp; omega) | (simp; done) | fail) [hp_new, hp_old, hp_here, hp_other, setObj_cells, hp_drew, hp_drewN]) (by omega) (by omega)).mono ?_
    rintro e w1 ⟨rfl, hb⟩
    have k0 := hp_below (show hp _ w.heap.size = some (.cells #[.int .u64 0, .int .i64 0, .int .i64 0, .bool false, .slice none 0 0, .int .i64 0] 28 (0, 0)) from (by simp (disch := first | omega | (simp; omega) | (simp; done) | fail) [hp_new, hp_old, hp_here, hp_other, setObj_cells, hp_drew, hp_drewN])) hb
    have k1 := hp_below (show hp _ (w.heap.size + 1) = some (.cells #[.int .u32 p, .int .u8 m, .int .i8 0, .int .u8 2, .bool neg, .slice none 0 0, .int .i32 0] 91 (0, 0)) from (by simp (disch := first | omega | (simp; omega) | (simp; done) | fail) [hp_new, hp_old, hp_here, hp_other, setObj_cells, hp_drew, hp_drewN])) hb
    have HB : Aside0 (Below w.heap.size w w1) := ⟨below_step (below_alloc (below_alloc (Below.refl _ _) _) _) hb⟩
    obtain ⟨c0, c1, c2, c3, c4, c5, f0, f1, f2, f3, f4, f5⟩ := blk6 k0
    obtain ⟨d0, d1, d2, d3, d4, d5, d6, _, _, _, _, _, _, _⟩ := blk7 k1
    have hs0 := hp_lt k0
    have hs1 := hp_lt k1
    clear hb k0 k1
    go_wp2_with (go_in)
    refine bodyPost_ret (v := .tuple #[.agg #[.int .u64 p, .int .i64 m, .int .i64 2, .bool neg, .slice none 0 0, .int .i64 0], .int .i64 0, .bool true]) (by simp [results, Tryd.results13, go_sem, c0, c1, c2, c3, c4, c5, f0, f1, f2, f3, f4, f5]) rfl ?_
    exact ⟨rfl, (by repeat (first | (with_reducible first | exact HB.out | apply below_alloc | apply pw_below_drewN | apply below_drew1 | refine below_set ?_ (by simp)) | exact HB.out))⟩
set_option maxHeartbeats 1600000 in
set_option maxRecDepth 100000 in
theorem walk (a : Int) (ha : (Lit.int .u16 a).wf = true) (b : Int) (hb : (Lit.int .u8 b).wf = true) (neg : Bool) (w : World) :
    Calls Tryd.prog 3 #[.int .u16 a, .int .u8 b, .bool neg] w fun e w' => e = .returned (.bool true) ∧ Below w.heap.size w w' := by
  have h1 := wf_u16 ha
  have h2 := wf_u8 hb
  obtain ⟨p, hp1⟩ : ∃ p : Int, p = a % 301 := ⟨_, rfl⟩
  obtain ⟨m, hm1⟩ : ∃ m : Int, m = b % 6 := ⟨_, rfl⟩
  have hp2 : a % 301 = p := hp1.symm
  have hm2 : b % 6 = m := hm1.symm
  have hp3 : 0 ≤ p ∧ p < 301 := by omega
  have hm3 : 0 ≤ m ∧ m < 6 := by omega
  clear ha hb hp1 hm1
  go_enter Tryd.func3, Tryd.ntmps3
  go_wp2_with ((fail_if_success go_at_call 13); go_in)
  refine (putInf_c p m neg _ hp3 hm3).mono ?_
  rintro e w1 ⟨rfl, hb⟩
  have HB := Aside0.mk hb
  clear hb
  go_wp2_with (fail)
  go_ret
  exact ⟨rfl, below_alloc HB.out _⟩
end Go.Proofs.YtglikgjaobedbaaDoor.fnPutInf
