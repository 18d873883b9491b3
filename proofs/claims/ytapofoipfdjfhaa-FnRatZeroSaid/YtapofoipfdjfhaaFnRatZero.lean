/-
  FnRatZero holds for every input: a fraction that nothing was put into is 0 over 1. No conditions.
-/
import Derived.Test.YtapofoipfdjfhaaProg
import Derived.Test.YtapofoipfdjfhaaWordsOf
import Derived.WalkKit
import Derived.ProofKit
import Derived.OpenShut
namespace Go.Proofs.Ytapofoipfdjfhaa.fnRatZero
open Go.ChangeShapes Go.WideShapes Go.ChangeAt Go.RowKit Go.Proofs.YtapofoipfdjfhaaW.PrintWords
set_option linter.unusedVariables false
set_option linter.unusedSimpArgs false


set_option maxHeartbeats 800000 in
set_option maxRecDepth 100000 in
theorem ratZero (w : World) :
    Calls Try.prog 6 #[] w fun e w' => ∃ A1 c1 g c2, e = .returned (.tuple #[.agg #[.bool false, .slice A1 0 c1], .slice (some ⟨g, 0, none⟩) 1 c2]) ∧ w'.cell? ⟨g, 0, none⟩ = some (.int .u64 1) ∧ g < w'.heap.size ∧ Below w.heap.size w w' := by
  go_enter Try.func6, Try.ntmps6
  go_wp2_with ((fail_if_success go_at_call 22); (fail_if_success go_at_call 20); go_in)
  refine (told_any _ 0 false none 0 [] _ (by go_simp) (by go_simp) (Kd.C_nil _ _) (by simp) (by simp)).mono ?_
  rintro e w1 ⟨v, rfl, hv, hb⟩
  obtain ⟨A1, c1, e1⟩ := Kd.R_slice hv
  subst e1
  clear hv
  have HG := Aside0.mk ((((Below.refl w.heap.size w).alloc (by simp) _).alloc (by simp) _).trans (hb.mono (B' := w.heap.size) (by simp; omega)))
  have k1 := hp_below (show hp _ (w.heap.size + 1) = some (.cells #[.bool false, .slice none 0 0, .bool false, .slice none 0 0] 61 (0, 0)) from (by simp (disch := first | omega | (simp; omega) | (simp; done) | fail) [hp_new, hp_old, hp_here, hp_other, setObj_cells, hp_drew, hp_drewN])) hb
  have k0 := hp_below (show hp _ w.heap.size = some (.cells #[.bool false, .slice none 0 0] 24 (0, 0)) from (by simp (disch := first | omega | (simp; omega) | (simp; done) | fail) [hp_new, hp_old, hp_here, hp_other, setObj_cells, hp_drew, hp_drewN])) hb
  obtain ⟨c10, c11, c12, c13, f10, f11, f12, f13⟩ := blk4 k1
  have hs := hb.size
  have K0 := Aside0.mk k0
  clear hb k0 k1
  simp at hs
  go_wp2_with ((fail_if_success go_at_call 22); (fail_if_success go_at_call 20); go_in)
  refine (wordsOf_any _ 0 (some ⟨w1.heap.size, 0, none⟩) 1 [1] _ (by go_simp) ?hr (by simp)).mono ?_
  case hr => exact lit1_C _ 85 _ _ (by simp (disch := first | omega | (simp; omega) | (simp; done) | fail) [hp_new, hp_old, hp_here, hp_other, setObj_cells, hp_drew, hp_drewN])
  rintro e w2 ⟨v, rfl, hv, hb⟩
  obtain ⟨inner, ho⟩ := Kd.R_own hv
  obtain ⟨g, c2, e2, _, _⟩ := ho.form (by simp)
  subst e2
  have hx := (Kd.R_cell 0 hv 0 (by omega) (by simp)).1
  have hg := own_lt ho g (by simp [Value.ownBlock])
  have hge := own_base ho g (by simp [Value.ownBlock])
  have k0 := hp_below (show hp _ w.heap.size = some (.cells #[.bool false, .slice none 0 0] 24 (0, 0)) from (by simp (disch := first | omega | (simp; omega) | (simp; done) | fail) [hp_new, hp_old, hp_here, hp_other, setObj_cells, hp_drew, hp_drewN, K0.out])) hb
  obtain ⟨c00, c01, f0, f1⟩ := blk2 k0
  have HG2 := Aside0.mk ((((HG.out).alloc (by omega) _).alloc (by simp; omega) _).trans (hb.mono (B' := w.heap.size) (by simp; omega)))
  have hx' : w2.cell? ⟨g, 0, none⟩ = some (.int .u64 1) := hx
  have hs2 := hb.size
  clear hb k0 hv ho hx
  simp at hs2 hge
  go_wp2_with ((fail_if_success go_at_call 22); (fail_if_success go_at_call 20); go_in)
  refine bodyPost_ret (v := .tuple #[.agg #[.bool false, .slice A1 0 c1], .slice (some ⟨g, 0, none⟩) 1 c2]) (by simp [results, Try.results6, go_sem, c00, c01, f0, f1]) rfl ?_
  refine ⟨_, _, _, _, rfl, ?_, by simpa using hg, (HG2.out.setCell (by simp) _).setCell (by simp) _⟩
  rw [World.cell?_setCell_other _ _ _ _ (by simp), World.cell?_setCell_other _ _ _ _ (by simp)]
  exact hx'

set_option maxHeartbeats 800000 in
set_option maxRecDepth 100000 in
theorem walk (a0 : Int) (w0 : (Lit.int .u8 a0).wf = true) (w : World) :
    Calls Try.prog 3 #[.int .u8 a0] w fun e w' => e = .returned (.bool true) ∧ Below w.heap.size w w' := by
  go_enter Try.func3, Try.ntmps3
  go_wp2_with (fail)
  refine (ratZero _).mono ?_
  rintro e w1 ⟨A1, c1, g, c2, rfl, hx, hg, hb⟩
  have hs := hb.size
  have HB := Aside0.mk hb
  clear hb
  go_wp2_with (fail)
  go_ret
  exact ⟨rfl, HB.out.alloc hs _⟩
end Go.Proofs.Ytapofoipfdjfhaa.fnRatZero
