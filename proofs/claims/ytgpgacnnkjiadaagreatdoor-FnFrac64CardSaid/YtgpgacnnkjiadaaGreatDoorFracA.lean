/-
  CONTRACT of Rat.SetFrac64.
-/
import Derived.Test.YtgpgacnnkjiadaaGreatDoorNormW
import Derived.Test.YtgpgacnnkjiadaaGreatDoorIn
namespace Go.Proofs.YtgpgacnnkjiadaaGreatDoor.Sp
open Go.RowKit Go.Proofs.YtgpgacnnkjiadaaGreatDoorW.PrintWords Go.Proofs.YtgpgacnnkjiadaaGreatDoorW.PrintLast Go.Proofs.YtgpgacnnkjiadaaGreatDoorW.PrintMore Go.Proofs.YtgpgacnnkjiadaaGreatDoor.Dig
set_option linter.unusedVariables false
set_option linter.unusedSimpArgs false
theorem kept_on {g : Nat} {a w : World} (h : Kept (On g) a w) (i : Nat) (v : Value) : Kept (On g) a (w.setCell ⟨g, i, none⟩ v) := h.setCell (p := ⟨g, i, none⟩) (.inl rfl) v
set_option maxHeartbeats 3200000 in
set_option maxRecDepth 100000 in
theorem setFrac64_c (g : Nat) (a b : Int) (w : World) (ha : (Lit.int .i64 a).wf = true) (hb : (Lit.int .i64 b).wf = true) (hb0 : b ≠ 0) (hg : hp w g = some (.cells #[.bool false, .slice none 0 0, .bool false, .slice none 0 0] 40 (0, 0))) :
    Calls Tryz.prog 10 #[.pointer (some ⟨g, 0, none⟩), .int .i64 a, .int .i64 b] w fun e w' => e = .returned (.pointer (some ⟨g, 0, none⟩)) ∧ (∃ ng, RatB w' g ng ((a.natAbs : Int) / Int.gcd a.natAbs b.natAbs) ((b.natAbs : Int) / Int.gcd a.natAbs b.natAbs) ∧ (ng && decide (a ≠ 0)) = ((decide (a < 0) != decide (b < 0)) && decide (a ≠ 0))) ∧ Kept (On g) w w' := by
  have hmk := make_ints 36 67 .u64 8 Tryz.underlying36 infoWord (by omega) 1 1 (by omega) (by omega) (by omega)
  have hra := wf_i64 ha
  have hrb := wf_i64 hb
  obtain ⟨x, hx⟩ : ∃ x : Int, x = a.natAbs := ⟨_, rfl⟩
  obtain ⟨y, hy⟩ : ∃ y : Int, y = b.natAbs := ⟨_, rfl⟩
  rw [← hx, ← hy]
  have lg := hp_lt hg
  have HG := Aside0.mk hg
  obtain ⟨c0, c1, c2, c3, f0, f1, f2, f3⟩ := blk4 hg
  have HY := Aside0.mk (show 0 < y ∧ y < BW from by rw [BW_def]; omega)
  have HXB := Aside0.mk (show 0 ≤ x ∧ x < BW from by rw [BW_def]; omega)
  have hy0 : (y == 0) = false := by rw [beq_eq_false_iff_ne]; omega
  have hb1 : (b == 0) = false := by rw [beq_eq_false_iff_ne]; omega
  clear hg ha hb
  by_cases hbn : b < 0
  · have wb : IntKind.u64.wrap (wrap64 (-b)) = y := by rw [IntKind.wrap_u64]; unfold wrap64; omega
    by_cases han : a < 0
    · have wa : IntKind.u64.wrap (wrap64 (-a)) = x := by rw [IntKind.wrap_u64]; unfold wrap64; omega
      have hx0 : (x == 0) = false := by rw [beq_eq_false_iff_ne]; omega
      have HX0 := Aside0.mk (show 0 < x by omega)
      have HSG := Aside0.mk (show (false && decide (a ≠ 0)) = ((decide (a < 0) != decide (b < 0)) && decide (a ≠ 0)) from by simp [han, hbn])
      clear hx hy hra hrb
      go_enter Tryz.func10, Tryz.ntmps10
      go_wp2_with ((fail_if_success go_at_call 20); go_in)
      refine (normP_c g w.heap.size (w.heap.size + 1) false false (.slice (some ⟨w.heap.size, 0, none⟩) 1 1) (.slice (some ⟨w.heap.size + 1, 0, none⟩) 1 1) x y _ (by simp (disch := first | omega | (simp; omega) | (simp; done) | fail) [hp_new, hp_old, hp_here, hp_other, setObj_cells, hp_drew, hp_drewN, HG.out]) ⟨[], rfl, (by simp (disch := first | omega | (simp; omega) | (simp; done) | fail) [hp_new, hp_old, hp_here, hp_other, setObj_cells, hp_drew, hp_drewN, u64s_one]), okd_cons.2 ⟨HXB.out, okd_nil _⟩, by simp⟩ ⟨[], rfl, (by simp (disch := first | omega | (simp; omega) | (simp; done) | fail) [hp_new, hp_old, hp_here, hp_other, setObj_cells, hp_drew, hp_drewN, u64s_one]), okd_cons.2 ⟨⟨by have := HY.out.1; omega, HY.out.2⟩, okd_nil _⟩, by simp⟩ (by omega) (by omega) (by omega) HX0.out HY.out.1).mono ?_
      rintro e w1 ⟨rfl, hr, hk⟩
      have HR := Aside0.mk hr
      have HK := Aside0.mk (Kept.trans (S := On g) (show Kept (On g) w _ from by repeat first | with_reducible exact Kept.refl _ _ | (with_reducible refine Kept.alloc ?_ _) | (with_reducible refine kept_on ?_ _ _)) hk (fun i hi h => by
        rcases h with h | h
        · exact h
        · first | omega | (rcases h with h | h <;> omega)))
      clear hr hk
      go_wp2_with (fail)
      go_ret
      exact ⟨rfl, ⟨false, HR.out, HSG.out⟩, HK.out⟩
    · by_cases ha0 : a = 0
      · subst ha0
        have HSG := Aside0.mk (show (false && decide ((0 : Int) ≠ 0)) = ((decide ((0 : Int) < 0) != decide (b < 0)) && decide ((0 : Int) ≠ 0)) from by simp)
        have hxz : x = 0 := by omega
        subst hxz
        clear hx hy hra hrb
        go_enter Tryz.func10, Tryz.ntmps10
        go_wp2_with ((fail_if_success go_at_call 20); go_in)
        refine (normZ_c g w.heap.size none 0 true false (.slice (some ⟨w.heap.size, 0, none⟩) 1 1) y _ (by simp (disch := first | omega | (simp; omega) | (simp; done) | fail) [hp_new, hp_old, hp_here, hp_other, setObj_cells, hp_drew, hp_drewN, HG.out]) ⟨[], rfl, (by simp (disch := first | omega | (simp; omega) | (simp; done) | fail) [hp_new, hp_old, hp_here, hp_other, setObj_cells, hp_drew, hp_drewN, u64s_one]), okd_cons.2 ⟨⟨by have := HY.out.1; omega, HY.out.2⟩, okd_nil _⟩, by simp⟩ (by omega)).mono ?_
        rintro e w1 ⟨rfl, hr, ho, hk⟩
        have HR := Aside0.mk (show RatB w1 g false 0 1 from ⟨_, _, false, hr, Wd.nil _, (ho.nr (by omega)).wd⟩)
        have HG1 : Aside0 ((Int.gcd 0 y : Int) = y) := ⟨by have := HY.out.1; rw [Int.gcd_zero_left]; omega⟩
        have HK := Aside0.mk (Kept.trans (S := On g) (show Kept (On g) w _ from by repeat first | with_reducible exact Kept.refl _ _ | (with_reducible refine Kept.alloc ?_ _) | (with_reducible refine kept_on ?_ _ _)) hk (fun i hi h => by
          rcases h with h | h
          · exact h
          · first | omega | (rcases h with h | h <;> omega)))
        clear hr ho hk
        go_wp2_with (fail)
        go_ret
        exact ⟨rfl, ⟨false, by rw [HG1.out, Int.zero_ediv, Int.ediv_self (by have := HY.out.1; omega)]; exact HR.out, HSG.out⟩, HK.out⟩
      · have wa : IntKind.u64.wrap a = x := by rw [IntKind.wrap_u64]; omega
        have hx0 : (x == 0) = false := by rw [beq_eq_false_iff_ne]; omega
        have HX0 := Aside0.mk (show 0 < x by omega)
        have HSG := Aside0.mk (show (true && decide (a ≠ 0)) = ((decide (a < 0) != decide (b < 0)) && decide (a ≠ 0)) from by simp [han, hbn])
        clear hx hy hra hrb
        go_enter Tryz.func10, Tryz.ntmps10
        go_wp2_with ((fail_if_success go_at_call 20); go_in)
        refine (normP_c g w.heap.size (w.heap.size + 1) true false (.slice (some ⟨w.heap.size, 0, none⟩) 1 1) (.slice (some ⟨w.heap.size + 1, 0, none⟩) 1 1) x y _ (by simp (disch := first | omega | (simp; omega) | (simp; done) | fail) [hp_new, hp_old, hp_here, hp_other, setObj_cells, hp_drew, hp_drewN, HG.out]) ⟨[], rfl, (by simp (disch := first | omega | (simp; omega) | (simp; done) | fail) [hp_new, hp_old, hp_here, hp_other, setObj_cells, hp_drew, hp_drewN, u64s_one]), okd_cons.2 ⟨HXB.out, okd_nil _⟩, by simp⟩ ⟨[], rfl, (by simp (disch := first | omega | (simp; omega) | (simp; done) | fail) [hp_new, hp_old, hp_here, hp_other, setObj_cells, hp_drew, hp_drewN, u64s_one]), okd_cons.2 ⟨⟨by have := HY.out.1; omega, HY.out.2⟩, okd_nil _⟩, by simp⟩ (by omega) (by omega) (by omega) HX0.out HY.out.1).mono ?_
        rintro e w1 ⟨rfl, hr, hk⟩
        have HR := Aside0.mk hr
        have HK := Aside0.mk (Kept.trans (S := On g) (show Kept (On g) w _ from by repeat first | with_reducible exact Kept.refl _ _ | (with_reducible refine Kept.alloc ?_ _) | (with_reducible refine kept_on ?_ _ _)) hk (fun i hi h => by
          rcases h with h | h
          · exact h
          · first | omega | (rcases h with h | h <;> omega)))
        clear hr hk
        go_wp2_with (fail)
        go_ret
        exact ⟨rfl, ⟨true, HR.out, HSG.out⟩, HK.out⟩
  · have wb : IntKind.u64.wrap b = y := by rw [IntKind.wrap_u64]; omega
    by_cases han : a < 0
    · have wa : IntKind.u64.wrap (wrap64 (-a)) = x := by rw [IntKind.wrap_u64]; unfold wrap64; omega
      have hx0 : (x == 0) = false := by rw [beq_eq_false_iff_ne]; omega
      have HX0 := Aside0.mk (show 0 < x by omega)
      have HSG := Aside0.mk (show (true && decide (a ≠ 0)) = ((decide (a < 0) != decide (b < 0)) && decide (a ≠ 0)) from by simp [han, hbn])
      clear hx hy hra hrb
      go_enter Tryz.func10, Tryz.ntmps10
      go_wp2_with ((fail_if_success go_at_call 20); go_in)
      refine (normP_c g w.heap.size (w.heap.size + 1) true false (.slice (some ⟨w.heap.size, 0, none⟩) 1 1) (.slice (some ⟨w.heap.size + 1, 0, none⟩) 1 1) x y _ (by simp (disch := first | omega | (simp; omega) | (simp; done) | fail) [hp_new, hp_old, hp_here, hp_other, setObj_cells, hp_drew, hp_drewN, HG.out]) ⟨[], rfl, (by simp (disch := first | omega | (simp; omega) | (simp; done) | fail) [hp_new, hp_old, hp_here, hp_other, setObj_cells, hp_drew, hp_drewN, u64s_one]), okd_cons.2 ⟨HXB.out, okd_nil _⟩, by simp⟩ ⟨[], rfl, (by simp (disch := first | omega | (simp; omega) | (simp; done) | fail) [hp_new, hp_old, hp_here, hp_other, setObj_cells, hp_drew, hp_drewN, u64s_one]), okd_cons.2 ⟨⟨by have := HY.out.1; omega, HY.out.2⟩, okd_nil _⟩, by simp⟩ (by omega) (by omega) (by omega) HX0.out HY.out.1).mono ?_
      rintro e w1 ⟨rfl, hr, hk⟩
      have HR := Aside0.mk hr
      have HK := Aside0.mk (Kept.trans (S := On g) (show Kept (On g) w _ from by repeat first | with_reducible exact Kept.refl _ _ | (with_reducible refine Kept.alloc ?_ _) | (with_reducible refine kept_on ?_ _ _)) hk (fun i hi h => by
        rcases h with h | h
        · exact h
        · first | omega | (rcases h with h | h <;> omega)))
      clear hr hk
      go_wp2_with (fail)
      go_ret
      exact ⟨rfl, ⟨true, HR.out, HSG.out⟩, HK.out⟩
    · by_cases ha0 : a = 0
      · subst ha0
        have HSG := Aside0.mk (show (false && decide ((0 : Int) ≠ 0)) = ((decide ((0 : Int) < 0) != decide (b < 0)) && decide ((0 : Int) ≠ 0)) from by simp)
        have hxz : x = 0 := by omega
        subst hxz
        clear hx hy hra hrb
        go_enter Tryz.func10, Tryz.ntmps10
        go_wp2_with ((fail_if_success go_at_call 20); go_in)
        refine (normZ_c g w.heap.size none 0 false false (.slice (some ⟨w.heap.size, 0, none⟩) 1 1) y _ (by simp (disch := first | omega | (simp; omega) | (simp; done) | fail) [hp_new, hp_old, hp_here, hp_other, setObj_cells, hp_drew, hp_drewN, HG.out]) ⟨[], rfl, (by simp (disch := first | omega | (simp; omega) | (simp; done) | fail) [hp_new, hp_old, hp_here, hp_other, setObj_cells, hp_drew, hp_drewN, u64s_one]), okd_cons.2 ⟨⟨by have := HY.out.1; omega, HY.out.2⟩, okd_nil _⟩, by simp⟩ (by omega)).mono ?_
        rintro e w1 ⟨rfl, hr, ho, hk⟩
        have HR := Aside0.mk (show RatB w1 g false 0 1 from ⟨_, _, false, hr, Wd.nil _, (ho.nr (by omega)).wd⟩)
        have HG1 : Aside0 ((Int.gcd 0 y : Int) = y) := ⟨by have := HY.out.1; rw [Int.gcd_zero_left]; omega⟩
        have HK := Aside0.mk (Kept.trans (S := On g) (show Kept (On g) w _ from by repeat first | with_reducible exact Kept.refl _ _ | (with_reducible refine Kept.alloc ?_ _) | (with_reducible refine kept_on ?_ _ _)) hk (fun i hi h => by
          rcases h with h | h
          · exact h
          · first | omega | (rcases h with h | h <;> omega)))
        clear hr ho hk
        go_wp2_with (fail)
        go_ret
        exact ⟨rfl, ⟨false, by rw [HG1.out, Int.zero_ediv, Int.ediv_self (by have := HY.out.1; omega)]; exact HR.out, HSG.out⟩, HK.out⟩
      · have wa : IntKind.u64.wrap a = x := by rw [IntKind.wrap_u64]; omega
        have hx0 : (x == 0) = false := by rw [beq_eq_false_iff_ne]; omega
        have HX0 := Aside0.mk (show 0 < x by omega)
        have HSG := Aside0.mk (show (false && decide (a ≠ 0)) = ((decide (a < 0) != decide (b < 0)) && decide (a ≠ 0)) from by simp [han, hbn])
        clear hx hy hra hrb
        go_enter Tryz.func10, Tryz.ntmps10
        go_wp2_with ((fail_if_success go_at_call 20); go_in)
        refine (normP_c g w.heap.size (w.heap.size + 1) false false (.slice (some ⟨w.heap.size, 0, none⟩) 1 1) (.slice (some ⟨w.heap.size + 1, 0, none⟩) 1 1) x y _ (by simp (disch := first | omega | (simp; omega) | (simp; done) | fail) [hp_new, hp_old, hp_here, hp_other, setObj_cells, hp_drew, hp_drewN, HG.out]) ⟨[], rfl, (by simp (disch := first | omega | (simp; omega) | (simp; done) | fail) [hp_new, hp_old, hp_here, hp_other, setObj_cells, hp_drew, hp_drewN, u64s_one]), okd_cons.2 ⟨HXB.out, okd_nil _⟩, by simp⟩ ⟨[], rfl, (by simp (disch := first | omega | (simp; omega) | (simp; done) | fail) [hp_new, hp_old, hp_here, hp_other, setObj_cells, hp_drew, hp_drewN, u64s_one]), okd_cons.2 ⟨⟨by have := HY.out.1; omega, HY.out.2⟩, okd_nil _⟩, by simp⟩ (by omega) (by omega) (by omega) HX0.out HY.out.1).mono ?_
        rintro e w1 ⟨rfl, hr, hk⟩
        have HR := Aside0.mk hr
        have HK := Aside0.mk (Kept.trans (S := On g) (show Kept (On g) w _ from by repeat first | with_reducible exact Kept.refl _ _ | (with_reducible refine Kept.alloc ?_ _) | (with_reducible refine kept_on ?_ _ _)) hk (fun i hi h => by
          rcases h with h | h
          · exact h
          · first | omega | (rcases h with h | h <;> omega)))
        clear hr hk
        go_wp2_with (fail)
        go_ret
        exact ⟨rfl, ⟨false, HR.out, HSG.out⟩, HK.out⟩
end Go.Proofs.YtgpgacnnkjiadaaGreatDoor.Sp
