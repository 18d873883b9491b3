/-
  ARGUMENTS AS ROWS OF WORDS; 'is' where it is true; 'whole'.
-/
import Derived.Test.YtgpgacnnkjiadaaGreatDoorRow
import Derived.Test.YtgpgacnnkjiadaaGreatDoorImplOf
import Derived.Test.YtgpgacnnkjiadaaGreatDoorIs
namespace Go.Proofs.YtgpgacnnkjiadaaGreatDoor.Sp
open Go.RowKit Go.Proofs.YtgpgacnnkjiadaaGreatDoorW.PrintWords Go.Proofs.YtgpgacnnkjiadaaGreatDoorW.PrintLast Go.Proofs.YtgpgacnnkjiadaaGreatDoorW.PrintMore Go.Proofs.YtgpgacnnkjiadaaGreatDoor.Dig
set_option linter.unusedVariables false
set_option linter.unusedSimpArgs false
theorem ws_in {w : World} {v : Value} {l : List Int} (h : InInts .u64 w v l) : Ws w v l := by
  obtain ⟨A, c, e, h1, h2, h3⟩ := h
  exact ⟨A, c, e, h1, h2, fun d hd => by have := wf_u64 (h3 d hd); rw [BW_def]; exact this⟩
theorem of_s (v : Value) (l : List Int) (w : World) (h : Ws w v l) (hl : l.length ≤ 1000000) : Calls Tryz.prog 14 #[v] w fun e w' => ∃ A m c, e = .returned (.slice A m c) ∧ Dg w' (.slice A m c) (ev BW l) ∧ Below w.heap.size w w' := by
  refine (of_c v l w h hl).mono ?_
  rintro e w' ⟨v, rfl, ⟨A, c, l, rfl, h2, h3, h4, h5⟩, hb⟩
  exact ⟨_, _, _, rfl, ⟨A, c, l, rfl, h2, h3, h4, h5⟩, hb⟩
theorem small_s (n : Int) (h0 : 0 ≤ n) (h1 : n ≤ 1099511627775) (w : World) : Calls Tryz.prog 43 #[.int .i64 n] w fun e w' => ∃ A m c, e = .returned (.slice A m c) ∧ Dg w' (.slice A m c) n ∧ Below w.heap.size w w' := by
  refine (small_c n h0 h1 w).mono ?_
  rintro e w' ⟨v, rfl, ⟨A, c, l, rfl, h2, h3, h4, h5⟩, hb⟩
  exact ⟨_, _, _, rfl, ⟨A, c, l, rfl, h2, h3, h4, h5⟩, hb⟩
theorem of1_s (g : Nat) (t : TypeId) (b : Int) (w : World) (h : hp w g = some (.cells #[.int .u64 b] t (0, 0))) (h0 : 0 ≤ b) (h1 : b < 18446744073709551616) : Calls Tryz.prog 14 #[.slice (some ⟨g, 0, none⟩) 1 1] w fun e w' => ∃ A m c, e = .returned (.slice A m c) ∧ Dg w' (.slice A m c) b ∧ Below w.heap.size w w' := by
  have := of_s (.slice (some ⟨g, 0, none⟩) 1 1) [b] w ⟨_, _, rfl, by simp, lit1_C g t _ _ h, okd_cons.2 ⟨⟨h0, by rw [BW_def]; exact h1⟩, okd_nil _⟩⟩ (by simp)
  rw [ev_cons, ev_nil] at this
  simpa using this
theorem is1_c (b neg : Bool) (A A2 A' A2' : Option Addr) (m c m2 c2 m' c' m2' c2' : Nat) (n : Int) (w : World) (h : Wd w (.slice A m c) n) (h2 : Wd w (.slice A2 m2 c2) 1) (h' : Dg w (.slice A' m' c') n) (h2' : Dg w (.slice A2' m2' c2') 1) (hn : n < Lim) (hs : b = (neg && decide (0 < n))) :
    Calls Tryz.prog 7 #[.agg #[.bool b, .slice A m c, .slice A2 m2 c2], .bool neg, .slice A' m' c', .slice A2' m2' c2'] w fun e w' => e = .returned (.bool true) ∧ Below w.heap.size w w' := by
  obtain ⟨_, _, x, e, q2, q3, q4, q5⟩ := h
  injection e with e1 e2 e3
  subst e1 e2 e3
  obtain ⟨_, _, y, e, r2, r3, r4, r5⟩ := h2
  injection e with e1 e2 e3
  subst e1 e2 e3
  refine (is_c b neg A A2 A' A2' x.length c y.length c2 m' c' m2' c2' x y n 1 w ⟨_, _, rfl, q2, q3, q4.ok⟩ ⟨_, _, rfl, r2, r3, r4.ok⟩ h' h2' hn one_Lim (by omega)).mono ?_
  rintro e w' ⟨r, rfl, hr, hb⟩
  have : r = true := hr.2 ⟨⟨hs, q4, by rw [q5]; simp⟩, r4, by rw [r5]; simp⟩
  subst this
  exact ⟨rfl, hb⟩
set_option maxHeartbeats 800000 in
set_option maxRecDepth 100000 in
theorem whole_c (a : Int) (ha : (Lit.int .i64 a).wf = true) (w : World) :
    Calls Tryz.prog 6 #[.int .i64 a] w fun e w' => ∃ A m c, e = .returned (.slice A m c) ∧ Dg w' (.slice A m c) a.natAbs ∧ Below w.heap.size w w' := by
  have hr := wf_i64 ha
  obtain ⟨x, hx⟩ : ∃ x : Int, x = a.natAbs := ⟨_, rfl⟩
  rw [← hx]
  have HX := Aside0.mk (show 0 ≤ x ∧ x < BW from by rw [BW_def]; omega)
  have HW := Aside0.mk (show ev BW [x] = x from by rw [ev_cons, ev_nil]; simp)
  by_cases hneg : a < 0
  · have w1 : IntKind.u64.wrap (wrap64 (-a)) = x := by rw [IntKind.wrap_u64]; unfold wrap64; omega
    clear hx hr ha
    go_enter Tryz.func6, Tryz.ntmps6
    go_wp2_with ((fail_if_success go_at_call 14); go_in)
    refine (of_c (.slice (some ⟨w.heap.size, 0, none⟩) 1 1) [x] _ ⟨_, _, rfl, by simp, lit1_C w.heap.size 45 _ _ (by simp (disch := first | omega | (simp; omega) | (simp; done) | fail) [hp_new, hp_old, hp_here, hp_other, setObj_cells, hp_drew, hp_drewN]), okd_cons.2 ⟨HX.out, okd_nil _⟩⟩ (by simp)).mono ?_
    rintro e w1 ⟨v, rfl, hv, hb⟩
    rw [HW.out] at hv
    obtain ⟨A, c, l, rfl, h2, h3, h4, h5⟩ := hv
    have HV := Aside0.mk (show Dg w1 (.slice A l.length c) x from ⟨A, c, l, rfl, h2, h3, h4, h5⟩)
    have HB := Aside0.mk (below_step (below_alloc (Below.refl w.heap.size w) _) hb)
    clear hb h2 h3 h4 h5
    go_wp2_with (fail)
    go_ret
    exact ⟨_, _, _, rfl, HV.out, HB.out⟩
  · have w1 : IntKind.u64.wrap a = x := by rw [IntKind.wrap_u64]; omega
    clear hx hr ha
    go_enter Tryz.func6, Tryz.ntmps6
    go_wp2_with ((fail_if_success go_at_call 14); go_in)
    refine (of_c (.slice (some ⟨w.heap.size, 0, none⟩) 1 1) [x] _ ⟨_, _, rfl, by simp, lit1_C w.heap.size 45 _ _ (by simp (disch := first | omega | (simp; omega) | (simp; done) | fail) [hp_new, hp_old, hp_here, hp_other, setObj_cells, hp_drew, hp_drewN]), okd_cons.2 ⟨HX.out, okd_nil _⟩⟩ (by simp)).mono ?_
    rintro e w1 ⟨v, rfl, hv, hb⟩
    rw [HW.out] at hv
    obtain ⟨A, c, l, rfl, h2, h3, h4, h5⟩ := hv
    have HV := Aside0.mk (show Dg w1 (.slice A l.length c) x from ⟨A, c, l, rfl, h2, h3, h4, h5⟩)
    have HB := Aside0.mk (below_step (below_alloc (Below.refl w.heap.size w) _) hb)
    clear hb h2 h3 h4 h5
    go_wp2_with (fail)
    go_ret
    exact ⟨_, _, _, rfl, HV.out, HB.out⟩
end Go.Proofs.YtgpgacnnkjiadaaGreatDoor.Sp
