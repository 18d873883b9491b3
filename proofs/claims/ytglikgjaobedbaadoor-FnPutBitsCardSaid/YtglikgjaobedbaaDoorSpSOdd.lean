/-
  spec_Odd: its plain function and its contract, as printed (print.sh) for this seat.
-/
import Derived.Test.YtglikgjaobedbaaDoorSp0
import Derived.Test.YtglikgjaobedbaaDoorSpSHas
import Derived.Test.YtglikgjaobedbaaDoorSpSShr
namespace Go.Proofs.YtglikgjaobedbaaDoor.Sp
open Go.RowKit Go.Proofs.YtglikgjaobedbaaDoorW.PrintWords Go.Proofs.YtglikgjaobedbaaDoorW.PrintLast Go.Proofs.YtglikgjaobedbaaDoorW.PrintMore
attribute [local go_sem] max2_int min2_int max_two min_two max_three min_three max_four min_four
set_option linter.unusedVariables false
set_option linter.unusedSimpArgs false

/-! ### spec_Odd: function 41 -/
def spec_Odd.l0 : Nat → List Int → Int → Option (List Int × Int)
  | 0, _, _ => none
  | k + 1, x0, x4 => (spec_Has.f x0 x4).bind fun t184 => (if t184 = true then ((spec_Shr.f k x0 x4).bind fun t185 => (some (t185, x4))) else (spec_Odd.l0 k x0 (wrap64 (x4 + 1))))
def spec_Odd.f (k : Nat) (l0 : List Int) : Option (List Int × Int) := spec_Odd.l0 k l0 0
theorem spec_Odd.mono_l : ∀ k, (∀ y0 y1, LeO (spec_Odd.l0 k y0 y1) (spec_Odd.l0 (k + 1) y0 y1))
  | 0 => fun _ _ r h => by simp [spec_Odd.l0] at h
  | k + 1 => by
    have ih0 := spec_Odd.mono_l k
    · intro y0 y1
      unfold spec_Odd.l0
      repeat' first
      | (with_reducible exact ih0 _ _)
      | (with_reducible exact spec_Shr.mono _ _ _)
      | (with_reducible exact LeO.refl _)
      | (with_reducible exact LeO.none _)
      | (with_reducible refine LeO.ite ?_ ?_)
      | (with_reducible refine LeO.bind ?_ (fun _ => ?_))
      | exact ih0 _ _
      | exact spec_Shr.mono _ _ _
      | exact LeO.none _
      | refine LeO.ite ?_ ?_
      | refine LeO.bind ?_ (fun _ => ?_)
theorem spec_Odd.mono : ∀ a0 k, LeO (spec_Odd.f k a0) (spec_Odd.f (k + 1) a0) := by
  intro a0 k
  have ih0 := spec_Odd.mono_l k
  unfold spec_Odd.f
  repeat' first
      | (with_reducible exact ih0 _ _)
      | (with_reducible exact spec_Shr.mono _ _ _)
      | (with_reducible exact LeO.refl _)
      | (with_reducible exact LeO.none _)
      | (with_reducible refine LeO.ite ?_ ?_)
      | (with_reducible refine LeO.bind ?_ (fun _ => ?_))
      | exact ih0 _ _
      | exact spec_Shr.mono _ _ _
      | exact LeO.none _
      | refine LeO.ite ?_ ?_
      | refine LeO.bind ?_ (fun _ => ?_)
set_option maxHeartbeats 8000000 in
set_option maxRecDepth 100000 in
theorem spec_Odd.calls (k : Nat) (A0 : Option Addr) (c0 : Nat) (l0 : List Int) (r1 : List Int) (r2 : Int) (w : World) (hr0 : Kd.C (Kd.int .i64) w A0 l0.length l0) (hc0 : l0.length ≤ c0) (h : spec_Odd.f k l0 = some (r1, r2)) :
    Calls Tryd.prog 41 #[.slice A0 l0.length c0] w fun e w' => ∃ v0_ : Value, e = .returned (.tuple #[v0_, .int .i64 r2]) ∧ Kd.V (Kd.int .i64) 3 w' w.heap.size (fun k_ => (w.heap.size ≤ k_)) v0_ r1 ∧ Below w.heap.size w w' := by
  have HR0 := Aside0.mk hr0
  have HC0 := Aside0.mk hc0
  clear hr0 hc0
  have HB := Aside0.mk (Below.refl w.heap.size w)
  have H : (spec_Odd.l0 k l0 0) = some (r1, r2) := h
  clear h
  have H' := Aside0.mk H
  clear H
  go_enter Tryd.func41, Tryd.ntmps41
  go_wp2
  go_loopg [4] k (fun kq v4 w' => ∃ (x4_1 : Int), v4 = .int .i64 x4_1 ∧ Aside0 (spec_Odd.l0 kq l0 x4_1 = some (r1, r2)) ∧ Aside0 (kq ≤ k) ∧ Aside0 (Below w.heap.size w w'))
  case atStart => exact ⟨(0), (by first | rfl | (simp; done) | (simp [*]; done)), H', ⟨Nat.le_refl _⟩, ⟨by repeat (first | (with_reducible first | exact HB.out | apply below_alloc | apply pw_below_drewN | apply below_drew1) | exact HB.out)⟩⟩
  case round =>
    clear H'
    obtain ⟨x4_1, rfl, HA, HK1, HB⟩ := hrel
    cases gk with
    | zero => exact absurd HA.out (by simp [spec_Odd.l0])
    | succ k1 =>
      have H := HA.out
      clear HA
      simp only [spec_Odd.l0] at H
      replace H := Option.bind_eq_some_iff.mp H
      obtain ⟨t184, A20, H⟩ := H
      replace H : (if t184 = true then ((spec_Shr.f k1 l0 x4_1).bind fun t185 => (some (t185, x4_1))) else (spec_Odd.l0 k1 l0 (wrap64 (x4_1 + 1)))) = some (r1, r2) := H
      have A2 := Aside0.mk A20
      clear A20
      by_cases c3 : t184 = true
      · subst c3
        have H1 : ((spec_Shr.f k1 l0 x4_1).bind fun t185 => (some (t185, x4_1))) = some (r1, r2) := by rw [if_pos rfl] at H; exact H
        clear H
        have H := H1
        clear H1
        replace H := Option.bind_eq_some_iff.mp H
        obtain ⟨t185, A40, H⟩ := H
        replace H : (some (t185, x4_1)) = some (r1, r2) := H
        have A4 := Aside0.mk A40
        clear A40
        simp only [Option.some.injEq, Prod.mk.injEq] at H
        obtain ⟨rfl, rfl⟩ := H
        go_wp2_with (first | ((with_reducible refine gate_callee (f := 67) rfl ?_); refine goesL_ (some 7) rfl rfl Tryd.func67 (by kernel_rfl) rfl #[.slice A0 l0.length c0, .int .i64 x4_1] rfl (by (try simp only [List.map_toArray, List.map_cons, List.map_nil]); first | done | rfl | (simp only [List.length_drop, List.length_take]; rfl)) ?_; (with_reducible refine (spec_Has.calls _ _ l0 x4_1 true _ ?side1 ?side2 A2.out).mono ?_); (case side1 => repeat (first | exact (Kd.C_below HR0.out HB.out) | (with_reducible refine Kd.C_alloc ?_ _) | (with_reducible refine Kd.C_drewN ?_ _) | (with_reducible refine Kd.C_drew ?_))); (case side2 => exact HC0.out); rintro e w' ⟨rfl, ⟨nd, rfl⟩⟩; refine ⟨_, rfl, ?_⟩) | ((with_reducible refine gate_callee (f := 68) rfl ?_); refine goesL_ (some 13) rfl rfl Tryd.func68 (by kernel_rfl) rfl #[.slice A0 l0.length c0, .int .i64 x4_1] rfl (by (try simp only [List.map_toArray, List.map_cons, List.map_nil]); first | done | rfl | (simp only [List.length_drop, List.length_take]; rfl)) ?_; (with_reducible refine (spec_Shr.calls k1 _ _ l0 x4_1 t185 _ ?side1 ?side2 A4.out).mono ?_); (case side1 => repeat (first | exact (Kd.C_below HR0.out (by repeat (first | (with_reducible first | exact HB.out | apply below_alloc | apply pw_below_drewN | apply below_drew1) | exact HB.out))) | (with_reducible refine Kd.C_alloc ?_ _) | (with_reducible refine Kd.C_drewN ?_ _) | (with_reducible refine Kd.C_drew ?_))); (case side2 => exact HC0.out); rintro e w5 ⟨v186, rfl, ho0, hb⟩; refine ⟨_, rfl, ?_⟩; have n0_ := Aside0.mk (Kd.V_lower (Kd.V_mono (ok' := fun k_ => (w.heap.size ≤ k_)) ho0 (fun k_ hk_ => (Nat.le_trans (below_size (by repeat (first | (with_reducible first | exact HB.out | apply below_alloc | apply pw_below_drewN | apply below_drew1) | exact HB.out))) hk_))) (below_size (by repeat (first | (with_reducible first | exact HB.out | apply below_alloc | apply pw_below_drewN | apply below_drew1) | exact HB.out)))); have n1_ := Aside0.mk (below_step (by repeat (first | (with_reducible first | exact HB.out | apply below_alloc | apply pw_below_drewN | apply below_drew1) | exact HB.out)) hb); clear HB; have HO187 := n0_; have HB := n1_; clear n0_ n1_; (try clear hb); (try clear hb2); (try clear hk); (try clear hi); (try clear ho0)))
        go_ret2
        exact ⟨_, by first | rfl | (simp [errW_none, errW_some] <;> rfl) | (simp [*, errW_none, errW_some] <;> rfl), by (with_reducible repeat (first | apply Kd.V_alloc | apply Kd.V_drewN | apply Kd.V_drew)); exact HO187.out, by repeat (first | (with_reducible first | exact HB.out | apply below_alloc | apply pw_below_drewN | apply below_drew1) | exact HB.out)⟩
      · replace c3 := Bool.eq_false_iff.mpr c3
        subst c3
        have H1 : (spec_Odd.l0 k1 l0 (wrap64 (x4_1 + 1))) = some (r1, r2) := by rw [if_neg (show ¬ (false = true) by decide)] at H; exact H
        clear H
        have H := H1
        clear H1
        have H' := Aside0.mk H
        clear H
        go_wp2_with (first | ((with_reducible refine gate_callee (f := 67) rfl ?_); refine goesL_ (some 7) rfl rfl Tryd.func67 (by kernel_rfl) rfl #[.slice A0 l0.length c0, .int .i64 x4_1] rfl (by (try simp only [List.map_toArray, List.map_cons, List.map_nil]); first | done | rfl | (simp only [List.length_drop, List.length_take]; rfl)) ?_; (with_reducible refine (spec_Has.calls _ _ l0 x4_1 false _ ?side1 ?side2 A2.out).mono ?_); (case side1 => repeat (first | exact (Kd.C_below HR0.out HB.out) | (with_reducible refine Kd.C_alloc ?_ _) | (with_reducible refine Kd.C_drewN ?_ _) | (with_reducible refine Kd.C_drew ?_))); (case side2 => exact HC0.out); rintro e w' ⟨rfl, ⟨nd, rfl⟩⟩; refine ⟨_, rfl, ?_⟩))
        go_roundg k1
        case measure => have := HK1.out; omega
        case rel => exact ⟨(wrap64 (x4_1 + 1)), (by first | rfl | (simp; done) | (simp [*]; done)), H', ⟨by have := HK1.out; omega⟩, ⟨by repeat (first | (with_reducible first | exact HB.out | apply below_alloc | apply pw_below_drewN | apply below_drew1) | exact HB.out)⟩⟩

end Go.Proofs.YtglikgjaobedbaaDoor.Sp
