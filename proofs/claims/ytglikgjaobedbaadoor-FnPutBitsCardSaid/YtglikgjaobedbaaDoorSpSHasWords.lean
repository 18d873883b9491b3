/-
  spec_HasWords: its plain function and its contract, as printed (print.sh) for this seat.
-/
import Derived.Test.YtglikgjaobedbaaDoorSp0
import Derived.Test.YtglikgjaobedbaaDoorSpSWords
namespace Go.Proofs.YtglikgjaobedbaaDoor.Sp
open Go.RowKit Go.Proofs.YtglikgjaobedbaaDoorW.PrintWords Go.Proofs.YtglikgjaobedbaaDoorW.PrintLast Go.Proofs.YtglikgjaobedbaaDoorW.PrintMore
attribute [local go_sem] max2_int min2_int max_two min_two max_three min_three max_four min_four
set_option linter.unusedVariables false
set_option linter.unusedSimpArgs false

/-! ### spec_HasWords: function 42 -/
def spec_HasWords.l0 : Nat → List Int → List Int → Int → Int → Option (Bool)
  | 0, _, _, _, _ => none
  | k + 1, x0, x5, x15, x16 => if x16 < x15 then (if 0 ≤ x16 then (if x16 < (x0.length : Int) then (if x16 < (x5.length : Int) then (if (rd x0 x16) = (rd x5 x16) then (spec_HasWords.l0 k x0 x5 x15 (wrap64 (x16 + 1))) else (some false)) else (none)) else (none)) else (none)) else (some true)
def spec_HasWords.f (k : Nat) (l0 : List Int) (l1 : List Int) : Option (Bool) := (spec_Words.f k l1).bind fun t199 => (if (l0.length : Int) = (t199.length : Int) then (spec_HasWords.l0 k l0 t199 (t199.length : Int) 0) else (some false))
theorem spec_HasWords.mono_l : ∀ k, (∀ y0 y1 y2 y3, LeO (spec_HasWords.l0 k y0 y1 y2 y3) (spec_HasWords.l0 (k + 1) y0 y1 y2 y3))
  | 0 => fun _ _ _ _ r h => by simp [spec_HasWords.l0] at h
  | k + 1 => by
    have ih0 := spec_HasWords.mono_l k
    · intro y0 y1 y2 y3
      unfold spec_HasWords.l0
      repeat' first
      | (with_reducible exact ih0 _ _ _ _)
      | (with_reducible exact spec_Words.mono _ _)
      | (with_reducible exact LeO.refl _)
      | (with_reducible exact LeO.none _)
      | (with_reducible refine LeO.ite ?_ ?_)
      | (with_reducible refine LeO.bind ?_ (fun _ => ?_))
      | exact ih0 _ _ _ _
      | exact spec_Words.mono _ _
      | exact LeO.none _
      | refine LeO.ite ?_ ?_
      | refine LeO.bind ?_ (fun _ => ?_)
theorem spec_HasWords.mono : ∀ a0 a1 k, LeO (spec_HasWords.f k a0 a1) (spec_HasWords.f (k + 1) a0 a1) := by
  intro a0 a1 k
  have ih0 := spec_HasWords.mono_l k
  unfold spec_HasWords.f
  repeat' first
      | (with_reducible exact ih0 _ _ _ _)
      | (with_reducible exact spec_Words.mono _ _)
      | (with_reducible exact LeO.refl _)
      | (with_reducible exact LeO.none _)
      | (with_reducible refine LeO.ite ?_ ?_)
      | (with_reducible refine LeO.bind ?_ (fun _ => ?_))
      | exact ih0 _ _ _ _
      | exact spec_Words.mono _ _
      | exact LeO.none _
      | refine LeO.ite ?_ ?_
      | refine LeO.bind ?_ (fun _ => ?_)
set_option maxHeartbeats 8000000 in
set_option maxRecDepth 100000 in
theorem spec_HasWords.calls (k : Nat) (A0 : Option Addr) (c0 : Nat) (l0 : List Int) (A1 : Option Addr) (c1 : Nat) (l1 : List Int) (r : Bool) (w : World) (hr0 : Kd.C (Kd.int .u64) w A0 l0.length l0) (hc0 : l0.length ≤ c0) (hr1 : Kd.C (Kd.int .i64) w A1 l1.length l1) (hc1 : l1.length ≤ c1) (h : spec_HasWords.f k l0 l1 = some r) :
    Calls Tryd.prog 42 #[.slice A0 l0.length c0, .slice A1 l1.length c1] w fun e w' => e = .returned (.bool r) ∧ Below w.heap.size w w' := by
  have HR0 := Aside0.mk hr0
  have HC0 := Aside0.mk hc0
  clear hr0 hc0
  have HR1 := Aside0.mk hr1
  have HC1 := Aside0.mk hc1
  clear hr1 hc1
  have HB := Aside0.mk (Below.refl w.heap.size w)
  have H : ((spec_Words.f k l1).bind fun t199 => (if (l0.length : Int) = (t199.length : Int) then (spec_HasWords.l0 k l0 t199 (t199.length : Int) 0) else (some false))) = some r := h
  clear h
  replace H := Option.bind_eq_some_iff.mp H
  obtain ⟨t199, A30, H⟩ := H
  replace H : (if (l0.length : Int) = (t199.length : Int) then (spec_HasWords.l0 k l0 t199 (t199.length : Int) 0) else (some false)) = some r := H
  have A3 := Aside0.mk A30
  clear A30
  by_cases c4 : (l0.length : Int) = (t199.length : Int)
  · rw [if_pos c4] at H
    have c4b0 : ((l0.length : Int) == (t199.length : Int)) = true := beq_iff_eq.mpr c4
    have c4b1 : ((l0.length : Int) != (t199.length : Int)) = false := bne_eq_false_iff_eq.mpr c4
    have c4b2 : (l0.length == t199.length) = true := by first | simpa using c4 | (simp at c4 ⊢; omega)
    clear c4
    have H' := Aside0.mk H
    clear H
    go_enter Tryd.func42, Tryd.ntmps42
    go_wp2_with (first | (go_at_call 69; (with_reducible refine (spec_Words.calls k _ _ l1 t199 _ ?side1 ?side2 A3.out).mono ?_); (case side1 => repeat (first | exact HR1.out | (with_reducible refine Kd.C_alloc ?_ _) | (with_reducible refine Kd.C_drewN ?_ _) | (with_reducible refine Kd.C_drew ?_))); (case side2 => exact HC1.out); rintro e w5 ⟨v200, rfl, ho0, hb⟩; have n0_ := Aside0.mk (Kd.R_lower ho0 (below_size (by repeat (first | (with_reducible first | exact HB.out | apply below_alloc | apply pw_below_drewN | apply below_drew1) | exact HB.out)))); have n1_ := Aside0.mk (below_step (by repeat (first | (with_reducible first | exact HB.out | apply below_alloc | apply pw_below_drewN | apply below_drew1) | exact HB.out)) hb); clear HB; have HO201 := n0_; have HB := n1_; clear n0_ n1_; (try clear hb); (try clear hb2); (try clear hk); (try clear hi); (try clear ho0); obtain ⟨Ao6, co6, eo6⟩ := Kd.R_slice HO201.out; subst eo6))
    repeat (go_quiet (first | (go_at_call 69; (with_reducible refine (spec_Words.calls k _ _ l1 t199 _ ?side1 ?side2 A3.out).mono ?_); (case side1 => repeat (first | exact HR1.out | (with_reducible refine Kd.C_alloc ?_ _) | (with_reducible refine Kd.C_drewN ?_ _) | (with_reducible refine Kd.C_drew ?_))); (case side2 => exact HC1.out); rintro e w5 ⟨v200, rfl, ho0, hb⟩; have n0_ := Aside0.mk (Kd.R_lower ho0 (below_size (by repeat (first | (with_reducible first | exact HB.out | apply below_alloc | apply pw_below_drewN | apply below_drew1) | exact HB.out)))); have n1_ := Aside0.mk (below_step (by repeat (first | (with_reducible first | exact HB.out | apply below_alloc | apply pw_below_drewN | apply below_drew1) | exact HB.out)) hb); clear HB; have HO201 := n0_; have HB := n1_; clear n0_ n1_; (try clear hb); (try clear hb2); (try clear hk); (try clear hi); (try clear ho0); obtain ⟨Ao6, co6, eo6⟩ := Kd.R_slice HO201.out; subst eo6)); try go_wp2_with (first | (go_at_call 69; (with_reducible refine (spec_Words.calls k _ _ l1 t199 _ ?side1 ?side2 A3.out).mono ?_); (case side1 => repeat (first | exact HR1.out | (with_reducible refine Kd.C_alloc ?_ _) | (with_reducible refine Kd.C_drewN ?_ _) | (with_reducible refine Kd.C_drew ?_))); (case side2 => exact HC1.out); rintro e w5 ⟨v200, rfl, ho0, hb⟩; have n0_ := Aside0.mk (Kd.R_lower ho0 (below_size (by repeat (first | (with_reducible first | exact HB.out | apply below_alloc | apply pw_below_drewN | apply below_drew1) | exact HB.out)))); have n1_ := Aside0.mk (below_step (by repeat (first | (with_reducible first | exact HB.out | apply below_alloc | apply pw_below_drewN | apply below_drew1) | exact HB.out)) hb); clear HB; have HO201 := n0_; have HB := n1_; clear n0_ n1_; (try clear hb); (try clear hb2); (try clear hk); (try clear hi); (try clear ho0); obtain ⟨Ao6, co6, eo6⟩ := Kd.R_slice HO201.out; subst eo6)))
    go_loopg [16] k (fun kq v16 w' => ∃ (x16_1 : Int), v16 = .int .i64 x16_1 ∧ Aside0 (spec_HasWords.l0 kq l0 t199 (t199.length : Int) x16_1 = some r) ∧ Aside0 (kq ≤ k) ∧ Aside0 (Kd.R (Kd.int .u64) 23 w' w.heap.size (fun _ => True) (.slice Ao6 t199.length co6) t199) ∧ Aside0 (Below w.heap.size w w'))
    case atStart => exact ⟨(0), (by first | rfl | (simp; done) | (simp [*]; done)), H', ⟨Nat.le_refl _⟩, ⟨by (with_reducible repeat (first | apply Kd.R_alloc | apply Kd.R_drewN | apply Kd.R_drew)); exact HO201.out⟩, ⟨by repeat (first | (with_reducible first | exact HB.out | apply below_alloc | apply pw_below_drewN | apply below_drew1) | exact HB.out)⟩⟩
    case round =>
      clear H'
      try clear c1
      try clear p2
      try clear c4
      try clear c4b0
      try clear c4b1
      try clear c4b2
      obtain ⟨x16_1, rfl, HA, HK1, HO_5, HB⟩ := hrel
      cases gk with
      | zero => exact absurd HA.out (by simp [spec_HasWords.l0])
      | succ k1 =>
        have H := HA.out
        clear HA
        simp only [spec_HasWords.l0] at H
        by_cases c7 : x16_1 < (t199.length : Int)
        · rw [if_pos c7] at H
          have c7b0 : decide (x16_1 < (t199.length : Int)) = true := decide_eq_true c7
          clear c7
          by_cases c8 : 0 ≤ x16_1
          · rw [if_pos c8] at H
            have c8b0 : decide (0 ≤ x16_1) = true := decide_eq_true c8
            clear c8
            by_cases c9 : x16_1 < (l0.length : Int)
            · rw [if_pos c9] at H
              have c9b0 : decide (x16_1 < (l0.length : Int)) = true := decide_eq_true c9
              clear c9
              by_cases c10 : x16_1 < (t199.length : Int)
              · rw [if_pos c10] at H
                have c10b0 : decide (x16_1 < (t199.length : Int)) = true := decide_eq_true c10
                clear c10
                by_cases c11 : (rd l0 x16_1) = (rd t199 x16_1)
                · rw [if_pos c11] at H
                  have c11b0 : ((rd l0 x16_1) == (rd t199 x16_1)) = true := beq_iff_eq.mpr c11
                  have c11b1 : ((rd l0 x16_1) != (rd t199 x16_1)) = false := bne_eq_false_iff_eq.mpr c11
                  clear c11
                  have H' := Aside0.mk H
                  clear H
                  have p202 : 0 ≤ (x16_1 : Int) := of_decide_eq_true (by first | (with_reducible assumption) | assumption)
                  have q202 : x16_1 < (l0.length : Int) := of_decide_eq_true (by first | (with_reducible assumption) | assumption)
                  obtain ⟨ad202, e202, hx202_0⟩ := Kd.at_int HR0.out x16_1 p202 q202
                  cases e202
                  replace hx202_0 := (HB.out.cell (World.block_lt_of_cell? w _ hx202_0)).trans hx202_0
                  replace p202 := eq_true p202
                  replace q202 := eq_true q202
                  have p203 : 0 ≤ (x16_1 : Int) := of_decide_eq_true (by first | (with_reducible assumption) | assumption)
                  have q203 : x16_1 < (t199.length : Int) := of_decide_eq_true (by first | (with_reducible assumption) | assumption)
                  obtain ⟨ad203, e203, hx203_0⟩ := Kd.at_int (Kd.R_reads' HO_5.out).2.2 x16_1 p203 q203
                  cases e203
                  replace p203 := eq_true p203
                  replace q203 := eq_true q203
                  go_wp2
                  repeat (go_quiet (fail); try go_wp2)
                  go_roundg k1
                  case measure => have := HK1.out; omega
                  case rel => exact ⟨(wrap64 (x16_1 + 1)), (by first | rfl | (simp; done) | (simp [*]; done)), H', ⟨by have := HK1.out; omega⟩, ⟨by (with_reducible repeat (first | apply Kd.R_alloc | apply Kd.R_drewN | apply Kd.R_drew)); exact HO_5.out⟩, ⟨by repeat (first | (with_reducible first | exact HB.out | apply below_alloc | apply pw_below_drewN | apply below_drew1) | exact HB.out)⟩⟩
                · rw [if_neg c11] at H
                  have c11b0 : ((rd l0 x16_1) == (rd t199 x16_1)) = false := beq_eq_false_iff_ne.mpr c11
                  have c11b1 : ((rd l0 x16_1) != (rd t199 x16_1)) = true := bne_iff_ne.mpr c11
                  obtain rfl := Option.some.inj H
                  have p202 : 0 ≤ (x16_1 : Int) := of_decide_eq_true (by first | (with_reducible assumption) | assumption)
                  have q202 : x16_1 < (l0.length : Int) := of_decide_eq_true (by first | (with_reducible assumption) | assumption)
                  obtain ⟨ad202, e202, hx202_0⟩ := Kd.at_int HR0.out x16_1 p202 q202
                  cases e202
                  replace hx202_0 := (HB.out.cell (World.block_lt_of_cell? w _ hx202_0)).trans hx202_0
                  replace p202 := eq_true p202
                  replace q202 := eq_true q202
                  have p203 : 0 ≤ (x16_1 : Int) := of_decide_eq_true (by first | (with_reducible assumption) | assumption)
                  have q203 : x16_1 < (t199.length : Int) := of_decide_eq_true (by first | (with_reducible assumption) | assumption)
                  obtain ⟨ad203, e203, hx203_0⟩ := Kd.at_int (Kd.R_reads' HO_5.out).2.2 x16_1 p203 q203
                  cases e203
                  replace p203 := eq_true p203
                  replace q203 := eq_true q203
                  go_wp2
                  repeat (go_quiet (fail); try go_wp2)
                  go_ret
                  exact ⟨by first | rfl | (simp [errW_none, errW_some] <;> rfl) | (simp [*, errW_none, errW_some] <;> rfl), by repeat (first | (with_reducible first | exact HB.out | apply below_alloc | apply pw_below_drewN | apply below_drew1) | exact HB.out)⟩
              · rw [if_neg c10] at H
                exact absurd H (by simp)
            · rw [if_neg c9] at H
              exact absurd H (by simp)
          · rw [if_neg c8] at H
            exact absurd H (by simp)
        · rw [if_neg c7] at H
          have c7b0 : decide (x16_1 < (t199.length : Int)) = false := decide_eq_false c7
          clear c7
          obtain rfl := Option.some.inj H
          go_wp2
          repeat (go_quiet (fail); try go_wp2)
          go_ret
          exact ⟨by first | rfl | (simp [errW_none, errW_some] <;> rfl) | (simp [*, errW_none, errW_some] <;> rfl), by repeat (first | (with_reducible first | exact HB.out | apply below_alloc | apply pw_below_drewN | apply below_drew1) | exact HB.out)⟩
  · rw [if_neg c4] at H
    have c4b0 : ((l0.length : Int) == (t199.length : Int)) = false := beq_eq_false_iff_ne.mpr c4
    have c4b1 : ((l0.length : Int) != (t199.length : Int)) = true := bne_iff_ne.mpr c4
    have c4b2 : (l0.length == t199.length) = false := by first | simpa using c4 | (simp at c4 ⊢; omega)
    obtain rfl := Option.some.inj H
    go_enter Tryd.func42, Tryd.ntmps42
    go_wp2_with (first | (go_at_call 69; (with_reducible refine (spec_Words.calls k _ _ l1 t199 _ ?side1 ?side2 A3.out).mono ?_); (case side1 => repeat (first | exact HR1.out | (with_reducible refine Kd.C_alloc ?_ _) | (with_reducible refine Kd.C_drewN ?_ _) | (with_reducible refine Kd.C_drew ?_))); (case side2 => exact HC1.out); rintro e w12 ⟨v200, rfl, ho0, hb⟩; have n0_ := Aside0.mk (Kd.R_lower ho0 (below_size (by repeat (first | (with_reducible first | exact HB.out | apply below_alloc | apply pw_below_drewN | apply below_drew1) | exact HB.out)))); have n1_ := Aside0.mk (below_step (by repeat (first | (with_reducible first | exact HB.out | apply below_alloc | apply pw_below_drewN | apply below_drew1) | exact HB.out)) hb); clear HB; have HO201 := n0_; have HB := n1_; clear n0_ n1_; (try clear hb); (try clear hb2); (try clear hk); (try clear hi); (try clear ho0); obtain ⟨Ao13, co13, eo13⟩ := Kd.R_slice HO201.out; subst eo13))
    repeat (go_quiet (first | (go_at_call 69; (with_reducible refine (spec_Words.calls k _ _ l1 t199 _ ?side1 ?side2 A3.out).mono ?_); (case side1 => repeat (first | exact HR1.out | (with_reducible refine Kd.C_alloc ?_ _) | (with_reducible refine Kd.C_drewN ?_ _) | (with_reducible refine Kd.C_drew ?_))); (case side2 => exact HC1.out); rintro e w12 ⟨v200, rfl, ho0, hb⟩; have n0_ := Aside0.mk (Kd.R_lower ho0 (below_size (by repeat (first | (with_reducible first | exact HB.out | apply below_alloc | apply pw_below_drewN | apply below_drew1) | exact HB.out)))); have n1_ := Aside0.mk (below_step (by repeat (first | (with_reducible first | exact HB.out | apply below_alloc | apply pw_below_drewN | apply below_drew1) | exact HB.out)) hb); clear HB; have HO201 := n0_; have HB := n1_; clear n0_ n1_; (try clear hb); (try clear hb2); (try clear hk); (try clear hi); (try clear ho0); obtain ⟨Ao13, co13, eo13⟩ := Kd.R_slice HO201.out; subst eo13)); try go_wp2_with (first | (go_at_call 69; (with_reducible refine (spec_Words.calls k _ _ l1 t199 _ ?side1 ?side2 A3.out).mono ?_); (case side1 => repeat (first | exact HR1.out | (with_reducible refine Kd.C_alloc ?_ _) | (with_reducible refine Kd.C_drewN ?_ _) | (with_reducible refine Kd.C_drew ?_))); (case side2 => exact HC1.out); rintro e w12 ⟨v200, rfl, ho0, hb⟩; have n0_ := Aside0.mk (Kd.R_lower ho0 (below_size (by repeat (first | (with_reducible first | exact HB.out | apply below_alloc | apply pw_below_drewN | apply below_drew1) | exact HB.out)))); have n1_ := Aside0.mk (below_step (by repeat (first | (with_reducible first | exact HB.out | apply below_alloc | apply pw_below_drewN | apply below_drew1) | exact HB.out)) hb); clear HB; have HO201 := n0_; have HB := n1_; clear n0_ n1_; (try clear hb); (try clear hb2); (try clear hk); (try clear hi); (try clear ho0); obtain ⟨Ao13, co13, eo13⟩ := Kd.R_slice HO201.out; subst eo13)))
    go_ret
    exact ⟨by first | rfl | (simp [errW_none, errW_some] <;> rfl) | (simp [*, errW_none, errW_some] <;> rfl), by repeat (first | (with_reducible first | exact HB.out | apply below_alloc | apply pw_below_drewN | apply below_drew1) | exact HB.out)⟩

end Go.Proofs.YtglikgjaobedbaaDoor.Sp
