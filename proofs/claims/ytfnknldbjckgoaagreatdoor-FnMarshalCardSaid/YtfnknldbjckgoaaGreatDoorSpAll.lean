/-
  Several texts in one (merged by program).
-/
import Derived.Test.YtfnknldbjckgoaaGreatDoorSp0
/-! ## SpSSmall -/
section
namespace Go.Proofs.YtfnknldbjckgoaaGreatDoor.Sp
open Go.RowKit Go.Proofs.YtfnknldbjckgoaaGreatDoorW.PrintWords Go.Proofs.YtfnknldbjckgoaaGreatDoorW.PrintLast Go.Proofs.YtfnknldbjckgoaaGreatDoorW.PrintMore
attribute [local go_sem] max2_int min2_int max_two min_two max_three min_three max_four min_four
set_option linter.unusedVariables false
set_option linter.unusedSimpArgs false

/-! ### spec_Small: function 44 -/
def spec_Small.l0 : Nat → Int → List Int → Option (List Int)
  | 0, _, _ => none
  | k + 1, x0, x3 => if x0 > 0 then (if x3.length < 17592186044416 then (spec_Small.l0 k (wrap64 (Int.tdiv x0 65536)) (x3 ++ [Int.tmod x0 65536])) else (none)) else (some x3)
def spec_Small.f (k : Nat) (a0 : Int) : Option (List Int) := spec_Small.l0 k a0 (([] : List Int))
theorem spec_Small.mono_l : ∀ k, (∀ y0 y1, LeO (spec_Small.l0 k y0 y1) (spec_Small.l0 (k + 1) y0 y1))
  | 0 => fun _ _ r h => by simp [spec_Small.l0] at h
  | k + 1 => by
    have ih0 := spec_Small.mono_l k
    · intro y0 y1
      unfold spec_Small.l0
      repeat' first
      | (with_reducible exact ih0 _ _)
      | (with_reducible exact LeO.refl _)
      | (with_reducible exact LeO.none _)
      | (with_reducible refine LeO.ite ?_ ?_)
      | (with_reducible refine LeO.bind ?_ (fun _ => ?_))
      | exact ih0 _ _
      | exact LeO.none _
      | refine LeO.ite ?_ ?_
      | refine LeO.bind ?_ (fun _ => ?_)
theorem spec_Small.mono : ∀ a0 k, LeO (spec_Small.f k a0) (spec_Small.f (k + 1) a0) := by
  intro a0 k
  have ih0 := spec_Small.mono_l k
  unfold spec_Small.f
  repeat' first
      | (with_reducible exact ih0 _ _)
      | (with_reducible exact LeO.refl _)
      | (with_reducible exact LeO.none _)
      | (with_reducible refine LeO.ite ?_ ?_)
      | (with_reducible refine LeO.bind ?_ (fun _ => ?_))
      | exact ih0 _ _
      | exact LeO.none _
      | refine LeO.ite ?_ ?_
      | refine LeO.bind ?_ (fun _ => ?_)
set_option maxHeartbeats 8000000 in
set_option maxRecDepth 100000 in
theorem spec_Small.calls (k : Nat) (a0 : Int) (r : List Int) (w : World) (h : spec_Small.f k a0 = some r) :
    Calls Tryz.prog 44 #[.int .i64 a0] w fun e w' => ∃ v0_ : Value, e = .returned (v0_) ∧ Kd.R (Kd.int .i64) 3 w' w.heap.size (fun _ => True) v0_ r ∧ Below w.heap.size w w' := by
  have HB := Aside0.mk (Below.refl w.heap.size w)
  have H : (spec_Small.l0 k a0 (([] : List Int))) = some r := h
  clear h
  obtain ⟨y351, hy351⟩ : ∃ y_ : List Int, y_ = (([] : List Int)) := ⟨_, rfl⟩
  replace H : (spec_Small.l0 k a0 y351) = some r := by first | (rw [hy351]; with_reducible exact H) | (have H2_ := (Option.bind_some _ _).symm.trans H; rw [hy351]; with_reducible exact H2_) | (have H2_ := (Option.bind_some _ _).symm.trans H; with_reducible exact H2_) | with_reducible exact H | (rw [hy351]; exact H) | exact H
  have Ny351 := Aside0.mk hy351
  clear hy351
  have H' := Aside0.mk H
  clear H
  go_enter Tryz.func44, Tryz.ntmps44
  go_wp2_with (first | ((with_reducible refine gate_dst (N := 4) rfl ?_); refine Kd.R_lit (Kd.int .i64) _ 3 ?hg (N := 4) ?hd (xs := ([] : List Int)) (inner := []) (ok := fun _ => True) (okp := fun _ => True) ?hr ?hp (fun _ hk => hk) trivial (Below.refl _ _) (Nat.le_refl _) (by simp) ?_; (case hd => rfl); (case hg => rfl); (case hr => first | (go_simp; done) | (go_simp; rfl)); (case hp => exact (Reps.none _ _)); intro v352 w2 ho3 hb hg_ hnew_; clear hg_ hnew_; (first | rw [← Ny351.out] at ho3 | (simp only [Int.reduceToNat] at ho3; rw [← Ny351.out] at ho3)); have n0_ := Aside0.mk (Kd.R_lower ho3 (below_size (by repeat (first | (with_reducible first | exact HB.out | apply below_alloc | apply pw_below_drewN | apply below_drew1) | exact HB.out)))); have n1_ := Aside0.mk (below_step (by repeat (first | (with_reducible first | exact HB.out | apply below_alloc | apply pw_below_drewN | apply below_drew1) | exact HB.out)) hb); clear HB; have HO353 := n0_; have HB := n1_; clear n0_ n1_; clear hb ho3))
  go_loopg [0, 3] k (fun kq v0 v3 w' => ∃ (x0_1 : Int) (x3_1 : List Int), v0 = .int .i64 x0_1 ∧ Aside0 (spec_Small.l0 kq x0_1 x3_1 = some r) ∧ Aside0 (kq ≤ k) ∧ Aside0 (Kd.R (Kd.int .i64) 3 w' w.heap.size (fun _ => True) v3 x3_1) ∧ Aside0 (Below w.heap.size w w'))
  case atStart => exact ⟨(a0), (y351), (by first | rfl | (simp; done) | (simp [*]; done)), H', ⟨Nat.le_refl _⟩, ⟨by (with_reducible repeat (first | apply Kd.R_alloc | apply Kd.R_drewN | apply Kd.R_drew)); exact HO353.out⟩, ⟨by repeat (first | (with_reducible first | exact HB.out | apply below_alloc | apply pw_below_drewN | apply below_drew1) | exact HB.out)⟩⟩
  case round =>
    clear H'
    try clear p2
    obtain ⟨x0_1, x3_1, rfl, HA, HK1, HO_3, HB⟩ := hrel
    cases gk with
    | zero => exact absurd HA.out (by simp [spec_Small.l0])
    | succ k1 =>
      have H := HA.out
      clear HA
      simp only [spec_Small.l0] at H
      by_cases c4 : x0_1 > 0
      · rw [if_pos c4] at H
        have c4b0 : decide (0 < x0_1) = true := decide_eq_true c4
        clear c4
        by_cases c5 : x3_1.length < 17592186044416
        · rw [if_pos c5] at H
          have LMc5 := Aside0.mk c5
          clear c5
          obtain ⟨y354, hy354⟩ : ∃ y_ : List Int, y_ = (x3_1 ++ [Int.tmod x0_1 65536]) := ⟨_, rfl⟩
          replace H : (spec_Small.l0 k1 (wrap64 (Int.tdiv x0_1 65536)) y354) = some r := by first | (rw [hy354]; with_reducible exact H) | (have H2_ := (Option.bind_some _ _).symm.trans H; rw [hy354]; with_reducible exact H2_) | (have H2_ := (Option.bind_some _ _).symm.trans H; with_reducible exact H2_) | with_reducible exact H | (rw [hy354]; exact H) | exact H
          have Ny354 := Aside0.mk hy354
          clear hy354
          have H' := Aside0.mk H
          clear H
          go_wp2_with (first | ((with_reducible refine gate_builtin (b := .append) (xs := #[.tmp 9, .tmp 12]) rfl ?_); at_builtin; refine Kd.R_append (Kd.int .i64) (w0 := w) w.heap.size rfl (.tmp 9) (.tmp 12) 28 3 (.int .i64 0) 8 rfl Tryz.underlying28 info3 rfl (by decide) (by omega) u3 x3_1 (Int.tmod x0_1 65536) [.int .i64 (Int.tmod x0_1 65536)] (fun _ => True) (fun _ => False) rfl rfl ?aP (fun _ hk => hk.elim) ?aF ?aO ?aB ?aS ?aL ?_; (case aP => exact rfl); (case aB => exact (by repeat (first | (with_reducible first | exact HB.out | apply below_alloc | apply pw_below_drewN | apply below_drew1) | exact HB.out))); (case aF => exact (fun _ _ => trivial)); (case aO => exact (by (with_reducible repeat (first | apply Kd.R_alloc | apply Kd.R_drewN | apply Kd.R_drew)); exact HO_3.out)); (case aS => exact (below_size (by repeat (first | (with_reducible first | exact HB.out | apply below_alloc | apply pw_below_drewN | apply below_drew1) | exact HB.out)))); (case aL => have := LMc5.out; omega); intro v355 w6 ho hb hg hat; rw [← Ny354.out] at ho; have n0_ := Aside0.mk (hb); have n1_ := Aside0.mk (ho); clear HB; clear HO_3; have HB := n0_; have HO356 := n1_; clear n0_ n1_; clear ho hb hg hat))
          go_roundg k1
          case measure => have := HK1.out; omega
          case rel => exact ⟨(wrap64 (Int.tdiv x0_1 65536)), (y354), (by first | rfl | (simp; done) | (simp [*]; done)), H', ⟨by have := HK1.out; omega⟩, ⟨by (with_reducible repeat (first | apply Kd.R_alloc | apply Kd.R_drewN | apply Kd.R_drew)); exact HO356.out⟩, ⟨by repeat (first | (with_reducible first | exact HB.out | apply below_alloc | apply pw_below_drewN | apply below_drew1) | exact HB.out)⟩⟩
        · rw [if_neg c5] at H
          exact absurd H (by simp)
      · rw [if_neg c4] at H
        have c4b0 : decide (0 < x0_1) = false := decide_eq_false c4
        clear c4
        obtain rfl := Option.some.inj H
        go_wp2
        go_ret
        exact ⟨_, by first | rfl | (simp [errW_none, errW_some] <;> rfl) | (simp [*, errW_none, errW_some] <;> rfl), by (with_reducible repeat (first | apply Kd.R_alloc | apply Kd.R_drewN | apply Kd.R_drew)); exact HO_3.out, by repeat (first | (with_reducible first | exact HB.out | apply below_alloc | apply pw_below_drewN | apply below_drew1) | exact HB.out)⟩

end Go.Proofs.YtfnknldbjckgoaaGreatDoor.Sp
end

/-! ## SpSTrim -/
section
namespace Go.Proofs.YtfnknldbjckgoaaGreatDoor.Sp
open Go.RowKit Go.Proofs.YtfnknldbjckgoaaGreatDoorW.PrintWords Go.Proofs.YtfnknldbjckgoaaGreatDoorW.PrintLast Go.Proofs.YtfnknldbjckgoaaGreatDoorW.PrintMore
attribute [local go_sem] max2_int min2_int max_two min_two max_three min_three max_four min_four
set_option linter.unusedVariables false
set_option linter.unusedSimpArgs false

/-! ### spec_trim: function 39 -/
def spec_trim.l0 : Nat → List Int → Option (List Int)
  | 0, _ => none
  | k + 1, x0 => if (x0.length : Int) > 0 then (if 0 ≤ (wrap64 ((x0.length : Int) - 1)) then (if (wrap64 ((x0.length : Int) - 1)) < (x0.length : Int) then (if (rd x0 (wrap64 ((x0.length : Int) - 1))) = 0 then (if (wrap64 ((x0.length : Int) - 1)) ≤ (x0.length : Int) then (spec_trim.l0 k (x0.take ((wrap64 ((x0.length : Int) - 1)) : Int).toNat)) else (none)) else (some x0)) else (none)) else (none)) else (some x0)
def spec_trim.f (k : Nat) (l0 : List Int) : Option (List Int) := spec_trim.l0 k l0
theorem spec_trim.mono_l : ∀ k, (∀ y0, LeO (spec_trim.l0 k y0) (spec_trim.l0 (k + 1) y0))
  | 0 => fun _ r h => by simp [spec_trim.l0] at h
  | k + 1 => by
    have ih0 := spec_trim.mono_l k
    · intro y0
      unfold spec_trim.l0
      repeat' first
      | (with_reducible exact ih0 _)
      | (with_reducible exact LeO.refl _)
      | (with_reducible exact LeO.none _)
      | (with_reducible refine LeO.ite ?_ ?_)
      | (with_reducible refine LeO.bind ?_ (fun _ => ?_))
      | exact ih0 _
      | exact LeO.none _
      | refine LeO.ite ?_ ?_
      | refine LeO.bind ?_ (fun _ => ?_)
theorem spec_trim.mono : ∀ a0 k, LeO (spec_trim.f k a0) (spec_trim.f (k + 1) a0) := by
  intro a0 k
  have ih0 := spec_trim.mono_l k
  unfold spec_trim.f
  repeat' first
      | (with_reducible exact ih0 _)
      | (with_reducible exact LeO.refl _)
      | (with_reducible exact LeO.none _)
      | (with_reducible refine LeO.ite ?_ ?_)
      | (with_reducible refine LeO.bind ?_ (fun _ => ?_))
      | exact ih0 _
      | exact LeO.none _
      | refine LeO.ite ?_ ?_
      | refine LeO.bind ?_ (fun _ => ?_)
set_option maxHeartbeats 8000000 in
set_option maxRecDepth 100000 in
theorem spec_trim.calls (k : Nat) (P0_ : Nat → Prop) (A0 : Option Addr) (c0 : Nat) (l0 : List Int) (r : List Int) (w : World) (hs0 : Kd.V (Kd.int .i64) 3 w w.heap.size (fun k_ => P0_ k_) (.slice A0 l0.length c0) l0) (h : spec_trim.f k l0 = some r) :
    Calls Tryz.prog 39 #[.slice A0 l0.length c0] w fun e w' => ∃ v0_ : Value, e = .returned (v0_) ∧ Kd.V (Kd.int .i64) 3 w' w.heap.size (fun k_ => (P0_ k_ ∨ w.heap.size ≤ k_)) v0_ r ∧ Below w.heap.size w w' := by
  have HO0 := Aside0.mk (show Kd.V (Kd.int .i64) 3 w w.heap.size (fun k_ => (P0_ k_ ∨ w.heap.size ≤ k_)) (.slice A0 l0.length c0) l0 from Kd.V_mono hs0 (fun k_ hk => .inl hk))
  have HB := Aside0.mk (Below.refl w.heap.size w)
  have H : (spec_trim.l0 k l0) = some r := h
  clear h
  have H' := Aside0.mk H
  clear H
  go_enter Tryz.func39, Tryz.ntmps39
  go_wp2
  go_loopg [0] k (fun kq v0 w' => ∃ (x0_1 : List Int), Aside0 (spec_trim.l0 kq x0_1 = some r) ∧ Aside0 (kq ≤ k) ∧ Aside0 (Kd.V (Kd.int .i64) 3 w' w.heap.size (fun k_ => (P0_ k_ ∨ w.heap.size ≤ k_)) v0 x0_1) ∧ Aside0 (Below w.heap.size w w'))
  case atStart => exact ⟨(l0), H', ⟨Nat.le_refl _⟩, ⟨by (with_reducible repeat (first | apply Kd.V_alloc | apply Kd.V_drewN | apply Kd.V_drew)); exact HO0.out⟩, ⟨by repeat (first | (with_reducible first | exact HB.out | apply below_alloc | apply pw_below_drewN | apply below_drew1) | exact HB.out)⟩⟩
  case round =>
    clear H'
    obtain ⟨x0_1, HA, HK1, HO_0, HB⟩ := hrel
    cases gk with
    | zero => exact absurd HA.out (by simp [spec_trim.l0])
    | succ k1 =>
      have H := HA.out
      clear HA
      simp only [spec_trim.l0] at H
      by_cases c2 : (x0_1.length : Int) > 0
      · rw [if_pos c2] at H
        have c2b0 : decide (0 < (x0_1.length : Int)) = true := decide_eq_true c2
        have c2b1 : decide (0 < x0_1.length) = true := decide_eq_true (by omega)
        clear c2
        obtain ⟨ji3, hji3⟩ : ∃ j_ : Int, (wrap64 ((x0_1.length : Int) - 1)) = j_ := ⟨_, rfl⟩
        replace H : (if 0 ≤ (ji3) then (if (ji3) < (x0_1.length : Int) then (if (rd x0_1 (ji3)) = 0 then (if (ji3) ≤ (x0_1.length : Int) then (spec_trim.l0 k1 (x0_1.take ((ji3) : Int).toNat)) else (none)) else (some x0_1)) else (none)) else (none)) = some r := by first | (rw [hji3] at H; exact H) | (simp only [hji3] at H ⊢; exact H)
        have hji3w : (IntKind.i64.wrap ((x0_1.length : Int) - 1)) = ji3 := (i64_w _).trans hji3
        by_cases c4 : 0 ≤ (ji3)
        · rw [if_pos c4] at H
          have c4b0 : decide (0 ≤ (ji3)) = true := decide_eq_true c4
          clear c4
          by_cases c5 : (ji3) < (x0_1.length : Int)
          · rw [if_pos c5] at H
            have c5b0 : decide ((ji3) < (x0_1.length : Int)) = true := decide_eq_true c5
            clear c5
            by_cases c6 : (rd x0_1 (ji3)) = 0
            · rw [if_pos c6] at H
              have c6b0 : ((rd x0_1 (ji3)) == 0) = true := beq_iff_eq.mpr c6
              have c6b1 : ((rd x0_1 (ji3)) != 0) = false := bne_eq_false_iff_eq.mpr c6
              clear c6
              have c7b0 := eq_true (of_decide_eq_true (by first | (with_reducible assumption) | assumption) : 0 ≤ (ji3))
              by_cases c8 : (ji3) ≤ (x0_1.length : Int)
              · rw [if_pos c8] at H
                have c8b0 := eq_true c8
                have c8b1 : decide ((ji3) ≤ (x0_1.length : Int)) = true := decide_eq_true c8
                clear c8
                obtain ⟨y326, hy326⟩ : ∃ y_ : List Int, y_ = (x0_1.take ((ji3) : Int).toNat) := ⟨_, rfl⟩
                replace H : (spec_trim.l0 k1 y326) = some r := by first | (rw [hy326]; with_reducible exact H) | (have H2_ := (Option.bind_some _ _).symm.trans H; rw [hy326]; with_reducible exact H2_) | (have H2_ := (Option.bind_some _ _).symm.trans H; with_reducible exact H2_) | with_reducible exact H | (rw [hy326]; exact H) | exact H
                have Ny326 := Aside0.mk hy326
                clear hy326
                have H' := Aside0.mk H
                clear H
                obtain ⟨Ao9, co9, eo9⟩ := Kd.V_slice HO_0.out
                subst eo9
                have p325 : 0 ≤ ((ji3) : Int) := of_decide_eq_true (by first | (with_reducible assumption) | assumption)
                have q325 : (ji3) < (x0_1.length : Int) := of_decide_eq_true (by first | (with_reducible assumption) | assumption)
                obtain ⟨ad325, e325, hx325_0⟩ := Kd.at_int (Kd.V_reads' HO_0.out).2.2 (ji3) p325 q325
                cases e325
                replace p325 := eq_true p325
                replace q325 := eq_true q325
                have q10 : ((ji3) : Int) ≤ ((x0_1.length : Int) : Int) := of_decide_eq_true (by first | (with_reducible assumption) | assumption)
                obtain ⟨i010, hi010, _, hsz10, _⟩ := info_parts info3
                have hroom10 : x0_1.length ≤ co9 := (Kd.V_reads' HO_0.out).2.1
                have hC10 : Kd.F (Kd.int .i64) _ _ (some ad325) x0_1.length x0_1 := (Kd.V_at (base := w.heap.size) HO_0.out).2.2
                have hcut10 := cut_to (P := Tryz.prog) 28 3 .i64 Tryz.underlying28 hi010 (some ad325) x0_1.length co9 (ji3) (of_decide_eq_true (by first | (with_reducible assumption) | assumption)) q10 hroom10
                have hr10 := Kd.F_take (m := ((ji3) : Int).toNat) hC10 (by omega)
                have hy10 : y326.length = ((ji3) : Int).toNat := (by rw [Ny326.out, List.length_take]; omega)
                rw [← Ny326.out] at hr10
                rw [← hy10] at hcut10
                have HO330 := Aside0.mk (show Kd.V (Kd.int .i64) 3 _ w.heap.size _ (.slice (some ad325) y326.length co9) y326 from Kd.V_mk (by omega) hr10)
                have HC330 := Aside0.mk (show y326.length ≤ co9 from by omega)
                clear hr10 hC10 hroom10 hi010 hsz10
                have KY10 := Aside0.mk hy10
                clear hy10
                replace q10 := eq_true q10
                go_wp2
                go_roundg k1
                case measure => have := HK1.out; omega
                case rel => exact ⟨(y326), H', ⟨by have := HK1.out; omega⟩, ⟨by (with_reducible repeat (first | apply Kd.V_alloc | apply Kd.V_drewN | apply Kd.V_drew)); exact HO330.out⟩, ⟨by repeat (first | (with_reducible first | exact HB.out | apply below_alloc | apply pw_below_drewN | apply below_drew1) | exact HB.out)⟩⟩
              · rw [if_neg c8] at H
                exact absurd H (by simp)
            · rw [if_neg c6] at H
              have c6b0 : ((rd x0_1 (ji3)) == 0) = false := beq_eq_false_iff_ne.mpr c6
              have c6b1 : ((rd x0_1 (ji3)) != 0) = true := bne_iff_ne.mpr c6
              obtain rfl := Option.some.inj H
              obtain ⟨Ao11, co11, eo11⟩ := Kd.V_slice HO_0.out
              subst eo11
              have p325 : 0 ≤ ((ji3) : Int) := of_decide_eq_true (by first | (with_reducible assumption) | assumption)
              have q325 : (ji3) < (x0_1.length : Int) := of_decide_eq_true (by first | (with_reducible assumption) | assumption)
              obtain ⟨ad325, e325, hx325_0⟩ := Kd.at_int (Kd.V_reads' HO_0.out).2.2 (ji3) p325 q325
              cases e325
              replace p325 := eq_true p325
              replace q325 := eq_true q325
              go_wp2
              go_ret
              exact ⟨_, by first | rfl | (simp [errW_none, errW_some] <;> rfl) | (simp only [← hji3]; first | rfl | (simp [errW_none, errW_some] <;> rfl)) | (simp [*, errW_none, errW_some] <;> rfl), by (with_reducible repeat (first | apply Kd.V_alloc | apply Kd.V_drewN | apply Kd.V_drew)); exact HO_0.out, by repeat (first | (with_reducible first | exact HB.out | apply below_alloc | apply pw_below_drewN | apply below_drew1) | exact HB.out)⟩
          · rw [if_neg c5] at H
            exact absurd H (by simp)
        · rw [if_neg c4] at H
          exact absurd H (by simp)
      · rw [if_neg c2] at H
        have c2b0 : decide (0 < (x0_1.length : Int)) = false := decide_eq_false c2
        have c2b1 : decide (0 < x0_1.length) = false := decide_eq_false (by omega)
        clear c2
        obtain rfl := Option.some.inj H
        obtain ⟨Ao12, co12, eo12⟩ := Kd.V_slice HO_0.out
        subst eo12
        go_wp2
        go_ret
        exact ⟨_, by first | rfl | (simp [errW_none, errW_some] <;> rfl) | (simp [*, errW_none, errW_some] <;> rfl), by (with_reducible repeat (first | apply Kd.V_alloc | apply Kd.V_drewN | apply Kd.V_drew)); exact HO_0.out, by repeat (first | (with_reducible first | exact HB.out | apply below_alloc | apply pw_below_drewN | apply below_drew1) | exact HB.out)⟩

end Go.Proofs.YtfnknldbjckgoaaGreatDoor.Sp
end

/-! ## SpSOf -/
section
namespace Go.Proofs.YtfnknldbjckgoaaGreatDoor.Sp
open Go.RowKit Go.Proofs.YtfnknldbjckgoaaGreatDoorW.PrintWords Go.Proofs.YtfnknldbjckgoaaGreatDoorW.PrintLast Go.Proofs.YtfnknldbjckgoaaGreatDoorW.PrintMore
attribute [local go_sem] max2_int min2_int max_two min_two max_three min_three max_four min_four
set_option linter.unusedVariables false
set_option linter.unusedSimpArgs false

/-! ### spec_Of: function 25 -/
mutual
def spec_Of.l0 : Nat → List Int → List Int → Int → Int → Option (List Int)
  | 0, _, _, _, _ => none
  | k + 1, x3, x8, x9, x10 => if x10 < x9 then (if 0 ≤ x10 then (if x10 < (x8.length : Int) then (spec_Of.l1 k x3 (rd x8 x10) 0 x8 x9 x10) else (none)) else (none)) else ((spec_trim.f k x3).bind fun t334 => (some t334))
def spec_Of.l1 : Nat → List Int → Int → Int → List Int → Int → Int → Option (List Int)
  | 0, _, _, _, _, _, _ => none
  | k + 1, x3, x5, x6, x8, x9, x10 => if x6 < 4 then (if 0 ≤ (wrap64 (16 * x6)) then (if x3.length < 17592186044416 then (spec_Of.l1 k (x3 ++ [wrap64 (Go.bits .and .u64 (shr .u64 x5 (wrap64 (16 * x6))) 65535)]) x5 (wrap64 (x6 + 1)) x8 x9 x10) else (none)) else (none)) else (spec_Of.l0 k x3 x8 x9 (wrap64 (x10 + 1)))
end
def spec_Of.f (k : Nat) (l0 : List Int) : Option (List Int) := spec_Of.l0 k (([] : List Int)) l0 (l0.length : Int) 0
theorem spec_Of.mono_l : ∀ k, (∀ y0 y1 y2 y3, LeO (spec_Of.l0 k y0 y1 y2 y3) (spec_Of.l0 (k + 1) y0 y1 y2 y3)) ∧ (∀ y0 y1 y2 y3 y4 y5, LeO (spec_Of.l1 k y0 y1 y2 y3 y4 y5) (spec_Of.l1 (k + 1) y0 y1 y2 y3 y4 y5))
  | 0 => ⟨fun _ _ _ _ r h => by simp [spec_Of.l0] at h, fun _ _ _ _ _ _ r h => by simp [spec_Of.l1] at h⟩
  | k + 1 => by
    obtain ⟨ih0, ih1⟩ := spec_Of.mono_l k
    refine ⟨?_, ?_⟩
    · intro y0 y1 y2 y3
      unfold spec_Of.l0
      repeat' first
      | (with_reducible exact ih0 _ _ _ _)
      | (with_reducible exact ih1 _ _ _ _ _ _)
      | (with_reducible exact spec_trim.mono _ _)
      | (with_reducible exact LeO.refl _)
      | (with_reducible exact LeO.none _)
      | (with_reducible refine LeO.ite ?_ ?_)
      | (with_reducible refine LeO.bind ?_ (fun _ => ?_))
      | exact ih0 _ _ _ _
      | exact ih1 _ _ _ _ _ _
      | exact spec_trim.mono _ _
      | exact LeO.none _
      | refine LeO.ite ?_ ?_
      | refine LeO.bind ?_ (fun _ => ?_)
    · intro y0 y1 y2 y3 y4 y5
      unfold spec_Of.l1
      repeat' first
      | (with_reducible exact ih0 _ _ _ _)
      | (with_reducible exact ih1 _ _ _ _ _ _)
      | (with_reducible exact spec_trim.mono _ _)
      | (with_reducible exact LeO.refl _)
      | (with_reducible exact LeO.none _)
      | (with_reducible refine LeO.ite ?_ ?_)
      | (with_reducible refine LeO.bind ?_ (fun _ => ?_))
      | exact ih0 _ _ _ _
      | exact ih1 _ _ _ _ _ _
      | exact spec_trim.mono _ _
      | exact LeO.none _
      | refine LeO.ite ?_ ?_
      | refine LeO.bind ?_ (fun _ => ?_)
theorem spec_Of.mono : ∀ a0 k, LeO (spec_Of.f k a0) (spec_Of.f (k + 1) a0) := by
  intro a0 k
  obtain ⟨ih0, ih1⟩ := spec_Of.mono_l k
  unfold spec_Of.f
  repeat' first
      | (with_reducible exact ih0 _ _ _ _)
      | (with_reducible exact ih1 _ _ _ _ _ _)
      | (with_reducible exact spec_trim.mono _ _)
      | (with_reducible exact LeO.refl _)
      | (with_reducible exact LeO.none _)
      | (with_reducible refine LeO.ite ?_ ?_)
      | (with_reducible refine LeO.bind ?_ (fun _ => ?_))
      | exact ih0 _ _ _ _
      | exact ih1 _ _ _ _ _ _
      | exact spec_trim.mono _ _
      | exact LeO.none _
      | refine LeO.ite ?_ ?_
      | refine LeO.bind ?_ (fun _ => ?_)
set_option maxHeartbeats 8000000 in
set_option maxRecDepth 100000 in
theorem spec_Of.calls (k : Nat) (A0 : Option Addr) (c0 : Nat) (l0 : List Int) (r : List Int) (w : World) (hr0 : Kd.C (Kd.int .u64) w A0 l0.length l0) (hc0 : l0.length ≤ c0) (h : spec_Of.f k l0 = some r) :
    Calls Tryz.prog 25 #[.slice A0 l0.length c0] w fun e w' => ∃ v0_ : Value, e = .returned (v0_) ∧ Kd.V (Kd.int .i64) 3 w' w.heap.size (fun k_ => (w.heap.size ≤ k_)) v0_ r ∧ Below w.heap.size w w' := by
  have HR0 := Aside0.mk hr0
  have HC0 := Aside0.mk hc0
  clear hr0 hc0
  have HB := Aside0.mk (Below.refl w.heap.size w)
  have H : (spec_Of.l0 k (([] : List Int)) l0 (l0.length : Int) 0) = some r := h
  clear h
  obtain ⟨y331, hy331⟩ : ∃ y_ : List Int, y_ = (([] : List Int)) := ⟨_, rfl⟩
  replace H : (spec_Of.l0 k y331 l0 (l0.length : Int) 0) = some r := by first | (rw [hy331]; with_reducible exact H) | (have H2_ := (Option.bind_some _ _).symm.trans H; rw [hy331]; with_reducible exact H2_) | (have H2_ := (Option.bind_some _ _).symm.trans H; with_reducible exact H2_) | with_reducible exact H | (rw [hy331]; exact H) | exact H
  have Ny331 := Aside0.mk hy331
  clear hy331
  have H' := Aside0.mk H
  clear H
  go_enter Tryz.func25, Tryz.ntmps25
  go_wp2_with (first | ((with_reducible refine gate_dst (N := 7) rfl ?_); refine Kd.R_lit (Kd.int .i64) _ 3 ?hg (N := 7) ?hd (xs := ([] : List Int)) (inner := []) (ok := fun _ => True) (okp := fun _ => True) ?hr ?hp (fun _ hk => hk) trivial (Below.refl _ _) (Nat.le_refl _) (by simp) ?_; (case hd => rfl); (case hg => rfl); (case hr => first | (go_simp; done) | (go_simp; rfl)); (case hp => exact (Reps.none _ _)); intro v332 w2 ho3 hb hg_ hnew_; clear hg_ hnew_; (first | rw [← Ny331.out] at ho3 | (simp only [Int.reduceToNat] at ho3; rw [← Ny331.out] at ho3)); have n0_ := Aside0.mk (Kd.R_lower (Kd.R_newM (M := fun k_ => (w.heap.size ≤ k_)) ho3 (below_size (by repeat (first | (with_reducible first | exact HB.out | apply below_alloc | apply pw_below_drewN | apply below_drew1) | exact HB.out))) (fun k_ h_ => h_)) (below_size (by repeat (first | (with_reducible first | exact HB.out | apply below_alloc | apply pw_below_drewN | apply below_drew1) | exact HB.out)))); have n1_ := Aside0.mk (below_step (by repeat (first | (with_reducible first | exact HB.out | apply below_alloc | apply pw_below_drewN | apply below_drew1) | exact HB.out)) hb); clear HB; have HO333 := n0_; have HB := n1_; clear n0_ n1_; clear hb ho3))
  go_loopg [3, 10] k (fun kq v3 v10 w' => ∃ (x3_1 : List Int) (x10_1 : Int), v10 = .int .i64 x10_1 ∧ Aside0 (spec_Of.l0 kq x3_1 l0 (l0.length : Int) x10_1 = some r) ∧ Aside0 (kq ≤ k) ∧ Aside0 (Kd.R (Kd.int .i64) 3 w' w.heap.size (fun k_ => (w.heap.size ≤ k_)) v3 x3_1) ∧ Aside0 (Below w.heap.size w w'))
  case atStart => exact ⟨(y331), (0), (by first | rfl | (simp; done) | (simp [*]; done)), H', ⟨Nat.le_refl _⟩, ⟨by (with_reducible repeat (first | apply Kd.R_alloc | apply Kd.R_drewN | apply Kd.R_drew)); exact Kd.R_mono HO333.out (fun _ hk => hk.1)⟩, ⟨by repeat (first | (with_reducible first | exact HB.out | apply below_alloc | apply pw_below_drewN | apply below_drew1) | exact HB.out)⟩⟩
  case round =>
    clear H'
    try clear c2
    try clear p2
    obtain ⟨x3_1, x10_1, rfl, HA, HK1, HO_3, HB⟩ := hrel
    cases gk with
    | zero => exact absurd HA.out (by simp [spec_Of.l0])
    | succ k1 =>
      have H := HA.out
      clear HA
      simp only [spec_Of.l0] at H
      by_cases c4 : x10_1 < (l0.length : Int)
      · rw [if_pos c4] at H
        have c4b0 : decide (x10_1 < (l0.length : Int)) = true := decide_eq_true c4
        clear c4
        by_cases c5 : 0 ≤ x10_1
        · rw [if_pos c5] at H
          have c5b0 : decide (0 ≤ x10_1) = true := decide_eq_true c5
          clear c5
          by_cases c6 : x10_1 < (l0.length : Int)
          · rw [if_pos c6] at H
            have c6b0 : decide (x10_1 < (l0.length : Int)) = true := decide_eq_true c6
            clear c6
            have H' := Aside0.mk H
            clear H
            have p337 : 0 ≤ (x10_1 : Int) := of_decide_eq_true (by first | (with_reducible assumption) | assumption)
            have q337 : x10_1 < (l0.length : Int) := of_decide_eq_true (by first | (with_reducible assumption) | assumption)
            obtain ⟨ad337, e337, hx337_0⟩ := Kd.at_int HR0.out x10_1 p337 q337
            cases e337
            replace hx337_0 := (HB.out.cell (World.block_lt_of_cell? w _ hx337_0)).trans hx337_0
            replace p337 := eq_true p337
            replace q337 := eq_true q337
            go_wp2
            go_loopg [3, 6] k1 (fun kq v3 v6 w' => ∃ (x3_2 : List Int) (x6_2 : Int), v6 = .int .i64 x6_2 ∧ Aside0 (spec_Of.l1 kq x3_2 (rd l0 x10_1) x6_2 l0 (l0.length : Int) x10_1 = some r) ∧ Aside0 (kq ≤ k1) ∧ Aside0 (Kd.R (Kd.int .i64) 3 w' w.heap.size (fun k_ => (w.heap.size ≤ k_)) v3 x3_2) ∧ Aside0 (Below w.heap.size w w'))
            case atStart => exact ⟨(x3_1), (0), (by first | rfl | (simp; done) | (simp [*]; done)), H', ⟨Nat.le_refl _⟩, ⟨by (with_reducible repeat (first | apply Kd.R_alloc | apply Kd.R_drewN | apply Kd.R_drew)); exact HO_3.out⟩, ⟨by repeat (first | (with_reducible first | exact HB.out | apply below_alloc | apply pw_below_drewN | apply below_drew1) | exact HB.out)⟩⟩
            case round =>
              clear H'
              try clear c2
              try clear p2
              try clear p3
              try clear q3
              try clear hx3
              try clear c4
              try clear c4b0
              try clear c5
              try clear c5b0
              try clear c6
              try clear c6b0
              try clear hx337_0
              try clear p2
              try clear p337
              try clear q337
              obtain ⟨x3_2, x6_2, rfl, HA, HK2, HO_3, HB⟩ := hrel
              cases gk with
              | zero => exact absurd HA.out (by simp [spec_Of.l1])
              | succ k2 =>
                have H := HA.out
                clear HA
                simp only [spec_Of.l1] at H
                by_cases c7 : x6_2 < 4
                · rw [if_pos c7] at H
                  have c7b0 : decide (x6_2 < 4) = true := decide_eq_true c7
                  clear c7
                  obtain ⟨ji8, hji8⟩ : ∃ j_ : Int, (wrap64 (16 * x6_2)) = j_ := ⟨_, rfl⟩
                  replace H : (if 0 ≤ (ji8) then (if x3_2.length < 17592186044416 then (spec_Of.l1 k2 (x3_2 ++ [wrap64 (Go.bits .and .u64 (shr .u64 (rd l0 x10_1) (ji8)) 65535)]) (rd l0 x10_1) (wrap64 (x6_2 + 1)) l0 (l0.length : Int) x10_1) else (none)) else (none)) = some r := by first | (rw [hji8] at H; exact H) | (simp only [hji8] at H ⊢; exact H)
                  have hji8w : (IntKind.i64.wrap (16 * x6_2)) = ji8 := (i64_w _).trans hji8
                  by_cases c9 : 0 ≤ (ji8)
                  · rw [if_pos c9] at H
                    have c9b0 := eq_true c9
                    have c9b1 : decide (0 ≤ (ji8)) = true := decide_eq_true c9
                    clear c9
                    obtain ⟨ji10, hji10⟩ : ∃ j_ : Int, (shr .u64 (rd l0 x10_1) (ji8)) = j_ := ⟨_, rfl⟩
                    replace H : (if x3_2.length < 17592186044416 then (spec_Of.l1 k2 (x3_2 ++ [wrap64 (Go.bits .and .u64 (ji10) 65535)]) (rd l0 x10_1) (wrap64 (x6_2 + 1)) l0 (l0.length : Int) x10_1) else (none)) = some r := by first | (rw [hji10] at H; exact H) | (simp only [hji10] at H ⊢; exact H)
                    have hji10_ : ((rd l0 x10_1) / 2 ^ min (ji8).toNat 64) = ji10 := hji10
                    have hji10z : (ji8) ≤ 64 → ((rd l0 x10_1) / 2 ^ (ji8).toNat) = ji10 := shr_small hji10
                    by_cases c11 : x3_2.length < 17592186044416
                    · rw [if_pos c11] at H
                      have LMc11 := Aside0.mk c11
                      clear c11
                      obtain ⟨y338, hy338⟩ : ∃ y_ : List Int, y_ = (x3_2 ++ [wrap64 (Go.bits .and .u64 (ji10) 65535)]) := ⟨_, rfl⟩
                      replace H : (spec_Of.l1 k2 y338 (rd l0 x10_1) (wrap64 (x6_2 + 1)) l0 (l0.length : Int) x10_1) = some r := by first | (rw [hy338]; with_reducible exact H) | (have H2_ := (Option.bind_some _ _).symm.trans H; rw [hy338]; with_reducible exact H2_) | (have H2_ := (Option.bind_some _ _).symm.trans H; with_reducible exact H2_) | with_reducible exact H | (rw [hy338]; exact H) | exact H
                      have Ny338 := Aside0.mk hy338
                      clear hy338
                      have H' := Aside0.mk H
                      clear H
                      go_wp2_with (first | ((with_reducible refine gate_builtin (b := .append) (xs := #[.tmp 18, .tmp 25]) rfl ?_); at_builtin; refine Kd.R_append (Kd.int .i64) (w0 := w) w.heap.size rfl (.tmp 18) (.tmp 25) 28 3 (.int .i64 0) 8 rfl Tryz.underlying28 info3 rfl (by decide) (by omega) u3 x3_2 (wrap64 (Go.bits .and .u64 (ji10) 65535)) [.int .i64 (wrap64 (Go.bits .and .u64 (ji10) 65535))] (fun k_ => (w.heap.size ≤ k_)) (fun _ => False) rfl rfl ?aP (fun _ hk => hk.elim) ?aF ?aO ?aB ?aS ?aL ?_; (case aP => exact rfl); (case aB => exact (by repeat (first | (with_reducible first | exact HB.out | apply below_alloc | apply pw_below_drewN | apply below_drew1) | exact HB.out))); (case aF => exact (fun k_ hk => (Nat.le_trans (below_size (by repeat (first | (with_reducible first | exact HB.out | apply below_alloc | apply pw_below_drewN | apply below_drew1) | exact HB.out))) hk))); (case aO => exact (by (with_reducible repeat (first | apply Kd.R_alloc | apply Kd.R_drewN | apply Kd.R_drew)); exact HO_3.out)); (case aS => exact (below_size (by repeat (first | (with_reducible first | exact HB.out | apply below_alloc | apply pw_below_drewN | apply below_drew1) | exact HB.out)))); (case aL => have := LMc11.out; omega); intro v339 w12 ho hb hg hat; rw [← Ny338.out] at ho; have n0_ := Aside0.mk (hb); have n1_ := Aside0.mk (ho); clear HB; clear HO_3; have HB := n0_; have HO340 := n1_; clear n0_ n1_; clear ho hb hg hat))
                      go_roundg k2
                      case measure => have := HK1.out; have := HK2.out; omega
                      case rel => exact ⟨(y338), (wrap64 (x6_2 + 1)), (by first | rfl | (simp; done) | (simp [*]; done)), H', ⟨by have := HK1.out; have := HK2.out; omega⟩, ⟨by (with_reducible repeat (first | apply Kd.R_alloc | apply Kd.R_drewN | apply Kd.R_drew)); exact HO340.out⟩, ⟨by repeat (first | (with_reducible first | exact HB.out | apply below_alloc | apply pw_below_drewN | apply below_drew1) | exact HB.out)⟩⟩
                    · rw [if_neg c11] at H
                      exact absurd H (by simp)
                  · rw [if_neg c9] at H
                    exact absurd H (by simp)
                · rw [if_neg c7] at H
                  have c7b0 : decide (x6_2 < 4) = false := decide_eq_false c7
                  clear c7
                  have H' := Aside0.mk H
                  clear H
                  go_wp2
                  go_roundg k2
                  case measure => have := HK1.out; have := HK2.out; omega
                  case rel => exact ⟨(x3_2), (wrap64 (x10_1 + 1)), (by first | rfl | (simp; done) | (simp [*]; done)), H', ⟨by have := HK1.out; have := HK2.out; omega⟩, ⟨by (with_reducible repeat (first | apply Kd.R_alloc | apply Kd.R_drewN | apply Kd.R_drew)); exact HO_3.out⟩, ⟨by repeat (first | (with_reducible first | exact HB.out | apply below_alloc | apply pw_below_drewN | apply below_drew1) | exact HB.out)⟩⟩
          · rw [if_neg c6] at H
            exact absurd H (by simp)
        · rw [if_neg c5] at H
          exact absurd H (by simp)
      · rw [if_neg c4] at H
        have c4b0 : decide (x10_1 < (l0.length : Int)) = false := decide_eq_false c4
        clear c4
        replace H := Option.bind_eq_some_iff.mp H
        obtain ⟨t334, A130, H⟩ := H
        replace H : (some t334) = some r := H
        have A13 := Aside0.mk A130
        clear A130
        obtain rfl := Option.some.inj H
        obtain ⟨Ao14, co14, eo14⟩ := Kd.R_slice HO_3.out
        subst eo14
        go_wp2_with (first | ((with_reducible refine gate_callee (f := 39) rfl ?_); refine goesL_ (some 29) rfl rfl Tryz.func39 (by kernel_rfl) rfl #[.slice Ao14 x3_1.length co14] rfl (by (try simp only [List.map_toArray, List.map_cons, List.map_nil]); first | done | rfl | (simp only [List.length_drop, List.length_take]; rfl)) ?_; (with_reducible refine (spec_trim.calls k1 (fun k_ => some k_ = (.slice Ao14 x3_1.length co14 : Value).ownBlock) _ _ x3_1 t334 _ ?side1 A13.out).mono ?_); (case side1 => exact Kd.R_V (Kd.R_tight rfl (HO_3.out))); rintro e w15 ⟨v335, rfl, ho0, hb⟩; refine ⟨_, rfl, ?_⟩; have n0_ := Aside0.mk (Kd.R_below (by (with_reducible repeat (first | apply Kd.R_alloc | apply Kd.R_drewN | apply Kd.R_drew)); exact HO_3.out) hb); have n1_ := Aside0.mk (Kd.V_lower (Kd.V_mono (ok' := fun k_ => (w.heap.size ≤ k_)) ho0 (fun k_ hk_ => Or.elim hk_ (fun hs_ => ((HO_3.out).1 k_ hs_.symm)) (fun hn_ => (Nat.le_trans (below_size (by repeat (first | (with_reducible first | exact HB.out | apply below_alloc | apply pw_below_drewN | apply below_drew1) | exact HB.out))) hn_)))) (below_size (by repeat (first | (with_reducible first | exact HB.out | apply below_alloc | apply pw_below_drewN | apply below_drew1) | exact HB.out)))); have n2_ := Aside0.mk (below_step (by repeat (first | (with_reducible first | exact HB.out | apply below_alloc | apply pw_below_drewN | apply below_drew1) | exact HB.out)) hb); clear HO_3; clear HB; have HO_3 := n0_; have HO336 := n1_; have HB := n2_; clear n0_ n1_ n2_; (try clear hb); (try clear hb2); (try clear hk); (try clear hi); (try clear ho0)))
        go_ret
        exact ⟨_, by first | rfl | (simp [errW_none, errW_some] <;> rfl) | (simp [*, errW_none, errW_some] <;> rfl), by (with_reducible repeat (first | apply Kd.V_alloc | apply Kd.V_drewN | apply Kd.V_drew)); exact HO336.out, by repeat (first | (with_reducible first | exact HB.out | apply below_alloc | apply pw_below_drewN | apply below_drew1) | exact HB.out)⟩

end Go.Proofs.YtfnknldbjckgoaaGreatDoor.Sp
end

/-! ## SpSLen -/
section
namespace Go.Proofs.YtfnknldbjckgoaaGreatDoor.Sp
open Go.RowKit Go.Proofs.YtfnknldbjckgoaaGreatDoorW.PrintWords Go.Proofs.YtfnknldbjckgoaaGreatDoorW.PrintLast Go.Proofs.YtfnknldbjckgoaaGreatDoorW.PrintMore
attribute [local go_sem] max2_int min2_int max_two min_two max_three min_three max_four min_four
set_option linter.unusedVariables false
set_option linter.unusedSimpArgs false

/-! ### spec_Len: function 16 -/
def spec_Len.l0 : Nat → Int → Int → Option (Int)
  | 0, _, _ => none
  | k + 1, x3, x4 => if x4 > 0 then (spec_Len.l0 k (wrap64 (x3 + 1)) (wrap64 (Int.tdiv x4 2))) else (some x3)
def spec_Len.f (k : Nat) (l0 : List Int) : Option (Int) := if (l0.length : Int) = 0 then (some 0) else (if 0 ≤ (wrap64 ((l0.length : Int) - 1)) then (if (wrap64 ((l0.length : Int) - 1)) < (l0.length : Int) then (spec_Len.l0 k (wrap64 (16 * (wrap64 ((l0.length : Int) - 1)))) (rd l0 (wrap64 ((l0.length : Int) - 1)))) else (none)) else (none))
theorem spec_Len.mono_l : ∀ k, (∀ y0 y1, LeO (spec_Len.l0 k y0 y1) (spec_Len.l0 (k + 1) y0 y1))
  | 0 => fun _ _ r h => by simp [spec_Len.l0] at h
  | k + 1 => by
    have ih0 := spec_Len.mono_l k
    · intro y0 y1
      unfold spec_Len.l0
      repeat' first
      | (with_reducible exact ih0 _ _)
      | (with_reducible exact LeO.refl _)
      | (with_reducible exact LeO.none _)
      | (with_reducible refine LeO.ite ?_ ?_)
      | (with_reducible refine LeO.bind ?_ (fun _ => ?_))
      | exact ih0 _ _
      | exact LeO.none _
      | refine LeO.ite ?_ ?_
      | refine LeO.bind ?_ (fun _ => ?_)
theorem spec_Len.mono : ∀ a0 k, LeO (spec_Len.f k a0) (spec_Len.f (k + 1) a0) := by
  intro a0 k
  have ih0 := spec_Len.mono_l k
  unfold spec_Len.f
  repeat' first
      | (with_reducible exact ih0 _ _)
      | (with_reducible exact LeO.refl _)
      | (with_reducible exact LeO.none _)
      | (with_reducible refine LeO.ite ?_ ?_)
      | (with_reducible refine LeO.bind ?_ (fun _ => ?_))
      | exact ih0 _ _
      | exact LeO.none _
      | refine LeO.ite ?_ ?_
      | refine LeO.bind ?_ (fun _ => ?_)
set_option maxHeartbeats 8000000 in
set_option maxRecDepth 100000 in
theorem spec_Len.calls (k : Nat) (A0 : Option Addr) (c0 : Nat) (l0 : List Int) (r : Int) (w : World) (hr0 : Kd.C (Kd.int .i64) w A0 l0.length l0) (hc0 : l0.length ≤ c0) (h : spec_Len.f k l0 = some r) :
    Calls Tryz.prog 16 #[.slice A0 l0.length c0] w fun e w' => e = .returned (.int .i64 r) ∧ Drawn0 w w' := by
  have HR0 := Aside0.mk hr0
  have HC0 := Aside0.mk hc0
  clear hr0 hc0
  have H : (if (l0.length : Int) = 0 then (some 0) else (if 0 ≤ (wrap64 ((l0.length : Int) - 1)) then (if (wrap64 ((l0.length : Int) - 1)) < (l0.length : Int) then (spec_Len.l0 k (wrap64 (16 * (wrap64 ((l0.length : Int) - 1)))) (rd l0 (wrap64 ((l0.length : Int) - 1)))) else (none)) else (none))) = some r := h
  clear h
  by_cases c2 : (l0.length : Int) = 0
  · rw [if_pos c2] at H
    have c2b0 : ((l0.length : Int) == 0) = true := beq_iff_eq.mpr c2
    have c2b1 : ((l0.length : Int) != 0) = false := bne_eq_false_iff_eq.mpr c2
    clear c2
    obtain rfl := Option.some.inj H
    go_enter Tryz.func16, Tryz.ntmps16
    go_wp2
    go_ret
    exact ⟨by first | rfl | (simp; done) | (simp [*]; done), by repeat (first | exact Drawn0.refl _ | apply Drawn0.step)⟩
  · rw [if_neg c2] at H
    have c2b0 : ((l0.length : Int) == 0) = false := beq_eq_false_iff_ne.mpr c2
    have c2b1 : ((l0.length : Int) != 0) = true := bne_iff_ne.mpr c2
    have c2b2 : ¬ (l0 = []) := fun h_ => c2 (by rw [h_]; rfl)
    obtain ⟨ji3, hji3⟩ : ∃ j_ : Int, (wrap64 ((l0.length : Int) - 1)) = j_ := ⟨_, rfl⟩
    replace H : (if 0 ≤ (ji3) then (if (ji3) < (l0.length : Int) then (spec_Len.l0 k (wrap64 (16 * (ji3))) (rd l0 (ji3))) else (none)) else (none)) = some r := by first | (rw [hji3] at H; exact H) | (simp only [hji3] at H ⊢; exact H)
    have hji3w : (IntKind.i64.wrap ((l0.length : Int) - 1)) = ji3 := (i64_w _).trans hji3
    by_cases c4 : 0 ≤ (ji3)
    · rw [if_pos c4] at H
      have c4b0 : decide (0 ≤ (ji3)) = true := decide_eq_true c4
      clear c4
      by_cases c5 : (ji3) < (l0.length : Int)
      · rw [if_pos c5] at H
        have c5b0 : decide ((ji3) < (l0.length : Int)) = true := decide_eq_true c5
        clear c5
        have H' := Aside0.mk H
        clear H
        have p324 : 0 ≤ ((ji3) : Int) := of_decide_eq_true (by first | (with_reducible assumption) | assumption)
        have q324 : (ji3) < (l0.length : Int) := of_decide_eq_true (by first | (with_reducible assumption) | assumption)
        obtain ⟨ad324, e324, hx324_0⟩ := Kd.at_int HR0.out (ji3) p324 q324
        cases e324
        replace p324 := eq_true p324
        replace q324 := eq_true q324
        go_enter Tryz.func16, Tryz.ntmps16
        go_wp2
        go_loopg [3, 4] k (fun kq v3 v4 w' => ∃ (x3_1 : Int) (x4_1 : Int), v3 = .int .i64 x3_1 ∧ v4 = .int .i64 x4_1 ∧ Aside0 (spec_Len.l0 kq x3_1 x4_1 = some r) ∧ Aside0 (kq ≤ k) ∧ Drawn0 w w')
        case atStart => exact ⟨(wrap64 (16 * (ji3))), (rd l0 (ji3)), (by first | rfl | (simp; done) | (simp only [← hji3] <;> (first | rfl | simp)) | (simp [*]; done)), (by first | rfl | (simp; done) | (simp only [← hji3] <;> (first | rfl | simp)) | (simp [*]; done)), H', ⟨Nat.le_refl _⟩, by repeat (first | exact Drawn0.refl _ | apply Drawn0.step)⟩
        case round =>
          clear H'
          try clear c1
          try clear c2
          try clear c2b0
          try clear c2b1
          try clear c2b2
          try clear p2
          try clear p3
          try clear q3
          try clear hx3
          try clear c4
          try clear c4b0
          try clear c5
          try clear c5b0
          try clear hx324_0
          try clear p324
          try clear q324
          obtain ⟨x3_1, x4_1, rfl, rfl, HA, HK1, ⟨m1, rfl⟩⟩ := hrel
          cases gk with
          | zero => exact absurd HA.out (by simp [spec_Len.l0])
          | succ k1 =>
            have H := HA.out
            clear HA
            simp only [spec_Len.l0] at H
            by_cases c6 : x4_1 > 0
            · rw [if_pos c6] at H
              have c6b0 : decide (0 < x4_1) = true := decide_eq_true c6
              clear c6
              have H' := Aside0.mk H
              clear H
              go_wp2
              go_roundg k1
              case measure => have := HK1.out; omega
              case rel => exact ⟨(wrap64 (x3_1 + 1)), (wrap64 (Int.tdiv x4_1 2)), (by first | rfl | (simp; done) | (simp [*]; done)), (by first | rfl | (simp; done) | (simp [*]; done)), H', ⟨by have := HK1.out; omega⟩, by repeat (first | exact Drawn0.refl _ | apply Drawn0.step)⟩
            · rw [if_neg c6] at H
              have c6b0 : decide (0 < x4_1) = false := decide_eq_false c6
              clear c6
              obtain rfl := Option.some.inj H
              go_wp2
              go_ret
              exact ⟨by first | rfl | (simp; done) | (simp only [← hji3] <;> (first | rfl | simp)) | (simp [*]; done), by repeat (first | exact Drawn0.refl _ | apply Drawn0.step)⟩
      · rw [if_neg c5] at H
        exact absurd H (by simp)
    · rw [if_neg c4] at H
      exact absurd H (by simp)

end Go.Proofs.YtfnknldbjckgoaaGreatDoor.Sp
end

/-! ## SpSHas -/
section
namespace Go.Proofs.YtfnknldbjckgoaaGreatDoor.Sp
open Go.RowKit Go.Proofs.YtfnknldbjckgoaaGreatDoorW.PrintWords Go.Proofs.YtfnknldbjckgoaaGreatDoorW.PrintLast Go.Proofs.YtfnknldbjckgoaaGreatDoorW.PrintMore
attribute [local go_sem] max2_int min2_int max_two min_two max_three min_three max_four min_four
set_option linter.unusedVariables false
set_option linter.unusedSimpArgs false

/-! ### spec_Has: function 26 -/
def spec_Has.f (l0 : List Int) (a1 : Int) : Option (Bool) := if (wrap64 (Int.tdiv a1 16)) < (l0.length : Int) then (if 0 ≤ (wrap64 (Int.tdiv a1 16)) then (if 0 ≤ (Int.tmod a1 16) then (some ((Go.bits .and .i64 (shr .i64 (rd l0 (wrap64 (Int.tdiv a1 16))) (Int.tmod a1 16)) 1) == 1)) else (none)) else (none)) else (some false)
set_option maxHeartbeats 8000000 in
set_option maxRecDepth 100000 in
theorem spec_Has.calls (A0 : Option Addr) (c0 : Nat) (l0 : List Int) (a1 : Int) (r : Bool) (w : World) (hr0 : Kd.C (Kd.int .i64) w A0 l0.length l0) (hc0 : l0.length ≤ c0) (h : spec_Has.f l0 a1 = some r) :
    Calls Tryz.prog 26 #[.slice A0 l0.length c0, .int .i64 a1] w fun e w' => e = .returned (.bool r) ∧ Drawn0 w w' := by
  have HR0 := Aside0.mk hr0
  have HC0 := Aside0.mk hc0
  clear hr0 hc0
  have H : (if (wrap64 (Int.tdiv a1 16)) < (l0.length : Int) then (if 0 ≤ (wrap64 (Int.tdiv a1 16)) then (if 0 ≤ (Int.tmod a1 16) then (some ((Go.bits .and .i64 (shr .i64 (rd l0 (wrap64 (Int.tdiv a1 16))) (Int.tmod a1 16)) 1) == 1)) else (none)) else (none)) else (some false)) = some r := h
  clear h
  by_cases c3 : (wrap64 (Int.tdiv a1 16)) < (l0.length : Int)
  · rw [if_pos c3] at H
    have c3b0 : decide ((wrap64 (Int.tdiv a1 16)) < (l0.length : Int)) = true := decide_eq_true c3
    clear c3
    obtain ⟨ji4, hji4⟩ : ∃ j_ : Int, (wrap64 (Int.tdiv a1 16)) = j_ := ⟨_, rfl⟩
    replace H : (if 0 ≤ (ji4) then (if 0 ≤ (Int.tmod a1 16) then (some ((Go.bits .and .i64 (shr .i64 (rd l0 (ji4)) (Int.tmod a1 16)) 1) == 1)) else (none)) else (none)) = some r := by first | (rw [hji4] at H; exact H) | (simp only [hji4] at H ⊢; exact H)
    (try rw [hji4] at c3b0)
    have hji4w : (IntKind.i64.wrap (Int.tdiv a1 16)) = ji4 := (i64_w _).trans hji4
    by_cases c5 : 0 ≤ (ji4)
    · rw [if_pos c5] at H
      have c5b0 : decide (0 ≤ (ji4)) = true := decide_eq_true c5
      clear c5
      obtain ⟨ji6, hji6⟩ : ∃ j_ : Int, (Int.tmod a1 16) = j_ := ⟨_, rfl⟩
      replace H : (if 0 ≤ (ji6) then (some ((Go.bits .and .i64 (shr .i64 (rd l0 (ji4)) (ji6)) 1) == 1)) else (none)) = some r := by first | (rw [hji6] at H; exact H) | (simp only [hji6] at H ⊢; exact H)
      by_cases c7 : 0 ≤ (ji6)
      · rw [if_pos c7] at H
        have c7b0 := eq_true c7
        have c7b1 : decide (0 ≤ (ji6)) = true := decide_eq_true c7
        clear c7
        obtain ⟨ji8, hji8⟩ : ∃ j_ : Int, (shr .i64 (rd l0 (ji4)) (ji6)) = j_ := ⟨_, rfl⟩
        replace H : (some ((Go.bits .and .i64 (ji8) 1) == 1)) = some r := by first | (rw [hji8] at H; exact H) | (simp only [hji8] at H ⊢; exact H)
        have hji8_ : ((rd l0 (ji4)) / 2 ^ min (ji6).toNat 64) = ji8 := hji8
        have hji8z : (ji6) ≤ 64 → ((rd l0 (ji4)) / 2 ^ (ji6).toNat) = ji8 := shr_small hji8
        obtain rfl := Option.some.inj H
        have p131 : 0 ≤ ((ji4) : Int) := of_decide_eq_true (by first | (with_reducible assumption) | assumption)
        have q131 : (ji4) < (l0.length : Int) := of_decide_eq_true (by first | (with_reducible assumption) | assumption)
        obtain ⟨ad131, e131, hx131_0⟩ := Kd.at_int HR0.out (ji4) p131 q131
        cases e131
        replace p131 := eq_true p131
        replace q131 := eq_true q131
        go_enter Tryz.func26, Tryz.ntmps26
        go_wp2
        go_ret
        exact ⟨by first | rfl | (simp; done) | (simp only [← hji4, ← hji6, ← hji8] <;> (first | rfl | simp)) | (simp [*]; done), by repeat (first | exact Drawn0.refl _ | apply Drawn0.step)⟩
      · rw [if_neg c7] at H
        exact absurd H (by simp)
    · rw [if_neg c5] at H
      exact absurd H (by simp)
  · rw [if_neg c3] at H
    have c3b0 : decide ((wrap64 (Int.tdiv a1 16)) < (l0.length : Int)) = false := decide_eq_false c3
    clear c3
    obtain rfl := Option.some.inj H
    go_enter Tryz.func26, Tryz.ntmps26
    go_wp2
    go_ret
    exact ⟨by first | rfl | (simp; done) | (simp [*]; done), by repeat (first | exact Drawn0.refl _ | apply Drawn0.step)⟩

end Go.Proofs.YtfnknldbjckgoaaGreatDoor.Sp
end

/-! ## SpSAdd -/
section
namespace Go.Proofs.YtfnknldbjckgoaaGreatDoor.Sp
open Go.RowKit Go.Proofs.YtfnknldbjckgoaaGreatDoorW.PrintWords Go.Proofs.YtfnknldbjckgoaaGreatDoorW.PrintLast Go.Proofs.YtfnknldbjckgoaaGreatDoorW.PrintMore
attribute [local go_sem] max2_int min2_int max_two min_two max_three min_three max_four min_four
set_option linter.unusedVariables false
set_option linter.unusedSimpArgs false

/-! ### spec_Add: function 47 -/
mutual
def spec_Add.l0 : Nat → List Int → List Int → List Int → Int → Int → Option (List Int)
  | 0, _, _, _, _, _ => none
  | k + 1, x0, x1, x5, x6, x7 => if x7 < (x0.length : Int) then (spec_Add.j1 k x0 x1 x5 x6 x7 true) else (spec_Add.j1 k x0 x1 x5 x6 x7 (decide (x7 < (x1.length : Int))))
def spec_Add.j1 : Nat → List Int → List Int → List Int → Int → Int → Bool → Option (List Int)
  | 0, _, _, _, _, _, _ => none
  | k + 1, x0, x1, x5, x6, x7, x18 => if x18 = true then (if x7 < (x0.length : Int) then (if 0 ≤ x7 then (if x7 < (x1.length : Int) then (if x5.length < 17592186044416 then (spec_Add.l0 k x0 x1 (x5 ++ [Int.tmod (wrap64 ((wrap64 (x6 + (rd x0 x7))) + (rd x1 x7))) 65536]) (wrap64 (Int.tdiv (wrap64 ((wrap64 (x6 + (rd x0 x7))) + (rd x1 x7))) 65536)) (wrap64 (x7 + 1))) else (none)) else (if x5.length < 17592186044416 then (spec_Add.l0 k x0 x1 (x5 ++ [Int.tmod (wrap64 (x6 + (rd x0 x7))) 65536]) (wrap64 (Int.tdiv (wrap64 (x6 + (rd x0 x7))) 65536)) (wrap64 (x7 + 1))) else (none))) else (none)) else (if x7 < (x1.length : Int) then (if 0 ≤ x7 then (if x5.length < 17592186044416 then (spec_Add.l0 k x0 x1 (x5 ++ [Int.tmod (wrap64 (x6 + (rd x1 x7))) 65536]) (wrap64 (Int.tdiv (wrap64 (x6 + (rd x1 x7))) 65536)) (wrap64 (x7 + 1))) else (none)) else (none)) else (if x5.length < 17592186044416 then (spec_Add.l0 k x0 x1 (x5 ++ [Int.tmod x6 65536]) (wrap64 (Int.tdiv x6 65536)) (wrap64 (x7 + 1))) else (none)))) else (if x5.length < 17592186044416 then ((spec_trim.f k (x5 ++ [x6])).bind fun t413 => (some t413)) else (none))
end
def spec_Add.f (k : Nat) (l0 : List Int) (l1 : List Int) : Option (List Int) := spec_Add.l0 k l0 l1 (([] : List Int)) 0 0
theorem spec_Add.mono_l : ∀ k, (∀ y0 y1 y2 y3 y4, LeO (spec_Add.l0 k y0 y1 y2 y3 y4) (spec_Add.l0 (k + 1) y0 y1 y2 y3 y4)) ∧ (∀ y0 y1 y2 y3 y4 y5, LeO (spec_Add.j1 k y0 y1 y2 y3 y4 y5) (spec_Add.j1 (k + 1) y0 y1 y2 y3 y4 y5))
  | 0 => ⟨fun _ _ _ _ _ r h => by simp [spec_Add.l0] at h, fun _ _ _ _ _ _ r h => by simp [spec_Add.j1] at h⟩
  | k + 1 => by
    obtain ⟨ih0, ih1⟩ := spec_Add.mono_l k
    refine ⟨?_, ?_⟩
    · intro y0 y1 y2 y3 y4
      unfold spec_Add.l0
      repeat' first
      | (with_reducible exact ih0 _ _ _ _ _)
      | (with_reducible exact ih1 _ _ _ _ _ _)
      | (with_reducible exact spec_trim.mono _ _)
      | (with_reducible exact LeO.refl _)
      | (with_reducible exact LeO.none _)
      | (with_reducible refine LeO.ite ?_ ?_)
      | (with_reducible refine LeO.bind ?_ (fun _ => ?_))
      | exact ih0 _ _ _ _ _
      | exact ih1 _ _ _ _ _ _
      | exact spec_trim.mono _ _
      | exact LeO.none _
      | refine LeO.ite ?_ ?_
      | refine LeO.bind ?_ (fun _ => ?_)
    · intro y0 y1 y2 y3 y4 y5
      unfold spec_Add.j1
      repeat' first
      | (with_reducible exact ih0 _ _ _ _ _)
      | (with_reducible exact ih1 _ _ _ _ _ _)
      | (with_reducible exact spec_trim.mono _ _)
      | (with_reducible exact LeO.refl _)
      | (with_reducible exact LeO.none _)
      | (with_reducible refine LeO.ite ?_ ?_)
      | (with_reducible refine LeO.bind ?_ (fun _ => ?_))
      | exact ih0 _ _ _ _ _
      | exact ih1 _ _ _ _ _ _
      | exact spec_trim.mono _ _
      | exact LeO.none _
      | refine LeO.ite ?_ ?_
      | refine LeO.bind ?_ (fun _ => ?_)
theorem spec_Add.mono : ∀ a0 a1 k, LeO (spec_Add.f k a0 a1) (spec_Add.f (k + 1) a0 a1) := by
  intro a0 a1 k
  obtain ⟨ih0, ih1⟩ := spec_Add.mono_l k
  unfold spec_Add.f
  repeat' first
      | (with_reducible exact ih0 _ _ _ _ _)
      | (with_reducible exact ih1 _ _ _ _ _ _)
      | (with_reducible exact spec_trim.mono _ _)
      | (with_reducible exact LeO.refl _)
      | (with_reducible exact LeO.none _)
      | (with_reducible refine LeO.ite ?_ ?_)
      | (with_reducible refine LeO.bind ?_ (fun _ => ?_))
      | exact ih0 _ _ _ _ _
      | exact ih1 _ _ _ _ _ _
      | exact spec_trim.mono _ _
      | exact LeO.none _
      | refine LeO.ite ?_ ?_
      | refine LeO.bind ?_ (fun _ => ?_)
set_option maxHeartbeats 8000000 in
set_option maxRecDepth 100000 in
theorem spec_Add.calls (k : Nat) (A0 : Option Addr) (c0 : Nat) (l0 : List Int) (A1 : Option Addr) (c1 : Nat) (l1 : List Int) (r : List Int) (w : World) (hr0 : Kd.C (Kd.int .i64) w A0 l0.length l0) (hc0 : l0.length ≤ c0) (hr1 : Kd.C (Kd.int .i64) w A1 l1.length l1) (hc1 : l1.length ≤ c1) (h : spec_Add.f k l0 l1 = some r) :
    Calls Tryz.prog 47 #[.slice A0 l0.length c0, .slice A1 l1.length c1] w fun e w' => ∃ v0_ : Value, e = .returned (v0_) ∧ Kd.V (Kd.int .i64) 3 w' w.heap.size (fun k_ => (w.heap.size ≤ k_)) v0_ r ∧ Below w.heap.size w w' := by
  have HR0 := Aside0.mk hr0
  have HC0 := Aside0.mk hc0
  clear hr0 hc0
  have HR1 := Aside0.mk hr1
  have HC1 := Aside0.mk hc1
  clear hr1 hc1
  have HB := Aside0.mk (Below.refl w.heap.size w)
  have H : (spec_Add.l0 k l0 l1 (([] : List Int)) 0 0) = some r := h
  clear h
  obtain ⟨y407, hy407⟩ : ∃ y_ : List Int, y_ = (([] : List Int)) := ⟨_, rfl⟩
  replace H : (spec_Add.l0 k l0 l1 y407 0 0) = some r := by first | (rw [hy407]; with_reducible exact H) | (have H2_ := (Option.bind_some _ _).symm.trans H; rw [hy407]; with_reducible exact H2_) | (have H2_ := (Option.bind_some _ _).symm.trans H; with_reducible exact H2_) | with_reducible exact H | (rw [hy407]; exact H) | exact H
  have Ny407 := Aside0.mk hy407
  clear hy407
  have H' := Aside0.mk H
  clear H
  go_enter Tryz.func47, Tryz.ntmps47
  go_wp2_with (first | ((with_reducible refine gate_dst (N := 8) rfl ?_); (try (refine gate_guard (by rfl) ?_; dsimp only)); refine Kd.R_lit (Kd.int .i64) _ 3 ?hg (N := 8) ?hd (xs := ([] : List Int)) (inner := []) (ok := fun _ => True) (okp := fun _ => True) ?hr ?hp (fun _ hk => hk) trivial (Below.refl _ _) (Nat.le_refl _) (by simp) ?_; (case hd => rfl); (case hg => rfl); (case hr => first | (go_simp; done) | (go_simp; rfl)); (case hp => exact (Reps.none _ _)); intro v408 w3 ho4 hb hg_ hnew_; clear hg_ hnew_; (first | rw [← Ny407.out] at ho4 | (simp only [Int.reduceToNat] at ho4; rw [← Ny407.out] at ho4)); have n0_ := Aside0.mk (Kd.R_lower (Kd.R_newM (M := fun k_ => (w.heap.size ≤ k_)) ho4 (below_size (by repeat (first | (with_reducible first | exact HB.out | apply below_alloc | apply pw_below_drewN | apply below_drew1) | exact HB.out))) (fun k_ h_ => h_)) (below_size (by repeat (first | (with_reducible first | exact HB.out | apply below_alloc | apply pw_below_drewN | apply below_drew1) | exact HB.out)))); have n1_ := Aside0.mk (below_step (by repeat (first | (with_reducible first | exact HB.out | apply below_alloc | apply pw_below_drewN | apply below_drew1) | exact HB.out)) hb); clear HB; have HO409 := n0_; have HB := n1_; clear n0_ n1_; clear hb ho4))
  go_loopg [5, 6, 7] k (fun kq v5 v6 v7 w' => ∃ (x5_1 : List Int) (x6_1 : Int) (x7_1 : Int), v6 = .int .i64 x6_1 ∧ v7 = .int .i64 x7_1 ∧ Aside0 (spec_Add.l0 kq l0 l1 x5_1 x6_1 x7_1 = some r) ∧ Aside0 (kq ≤ k) ∧ Aside0 (Kd.R (Kd.int .i64) 3 w' w.heap.size (fun k_ => (w.heap.size ≤ k_)) v5 x5_1) ∧ Aside0 (Below w.heap.size w w'))
  case atStart => exact ⟨(y407), (0), (0), (by first | rfl | (simp; done) | (simp [*]; done)), (by first | rfl | (simp; done) | (simp [*]; done)), H', ⟨Nat.le_refl _⟩, ⟨by (with_reducible repeat (first | apply Kd.R_alloc | apply Kd.R_drewN | apply Kd.R_drew)); exact Kd.R_mono HO409.out (fun _ hk => hk.1)⟩, ⟨by repeat (first | (with_reducible first | exact HB.out | apply below_alloc | apply pw_below_drewN | apply below_drew1) | exact HB.out)⟩⟩
  case round =>
    clear H'
    try clear c1
    try clear p2
    try clear c4
    obtain ⟨x5_1, x6_1, x7_1, rfl, rfl, HA, HK1, HO_5, HB⟩ := hrel
    cases gk with
    | zero => exact absurd HA.out (by simp [spec_Add.l0])
    | succ k1 =>
      have H := HA.out
      clear HA
      simp only [spec_Add.l0] at H
      have HC5 := Aside0.mk H
      clear H
      go_upto_region 4 with (fail)
      go_cut [18] (fun v18 wc => ∃ (kq : Nat) (x18_4 : Bool), v18 = .bool x18_4 ∧ Aside0 (spec_Add.j1 kq l0 l1 x5_1 x6_1 x7_1 x18_4 = some r) ∧ Aside0 (kq ≤ k1) ∧ Aside0 (Kd.R (Kd.int .i64) 3 wc w.heap.size (fun k_ => (w.heap.size ≤ k_)) u5 x5_1) ∧ Aside0 (Below w.heap.size w wc))
      case first =>
        have H := HC5.out
        clear HC5
        by_cases c6 : x7_1 < (l0.length : Int)
        · rw [if_pos c6] at H
          have c6b0 : decide (x7_1 < (l0.length : Int)) = true := decide_eq_true c6
          clear c6
          (first | rw [c6b0] | (simp only [i64_w, i32_w]; rw [c6b0]) | skip)
          have H' := Aside0.mk H
          clear H
          go_wp2
          go_meet
          case rel => exact ⟨_, (true), (by first | rfl | (simp; done) | (simp [*]; done)), H', ⟨by have := HK1.out; first | omega | exact Nat.le_refl _⟩, ⟨by (with_reducible repeat (first | apply Kd.R_alloc | apply Kd.R_drewN | apply Kd.R_drew)); exact HO_5.out⟩, ⟨by repeat (first | (with_reducible first | exact HB.out | apply below_alloc | apply pw_below_drewN | apply below_drew1) | exact HB.out)⟩⟩
        · rw [if_neg c6] at H
          have c6b0 : decide (x7_1 < (l0.length : Int)) = false := decide_eq_false c6
          clear c6
          (first | rw [c6b0] | (simp only [i64_w, i32_w]; rw [c6b0]) | skip)
          have H' := Aside0.mk H
          clear H
          go_wp2
          go_meet
          case rel => exact ⟨_, (decide (x7_1 < (l1.length : Int))), (by first | rfl | (simp; done) | (simp [*]; done)), H', ⟨by have := HK1.out; first | omega | exact Nat.le_refl _⟩, ⟨by (with_reducible repeat (first | apply Kd.R_alloc | apply Kd.R_drewN | apply Kd.R_drew)); exact HO_5.out⟩, ⟨by repeat (first | (with_reducible first | exact HB.out | apply below_alloc | apply pw_below_drewN | apply below_drew1) | exact HB.out)⟩⟩
      case rest =>
        clear HC5
        try clear c1
        try clear p2
        try clear c4
        try clear c6
        try clear c6b0
        try clear p2
        obtain ⟨kq, x18_4, rfl, HA, HJ4, HO_5, HB⟩ := hcut
        cases kq with
        | zero => exact absurd HA.out (by simp [spec_Add.j1])
        | succ kj4 =>
          have H := HA.out
          clear HA
          simp only [spec_Add.j1] at H
          by_cases c7 : x18_4 = true
          · subst c7
            have H1 : (if x7_1 < (l0.length : Int) then (if 0 ≤ x7_1 then (if x7_1 < (l1.length : Int) then (if x5_1.length < 17592186044416 then (spec_Add.l0 kj4 l0 l1 (x5_1 ++ [Int.tmod (wrap64 ((wrap64 (x6_1 + (rd l0 x7_1))) + (rd l1 x7_1))) 65536]) (wrap64 (Int.tdiv (wrap64 ((wrap64 (x6_1 + (rd l0 x7_1))) + (rd l1 x7_1))) 65536)) (wrap64 (x7_1 + 1))) else (none)) else (if x5_1.length < 17592186044416 then (spec_Add.l0 kj4 l0 l1 (x5_1 ++ [Int.tmod (wrap64 (x6_1 + (rd l0 x7_1))) 65536]) (wrap64 (Int.tdiv (wrap64 (x6_1 + (rd l0 x7_1))) 65536)) (wrap64 (x7_1 + 1))) else (none))) else (none)) else (if x7_1 < (l1.length : Int) then (if 0 ≤ x7_1 then (if x5_1.length < 17592186044416 then (spec_Add.l0 kj4 l0 l1 (x5_1 ++ [Int.tmod (wrap64 (x6_1 + (rd l1 x7_1))) 65536]) (wrap64 (Int.tdiv (wrap64 (x6_1 + (rd l1 x7_1))) 65536)) (wrap64 (x7_1 + 1))) else (none)) else (none)) else (if x5_1.length < 17592186044416 then (spec_Add.l0 kj4 l0 l1 (x5_1 ++ [Int.tmod x6_1 65536]) (wrap64 (Int.tdiv x6_1 65536)) (wrap64 (x7_1 + 1))) else (none)))) = some r := by rw [if_pos rfl] at H; exact H
            clear H
            have H := H1
            clear H1
            by_cases c8 : x7_1 < (l0.length : Int)
            · rw [if_pos c8] at H
              have c8b0 : decide (x7_1 < (l0.length : Int)) = true := decide_eq_true c8
              clear c8
              by_cases c9 : 0 ≤ x7_1
              · rw [if_pos c9] at H
                have c9b0 : decide (0 ≤ x7_1) = true := decide_eq_true c9
                clear c9
                by_cases c10 : x7_1 < (l1.length : Int)
                · rw [if_pos c10] at H
                  have c10b0 : decide (x7_1 < (l1.length : Int)) = true := decide_eq_true c10
                  clear c10
                  by_cases c11 : x5_1.length < 17592186044416
                  · rw [if_pos c11] at H
                    have LMc11 := Aside0.mk c11
                    clear c11
                    obtain ⟨y418, hy418⟩ : ∃ y_ : List Int, y_ = (x5_1 ++ [Int.tmod (wrap64 ((wrap64 (x6_1 + (rd l0 x7_1))) + (rd l1 x7_1))) 65536]) := ⟨_, rfl⟩
                    replace H : (spec_Add.l0 kj4 l0 l1 y418 (wrap64 (Int.tdiv (wrap64 ((wrap64 (x6_1 + (rd l0 x7_1))) + (rd l1 x7_1))) 65536)) (wrap64 (x7_1 + 1))) = some r := by first | (rw [hy418]; with_reducible exact H) | (have H2_ := (Option.bind_some _ _).symm.trans H; rw [hy418]; with_reducible exact H2_) | (have H2_ := (Option.bind_some _ _).symm.trans H; with_reducible exact H2_) | with_reducible exact H | (rw [hy418]; exact H) | exact H
                    have Ny418 := Aside0.mk hy418
                    clear hy418
                    have H' := Aside0.mk H
                    clear H
                    have p416 : 0 ≤ (x7_1 : Int) := of_decide_eq_true (by first | (with_reducible assumption) | assumption)
                    have q416 : x7_1 < (l0.length : Int) := of_decide_eq_true (by first | (with_reducible assumption) | assumption)
                    obtain ⟨ad416, e416, hx416_0⟩ := Kd.at_int HR0.out x7_1 p416 q416
                    cases e416
                    replace hx416_0 := (HB.out.cell (World.block_lt_of_cell? w _ hx416_0)).trans hx416_0
                    replace p416 := eq_true p416
                    replace q416 := eq_true q416
                    have p417 : 0 ≤ (x7_1 : Int) := of_decide_eq_true (by first | (with_reducible assumption) | assumption)
                    have q417 : x7_1 < (l1.length : Int) := of_decide_eq_true (by first | (with_reducible assumption) | assumption)
                    obtain ⟨ad417, e417, hx417_0⟩ := Kd.at_int HR1.out x7_1 p417 q417
                    cases e417
                    replace hx417_0 := (HB.out.cell (World.block_lt_of_cell? w _ hx417_0)).trans hx417_0
                    replace p417 := eq_true p417
                    replace q417 := eq_true q417
                    go_wp2_with (first | ((with_reducible refine gate_builtin (b := .append) (xs := #[.tmp 41, .tmp 44]) rfl ?_); (try (refine gate_guard (by rfl) ?_; dsimp only)); at_builtin; refine Kd.R_append (Kd.int .i64) (w0 := w) w.heap.size rfl (.tmp 41) (.tmp 44) 28 3 (.int .i64 0) 8 rfl Tryz.underlying28 info3 rfl (by decide) (by omega) u5 x5_1 (Int.tmod (wrap64 ((wrap64 (x6_1 + (rd l0 x7_1))) + (rd l1 x7_1))) 65536) [.int .i64 (Int.tmod (wrap64 ((wrap64 (x6_1 + (rd l0 x7_1))) + (rd l1 x7_1))) 65536)] (fun k_ => (w.heap.size ≤ k_)) (fun _ => False) rfl rfl ?aP (fun _ hk => hk.elim) ?aF ?aO ?aB ?aS ?aL ?_; (case aP => exact rfl); (case aB => exact (by repeat (first | (with_reducible first | exact HB.out | apply below_alloc | apply pw_below_drewN | apply below_drew1) | exact HB.out))); (case aF => exact (fun k_ hk => (Nat.le_trans (below_size (by repeat (first | (with_reducible first | exact HB.out | apply below_alloc | apply pw_below_drewN | apply below_drew1) | exact HB.out))) hk))); (case aO => exact (by (with_reducible repeat (first | apply Kd.R_alloc | apply Kd.R_drewN | apply Kd.R_drew)); exact HO_5.out)); (case aS => exact (below_size (by repeat (first | (with_reducible first | exact HB.out | apply below_alloc | apply pw_below_drewN | apply below_drew1) | exact HB.out)))); (case aL => have := LMc11.out; omega); intro v419 w12 ho hb hg hat; rw [← Ny418.out] at ho; have n0_ := Aside0.mk (hb); have n1_ := Aside0.mk (ho); clear HB; clear HO_5; have HB := n0_; have HO420 := n1_; clear n0_ n1_; clear ho hb hg hat))
                    go_roundg kj4
                    case measure => have := HK1.out; have := HJ4.out; omega
                    case rel => exact ⟨(y418), (wrap64 (Int.tdiv (wrap64 ((wrap64 (x6_1 + (rd l0 x7_1))) + (rd l1 x7_1))) 65536)), (wrap64 (x7_1 + 1)), (by first | rfl | (simp; done) | (simp [*]; done)), (by first | rfl | (simp; done) | (simp [*]; done)), H', ⟨by have := HK1.out; have := HJ4.out; omega⟩, ⟨by (with_reducible repeat (first | apply Kd.R_alloc | apply Kd.R_drewN | apply Kd.R_drew)); exact HO420.out⟩, ⟨by repeat (first | (with_reducible first | exact HB.out | apply below_alloc | apply pw_below_drewN | apply below_drew1) | exact HB.out)⟩⟩
                  · rw [if_neg c11] at H
                    exact absurd H (by simp)
                · rw [if_neg c10] at H
                  have c10b0 : decide (x7_1 < (l1.length : Int)) = false := decide_eq_false c10
                  clear c10
                  by_cases c13 : x5_1.length < 17592186044416
                  · rw [if_pos c13] at H
                    have LMc13 := Aside0.mk c13
                    clear c13
                    obtain ⟨y421, hy421⟩ : ∃ y_ : List Int, y_ = (x5_1 ++ [Int.tmod (wrap64 (x6_1 + (rd l0 x7_1))) 65536]) := ⟨_, rfl⟩
                    replace H : (spec_Add.l0 kj4 l0 l1 y421 (wrap64 (Int.tdiv (wrap64 (x6_1 + (rd l0 x7_1))) 65536)) (wrap64 (x7_1 + 1))) = some r := by first | (rw [hy421]; with_reducible exact H) | (have H2_ := (Option.bind_some _ _).symm.trans H; rw [hy421]; with_reducible exact H2_) | (have H2_ := (Option.bind_some _ _).symm.trans H; with_reducible exact H2_) | with_reducible exact H | (rw [hy421]; exact H) | exact H
                    have Ny421 := Aside0.mk hy421
                    clear hy421
                    have H' := Aside0.mk H
                    clear H
                    have p416 : 0 ≤ (x7_1 : Int) := of_decide_eq_true (by first | (with_reducible assumption) | assumption)
                    have q416 : x7_1 < (l0.length : Int) := of_decide_eq_true (by first | (with_reducible assumption) | assumption)
                    obtain ⟨ad416, e416, hx416_0⟩ := Kd.at_int HR0.out x7_1 p416 q416
                    cases e416
                    replace hx416_0 := (HB.out.cell (World.block_lt_of_cell? w _ hx416_0)).trans hx416_0
                    replace p416 := eq_true p416
                    replace q416 := eq_true q416
                    go_wp2_with (first | ((with_reducible refine gate_builtin (b := .append) (xs := #[.tmp 41, .tmp 44]) rfl ?_); (try (refine gate_guard (by rfl) ?_; dsimp only)); at_builtin; refine Kd.R_append (Kd.int .i64) (w0 := w) w.heap.size rfl (.tmp 41) (.tmp 44) 28 3 (.int .i64 0) 8 rfl Tryz.underlying28 info3 rfl (by decide) (by omega) u5 x5_1 (Int.tmod (wrap64 (x6_1 + (rd l0 x7_1))) 65536) [.int .i64 (Int.tmod (wrap64 (x6_1 + (rd l0 x7_1))) 65536)] (fun k_ => (w.heap.size ≤ k_)) (fun _ => False) rfl rfl ?aP (fun _ hk => hk.elim) ?aF ?aO ?aB ?aS ?aL ?_; (case aP => exact rfl); (case aB => exact (by repeat (first | (with_reducible first | exact HB.out | apply below_alloc | apply pw_below_drewN | apply below_drew1) | exact HB.out))); (case aF => exact (fun k_ hk => (Nat.le_trans (below_size (by repeat (first | (with_reducible first | exact HB.out | apply below_alloc | apply pw_below_drewN | apply below_drew1) | exact HB.out))) hk))); (case aO => exact (by (with_reducible repeat (first | apply Kd.R_alloc | apply Kd.R_drewN | apply Kd.R_drew)); exact HO_5.out)); (case aS => exact (below_size (by repeat (first | (with_reducible first | exact HB.out | apply below_alloc | apply pw_below_drewN | apply below_drew1) | exact HB.out)))); (case aL => have := LMc13.out; omega); intro v422 w14 ho hb hg hat; rw [← Ny421.out] at ho; have n0_ := Aside0.mk (hb); have n1_ := Aside0.mk (ho); clear HB; clear HO_5; have HB := n0_; have HO423 := n1_; clear n0_ n1_; clear ho hb hg hat))
                    go_roundg kj4
                    case measure => have := HK1.out; have := HJ4.out; omega
                    case rel => exact ⟨(y421), (wrap64 (Int.tdiv (wrap64 (x6_1 + (rd l0 x7_1))) 65536)), (wrap64 (x7_1 + 1)), (by first | rfl | (simp; done) | (simp [*]; done)), (by first | rfl | (simp; done) | (simp [*]; done)), H', ⟨by have := HK1.out; have := HJ4.out; omega⟩, ⟨by (with_reducible repeat (first | apply Kd.R_alloc | apply Kd.R_drewN | apply Kd.R_drew)); exact HO423.out⟩, ⟨by repeat (first | (with_reducible first | exact HB.out | apply below_alloc | apply pw_below_drewN | apply below_drew1) | exact HB.out)⟩⟩
                  · rw [if_neg c13] at H
                    exact absurd H (by simp)
              · rw [if_neg c9] at H
                exact absurd H (by simp)
            · rw [if_neg c8] at H
              have c8b0 : decide (x7_1 < (l0.length : Int)) = false := decide_eq_false c8
              clear c8
              by_cases c15 : x7_1 < (l1.length : Int)
              · rw [if_pos c15] at H
                have c15b0 : decide (x7_1 < (l1.length : Int)) = true := decide_eq_true c15
                clear c15
                by_cases c16 : 0 ≤ x7_1
                · rw [if_pos c16] at H
                  have c16b0 : decide (0 ≤ x7_1) = true := decide_eq_true c16
                  clear c16
                  by_cases c17 : x5_1.length < 17592186044416
                  · rw [if_pos c17] at H
                    have LMc17 := Aside0.mk c17
                    clear c17
                    obtain ⟨y425, hy425⟩ : ∃ y_ : List Int, y_ = (x5_1 ++ [Int.tmod (wrap64 (x6_1 + (rd l1 x7_1))) 65536]) := ⟨_, rfl⟩
                    replace H : (spec_Add.l0 kj4 l0 l1 y425 (wrap64 (Int.tdiv (wrap64 (x6_1 + (rd l1 x7_1))) 65536)) (wrap64 (x7_1 + 1))) = some r := by first | (rw [hy425]; with_reducible exact H) | (have H2_ := (Option.bind_some _ _).symm.trans H; rw [hy425]; with_reducible exact H2_) | (have H2_ := (Option.bind_some _ _).symm.trans H; with_reducible exact H2_) | with_reducible exact H | (rw [hy425]; exact H) | exact H
                    have Ny425 := Aside0.mk hy425
                    clear hy425
                    have H' := Aside0.mk H
                    clear H
                    have p424 : 0 ≤ (x7_1 : Int) := of_decide_eq_true (by first | (with_reducible assumption) | assumption)
                    have q424 : x7_1 < (l1.length : Int) := of_decide_eq_true (by first | (with_reducible assumption) | assumption)
                    obtain ⟨ad424, e424, hx424_0⟩ := Kd.at_int HR1.out x7_1 p424 q424
                    cases e424
                    replace hx424_0 := (HB.out.cell (World.block_lt_of_cell? w _ hx424_0)).trans hx424_0
                    replace p424 := eq_true p424
                    replace q424 := eq_true q424
                    go_wp2_with (first | ((with_reducible refine gate_builtin (b := .append) (xs := #[.tmp 41, .tmp 44]) rfl ?_); (try (refine gate_guard (by rfl) ?_; dsimp only)); at_builtin; refine Kd.R_append (Kd.int .i64) (w0 := w) w.heap.size rfl (.tmp 41) (.tmp 44) 28 3 (.int .i64 0) 8 rfl Tryz.underlying28 info3 rfl (by decide) (by omega) u5 x5_1 (Int.tmod (wrap64 (x6_1 + (rd l1 x7_1))) 65536) [.int .i64 (Int.tmod (wrap64 (x6_1 + (rd l1 x7_1))) 65536)] (fun k_ => (w.heap.size ≤ k_)) (fun _ => False) rfl rfl ?aP (fun _ hk => hk.elim) ?aF ?aO ?aB ?aS ?aL ?_; (case aP => exact rfl); (case aB => exact (by repeat (first | (with_reducible first | exact HB.out | apply below_alloc | apply pw_below_drewN | apply below_drew1) | exact HB.out))); (case aF => exact (fun k_ hk => (Nat.le_trans (below_size (by repeat (first | (with_reducible first | exact HB.out | apply below_alloc | apply pw_below_drewN | apply below_drew1) | exact HB.out))) hk))); (case aO => exact (by (with_reducible repeat (first | apply Kd.R_alloc | apply Kd.R_drewN | apply Kd.R_drew)); exact HO_5.out)); (case aS => exact (below_size (by repeat (first | (with_reducible first | exact HB.out | apply below_alloc | apply pw_below_drewN | apply below_drew1) | exact HB.out)))); (case aL => have := LMc17.out; omega); intro v426 w18 ho hb hg hat; rw [← Ny425.out] at ho; have n0_ := Aside0.mk (hb); have n1_ := Aside0.mk (ho); clear HB; clear HO_5; have HB := n0_; have HO427 := n1_; clear n0_ n1_; clear ho hb hg hat))
                    go_roundg kj4
                    case measure => have := HK1.out; have := HJ4.out; omega
                    case rel => exact ⟨(y425), (wrap64 (Int.tdiv (wrap64 (x6_1 + (rd l1 x7_1))) 65536)), (wrap64 (x7_1 + 1)), (by first | rfl | (simp; done) | (simp [*]; done)), (by first | rfl | (simp; done) | (simp [*]; done)), H', ⟨by have := HK1.out; have := HJ4.out; omega⟩, ⟨by (with_reducible repeat (first | apply Kd.R_alloc | apply Kd.R_drewN | apply Kd.R_drew)); exact HO427.out⟩, ⟨by repeat (first | (with_reducible first | exact HB.out | apply below_alloc | apply pw_below_drewN | apply below_drew1) | exact HB.out)⟩⟩
                  · rw [if_neg c17] at H
                    exact absurd H (by simp)
                · rw [if_neg c16] at H
                  exact absurd H (by simp)
              · rw [if_neg c15] at H
                have c15b0 : decide (x7_1 < (l1.length : Int)) = false := decide_eq_false c15
                clear c15
                by_cases c19 : x5_1.length < 17592186044416
                · rw [if_pos c19] at H
                  have LMc19 := Aside0.mk c19
                  clear c19
                  obtain ⟨y428, hy428⟩ : ∃ y_ : List Int, y_ = (x5_1 ++ [Int.tmod x6_1 65536]) := ⟨_, rfl⟩
                  replace H : (spec_Add.l0 kj4 l0 l1 y428 (wrap64 (Int.tdiv x6_1 65536)) (wrap64 (x7_1 + 1))) = some r := by first | (rw [hy428]; with_reducible exact H) | (have H2_ := (Option.bind_some _ _).symm.trans H; rw [hy428]; with_reducible exact H2_) | (have H2_ := (Option.bind_some _ _).symm.trans H; with_reducible exact H2_) | with_reducible exact H | (rw [hy428]; exact H) | exact H
                  have Ny428 := Aside0.mk hy428
                  clear hy428
                  have H' := Aside0.mk H
                  clear H
                  go_wp2_with (first | ((with_reducible refine gate_builtin (b := .append) (xs := #[.tmp 41, .tmp 44]) rfl ?_); (try (refine gate_guard (by rfl) ?_; dsimp only)); at_builtin; refine Kd.R_append (Kd.int .i64) (w0 := w) w.heap.size rfl (.tmp 41) (.tmp 44) 28 3 (.int .i64 0) 8 rfl Tryz.underlying28 info3 rfl (by decide) (by omega) u5 x5_1 (Int.tmod x6_1 65536) [.int .i64 (Int.tmod x6_1 65536)] (fun k_ => (w.heap.size ≤ k_)) (fun _ => False) rfl rfl ?aP (fun _ hk => hk.elim) ?aF ?aO ?aB ?aS ?aL ?_; (case aP => exact rfl); (case aB => exact (by repeat (first | (with_reducible first | exact HB.out | apply below_alloc | apply pw_below_drewN | apply below_drew1) | exact HB.out))); (case aF => exact (fun k_ hk => (Nat.le_trans (below_size (by repeat (first | (with_reducible first | exact HB.out | apply below_alloc | apply pw_below_drewN | apply below_drew1) | exact HB.out))) hk))); (case aO => exact (by (with_reducible repeat (first | apply Kd.R_alloc | apply Kd.R_drewN | apply Kd.R_drew)); exact HO_5.out)); (case aS => exact (below_size (by repeat (first | (with_reducible first | exact HB.out | apply below_alloc | apply pw_below_drewN | apply below_drew1) | exact HB.out)))); (case aL => have := LMc19.out; omega); intro v429 w20 ho hb hg hat; rw [← Ny428.out] at ho; have n0_ := Aside0.mk (hb); have n1_ := Aside0.mk (ho); clear HB; clear HO_5; have HB := n0_; have HO430 := n1_; clear n0_ n1_; clear ho hb hg hat))
                  go_roundg kj4
                  case measure => have := HK1.out; have := HJ4.out; omega
                  case rel => exact ⟨(y428), (wrap64 (Int.tdiv x6_1 65536)), (wrap64 (x7_1 + 1)), (by first | rfl | (simp; done) | (simp [*]; done)), (by first | rfl | (simp; done) | (simp [*]; done)), H', ⟨by have := HK1.out; have := HJ4.out; omega⟩, ⟨by (with_reducible repeat (first | apply Kd.R_alloc | apply Kd.R_drewN | apply Kd.R_drew)); exact HO430.out⟩, ⟨by repeat (first | (with_reducible first | exact HB.out | apply below_alloc | apply pw_below_drewN | apply below_drew1) | exact HB.out)⟩⟩
                · rw [if_neg c19] at H
                  exact absurd H (by simp)
          · replace c7 := Bool.eq_false_iff.mpr c7
            subst c7
            have H1 : (if x5_1.length < 17592186044416 then ((spec_trim.f kj4 (x5_1 ++ [x6_1])).bind fun t413 => (some t413)) else (none)) = some r := by rw [if_neg (show ¬ (false = true) by decide)] at H; exact H
            clear H
            have H := H1
            clear H1
            by_cases c21 : x5_1.length < 17592186044416
            · rw [if_pos c21] at H
              have LMc21 := Aside0.mk c21
              clear c21
              obtain ⟨y410, hy410⟩ : ∃ y_ : List Int, y_ = (x5_1 ++ [x6_1]) := ⟨_, rfl⟩
              replace H : ((spec_trim.f kj4 y410).bind fun t413 => (some t413)) = some r := by first | (rw [hy410]; with_reducible exact H) | (have H2_ := (Option.bind_some _ _).symm.trans H; rw [hy410]; with_reducible exact H2_) | (have H2_ := (Option.bind_some _ _).symm.trans H; with_reducible exact H2_) | with_reducible exact H | (rw [hy410]; exact H) | exact H
              have Ny410 := Aside0.mk hy410
              clear hy410
              replace H := Option.bind_eq_some_iff.mp H
              obtain ⟨t413, A220, H⟩ := H
              replace H : (some t413) = some r := H
              have A22 := Aside0.mk A220
              clear A220
              obtain rfl := Option.some.inj H
              go_wp2_with (first | ((with_reducible refine gate_builtin (b := .append) (xs := #[.tmp 48, .tmp 50]) rfl ?_); (try (refine gate_guard (by rfl) ?_; dsimp only)); at_builtin; refine Kd.R_append (Kd.int .i64) (w0 := w) w.heap.size rfl (.tmp 48) (.tmp 50) 28 3 (.int .i64 0) 8 rfl Tryz.underlying28 info3 rfl (by decide) (by omega) u5 x5_1 x6_1 [.int .i64 x6_1] (fun k_ => (w.heap.size ≤ k_)) (fun _ => False) rfl rfl ?aP (fun _ hk => hk.elim) ?aF ?aO ?aB ?aS ?aL ?_; (case aP => exact rfl); (case aB => exact (by repeat (first | (with_reducible first | exact HB.out | apply below_alloc | apply pw_below_drewN | apply below_drew1) | exact HB.out))); (case aF => exact (fun k_ hk => (Nat.le_trans (below_size (by repeat (first | (with_reducible first | exact HB.out | apply below_alloc | apply pw_below_drewN | apply below_drew1) | exact HB.out))) hk))); (case aO => exact (by (with_reducible repeat (first | apply Kd.R_alloc | apply Kd.R_drewN | apply Kd.R_drew)); exact HO_5.out)); (case aS => exact (below_size (by repeat (first | (with_reducible first | exact HB.out | apply below_alloc | apply pw_below_drewN | apply below_drew1) | exact HB.out)))); (case aL => have := LMc21.out; omega); intro v411 w23 ho hb hg hat; rw [← Ny410.out] at ho; have n0_ := Aside0.mk (hb); have n1_ := Aside0.mk (ho); clear HB; clear HO_5; have HB := n0_; have HO412 := n1_; clear n0_ n1_; clear ho hb hg hat; obtain ⟨Ao24, co24, eo24⟩ := Kd.R_slice HO412.out; subst eo24) | ((with_reducible refine gate_callee (f := 39) rfl ?_); refine goesL_ (some 52) rfl rfl Tryz.func39 (by kernel_rfl) rfl #[.slice Ao24 y410.length co24] rfl (by (try simp only [List.map_toArray, List.map_cons, List.map_nil]); first | done | rfl | (simp only [List.length_drop, List.length_take]; rfl)) ?_; (with_reducible refine (spec_trim.calls kj4 (fun k_ => some k_ = (.slice Ao24 y410.length co24 : Value).ownBlock) _ _ y410 t413 _ ?side1 A22.out).mono ?_); (case side1 => exact Kd.R_V (Kd.R_tight rfl (HO412.out))); rintro e w25 ⟨v414, rfl, ho0, hb⟩; refine ⟨_, rfl, ?_⟩; have n0_ := Aside0.mk (Kd.R_below (by (with_reducible repeat (first | apply Kd.R_alloc | apply Kd.R_drewN | apply Kd.R_drew)); exact HO412.out) hb); have n1_ := Aside0.mk (Kd.V_lower (Kd.V_mono (ok' := fun k_ => (w.heap.size ≤ k_)) ho0 (fun k_ hk_ => Or.elim hk_ (fun hs_ => ((HO412.out).1 k_ hs_.symm)) (fun hn_ => (Nat.le_trans (below_size (by repeat (first | (with_reducible first | exact HB.out | apply below_alloc | apply pw_below_drewN | apply below_drew1) | exact HB.out))) hn_)))) (below_size (by repeat (first | (with_reducible first | exact HB.out | apply below_alloc | apply pw_below_drewN | apply below_drew1) | exact HB.out)))); have n2_ := Aside0.mk (below_step (by repeat (first | (with_reducible first | exact HB.out | apply below_alloc | apply pw_below_drewN | apply below_drew1) | exact HB.out)) hb); clear HO412; clear HB; have HO412 := n0_; have HO415 := n1_; have HB := n2_; clear n0_ n1_ n2_; (try clear hb); (try clear hb2); (try clear hk); (try clear hi); (try clear ho0)))
              go_ret
              exact ⟨_, by first | rfl | (simp [errW_none, errW_some] <;> rfl) | (simp [*, errW_none, errW_some] <;> rfl), by (with_reducible repeat (first | apply Kd.V_alloc | apply Kd.V_drewN | apply Kd.V_drew)); exact HO415.out, by repeat (first | (with_reducible first | exact HB.out | apply below_alloc | apply pw_below_drewN | apply below_drew1) | exact HB.out)⟩
            · rw [if_neg c21] at H
              exact absurd H (by simp)

end Go.Proofs.YtfnknldbjckgoaaGreatDoor.Sp
end

/-! ## SpSSub -/
section
namespace Go.Proofs.YtfnknldbjckgoaaGreatDoor.Sp
open Go.RowKit Go.Proofs.YtfnknldbjckgoaaGreatDoorW.PrintWords Go.Proofs.YtfnknldbjckgoaaGreatDoorW.PrintLast Go.Proofs.YtfnknldbjckgoaaGreatDoorW.PrintMore
attribute [local go_sem] max2_int min2_int max_two min_two max_three min_three max_four min_four
set_option linter.unusedVariables false
set_option linter.unusedSimpArgs false

/-! ### spec_Sub: function 64 -/
def spec_Sub.l0 : Nat → List Int → List Int → Int → List Int → Int → Int → Option (List Int)
  | 0, _, _, _, _, _, _ => none
  | k + 1, x1, x5, x6, x10, x11, x12 => if x12 < x11 then (if 0 ≤ x12 then (if x12 < (x10.length : Int) then (if x12 < (x1.length : Int) then (if (wrap64 ((wrap64 ((rd x10 x12) - x6)) - (rd x1 x12))) < 0 then (if x5.length < 17592186044416 then (spec_Sub.l0 k x1 (x5 ++ [wrap64 ((wrap64 ((wrap64 ((rd x10 x12) - x6)) - (rd x1 x12))) + 65536)]) 1 x10 x11 (wrap64 (x12 + 1))) else (none)) else (if x5.length < 17592186044416 then (spec_Sub.l0 k x1 (x5 ++ [wrap64 ((wrap64 ((rd x10 x12) - x6)) - (rd x1 x12))]) 0 x10 x11 (wrap64 (x12 + 1))) else (none))) else (if (wrap64 ((rd x10 x12) - x6)) < 0 then (if x5.length < 17592186044416 then (spec_Sub.l0 k x1 (x5 ++ [wrap64 ((wrap64 ((rd x10 x12) - x6)) + 65536)]) 1 x10 x11 (wrap64 (x12 + 1))) else (none)) else (if x5.length < 17592186044416 then (spec_Sub.l0 k x1 (x5 ++ [wrap64 ((rd x10 x12) - x6)]) 0 x10 x11 (wrap64 (x12 + 1))) else (none)))) else (none)) else (none)) else ((spec_trim.f k x5).bind fun t434 => (some t434))
def spec_Sub.f (k : Nat) (l0 : List Int) (l1 : List Int) : Option (List Int) := spec_Sub.l0 k l1 (([] : List Int)) 0 l0 (l0.length : Int) 0
theorem spec_Sub.mono_l : ∀ k, (∀ y0 y1 y2 y3 y4 y5, LeO (spec_Sub.l0 k y0 y1 y2 y3 y4 y5) (spec_Sub.l0 (k + 1) y0 y1 y2 y3 y4 y5))
  | 0 => fun _ _ _ _ _ _ r h => by simp [spec_Sub.l0] at h
  | k + 1 => by
    have ih0 := spec_Sub.mono_l k
    · intro y0 y1 y2 y3 y4 y5
      unfold spec_Sub.l0
      repeat' first
      | (with_reducible exact ih0 _ _ _ _ _ _)
      | (with_reducible exact spec_trim.mono _ _)
      | (with_reducible exact LeO.refl _)
      | (with_reducible exact LeO.none _)
      | (with_reducible refine LeO.ite ?_ ?_)
      | (with_reducible refine LeO.bind ?_ (fun _ => ?_))
      | exact ih0 _ _ _ _ _ _
      | exact spec_trim.mono _ _
      | exact LeO.none _
      | refine LeO.ite ?_ ?_
      | refine LeO.bind ?_ (fun _ => ?_)
theorem spec_Sub.mono : ∀ a0 a1 k, LeO (spec_Sub.f k a0 a1) (spec_Sub.f (k + 1) a0 a1) := by
  intro a0 a1 k
  have ih0 := spec_Sub.mono_l k
  unfold spec_Sub.f
  repeat' first
      | (with_reducible exact ih0 _ _ _ _ _ _)
      | (with_reducible exact spec_trim.mono _ _)
      | (with_reducible exact LeO.refl _)
      | (with_reducible exact LeO.none _)
      | (with_reducible refine LeO.ite ?_ ?_)
      | (with_reducible refine LeO.bind ?_ (fun _ => ?_))
      | exact ih0 _ _ _ _ _ _
      | exact spec_trim.mono _ _
      | exact LeO.none _
      | refine LeO.ite ?_ ?_
      | refine LeO.bind ?_ (fun _ => ?_)
set_option maxHeartbeats 8000000 in
set_option maxRecDepth 100000 in
theorem spec_Sub.calls (k : Nat) (A0 : Option Addr) (c0 : Nat) (l0 : List Int) (A1 : Option Addr) (c1 : Nat) (l1 : List Int) (r : List Int) (w : World) (hr0 : Kd.C (Kd.int .i64) w A0 l0.length l0) (hc0 : l0.length ≤ c0) (hr1 : Kd.C (Kd.int .i64) w A1 l1.length l1) (hc1 : l1.length ≤ c1) (h : spec_Sub.f k l0 l1 = some r) :
    Calls Tryz.prog 64 #[.slice A0 l0.length c0, .slice A1 l1.length c1] w fun e w' => ∃ v0_ : Value, e = .returned (v0_) ∧ Kd.V (Kd.int .i64) 3 w' w.heap.size (fun k_ => (w.heap.size ≤ k_)) v0_ r ∧ Below w.heap.size w w' := by
  have HR0 := Aside0.mk hr0
  have HC0 := Aside0.mk hc0
  clear hr0 hc0
  have HR1 := Aside0.mk hr1
  have HC1 := Aside0.mk hc1
  clear hr1 hc1
  have HB := Aside0.mk (Below.refl w.heap.size w)
  have H : (spec_Sub.l0 k l1 (([] : List Int)) 0 l0 (l0.length : Int) 0) = some r := h
  clear h
  obtain ⟨y431, hy431⟩ : ∃ y_ : List Int, y_ = (([] : List Int)) := ⟨_, rfl⟩
  replace H : (spec_Sub.l0 k l1 y431 0 l0 (l0.length : Int) 0) = some r := by first | (rw [hy431]; with_reducible exact H) | (have H2_ := (Option.bind_some _ _).symm.trans H; rw [hy431]; with_reducible exact H2_) | (have H2_ := (Option.bind_some _ _).symm.trans H; with_reducible exact H2_) | with_reducible exact H | (rw [hy431]; exact H) | exact H
  have Ny431 := Aside0.mk hy431
  clear hy431
  have H' := Aside0.mk H
  clear H
  go_enter Tryz.func64, Tryz.ntmps64
  go_wp2_with (first | ((with_reducible refine gate_dst (N := 9) rfl ?_); refine Kd.R_lit (Kd.int .i64) _ 3 ?hg (N := 9) ?hd (xs := ([] : List Int)) (inner := []) (ok := fun _ => True) (okp := fun _ => True) ?hr ?hp (fun _ hk => hk) trivial (Below.refl _ _) (Nat.le_refl _) (by simp) ?_; (case hd => rfl); (case hg => rfl); (case hr => first | (go_simp; done) | (go_simp; rfl)); (case hp => exact (Reps.none _ _)); intro v432 w3 ho4 hb hg_ hnew_; clear hg_ hnew_; (first | rw [← Ny431.out] at ho4 | (simp only [Int.reduceToNat] at ho4; rw [← Ny431.out] at ho4)); have n0_ := Aside0.mk (Kd.R_lower (Kd.R_newM (M := fun k_ => (w.heap.size ≤ k_)) ho4 (below_size (by repeat (first | (with_reducible first | exact HB.out | apply below_alloc | apply pw_below_drewN | apply below_drew1) | exact HB.out))) (fun k_ h_ => h_)) (below_size (by repeat (first | (with_reducible first | exact HB.out | apply below_alloc | apply pw_below_drewN | apply below_drew1) | exact HB.out)))); have n1_ := Aside0.mk (below_step (by repeat (first | (with_reducible first | exact HB.out | apply below_alloc | apply pw_below_drewN | apply below_drew1) | exact HB.out)) hb); clear HB; have HO433 := n0_; have HB := n1_; clear n0_ n1_; clear hb ho4))
  go_loopg [5, 6, 12] k (fun kq v5 v6 v12 w' => ∃ (x5_1 : List Int) (x6_1 : Int) (x12_1 : Int), v6 = .int .i64 x6_1 ∧ v12 = .int .i64 x12_1 ∧ Aside0 (spec_Sub.l0 kq l1 x5_1 x6_1 l0 (l0.length : Int) x12_1 = some r) ∧ Aside0 (kq ≤ k) ∧ Aside0 (Kd.R (Kd.int .i64) 3 w' w.heap.size (fun k_ => (w.heap.size ≤ k_)) v5 x5_1) ∧ Aside0 (Below w.heap.size w w'))
  case atStart => exact ⟨(y431), (0), (0), (by first | rfl | (simp; done) | (simp [*]; done)), (by first | rfl | (simp; done) | (simp [*]; done)), H', ⟨Nat.le_refl _⟩, ⟨by (with_reducible repeat (first | apply Kd.R_alloc | apply Kd.R_drewN | apply Kd.R_drew)); exact Kd.R_mono HO433.out (fun _ hk => hk.1)⟩, ⟨by repeat (first | (with_reducible first | exact HB.out | apply below_alloc | apply pw_below_drewN | apply below_drew1) | exact HB.out)⟩⟩
  case round =>
    clear H'
    try clear c1
    try clear p2
    obtain ⟨x5_1, x6_1, x12_1, rfl, rfl, HA, HK1, HO_5, HB⟩ := hrel
    cases gk with
    | zero => exact absurd HA.out (by simp [spec_Sub.l0])
    | succ k1 =>
      have H := HA.out
      clear HA
      simp only [spec_Sub.l0] at H
      by_cases c5 : x12_1 < (l0.length : Int)
      · rw [if_pos c5] at H
        have c5b0 : decide (x12_1 < (l0.length : Int)) = true := decide_eq_true c5
        clear c5
        by_cases c6 : 0 ≤ x12_1
        · rw [if_pos c6] at H
          have c6b0 : decide (0 ≤ x12_1) = true := decide_eq_true c6
          clear c6
          by_cases c7 : x12_1 < (l0.length : Int)
          · rw [if_pos c7] at H
            have c7b0 : decide (x12_1 < (l0.length : Int)) = true := decide_eq_true c7
            clear c7
            by_cases c8 : x12_1 < (l1.length : Int)
            · rw [if_pos c8] at H
              have c8b0 : decide (x12_1 < (l1.length : Int)) = true := decide_eq_true c8
              clear c8
              by_cases c9 : (wrap64 ((wrap64 ((rd l0 x12_1) - x6_1)) - (rd l1 x12_1))) < 0
              · rw [if_pos c9] at H
                have c9b0 : decide ((wrap64 ((wrap64 ((rd l0 x12_1) - x6_1)) - (rd l1 x12_1))) < 0) = true := decide_eq_true c9
                clear c9
                by_cases c10 : x5_1.length < 17592186044416
                · rw [if_pos c10] at H
                  have LMc10 := Aside0.mk c10
                  clear c10
                  obtain ⟨y439, hy439⟩ : ∃ y_ : List Int, y_ = (x5_1 ++ [wrap64 ((wrap64 ((wrap64 ((rd l0 x12_1) - x6_1)) - (rd l1 x12_1))) + 65536)]) := ⟨_, rfl⟩
                  replace H : (spec_Sub.l0 k1 l1 y439 1 l0 (l0.length : Int) (wrap64 (x12_1 + 1))) = some r := by first | (rw [hy439]; with_reducible exact H) | (have H2_ := (Option.bind_some _ _).symm.trans H; rw [hy439]; with_reducible exact H2_) | (have H2_ := (Option.bind_some _ _).symm.trans H; with_reducible exact H2_) | with_reducible exact H | (rw [hy439]; exact H) | exact H
                  have Ny439 := Aside0.mk hy439
                  clear hy439
                  have H' := Aside0.mk H
                  clear H
                  have p437 : 0 ≤ (x12_1 : Int) := of_decide_eq_true (by first | (with_reducible assumption) | assumption)
                  have q437 : x12_1 < (l0.length : Int) := of_decide_eq_true (by first | (with_reducible assumption) | assumption)
                  obtain ⟨ad437, e437, hx437_0⟩ := Kd.at_int HR0.out x12_1 p437 q437
                  cases e437
                  replace hx437_0 := (HB.out.cell (World.block_lt_of_cell? w _ hx437_0)).trans hx437_0
                  replace p437 := eq_true p437
                  replace q437 := eq_true q437
                  have p438 : 0 ≤ (x12_1 : Int) := of_decide_eq_true (by first | (with_reducible assumption) | assumption)
                  have q438 : x12_1 < (l1.length : Int) := of_decide_eq_true (by first | (with_reducible assumption) | assumption)
                  obtain ⟨ad438, e438, hx438_0⟩ := Kd.at_int HR1.out x12_1 p438 q438
                  cases e438
                  replace hx438_0 := (HB.out.cell (World.block_lt_of_cell? w _ hx438_0)).trans hx438_0
                  replace p438 := eq_true p438
                  replace q438 := eq_true q438
                  go_wp2_with (first | ((with_reducible refine gate_builtin (b := .append) (xs := #[.tmp 34, .tmp 36]) rfl ?_); at_builtin; refine Kd.R_append (Kd.int .i64) (w0 := w) w.heap.size rfl (.tmp 34) (.tmp 36) 28 3 (.int .i64 0) 8 rfl Tryz.underlying28 info3 rfl (by decide) (by omega) u5 x5_1 (wrap64 ((wrap64 ((wrap64 ((rd l0 x12_1) - x6_1)) - (rd l1 x12_1))) + 65536)) [.int .i64 (wrap64 ((wrap64 ((wrap64 ((rd l0 x12_1) - x6_1)) - (rd l1 x12_1))) + 65536))] (fun k_ => (w.heap.size ≤ k_)) (fun _ => False) rfl rfl ?aP (fun _ hk => hk.elim) ?aF ?aO ?aB ?aS ?aL ?_; (case aP => exact rfl); (case aB => exact (by repeat (first | (with_reducible first | exact HB.out | apply below_alloc | apply pw_below_drewN | apply below_drew1) | exact HB.out))); (case aF => exact (fun k_ hk => (Nat.le_trans (below_size (by repeat (first | (with_reducible first | exact HB.out | apply below_alloc | apply pw_below_drewN | apply below_drew1) | exact HB.out))) hk))); (case aO => exact (by (with_reducible repeat (first | apply Kd.R_alloc | apply Kd.R_drewN | apply Kd.R_drew)); exact HO_5.out)); (case aS => exact (below_size (by repeat (first | (with_reducible first | exact HB.out | apply below_alloc | apply pw_below_drewN | apply below_drew1) | exact HB.out)))); (case aL => have := LMc10.out; omega); intro v440 w11 ho hb hg hat; rw [← Ny439.out] at ho; have n0_ := Aside0.mk (hb); have n1_ := Aside0.mk (ho); clear HB; clear HO_5; have HB := n0_; have HO441 := n1_; clear n0_ n1_; clear ho hb hg hat))
                  go_roundg k1
                  case measure => have := HK1.out; omega
                  case rel => exact ⟨(y439), (1), (wrap64 (x12_1 + 1)), (by first | rfl | (simp; done) | (simp [*]; done)), (by first | rfl | (simp; done) | (simp [*]; done)), H', ⟨by have := HK1.out; omega⟩, ⟨by (with_reducible repeat (first | apply Kd.R_alloc | apply Kd.R_drewN | apply Kd.R_drew)); exact HO441.out⟩, ⟨by repeat (first | (with_reducible first | exact HB.out | apply below_alloc | apply pw_below_drewN | apply below_drew1) | exact HB.out)⟩⟩
                · rw [if_neg c10] at H
                  exact absurd H (by simp)
              · rw [if_neg c9] at H
                have c9b0 : decide ((wrap64 ((wrap64 ((rd l0 x12_1) - x6_1)) - (rd l1 x12_1))) < 0) = false := decide_eq_false c9
                clear c9
                by_cases c12 : x5_1.length < 17592186044416
                · rw [if_pos c12] at H
                  have LMc12 := Aside0.mk c12
                  clear c12
                  obtain ⟨y442, hy442⟩ : ∃ y_ : List Int, y_ = (x5_1 ++ [wrap64 ((wrap64 ((rd l0 x12_1) - x6_1)) - (rd l1 x12_1))]) := ⟨_, rfl⟩
                  replace H : (spec_Sub.l0 k1 l1 y442 0 l0 (l0.length : Int) (wrap64 (x12_1 + 1))) = some r := by first | (rw [hy442]; with_reducible exact H) | (have H2_ := (Option.bind_some _ _).symm.trans H; rw [hy442]; with_reducible exact H2_) | (have H2_ := (Option.bind_some _ _).symm.trans H; with_reducible exact H2_) | with_reducible exact H | (rw [hy442]; exact H) | exact H
                  have Ny442 := Aside0.mk hy442
                  clear hy442
                  have H' := Aside0.mk H
                  clear H
                  have p437 : 0 ≤ (x12_1 : Int) := of_decide_eq_true (by first | (with_reducible assumption) | assumption)
                  have q437 : x12_1 < (l0.length : Int) := of_decide_eq_true (by first | (with_reducible assumption) | assumption)
                  obtain ⟨ad437, e437, hx437_0⟩ := Kd.at_int HR0.out x12_1 p437 q437
                  cases e437
                  replace hx437_0 := (HB.out.cell (World.block_lt_of_cell? w _ hx437_0)).trans hx437_0
                  replace p437 := eq_true p437
                  replace q437 := eq_true q437
                  have p438 : 0 ≤ (x12_1 : Int) := of_decide_eq_true (by first | (with_reducible assumption) | assumption)
                  have q438 : x12_1 < (l1.length : Int) := of_decide_eq_true (by first | (with_reducible assumption) | assumption)
                  obtain ⟨ad438, e438, hx438_0⟩ := Kd.at_int HR1.out x12_1 p438 q438
                  cases e438
                  replace hx438_0 := (HB.out.cell (World.block_lt_of_cell? w _ hx438_0)).trans hx438_0
                  replace p438 := eq_true p438
                  replace q438 := eq_true q438
                  go_wp2_with (first | ((with_reducible refine gate_builtin (b := .append) (xs := #[.tmp 34, .tmp 36]) rfl ?_); at_builtin; refine Kd.R_append (Kd.int .i64) (w0 := w) w.heap.size rfl (.tmp 34) (.tmp 36) 28 3 (.int .i64 0) 8 rfl Tryz.underlying28 info3 rfl (by decide) (by omega) u5 x5_1 (wrap64 ((wrap64 ((rd l0 x12_1) - x6_1)) - (rd l1 x12_1))) [.int .i64 (wrap64 ((wrap64 ((rd l0 x12_1) - x6_1)) - (rd l1 x12_1)))] (fun k_ => (w.heap.size ≤ k_)) (fun _ => False) rfl rfl ?aP (fun _ hk => hk.elim) ?aF ?aO ?aB ?aS ?aL ?_; (case aP => exact rfl); (case aB => exact (by repeat (first | (with_reducible first | exact HB.out | apply below_alloc | apply pw_below_drewN | apply below_drew1) | exact HB.out))); (case aF => exact (fun k_ hk => (Nat.le_trans (below_size (by repeat (first | (with_reducible first | exact HB.out | apply below_alloc | apply pw_below_drewN | apply below_drew1) | exact HB.out))) hk))); (case aO => exact (by (with_reducible repeat (first | apply Kd.R_alloc | apply Kd.R_drewN | apply Kd.R_drew)); exact HO_5.out)); (case aS => exact (below_size (by repeat (first | (with_reducible first | exact HB.out | apply below_alloc | apply pw_below_drewN | apply below_drew1) | exact HB.out)))); (case aL => have := LMc12.out; omega); intro v443 w13 ho hb hg hat; rw [← Ny442.out] at ho; have n0_ := Aside0.mk (hb); have n1_ := Aside0.mk (ho); clear HB; clear HO_5; have HB := n0_; have HO444 := n1_; clear n0_ n1_; clear ho hb hg hat))
                  go_roundg k1
                  case measure => have := HK1.out; omega
                  case rel => exact ⟨(y442), (0), (wrap64 (x12_1 + 1)), (by first | rfl | (simp; done) | (simp [*]; done)), (by first | rfl | (simp; done) | (simp [*]; done)), H', ⟨by have := HK1.out; omega⟩, ⟨by (with_reducible repeat (first | apply Kd.R_alloc | apply Kd.R_drewN | apply Kd.R_drew)); exact HO444.out⟩, ⟨by repeat (first | (with_reducible first | exact HB.out | apply below_alloc | apply pw_below_drewN | apply below_drew1) | exact HB.out)⟩⟩
                · rw [if_neg c12] at H
                  exact absurd H (by simp)
            · rw [if_neg c8] at H
              have c8b0 : decide (x12_1 < (l1.length : Int)) = false := decide_eq_false c8
              clear c8
              by_cases c14 : (wrap64 ((rd l0 x12_1) - x6_1)) < 0
              · rw [if_pos c14] at H
                have c14b0 : decide ((wrap64 ((rd l0 x12_1) - x6_1)) < 0) = true := decide_eq_true c14
                clear c14
                by_cases c15 : x5_1.length < 17592186044416
                · rw [if_pos c15] at H
                  have LMc15 := Aside0.mk c15
                  clear c15
                  obtain ⟨y445, hy445⟩ : ∃ y_ : List Int, y_ = (x5_1 ++ [wrap64 ((wrap64 ((rd l0 x12_1) - x6_1)) + 65536)]) := ⟨_, rfl⟩
                  replace H : (spec_Sub.l0 k1 l1 y445 1 l0 (l0.length : Int) (wrap64 (x12_1 + 1))) = some r := by first | (rw [hy445]; with_reducible exact H) | (have H2_ := (Option.bind_some _ _).symm.trans H; rw [hy445]; with_reducible exact H2_) | (have H2_ := (Option.bind_some _ _).symm.trans H; with_reducible exact H2_) | with_reducible exact H | (rw [hy445]; exact H) | exact H
                  have Ny445 := Aside0.mk hy445
                  clear hy445
                  have H' := Aside0.mk H
                  clear H
                  have p437 : 0 ≤ (x12_1 : Int) := of_decide_eq_true (by first | (with_reducible assumption) | assumption)
                  have q437 : x12_1 < (l0.length : Int) := of_decide_eq_true (by first | (with_reducible assumption) | assumption)
                  obtain ⟨ad437, e437, hx437_0⟩ := Kd.at_int HR0.out x12_1 p437 q437
                  cases e437
                  replace hx437_0 := (HB.out.cell (World.block_lt_of_cell? w _ hx437_0)).trans hx437_0
                  replace p437 := eq_true p437
                  replace q437 := eq_true q437
                  go_wp2_with (first | ((with_reducible refine gate_builtin (b := .append) (xs := #[.tmp 34, .tmp 36]) rfl ?_); at_builtin; refine Kd.R_append (Kd.int .i64) (w0 := w) w.heap.size rfl (.tmp 34) (.tmp 36) 28 3 (.int .i64 0) 8 rfl Tryz.underlying28 info3 rfl (by decide) (by omega) u5 x5_1 (wrap64 ((wrap64 ((rd l0 x12_1) - x6_1)) + 65536)) [.int .i64 (wrap64 ((wrap64 ((rd l0 x12_1) - x6_1)) + 65536))] (fun k_ => (w.heap.size ≤ k_)) (fun _ => False) rfl rfl ?aP (fun _ hk => hk.elim) ?aF ?aO ?aB ?aS ?aL ?_; (case aP => exact rfl); (case aB => exact (by repeat (first | (with_reducible first | exact HB.out | apply below_alloc | apply pw_below_drewN | apply below_drew1) | exact HB.out))); (case aF => exact (fun k_ hk => (Nat.le_trans (below_size (by repeat (first | (with_reducible first | exact HB.out | apply below_alloc | apply pw_below_drewN | apply below_drew1) | exact HB.out))) hk))); (case aO => exact (by (with_reducible repeat (first | apply Kd.R_alloc | apply Kd.R_drewN | apply Kd.R_drew)); exact HO_5.out)); (case aS => exact (below_size (by repeat (first | (with_reducible first | exact HB.out | apply below_alloc | apply pw_below_drewN | apply below_drew1) | exact HB.out)))); (case aL => have := LMc15.out; omega); intro v446 w16 ho hb hg hat; rw [← Ny445.out] at ho; have n0_ := Aside0.mk (hb); have n1_ := Aside0.mk (ho); clear HB; clear HO_5; have HB := n0_; have HO447 := n1_; clear n0_ n1_; clear ho hb hg hat))
                  go_roundg k1
                  case measure => have := HK1.out; omega
                  case rel => exact ⟨(y445), (1), (wrap64 (x12_1 + 1)), (by first | rfl | (simp; done) | (simp [*]; done)), (by first | rfl | (simp; done) | (simp [*]; done)), H', ⟨by have := HK1.out; omega⟩, ⟨by (with_reducible repeat (first | apply Kd.R_alloc | apply Kd.R_drewN | apply Kd.R_drew)); exact HO447.out⟩, ⟨by repeat (first | (with_reducible first | exact HB.out | apply below_alloc | apply pw_below_drewN | apply below_drew1) | exact HB.out)⟩⟩
                · rw [if_neg c15] at H
                  exact absurd H (by simp)
              · rw [if_neg c14] at H
                have c14b0 : decide ((wrap64 ((rd l0 x12_1) - x6_1)) < 0) = false := decide_eq_false c14
                clear c14
                by_cases c17 : x5_1.length < 17592186044416
                · rw [if_pos c17] at H
                  have LMc17 := Aside0.mk c17
                  clear c17
                  obtain ⟨y448, hy448⟩ : ∃ y_ : List Int, y_ = (x5_1 ++ [wrap64 ((rd l0 x12_1) - x6_1)]) := ⟨_, rfl⟩
                  replace H : (spec_Sub.l0 k1 l1 y448 0 l0 (l0.length : Int) (wrap64 (x12_1 + 1))) = some r := by first | (rw [hy448]; with_reducible exact H) | (have H2_ := (Option.bind_some _ _).symm.trans H; rw [hy448]; with_reducible exact H2_) | (have H2_ := (Option.bind_some _ _).symm.trans H; with_reducible exact H2_) | with_reducible exact H | (rw [hy448]; exact H) | exact H
                  have Ny448 := Aside0.mk hy448
                  clear hy448
                  have H' := Aside0.mk H
                  clear H
                  have p437 : 0 ≤ (x12_1 : Int) := of_decide_eq_true (by first | (with_reducible assumption) | assumption)
                  have q437 : x12_1 < (l0.length : Int) := of_decide_eq_true (by first | (with_reducible assumption) | assumption)
                  obtain ⟨ad437, e437, hx437_0⟩ := Kd.at_int HR0.out x12_1 p437 q437
                  cases e437
                  replace hx437_0 := (HB.out.cell (World.block_lt_of_cell? w _ hx437_0)).trans hx437_0
                  replace p437 := eq_true p437
                  replace q437 := eq_true q437
                  go_wp2_with (first | ((with_reducible refine gate_builtin (b := .append) (xs := #[.tmp 34, .tmp 36]) rfl ?_); at_builtin; refine Kd.R_append (Kd.int .i64) (w0 := w) w.heap.size rfl (.tmp 34) (.tmp 36) 28 3 (.int .i64 0) 8 rfl Tryz.underlying28 info3 rfl (by decide) (by omega) u5 x5_1 (wrap64 ((rd l0 x12_1) - x6_1)) [.int .i64 (wrap64 ((rd l0 x12_1) - x6_1))] (fun k_ => (w.heap.size ≤ k_)) (fun _ => False) rfl rfl ?aP (fun _ hk => hk.elim) ?aF ?aO ?aB ?aS ?aL ?_; (case aP => exact rfl); (case aB => exact (by repeat (first | (with_reducible first | exact HB.out | apply below_alloc | apply pw_below_drewN | apply below_drew1) | exact HB.out))); (case aF => exact (fun k_ hk => (Nat.le_trans (below_size (by repeat (first | (with_reducible first | exact HB.out | apply below_alloc | apply pw_below_drewN | apply below_drew1) | exact HB.out))) hk))); (case aO => exact (by (with_reducible repeat (first | apply Kd.R_alloc | apply Kd.R_drewN | apply Kd.R_drew)); exact HO_5.out)); (case aS => exact (below_size (by repeat (first | (with_reducible first | exact HB.out | apply below_alloc | apply pw_below_drewN | apply below_drew1) | exact HB.out)))); (case aL => have := LMc17.out; omega); intro v449 w18 ho hb hg hat; rw [← Ny448.out] at ho; have n0_ := Aside0.mk (hb); have n1_ := Aside0.mk (ho); clear HB; clear HO_5; have HB := n0_; have HO450 := n1_; clear n0_ n1_; clear ho hb hg hat))
                  go_roundg k1
                  case measure => have := HK1.out; omega
                  case rel => exact ⟨(y448), (0), (wrap64 (x12_1 + 1)), (by first | rfl | (simp; done) | (simp [*]; done)), (by first | rfl | (simp; done) | (simp [*]; done)), H', ⟨by have := HK1.out; omega⟩, ⟨by (with_reducible repeat (first | apply Kd.R_alloc | apply Kd.R_drewN | apply Kd.R_drew)); exact HO450.out⟩, ⟨by repeat (first | (with_reducible first | exact HB.out | apply below_alloc | apply pw_below_drewN | apply below_drew1) | exact HB.out)⟩⟩
                · rw [if_neg c17] at H
                  exact absurd H (by simp)
          · rw [if_neg c7] at H
            exact absurd H (by simp)
        · rw [if_neg c6] at H
          exact absurd H (by simp)
      · rw [if_neg c5] at H
        have c5b0 : decide (x12_1 < (l0.length : Int)) = false := decide_eq_false c5
        clear c5
        replace H := Option.bind_eq_some_iff.mp H
        obtain ⟨t434, A190, H⟩ := H
        replace H : (some t434) = some r := H
        have A19 := Aside0.mk A190
        clear A190
        obtain rfl := Option.some.inj H
        obtain ⟨Ao20, co20, eo20⟩ := Kd.R_slice HO_5.out
        subst eo20
        go_wp2_with (first | ((with_reducible refine gate_callee (f := 39) rfl ?_); refine goesL_ (some 40) rfl rfl Tryz.func39 (by kernel_rfl) rfl #[.slice Ao20 x5_1.length co20] rfl (by (try simp only [List.map_toArray, List.map_cons, List.map_nil]); first | done | rfl | (simp only [List.length_drop, List.length_take]; rfl)) ?_; (with_reducible refine (spec_trim.calls k1 (fun k_ => some k_ = (.slice Ao20 x5_1.length co20 : Value).ownBlock) _ _ x5_1 t434 _ ?side1 A19.out).mono ?_); (case side1 => exact Kd.R_V (Kd.R_tight rfl (HO_5.out))); rintro e w21 ⟨v435, rfl, ho0, hb⟩; refine ⟨_, rfl, ?_⟩; have n0_ := Aside0.mk (Kd.R_below (by (with_reducible repeat (first | apply Kd.R_alloc | apply Kd.R_drewN | apply Kd.R_drew)); exact HO_5.out) hb); have n1_ := Aside0.mk (Kd.V_lower (Kd.V_mono (ok' := fun k_ => (w.heap.size ≤ k_)) ho0 (fun k_ hk_ => Or.elim hk_ (fun hs_ => ((HO_5.out).1 k_ hs_.symm)) (fun hn_ => (Nat.le_trans (below_size (by repeat (first | (with_reducible first | exact HB.out | apply below_alloc | apply pw_below_drewN | apply below_drew1) | exact HB.out))) hn_)))) (below_size (by repeat (first | (with_reducible first | exact HB.out | apply below_alloc | apply pw_below_drewN | apply below_drew1) | exact HB.out)))); have n2_ := Aside0.mk (below_step (by repeat (first | (with_reducible first | exact HB.out | apply below_alloc | apply pw_below_drewN | apply below_drew1) | exact HB.out)) hb); clear HO_5; clear HB; have HO_5 := n0_; have HO436 := n1_; have HB := n2_; clear n0_ n1_ n2_; (try clear hb); (try clear hb2); (try clear hk); (try clear hi); (try clear ho0)))
        go_ret
        exact ⟨_, by first | rfl | (simp [errW_none, errW_some] <;> rfl) | (simp [*, errW_none, errW_some] <;> rfl), by (with_reducible repeat (first | apply Kd.V_alloc | apply Kd.V_drewN | apply Kd.V_drew)); exact HO436.out, by repeat (first | (with_reducible first | exact HB.out | apply below_alloc | apply pw_below_drewN | apply below_drew1) | exact HB.out)⟩

end Go.Proofs.YtfnknldbjckgoaaGreatDoor.Sp
end

/-! ## SpSCmp -/
section
namespace Go.Proofs.YtfnknldbjckgoaaGreatDoor.Sp
open Go.RowKit Go.Proofs.YtfnknldbjckgoaaGreatDoorW.PrintWords Go.Proofs.YtfnknldbjckgoaaGreatDoorW.PrintLast Go.Proofs.YtfnknldbjckgoaaGreatDoorW.PrintMore
attribute [local go_sem] max2_int min2_int max_two min_two max_three min_three max_four min_four
set_option linter.unusedVariables false
set_option linter.unusedSimpArgs false

/-! ### spec_Cmp: function 65 -/
def spec_Cmp.l0 : Nat → List Int → List Int → Int → Option (Int)
  | 0, _, _, _ => none
  | k + 1, x0, x1, x5 => if x5 ≥ 0 then (if 0 ≤ x5 then (if x5 < (x0.length : Int) then (if x5 < (x1.length : Int) then (if (rd x0 x5) < (rd x1 x5) then (some (-1)) else (if (rd x0 x5) > (rd x1 x5) then (some 1) else (spec_Cmp.l0 k x0 x1 (wrap64 (x5 - 1))))) else (none)) else (none)) else (none)) else (some 0)
def spec_Cmp.f (k : Nat) (l0 : List Int) (l1 : List Int) : Option (Int) := if (l0.length : Int) < (l1.length : Int) then (some (-1)) else (if (l0.length : Int) > (l1.length : Int) then (some 1) else (spec_Cmp.l0 k l0 l1 (wrap64 ((l0.length : Int) - 1))))
theorem spec_Cmp.mono_l : ∀ k, (∀ y0 y1 y2, LeO (spec_Cmp.l0 k y0 y1 y2) (spec_Cmp.l0 (k + 1) y0 y1 y2))
  | 0 => fun _ _ _ r h => by simp [spec_Cmp.l0] at h
  | k + 1 => by
    have ih0 := spec_Cmp.mono_l k
    · intro y0 y1 y2
      unfold spec_Cmp.l0
      repeat' first
      | (with_reducible exact ih0 _ _ _)
      | (with_reducible exact LeO.refl _)
      | (with_reducible exact LeO.none _)
      | (with_reducible refine LeO.ite ?_ ?_)
      | (with_reducible refine LeO.bind ?_ (fun _ => ?_))
      | exact ih0 _ _ _
      | exact LeO.none _
      | refine LeO.ite ?_ ?_
      | refine LeO.bind ?_ (fun _ => ?_)
theorem spec_Cmp.mono : ∀ a0 a1 k, LeO (spec_Cmp.f k a0 a1) (spec_Cmp.f (k + 1) a0 a1) := by
  intro a0 a1 k
  have ih0 := spec_Cmp.mono_l k
  unfold spec_Cmp.f
  repeat' first
      | (with_reducible exact ih0 _ _ _)
      | (with_reducible exact LeO.refl _)
      | (with_reducible exact LeO.none _)
      | (with_reducible refine LeO.ite ?_ ?_)
      | (with_reducible refine LeO.bind ?_ (fun _ => ?_))
      | exact ih0 _ _ _
      | exact LeO.none _
      | refine LeO.ite ?_ ?_
      | refine LeO.bind ?_ (fun _ => ?_)
set_option maxHeartbeats 8000000 in
set_option maxRecDepth 100000 in
theorem spec_Cmp.calls (k : Nat) (A0 : Option Addr) (c0 : Nat) (l0 : List Int) (A1 : Option Addr) (c1 : Nat) (l1 : List Int) (r : Int) (w : World) (hr0 : Kd.C (Kd.int .i64) w A0 l0.length l0) (hc0 : l0.length ≤ c0) (hr1 : Kd.C (Kd.int .i64) w A1 l1.length l1) (hc1 : l1.length ≤ c1) (h : spec_Cmp.f k l0 l1 = some r) :
    Calls Tryz.prog 65 #[.slice A0 l0.length c0, .slice A1 l1.length c1] w fun e w' => e = .returned (.int .i64 r) ∧ Drawn0 w w' := by
  have HR0 := Aside0.mk hr0
  have HC0 := Aside0.mk hc0
  clear hr0 hc0
  have HR1 := Aside0.mk hr1
  have HC1 := Aside0.mk hc1
  clear hr1 hc1
  have H : (if (l0.length : Int) < (l1.length : Int) then (some (-1)) else (if (l0.length : Int) > (l1.length : Int) then (some 1) else (spec_Cmp.l0 k l0 l1 (wrap64 ((l0.length : Int) - 1))))) = some r := h
  clear h
  by_cases c3 : (l0.length : Int) < (l1.length : Int)
  · rw [if_pos c3] at H
    have c3b0 : decide ((l0.length : Int) < (l1.length : Int)) = true := decide_eq_true c3
    have c3b1 : decide (l0.length < l1.length) = true := decide_eq_true (Int.ofNat_lt.mp c3)
    clear c3
    obtain rfl := Option.some.inj H
    go_enter Tryz.func65, Tryz.ntmps65
    go_wp2
    repeat (go_quiet (fail); try go_wp2)
    go_ret
    exact ⟨by first | rfl | (simp; done) | (simp [*]; done), by repeat (first | exact Drawn0.refl _ | apply Drawn0.step)⟩
  · rw [if_neg c3] at H
    have c3b0 : decide ((l0.length : Int) < (l1.length : Int)) = false := decide_eq_false c3
    have c3b1 : decide (l0.length < l1.length) = false := decide_eq_false (fun h => c3 (Int.ofNat_lt.mpr h))
    clear c3
    by_cases c4 : (l0.length : Int) > (l1.length : Int)
    · rw [if_pos c4] at H
      have c4b0 : decide ((l1.length : Int) < (l0.length : Int)) = true := decide_eq_true c4
      have c4b1 : decide (l1.length < l0.length) = true := decide_eq_true (Int.ofNat_lt.mp c4)
      clear c4
      obtain rfl := Option.some.inj H
      go_enter Tryz.func65, Tryz.ntmps65
      go_wp2
      repeat (go_quiet (fail); try go_wp2)
      go_ret
      exact ⟨by first | rfl | (simp; done) | (simp [*]; done), by repeat (first | exact Drawn0.refl _ | apply Drawn0.step)⟩
    · rw [if_neg c4] at H
      have c4b0 : decide ((l1.length : Int) < (l0.length : Int)) = false := decide_eq_false c4
      have c4b1 : decide (l1.length < l0.length) = false := decide_eq_false (fun h => c4 (Int.ofNat_lt.mpr h))
      clear c4
      have H' := Aside0.mk H
      clear H
      go_enter Tryz.func65, Tryz.ntmps65
      go_wp2
      repeat (go_quiet (fail); try go_wp2)
      go_loopg [5] k (fun kq v5 w' => ∃ (x5_1 : Int), v5 = .int .i64 x5_1 ∧ Aside0 (spec_Cmp.l0 kq l0 l1 x5_1 = some r) ∧ Aside0 (kq ≤ k) ∧ Drawn0 w w')
      case atStart => exact ⟨(wrap64 ((l0.length : Int) - 1)), (by first | rfl | (simp; done) | (simp [*]; done)), H', ⟨Nat.le_refl _⟩, by repeat (first | exact Drawn0.refl _ | apply Drawn0.step)⟩
      case round =>
        clear H'
        try clear c1
        try clear p2
        try clear c3
        try clear c3b0
        try clear c3b1
        try clear c4
        try clear c4b0
        try clear c4b1
        obtain ⟨x5_1, rfl, HA, HK1, ⟨m1, rfl⟩⟩ := hrel
        cases gk with
        | zero => exact absurd HA.out (by simp [spec_Cmp.l0])
        | succ k1 =>
          have H := HA.out
          clear HA
          simp only [spec_Cmp.l0] at H
          by_cases c5 : x5_1 ≥ 0
          · rw [if_pos c5] at H
            have c5b0 : decide (0 ≤ x5_1) = true := decide_eq_true c5
            clear c5
            by_cases c6 : 0 ≤ x5_1
            · rw [if_pos c6] at H
              have c6b0 : decide (0 ≤ x5_1) = true := decide_eq_true c6
              clear c6
              by_cases c7 : x5_1 < (l0.length : Int)
              · rw [if_pos c7] at H
                have c7b0 : decide (x5_1 < (l0.length : Int)) = true := decide_eq_true c7
                clear c7
                by_cases c8 : x5_1 < (l1.length : Int)
                · rw [if_pos c8] at H
                  have c8b0 : decide (x5_1 < (l1.length : Int)) = true := decide_eq_true c8
                  clear c8
                  by_cases c9 : (rd l0 x5_1) < (rd l1 x5_1)
                  · rw [if_pos c9] at H
                    have c9b0 : decide ((rd l0 x5_1) < (rd l1 x5_1)) = true := decide_eq_true c9
                    clear c9
                    obtain rfl := Option.some.inj H
                    have p451 : 0 ≤ (x5_1 : Int) := of_decide_eq_true (by first | (with_reducible assumption) | assumption)
                    have q451 : x5_1 < (l0.length : Int) := of_decide_eq_true (by first | (with_reducible assumption) | assumption)
                    obtain ⟨ad451, e451, hx451_0⟩ := Kd.at_int HR0.out x5_1 p451 q451
                    cases e451
                    replace p451 := eq_true p451
                    replace q451 := eq_true q451
                    have p452 : 0 ≤ (x5_1 : Int) := of_decide_eq_true (by first | (with_reducible assumption) | assumption)
                    have q452 : x5_1 < (l1.length : Int) := of_decide_eq_true (by first | (with_reducible assumption) | assumption)
                    obtain ⟨ad452, e452, hx452_0⟩ := Kd.at_int HR1.out x5_1 p452 q452
                    cases e452
                    replace p452 := eq_true p452
                    replace q452 := eq_true q452
                    go_wp2
                    repeat (go_quiet (fail); try go_wp2)
                    go_ret
                    exact ⟨by first | rfl | (simp; done) | (simp [*]; done), by repeat (first | exact Drawn0.refl _ | apply Drawn0.step)⟩
                  · rw [if_neg c9] at H
                    have c9b0 : decide ((rd l0 x5_1) < (rd l1 x5_1)) = false := decide_eq_false c9
                    clear c9
                    by_cases c10 : (rd l0 x5_1) > (rd l1 x5_1)
                    · rw [if_pos c10] at H
                      have c10b0 : decide ((rd l1 x5_1) < (rd l0 x5_1)) = true := decide_eq_true c10
                      clear c10
                      obtain rfl := Option.some.inj H
                      have p451 : 0 ≤ (x5_1 : Int) := of_decide_eq_true (by first | (with_reducible assumption) | assumption)
                      have q451 : x5_1 < (l0.length : Int) := of_decide_eq_true (by first | (with_reducible assumption) | assumption)
                      obtain ⟨ad451, e451, hx451_0⟩ := Kd.at_int HR0.out x5_1 p451 q451
                      cases e451
                      replace p451 := eq_true p451
                      replace q451 := eq_true q451
                      have p452 : 0 ≤ (x5_1 : Int) := of_decide_eq_true (by first | (with_reducible assumption) | assumption)
                      have q452 : x5_1 < (l1.length : Int) := of_decide_eq_true (by first | (with_reducible assumption) | assumption)
                      obtain ⟨ad452, e452, hx452_0⟩ := Kd.at_int HR1.out x5_1 p452 q452
                      cases e452
                      replace p452 := eq_true p452
                      replace q452 := eq_true q452
                      have p453 : 0 ≤ (x5_1 : Int) := of_decide_eq_true (by first | (with_reducible assumption) | assumption)
                      have q453 : x5_1 < (l0.length : Int) := of_decide_eq_true (by first | (with_reducible assumption) | assumption)
                      obtain ⟨ad453, e453, hx453_0⟩ := Kd.at_int HR0.out x5_1 p453 q453
                      obtain rfl : ad451 = ad453 := (by injection e453)
                      replace p453 := eq_true p453
                      replace q453 := eq_true q453
                      have p454 : 0 ≤ (x5_1 : Int) := of_decide_eq_true (by first | (with_reducible assumption) | assumption)
                      have q454 : x5_1 < (l1.length : Int) := of_decide_eq_true (by first | (with_reducible assumption) | assumption)
                      obtain ⟨ad454, e454, hx454_0⟩ := Kd.at_int HR1.out x5_1 p454 q454
                      obtain rfl : ad452 = ad454 := (by injection e454)
                      replace p454 := eq_true p454
                      replace q454 := eq_true q454
                      go_wp2
                      repeat (go_quiet (fail); try go_wp2)
                      go_ret
                      exact ⟨by first | rfl | (simp; done) | (simp [*]; done), by repeat (first | exact Drawn0.refl _ | apply Drawn0.step)⟩
                    · rw [if_neg c10] at H
                      have c10b0 : decide ((rd l1 x5_1) < (rd l0 x5_1)) = false := decide_eq_false c10
                      clear c10
                      have H' := Aside0.mk H
                      clear H
                      have p451 : 0 ≤ (x5_1 : Int) := of_decide_eq_true (by first | (with_reducible assumption) | assumption)
                      have q451 : x5_1 < (l0.length : Int) := of_decide_eq_true (by first | (with_reducible assumption) | assumption)
                      obtain ⟨ad451, e451, hx451_0⟩ := Kd.at_int HR0.out x5_1 p451 q451
                      cases e451
                      replace p451 := eq_true p451
                      replace q451 := eq_true q451
                      have p452 : 0 ≤ (x5_1 : Int) := of_decide_eq_true (by first | (with_reducible assumption) | assumption)
                      have q452 : x5_1 < (l1.length : Int) := of_decide_eq_true (by first | (with_reducible assumption) | assumption)
                      obtain ⟨ad452, e452, hx452_0⟩ := Kd.at_int HR1.out x5_1 p452 q452
                      cases e452
                      replace p452 := eq_true p452
                      replace q452 := eq_true q452
                      have p453 : 0 ≤ (x5_1 : Int) := of_decide_eq_true (by first | (with_reducible assumption) | assumption)
                      have q453 : x5_1 < (l0.length : Int) := of_decide_eq_true (by first | (with_reducible assumption) | assumption)
                      obtain ⟨ad453, e453, hx453_0⟩ := Kd.at_int HR0.out x5_1 p453 q453
                      obtain rfl : ad451 = ad453 := (by injection e453)
                      replace p453 := eq_true p453
                      replace q453 := eq_true q453
                      have p454 : 0 ≤ (x5_1 : Int) := of_decide_eq_true (by first | (with_reducible assumption) | assumption)
                      have q454 : x5_1 < (l1.length : Int) := of_decide_eq_true (by first | (with_reducible assumption) | assumption)
                      obtain ⟨ad454, e454, hx454_0⟩ := Kd.at_int HR1.out x5_1 p454 q454
                      obtain rfl : ad452 = ad454 := (by injection e454)
                      replace p454 := eq_true p454
                      replace q454 := eq_true q454
                      go_wp2
                      repeat (go_quiet (fail); try go_wp2)
                      go_roundg k1
                      case measure => have := HK1.out; omega
                      case rel => exact ⟨(wrap64 (x5_1 - 1)), (by first | rfl | (simp; done) | (simp [*]; done)), H', ⟨by have := HK1.out; omega⟩, by repeat (first | exact Drawn0.refl _ | apply Drawn0.step)⟩
                · rw [if_neg c8] at H
                  exact absurd H (by simp)
              · rw [if_neg c7] at H
                exact absurd H (by simp)
            · rw [if_neg c6] at H
              exact absurd H (by simp)
          · rw [if_neg c5] at H
            have c5b0 : decide (0 ≤ x5_1) = false := decide_eq_false c5
            clear c5
            obtain rfl := Option.some.inj H
            go_wp2
            repeat (go_quiet (fail); try go_wp2)
            go_ret
            exact ⟨by first | rfl | (simp; done) | (simp [*]; done), by repeat (first | exact Drawn0.refl _ | apply Drawn0.step)⟩

end Go.Proofs.YtfnknldbjckgoaaGreatDoor.Sp
end

/-! ## SpSByDigit -/
section
namespace Go.Proofs.YtfnknldbjckgoaaGreatDoor.Sp
open Go.RowKit Go.Proofs.YtfnknldbjckgoaaGreatDoorW.PrintWords Go.Proofs.YtfnknldbjckgoaaGreatDoorW.PrintLast Go.Proofs.YtfnknldbjckgoaaGreatDoorW.PrintMore
attribute [local go_sem] max2_int min2_int max_two min_two max_three min_three max_four min_four
set_option linter.unusedVariables false
set_option linter.unusedSimpArgs false

/-! ### spec_byDigit: function 63 -/
def spec_byDigit.l0 : Nat → List Int → Int → List Int → Int → Int → Option (List Int × Int)
  | 0, _, _, _, _, _ => none
  | k + 1, x0, x1, x6, x7, x8 => if x8 ≥ 0 then (if 0 ≤ x8 then (if x8 < (x0.length : Int) then (if x1 = 0 then (none) else (if x8 < (x6.length : Int) then (spec_byDigit.l0 k x0 x1 (x6.set (x8 : Int).toNat (wrap64 (Int.tdiv (wrap64 ((wrap64 (x7 * 65536)) + (rd x0 x8))) x1))) (Int.tmod (wrap64 ((wrap64 (x7 * 65536)) + (rd x0 x8))) x1) (wrap64 (x8 - 1))) else (none))) else (none)) else (none)) else ((spec_trim.f k x6).bind fun t341 => (some (t341, x7)))
def spec_byDigit.f (k : Nat) (l0 : List Int) (a1 : Int) : Option (List Int × Int) := if 0 ≤ (l0.length : Int) then (if ((l0.length : Int) : Int).toNat ≤ 35184372088832 then (spec_byDigit.l0 k l0 a1 (List.replicate ((l0.length : Int) : Int).toNat 0) 0 (wrap64 ((l0.length : Int) - 1))) else (none)) else (none)
theorem spec_byDigit.mono_l : ∀ k, (∀ y0 y1 y2 y3 y4, LeO (spec_byDigit.l0 k y0 y1 y2 y3 y4) (spec_byDigit.l0 (k + 1) y0 y1 y2 y3 y4))
  | 0 => fun _ _ _ _ _ r h => by simp [spec_byDigit.l0] at h
  | k + 1 => by
    have ih0 := spec_byDigit.mono_l k
    · intro y0 y1 y2 y3 y4
      unfold spec_byDigit.l0
      repeat' first
      | (with_reducible exact ih0 _ _ _ _ _)
      | (with_reducible exact spec_trim.mono _ _)
      | (with_reducible exact LeO.refl _)
      | (with_reducible exact LeO.none _)
      | (with_reducible refine LeO.ite ?_ ?_)
      | (with_reducible refine LeO.bind ?_ (fun _ => ?_))
      | exact ih0 _ _ _ _ _
      | exact spec_trim.mono _ _
      | exact LeO.none _
      | refine LeO.ite ?_ ?_
      | refine LeO.bind ?_ (fun _ => ?_)
theorem spec_byDigit.mono : ∀ a0 a1 k, LeO (spec_byDigit.f k a0 a1) (spec_byDigit.f (k + 1) a0 a1) := by
  intro a0 a1 k
  have ih0 := spec_byDigit.mono_l k
  unfold spec_byDigit.f
  repeat' first
      | (with_reducible exact ih0 _ _ _ _ _)
      | (with_reducible exact spec_trim.mono _ _)
      | (with_reducible exact LeO.refl _)
      | (with_reducible exact LeO.none _)
      | (with_reducible refine LeO.ite ?_ ?_)
      | (with_reducible refine LeO.bind ?_ (fun _ => ?_))
      | exact ih0 _ _ _ _ _
      | exact spec_trim.mono _ _
      | exact LeO.none _
      | refine LeO.ite ?_ ?_
      | refine LeO.bind ?_ (fun _ => ?_)
set_option maxHeartbeats 8000000 in
set_option maxRecDepth 100000 in
theorem spec_byDigit.calls (k : Nat) (A0 : Option Addr) (c0 : Nat) (l0 : List Int) (a1 : Int) (r1 : List Int) (r2 : Int) (w : World) (hr0 : Kd.C (Kd.int .i64) w A0 l0.length l0) (hc0 : l0.length ≤ c0) (h : spec_byDigit.f k l0 a1 = some (r1, r2)) :
    Calls Tryz.prog 63 #[.slice A0 l0.length c0, .int .i64 a1] w fun e w' => ∃ v0_ : Value, e = .returned (.tuple #[v0_, .int .i64 r2]) ∧ Kd.V (Kd.int .i64) 3 w' w.heap.size (fun k_ => (w.heap.size ≤ k_)) v0_ r1 ∧ Below w.heap.size w w' := by
  have HR0 := Aside0.mk hr0
  have HC0 := Aside0.mk hc0
  clear hr0 hc0
  have HB := Aside0.mk (Below.refl w.heap.size w)
  have H : (if 0 ≤ (l0.length : Int) then (if ((l0.length : Int) : Int).toNat ≤ 35184372088832 then (spec_byDigit.l0 k l0 a1 (List.replicate ((l0.length : Int) : Int).toNat 0) 0 (wrap64 ((l0.length : Int) - 1))) else (none)) else (none)) = some (r1, r2) := h
  clear h
  by_cases c3 : 0 ≤ (l0.length : Int)
  · rw [if_pos c3] at H
    have c3b0 := eq_true c3
    have c3b1 : decide (0 ≤ (l0.length : Int)) = true := decide_eq_true c3
    clear c3
    by_cases c4 : ((l0.length : Int) : Int).toNat ≤ 35184372088832
    · rw [if_pos c4] at H
      have c4b0 := eq_true c4
      have c4b1 : decide (((l0.length : Int) : Int).toNat ≤ 35184372088832) = true := decide_eq_true c4
      clear c4
      obtain ⟨y336, hy336⟩ : ∃ y_ : List Int, y_ = (List.replicate ((l0.length : Int) : Int).toNat 0) := ⟨_, rfl⟩
      replace H : (spec_byDigit.l0 k l0 a1 y336 0 (wrap64 ((l0.length : Int) - 1))) = some (r1, r2) := by first | (rw [hy336]; with_reducible exact H) | (have H2_ := (Option.bind_some _ _).symm.trans H; rw [hy336]; with_reducible exact H2_) | (have H2_ := (Option.bind_some _ _).symm.trans H; with_reducible exact H2_) | with_reducible exact H | (rw [hy336]; exact H) | exact H
      have Ny336 := Aside0.mk hy336
      clear hy336
      have H' := Aside0.mk H
      clear H
      go_enter Tryz.func63, Tryz.ntmps63
      go_wp2_with (first | ((with_reducible refine gate_dst (N := 11) rfl ?_); refine Kd.R_make (Kd.int .i64) _ 3 rfl (N := 11) rfl 28 _ _ rfl (l0.length : Int) rfl rfl Tryz.underlying28 (.int .i64 0) 8 info3 rfl (by decide) (by omega) 0 (ok := fun _ => True) (okp := fun _ => True) rfl (fun _ hk => hk) trivial (of_decide_eq_true (by first | (with_reducible assumption) | assumption)) (Nat.le_trans (Nat.mul_le_mul_right _ (of_decide_eq_true (by first | (with_reducible assumption) | assumption) : (l0.length : Int).toNat ≤ 35184372088832)) (by omega)) (Below.refl _ _) (Nat.le_refl _) ?_; intro v337 w5 ho6 hb hg_ hnew_; clear hg_ hnew_; (first | rw [← Ny336.out] at ho6 | (simp only [Int.reduceToNat] at ho6; rw [← Ny336.out] at ho6)); have n0_ := Aside0.mk (Kd.R_lower (Kd.R_newM (M := fun k_ => (w.heap.size ≤ k_)) ho6 (below_size (by repeat (first | (with_reducible first | exact HB.out | apply below_alloc | apply pw_below_drewN | apply below_drew1) | exact HB.out))) (fun k_ h_ => h_)) (below_size (by repeat (first | (with_reducible first | exact HB.out | apply below_alloc | apply pw_below_drewN | apply below_drew1) | exact HB.out)))); have n1_ := Aside0.mk (below_step (by repeat (first | (with_reducible first | exact HB.out | apply below_alloc | apply pw_below_drewN | apply below_drew1) | exact HB.out)) hb); clear HB; have HO338 := n0_; have HB := n1_; clear n0_ n1_; clear hb ho6))
      go_loopg [7, 8] k (fun kq v7 v8 w' => ∃ (x6_1 : List Int) (x7_1 : Int) (x8_1 : Int), v7 = .int .i64 x7_1 ∧ v8 = .int .i64 x8_1 ∧ Aside0 (spec_byDigit.l0 kq l0 a1 x6_1 x7_1 x8_1 = some (r1, r2)) ∧ Aside0 (kq ≤ k) ∧ Aside0 (Kd.R (Kd.int .i64) 3 w' w.heap.size (fun k_ => (w.heap.size ≤ k_)) v337 x6_1) ∧ Aside0 (Below w.heap.size w w'))
      case atStart => exact ⟨(y336), (0), (wrap64 ((l0.length : Int) - 1)), (by first | rfl | (simp; done) | (simp [*]; done)), (by first | rfl | (simp; done) | (simp [*]; done)), H', ⟨Nat.le_refl _⟩, ⟨by (with_reducible repeat (first | apply Kd.R_alloc | apply Kd.R_drewN | apply Kd.R_drew)); exact Kd.R_mono HO338.out (fun _ hk => hk.1)⟩, ⟨by repeat (first | (with_reducible first | exact HB.out | apply below_alloc | apply pw_below_drewN | apply below_drew1) | exact HB.out)⟩⟩
      case round =>
        clear H'
        try clear p2
        try clear c3
        try clear c3b0
        try clear c3b1
        try clear c4
        try clear c4b0
        try clear c4b1
        try clear c6
        try clear p6
        obtain ⟨x6_1, x7_1, x8_1, rfl, rfl, HA, HK1, HO_6, HB⟩ := hrel
        cases gk with
        | zero => exact absurd HA.out (by simp [spec_byDigit.l0])
        | succ k1 =>
          have H := HA.out
          clear HA
          simp only [spec_byDigit.l0] at H
          by_cases c7 : x8_1 ≥ 0
          · rw [if_pos c7] at H
            have c7b0 : decide (0 ≤ x8_1) = true := decide_eq_true c7
            clear c7
            by_cases c8 : 0 ≤ x8_1
            · rw [if_pos c8] at H
              have c8b0 : decide (0 ≤ x8_1) = true := decide_eq_true c8
              clear c8
              by_cases c9 : x8_1 < (l0.length : Int)
              · rw [if_pos c9] at H
                have c9b0 : decide (x8_1 < (l0.length : Int)) = true := decide_eq_true c9
                clear c9
                by_cases c10 : a1 = 0
                · rw [if_pos c10] at H
                  exact absurd H (by simp)
                · rw [if_neg c10] at H
                  have c10b0 : (a1 == 0) = false := beq_eq_false_iff_ne.mpr c10
                  have c10b1 : (a1 != 0) = true := bne_iff_ne.mpr c10
                  by_cases c11 : x8_1 < (x6_1.length : Int)
                  · rw [if_pos c11] at H
                    have c11b0 : decide (x8_1 < (x6_1.length : Int)) = true := decide_eq_true c11
                    clear c11
                    obtain ⟨y340, hy340⟩ : ∃ y_ : List Int, y_ = (x6_1.set (x8_1 : Int).toNat (wrap64 (Int.tdiv (wrap64 ((wrap64 (x7_1 * 65536)) + (rd l0 x8_1))) a1))) := ⟨_, rfl⟩
                    replace H : (spec_byDigit.l0 k1 l0 a1 y340 (Int.tmod (wrap64 ((wrap64 (x7_1 * 65536)) + (rd l0 x8_1))) a1) (wrap64 (x8_1 - 1))) = some (r1, r2) := by first | (rw [hy340]; with_reducible exact H) | (have H2_ := (Option.bind_some _ _).symm.trans H; rw [hy340]; with_reducible exact H2_) | (have H2_ := (Option.bind_some _ _).symm.trans H; with_reducible exact H2_) | with_reducible exact H | (rw [hy340]; exact H) | exact H
                    have Ny340 := Aside0.mk hy340
                    clear hy340
                    have H' := Aside0.mk H
                    clear H
                    have p339 : 0 ≤ (x8_1 : Int) := of_decide_eq_true (by first | (with_reducible assumption) | assumption)
                    have q339 : x8_1 < (l0.length : Int) := of_decide_eq_true (by first | (with_reducible assumption) | assumption)
                    obtain ⟨ad339, e339, hx339_0⟩ := Kd.at_int HR0.out x8_1 p339 q339
                    cases e339
                    replace hx339_0 := (HB.out.cell (World.block_lt_of_cell? w _ hx339_0)).trans hx339_0
                    replace p339 := eq_true p339
                    replace q339 := eq_true q339
                    have p12 : 0 ≤ (x8_1 : Int) := of_decide_eq_true (by first | (with_reducible assumption) | assumption)
                    have q12 : (x8_1 : Int) < ((x6_1.length : Int) : Int) := of_decide_eq_true (by first | (with_reducible assumption) | assumption)
                    obtain ⟨go12, co12, eo12, gb12, gl12, cl12, HG12⟩ := Kd.R_form HO_6.out (by omega)
                    (first | cases eo12 | (injection eo12 with ea_ en_ ec_; (first | subst ea_ | (injection ea_ with ea_; subst ea_)); subst ec_; clear en_))
                    have GB12 := Aside0.mk gb12
                    have GG12 := Aside0.mk HG12
                    clear gb12 gl12 HG12
                    obtain ⟨hx12_0, hf12_0⟩ := Kd.R_celln 0 HO_6.out (x8_1 : Int) p12 q12
                    replace p12 := eq_true p12
                    replace q12 := eq_true q12
                    have HP13 := Kd.R_putg HO_6.out (x8_1 : Int) (wrap64 (Int.tdiv (wrap64 ((wrap64 (x7_1 * 65536)) + (rd l0 x8_1))) a1))
                    go_wp2_with (first | ((with_reducible refine gate_store (t := 3) (p := 31) rfl ?_); refine store_event (t := 3) (p := 31) (v := ?vo_w14) (w1 := (wr.setCell ⟨go12, (x8_1 : Int).toNat, none⟩ (.int .i64 (wrap64 (Int.tdiv (wrap64 ((wrap64 (x7_1 * 65536)) + (rd l0 x8_1))) a1))))) ?hg ?ho ?hn ?hr ?_; (case ho => rfl); (case hg => rfl); (case hn => rfl); (case hr => first | (go_simp; done) | (go_simp; rfl)); intro w14 hw; have hg : wr.grownBy w14 (some go12) := (by rw [hw]; exact HP13.2); have hp_ : Kd.R (Kd.int .i64) 3 w14 w.heap.size (fun k_ => (w.heap.size ≤ k_)) (.slice (some ⟨go12, 0, none⟩) x6_1.length co12) y340 := (by rw [hw, Ny340.out]; exact HP13.1); clear HP13; have n0_ := Aside0.mk (hp_); have n1_ := Aside0.mk ((by rw [hw]; exact below_set (HB.out) GB12.out : Below w.heap.size w w14)); clear HO_6; clear HB; have HO_6 := n0_; have HB := n1_; clear n0_ n1_; clear hg hw hp_))
                    go_roundg k1
                    case measure => have := HK1.out; omega
                    case rel => exact ⟨(y340), (Int.tmod (wrap64 ((wrap64 (x7_1 * 65536)) + (rd l0 x8_1))) a1), (wrap64 (x8_1 - 1)), (by first | rfl | (simp; done) | (simp [*]; done)), (by first | rfl | (simp; done) | (simp [*]; done)), H', ⟨by have := HK1.out; omega⟩, ⟨by (with_reducible repeat (first | apply Kd.R_alloc | apply Kd.R_drewN | apply Kd.R_drew)); exact HO_6.out⟩, ⟨by repeat (first | (with_reducible first | exact HB.out | apply below_alloc | apply pw_below_drewN | apply below_drew1) | exact HB.out)⟩⟩
                  · rw [if_neg c11] at H
                    exact absurd H (by simp)
              · rw [if_neg c9] at H
                exact absurd H (by simp)
            · rw [if_neg c8] at H
              exact absurd H (by simp)
          · rw [if_neg c7] at H
            have c7b0 : decide (0 ≤ x8_1) = false := decide_eq_false c7
            clear c7
            replace H := Option.bind_eq_some_iff.mp H
            obtain ⟨t341, A150, H⟩ := H
            replace H : (some (t341, x7_1)) = some (r1, r2) := H
            have A15 := Aside0.mk A150
            clear A150
            simp only [Option.some.injEq, Prod.mk.injEq] at H
            obtain ⟨rfl, rfl⟩ := H
            obtain ⟨Ao16, co16, eo16⟩ := Kd.R_slice HO_6.out
            subst eo16
            go_wp2_with (first | ((with_reducible refine gate_callee (f := 39) rfl ?_); refine goesL_ (some 36) rfl rfl Tryz.func39 (by kernel_rfl) rfl #[.slice Ao16 x6_1.length co16] rfl (by (try simp only [List.map_toArray, List.map_cons, List.map_nil]); first | done | rfl | (simp only [List.length_drop, List.length_take]; rfl)) ?_; (with_reducible refine (spec_trim.calls k1 (fun k_ => some k_ = (.slice Ao16 x6_1.length co16 : Value).ownBlock) _ _ x6_1 t341 _ ?side1 A15.out).mono ?_); (case side1 => exact Kd.R_V (Kd.R_tight rfl (HO_6.out))); rintro e w17 ⟨v342, rfl, ho0, hb⟩; refine ⟨_, rfl, ?_⟩; have n0_ := Aside0.mk (Kd.R_below (by (with_reducible repeat (first | apply Kd.R_alloc | apply Kd.R_drewN | apply Kd.R_drew)); exact HO_6.out) hb); have n1_ := Aside0.mk (Kd.V_lower (Kd.V_mono (ok' := fun k_ => (w.heap.size ≤ k_)) ho0 (fun k_ hk_ => Or.elim hk_ (fun hs_ => ((HO_6.out).1 k_ hs_.symm)) (fun hn_ => (Nat.le_trans (below_size (by repeat (first | (with_reducible first | exact HB.out | apply below_alloc | apply pw_below_drewN | apply below_drew1) | exact HB.out))) hn_)))) (below_size (by repeat (first | (with_reducible first | exact HB.out | apply below_alloc | apply pw_below_drewN | apply below_drew1) | exact HB.out)))); have n2_ := Aside0.mk (below_step (by repeat (first | (with_reducible first | exact HB.out | apply below_alloc | apply pw_below_drewN | apply below_drew1) | exact HB.out)) hb); clear HO_6; clear HB; have HO_6 := n0_; have HO343 := n1_; have HB := n2_; clear n0_ n1_ n2_; (try clear hb); (try clear hb2); (try clear hk); (try clear hi); (try clear ho0)))
            go_ret2
            exact ⟨_, by first | rfl | (simp [errW_none, errW_some] <;> rfl) | (simp [*, errW_none, errW_some] <;> rfl), by (with_reducible repeat (first | apply Kd.V_alloc | apply Kd.V_drewN | apply Kd.V_drew)); exact HO343.out, by repeat (first | (with_reducible first | exact HB.out | apply below_alloc | apply pw_below_drewN | apply below_drew1) | exact HB.out)⟩
    · rw [if_neg c4] at H
      exact absurd H (by simp)
  · rw [if_neg c3] at H
    exact absurd H (by simp)

end Go.Proofs.YtfnknldbjckgoaaGreatDoor.Sp
end

/-! ## SpSDigits -/
section
namespace Go.Proofs.YtfnknldbjckgoaaGreatDoor.Sp
open Go.RowKit Go.Proofs.YtfnknldbjckgoaaGreatDoorW.PrintWords Go.Proofs.YtfnknldbjckgoaaGreatDoorW.PrintLast Go.Proofs.YtfnknldbjckgoaaGreatDoorW.PrintMore
attribute [local go_sem] max2_int min2_int max_two min_two max_three min_three max_four min_four
set_option linter.unusedVariables false
set_option linter.unusedSimpArgs false

/-! ### spec_Digits: function 43 -/
def spec_Digits.l0 : Nat → List Int → ByteArray → Option (ByteArray)
  | 0, _, _ => none
  | k + 1, x0, x3 => if (x0.length : Int) > 0 then ((spec_byDigit.f k x0 10).bind fun bt344 => ((some (([(wrap64 (48 + bt344.2)) % 256] : List Int) : List Int)).bind fun y348 => (if (strOfNums y348).size + x3.size ≤ 9223372036854775807 then (spec_Digits.l0 k bt344.1 ((strOfNums y348) ++ x3)) else (none)))) else (some x3)
def spec_Digits.f (k : Nat) (l0 : List Int) : Option (ByteArray) := if (l0.length : Int) = 0 then (some (⟨#[48]⟩ : ByteArray)) else (spec_Digits.l0 k l0 (⟨#[]⟩ : ByteArray))
theorem spec_Digits.mono_l : ∀ k, (∀ y0 y1, LeO (spec_Digits.l0 k y0 y1) (spec_Digits.l0 (k + 1) y0 y1))
  | 0 => fun _ _ r h => by simp [spec_Digits.l0] at h
  | k + 1 => by
    have ih0 := spec_Digits.mono_l k
    · intro y0 y1
      unfold spec_Digits.l0
      repeat' first
      | (with_reducible exact ih0 _ _)
      | (with_reducible exact spec_byDigit.mono _ _ _)
      | (with_reducible exact LeO.refl _)
      | (with_reducible exact LeO.none _)
      | (with_reducible refine LeO.ite ?_ ?_)
      | (with_reducible refine LeO.bind ?_ (fun _ => ?_))
      | exact ih0 _ _
      | exact spec_byDigit.mono _ _ _
      | exact LeO.none _
      | refine LeO.ite ?_ ?_
      | refine LeO.bind ?_ (fun _ => ?_)
theorem spec_Digits.mono : ∀ a0 k, LeO (spec_Digits.f k a0) (spec_Digits.f (k + 1) a0) := by
  intro a0 k
  have ih0 := spec_Digits.mono_l k
  unfold spec_Digits.f
  repeat' first
      | (with_reducible exact ih0 _ _)
      | (with_reducible exact spec_byDigit.mono _ _ _)
      | (with_reducible exact LeO.refl _)
      | (with_reducible exact LeO.none _)
      | (with_reducible refine LeO.ite ?_ ?_)
      | (with_reducible refine LeO.bind ?_ (fun _ => ?_))
      | exact ih0 _ _
      | exact spec_byDigit.mono _ _ _
      | exact LeO.none _
      | refine LeO.ite ?_ ?_
      | refine LeO.bind ?_ (fun _ => ?_)
set_option maxHeartbeats 8000000 in
set_option maxRecDepth 100000 in
theorem spec_Digits.calls (k : Nat) (P0_ : Nat → Prop) (A0 : Option Addr) (c0 : Nat) (l0 : List Int) (r : ByteArray) (w : World) (hs0 : Kd.V (Kd.int .i64) 3 w w.heap.size (fun k_ => P0_ k_) (.slice A0 l0.length c0) l0) (h : spec_Digits.f k l0 = some r) :
    Calls Tryz.prog 43 #[.slice A0 l0.length c0] w fun e w' => e = .returned (.string r) ∧ Below w.heap.size w w' := by
  have HO0 := Aside0.mk (show Kd.V (Kd.int .i64) 3 w w.heap.size (fun k_ => (P0_ k_ ∨ w.heap.size ≤ k_)) (.slice A0 l0.length c0) l0 from Kd.V_mono hs0 (fun k_ hk => .inl hk))
  have HB := Aside0.mk (Below.refl w.heap.size w)
  have H : (if (l0.length : Int) = 0 then (some (⟨#[48]⟩ : ByteArray)) else (spec_Digits.l0 k l0 (⟨#[]⟩ : ByteArray))) = some r := h
  clear h
  by_cases c2 : (l0.length : Int) = 0
  · rw [if_pos c2] at H
    have c2b0 : ((l0.length : Int) == 0) = true := beq_iff_eq.mpr c2
    have c2b1 : ((l0.length : Int) != 0) = false := bne_eq_false_iff_eq.mpr c2
    clear c2
    obtain rfl := Option.some.inj H
    go_enter Tryz.func43, Tryz.ntmps43
    go_wp2
    go_ret
    exact ⟨by first | rfl | (simp [errW_none, errW_some] <;> rfl) | (simp [*, errW_none, errW_some] <;> rfl), by repeat (first | (with_reducible first | exact HB.out | apply below_alloc | apply pw_below_drewN | apply below_drew1) | exact HB.out)⟩
  · rw [if_neg c2] at H
    have c2b0 : ((l0.length : Int) == 0) = false := beq_eq_false_iff_ne.mpr c2
    have c2b1 : ((l0.length : Int) != 0) = true := bne_iff_ne.mpr c2
    have c2b2 : ¬ (l0 = []) := fun h_ => c2 (by rw [h_]; rfl)
    have H' := Aside0.mk H
    clear H
    go_enter Tryz.func43, Tryz.ntmps43
    go_wp2
    go_loopg [0, 3] k (fun kq v0 v3 w' => ∃ (x0_1 : List Int) (x3_1 : ByteArray), v3 = .string x3_1 ∧ Aside0 (spec_Digits.l0 kq x0_1 x3_1 = some r) ∧ Aside0 (kq ≤ k) ∧ Aside0 (Kd.V (Kd.int .i64) 3 w' w.heap.size (fun k_ => (P0_ k_ ∨ w.heap.size ≤ k_)) v0 x0_1) ∧ Aside0 (Below w.heap.size w w'))
    case atStart => exact ⟨(l0), ((⟨#[]⟩ : ByteArray)), (by first | rfl | (simp; done) | (simp [*]; done)), H', ⟨Nat.le_refl _⟩, ⟨by (with_reducible repeat (first | apply Kd.V_alloc | apply Kd.V_drewN | apply Kd.V_drew)); exact HO0.out⟩, ⟨by repeat (first | (with_reducible first | exact HB.out | apply below_alloc | apply pw_below_drewN | apply below_drew1) | exact HB.out)⟩⟩
    case round =>
      clear H'
      try clear c2
      try clear c2b0
      try clear c2b1
      try clear c2b2
      try clear p2
      obtain ⟨x0_1, x3_1, rfl, HA, HK1, HO_0, HB⟩ := hrel
      cases gk with
      | zero => exact absurd HA.out (by simp [spec_Digits.l0])
      | succ k1 =>
        have H := HA.out
        clear HA
        simp only [spec_Digits.l0] at H
        by_cases c3 : (x0_1.length : Int) > 0
        · rw [if_pos c3] at H
          have c3b0 : decide (0 < (x0_1.length : Int)) = true := decide_eq_true c3
          have c3b1 : decide (0 < x0_1.length) = true := decide_eq_true (by omega)
          clear c3
          replace H := Option.bind_eq_some_iff.mp H
          obtain ⟨⟨t344, t347⟩, A40, H⟩ := H
          replace H : ((some (([(wrap64 (48 + t347)) % 256] : List Int) : List Int)).bind fun y348 => (if (strOfNums y348).size + x3_1.size ≤ 9223372036854775807 then (spec_Digits.l0 k1 t344 ((strOfNums y348) ++ x3_1)) else (none))) = some r := H
          have A4 := Aside0.mk A40
          clear A40
          obtain ⟨y348, hy348⟩ : ∃ y_ : List Int, y_ = (([(wrap64 (48 + t347)) % 256] : List Int)) := ⟨_, rfl⟩
          replace H : (if (strOfNums y348).size + x3_1.size ≤ 9223372036854775807 then (spec_Digits.l0 k1 t344 ((strOfNums y348) ++ x3_1)) else (none)) = some r := by first | (rw [hy348]; with_reducible exact H) | (have H2_ := (Option.bind_some _ _).symm.trans H; rw [hy348]; with_reducible exact H2_) | (have H2_ := (Option.bind_some _ _).symm.trans H; with_reducible exact H2_) | with_reducible exact H | (rw [hy348]; exact H) | exact H
          have Ny348 := Aside0.mk hy348
          clear hy348
          by_cases c5 : (strOfNums y348).size + x3_1.size ≤ 9223372036854775807
          · rw [if_pos c5] at H
            have c5b0 := eq_true c5
            have c5b1 : decide ((strOfNums y348).size + x3_1.size ≤ 9223372036854775807) = true := decide_eq_true c5
            try have c5b2 : (9223372036854775807 < (strOfNums y348).size + x3_1.size) = False := eq_false (Nat.not_lt.2 c5)
            have H' := Aside0.mk H
            clear H
            obtain ⟨Ao6, co6, eo6⟩ := Kd.V_slice HO_0.out
            subst eo6
            go_wp2_with (first | ((with_reducible refine gate_callee (f := 63) rfl ?_); refine goesL_ (some 14) rfl rfl Tryz.func63 (by kernel_rfl) rfl #[.slice Ao6 x0_1.length co6, .int .i64 10] rfl (by (try simp only [List.map_toArray, List.map_cons, List.map_nil]); first | done | rfl | (simp only [List.length_drop, List.length_take]; rfl)) ?_; (with_reducible refine (spec_byDigit.calls k1 _ _ x0_1 10 t344 t347 _ ?side1 ?side2 A4.out).mono ?_); (case side1 => repeat (first | exact (Kd.V_reads' HO_0.out).2.2 | (with_reducible refine Kd.C_alloc ?_ _) | (with_reducible refine Kd.C_drewN ?_ _) | (with_reducible refine Kd.C_drew ?_))); (case side2 => exact (Kd.V_reads' HO_0.out).2.1); rintro e w7 ⟨v345, rfl, ho0, hb⟩; refine ⟨_, rfl, ?_⟩; have n0_ := Aside0.mk (Kd.V_below (by (with_reducible repeat (first | apply Kd.V_alloc | apply Kd.V_drewN | apply Kd.V_drew)); exact HO_0.out) hb); have n1_ := Aside0.mk (Kd.V_lower (Kd.V_mono (ok' := fun k_ => (P0_ k_ ∨ w.heap.size ≤ k_)) ho0 (fun k_ hk_ => (.inr (Nat.le_trans (below_size (by repeat (first | (with_reducible first | exact HB.out | apply below_alloc | apply pw_below_drewN | apply below_drew1) | exact HB.out))) hk_)))) (below_size (by repeat (first | (with_reducible first | exact HB.out | apply below_alloc | apply pw_below_drewN | apply below_drew1) | exact HB.out)))); have n2_ := Aside0.mk (below_step (by repeat (first | (with_reducible first | exact HB.out | apply below_alloc | apply pw_below_drewN | apply below_drew1) | exact HB.out)) hb); clear HO_0; clear HB; have HO_0 := n0_; have HO346 := n1_; have HB := n2_; clear n0_ n1_ n2_; (try clear hb); (try clear hb2); (try clear hk); (try clear hi); (try clear ho0)) | ((with_reducible refine gate_dst (N := 20) rfl ?_); refine Kd.R_lit (Kd.int .u8) _ 5 ?hg (N := 20) ?hd (xs := ([(wrap64 (48 + t347)) % 256] : List Int)) (inner := [.int .u8 ((wrap64 (48 + t347)) % 256)]) (ok := fun _ => True) (okp := fun _ => True) ?hr ?hp (fun _ hk => hk) trivial (Below.refl _ _) (Nat.le_refl _) (by simp) ?_; (case hd => rfl); (case hg => rfl); (case hr => first | (go_simp; done) | (go_simp; rfl)); (case hp => exact (Reps.one (show Kd.M (Kd.int .u8) _ _ _ ((wrap64 (48 + t347)) % 256) [.int .u8 ((wrap64 (48 + t347)) % 256)] from rfl) (Reps.none _ _))); intro v349 w8 ho9 hb hg_ hnew_; clear hg_ hnew_; (first | rw [← Ny348.out] at ho9 | (simp only [Int.reduceToNat] at ho9; rw [← Ny348.out] at ho9)); have n0_ := Aside0.mk (Kd.V_elder' (by (with_reducible repeat (first | apply Kd.V_alloc | apply Kd.V_drewN | apply Kd.V_drew)); exact HO_0.out) (Kd.R_base ho9) hb); have n1_ := Aside0.mk (Kd.V_elder' (by (with_reducible repeat (first | apply Kd.V_alloc | apply Kd.V_drewN | apply Kd.V_drew)); exact HO346.out) (Kd.R_base ho9) hb); have n2_ := Aside0.mk (Kd.R_lower (Kd.R_newM (M := fun k_ => (w.heap.size ≤ k_)) ho9 (below_size (by repeat (first | (with_reducible first | exact HB.out | apply below_alloc | apply pw_below_drewN | apply below_drew1) | exact HB.out))) (fun k_ h_ => h_)) (below_size (by repeat (first | (with_reducible first | exact HB.out | apply below_alloc | apply pw_below_drewN | apply below_drew1) | exact HB.out)))); have n3_ := Aside0.mk (below_step (by repeat (first | (with_reducible first | exact HB.out | apply below_alloc | apply pw_below_drewN | apply below_drew1) | exact HB.out)) hb); clear HO_0; clear HO346; clear HB; have HO_0 := n0_; have HO346 := n1_; have HO350 := n2_; have HB := n3_; clear n0_ n1_ n2_ n3_; clear hb ho9; have hcv10 := own_string (P := Tryz.prog) Tryz.underlying43 Tryz.underlying5 Tryz.underlying9 (Kd.own_of_R HO350.out)))
            go_roundg k1
            case measure => have := HK1.out; omega
            case rel => exact ⟨(t344), ((strOfNums y348) ++ x3_1), (by first | rfl | (simp; done) | (simp [*]; done)), H', ⟨by have := HK1.out; omega⟩, ⟨by (with_reducible repeat (first | apply Kd.V_alloc | apply Kd.V_drewN | apply Kd.V_drew)); exact Kd.V_mono HO346.out (fun _ hk => hk.1)⟩, ⟨by repeat (first | (with_reducible first | exact HB.out | apply below_alloc | apply pw_below_drewN | apply below_drew1) | exact HB.out)⟩⟩
          · rw [if_neg c5] at H
            exact absurd H (by simp)
        · rw [if_neg c3] at H
          have c3b0 : decide (0 < (x0_1.length : Int)) = false := decide_eq_false c3
          have c3b1 : decide (0 < x0_1.length) = false := decide_eq_false (by omega)
          clear c3
          obtain rfl := Option.some.inj H
          obtain ⟨Ao11, co11, eo11⟩ := Kd.V_slice HO_0.out
          subst eo11
          go_wp2
          go_ret
          exact ⟨by first | rfl | (simp [errW_none, errW_some] <;> rfl) | (simp [*, errW_none, errW_some] <;> rfl), by repeat (first | (with_reducible first | exact HB.out | apply below_alloc | apply pw_below_drewN | apply below_drew1) | exact HB.out)⟩

end Go.Proofs.YtfnknldbjckgoaaGreatDoor.Sp
end

/-! ## SpSIn -/
section
namespace Go.Proofs.YtfnknldbjckgoaaGreatDoor.Sp
open Go.RowKit Go.Proofs.YtfnknldbjckgoaaGreatDoorW.PrintWords Go.Proofs.YtfnknldbjckgoaaGreatDoorW.PrintLast Go.Proofs.YtfnknldbjckgoaaGreatDoorW.PrintMore
attribute [local go_sem] max2_int min2_int max_two min_two max_three min_three max_four min_four
set_option linter.unusedVariables false
set_option linter.unusedSimpArgs false

/-! ### spec_In: function 42 -/
def spec_In.l0 : Nat → List Int → Int → ByteArray → Option (ByteArray)
  | 0, _, _, _ => none
  | k + 1, x0, x1, x5 => if (x0.length : Int) > 0 then ((spec_byDigit.f k x0 x1).bind fun bt378 => (if 0 ≤ bt378.2 then (if bt378.2 ≤ (wrap64 (bt378.2 + 1)) then (if (wrap64 (bt378.2 + 1)) ≤ 16 then (if ((⟨#[48, 49, 50, 51, 52, 53, 54, 55, 56, 57, 97, 98, 99, 100, 101, 102]⟩ : ByteArray).extract (bt378.2 : Int).toNat ((wrap64 (bt378.2 + 1)) : Int).toNat).size + x5.size ≤ 9223372036854775807 then (spec_In.l0 k bt378.1 x1 (((⟨#[48, 49, 50, 51, 52, 53, 54, 55, 56, 57, 97, 98, 99, 100, 101, 102]⟩ : ByteArray).extract (bt378.2 : Int).toNat ((wrap64 (bt378.2 + 1)) : Int).toNat) ++ x5)) else (none)) else (none)) else (none)) else (none))) else (if x5.toList = ([] : List UInt8) then (some (⟨#[48]⟩ : ByteArray)) else (some x5))
def spec_In.f (k : Nat) (l0 : List Int) (a1 : Int) : Option (ByteArray) := spec_In.l0 k l0 a1 (⟨#[]⟩ : ByteArray)
theorem spec_In.mono_l : ∀ k, (∀ y0 y1 y2, LeO (spec_In.l0 k y0 y1 y2) (spec_In.l0 (k + 1) y0 y1 y2))
  | 0 => fun _ _ _ r h => by simp [spec_In.l0] at h
  | k + 1 => by
    have ih0 := spec_In.mono_l k
    · intro y0 y1 y2
      unfold spec_In.l0
      repeat' first
      | (with_reducible exact ih0 _ _ _)
      | (with_reducible exact spec_byDigit.mono _ _ _)
      | (with_reducible exact LeO.refl _)
      | (with_reducible exact LeO.none _)
      | (with_reducible refine LeO.ite ?_ ?_)
      | (with_reducible refine LeO.bind ?_ (fun _ => ?_))
      | exact ih0 _ _ _
      | exact spec_byDigit.mono _ _ _
      | exact LeO.none _
      | refine LeO.ite ?_ ?_
      | refine LeO.bind ?_ (fun _ => ?_)
theorem spec_In.mono : ∀ a0 a1 k, LeO (spec_In.f k a0 a1) (spec_In.f (k + 1) a0 a1) := by
  intro a0 a1 k
  have ih0 := spec_In.mono_l k
  unfold spec_In.f
  repeat' first
      | (with_reducible exact ih0 _ _ _)
      | (with_reducible exact spec_byDigit.mono _ _ _)
      | (with_reducible exact LeO.refl _)
      | (with_reducible exact LeO.none _)
      | (with_reducible refine LeO.ite ?_ ?_)
      | (with_reducible refine LeO.bind ?_ (fun _ => ?_))
      | exact ih0 _ _ _
      | exact spec_byDigit.mono _ _ _
      | exact LeO.none _
      | refine LeO.ite ?_ ?_
      | refine LeO.bind ?_ (fun _ => ?_)
set_option maxHeartbeats 8000000 in
set_option maxRecDepth 100000 in
theorem spec_In.calls (k : Nat) (P0_ : Nat → Prop) (A0 : Option Addr) (c0 : Nat) (l0 : List Int) (a1 : Int) (r : ByteArray) (w : World) (hs0 : Kd.V (Kd.int .i64) 3 w w.heap.size (fun k_ => P0_ k_) (.slice A0 l0.length c0) l0) (h : spec_In.f k l0 a1 = some r) :
    Calls Tryz.prog 42 #[.slice A0 l0.length c0, .int .i64 a1] w fun e w' => e = .returned (.string r) ∧ Below w.heap.size w w' := by
  have HO0 := Aside0.mk (show Kd.V (Kd.int .i64) 3 w w.heap.size (fun k_ => (P0_ k_ ∨ w.heap.size ≤ k_)) (.slice A0 l0.length c0) l0 from Kd.V_mono hs0 (fun k_ hk => .inl hk))
  have HB := Aside0.mk (Below.refl w.heap.size w)
  have H : (spec_In.l0 k l0 a1 (⟨#[]⟩ : ByteArray)) = some r := h
  clear h
  have H' := Aside0.mk H
  clear H
  go_enter Tryz.func42, Tryz.ntmps42
  go_wp2
  go_loopg [0, 5] k (fun kq v0 v5 w' => ∃ (x0_1 : List Int) (x5_1 : ByteArray), v5 = .string x5_1 ∧ Aside0 (spec_In.l0 kq x0_1 a1 x5_1 = some r) ∧ Aside0 (kq ≤ k) ∧ Aside0 (Kd.V (Kd.int .i64) 3 w' w.heap.size (fun k_ => (P0_ k_ ∨ w.heap.size ≤ k_)) v0 x0_1) ∧ Aside0 (Below w.heap.size w w'))
  case atStart => exact ⟨(l0), ((⟨#[]⟩ : ByteArray)), (by first | rfl | (simp; done) | (simp [*]; done)), H', ⟨Nat.le_refl _⟩, ⟨by (with_reducible repeat (first | apply Kd.V_alloc | apply Kd.V_drewN | apply Kd.V_drew)); exact HO0.out⟩, ⟨by repeat (first | (with_reducible first | exact HB.out | apply below_alloc | apply pw_below_drewN | apply below_drew1) | exact HB.out)⟩⟩
  case round =>
    clear H'
    try clear p2
    obtain ⟨x0_1, x5_1, rfl, HA, HK1, HO_0, HB⟩ := hrel
    cases gk with
    | zero => exact absurd HA.out (by simp [spec_In.l0])
    | succ k1 =>
      have H := HA.out
      clear HA
      simp only [spec_In.l0] at H
      by_cases c3 : (x0_1.length : Int) > 0
      · rw [if_pos c3] at H
        have c3b0 : decide (0 < (x0_1.length : Int)) = true := decide_eq_true c3
        have c3b1 : decide (0 < x0_1.length) = true := decide_eq_true (by omega)
        clear c3
        replace H := Option.bind_eq_some_iff.mp H
        obtain ⟨⟨t378, t381⟩, A40, H⟩ := H
        replace H : (if 0 ≤ t381 then (if t381 ≤ (wrap64 (t381 + 1)) then (if (wrap64 (t381 + 1)) ≤ 16 then (if ((⟨#[48, 49, 50, 51, 52, 53, 54, 55, 56, 57, 97, 98, 99, 100, 101, 102]⟩ : ByteArray).extract (t381 : Int).toNat ((wrap64 (t381 + 1)) : Int).toNat).size + x5_1.size ≤ 9223372036854775807 then (spec_In.l0 k1 t378 a1 (((⟨#[48, 49, 50, 51, 52, 53, 54, 55, 56, 57, 97, 98, 99, 100, 101, 102]⟩ : ByteArray).extract (t381 : Int).toNat ((wrap64 (t381 + 1)) : Int).toNat) ++ x5_1)) else (none)) else (none)) else (none)) else (none)) = some r := H
        have A4 := Aside0.mk A40
        clear A40
        by_cases c5 : 0 ≤ t381
        · rw [if_pos c5] at H
          have c5b0 := eq_true c5
          have c5b1 : decide (0 ≤ t381) = true := decide_eq_true c5
          clear c5
          by_cases c6 : t381 ≤ (wrap64 (t381 + 1))
          · rw [if_pos c6] at H
            have c6b0 := eq_true c6
            have c6b1 : decide (t381 ≤ (wrap64 (t381 + 1))) = true := decide_eq_true c6
            by_cases c7 : (wrap64 (t381 + 1)) ≤ 16
            · rw [if_pos c7] at H
              have c7b0 := eq_true c7
              have c7b1 : decide ((wrap64 (t381 + 1)) ≤ 16) = true := decide_eq_true c7
              by_cases c8 : ((⟨#[48, 49, 50, 51, 52, 53, 54, 55, 56, 57, 97, 98, 99, 100, 101, 102]⟩ : ByteArray).extract (t381 : Int).toNat ((wrap64 (t381 + 1)) : Int).toNat).size + x5_1.size ≤ 9223372036854775807
              · rw [if_pos c8] at H
                have c8b0 := eq_true c8
                have c8b1 : decide (((⟨#[48, 49, 50, 51, 52, 53, 54, 55, 56, 57, 97, 98, 99, 100, 101, 102]⟩ : ByteArray).extract (t381 : Int).toNat ((wrap64 (t381 + 1)) : Int).toNat).size + x5_1.size ≤ 9223372036854775807) = true := decide_eq_true c8
                try have c8b2 : (9223372036854775807 < ((⟨#[48, 49, 50, 51, 52, 53, 54, 55, 56, 57, 97, 98, 99, 100, 101, 102]⟩ : ByteArray).extract (t381 : Int).toNat ((wrap64 (t381 + 1)) : Int).toNat).size + x5_1.size) = False := eq_false (Nat.not_lt.2 c8)
                have H' := Aside0.mk H
                clear H
                obtain ⟨Ao9, co9, eo9⟩ := Kd.V_slice HO_0.out
                subst eo9
                go_wp2_with (first | ((with_reducible refine gate_callee (f := 63) rfl ?_); refine goesL_ (some 14) rfl rfl Tryz.func63 (by kernel_rfl) rfl #[.slice Ao9 x0_1.length co9, .int .i64 a1] rfl (by (try simp only [List.map_toArray, List.map_cons, List.map_nil]); first | done | rfl | (simp only [List.length_drop, List.length_take]; rfl)) ?_; (with_reducible refine (spec_byDigit.calls k1 _ _ x0_1 a1 t378 t381 _ ?side1 ?side2 A4.out).mono ?_); (case side1 => repeat (first | exact (Kd.V_reads' HO_0.out).2.2 | (with_reducible refine Kd.C_alloc ?_ _) | (with_reducible refine Kd.C_drewN ?_ _) | (with_reducible refine Kd.C_drew ?_))); (case side2 => exact (Kd.V_reads' HO_0.out).2.1); rintro e w10 ⟨v379, rfl, ho0, hb⟩; refine ⟨_, rfl, ?_⟩; have n0_ := Aside0.mk (Kd.V_below (by (with_reducible repeat (first | apply Kd.V_alloc | apply Kd.V_drewN | apply Kd.V_drew)); exact HO_0.out) hb); have n1_ := Aside0.mk (Kd.V_lower (Kd.V_mono (ok' := fun k_ => (P0_ k_ ∨ w.heap.size ≤ k_)) ho0 (fun k_ hk_ => (.inr (Nat.le_trans (below_size (by repeat (first | (with_reducible first | exact HB.out | apply below_alloc | apply pw_below_drewN | apply below_drew1) | exact HB.out))) hk_)))) (below_size (by repeat (first | (with_reducible first | exact HB.out | apply below_alloc | apply pw_below_drewN | apply below_drew1) | exact HB.out)))); have n2_ := Aside0.mk (below_step (by repeat (first | (with_reducible first | exact HB.out | apply below_alloc | apply pw_below_drewN | apply below_drew1) | exact HB.out)) hb); clear HO_0; clear HB; have HO_0 := n0_; have HO380 := n1_; have HB := n2_; clear n0_ n1_ n2_; (try clear hb); (try clear hb2); (try clear hk); (try clear hi); (try clear ho0)))
                go_roundg k1
                case measure => have := HK1.out; omega
                case rel => exact ⟨(t378), (((⟨#[48, 49, 50, 51, 52, 53, 54, 55, 56, 57, 97, 98, 99, 100, 101, 102]⟩ : ByteArray).extract (t381 : Int).toNat ((wrap64 (t381 + 1)) : Int).toNat) ++ x5_1), (by first | rfl | (simp; done) | (simp [*]; done)), H', ⟨by have := HK1.out; omega⟩, ⟨by (with_reducible repeat (first | apply Kd.V_alloc | apply Kd.V_drewN | apply Kd.V_drew)); exact HO380.out⟩, ⟨by repeat (first | (with_reducible first | exact HB.out | apply below_alloc | apply pw_below_drewN | apply below_drew1) | exact HB.out)⟩⟩
              · rw [if_neg c8] at H
                exact absurd H (by simp)
            · rw [if_neg c7] at H
              exact absurd H (by simp)
          · rw [if_neg c6] at H
            exact absurd H (by simp)
        · rw [if_neg c5] at H
          exact absurd H (by simp)
      · rw [if_neg c3] at H
        have c3b0 : decide (0 < (x0_1.length : Int)) = false := decide_eq_false c3
        have c3b1 : decide (0 < x0_1.length) = false := decide_eq_false (by omega)
        clear c3
        by_cases c11 : x5_1.toList = ([] : List UInt8)
        · rw [if_pos c11] at H
          have c11b0 : (x5_1.toList == ([] : List UInt8)) = true := beq_iff_eq.mpr c11
          have c11b1 : (x5_1.toList != ([] : List UInt8)) = false := bne_eq_false_iff_eq.mpr c11
          clear c11
          obtain rfl := Option.some.inj H
          obtain ⟨Ao12, co12, eo12⟩ := Kd.V_slice HO_0.out
          subst eo12
          go_wp2
          go_ret
          exact ⟨by first | rfl | (simp [errW_none, errW_some] <;> rfl) | (simp [*, errW_none, errW_some] <;> rfl), by repeat (first | (with_reducible first | exact HB.out | apply below_alloc | apply pw_below_drewN | apply below_drew1) | exact HB.out)⟩
        · rw [if_neg c11] at H
          have c11b0 : (x5_1.toList == ([] : List UInt8)) = false := beq_eq_false_iff_ne.mpr c11
          have c11b1 : (x5_1.toList != ([] : List UInt8)) = true := bne_iff_ne.mpr c11
          obtain rfl := Option.some.inj H
          obtain ⟨Ao13, co13, eo13⟩ := Kd.V_slice HO_0.out
          subst eo13
          go_wp2
          go_ret
          exact ⟨by first | rfl | (simp [errW_none, errW_some] <;> rfl) | (simp [*, errW_none, errW_some] <;> rfl), by repeat (first | (with_reducible first | exact HB.out | apply below_alloc | apply pw_below_drewN | apply below_drew1) | exact HB.out)⟩

end Go.Proofs.YtfnknldbjckgoaaGreatDoor.Sp
end

/-! ## SpSHex -/
section
namespace Go.Proofs.YtfnknldbjckgoaaGreatDoor.Sp
open Go.RowKit Go.Proofs.YtfnknldbjckgoaaGreatDoorW.PrintWords Go.Proofs.YtfnknldbjckgoaaGreatDoorW.PrintLast Go.Proofs.YtfnknldbjckgoaaGreatDoorW.PrintMore
attribute [local go_sem] max2_int min2_int max_two min_two max_three min_three max_four min_four
set_option linter.unusedVariables false
set_option linter.unusedSimpArgs false

/-! ### spec_Hex: function 31 -/
def spec_Hex.f (k : Nat) (l0 : List Int) : Option (ByteArray) := (spec_In.f k l0 16).bind fun t382 => (some t382)
theorem spec_Hex.mono : ∀ a0 k, LeO (spec_Hex.f k a0) (spec_Hex.f (k + 1) a0) := by
  intro a0 k
  unfold spec_Hex.f
  repeat' first
      | (with_reducible exact spec_In.mono _ _ _)
      | (with_reducible exact LeO.refl _)
      | (with_reducible exact LeO.none _)
      | (with_reducible refine LeO.ite ?_ ?_)
      | (with_reducible refine LeO.bind ?_ (fun _ => ?_))
      | exact spec_In.mono _ _ _
      | exact LeO.none _
      | refine LeO.ite ?_ ?_
      | refine LeO.bind ?_ (fun _ => ?_)
set_option maxHeartbeats 8000000 in
set_option maxRecDepth 100000 in
theorem spec_Hex.calls (k : Nat) (A0 : Option Addr) (c0 : Nat) (l0 : List Int) (r : ByteArray) (w : World) (hr0 : Kd.C (Kd.int .i64) w A0 l0.length l0) (hc0 : l0.length ≤ c0) (h : spec_Hex.f k l0 = some r) :
    Calls Tryz.prog 31 #[.slice A0 l0.length c0] w fun e w' => e = .returned (.string r) ∧ Below w.heap.size w w' := by
  have HR0 := Aside0.mk hr0
  have HC0 := Aside0.mk hc0
  clear hr0 hc0
  have HB := Aside0.mk (Below.refl w.heap.size w)
  have H : ((spec_In.f k l0 16).bind fun t382 => (some t382)) = some r := h
  clear h
  replace H := Option.bind_eq_some_iff.mp H
  obtain ⟨t382, A20, H⟩ := H
  replace H : (some t382) = some r := H
  have A2 := Aside0.mk A20
  clear A20
  obtain rfl := Option.some.inj H
  go_enter Tryz.func31, Tryz.ntmps31
  go_wp2_with (first | ((with_reducible refine gate_callee (f := 42) rfl ?_); refine goesL_ (some 4) rfl rfl Tryz.func42 (by kernel_rfl) rfl #[.slice A0 l0.length c0, .int .i64 16] rfl (by (try simp only [List.map_toArray, List.map_cons, List.map_nil]); first | done | rfl | (simp only [List.length_drop, List.length_take]; rfl)) ?_; (with_reducible refine (spec_In.calls k (fun k_ => k_ < w.heap.size) _ _ l0 16 t382 _ ?side1 A2.out).mono ?_); (case side1 => exact Kd.V_mk HC0.out (Kd.F_below (Kd.C_F (Kd.heap_int .i64) HR0.out) (by repeat (first | (with_reducible first | exact HB.out | apply below_alloc | apply pw_below_drewN | apply below_drew1) | exact HB.out)))); rintro e w3 ⟨rfl, hb⟩; refine ⟨_, rfl, ?_⟩; have n0_ := Aside0.mk (below_step (by repeat (first | (with_reducible first | exact HB.out | apply below_alloc | apply pw_below_drewN | apply below_drew1) | exact HB.out)) hb); clear HB; have HB := n0_; clear n0_; (try clear hb); (try clear hb2); (try clear hk); (try clear hi)))
  go_ret
  exact ⟨by first | rfl | (simp [errW_none, errW_some] <;> rfl) | (simp [*, errW_none, errW_some] <;> rfl), by repeat (first | (with_reducible first | exact HB.out | apply below_alloc | apply pw_below_drewN | apply below_drew1) | exact HB.out)⟩

end Go.Proofs.YtfnknldbjckgoaaGreatDoor.Sp
end

/-! ## SpSMinus -/
section
namespace Go.Proofs.YtfnknldbjckgoaaGreatDoor.Sp
open Go.RowKit Go.Proofs.YtfnknldbjckgoaaGreatDoorW.PrintWords Go.Proofs.YtfnknldbjckgoaaGreatDoorW.PrintLast Go.Proofs.YtfnknldbjckgoaaGreatDoorW.PrintMore
attribute [local go_sem] max2_int min2_int max_two min_two max_three min_three max_four min_four
set_option linter.unusedVariables false
set_option linter.unusedSimpArgs false

/-! ### spec_minus: function 32 -/
def spec_minus.f (a0 : Bool) : Option (ByteArray) := if a0 = true then (some (⟨#[45]⟩ : ByteArray)) else (some (⟨#[]⟩ : ByteArray))
set_option maxHeartbeats 8000000 in
set_option maxRecDepth 100000 in
theorem spec_minus.calls (a0 : Bool) (r : ByteArray) (w : World) (h : spec_minus.f a0 = some r) :
    Calls Tryz.prog 32 #[.bool a0] w fun e w' => e = .returned (.string r) ∧ Drawn0 w w' := by
  have H : (if a0 = true then (some (⟨#[45]⟩ : ByteArray)) else (some (⟨#[]⟩ : ByteArray))) = some r := h
  clear h
  by_cases c2 : a0 = true
  · subst c2
    have H1 : (some (⟨#[45]⟩ : ByteArray)) = some r := by rw [if_pos rfl] at H; exact H
    clear H
    have H := H1
    clear H1
    obtain rfl := Option.some.inj H
    go_enter Tryz.func32, Tryz.ntmps32
    go_wp2
    go_ret
    exact ⟨by first | rfl | (simp; done) | (simp [*]; done), by repeat (first | exact Drawn0.refl _ | apply Drawn0.step)⟩
  · replace c2 := Bool.eq_false_iff.mpr c2
    subst c2
    have H1 : (some (⟨#[]⟩ : ByteArray)) = some r := by rw [if_neg (show ¬ (false = true) by decide)] at H; exact H
    clear H
    have H := H1
    clear H1
    obtain rfl := Option.some.inj H
    go_enter Tryz.func32, Tryz.ntmps32
    go_wp2
    go_ret
    exact ⟨by first | rfl | (simp; done) | (simp [*]; done), by repeat (first | exact Drawn0.refl _ | apply Drawn0.step)⟩

end Go.Proofs.YtfnknldbjckgoaaGreatDoor.Sp
end

/-! ## SpSUpper -/
section
namespace Go.Proofs.YtfnknldbjckgoaaGreatDoor.Sp
open Go.RowKit Go.Proofs.YtfnknldbjckgoaaGreatDoorW.PrintWords Go.Proofs.YtfnknldbjckgoaaGreatDoorW.PrintLast Go.Proofs.YtfnknldbjckgoaaGreatDoorW.PrintMore
attribute [local go_sem] max2_int min2_int max_two min_two max_three min_three max_four min_four
set_option linter.unusedVariables false
set_option linter.unusedSimpArgs false

/-! ### spec_Upper: function 19 -/
def spec_Upper.l0 : Nat → ByteArray → List Int → Int → Int → Option (ByteArray)
  | 0, _, _, _, _ => none
  | k + 1, x0, x3, x8, x9 => if x9 < x8 then (if 0 ≤ x9 then (if x9 < (x0.size : Int) then (if (bt x0 x9) ≥ 97 then (if (bt x0 x9) ≤ 122 then (if x3.length < 140737488355328 then (spec_Upper.l0 k x0 (x3 ++ [((bt x0 x9) - 32) % 256]) x8 (wrap64 (x9 + 1))) else (none)) else (if x3.length < 140737488355328 then (spec_Upper.l0 k x0 (x3 ++ [bt x0 x9]) x8 (wrap64 (x9 + 1))) else (none))) else (if x3.length < 140737488355328 then (spec_Upper.l0 k x0 (x3 ++ [bt x0 x9]) x8 (wrap64 (x9 + 1))) else (none))) else (none)) else (none)) else (some (strOfNums x3))
def spec_Upper.f (k : Nat) (a0 : ByteArray) : Option (ByteArray) := spec_Upper.l0 k a0 (([] : List Int)) (a0.size : Int) 0
theorem spec_Upper.mono_l : ∀ k, (∀ y0 y1 y2 y3, LeO (spec_Upper.l0 k y0 y1 y2 y3) (spec_Upper.l0 (k + 1) y0 y1 y2 y3))
  | 0 => fun _ _ _ _ r h => by simp [spec_Upper.l0] at h
  | k + 1 => by
    have ih0 := spec_Upper.mono_l k
    · intro y0 y1 y2 y3
      unfold spec_Upper.l0
      repeat' first
      | (with_reducible exact ih0 _ _ _ _)
      | (with_reducible exact LeO.refl _)
      | (with_reducible exact LeO.none _)
      | (with_reducible refine LeO.ite ?_ ?_)
      | (with_reducible refine LeO.bind ?_ (fun _ => ?_))
      | exact ih0 _ _ _ _
      | exact LeO.none _
      | refine LeO.ite ?_ ?_
      | refine LeO.bind ?_ (fun _ => ?_)
theorem spec_Upper.mono : ∀ a0 k, LeO (spec_Upper.f k a0) (spec_Upper.f (k + 1) a0) := by
  intro a0 k
  have ih0 := spec_Upper.mono_l k
  unfold spec_Upper.f
  repeat' first
      | (with_reducible exact ih0 _ _ _ _)
      | (with_reducible exact LeO.refl _)
      | (with_reducible exact LeO.none _)
      | (with_reducible refine LeO.ite ?_ ?_)
      | (with_reducible refine LeO.bind ?_ (fun _ => ?_))
      | exact ih0 _ _ _ _
      | exact LeO.none _
      | refine LeO.ite ?_ ?_
      | refine LeO.bind ?_ (fun _ => ?_)
set_option maxHeartbeats 8000000 in
set_option maxRecDepth 100000 in
theorem spec_Upper.calls (k : Nat) (a0 : ByteArray) (r : ByteArray) (w : World) (h : spec_Upper.f k a0 = some r) :
    Calls Tryz.prog 19 #[.string a0] w fun e w' => e = .returned (.string r) ∧ Below w.heap.size w w' := by
  have HB := Aside0.mk (Below.refl w.heap.size w)
  have H : (spec_Upper.l0 k a0 (([] : List Int)) (a0.size : Int) 0) = some r := h
  clear h
  obtain ⟨y336, hy336⟩ : ∃ y_ : List Int, y_ = (([] : List Int)) := ⟨_, rfl⟩
  replace H : (spec_Upper.l0 k a0 y336 (a0.size : Int) 0) = some r := by first | (rw [hy336]; with_reducible exact H) | (have H2_ := (Option.bind_some _ _).symm.trans H; rw [hy336]; with_reducible exact H2_) | (have H2_ := (Option.bind_some _ _).symm.trans H; with_reducible exact H2_) | with_reducible exact H | (rw [hy336]; exact H) | exact H
  have Ny336 := Aside0.mk hy336
  clear hy336
  have H' := Aside0.mk H
  clear H
  go_enter Tryz.func19, Tryz.ntmps19
  go_wp2_with (first | ((with_reducible refine gate_dst (N := 6) rfl ?_); refine Kd.R_lit (Kd.int .u8) _ 5 ?hg (N := 6) ?hd (xs := ([] : List Int)) (inner := []) (ok := fun _ => True) (okp := fun _ => True) ?hr ?hp (fun _ hk => hk) trivial (Below.refl _ _) (Nat.le_refl _) (by simp) ?_; (case hd => rfl); (case hg => rfl); (case hr => first | (go_simp; done) | (go_simp; rfl)); (case hp => exact (Reps.none _ _)); intro v337 w2 ho3 hb hg_ hnew_; clear hg_ hnew_; (first | rw [← Ny336.out] at ho3 | (simp only [Int.reduceToNat] at ho3; rw [← Ny336.out] at ho3)); have n0_ := Aside0.mk (Kd.R_lower ho3 (below_size (by repeat (first | (with_reducible first | exact HB.out | apply below_alloc | apply pw_below_drewN | apply below_drew1) | exact HB.out)))); have n1_ := Aside0.mk (below_step (by repeat (first | (with_reducible first | exact HB.out | apply below_alloc | apply pw_below_drewN | apply below_drew1) | exact HB.out)) hb); clear HB; have HO338 := n0_; have HB := n1_; clear n0_ n1_; clear hb ho3))
  go_loopg [3, 9] k (fun kq v3 v9 w' => ∃ (x3_1 : List Int) (x9_1 : Int), v9 = .int .i64 x9_1 ∧ Aside0 (spec_Upper.l0 kq a0 x3_1 (a0.size : Int) x9_1 = some r) ∧ Aside0 (kq ≤ k) ∧ Aside0 (Kd.R (Kd.int .u8) 5 w' w.heap.size (fun _ => True) v3 x3_1) ∧ Aside0 (Below w.heap.size w w'))
  case atStart => exact ⟨(y336), (0), (by first | rfl | (simp; done) | (simp [*]; done)), H', ⟨Nat.le_refl _⟩, ⟨by (with_reducible repeat (first | apply Kd.R_alloc | apply Kd.R_drewN | apply Kd.R_drew)); exact HO338.out⟩, ⟨by repeat (first | (with_reducible first | exact HB.out | apply below_alloc | apply pw_below_drewN | apply below_drew1) | exact HB.out)⟩⟩
  case round =>
    clear H'
    try clear c1
    try clear p2
    obtain ⟨x3_1, x9_1, rfl, HA, HK1, HO_3, HB⟩ := hrel
    cases gk with
    | zero => exact absurd HA.out (by simp [spec_Upper.l0])
    | succ k1 =>
      have H := HA.out
      clear HA
      simp only [spec_Upper.l0] at H
      by_cases c4 : x9_1 < (a0.size : Int)
      · rw [if_pos c4] at H
        have c4b0 : decide (x9_1 < (a0.size : Int)) = true := decide_eq_true c4
        clear c4
        by_cases c5 : 0 ≤ x9_1
        · rw [if_pos c5] at H
          have c5b0 : decide (0 ≤ x9_1) = true := decide_eq_true c5
          clear c5
          by_cases c6 : x9_1 < (a0.size : Int)
          · rw [if_pos c6] at H
            have c6b0 : decide (x9_1 < (a0.size : Int)) = true := decide_eq_true c6
            clear c6
            by_cases c8 : (bt a0 x9_1) ≥ 97
            · rw [if_pos c8] at H
              have c8b0 : decide (97 ≤ (bt a0 x9_1)) = true := decide_eq_true c8
              clear c8
              by_cases c9 : (bt a0 x9_1) ≤ 122
              · rw [if_pos c9] at H
                have c9b0 : decide ((bt a0 x9_1) ≤ 122) = true := decide_eq_true c9
                clear c9
                by_cases c10 : x3_1.length < 140737488355328
                · rw [if_pos c10] at H
                  have LMc10 := Aside0.mk c10
                  clear c10
                  obtain ⟨y339, hy339⟩ : ∃ y_ : List Int, y_ = (x3_1 ++ [((bt a0 x9_1) - 32) % 256]) := ⟨_, rfl⟩
                  replace H : (spec_Upper.l0 k1 a0 y339 (a0.size : Int) (wrap64 (x9_1 + 1))) = some r := by first | (rw [hy339]; with_reducible exact H) | (have H2_ := (Option.bind_some _ _).symm.trans H; rw [hy339]; with_reducible exact H2_) | (have H2_ := (Option.bind_some _ _).symm.trans H; with_reducible exact H2_) | with_reducible exact H | (rw [hy339]; exact H) | exact H
                  have Ny339 := Aside0.mk hy339
                  clear hy339
                  have H' := Aside0.mk H
                  clear H
                  have p7 : 0 ≤ (x9_1 : Int) := of_decide_eq_true (by first | (with_reducible assumption) | assumption)
                  have q7 : x9_1 < (a0.size : Int) := of_decide_eq_true (by first | (with_reducible assumption) | assumption)
                  have hx7 := bt_at a0 x9_1
                  replace p7 := eq_true p7
                  replace q7 := eq_true q7
                  go_wp2_with (first | ((with_reducible refine gate_builtin (b := .append) (xs := #[.tmp 23, .tmp 25]) rfl ?_); at_builtin; refine Kd.R_append (Kd.int .u8) (w0 := w) w.heap.size rfl (.tmp 23) (.tmp 25) 43 5 (.int .u8 0) 1 rfl Tryz.underlying43 info5 rfl (by decide) (by omega) u3 x3_1 (((bt a0 x9_1) - 32) % 256) [.int .u8 (((bt a0 x9_1) - 32) % 256)] (fun _ => True) (fun _ => False) rfl rfl ?aP (fun _ hk => hk.elim) ?aF ?aO ?aB ?aS ?aL ?_; (case aP => exact rfl); (case aB => exact (by repeat (first | (with_reducible first | exact HB.out | apply below_alloc | apply pw_below_drewN | apply below_drew1) | exact HB.out))); (case aF => exact (fun _ _ => trivial)); (case aO => exact (by (with_reducible repeat (first | apply Kd.R_alloc | apply Kd.R_drewN | apply Kd.R_drew)); exact HO_3.out)); (case aS => exact (below_size (by repeat (first | (with_reducible first | exact HB.out | apply below_alloc | apply pw_below_drewN | apply below_drew1) | exact HB.out)))); (case aL => have := LMc10.out; omega); intro v340 w11 ho hb hg hat; rw [← Ny339.out] at ho; have n0_ := Aside0.mk (hb); have n1_ := Aside0.mk (ho); clear HB; clear HO_3; have HB := n0_; have HO341 := n1_; clear n0_ n1_; clear ho hb hg hat))
                  go_roundg k1
                  case measure => have := HK1.out; omega
                  case rel => exact ⟨(y339), (wrap64 (x9_1 + 1)), (by first | rfl | (simp; done) | (simp [*]; done)), H', ⟨by have := HK1.out; omega⟩, ⟨by (with_reducible repeat (first | apply Kd.R_alloc | apply Kd.R_drewN | apply Kd.R_drew)); exact HO341.out⟩, ⟨by repeat (first | (with_reducible first | exact HB.out | apply below_alloc | apply pw_below_drewN | apply below_drew1) | exact HB.out)⟩⟩
                · rw [if_neg c10] at H
                  exact absurd H (by simp)
              · rw [if_neg c9] at H
                have c9b0 : decide ((bt a0 x9_1) ≤ 122) = false := decide_eq_false c9
                clear c9
                by_cases c12 : x3_1.length < 140737488355328
                · rw [if_pos c12] at H
                  have LMc12 := Aside0.mk c12
                  clear c12
                  obtain ⟨y342, hy342⟩ : ∃ y_ : List Int, y_ = (x3_1 ++ [bt a0 x9_1]) := ⟨_, rfl⟩
                  replace H : (spec_Upper.l0 k1 a0 y342 (a0.size : Int) (wrap64 (x9_1 + 1))) = some r := by first | (rw [hy342]; with_reducible exact H) | (have H2_ := (Option.bind_some _ _).symm.trans H; rw [hy342]; with_reducible exact H2_) | (have H2_ := (Option.bind_some _ _).symm.trans H; with_reducible exact H2_) | with_reducible exact H | (rw [hy342]; exact H) | exact H
                  have Ny342 := Aside0.mk hy342
                  clear hy342
                  have H' := Aside0.mk H
                  clear H
                  have p7 : 0 ≤ (x9_1 : Int) := of_decide_eq_true (by first | (with_reducible assumption) | assumption)
                  have q7 : x9_1 < (a0.size : Int) := of_decide_eq_true (by first | (with_reducible assumption) | assumption)
                  have hx7 := bt_at a0 x9_1
                  replace p7 := eq_true p7
                  replace q7 := eq_true q7
                  go_wp2_with (first | ((with_reducible refine gate_builtin (b := .append) (xs := #[.tmp 23, .tmp 25]) rfl ?_); at_builtin; refine Kd.R_append (Kd.int .u8) (w0 := w) w.heap.size rfl (.tmp 23) (.tmp 25) 43 5 (.int .u8 0) 1 rfl Tryz.underlying43 info5 rfl (by decide) (by omega) u3 x3_1 (bt a0 x9_1) [.int .u8 (bt a0 x9_1)] (fun _ => True) (fun _ => False) rfl rfl ?aP (fun _ hk => hk.elim) ?aF ?aO ?aB ?aS ?aL ?_; (case aP => exact rfl); (case aB => exact (by repeat (first | (with_reducible first | exact HB.out | apply below_alloc | apply pw_below_drewN | apply below_drew1) | exact HB.out))); (case aF => exact (fun _ _ => trivial)); (case aO => exact (by (with_reducible repeat (first | apply Kd.R_alloc | apply Kd.R_drewN | apply Kd.R_drew)); exact HO_3.out)); (case aS => exact (below_size (by repeat (first | (with_reducible first | exact HB.out | apply below_alloc | apply pw_below_drewN | apply below_drew1) | exact HB.out)))); (case aL => have := LMc12.out; omega); intro v343 w13 ho hb hg hat; rw [← Ny342.out] at ho; have n0_ := Aside0.mk (hb); have n1_ := Aside0.mk (ho); clear HB; clear HO_3; have HB := n0_; have HO344 := n1_; clear n0_ n1_; clear ho hb hg hat))
                  go_roundg k1
                  case measure => have := HK1.out; omega
                  case rel => exact ⟨(y342), (wrap64 (x9_1 + 1)), (by first | rfl | (simp; done) | (simp [*]; done)), H', ⟨by have := HK1.out; omega⟩, ⟨by (with_reducible repeat (first | apply Kd.R_alloc | apply Kd.R_drewN | apply Kd.R_drew)); exact HO344.out⟩, ⟨by repeat (first | (with_reducible first | exact HB.out | apply below_alloc | apply pw_below_drewN | apply below_drew1) | exact HB.out)⟩⟩
                · rw [if_neg c12] at H
                  exact absurd H (by simp)
            · rw [if_neg c8] at H
              have c8b0 : decide (97 ≤ (bt a0 x9_1)) = false := decide_eq_false c8
              clear c8
              by_cases c14 : x3_1.length < 140737488355328
              · rw [if_pos c14] at H
                have LMc14 := Aside0.mk c14
                clear c14
                obtain ⟨y345, hy345⟩ : ∃ y_ : List Int, y_ = (x3_1 ++ [bt a0 x9_1]) := ⟨_, rfl⟩
                replace H : (spec_Upper.l0 k1 a0 y345 (a0.size : Int) (wrap64 (x9_1 + 1))) = some r := by first | (rw [hy345]; with_reducible exact H) | (have H2_ := (Option.bind_some _ _).symm.trans H; rw [hy345]; with_reducible exact H2_) | (have H2_ := (Option.bind_some _ _).symm.trans H; with_reducible exact H2_) | with_reducible exact H | (rw [hy345]; exact H) | exact H
                have Ny345 := Aside0.mk hy345
                clear hy345
                have H' := Aside0.mk H
                clear H
                have p7 : 0 ≤ (x9_1 : Int) := of_decide_eq_true (by first | (with_reducible assumption) | assumption)
                have q7 : x9_1 < (a0.size : Int) := of_decide_eq_true (by first | (with_reducible assumption) | assumption)
                have hx7 := bt_at a0 x9_1
                replace p7 := eq_true p7
                replace q7 := eq_true q7
                go_wp2_with (first | ((with_reducible refine gate_builtin (b := .append) (xs := #[.tmp 23, .tmp 25]) rfl ?_); at_builtin; refine Kd.R_append (Kd.int .u8) (w0 := w) w.heap.size rfl (.tmp 23) (.tmp 25) 43 5 (.int .u8 0) 1 rfl Tryz.underlying43 info5 rfl (by decide) (by omega) u3 x3_1 (bt a0 x9_1) [.int .u8 (bt a0 x9_1)] (fun _ => True) (fun _ => False) rfl rfl ?aP (fun _ hk => hk.elim) ?aF ?aO ?aB ?aS ?aL ?_; (case aP => exact rfl); (case aB => exact (by repeat (first | (with_reducible first | exact HB.out | apply below_alloc | apply pw_below_drewN | apply below_drew1) | exact HB.out))); (case aF => exact (fun _ _ => trivial)); (case aO => exact (by (with_reducible repeat (first | apply Kd.R_alloc | apply Kd.R_drewN | apply Kd.R_drew)); exact HO_3.out)); (case aS => exact (below_size (by repeat (first | (with_reducible first | exact HB.out | apply below_alloc | apply pw_below_drewN | apply below_drew1) | exact HB.out)))); (case aL => have := LMc14.out; omega); intro v346 w15 ho hb hg hat; rw [← Ny345.out] at ho; have n0_ := Aside0.mk (hb); have n1_ := Aside0.mk (ho); clear HB; clear HO_3; have HB := n0_; have HO347 := n1_; clear n0_ n1_; clear ho hb hg hat))
                go_roundg k1
                case measure => have := HK1.out; omega
                case rel => exact ⟨(y345), (wrap64 (x9_1 + 1)), (by first | rfl | (simp; done) | (simp [*]; done)), H', ⟨by have := HK1.out; omega⟩, ⟨by (with_reducible repeat (first | apply Kd.R_alloc | apply Kd.R_drewN | apply Kd.R_drew)); exact HO347.out⟩, ⟨by repeat (first | (with_reducible first | exact HB.out | apply below_alloc | apply pw_below_drewN | apply below_drew1) | exact HB.out)⟩⟩
              · rw [if_neg c14] at H
                exact absurd H (by simp)
          · rw [if_neg c6] at H
            exact absurd H (by simp)
        · rw [if_neg c5] at H
          exact absurd H (by simp)
      · rw [if_neg c4] at H
        have c4b0 : decide (x9_1 < (a0.size : Int)) = false := decide_eq_false c4
        clear c4
        obtain rfl := Option.some.inj H
        have hcv16 := own_string (P := Tryz.prog) Tryz.underlying43 Tryz.underlying5 Tryz.underlying9 (Kd.own_of_R HO_3.out)
        go_wp2
        go_ret
        exact ⟨by first | rfl | (simp [errW_none, errW_some] <;> rfl) | (simp [*, errW_none, errW_some] <;> rfl), by repeat (first | (with_reducible first | exact HB.out | apply below_alloc | apply pw_below_drewN | apply below_drew1) | exact HB.out)⟩

end Go.Proofs.YtfnknldbjckgoaaGreatDoor.Sp
end

/-! ## SpLHalf -/
section
namespace Go.Proofs.YtfnknldbjckgoaaGreatDoor.Sp
open Go.RowKit Go.Proofs.YtfnknldbjckgoaaGreatDoorW.PrintWords Go.Proofs.YtfnknldbjckgoaaGreatDoorW.PrintLast Go.Proofs.YtfnknldbjckgoaaGreatDoorW.PrintMore
attribute [local go_sem] max2_int min2_int max_two min_two max_three min_three max_four min_four
set_option linter.unusedVariables false
set_option linter.unusedSimpArgs false

/-! ### laws_half: function 35 -/
def laws_half.f  : Option (Int × Int × Int × Bool × List Int × Int) := some (2, 0, 1, false, (([1] : List Int)), (-1))
set_option maxHeartbeats 8000000 in
set_option maxRecDepth 100000 in
theorem laws_half.calls  (r1 : Int) (r2 : Int) (r3 : Int) (r4 : Bool) (r5 : List Int) (r6 : Int) (w : World) (h : laws_half.f  = some (r1, r2, r3, r4, r5, r6)) :
    Calls Tryz.prog 35 #[] w fun e w' => ∃ v4_ : Value, e = .returned (.agg #[.int .u64 r1, .int .i64 r2, .int .i64 r3, .bool r4, v4_, .int .i64 r6]) ∧ Kd.R (Kd.int .u64) 22 w' w.heap.size (fun _ => True) v4_ r5 ∧ Below w.heap.size w w' := by
  have hu25 := Tryz.underlying25
  have HB := Aside0.mk (Below.refl w.heap.size w)
  have H : (some (2, 0, 1, false, (([1] : List Int)), (-1))) = some (r1, r2, r3, r4, r5, r6) := h
  clear h
  obtain ⟨y313, hy313⟩ : ∃ y_ : List Int, y_ = (([1] : List Int)) := ⟨_, rfl⟩
  replace H : (some (2, 0, 1, false, y313, (-1))) = some (r1, r2, r3, r4, r5, r6) := by first | (rw [hy313]; with_reducible exact H) | (have H2_ := (Option.bind_some _ _).symm.trans H; rw [hy313]; with_reducible exact H2_) | (have H2_ := (Option.bind_some _ _).symm.trans H; with_reducible exact H2_) | with_reducible exact H | (rw [hy313]; exact H) | exact H
  have Ny313 := Aside0.mk hy313
  clear hy313
  simp only [Option.some.injEq, Prod.mk.injEq] at H
  obtain ⟨rfl, rfl, rfl, rfl, rfl, rfl⟩ := H
  go_enter Tryz.func35, Tryz.ntmps35
  go_wp2_with (first | ((with_reducible refine gate_dst (N := 0) rfl ?_); refine box_event ?hg (N := 0) ?hd (cs := #[.int .u64 0, .int .i64 0, .int .i64 0, .bool false, .slice none 0 0, .int .i64 0]) (t := 25) ?hr ?_; (case hd => rfl); (case hg => rfl); (case hr => first | (go_simp; done) | (go_simp; rfl)); intro gb312 hg w1 hbox hb; have n0_ := Aside0.mk (below_step (by repeat (first | (with_reducible first | exact HB.out | apply below_alloc | apply pw_below_drewN | apply below_drew1) | exact HB.out)) hb); have n1_ := Aside0.mk (hbox); have n2_ := Aside0.mk ((by rw [hg]; exact (below_size (by repeat (first | (with_reducible first | exact HB.out | apply below_alloc | apply pw_below_drewN | apply below_drew1) | exact HB.out))) : w.heap.size ≤ gb312)); have n3_ := Aside0.mk ((by rw [hg]; exact (below_size (by repeat (first | (with_reducible first | exact HB.out | apply below_alloc | apply pw_below_drewN | apply below_drew1) | exact HB.out))) : w.heap.size ≤ gb312)); clear HB; have HB := n0_; have BK312 := n1_; have GW312 := n2_; have GE312 := n3_; clear n0_ n1_ n2_ n3_; clear hb hbox hg) | ((with_reducible refine gate_dst (N := 1) rfl ?_); refine Kd.R_lit (Kd.int .u64) _ 22 ?hg (N := 1) ?hd (xs := ([1] : List Int)) (inner := [.int .u64 1]) (ok := fun _ => True) (okp := fun _ => True) ?hr ?hp (fun _ hk => hk) trivial (Below.refl _ _) (Nat.le_refl _) (by simp) ?_; (case hd => rfl); (case hg => rfl); (case hr => first | (go_simp; done) | (go_simp; rfl)); (case hp => exact (Reps.one (show Kd.M (Kd.int .u64) _ _ _ 1 [.int .u64 1] from rfl) (Reps.none _ _))); intro v314 w2 ho3 hb hg_ hnew_; clear hg_ hnew_; (first | rw [← Ny313.out] at ho3 | (simp only [Int.reduceToNat] at ho3; rw [← Ny313.out] at ho3)); have n0_ := Aside0.mk (Kd.R_lower ho3 (below_size (by repeat (first | (with_reducible first | exact HB.out | apply below_alloc | apply pw_below_drewN | apply below_drew1 | refine below_set ?_ GE312.out) | exact HB.out)))); have n1_ := Aside0.mk (blk_below (g := gb312) (o := .cells #[.int .u64 0, .int .i64 0, .int .i64 0, .bool false, .slice none 0 0, .int .i64 0] 25 (0, 0)) (by (with_reducible repeat (first | refine blk_drewN ?_ _ | refine blk_drew ?_ | refine blk_alloc ?_ _)); exact BK312.out) hb); have n2_ := Aside0.mk (below_step (by repeat (first | (with_reducible first | exact HB.out | apply below_alloc | apply pw_below_drewN | apply below_drew1 | refine below_set ?_ GE312.out) | exact HB.out)) hb); clear BK312; clear HB; have HO315 := n0_; have BK312 := n1_; have HB := n2_; clear n0_ n1_ n2_; clear hb ho3; obtain ⟨Ao4, co4, eo4⟩ := Kd.R_slice HO315.out; subst eo4; have hcz5_0 : w2.cell? ⟨gb312, 0, none⟩ = some (.int .u64 0) := (blk_cell BK312.out 0).trans rfl; have hcz5_1 : w2.cell? ⟨gb312, 1, none⟩ = some (.int .i64 0) := (blk_cell BK312.out 1).trans rfl; have hcz5_2 : w2.cell? ⟨gb312, 2, none⟩ = some (.int .i64 0) := (blk_cell BK312.out 2).trans rfl; have hcz5_3 : w2.cell? ⟨gb312, 3, none⟩ = some (.bool false) := (blk_cell BK312.out 3).trans rfl; have hcz5_4 : w2.cell? ⟨gb312, 4, none⟩ = some (.slice none 0 0) := (blk_cell BK312.out 4).trans rfl; have hcz5_5 : w2.cell? ⟨gb312, 5, none⟩ = some (.int .i64 0) := (blk_cell BK312.out 5).trans rfl; have hfz5_0 := blk_frozen BK312.out 0; have hfz5_1 := blk_frozen BK312.out 1; have hfz5_2 := blk_frozen BK312.out 2; have hfz5_3 := blk_frozen BK312.out 3; have hfz5_4 := blk_frozen BK312.out 4; have hfz5_5 := blk_frozen BK312.out 5))
  refine bodyPost_ret (results_cell_row rfl _ _ gb312 25 #[.int .u64 2, .int .i64 0, .int .i64 1, .bool false, .slice Ao4 y313.length co4, .int .i64 (-1)] (0, 0) _ rfl (by (with_reducible repeat (first | refine blk_drewN ?_ _ | refine blk_drew ?_ | refine blk_alloc ?_ _)); refine blk_put (cs := #[.int .u64 2, .int .i64 0, .int .i64 1, .bool false, .slice Ao4 y313.length co4, .int .i64 0]) ?_ 5 _ rfl; (with_reducible repeat (first | refine blk_drewN ?_ _ | refine blk_drew ?_ | refine blk_alloc ?_ _)); refine blk_put (cs := #[.int .u64 2, .int .i64 0, .int .i64 1, .bool false, .slice none 0 0, .int .i64 0]) ?_ 4 _ rfl; (with_reducible repeat (first | refine blk_drewN ?_ _ | refine blk_drew ?_ | refine blk_alloc ?_ _)); refine blk_put (cs := #[.int .u64 2, .int .i64 0, .int .i64 1, .bool false, .slice none 0 0, .int .i64 0]) ?_ 3 _ rfl; (with_reducible repeat (first | refine blk_drewN ?_ _ | refine blk_drew ?_ | refine blk_alloc ?_ _)); refine blk_put (cs := #[.int .u64 2, .int .i64 0, .int .i64 0, .bool false, .slice none 0 0, .int .i64 0]) ?_ 2 _ rfl; (with_reducible repeat (first | refine blk_drewN ?_ _ | refine blk_drew ?_ | refine blk_alloc ?_ _)); refine blk_put (cs := #[.int .u64 2, .int .i64 0, .int .i64 0, .bool false, .slice none 0 0, .int .i64 0]) ?_ 1 _ rfl; (with_reducible repeat (first | refine blk_drewN ?_ _ | refine blk_drew ?_ | refine blk_alloc ?_ _)); refine blk_put (cs := #[.int .u64 0, .int .i64 0, .int .i64 0, .bool false, .slice none 0 0, .int .i64 0]) ?_ 0 _ rfl; (with_reducible repeat (first | refine blk_drewN ?_ _ | refine blk_drew ?_ | refine blk_alloc ?_ _)); exact BK312.out) Tryz.underlying25 rfl (by kernel_rfl)) rfl ?_
  exact ⟨_, by first | rfl | (simp [errW_none, errW_some] <;> rfl) | (simp [*, errW_none, errW_some] <;> rfl), by (with_reducible repeat (first | apply Kd.R_alloc | apply Kd.R_drewN | apply Kd.R_drew)); exact Kd.R_mono (Kd.R_far (p := ⟨gb312, 5, none⟩) (Kd.R_far (p := ⟨gb312, 4, none⟩) (Kd.R_far (p := ⟨gb312, 3, none⟩) (Kd.R_far (p := ⟨gb312, 2, none⟩) (Kd.R_far (p := ⟨gb312, 1, none⟩) (Kd.R_far (p := ⟨gb312, 0, none⟩) (Kd.R_types HO315.out BK312.out (by decide)) (fun _ hk => hk.2) (.int .u64 2)) (fun _ hk => hk.2) (.int .i64 0)) (fun _ hk => hk.2) (.int .i64 1)) (fun _ hk => hk.2) (.bool false)) (fun _ hk => hk.2) (.slice Ao4 y313.length co4)) (fun _ hk => hk.2) (.int .i64 (-1))) (fun _ hk => trivial), by repeat (first | (with_reducible first | exact HB.out | apply below_alloc | apply pw_below_drewN | apply below_drew1 | refine below_set ?_ GE312.out) | exact HB.out)⟩

-- NOT PRINTED: function 20 (laws_alive)

end Go.Proofs.YtfnknldbjckgoaaGreatDoor.Sp
end
