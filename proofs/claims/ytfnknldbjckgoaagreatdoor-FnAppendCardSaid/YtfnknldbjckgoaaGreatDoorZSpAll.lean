/-
  Several texts in one (merged by program).
-/
import Derived.Test.YtfnknldbjckgoaaGreatDoorZSp0
/-! ## SpSSmall -/
section
namespace Go.Proofs.YtfnknldbjckgoaaGreatDoor.Sp
open Go.RowKit Go.Proofs.YtfnknldbjckgoaaGreatDoorW.PrintWords Go.Proofs.YtfnknldbjckgoaaGreatDoorW.PrintLast Go.Proofs.YtfnknldbjckgoaaGreatDoorW.PrintMore
attribute [local go_sem] max2_int min2_int max_two min_two max_three min_three max_four min_four
set_option linter.unusedVariables false
set_option linter.unusedSimpArgs false

/-! ### spec_Small: function 44 -/
def spec_Small.l0 : Nat → Int → List Int → Option (List Int)
  | 0, _, _ => none
  | k + 1, x0, x3 => if x0 > 0 then (if x3.length < 17592186044416 then (spec_Small.l0 k (wrap64 (Int.tdiv x0 65536)) (x3 ++ [Int.tmod x0 65536])) else (none)) else (some x3)
def spec_Small.f (k : Nat) (a0 : Int) : Option (List Int) := spec_Small.l0 k a0 (([] : List Int))
theorem spec_Small.mono_l : ∀ k, (∀ y0 y1, LeO (spec_Small.l0 k y0 y1) (spec_Small.l0 (k + 1) y0 y1))
  | 0 => fun _ _ r h => by simp [spec_Small.l0] at h
  | k + 1 => by
    have ih0 := spec_Small.mono_l k
    · intro y0 y1
      unfold spec_Small.l0
      repeat' first
      | (with_reducible exact ih0 _ _)
      | (with_reducible exact LeO.refl _)
      | (with_reducible exact LeO.none _)
      | (with_reducible refine LeO.ite ?_ ?_)
      | (with_reducible refine LeO.bind ?_ (fun _ => ?_))
      | exact ih0 _ _
      | exact LeO.none _
      | refine LeO.ite ?_ ?_
      | refine LeO.bind ?_ (fun _ => ?_)
theorem spec_Small.mono : ∀ a0 k, LeO (spec_Small.f k a0) (spec_Small.f (k + 1) a0) := by
  intro a0 k
  have ih0 := spec_Small.mono_l k
  unfold spec_Small.f
  repeat' first
      | (with_reducible exact ih0 _ _)
      | (with_reducible exact LeO.refl _)
      | (with_reducible exact LeO.none _)
      | (with_reducible refine LeO.ite ?_ ?_)
      | (with_reducible refine LeO.bind ?_ (fun _ => ?_))
      | exact ih0 _ _
      | exact LeO.none _
      | refine LeO.ite ?_ ?_
      | refine LeO.bind ?_ (fun _ => ?_)
set_option maxHeartbeats 8000000 in
set_option maxRecDepth 100000 in
theorem spec_Small.calls (k : Nat) (a0 : Int) (r : List Int) (w : World) (h : spec_Small.f k a0 = some r) :
    Calls Tryz.prog 44 #[.int .i64 a0] w fun e w' => ∃ v0_ : Value, e = .returned (v0_) ∧ Kd.R (Kd.int .i64) 3 w' w.heap.size (fun _ => True) v0_ r ∧ Below w.heap.size w w' := by
  have HB := Aside0.mk (Below.refl w.heap.size w)
  have H : (spec_Small.l0 k a0 (([] : List Int))) = some r := h
  clear h
  obtain ⟨y351, hy351⟩ : ∃ y_ : List Int, y_ = (([] : List Int)) := ⟨_, rfl⟩
  replace H : (spec_Small.l0 k a0 y351) = some r := by first | (rw [hy351]; with_reducible exact H) | (have H2_ := (Option.bind_some _ _).symm.trans H; rw [hy351]; with_reducible exact H2_) | (have H2_ := (Option.bind_some _ _).symm.trans H; with_reducible exact H2_) | with_reducible exact H | (rw [hy351]; exact H) | exact H
  have Ny351 := Aside0.mk hy351
  clear hy351
  have H' := Aside0.mk H
  clear H
  go_enter Tryz.func44, Tryz.ntmps44
  go_wp2_with (first | ((with_reducible refine gate_dst (N := 4) rfl ?_); refine Kd.R_lit (Kd.int .i64) _ 3 ?hg (N := 4) ?hd (xs := ([] : List Int)) (inner := []) (ok := fun _ => True) (okp := fun _ => True) ?hr ?hp (fun _ hk => hk) trivial (Below.refl _ _) (Nat.le_refl _) (by simp) ?_; (case hd => rfl); (case hg => rfl); (case hr => first | (go_simp; done) | (go_simp; rfl)); (case hp => exact (Reps.none _ _)); intro v352 w2 ho3 hb hg_ hnew_; clear hg_ hnew_; (first | rw [← Ny351.out] at ho3 | (simp only [Int.reduceToNat] at ho3; rw [← Ny351.out] at ho3)); have n0_ := Aside0.mk (Kd.R_lower ho3 (below_size (by repeat (first | (with_reducible first | exact HB.out | apply below_alloc | apply pw_below_drewN | apply below_drew1) | exact HB.out)))); have n1_ := Aside0.mk (below_step (by repeat (first | (with_reducible first | exact HB.out | apply below_alloc | apply pw_below_drewN | apply below_drew1) | exact HB.out)) hb); clear HB; have HO353 := n0_; have HB := n1_; clear n0_ n1_; clear hb ho3))
  go_loopg [0, 3] k (fun kq v0 v3 w' => ∃ (x0_1 : Int) (x3_1 : List Int), v0 = .int .i64 x0_1 ∧ Aside0 (spec_Small.l0 kq x0_1 x3_1 = some r) ∧ Aside0 (kq ≤ k) ∧ Aside0 (Kd.R (Kd.int .i64) 3 w' w.heap.size (fun _ => True) v3 x3_1) ∧ Aside0 (Below w.heap.size w w'))
  case atStart => exact ⟨(a0), (y351), (by first | rfl | (simp; done) | (simp [*]; done)), H', ⟨Nat.le_refl _⟩, ⟨by (with_reducible repeat (first | apply Kd.R_alloc | apply Kd.R_drewN | apply Kd.R_drew)); exact HO353.out⟩, ⟨by repeat (first | (with_reducible first | exact HB.out | apply below_alloc | apply pw_below_drewN | apply below_drew1) | exact HB.out)⟩⟩
  case round =>
    clear H'
    try clear p2
    obtain ⟨x0_1, x3_1, rfl, HA, HK1, HO_3, HB⟩ := hrel
    cases gk with
    | zero => exact absurd HA.out (by simp [spec_Small.l0])
    | succ k1 =>
      have H := HA.out
      clear HA
      simp only [spec_Small.l0] at H
      by_cases c4 : x0_1 > 0
      · rw [if_pos c4] at H
        have c4b0 : decide (0 < x0_1) = true := decide_eq_true c4
        clear c4
        by_cases c5 : x3_1.length < 17592186044416
        · rw [if_pos c5] at H
          have LMc5 := Aside0.mk c5
          clear c5
          obtain ⟨y354, hy354⟩ : ∃ y_ : List Int, y_ = (x3_1 ++ [Int.tmod x0_1 65536]) := ⟨_, rfl⟩
          replace H : (spec_Small.l0 k1 (wrap64 (Int.tdiv x0_1 65536)) y354) = some r := by first | (rw [hy354]; with_reducible exact H) | (have H2_ := (Option.bind_some _ _).symm.trans H; rw [hy354]; with_reducible exact H2_) | (have H2_ := (Option.bind_some _ _).symm.trans H; with_reducible exact H2_) | with_reducible exact H | (rw [hy354]; exact H) | exact H
          have Ny354 := Aside0.mk hy354
          clear hy354
          have H' := Aside0.mk H
          clear H
          go_wp2_with (first | ((with_reducible refine gate_builtin (b := .append) (xs := #[.tmp 9, .tmp 12]) rfl ?_); at_builtin; refine Kd.R_append (Kd.int .i64) (w0 := w) w.heap.size rfl (.tmp 9) (.tmp 12) 28 3 (.int .i64 0) 8 rfl Tryz.underlying28 info3 rfl (by decide) (by omega) u3 x3_1 (Int.tmod x0_1 65536) [.int .i64 (Int.tmod x0_1 65536)] (fun _ => True) (fun _ => False) rfl rfl ?aP (fun _ hk => hk.elim) ?aF ?aO ?aB ?aS ?aL ?_; (case aP => exact rfl); (case aB => exact (by repeat (first | (with_reducible first | exact HB.out | apply below_alloc | apply pw_below_drewN | apply below_drew1) | exact HB.out))); (case aF => exact (fun _ _ => trivial)); (case aO => exact (by (with_reducible repeat (first | apply Kd.R_alloc | apply Kd.R_drewN | apply Kd.R_drew)); exact HO_3.out)); (case aS => exact (below_size (by repeat (first | (with_reducible first | exact HB.out | apply below_alloc | apply pw_below_drewN | apply below_drew1) | exact HB.out)))); (case aL => have := LMc5.out; omega); intro v355 w6 ho hb hg hat; rw [← Ny354.out] at ho; have n0_ := Aside0.mk (hb); have n1_ := Aside0.mk (ho); clear HB; clear HO_3; have HB := n0_; have HO356 := n1_; clear n0_ n1_; clear ho hb hg hat))
          go_roundg k1
          case measure => have := HK1.out; omega
          case rel => exact ⟨(wrap64 (Int.tdiv x0_1 65536)), (y354), (by first | rfl | (simp; done) | (simp [*]; done)), H', ⟨by have := HK1.out; omega⟩, ⟨by (with_reducible repeat (first | apply Kd.R_alloc | apply Kd.R_drewN | apply Kd.R_drew)); exact HO356.out⟩, ⟨by repeat (first | (with_reducible first | exact HB.out | apply below_alloc | apply pw_below_drewN | apply below_drew1) | exact HB.out)⟩⟩
        · rw [if_neg c5] at H
          exact absurd H (by simp)
      · rw [if_neg c4] at H
        have c4b0 : decide (0 < x0_1) = false := decide_eq_false c4
        clear c4
        obtain rfl := Option.some.inj H
        go_wp2
        go_ret
        exact ⟨_, by first | rfl | (simp [errW_none, errW_some] <;> rfl) | (simp [*, errW_none, errW_some] <;> rfl), by (with_reducible repeat (first | apply Kd.R_alloc | apply Kd.R_drewN | apply Kd.R_drew)); exact HO_3.out, by repeat (first | (with_reducible first | exact HB.out | apply below_alloc | apply pw_below_drewN | apply below_drew1) | exact HB.out)⟩

end Go.Proofs.YtfnknldbjckgoaaGreatDoor.Sp
end

/-! ## SpSTrim -/
section
namespace Go.Proofs.YtfnknldbjckgoaaGreatDoor.Sp
open Go.RowKit Go.Proofs.YtfnknldbjckgoaaGreatDoorW.PrintWords Go.Proofs.YtfnknldbjckgoaaGreatDoorW.PrintLast Go.Proofs.YtfnknldbjckgoaaGreatDoorW.PrintMore
attribute [local go_sem] max2_int min2_int max_two min_two max_three min_three max_four min_four
set_option linter.unusedVariables false
set_option linter.unusedSimpArgs false

/-! ### spec_trim: function 39 -/
def spec_trim.l0 : Nat → List Int → Option (List Int)
  | 0, _ => none
  | k + 1, x0 => if (x0.length : Int) > 0 then (if 0 ≤ (wrap64 ((x0.length : Int) - 1)) then (if (wrap64 ((x0.length : Int) - 1)) < (x0.length : Int) then (if (rd x0 (wrap64 ((x0.length : Int) - 1))) = 0 then (if (wrap64 ((x0.length : Int) - 1)) ≤ (x0.length : Int) then (spec_trim.l0 k (x0.take ((wrap64 ((x0.length : Int) - 1)) : Int).toNat)) else (none)) else (some x0)) else (none)) else (none)) else (some x0)
def spec_trim.f (k : Nat) (l0 : List Int) : Option (List Int) := spec_trim.l0 k l0
theorem spec_trim.mono_l : ∀ k, (∀ y0, LeO (spec_trim.l0 k y0) (spec_trim.l0 (k + 1) y0))
  | 0 => fun _ r h => by simp [spec_trim.l0] at h
  | k + 1 => by
    have ih0 := spec_trim.mono_l k
    · intro y0
      unfold spec_trim.l0
      repeat' first
      | (with_reducible exact ih0 _)
      | (with_reducible exact LeO.refl _)
      | (with_reducible exact LeO.none _)
      | (with_reducible refine LeO.ite ?_ ?_)
      | (with_reducible refine LeO.bind ?_ (fun _ => ?_))
      | exact ih0 _
      | exact LeO.none _
      | refine LeO.ite ?_ ?_
      | refine LeO.bind ?_ (fun _ => ?_)
theorem spec_trim.mono : ∀ a0 k, LeO (spec_trim.f k a0) (spec_trim.f (k + 1) a0) := by
  intro a0 k
  have ih0 := spec_trim.mono_l k
  unfold spec_trim.f
  repeat' first
      | (with_reducible exact ih0 _)
      | (with_reducible exact LeO.refl _)
      | (with_reducible exact LeO.none _)
      | (with_reducible refine LeO.ite ?_ ?_)
      | (with_reducible refine LeO.bind ?_ (fun _ => ?_))
      | exact ih0 _
      | exact LeO.none _
      | refine LeO.ite ?_ ?_
      | refine LeO.bind ?_ (fun _ => ?_)
set_option maxHeartbeats 8000000 in
set_option maxRecDepth 100000 in
theorem spec_trim.calls (k : Nat) (P0_ : Nat → Prop) (A0 : Option Addr) (c0 : Nat) (l0 : List Int) (r : List Int) (w : World) (hs0 : Kd.V (Kd.int .i64) 3 w w.heap.size (fun k_ => P0_ k_) (.slice A0 l0.length c0) l0) (h : spec_trim.f k l0 = some r) :
    Calls Tryz.prog 39 #[.slice A0 l0.length c0] w fun e w' => ∃ v0_ : Value, e = .returned (v0_) ∧ Kd.V (Kd.int .i64) 3 w' w.heap.size (fun k_ => (P0_ k_ ∨ w.heap.size ≤ k_)) v0_ r ∧ Below w.heap.size w w' := by
  have HO0 := Aside0.mk (show Kd.V (Kd.int .i64) 3 w w.heap.size (fun k_ => (P0_ k_ ∨ w.heap.size ≤ k_)) (.slice A0 l0.length c0) l0 from Kd.V_mono hs0 (fun k_ hk => .inl hk))
  have HB := Aside0.mk (Below.refl w.heap.size w)
  have H : (spec_trim.l0 k l0) = some r := h
  clear h
  have H' := Aside0.mk H
  clear H
  go_enter Tryz.func39, Tryz.ntmps39
  go_wp2
  go_loopg [0] k (fun kq v0 w' => ∃ (x0_1 : List Int), Aside0 (spec_trim.l0 kq x0_1 = some r) ∧ Aside0 (kq ≤ k) ∧ Aside0 (Kd.V (Kd.int .i64) 3 w' w.heap.size (fun k_ => (P0_ k_ ∨ w.heap.size ≤ k_)) v0 x0_1) ∧ Aside0 (Below w.heap.size w w'))
  case atStart => exact ⟨(l0), H', ⟨Nat.le_refl _⟩, ⟨by (with_reducible repeat (first | apply Kd.V_alloc | apply Kd.V_drewN | apply Kd.V_drew)); exact HO0.out⟩, ⟨by repeat (first | (with_reducible first | exact HB.out | apply below_alloc | apply pw_below_drewN | apply below_drew1) | exact HB.out)⟩⟩
  case round =>
    clear H'
    obtain ⟨x0_1, HA, HK1, HO_0, HB⟩ := hrel
    cases gk with
    | zero => exact absurd HA.out (by simp [spec_trim.l0])
    | succ k1 =>
      have H := HA.out
      clear HA
      simp only [spec_trim.l0] at H
      by_cases c2 : (x0_1.length : Int) > 0
      · rw [if_pos c2] at H
        have c2b0 : decide (0 < (x0_1.length : Int)) = true := decide_eq_true c2
        have c2b1 : decide (0 < x0_1.length) = true := decide_eq_true (by omega)
        clear c2
        obtain ⟨ji3, hji3⟩ : ∃ j_ : Int, (wrap64 ((x0_1.length : Int) - 1)) = j_ := ⟨_, rfl⟩
        replace H : (if 0 ≤ (ji3) then (if (ji3) < (x0_1.length : Int) then (if (rd x0_1 (ji3)) = 0 then (if (ji3) ≤ (x0_1.length : Int) then (spec_trim.l0 k1 (x0_1.take ((ji3) : Int).toNat)) else (none)) else (some x0_1)) else (none)) else (none)) = some r := by first | (rw [hji3] at H; exact H) | (simp only [hji3] at H ⊢; exact H)
        have hji3w : (IntKind.i64.wrap ((x0_1.length : Int) - 1)) = ji3 := (i64_w _).trans hji3
        by_cases c4 : 0 ≤ (ji3)
        · rw [if_pos c4] at H
          have c4b0 : decide (0 ≤ (ji3)) = true := decide_eq_true c4
          clear c4
          by_cases c5 : (ji3) < (x0_1.length : Int)
          · rw [if_pos c5] at H
            have c5b0 : decide ((ji3) < (x0_1.length : Int)) = true := decide_eq_true c5
            clear c5
            by_cases c6 : (rd x0_1 (ji3)) = 0
            · rw [if_pos c6] at H
              have c6b0 : ((rd x0_1 (ji3)) == 0) = true := beq_iff_eq.mpr c6
              have c6b1 : ((rd x0_1 (ji3)) != 0) = false := bne_eq_false_iff_eq.mpr c6
              clear c6
              have c7b0 := eq_true (of_decide_eq_true (by first | (with_reducible assumption) | assumption) : 0 ≤ (ji3))
              by_cases c8 : (ji3) ≤ (x0_1.length : Int)
              · rw [if_pos c8] at H
                have c8b0 := eq_true c8
                have c8b1 : decide ((ji3) ≤ (x0_1.length : Int)) = true := decide_eq_true c8
                clear c8
                obtain ⟨y326, hy326⟩ : ∃ y_ : List Int, y_ = (x0_1.take ((ji3) : Int).toNat) := ⟨_, rfl⟩
                replace H : (spec_trim.l0 k1 y326) = some r := by first | (rw [hy326]; with_reducible exact H) | (have H2_ := (Option.bind_some _ _).symm.trans H; rw [hy326]; with_reducible exact H2_) | (have H2_ := (Option.bind_some _ _).symm.trans H; with_reducible exact H2_) | with_reducible exact H | (rw [hy326]; exact H) | exact H
                have Ny326 := Aside0.mk hy326
                clear hy326
                have H' := Aside0.mk H
                clear H
                obtain ⟨Ao9, co9, eo9⟩ := Kd.V_slice HO_0.out
                subst eo9
                have p325 : 0 ≤ ((ji3) : Int) := of_decide_eq_true (by first | (with_reducible assumption) | assumption)
                have q325 : (ji3) < (x0_1.length : Int) := of_decide_eq_true (by first | (with_reducible assumption) | assumption)
                obtain ⟨ad325, e325, hx325_0⟩ := Kd.at_int (Kd.V_reads' HO_0.out).2.2 (ji3) p325 q325
                cases e325
                replace p325 := eq_true p325
                replace q325 := eq_true q325
                have q10 : ((ji3) : Int) ≤ ((x0_1.length : Int) : Int) := of_decide_eq_true (by first | (with_reducible assumption) | assumption)
                obtain ⟨i010, hi010, _, hsz10, _⟩ := info_parts info3
                have hroom10 : x0_1.length ≤ co9 := (Kd.V_reads' HO_0.out).2.1
                have hC10 : Kd.F (Kd.int .i64) _ _ (some ad325) x0_1.length x0_1 := (Kd.V_at (base := w.heap.size) HO_0.out).2.2
                have hcut10 := cut_to (P := Tryz.prog) 28 3 .i64 Tryz.underlying28 hi010 (some ad325) x0_1.length co9 (ji3) (of_decide_eq_true (by first | (with_reducible assumption) | assumption)) q10 hroom10
                have hr10 := Kd.F_take (m := ((ji3) : Int).toNat) hC10 (by omega)
                have hy10 : y326.length = ((ji3) : Int).toNat := (by rw [Ny326.out, List.length_take]; omega)
                rw [← Ny326.out] at hr10
                rw [← hy10] at hcut10
                have HO330 := Aside0.mk (show Kd.V (Kd.int .i64) 3 _ w.heap.size _ (.slice (some ad325) y326.length co9) y326 from Kd.V_mk (by omega) hr10)
                have HC330 := Aside0.mk (show y326.length ≤ co9 from by omega)
                clear hr10 hC10 hroom10 hi010 hsz10
                have KY10 := Aside0.mk hy10
                clear hy10
                replace q10 := eq_true q10
                go_wp2
                go_roundg k1
                case measure => have := HK1.out; omega
                case rel => exact ⟨(y326), H', ⟨by have := HK1.out; omega⟩, ⟨by (with_reducible repeat (first | apply Kd.V_alloc | apply Kd.V_drewN | apply Kd.V_drew)); exact HO330.out⟩, ⟨by repeat (first | (with_reducible first | exact HB.out | apply below_alloc | apply pw_below_drewN | apply below_drew1) | exact HB.out)⟩⟩
              · rw [if_neg c8] at H
                exact absurd H (by simp)
            · rw [if_neg c6] at H
              have c6b0 : ((rd x0_1 (ji3)) == 0) = false := beq_eq_false_iff_ne.mpr c6
              have c6b1 : ((rd x0_1 (ji3)) != 0) = true := bne_iff_ne.mpr c6
              obtain rfl := Option.some.inj H
              obtain ⟨Ao11, co11, eo11⟩ := Kd.V_slice HO_0.out
              subst eo11
              have p325 : 0 ≤ ((ji3) : Int) := of_decide_eq_true (by first | (with_reducible assumption) | assumption)
              have q325 : (ji3) < (x0_1.length : Int) := of_decide_eq_true (by first | (with_reducible assumption) | assumption)
              obtain ⟨ad325, e325, hx325_0⟩ := Kd.at_int (Kd.V_reads' HO_0.out).2.2 (ji3) p325 q325
              cases e325
              replace p325 := eq_true p325
              replace q325 := eq_true q325
              go_wp2
              go_ret
              exact ⟨_, by first | rfl | (simp [errW_none, errW_some] <;> rfl) | (simp only [← hji3]; first | rfl | (simp [errW_none, errW_some] <;> rfl)) | (simp [*, errW_none, errW_some] <;> rfl), by (with_reducible repeat (first | apply Kd.V_alloc | apply Kd.V_drewN | apply Kd.V_drew)); exact HO_0.out, by repeat (first | (with_reducible first | exact HB.out | apply below_alloc | apply pw_below_drewN | apply below_drew1) | exact HB.out)⟩
          · rw [if_neg c5] at H
            exact absurd H (by simp)
        · rw [if_neg c4] at H
          exact absurd H (by simp)
      · rw [if_neg c2] at H
        have c2b0 : decide (0 < (x0_1.length : Int)) = false := decide_eq_false c2
        have c2b1 : decide (0 < x0_1.length) = false := decide_eq_false (by omega)
        clear c2
        obtain rfl := Option.some.inj H
        obtain ⟨Ao12, co12, eo12⟩ := Kd.V_slice HO_0.out
        subst eo12
        go_wp2
        go_ret
        exact ⟨_, by first | rfl | (simp [errW_none, errW_some] <;> rfl) | (simp [*, errW_none, errW_some] <;> rfl), by (with_reducible repeat (first | apply Kd.V_alloc | apply Kd.V_drewN | apply Kd.V_drew)); exact HO_0.out, by repeat (first | (with_reducible first | exact HB.out | apply below_alloc | apply pw_below_drewN | apply below_drew1) | exact HB.out)⟩

end Go.Proofs.YtfnknldbjckgoaaGreatDoor.Sp
end

/-! ## SpSOf -/
section
namespace Go.Proofs.YtfnknldbjckgoaaGreatDoor.Sp
open Go.RowKit Go.Proofs.YtfnknldbjckgoaaGreatDoorW.PrintWords Go.Proofs.YtfnknldbjckgoaaGreatDoorW.PrintLast Go.Proofs.YtfnknldbjckgoaaGreatDoorW.PrintMore
attribute [local go_sem] max2_int min2_int max_two min_two max_three min_three max_four min_four
set_option linter.unusedVariables false
set_option linter.unusedSimpArgs false

/-! ### spec_Of: function 25 -/
mutual
def spec_Of.l0 : Nat → List Int → List Int → Int → Int → Option (List Int)
  | 0, _, _, _, _ => none
  | k + 1, x3, x8, x9, x10 => if x10 < x9 then (if 0 ≤ x10 then (if x10 < (x8.length : Int) then (spec_Of.l1 k x3 (rd x8 x10) 0 x8 x9 x10) else (none)) else (none)) else ((spec_trim.f k x3).bind fun t334 => (some t334))
def spec_Of.l1 : Nat → List Int → Int → Int → List Int → Int → Int → Option (List Int)
  | 0, _, _, _, _, _, _ => none
  | k + 1, x3, x5, x6, x8, x9, x10 => if x6 < 4 then (if 0 ≤ (wrap64 (16 * x6)) then (if x3.length < 17592186044416 then (spec_Of.l1 k (x3 ++ [wrap64 (Go.bits .and .u64 (shr .u64 x5 (wrap64 (16 * x6))) 65535)]) x5 (wrap64 (x6 + 1)) x8 x9 x10) else (none)) else (none)) else (spec_Of.l0 k x3 x8 x9 (wrap64 (x10 + 1)))
end
def spec_Of.f (k : Nat) (l0 : List Int) : Option (List Int) := spec_Of.l0 k (([] : List Int)) l0 (l0.length : Int) 0
theorem spec_Of.mono_l : ∀ k, (∀ y0 y1 y2 y3, LeO (spec_Of.l0 k y0 y1 y2 y3) (spec_Of.l0 (k + 1) y0 y1 y2 y3)) ∧ (∀ y0 y1 y2 y3 y4 y5, LeO (spec_Of.l1 k y0 y1 y2 y3 y4 y5) (spec_Of.l1 (k + 1) y0 y1 y2 y3 y4 y5))
  | 0 => ⟨fun _ _ _ _ r h => by simp [spec_Of.l0] at h, fun _ _ _ _ _ _ r h => by simp [spec_Of.l1] at h⟩
  | k + 1 => by
    obtain ⟨ih0, ih1⟩ := spec_Of.mono_l k
    refine ⟨?_, ?_⟩
    · intro y0 y1 y2 y3
      unfold spec_Of.l0
      repeat' first
      | (with_reducible exact ih0 _ _ _ _)
      | (with_reducible exact ih1 _ _ _ _ _ _)
      | (with_reducible exact spec_trim.mono _ _)
      | (with_reducible exact LeO.refl _)
      | (with_reducible exact LeO.none _)
      | (with_reducible refine LeO.ite ?_ ?_)
      | (with_reducible refine LeO.bind ?_ (fun _ => ?_))
      | exact ih0 _ _ _ _
      | exact ih1 _ _ _ _ _ _
      | exact spec_trim.mono _ _
      | exact LeO.none _
      | refine LeO.ite ?_ ?_
      | refine LeO.bind ?_ (fun _ => ?_)
    · intro y0 y1 y2 y3 y4 y5
      unfold spec_Of.l1
      repeat' first
      | (with_reducible exact ih0 _ _ _ _)
      | (with_reducible exact ih1 _ _ _ _ _ _)
      | (with_reducible exact spec_trim.mono _ _)
      | (with_reducible exact LeO.refl _)
      | (with_reducible exact LeO.none _)
      | (with_reducible refine LeO.ite ?_ ?_)
      | (with_reducible refine LeO.bind ?_ (fun _ => ?_))
      | exact ih0 _ _ _ _
      | exact ih1 _ _ _ _ _ _
      | exact spec_trim.mono _ _
      | exact LeO.none _
      | refine LeO.ite ?_ ?_
      | refine LeO.bind ?_ (fun _ => ?_)
theorem spec_Of.mono : ∀ a0 k, LeO (spec_Of.f k a0) (spec_Of.f (k + 1) a0) := by
  intro a0 k
  obtain ⟨ih0, ih1⟩ := spec_Of.mono_l k
  unfold spec_Of.f
  repeat' first
      | (with_reducible exact ih0 _ _ _ _)
      | (with_reducible exact ih1 _ _ _ _ _ _)
      | (with_reducible exact spec_trim.mono _ _)
      | (with_reducible exact LeO.refl _)
      | (with_reducible exact LeO.none _)
      | (with_reducible refine LeO.ite ?_ ?_)
      | (with_reducible refine LeO.bind ?_ (fun _ => ?_))
      | exact ih0 _ _ _ _
      | exact ih1 _ _ _ _ _ _
      | exact spec_trim.mono _ _
      | exact LeO.none _
      | refine LeO.ite ?_ ?_
      | refine LeO.bind ?_ (fun _ => ?_)
set_option maxHeartbeats 8000000 in
set_option maxRecDepth 100000 in
theorem spec_Of.calls (k : Nat) (A0 : Option Addr) (c0 : Nat) (l0 : List Int) (r : List Int) (w : World) (hr0 : Kd.C (Kd.int .u64) w A0 l0.length l0) (hc0 : l0.length ≤ c0) (h : spec_Of.f k l0 = some r) :
    Calls Tryz.prog 25 #[.slice A0 l0.length c0] w fun e w' => ∃ v0_ : Value, e = .returned (v0_) ∧ Kd.V (Kd.int .i64) 3 w' w.heap.size (fun k_ => (w.heap.size ≤ k_)) v0_ r ∧ Below w.heap.size w w' := by
  have HR0 := Aside0.mk hr0
  have HC0 := Aside0.mk hc0
  clear hr0 hc0
  have HB := Aside0.mk (Below.refl w.heap.size w)
  have H : (spec_Of.l0 k (([] : List Int)) l0 (l0.length : Int) 0) = some r := h
  clear h
  obtain ⟨y331, hy331⟩ : ∃ y_ : List Int, y_ = (([] : List Int)) := ⟨_, rfl⟩
  replace H : (spec_Of.l0 k y331 l0 (l0.length : Int) 0) = some r := by first | (rw [hy331]; with_reducible exact H) | (have H2_ := (Option.bind_some _ _).symm.trans H; rw [hy331]; with_reducible exact H2_) | (have H2_ := (Option.bind_some _ _).symm.trans H; with_reducible exact H2_) | with_reducible exact H | (rw [hy331]; exact H) | exact H
  have Ny331 := Aside0.mk hy331
  clear hy331
  have H' := Aside0.mk H
  clear H
  go_enter Tryz.func25, Tryz.ntmps25
  go_wp2_with (first | ((with_reducible refine gate_dst (N := 7) rfl ?_); refine Kd.R_lit (Kd.int .i64) _ 3 ?hg (N := 7) ?hd (xs := ([] : List Int)) (inner := []) (ok := fun _ => True) (okp := fun _ => True) ?hr ?hp (fun _ hk => hk) trivial (Below.refl _ _) (Nat.le_refl _) (by simp) ?_; (case hd => rfl); (case hg => rfl); (case hr => first | (go_simp; done) | (go_simp; rfl)); (case hp => exact (Reps.none _ _)); intro v332 w2 ho3 hb hg_ hnew_; clear hg_ hnew_; (first | rw [← Ny331.out] at ho3 | (simp only [Int.reduceToNat] at ho3; rw [← Ny331.out] at ho3)); have n0_ := Aside0.mk (Kd.R_lower (Kd.R_newM (M := fun k_ => (w.heap.size ≤ k_)) ho3 (below_size (by repeat (first | (with_reducible first | exact HB.out | apply below_alloc | apply pw_below_drewN | apply below_drew1) | exact HB.out))) (fun k_ h_ => h_)) (below_size (by repeat (first | (with_reducible first | exact HB.out | apply below_alloc | apply pw_below_drewN | apply below_drew1) | exact HB.out)))); have n1_ := Aside0.mk (below_step (by repeat (first | (with_reducible first | exact HB.out | apply below_alloc | apply pw_below_drewN | apply below_drew1) | exact HB.out)) hb); clear HB; have HO333 := n0_; have HB := n1_; clear n0_ n1_; clear hb ho3))
  go_loopg [3, 10] k (fun kq v3 v10 w' => ∃ (x3_1 : List Int) (x10_1 : Int), v10 = .int .i64 x10_1 ∧ Aside0 (spec_Of.l0 kq x3_1 l0 (l0.length : Int) x10_1 = some r) ∧ Aside0 (kq ≤ k) ∧ Aside0 (Kd.R (Kd.int .i64) 3 w' w.heap.size (fun k_ => (w.heap.size ≤ k_)) v3 x3_1) ∧ Aside0 (Below w.heap.size w w'))
  case atStart => exact ⟨(y331), (0), (by first | rfl | (simp; done) | (simp [*]; done)), H', ⟨Nat.le_refl _⟩, ⟨by (with_reducible repeat (first | apply Kd.R_alloc | apply Kd.R_drewN | apply Kd.R_drew)); exact Kd.R_mono HO333.out (fun _ hk => hk.1)⟩, ⟨by repeat (first | (with_reducible first | exact HB.out | apply below_alloc | apply pw_below_drewN | apply below_drew1) | exact HB.out)⟩⟩
  case round =>
    clear H'
    try clear c2
    try clear p2
    obtain ⟨x3_1, x10_1, rfl, HA, HK1, HO_3, HB⟩ := hrel
    cases gk with
    | zero => exact absurd HA.out (by simp [spec_Of.l0])
    | succ k1 =>
      have H := HA.out
      clear HA
      simp only [spec_Of.l0] at H
      by_cases c4 : x10_1 < (l0.length : Int)
      · rw [if_pos c4] at H
        have c4b0 : decide (x10_1 < (l0.length : Int)) = true := decide_eq_true c4
        clear c4
        by_cases c5 : 0 ≤ x10_1
        · rw [if_pos c5] at H
          have c5b0 : decide (0 ≤ x10_1) = true := decide_eq_true c5
          clear c5
          by_cases c6 : x10_1 < (l0.length : Int)
          · rw [if_pos c6] at H
            have c6b0 : decide (x10_1 < (l0.length : Int)) = true := decide_eq_true c6
            clear c6
            have H' := Aside0.mk H
            clear H
            have p337 : 0 ≤ (x10_1 : Int) := of_decide_eq_true (by first | (with_reducible assumption) | assumption)
            have q337 : x10_1 < (l0.length : Int) := of_decide_eq_true (by first | (with_reducible assumption) | assumption)
            obtain ⟨ad337, e337, hx337_0⟩ := Kd.at_int HR0.out x10_1 p337 q337
            cases e337
            replace hx337_0 := (HB.out.cell (World.block_lt_of_cell? w _ hx337_0)).trans hx337_0
            replace p337 := eq_true p337
            replace q337 := eq_true q337
            go_wp2
            go_loopg [3, 6] k1 (fun kq v3 v6 w' => ∃ (x3_2 : List Int) (x6_2 : Int), v6 = .int .i64 x6_2 ∧ Aside0 (spec_Of.l1 kq x3_2 (rd l0 x10_1) x6_2 l0 (l0.length : Int) x10_1 = some r) ∧ Aside0 (kq ≤ k1) ∧ Aside0 (Kd.R (Kd.int .i64) 3 w' w.heap.size (fun k_ => (w.heap.size ≤ k_)) v3 x3_2) ∧ Aside0 (Below w.heap.size w w'))
            case atStart => exact ⟨(x3_1), (0), (by first | rfl | (simp; done) | (simp [*]; done)), H', ⟨Nat.le_refl _⟩, ⟨by (with_reducible repeat (first | apply Kd.R_alloc | apply Kd.R_drewN | apply Kd.R_drew)); exact HO_3.out⟩, ⟨by repeat (first | (with_reducible first | exact HB.out | apply below_alloc | apply pw_below_drewN | apply below_drew1) | exact HB.out)⟩⟩
            case round =>
              clear H'
              try clear c2
              try clear p2
              try clear p3
              try clear q3
              try clear hx3
              try clear c4
              try clear c4b0
              try clear c5
              try clear c5b0
              try clear c6
              try clear c6b0
              try clear hx337_0
              try clear p2
              try clear p337
              try clear q337
              obtain ⟨x3_2, x6_2, rfl, HA, HK2, HO_3, HB⟩ := hrel
              cases gk with
              | zero => exact absurd HA.out (by simp [spec_Of.l1])
              | succ k2 =>
                have H := HA.out
                clear HA
                simp only [spec_Of.l1] at H
                by_cases c7 : x6_2 < 4
                · rw [if_pos c7] at H
                  have c7b0 : decide (x6_2 < 4) = true := decide_eq_true c7
                  clear c7
                  obtain ⟨ji8, hji8⟩ : ∃ j_ : Int, (wrap64 (16 * x6_2)) = j_ := ⟨_, rfl⟩
                  replace H : (if 0 ≤ (ji8) then (if x3_2.length < 17592186044416 then (spec_Of.l1 k2 (x3_2 ++ [wrap64 (Go.bits .and .u64 (shr .u64 (rd l0 x10_1) (ji8)) 65535)]) (rd l0 x10_1) (wrap64 (x6_2 + 1)) l0 (l0.length : Int) x10_1) else (none)) else (none)) = some r := by first | (rw [hji8] at H; exact H) | (simp only [hji8] at H ⊢; exact H)
                  have hji8w : (IntKind.i64.wrap (16 * x6_2)) = ji8 := (i64_w _).trans hji8
                  by_cases c9 : 0 ≤ (ji8)
                  · rw [if_pos c9] at H
                    have c9b0 := eq_true c9
                    have c9b1 : decide (0 ≤ (ji8)) = true := decide_eq_true c9
                    clear c9
                    obtain ⟨ji10, hji10⟩ : ∃ j_ : Int, (shr .u64 (rd l0 x10_1) (ji8)) = j_ := ⟨_, rfl⟩
                    replace H : (if x3_2.length < 17592186044416 then (spec_Of.l1 k2 (x3_2 ++ [wrap64 (Go.bits .and .u64 (ji10) 65535)]) (rd l0 x10_1) (wrap64 (x6_2 + 1)) l0 (l0.length : Int) x10_1) else (none)) = some r := by first | (rw [hji10] at H; exact H) | (simp only [hji10] at H ⊢; exact H)
                    have hji10_ : ((rd l0 x10_1) / 2 ^ min (ji8).toNat 64) = ji10 := hji10
                    have hji10z : (ji8) ≤ 64 → ((rd l0 x10_1) / 2 ^ (ji8).toNat) = ji10 := shr_small hji10
                    by_cases c11 : x3_2.length < 17592186044416
                    · rw [if_pos c11] at H
                      have LMc11 := Aside0.mk c11
                      clear c11
                      obtain ⟨y338, hy338⟩ : ∃ y_ : List Int, y_ = (x3_2 ++ [wrap64 (Go.bits .and .u64 (ji10) 65535)]) := ⟨_, rfl⟩
                      replace H : (spec_Of.l1 k2 y338 (rd l0 x10_1) (wrap64 (x6_2 + 1)) l0 (l0.length : Int) x10_1) = some r := by first | (rw [hy338]; with_reducible exact H) | (have H2_ := (Option.bind_some _ _).symm.trans H; rw [hy338]; with_reducible exact H2_) | (have H2_ := (Option.bind_some _ _).symm.trans H; with_reducible exact H2_) | with_reducible exact H | (rw [hy338]; exact H) | exact H
                      have Ny338 := Aside0.mk hy338
                      clear hy338
                      have H' := Aside0.mk H
                      clear H
                      go_wp2_with (first | ((with_reducible refine gate_builtin (b := .append) (xs := #[.tmp 18, .tmp 25]) rfl ?_); at_builtin; refine Kd.R_append (Kd.int .i64) (w0 := w) w.heap.size rfl (.tmp 18) (.tmp 25) 28 3 (.int .i64 0) 8 rfl Tryz.underlying28 info3 rfl (by decide) (by omega) u3 x3_2 (wrap64 (Go.bits .and .u64 (ji10) 65535)) [.int .i64 (wrap64 (Go.bits .and .u64 (ji10) 65535))] (fun k_ => (w.heap.size ≤ k_)) (fun _ => False) rfl rfl ?aP (fun _ hk => hk.elim) ?aF ?aO ?aB ?aS ?aL ?_; (case aP => exact rfl); (case aB => exact (by repeat (first | (with_reducible first | exact HB.out | apply below_alloc | apply pw_below_drewN | apply below_drew1) | exact HB.out))); (case aF => exact (fun k_ hk => (Nat.le_trans (below_size (by repeat (first | (with_reducible first | exact HB.out | apply below_alloc | apply pw_below_drewN | apply below_drew1) | exact HB.out))) hk))); (case aO => exact (by (with_reducible repeat (first | apply Kd.R_alloc | apply Kd.R_drewN | apply Kd.R_drew)); exact HO_3.out)); (case aS => exact (below_size (by repeat (first | (with_reducible first | exact HB.out | apply below_alloc | apply pw_below_drewN | apply below_drew1) | exact HB.out)))); (case aL => have := LMc11.out; omega); intro v339 w12 ho hb hg hat; rw [← Ny338.out] at ho; have n0_ := Aside0.mk (hb); have n1_ := Aside0.mk (ho); clear HB; clear HO_3; have HB := n0_; have HO340 := n1_; clear n0_ n1_; clear ho hb hg hat))
                      go_roundg k2
                      case measure => have := HK1.out; have := HK2.out; omega
                      case rel => exact ⟨(y338), (wrap64 (x6_2 + 1)), (by first | rfl | (simp; done) | (simp [*]; done)), H', ⟨by have := HK1.out; have := HK2.out; omega⟩, ⟨by (with_reducible repeat (first | apply Kd.R_alloc | apply Kd.R_drewN | apply Kd.R_drew)); exact HO340.out⟩, ⟨by repeat (first | (with_reducible first | exact HB.out | apply below_alloc | apply pw_below_drewN | apply below_drew1) | exact HB.out)⟩⟩
                    · rw [if_neg c11] at H
                      exact absurd H (by simp)
                  · rw [if_neg c9] at H
                    exact absurd H (by simp)
                · rw [if_neg c7] at H
                  have c7b0 : decide (x6_2 < 4) = false := decide_eq_false c7
                  clear c7
                  have H' := Aside0.mk H
                  clear H
                  go_wp2
                  go_roundg k2
                  case measure => have := HK1.out; have := HK2.out; omega
                  case rel => exact ⟨(x3_2), (wrap64 (x10_1 + 1)), (by first | rfl | (simp; done) | (simp [*]; done)), H', ⟨by have := HK1.out; have := HK2.out; omega⟩, ⟨by (with_reducible repeat (first | apply Kd.R_alloc | apply Kd.R_drewN | apply Kd.R_drew)); exact HO_3.out⟩, ⟨by repeat (first | (with_reducible first | exact HB.out | apply below_alloc | apply pw_below_drewN | apply below_drew1) | exact HB.out)⟩⟩
          · rw [if_neg c6] at H
            exact absurd H (by simp)
        · rw [if_neg c5] at H
          exact absurd H (by simp)
      · rw [if_neg c4] at H
        have c4b0 : decide (x10_1 < (l0.length : Int)) = false := decide_eq_false c4
        clear c4
        replace H := Option.bind_eq_some_iff.mp H
        obtain ⟨t334, A130, H⟩ := H
        replace H : (some t334) = some r := H
        have A13 := Aside0.mk A130
        clear A130
        obtain rfl := Option.some.inj H
        obtain ⟨Ao14, co14, eo14⟩ := Kd.R_slice HO_3.out
        subst eo14
        go_wp2_with (first | ((with_reducible refine gate_callee (f := 39) rfl ?_); refine goesL_ (some 29) rfl rfl Tryz.func39 (by kernel_rfl) rfl #[.slice Ao14 x3_1.length co14] rfl (by (try simp only [List.map_toArray, List.map_cons, List.map_nil]); first | done | rfl | (simp only [List.length_drop, List.length_take]; rfl)) ?_; (with_reducible refine (spec_trim.calls k1 (fun k_ => some k_ = (.slice Ao14 x3_1.length co14 : Value).ownBlock) _ _ x3_1 t334 _ ?side1 A13.out).mono ?_); (case side1 => exact Kd.R_V (Kd.R_tight rfl (HO_3.out))); rintro e w15 ⟨v335, rfl, ho0, hb⟩; refine ⟨_, rfl, ?_⟩; have n0_ := Aside0.mk (Kd.R_below (by (with_reducible repeat (first | apply Kd.R_alloc | apply Kd.R_drewN | apply Kd.R_drew)); exact HO_3.out) hb); have n1_ := Aside0.mk (Kd.V_lower (Kd.V_mono (ok' := fun k_ => (w.heap.size ≤ k_)) ho0 (fun k_ hk_ => Or.elim hk_ (fun hs_ => ((HO_3.out).1 k_ hs_.symm)) (fun hn_ => (Nat.le_trans (below_size (by repeat (first | (with_reducible first | exact HB.out | apply below_alloc | apply pw_below_drewN | apply below_drew1) | exact HB.out))) hn_)))) (below_size (by repeat (first | (with_reducible first | exact HB.out | apply below_alloc | apply pw_below_drewN | apply below_drew1) | exact HB.out)))); have n2_ := Aside0.mk (below_step (by repeat (first | (with_reducible first | exact HB.out | apply below_alloc | apply pw_below_drewN | apply below_drew1) | exact HB.out)) hb); clear HO_3; clear HB; have HO_3 := n0_; have HO336 := n1_; have HB := n2_; clear n0_ n1_ n2_; (try clear hb); (try clear hb2); (try clear hk); (try clear hi); (try clear ho0)))
        go_ret
        exact ⟨_, by first | rfl | (simp [errW_none, errW_some] <;> rfl) | (simp [*, errW_none, errW_some] <;> rfl), by (with_reducible repeat (first | apply Kd.V_alloc | apply Kd.V_drewN | apply Kd.V_drew)); exact HO336.out, by repeat (first | (with_reducible first | exact HB.out | apply below_alloc | apply pw_below_drewN | apply below_drew1) | exact HB.out)⟩

end Go.Proofs.YtfnknldbjckgoaaGreatDoor.Sp
end

/-! ## SpSLen -/
section
namespace Go.Proofs.YtfnknldbjckgoaaGreatDoor.Sp
open Go.RowKit Go.Proofs.YtfnknldbjckgoaaGreatDoorW.PrintWords Go.Proofs.YtfnknldbjckgoaaGreatDoorW.PrintLast Go.Proofs.YtfnknldbjckgoaaGreatDoorW.PrintMore
attribute [local go_sem] max2_int min2_int max_two min_two max_three min_three max_four min_four
set_option linter.unusedVariables false
set_option linter.unusedSimpArgs false

/-! ### spec_Len: function 16 -/
def spec_Len.l0 : Nat → Int → Int → Option (Int)
  | 0, _, _ => none
  | k + 1, x3, x4 => if x4 > 0 then (spec_Len.l0 k (wrap64 (x3 + 1)) (wrap64 (Int.tdiv x4 2))) else (some x3)
def spec_Len.f (k : Nat) (l0 : List Int) : Option (Int) := if (l0.length : Int) = 0 then (some 0) else (if 0 ≤ (wrap64 ((l0.length : Int) - 1)) then (if (wrap64 ((l0.length : Int) - 1)) < (l0.length : Int) then (spec_Len.l0 k (wrap64 (16 * (wrap64 ((l0.length : Int) - 1)))) (rd l0 (wrap64 ((l0.length : Int) - 1)))) else (none)) else (none))
theorem spec_Len.mono_l : ∀ k, (∀ y0 y1, LeO (spec_Len.l0 k y0 y1) (spec_Len.l0 (k + 1) y0 y1))
  | 0 => fun _ _ r h => by simp [spec_Len.l0] at h
  | k + 1 => by
    have ih0 := spec_Len.mono_l k
    · intro y0 y1
      unfold spec_Len.l0
      repeat' first
      | (with_reducible exact ih0 _ _)
      | (with_reducible exact LeO.refl _)
      | (with_reducible exact LeO.none _)
      | (with_reducible refine LeO.ite ?_ ?_)
      | (with_reducible refine LeO.bind ?_ (fun _ => ?_))
      | exact ih0 _ _
      | exact LeO.none _
      | refine LeO.ite ?_ ?_
      | refine LeO.bind ?_ (fun _ => ?_)
theorem spec_Len.mono : ∀ a0 k, LeO (spec_Len.f k a0) (spec_Len.f (k + 1) a0) := by
  intro a0 k
  have ih0 := spec_Len.mono_l k
  unfold spec_Len.f
  repeat' first
      | (with_reducible exact ih0 _ _)
      | (with_reducible exact LeO.refl _)
      | (with_reducible exact LeO.none _)
      | (with_reducible refine LeO.ite ?_ ?_)
      | (with_reducible refine LeO.bind ?_ (fun _ => ?_))
      | exact ih0 _ _
      | exact LeO.none _
      | refine LeO.ite ?_ ?_
      | refine LeO.bind ?_ (fun _ => ?_)
set_option maxHeartbeats 8000000 in
set_option maxRecDepth 100000 in
theorem spec_Len.calls (k : Nat) (A0 : Option Addr) (c0 : Nat) (l0 : List Int) (r : Int) (w : World) (hr0 : Kd.C (Kd.int .i64) w A0 l0.length l0) (hc0 : l0.length ≤ c0) (h : spec_Len.f k l0 = some r) :
    Calls Tryz.prog 16 #[.slice A0 l0.length c0] w fun e w' => e = .returned (.int .i64 r) ∧ Drawn0 w w' := by
  have HR0 := Aside0.mk hr0
  have HC0 := Aside0.mk hc0
  clear hr0 hc0
  have H : (if (l0.length : Int) = 0 then (some 0) else (if 0 ≤ (wrap64 ((l0.length : Int) - 1)) then (if (wrap64 ((l0.length : Int) - 1)) < (l0.length : Int) then (spec_Len.l0 k (wrap64 (16 * (wrap64 ((l0.length : Int) - 1)))) (rd l0 (wrap64 ((l0.length : Int) - 1)))) else (none)) else (none))) = some r := h
  clear h
  by_cases c2 : (l0.length : Int) = 0
  · rw [if_pos c2] at H
    have c2b0 : ((l0.length : Int) == 0) = true := beq_iff_eq.mpr c2
    have c2b1 : ((l0.length : Int) != 0) = false := bne_eq_false_iff_eq.mpr c2
    clear c2
    obtain rfl := Option.some.inj H
    go_enter Tryz.func16, Tryz.ntmps16
    go_wp2
    go_ret
    exact ⟨by first | rfl | (simp; done) | (simp [*]; done), by repeat (first | exact Drawn0.refl _ | apply Drawn0.step)⟩
  · rw [if_neg c2] at H
    have c2b0 : ((l0.length : Int) == 0) = false := beq_eq_false_iff_ne.mpr c2
    have c2b1 : ((l0.length : Int) != 0) = true := bne_iff_ne.mpr c2
    have c2b2 : ¬ (l0 = []) := fun h_ => c2 (by rw [h_]; rfl)
    obtain ⟨ji3, hji3⟩ : ∃ j_ : Int, (wrap64 ((l0.length : Int) - 1)) = j_ := ⟨_, rfl⟩
    replace H : (if 0 ≤ (ji3) then (if (ji3) < (l0.length : Int) then (spec_Len.l0 k (wrap64 (16 * (ji3))) (rd l0 (ji3))) else (none)) else (none)) = some r := by first | (rw [hji3] at H; exact H) | (simp only [hji3] at H ⊢; exact H)
    have hji3w : (IntKind.i64.wrap ((l0.length : Int) - 1)) = ji3 := (i64_w _).trans hji3
    by_cases c4 : 0 ≤ (ji3)
    · rw [if_pos c4] at H
      have c4b0 : decide (0 ≤ (ji3)) = true := decide_eq_true c4
      clear c4
      by_cases c5 : (ji3) < (l0.length : Int)
      · rw [if_pos c5] at H
        have c5b0 : decide ((ji3) < (l0.length : Int)) = true := decide_eq_true c5
        clear c5
        have H' := Aside0.mk H
        clear H
        have p324 : 0 ≤ ((ji3) : Int) := of_decide_eq_true (by first | (with_reducible assumption) | assumption)
        have q324 : (ji3) < (l0.length : Int) := of_decide_eq_true (by first | (with_reducible assumption) | assumption)
        obtain ⟨ad324, e324, hx324_0⟩ := Kd.at_int HR0.out (ji3) p324 q324
        cases e324
        replace p324 := eq_true p324
        replace q324 := eq_true q324
        go_enter Tryz.func16, Tryz.ntmps16
        go_wp2
        go_loopg [3, 4] k (fun kq v3 v4 w' => ∃ (x3_1 : Int) (x4_1 : Int), v3 = .int .i64 x3_1 ∧ v4 = .int .i64 x4_1 ∧ Aside0 (spec_Len.l0 kq x3_1 x4_1 = some r) ∧ Aside0 (kq ≤ k) ∧ Drawn0 w w')
        case atStart => exact ⟨(wrap64 (16 * (ji3))), (rd l0 (ji3)), (by first | rfl | (simp; done) | (simp only [← hji3] <;> (first | rfl | simp)) | (simp [*]; done)), (by first | rfl | (simp; done) | (simp only [← hji3] <;> (first | rfl | simp)) | (simp [*]; done)), H', ⟨Nat.le_refl _⟩, by repeat (first | exact Drawn0.refl _ | apply Drawn0.step)⟩
        case round =>
          clear H'
          try clear c1
          try clear c2
          try clear c2b0
          try clear c2b1
          try clear c2b2
          try clear p2
          try clear p3
          try clear q3
          try clear hx3
          try clear c4
          try clear c4b0
          try clear c5
          try clear c5b0
          try clear hx324_0
          try clear p324
          try clear q324
          obtain ⟨x3_1, x4_1, rfl, rfl, HA, HK1, ⟨m1, rfl⟩⟩ := hrel
          cases gk with
          | zero => exact absurd HA.out (by simp [spec_Len.l0])
          | succ k1 =>
            have H := HA.out
            clear HA
            simp only [spec_Len.l0] at H
            by_cases c6 : x4_1 > 0
            · rw [if_pos c6] at H
              have c6b0 : decide (0 < x4_1) = true := decide_eq_true c6
              clear c6
              have H' := Aside0.mk H
              clear H
              go_wp2
              go_roundg k1
              case measure => have := HK1.out; omega
              case rel => exact ⟨(wrap64 (x3_1 + 1)), (wrap64 (Int.tdiv x4_1 2)), (by first | rfl | (simp; done) | (simp [*]; done)), (by first | rfl | (simp; done) | (simp [*]; done)), H', ⟨by have := HK1.out; omega⟩, by repeat (first | exact Drawn0.refl _ | apply Drawn0.step)⟩
            · rw [if_neg c6] at H
              have c6b0 : decide (0 < x4_1) = false := decide_eq_false c6
              clear c6
              obtain rfl := Option.some.inj H
              go_wp2
              go_ret
              exact ⟨by first | rfl | (simp; done) | (simp only [← hji3] <;> (first | rfl | simp)) | (simp [*]; done), by repeat (first | exact Drawn0.refl _ | apply Drawn0.step)⟩
      · rw [if_neg c5] at H
        exact absurd H (by simp)
    · rw [if_neg c4] at H
      exact absurd H (by simp)

end Go.Proofs.YtfnknldbjckgoaaGreatDoor.Sp
end

/-! ## SpLHalf -/
section
namespace Go.Proofs.YtfnknldbjckgoaaGreatDoor.Sp
open Go.RowKit Go.Proofs.YtfnknldbjckgoaaGreatDoorW.PrintWords Go.Proofs.YtfnknldbjckgoaaGreatDoorW.PrintLast Go.Proofs.YtfnknldbjckgoaaGreatDoorW.PrintMore
attribute [local go_sem] max2_int min2_int max_two min_two max_three min_three max_four min_four
set_option linter.unusedVariables false
set_option linter.unusedSimpArgs false

/-! ### laws_half: function 35 -/
def laws_half.f  : Option (Int × Int × Int × Bool × List Int × Int) := some (2, 0, 1, false, (([1] : List Int)), (-1))
set_option maxHeartbeats 8000000 in
set_option maxRecDepth 100000 in
theorem laws_half.calls  (r1 : Int) (r2 : Int) (r3 : Int) (r4 : Bool) (r5 : List Int) (r6 : Int) (w : World) (h : laws_half.f  = some (r1, r2, r3, r4, r5, r6)) :
    Calls Tryz.prog 35 #[] w fun e w' => ∃ v4_ : Value, e = .returned (.agg #[.int .u64 r1, .int .i64 r2, .int .i64 r3, .bool r4, v4_, .int .i64 r6]) ∧ Kd.R (Kd.int .u64) 22 w' w.heap.size (fun _ => True) v4_ r5 ∧ Below w.heap.size w w' := by
  have hu25 := Tryz.underlying25
  have HB := Aside0.mk (Below.refl w.heap.size w)
  have H : (some (2, 0, 1, false, (([1] : List Int)), (-1))) = some (r1, r2, r3, r4, r5, r6) := h
  clear h
  obtain ⟨y313, hy313⟩ : ∃ y_ : List Int, y_ = (([1] : List Int)) := ⟨_, rfl⟩
  replace H : (some (2, 0, 1, false, y313, (-1))) = some (r1, r2, r3, r4, r5, r6) := by first | (rw [hy313]; with_reducible exact H) | (have H2_ := (Option.bind_some _ _).symm.trans H; rw [hy313]; with_reducible exact H2_) | (have H2_ := (Option.bind_some _ _).symm.trans H; with_reducible exact H2_) | with_reducible exact H | (rw [hy313]; exact H) | exact H
  have Ny313 := Aside0.mk hy313
  clear hy313
  simp only [Option.some.injEq, Prod.mk.injEq] at H
  obtain ⟨rfl, rfl, rfl, rfl, rfl, rfl⟩ := H
  go_enter Tryz.func35, Tryz.ntmps35
  go_wp2_with (first | ((with_reducible refine gate_dst (N := 0) rfl ?_); refine box_event ?hg (N := 0) ?hd (cs := #[.int .u64 0, .int .i64 0, .int .i64 0, .bool false, .slice none 0 0, .int .i64 0]) (t := 25) ?hr ?_; (case hd => rfl); (case hg => rfl); (case hr => first | (go_simp; done) | (go_simp; rfl)); intro gb312 hg w1 hbox hb; have n0_ := Aside0.mk (below_step (by repeat (first | (with_reducible first | exact HB.out | apply below_alloc | apply pw_below_drewN | apply below_drew1) | exact HB.out)) hb); have n1_ := Aside0.mk (hbox); have n2_ := Aside0.mk ((by rw [hg]; exact (below_size (by repeat (first | (with_reducible first | exact HB.out | apply below_alloc | apply pw_below_drewN | apply below_drew1) | exact HB.out))) : w.heap.size ≤ gb312)); have n3_ := Aside0.mk ((by rw [hg]; exact (below_size (by repeat (first | (with_reducible first | exact HB.out | apply below_alloc | apply pw_below_drewN | apply below_drew1) | exact HB.out))) : w.heap.size ≤ gb312)); clear HB; have HB := n0_; have BK312 := n1_; have GW312 := n2_; have GE312 := n3_; clear n0_ n1_ n2_ n3_; clear hb hbox hg) | ((with_reducible refine gate_dst (N := 1) rfl ?_); refine Kd.R_lit (Kd.int .u64) _ 22 ?hg (N := 1) ?hd (xs := ([1] : List Int)) (inner := [.int .u64 1]) (ok := fun _ => True) (okp := fun _ => True) ?hr ?hp (fun _ hk => hk) trivial (Below.refl _ _) (Nat.le_refl _) (by simp) ?_; (case hd => rfl); (case hg => rfl); (case hr => first | (go_simp; done) | (go_simp; rfl)); (case hp => exact (Reps.one (show Kd.M (Kd.int .u64) _ _ _ 1 [.int .u64 1] from rfl) (Reps.none _ _))); intro v314 w2 ho3 hb hg_ hnew_; clear hg_ hnew_; (first | rw [← Ny313.out] at ho3 | (simp only [Int.reduceToNat] at ho3; rw [← Ny313.out] at ho3)); have n0_ := Aside0.mk (Kd.R_lower ho3 (below_size (by repeat (first | (with_reducible first | exact HB.out | apply below_alloc | apply pw_below_drewN | apply below_drew1 | refine below_set ?_ GE312.out) | exact HB.out)))); have n1_ := Aside0.mk (blk_below (g := gb312) (o := .cells #[.int .u64 0, .int .i64 0, .int .i64 0, .bool false, .slice none 0 0, .int .i64 0] 25 (0, 0)) (by (with_reducible repeat (first | refine blk_drewN ?_ _ | refine blk_drew ?_ | refine blk_alloc ?_ _)); exact BK312.out) hb); have n2_ := Aside0.mk (below_step (by repeat (first | (with_reducible first | exact HB.out | apply below_alloc | apply pw_below_drewN | apply below_drew1 | refine below_set ?_ GE312.out) | exact HB.out)) hb); clear BK312; clear HB; have HO315 := n0_; have BK312 := n1_; have HB := n2_; clear n0_ n1_ n2_; clear hb ho3; obtain ⟨Ao4, co4, eo4⟩ := Kd.R_slice HO315.out; subst eo4; have hcz5_0 : w2.cell? ⟨gb312, 0, none⟩ = some (.int .u64 0) := (blk_cell BK312.out 0).trans rfl; have hcz5_1 : w2.cell? ⟨gb312, 1, none⟩ = some (.int .i64 0) := (blk_cell BK312.out 1).trans rfl; have hcz5_2 : w2.cell? ⟨gb312, 2, none⟩ = some (.int .i64 0) := (blk_cell BK312.out 2).trans rfl; have hcz5_3 : w2.cell? ⟨gb312, 3, none⟩ = some (.bool false) := (blk_cell BK312.out 3).trans rfl; have hcz5_4 : w2.cell? ⟨gb312, 4, none⟩ = some (.slice none 0 0) := (blk_cell BK312.out 4).trans rfl; have hcz5_5 : w2.cell? ⟨gb312, 5, none⟩ = some (.int .i64 0) := (blk_cell BK312.out 5).trans rfl; have hfz5_0 := blk_frozen BK312.out 0; have hfz5_1 := blk_frozen BK312.out 1; have hfz5_2 := blk_frozen BK312.out 2; have hfz5_3 := blk_frozen BK312.out 3; have hfz5_4 := blk_frozen BK312.out 4; have hfz5_5 := blk_frozen BK312.out 5))
  refine bodyPost_ret (results_cell_row rfl _ _ gb312 25 #[.int .u64 2, .int .i64 0, .int .i64 1, .bool false, .slice Ao4 y313.length co4, .int .i64 (-1)] (0, 0) _ rfl (by (with_reducible repeat (first | refine blk_drewN ?_ _ | refine blk_drew ?_ | refine blk_alloc ?_ _)); refine blk_put (cs := #[.int .u64 2, .int .i64 0, .int .i64 1, .bool false, .slice Ao4 y313.length co4, .int .i64 0]) ?_ 5 _ rfl; (with_reducible repeat (first | refine blk_drewN ?_ _ | refine blk_drew ?_ | refine blk_alloc ?_ _)); refine blk_put (cs := #[.int .u64 2, .int .i64 0, .int .i64 1, .bool false, .slice none 0 0, .int .i64 0]) ?_ 4 _ rfl; (with_reducible repeat (first | refine blk_drewN ?_ _ | refine blk_drew ?_ | refine blk_alloc ?_ _)); refine blk_put (cs := #[.int .u64 2, .int .i64 0, .int .i64 1, .bool false, .slice none 0 0, .int .i64 0]) ?_ 3 _ rfl; (with_reducible repeat (first | refine blk_drewN ?_ _ | refine blk_drew ?_ | refine blk_alloc ?_ _)); refine blk_put (cs := #[.int .u64 2, .int .i64 0, .int .i64 0, .bool false, .slice none 0 0, .int .i64 0]) ?_ 2 _ rfl; (with_reducible repeat (first | refine blk_drewN ?_ _ | refine blk_drew ?_ | refine blk_alloc ?_ _)); refine blk_put (cs := #[.int .u64 2, .int .i64 0, .int .i64 0, .bool false, .slice none 0 0, .int .i64 0]) ?_ 1 _ rfl; (with_reducible repeat (first | refine blk_drewN ?_ _ | refine blk_drew ?_ | refine blk_alloc ?_ _)); refine blk_put (cs := #[.int .u64 0, .int .i64 0, .int .i64 0, .bool false, .slice none 0 0, .int .i64 0]) ?_ 0 _ rfl; (with_reducible repeat (first | refine blk_drewN ?_ _ | refine blk_drew ?_ | refine blk_alloc ?_ _)); exact BK312.out) Tryz.underlying25 rfl (by kernel_rfl)) rfl ?_
  exact ⟨_, by first | rfl | (simp [errW_none, errW_some] <;> rfl) | (simp [*, errW_none, errW_some] <;> rfl), by (with_reducible repeat (first | apply Kd.R_alloc | apply Kd.R_drewN | apply Kd.R_drew)); exact Kd.R_mono (Kd.R_far (p := ⟨gb312, 5, none⟩) (Kd.R_far (p := ⟨gb312, 4, none⟩) (Kd.R_far (p := ⟨gb312, 3, none⟩) (Kd.R_far (p := ⟨gb312, 2, none⟩) (Kd.R_far (p := ⟨gb312, 1, none⟩) (Kd.R_far (p := ⟨gb312, 0, none⟩) (Kd.R_types HO315.out BK312.out (by decide)) (fun _ hk => hk.2) (.int .u64 2)) (fun _ hk => hk.2) (.int .i64 0)) (fun _ hk => hk.2) (.int .i64 1)) (fun _ hk => hk.2) (.bool false)) (fun _ hk => hk.2) (.slice Ao4 y313.length co4)) (fun _ hk => hk.2) (.int .i64 (-1))) (fun _ hk => trivial), by repeat (first | (with_reducible first | exact HB.out | apply below_alloc | apply pw_below_drewN | apply below_drew1 | refine below_set ?_ GE312.out) | exact HB.out)⟩

-- NOT PRINTED: function 20 (laws_alive)

end Go.Proofs.YtfnknldbjckgoaaGreatDoor.Sp
end
