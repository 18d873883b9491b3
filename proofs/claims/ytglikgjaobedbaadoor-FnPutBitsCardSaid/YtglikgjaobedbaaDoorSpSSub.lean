/-
  spec_Sub: its plain function and its contract, as printed (print.sh) for this seat.
-/
import Derived.Test.YtglikgjaobedbaaDoorSp0
import Derived.Test.YtglikgjaobedbaaDoorSpSTrim
namespace Go.Proofs.YtglikgjaobedbaaDoor.Sp
open Go.RowKit Go.Proofs.YtglikgjaobedbaaDoorW.PrintWords Go.Proofs.YtglikgjaobedbaaDoorW.PrintLast Go.Proofs.YtglikgjaobedbaaDoorW.PrintMore
attribute [local go_sem] max2_int min2_int max_two min_two max_three min_three max_four min_four
set_option linter.unusedVariables false
set_option linter.unusedSimpArgs false

/-! ### spec_Sub: function 120 -/
def spec_Sub.l0 : Nat → List Int → List Int → Int → List Int → Int → Int → Option (List Int)
  | 0, _, _, _, _, _, _ => none
  | k + 1, x1, x5, x6, x10, x11, x12 => if x12 < x11 then (if 0 ≤ x12 then (if x12 < (x10.length : Int) then (if x12 < (x1.length : Int) then (if (wrap64 ((wrap64 ((rd x10 x12) - x6)) - (rd x1 x12))) < 0 then (if x5.length < 17592186044416 then (spec_Sub.l0 k x1 (x5 ++ [wrap64 ((wrap64 ((wrap64 ((rd x10 x12) - x6)) - (rd x1 x12))) + 65536)]) 1 x10 x11 (wrap64 (x12 + 1))) else (none)) else (if x5.length < 17592186044416 then (spec_Sub.l0 k x1 (x5 ++ [wrap64 ((wrap64 ((rd x10 x12) - x6)) - (rd x1 x12))]) 0 x10 x11 (wrap64 (x12 + 1))) else (none))) else (if (wrap64 ((rd x10 x12) - x6)) < 0 then (if x5.length < 17592186044416 then (spec_Sub.l0 k x1 (x5 ++ [wrap64 ((wrap64 ((rd x10 x12) - x6)) + 65536)]) 1 x10 x11 (wrap64 (x12 + 1))) else (none)) else (if x5.length < 17592186044416 then (spec_Sub.l0 k x1 (x5 ++ [wrap64 ((rd x10 x12) - x6)]) 0 x10 x11 (wrap64 (x12 + 1))) else (none)))) else (none)) else (none)) else ((spec_trim.f k x5).bind fun t263 => (some t263))
def spec_Sub.f (k : Nat) (l0 : List Int) (l1 : List Int) : Option (List Int) := spec_Sub.l0 k l1 (([] : List Int)) 0 l0 (l0.length : Int) 0
theorem spec_Sub.mono_l : ∀ k, (∀ y0 y1 y2 y3 y4 y5, LeO (spec_Sub.l0 k y0 y1 y2 y3 y4 y5) (spec_Sub.l0 (k + 1) y0 y1 y2 y3 y4 y5))
  | 0 => fun _ _ _ _ _ _ r h => by simp [spec_Sub.l0] at h
  | k + 1 => by
    have ih0 := spec_Sub.mono_l k
    · intro y0 y1 y2 y3 y4 y5
      unfold spec_Sub.l0
      repeat' first
      | (with_reducible exact ih0 _ _ _ _ _ _)
      | (with_reducible exact spec_trim.mono _ _)
      | (with_reducible exact LeO.refl _)
      | (with_reducible exact LeO.none _)
      | (with_reducible refine LeO.ite ?_ ?_)
      | (with_reducible refine LeO.bind ?_ (fun _ => ?_))
      | exact ih0 _ _ _ _ _ _
      | exact spec_trim.mono _ _
      | exact LeO.none _
      | refine LeO.ite ?_ ?_
      | refine LeO.bind ?_ (fun _ => ?_)
theorem spec_Sub.mono : ∀ a0 a1 k, LeO (spec_Sub.f k a0 a1) (spec_Sub.f (k + 1) a0 a1) := by
  intro a0 a1 k
  have ih0 := spec_Sub.mono_l k
  unfold spec_Sub.f
  repeat' first
      | (with_reducible exact ih0 _ _ _ _ _ _)
      | (with_reducible exact spec_trim.mono _ _)
      | (with_reducible exact LeO.refl _)
      | (with_reducible exact LeO.none _)
      | (with_reducible refine LeO.ite ?_ ?_)
      | (with_reducible refine LeO.bind ?_ (fun _ => ?_))
      | exact ih0 _ _ _ _ _ _
      | exact spec_trim.mono _ _
      | exact LeO.none _
      | refine LeO.ite ?_ ?_
      | refine LeO.bind ?_ (fun _ => ?_)
set_option maxHeartbeats 8000000 in
set_option maxRecDepth 100000 in
theorem spec_Sub.calls (k : Nat) (A0 : Option Addr) (c0 : Nat) (l0 : List Int) (A1 : Option Addr) (c1 : Nat) (l1 : List Int) (r : List Int) (w : World) (hr0 : Kd.C (Kd.int .i64) w A0 l0.length l0) (hc0 : l0.length ≤ c0) (hr1 : Kd.C (Kd.int .i64) w A1 l1.length l1) (hc1 : l1.length ≤ c1) (h : spec_Sub.f k l0 l1 = some r) :
    Calls Tryd.prog 120 #[.slice A0 l0.length c0, .slice A1 l1.length c1] w fun e w' => ∃ v0_ : Value, e = .returned (v0_) ∧ Kd.V (Kd.int .i64) 3 w' w.heap.size (fun k_ => (w.heap.size ≤ k_)) v0_ r ∧ Below w.heap.size w w' := by
  have HR0 := Aside0.mk hr0
  have HC0 := Aside0.mk hc0
  clear hr0 hc0
  have HR1 := Aside0.mk hr1
  have HC1 := Aside0.mk hc1
  clear hr1 hc1
  have HB := Aside0.mk (Below.refl w.heap.size w)
  have H : (spec_Sub.l0 k l1 (([] : List Int)) 0 l0 (l0.length : Int) 0) = some r := h
  clear h
  obtain ⟨y260, hy260⟩ : ∃ y_ : List Int, y_ = (([] : List Int)) := ⟨_, rfl⟩
  replace H : (spec_Sub.l0 k l1 y260 0 l0 (l0.length : Int) 0) = some r := by first | (rw [hy260]; with_reducible exact H) | (have H2_ := (Option.bind_some _ _).symm.trans H; rw [hy260]; with_reducible exact H2_) | (have H2_ := (Option.bind_some _ _).symm.trans H; with_reducible exact H2_) | with_reducible exact H | (rw [hy260]; exact H) | exact H
  have Ny260 := Aside0.mk hy260
  clear hy260
  have H' := Aside0.mk H
  clear H
  go_enter Tryd.func120, Tryd.ntmps120
  go_wp2_with (first | ((with_reducible refine gate_dst (N := 9) rfl ?_); refine Kd.R_lit (Kd.int .i64) _ 3 ?hg (N := 9) ?hd (xs := ([] : List Int)) (inner := []) (ok := fun _ => True) (okp := fun _ => True) ?hr ?hp (fun _ hk => hk) trivial (Below.refl _ _) (Nat.le_refl _) (by simp) ?_; (case hd => rfl); (case hg => rfl); (case hr => first | (go_simp; done) | (go_simp; rfl)); (case hp => exact (Reps.none _ _)); intro v261 w3 ho4 hb hg_ hnew_; clear hg_ hnew_; (first | rw [← Ny260.out] at ho4 | (simp only [Int.reduceToNat] at ho4; rw [← Ny260.out] at ho4)); have n0_ := Aside0.mk (Kd.R_lower (Kd.R_newM (M := fun k_ => (w.heap.size ≤ k_)) ho4 (below_size (by repeat (first | (with_reducible first | exact HB.out | apply below_alloc | apply pw_below_drewN | apply below_drew1) | exact HB.out))) (fun k_ h_ => h_)) (below_size (by repeat (first | (with_reducible first | exact HB.out | apply below_alloc | apply pw_below_drewN | apply below_drew1) | exact HB.out)))); have n1_ := Aside0.mk (below_step (by repeat (first | (with_reducible first | exact HB.out | apply below_alloc | apply pw_below_drewN | apply below_drew1) | exact HB.out)) hb); clear HB; have HO262 := n0_; have HB := n1_; clear n0_ n1_; clear hb ho4))
  go_loopg [5, 6, 12] k (fun kq v5 v6 v12 w' => ∃ (x5_1 : List Int) (x6_1 : Int) (x12_1 : Int), v6 = .int .i64 x6_1 ∧ v12 = .int .i64 x12_1 ∧ Aside0 (spec_Sub.l0 kq l1 x5_1 x6_1 l0 (l0.length : Int) x12_1 = some r) ∧ Aside0 (kq ≤ k) ∧ Aside0 (Kd.R (Kd.int .i64) 3 w' w.heap.size (fun k_ => (w.heap.size ≤ k_)) v5 x5_1) ∧ Aside0 (Below w.heap.size w w'))
  case atStart => exact ⟨(y260), (0), (0), (by first | rfl | (simp; done) | (simp [*]; done)), (by first | rfl | (simp; done) | (simp [*]; done)), H', ⟨Nat.le_refl _⟩, ⟨by (with_reducible repeat (first | apply Kd.R_alloc | apply Kd.R_drewN | apply Kd.R_drew)); exact Kd.R_mono HO262.out (fun _ hk => hk.1)⟩, ⟨by repeat (first | (with_reducible first | exact HB.out | apply below_alloc | apply pw_below_drewN | apply below_drew1) | exact HB.out)⟩⟩
  case round =>
    clear H'
    try clear c1
    try clear p2
    obtain ⟨x5_1, x6_1, x12_1, rfl, rfl, HA, HK1, HO_5, HB⟩ := hrel
    cases gk with
    | zero => exact absurd HA.out (by simp [spec_Sub.l0])
    | succ k1 =>
      have H := HA.out
      clear HA
      simp only [spec_Sub.l0] at H
      by_cases c5 : x12_1 < (l0.length : Int)
      · rw [if_pos c5] at H
        have c5b0 : decide (x12_1 < (l0.length : Int)) = true := decide_eq_true c5
        clear c5
        by_cases c6 : 0 ≤ x12_1
        · rw [if_pos c6] at H
          have c6b0 : decide (0 ≤ x12_1) = true := decide_eq_true c6
          clear c6
          by_cases c7 : x12_1 < (l0.length : Int)
          · rw [if_pos c7] at H
            have c7b0 : decide (x12_1 < (l0.length : Int)) = true := decide_eq_true c7
            clear c7
            by_cases c8 : x12_1 < (l1.length : Int)
            · rw [if_pos c8] at H
              have c8b0 : decide (x12_1 < (l1.length : Int)) = true := decide_eq_true c8
              clear c8
              by_cases c9 : (wrap64 ((wrap64 ((rd l0 x12_1) - x6_1)) - (rd l1 x12_1))) < 0
              · rw [if_pos c9] at H
                have c9b0 : decide ((wrap64 ((wrap64 ((rd l0 x12_1) - x6_1)) - (rd l1 x12_1))) < 0) = true := decide_eq_true c9
                clear c9
                by_cases c10 : x5_1.length < 17592186044416
                · rw [if_pos c10] at H
                  have LMc10 := Aside0.mk c10
                  clear c10
                  obtain ⟨y268, hy268⟩ : ∃ y_ : List Int, y_ = (x5_1 ++ [wrap64 ((wrap64 ((wrap64 ((rd l0 x12_1) - x6_1)) - (rd l1 x12_1))) + 65536)]) := ⟨_, rfl⟩
                  replace H : (spec_Sub.l0 k1 l1 y268 1 l0 (l0.length : Int) (wrap64 (x12_1 + 1))) = some r := by first | (rw [hy268]; with_reducible exact H) | (have H2_ := (Option.bind_some _ _).symm.trans H; rw [hy268]; with_reducible exact H2_) | (have H2_ := (Option.bind_some _ _).symm.trans H; with_reducible exact H2_) | with_reducible exact H | (rw [hy268]; exact H) | exact H
                  have Ny268 := Aside0.mk hy268
                  clear hy268
                  have H' := Aside0.mk H
                  clear H
                  have p266 : 0 ≤ (x12_1 : Int) := of_decide_eq_true (by first | (with_reducible assumption) | assumption)
                  have q266 : x12_1 < (l0.length : Int) := of_decide_eq_true (by first | (with_reducible assumption) | assumption)
                  obtain ⟨ad266, e266, hx266_0⟩ := Kd.at_int HR0.out x12_1 p266 q266
                  cases e266
                  replace hx266_0 := (HB.out.cell (World.block_lt_of_cell? w _ hx266_0)).trans hx266_0
                  replace p266 := eq_true p266
                  replace q266 := eq_true q266
                  have p267 : 0 ≤ (x12_1 : Int) := of_decide_eq_true (by first | (with_reducible assumption) | assumption)
                  have q267 : x12_1 < (l1.length : Int) := of_decide_eq_true (by first | (with_reducible assumption) | assumption)
                  obtain ⟨ad267, e267, hx267_0⟩ := Kd.at_int HR1.out x12_1 p267 q267
                  cases e267
                  replace hx267_0 := (HB.out.cell (World.block_lt_of_cell? w _ hx267_0)).trans hx267_0
                  replace p267 := eq_true p267
                  replace q267 := eq_true q267
                  go_wp2_with (first | ((with_reducible refine gate_builtin (b := .append) (xs := #[.tmp 34, .tmp 36]) rfl ?_); at_builtin; refine Kd.R_append (Kd.int .i64) (w0 := w) w.heap.size rfl (.tmp 34) (.tmp 36) 38 3 (.int .i64 0) 8 rfl Tryd.underlying38 info3 rfl (by decide) (by omega) u5 x5_1 (wrap64 ((wrap64 ((wrap64 ((rd l0 x12_1) - x6_1)) - (rd l1 x12_1))) + 65536)) [.int .i64 (wrap64 ((wrap64 ((wrap64 ((rd l0 x12_1) - x6_1)) - (rd l1 x12_1))) + 65536))] (fun k_ => (w.heap.size ≤ k_)) (fun _ => False) rfl rfl ?aP (fun _ hk => hk.elim) ?aF ?aO ?aB ?aS ?aL ?_; (case aP => exact rfl); (case aB => exact (by repeat (first | (with_reducible first | exact HB.out | apply below_alloc | apply pw_below_drewN | apply below_drew1) | exact HB.out))); (case aF => exact (fun k_ hk => (Nat.le_trans (below_size (by repeat (first | (with_reducible first | exact HB.out | apply below_alloc | apply pw_below_drewN | apply below_drew1) | exact HB.out))) hk))); (case aO => exact (by (with_reducible repeat (first | apply Kd.R_alloc | apply Kd.R_drewN | apply Kd.R_drew)); exact HO_5.out)); (case aS => exact (below_size (by repeat (first | (with_reducible first | exact HB.out | apply below_alloc | apply pw_below_drewN | apply below_drew1) | exact HB.out)))); (case aL => have := LMc10.out; omega); intro v269 w11 ho hb hg hat; rw [← Ny268.out] at ho; have n0_ := Aside0.mk (hb); have n1_ := Aside0.mk (ho); clear HB; clear HO_5; have HB := n0_; have HO270 := n1_; clear n0_ n1_; clear ho hb hg hat))
                  go_roundg k1
                  case measure => have := HK1.out; omega
                  case rel => exact ⟨(y268), (1), (wrap64 (x12_1 + 1)), (by first | rfl | (simp; done) | (simp [*]; done)), (by first | rfl | (simp; done) | (simp [*]; done)), H', ⟨by have := HK1.out; omega⟩, ⟨by (with_reducible repeat (first | apply Kd.R_alloc | apply Kd.R_drewN | apply Kd.R_drew)); exact HO270.out⟩, ⟨by repeat (first | (with_reducible first | exact HB.out | apply below_alloc | apply pw_below_drewN | apply below_drew1) | exact HB.out)⟩⟩
                · rw [if_neg c10] at H
                  exact absurd H (by simp)
              · rw [if_neg c9] at H
                have c9b0 : decide ((wrap64 ((wrap64 ((rd l0 x12_1) - x6_1)) - (rd l1 x12_1))) < 0) = false := decide_eq_false c9
                clear c9
                by_cases c12 : x5_1.length < 17592186044416
                · rw [if_pos c12] at H
                  have LMc12 := Aside0.mk c12
                  clear c12
                  obtain ⟨y271, hy271⟩ : ∃ y_ : List Int, y_ = (x5_1 ++ [wrap64 ((wrap64 ((rd l0 x12_1) - x6_1)) - (rd l1 x12_1))]) := ⟨_, rfl⟩
                  replace H : (spec_Sub.l0 k1 l1 y271 0 l0 (l0.length : Int) (wrap64 (x12_1 + 1))) = some r := by first | (rw [hy271]; with_reducible exact H) | (have H2_ := (Option.bind_some _ _).symm.trans H; rw [hy271]; with_reducible exact H2_) | (have H2_ := (Option.bind_some _ _).symm.trans H; with_reducible exact H2_) | with_reducible exact H | (rw [hy271]; exact H) | exact H
                  have Ny271 := Aside0.mk hy271
                  clear hy271
                  have H' := Aside0.mk H
                  clear H
                  have p266 : 0 ≤ (x12_1 : Int) := of_decide_eq_true (by first | (with_reducible assumption) | assumption)
                  have q266 : x12_1 < (l0.length : Int) := of_decide_eq_true (by first | (with_reducible assumption) | assumption)
                  obtain ⟨ad266, e266, hx266_0⟩ := Kd.at_int HR0.out x12_1 p266 q266
                  cases e266
                  replace hx266_0 := (HB.out.cell (World.block_lt_of_cell? w _ hx266_0)).trans hx266_0
                  replace p266 := eq_true p266
                  replace q266 := eq_true q266
                  have p267 : 0 ≤ (x12_1 : Int) := of_decide_eq_true (by first | (with_reducible assumption) | assumption)
                  have q267 : x12_1 < (l1.length : Int) := of_decide_eq_true (by first | (with_reducible assumption) | assumption)
                  obtain ⟨ad267, e267, hx267_0⟩ := Kd.at_int HR1.out x12_1 p267 q267
                  cases e267
                  replace hx267_0 := (HB.out.cell (World.block_lt_of_cell? w _ hx267_0)).trans hx267_0
                  replace p267 := eq_true p267
                  replace q267 := eq_true q267
                  go_wp2_with (first | ((with_reducible refine gate_builtin (b := .append) (xs := #[.tmp 34, .tmp 36]) rfl ?_); at_builtin; refine Kd.R_append (Kd.int .i64) (w0 := w) w.heap.size rfl (.tmp 34) (.tmp 36) 38 3 (.int .i64 0) 8 rfl Tryd.underlying38 info3 rfl (by decide) (by omega) u5 x5_1 (wrap64 ((wrap64 ((rd l0 x12_1) - x6_1)) - (rd l1 x12_1))) [.int .i64 (wrap64 ((wrap64 ((rd l0 x12_1) - x6_1)) - (rd l1 x12_1)))] (fun k_ => (w.heap.size ≤ k_)) (fun _ => False) rfl rfl ?aP (fun _ hk => hk.elim) ?aF ?aO ?aB ?aS ?aL ?_; (case aP => exact rfl); (case aB => exact (by repeat (first | (with_reducible first | exact HB.out | apply below_alloc | apply pw_below_drewN | apply below_drew1) | exact HB.out))); (case aF => exact (fun k_ hk => (Nat.le_trans (below_size (by repeat (first | (with_reducible first | exact HB.out | apply below_alloc | apply pw_below_drewN | apply below_drew1) | exact HB.out))) hk))); (case aO => exact (by (with_reducible repeat (first | apply Kd.R_alloc | apply Kd.R_drewN | apply Kd.R_drew)); exact HO_5.out)); (case aS => exact (below_size (by repeat (first | (with_reducible first | exact HB.out | apply below_alloc | apply pw_below_drewN | apply below_drew1) | exact HB.out)))); (case aL => have := LMc12.out; omega); intro v272 w13 ho hb hg hat; rw [← Ny271.out] at ho; have n0_ := Aside0.mk (hb); have n1_ := Aside0.mk (ho); clear HB; clear HO_5; have HB := n0_; have HO273 := n1_; clear n0_ n1_; clear ho hb hg hat))
                  go_roundg k1
                  case measure => have := HK1.out; omega
                  case rel => exact ⟨(y271), (0), (wrap64 (x12_1 + 1)), (by first | rfl | (simp; done) | (simp [*]; done)), (by first | rfl | (simp; done) | (simp [*]; done)), H', ⟨by have := HK1.out; omega⟩, ⟨by (with_reducible repeat (first | apply Kd.R_alloc | apply Kd.R_drewN | apply Kd.R_drew)); exact HO273.out⟩, ⟨by repeat (first | (with_reducible first | exact HB.out | apply below_alloc | apply pw_below_drewN | apply below_drew1) | exact HB.out)⟩⟩
                · rw [if_neg c12] at H
                  exact absurd H (by simp)
            · rw [if_neg c8] at H
              have c8b0 : decide (x12_1 < (l1.length : Int)) = false := decide_eq_false c8
              clear c8
              by_cases c14 : (wrap64 ((rd l0 x12_1) - x6_1)) < 0
              · rw [if_pos c14] at H
                have c14b0 : decide ((wrap64 ((rd l0 x12_1) - x6_1)) < 0) = true := decide_eq_true c14
                clear c14
                by_cases c15 : x5_1.length < 17592186044416
                · rw [if_pos c15] at H
                  have LMc15 := Aside0.mk c15
                  clear c15
                  obtain ⟨y274, hy274⟩ : ∃ y_ : List Int, y_ = (x5_1 ++ [wrap64 ((wrap64 ((rd l0 x12_1) - x6_1)) + 65536)]) := ⟨_, rfl⟩
                  replace H : (spec_Sub.l0 k1 l1 y274 1 l0 (l0.length : Int) (wrap64 (x12_1 + 1))) = some r := by first | (rw [hy274]; with_reducible exact H) | (have H2_ := (Option.bind_some _ _).symm.trans H; rw [hy274]; with_reducible exact H2_) | (have H2_ := (Option.bind_some _ _).symm.trans H; with_reducible exact H2_) | with_reducible exact H | (rw [hy274]; exact H) | exact H
                  have Ny274 := Aside0.mk hy274
                  clear hy274
                  have H' := Aside0.mk H
                  clear H
                  have p266 : 0 ≤ (x12_1 : Int) := of_decide_eq_true (by first | (with_reducible assumption) | assumption)
                  have q266 : x12_1 < (l0.length : Int) := of_decide_eq_true (by first | (with_reducible assumption) | assumption)
                  obtain ⟨ad266, e266, hx266_0⟩ := Kd.at_int HR0.out x12_1 p266 q266
                  cases e266
                  replace hx266_0 := (HB.out.cell (World.block_lt_of_cell? w _ hx266_0)).trans hx266_0
                  replace p266 := eq_true p266
                  replace q266 := eq_true q266
                  go_wp2_with (first | ((with_reducible refine gate_builtin (b := .append) (xs := #[.tmp 34, .tmp 36]) rfl ?_); at_builtin; refine Kd.R_append (Kd.int .i64) (w0 := w) w.heap.size rfl (.tmp 34) (.tmp 36) 38 3 (.int .i64 0) 8 rfl Tryd.underlying38 info3 rfl (by decide) (by omega) u5 x5_1 (wrap64 ((wrap64 ((rd l0 x12_1) - x6_1)) + 65536)) [.int .i64 (wrap64 ((wrap64 ((rd l0 x12_1) - x6_1)) + 65536))] (fun k_ => (w.heap.size ≤ k_)) (fun _ => False) rfl rfl ?aP (fun _ hk => hk.elim) ?aF ?aO ?aB ?aS ?aL ?_; (case aP => exact rfl); (case aB => exact (by repeat (first | (with_reducible first | exact HB.out | apply below_alloc | apply pw_below_drewN | apply below_drew1) | exact HB.out))); (case aF => exact (fun k_ hk => (Nat.le_trans (below_size (by repeat (first | (with_reducible first | exact HB.out | apply below_alloc | apply pw_below_drewN | apply below_drew1) | exact HB.out))) hk))); (case aO => exact (by (with_reducible repeat (first | apply Kd.R_alloc | apply Kd.R_drewN | apply Kd.R_drew)); exact HO_5.out)); (case aS => exact (below_size (by repeat (first | (with_reducible first | exact HB.out | apply below_alloc | apply pw_below_drewN | apply below_drew1) | exact HB.out)))); (case aL => have := LMc15.out; omega); intro v275 w16 ho hb hg hat; rw [← Ny274.out] at ho; have n0_ := Aside0.mk (hb); have n1_ := Aside0.mk (ho); clear HB; clear HO_5; have HB := n0_; have HO276 := n1_; clear n0_ n1_; clear ho hb hg hat))
                  go_roundg k1
                  case measure => have := HK1.out; omega
                  case rel => exact ⟨(y274), (1), (wrap64 (x12_1 + 1)), (by first | rfl | (simp; done) | (simp [*]; done)), (by first | rfl | (simp; done) | (simp [*]; done)), H', ⟨by have := HK1.out; omega⟩, ⟨by (with_reducible repeat (first | apply Kd.R_alloc | apply Kd.R_drewN | apply Kd.R_drew)); exact HO276.out⟩, ⟨by repeat (first | (with_reducible first | exact HB.out | apply below_alloc | apply pw_below_drewN | apply below_drew1) | exact HB.out)⟩⟩
                · rw [if_neg c15] at H
                  exact absurd H (by simp)
              · rw [if_neg c14] at H
                have c14b0 : decide ((wrap64 ((rd l0 x12_1) - x6_1)) < 0) = false := decide_eq_false c14
                clear c14
                by_cases c17 : x5_1.length < 17592186044416
                · rw [if_pos c17] at H
                  have LMc17 := Aside0.mk c17
                  clear c17
                  obtain ⟨y277, hy277⟩ : ∃ y_ : List Int, y_ = (x5_1 ++ [wrap64 ((rd l0 x12_1) - x6_1)]) := ⟨_, rfl⟩
                  replace H : (spec_Sub.l0 k1 l1 y277 0 l0 (l0.length : Int) (wrap64 (x12_1 + 1))) = some r := by first | (rw [hy277]; with_reducible exact H) | (have H2_ := (Option.bind_some _ _).symm.trans H; rw [hy277]; with_reducible exact H2_) | (have H2_ := (Option.bind_some _ _).symm.trans H; with_reducible exact H2_) | with_reducible exact H | (rw [hy277]; exact H) | exact H
                  have Ny277 := Aside0.mk hy277
                  clear hy277
                  have H' := Aside0.mk H
                  clear H
                  have p266 : 0 ≤ (x12_1 : Int) := of_decide_eq_true (by first | (with_reducible assumption) | assumption)
                  have q266 : x12_1 < (l0.length : Int) := of_decide_eq_true (by first | (with_reducible assumption) | assumption)
                  obtain ⟨ad266, e266, hx266_0⟩ := Kd.at_int HR0.out x12_1 p266 q266
                  cases e266
                  replace hx266_0 := (HB.out.cell (World.block_lt_of_cell? w _ hx266_0)).trans hx266_0
                  replace p266 := eq_true p266
                  replace q266 := eq_true q266
                  go_wp2_with (first | ((with_reducible refine gate_builtin (b := .append) (xs := #[.tmp 34, .tmp 36]) rfl ?_); at_builtin; refine Kd.R_append (Kd.int .i64) (w0 := w) w.heap.size rfl (.tmp 34) (.tmp 36) 38 3 (.int .i64 0) 8 rfl Tryd.underlying38 info3 rfl (by decide) (by omega) u5 x5_1 (wrap64 ((rd l0 x12_1) - x6_1)) [.int .i64 (wrap64 ((rd l0 x12_1) - x6_1))] (fun k_ => (w.heap.size ≤ k_)) (fun _ => False) rfl rfl ?aP (fun _ hk => hk.elim) ?aF ?aO ?aB ?aS ?aL ?_; (case aP => exact rfl); (case aB => exact (by repeat (first | (with_reducible first | exact HB.out | apply below_alloc | apply pw_below_drewN | apply below_drew1) | exact HB.out))); (case aF => exact (fun k_ hk => (Nat.le_trans (below_size (by repeat (first | (with_reducible first | exact HB.out | apply below_alloc | apply pw_below_drewN | apply below_drew1) | exact HB.out))) hk))); (case aO => exact (by (with_reducible repeat (first | apply Kd.R_alloc | apply Kd.R_drewN | apply Kd.R_drew)); exact HO_5.out)); (case aS => exact (below_size (by repeat (first | (with_reducible first | exact HB.out | apply below_alloc | apply pw_below_drewN | apply below_drew1) | exact HB.out)))); (case aL => have := LMc17.out; omega); intro v278 w18 ho hb hg hat; rw [← Ny277.out] at ho; have n0_ := Aside0.mk (hb); have n1_ := Aside0.mk (ho); clear HB; clear HO_5; have HB := n0_; have HO279 := n1_; clear n0_ n1_; clear ho hb hg hat))
                  go_roundg k1
                  case measure => have := HK1.out; omega
                  case rel => exact ⟨(y277), (0), (wrap64 (x12_1 + 1)), (by first | rfl | (simp; done) | (simp [*]; done)), (by first | rfl | (simp; done) | (simp [*]; done)), H', ⟨by have := HK1.out; omega⟩, ⟨by (with_reducible repeat (first | apply Kd.R_alloc | apply Kd.R_drewN | apply Kd.R_drew)); exact HO279.out⟩, ⟨by repeat (first | (with_reducible first | exact HB.out | apply below_alloc | apply pw_below_drewN | apply below_drew1) | exact HB.out)⟩⟩
                · rw [if_neg c17] at H
                  exact absurd H (by simp)
          · rw [if_neg c7] at H
            exact absurd H (by simp)
        · rw [if_neg c6] at H
          exact absurd H (by simp)
      · rw [if_neg c5] at H
        have c5b0 : decide (x12_1 < (l0.length : Int)) = false := decide_eq_false c5
        clear c5
        replace H := Option.bind_eq_some_iff.mp H
        obtain ⟨t263, A190, H⟩ := H
        replace H : (some t263) = some r := H
        have A19 := Aside0.mk A190
        clear A190
        obtain rfl := Option.some.inj H
        obtain ⟨Ao20, co20, eo20⟩ := Kd.R_slice HO_5.out
        subst eo20
        go_wp2_with (first | ((with_reducible refine gate_callee (f := 77) rfl ?_); refine goesL_ (some 40) rfl rfl Tryd.func77 (by kernel_rfl) rfl #[.slice Ao20 x5_1.length co20] rfl (by (try simp only [List.map_toArray, List.map_cons, List.map_nil]); first | done | rfl | (simp only [List.length_drop, List.length_take]; rfl)) ?_; (with_reducible refine (spec_trim.calls k1 (fun k_ => some k_ = (.slice Ao20 x5_1.length co20 : Value).ownBlock) _ _ x5_1 t263 _ ?side1 A19.out).mono ?_); (case side1 => exact Kd.R_V (Kd.R_tight rfl (HO_5.out))); rintro e w21 ⟨v264, rfl, ho0, hb⟩; refine ⟨_, rfl, ?_⟩; have n0_ := Aside0.mk (Kd.R_below (by (with_reducible repeat (first | apply Kd.R_alloc | apply Kd.R_drewN | apply Kd.R_drew)); exact HO_5.out) hb); have n1_ := Aside0.mk (Kd.V_lower (Kd.V_mono (ok' := fun k_ => (w.heap.size ≤ k_)) ho0 (fun k_ hk_ => Or.elim hk_ (fun hs_ => ((HO_5.out).1 k_ hs_.symm)) (fun hn_ => (Nat.le_trans (below_size (by repeat (first | (with_reducible first | exact HB.out | apply below_alloc | apply pw_below_drewN | apply below_drew1) | exact HB.out))) hn_)))) (below_size (by repeat (first | (with_reducible first | exact HB.out | apply below_alloc | apply pw_below_drewN | apply below_drew1) | exact HB.out)))); have n2_ := Aside0.mk (below_step (by repeat (first | (with_reducible first | exact HB.out | apply below_alloc | apply pw_below_drewN | apply below_drew1) | exact HB.out)) hb); clear HO_5; clear HB; have HO_5 := n0_; have HO265 := n1_; have HB := n2_; clear n0_ n1_ n2_; (try clear hb); (try clear hb2); (try clear hk); (try clear hi); (try clear ho0)))
        go_ret
        exact ⟨_, by first | rfl | (simp [errW_none, errW_some] <;> rfl) | (simp [*, errW_none, errW_some] <;> rfl), by (with_reducible repeat (first | apply Kd.V_alloc | apply Kd.V_drewN | apply Kd.V_drew)); exact HO265.out, by repeat (first | (with_reducible first | exact HB.out | apply below_alloc | apply pw_below_drewN | apply below_drew1) | exact HB.out)⟩

end Go.Proofs.YtglikgjaobedbaaDoor.Sp
