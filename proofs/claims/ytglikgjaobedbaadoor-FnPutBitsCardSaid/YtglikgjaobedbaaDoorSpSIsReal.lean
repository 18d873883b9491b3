/-
  spec_IsReal: its plain function and its contract, as printed (print.sh) for this seat.
-/
import Derived.Test.YtglikgjaobedbaaDoorSp0
import Derived.Test.YtglikgjaobedbaaDoorSpSOdd
import Derived.Test.YtglikgjaobedbaaDoorSpSHasWords
namespace Go.Proofs.YtglikgjaobedbaaDoor.Sp
open Go.RowKit Go.Proofs.YtglikgjaobedbaaDoorW.PrintWords Go.Proofs.YtglikgjaobedbaaDoorW.PrintLast Go.Proofs.YtglikgjaobedbaaDoorW.PrintMore
attribute [local go_sem] max2_int min2_int max_two min_two max_three min_three max_four min_four
set_option linter.unusedVariables false
set_option linter.unusedSimpArgs false

/-! ### spec_IsReal: function 16 -/
def spec_IsReal.j0 : Nat → Bool → Int → Int → Int → Bool → List Int → Int → Bool → List Int → Int → Option (Bool)
  | 0, _, _, _, _, _, _, _, _, _, _ => none
  | k + 1, x20, x205000, x205001, x205002, x205003, x205004, x205005, x206000, x206001, x206002 => if x20 = true then (some false) else (if (x206001.length : Int) = 0 then (if x205002 = 0 then (if (x205004.length : Int) = 0 then (some (x205005 == 0)) else (some false)) else (some false)) else ((spec_Odd.f k x206001).bind fun bt206 => (if x205002 = 1 then (if (x205003 == x206000) = true then ((spec_HasWords.f k x205004 bt206.1).bind fun t210 => (if t210 = true then (some (x205005 == (wrap64 (x206002 + bt206.2)))) else (some false))) else (some false)) else (some false))))
def spec_IsReal.f (k : Nat) (a0_0 : Int) (a0_1 : Int) (a0_2 : Int) (a0_3 : Bool) (l0_4 : List Int) (a0_5 : Int) (a1 : Int) (a2 : Int) (a3_0 : Bool) (l3_1 : List Int) (a3_2 : Int) : Option (Bool) := if a0_0 = a1 then (spec_IsReal.j0 k (a0_1 != a2) a0_0 a0_1 a0_2 a0_3 l0_4 a0_5 a3_0 l3_1 a3_2) else (spec_IsReal.j0 k true a0_0 a0_1 a0_2 a0_3 l0_4 a0_5 a3_0 l3_1 a3_2)
theorem spec_IsReal.mono_l : ∀ k, (∀ y0 y1 y2 y3 y4 y5 y6 y7 y8 y9, LeO (spec_IsReal.j0 k y0 y1 y2 y3 y4 y5 y6 y7 y8 y9) (spec_IsReal.j0 (k + 1) y0 y1 y2 y3 y4 y5 y6 y7 y8 y9))
  | 0 => fun _ _ _ _ _ _ _ _ _ _ r h => by simp [spec_IsReal.j0] at h
  | k + 1 => by
    have ih0 := spec_IsReal.mono_l k
    · intro y0 y1 y2 y3 y4 y5 y6 y7 y8 y9
      unfold spec_IsReal.j0
      repeat' first
      | (with_reducible exact ih0 _ _ _ _ _ _ _ _ _ _)
      | (with_reducible exact spec_HasWords.mono _ _ _)
      | (with_reducible exact spec_Odd.mono _ _)
      | (with_reducible exact LeO.refl _)
      | (with_reducible exact LeO.none _)
      | (with_reducible refine LeO.ite ?_ ?_)
      | (with_reducible refine LeO.bind ?_ (fun _ => ?_))
      | exact ih0 _ _ _ _ _ _ _ _ _ _
      | exact spec_HasWords.mono _ _ _
      | exact spec_Odd.mono _ _
      | exact LeO.none _
      | refine LeO.ite ?_ ?_
      | refine LeO.bind ?_ (fun _ => ?_)
theorem spec_IsReal.mono : ∀ a0 a1 a2 a3 a4 a5 a6 a7 a8 a9 a10 k, LeO (spec_IsReal.f k a0 a1 a2 a3 a4 a5 a6 a7 a8 a9 a10) (spec_IsReal.f (k + 1) a0 a1 a2 a3 a4 a5 a6 a7 a8 a9 a10) := by
  intro a0 a1 a2 a3 a4 a5 a6 a7 a8 a9 a10 k
  have ih0 := spec_IsReal.mono_l k
  unfold spec_IsReal.f
  repeat' first
      | (with_reducible exact ih0 _ _ _ _ _ _ _ _ _ _)
      | (with_reducible exact spec_HasWords.mono _ _ _)
      | (with_reducible exact spec_Odd.mono _ _)
      | (with_reducible exact LeO.refl _)
      | (with_reducible exact LeO.none _)
      | (with_reducible refine LeO.ite ?_ ?_)
      | (with_reducible refine LeO.bind ?_ (fun _ => ?_))
      | exact ih0 _ _ _ _ _ _ _ _ _ _
      | exact spec_HasWords.mono _ _ _
      | exact spec_Odd.mono _ _
      | exact LeO.none _
      | refine LeO.ite ?_ ?_
      | refine LeO.bind ?_ (fun _ => ?_)
set_option maxHeartbeats 8000000 in
set_option maxRecDepth 100000 in
theorem spec_IsReal.calls (k : Nat) (a0_0 : Int) (a0_1 : Int) (a0_2 : Int) (a0_3 : Bool) (A0_4 : Option Addr) (c0_4 : Nat) (l0_4 : List Int) (a0_5 : Int) (a1 : Int) (a2 : Int) (a3_0 : Bool) (A3_1 : Option Addr) (c3_1 : Nat) (l3_1 : List Int) (a3_2 : Int) (r : Bool) (w : World) (hr0_4 : Kd.C (Kd.int .u64) w A0_4 l0_4.length l0_4) (hc0_4 : l0_4.length ≤ c0_4) (hr3_1 : Kd.C (Kd.int .i64) w A3_1 l3_1.length l3_1) (hc3_1 : l3_1.length ≤ c3_1) (h : spec_IsReal.f k a0_0 a0_1 a0_2 a0_3 l0_4 a0_5 a1 a2 a3_0 l3_1 a3_2 = some r) :
    Calls Tryd.prog 16 #[.agg #[.int .u64 a0_0, .int .i64 a0_1, .int .i64 a0_2, .bool a0_3, .slice A0_4 l0_4.length c0_4, .int .i64 a0_5], .int .u64 a1, .int .i64 a2, .agg #[.bool a3_0, .slice A3_1 l3_1.length c3_1, .int .i64 a3_2]] w fun e w' => e = .returned (.bool r) ∧ Below w.heap.size w w' := by
  have hu28 := Tryd.underlying28
  have hu40 := Tryd.underlying40
  have HR0_4 := Aside0.mk hr0_4
  have HC0_4 := Aside0.mk hc0_4
  clear hr0_4 hc0_4
  have HR3_1 := Aside0.mk hr3_1
  have HC3_1 := Aside0.mk hc3_1
  clear hr3_1 hc3_1
  have HB := Aside0.mk (Below.refl w.heap.size w)
  have H : (if a0_0 = a1 then (spec_IsReal.j0 k (a0_1 != a2) a0_0 a0_1 a0_2 a0_3 l0_4 a0_5 a3_0 l3_1 a3_2) else (spec_IsReal.j0 k true a0_0 a0_1 a0_2 a0_3 l0_4 a0_5 a3_0 l3_1 a3_2)) = some r := h
  clear h
  have HC5 := Aside0.mk H
  clear H
  go_enter Tryd.func16, Tryd.ntmps16
  go_upto_region 1 with (first | ((with_reducible refine gate_dst (N := 4) rfl ?_); (try (refine gate_guard (by rfl) ?_; dsimp only)); refine box_event ?hg (N := 4) ?hd (cs := #[.int .u64 a0_0, .int .i64 a0_1, .int .i64 a0_2, .bool a0_3, .slice A0_4 l0_4.length c0_4, .int .i64 a0_5]) (t := 28) ?hr ?_; (case hd => rfl); (case hg => rfl); (case hr => first | (go_simp; done) | (go_simp; rfl)); intro gb204 hg w6 hbox hb; have n0_ := Aside0.mk (below_step (by repeat (first | (with_reducible first | exact HB.out | apply below_alloc | apply pw_below_drewN | apply below_drew1) | exact HB.out)) hb); have n1_ := Aside0.mk (hbox); have n2_ := Aside0.mk ((by rw [hg]; exact (below_size (by repeat (first | (with_reducible first | exact HB.out | apply below_alloc | apply pw_below_drewN | apply below_drew1) | exact HB.out))) : w.heap.size ≤ gb204)); have n3_ := Aside0.mk ((by rw [hg]; exact (below_size (by repeat (first | (with_reducible first | exact HB.out | apply below_alloc | apply pw_below_drewN | apply below_drew1) | exact HB.out))) : w.heap.size ≤ gb204)); clear HB; have HB := n0_; have BK204 := n1_; have GW204 := n2_; have GE204 := n3_; clear n0_ n1_ n2_ n3_; clear hb hbox hg) | ((with_reducible refine gate_dst (N := 7) rfl ?_); (try (refine gate_guard (by rfl) ?_; dsimp only)); refine box_event ?hg (N := 7) ?hd (cs := #[.bool a3_0, .slice A3_1 l3_1.length c3_1, .int .i64 a3_2]) (t := 40) ?hr ?_; (case hd => rfl); (case hg => rfl); (case hr => first | (go_simp; done) | (go_simp; rfl)); intro gb205 hg w7 hbox hb; have n0_ := Aside0.mk (blk_below (g := gb204) (o := .cells #[.int .u64 a0_0, .int .i64 a0_1, .int .i64 a0_2, .bool a0_3, .slice A0_4 l0_4.length c0_4, .int .i64 a0_5] 28 (0, 0)) (by (with_reducible repeat (first | refine blk_drewN ?_ _ | refine blk_drew ?_ | refine blk_alloc ?_ _)); exact BK204.out) hb); have n1_ := Aside0.mk (below_step (by repeat (first | (with_reducible first | exact HB.out | apply below_alloc | apply pw_below_drewN | apply below_drew1 | refine below_set ?_ GE204.out) | exact HB.out)) hb); have n2_ := Aside0.mk (hbox); have n3_ := Aside0.mk ((by rw [hg]; exact (below_size (by repeat (first | (with_reducible first | exact HB.out | apply below_alloc | apply pw_below_drewN | apply below_drew1 | refine below_set ?_ GE204.out) | exact HB.out))) : w.heap.size ≤ gb205)); have n4_ := Aside0.mk ((by rw [hg]; exact (below_size (by repeat (first | (with_reducible first | exact HB.out | apply below_alloc | apply pw_below_drewN | apply below_drew1 | refine below_set ?_ GE204.out) | exact HB.out))) : w.heap.size ≤ gb205)); have n5_ := Aside0.mk ((by rw [hg]; exact Nat.ne_of_lt (blk_lt (g := gb204) (o := .cells #[.int .u64 a0_0, .int .i64 a0_1, .int .i64 a0_2, .bool a0_3, .slice A0_4 l0_4.length c0_4, .int .i64 a0_5] 28 (0, 0)) (by (with_reducible repeat (first | refine blk_drewN ?_ _ | refine blk_drew ?_ | refine blk_alloc ?_ _)); exact BK204.out)) : gb204 ≠ gb205)); have n6_ := Aside0.mk ((by rw [hg]; exact Nat.ne_of_gt (blk_lt (g := gb204) (o := .cells #[.int .u64 a0_0, .int .i64 a0_1, .int .i64 a0_2, .bool a0_3, .slice A0_4 l0_4.length c0_4, .int .i64 a0_5] 28 (0, 0)) (by (with_reducible repeat (first | refine blk_drewN ?_ _ | refine blk_drew ?_ | refine blk_alloc ?_ _)); exact BK204.out)) : gb205 ≠ gb204)); clear BK204; clear HB; have BK204 := n0_; have HB := n1_; have BK205 := n2_; have GW205 := n3_; have GE205 := n4_; have NB204_205 := n5_; have NB205_204 := n6_; clear n0_ n1_ n2_ n3_ n4_ n5_ n6_; clear hb hbox hg))
  (try simp only [Act.put, List.setIfInBounds_toArray, List.set_cons_zero, List.set_cons_succ])
  go_cut [20] (fun v20 wc => ∃ (kq : Nat) (x20_4 : Bool), v20 = .bool x20_4 ∧ Aside0 (spec_IsReal.j0 kq x20_4 a0_0 a0_1 a0_2 a0_3 l0_4 a0_5 a3_0 l3_1 a3_2 = some r) ∧ Aside0 (kq ≤ k) ∧ Aside0 (wc.heap[gb204]? = some (.cells #[.int .u64 a0_0, .int .i64 a0_1, .int .i64 a0_2, .bool a0_3, (.slice A0_4 l0_4.length c0_4), .int .i64 a0_5] 28 (0, 0))) ∧ Aside0 (wc.heap[gb205]? = some (.cells #[.bool a3_0, (.slice A3_1 l3_1.length c3_1), .int .i64 a3_2] 40 (0, 0))) ∧ Aside0 (Below w.heap.size w wc))
  case first =>
    have H := HC5.out
    clear HC5
    by_cases c8 : a0_0 = a1
    · rw [if_pos c8] at H
      have c8b0 : (a0_0 == a1) = true := beq_iff_eq.mpr c8
      have c8b1 : (a0_0 != a1) = false := bne_eq_false_iff_eq.mpr c8
      clear c8
      (first | rw [c8b0] | (simp only [i64_w, i32_w]; rw [c8b0]) | skip)
      have H' := Aside0.mk H
      clear H
      have hnb9 := NB204_205.out
      have hnc9 := NB205_204.out
      have hcz10_0 : w7.cell? ⟨gb204, 0, none⟩ = some (.int .u64 a0_0) := (blk_cell BK204.out 0).trans rfl
      have hcz10_1 : w7.cell? ⟨gb204, 1, none⟩ = some (.int .i64 a0_1) := (blk_cell BK204.out 1).trans rfl
      have hcz10_2 : w7.cell? ⟨gb204, 2, none⟩ = some (.int .i64 a0_2) := (blk_cell BK204.out 2).trans rfl
      have hcz10_3 : w7.cell? ⟨gb204, 3, none⟩ = some (.bool a0_3) := (blk_cell BK204.out 3).trans rfl
      have hcz10_4 : w7.cell? ⟨gb204, 4, none⟩ = some (.slice A0_4 l0_4.length c0_4) := (blk_cell BK204.out 4).trans rfl
      have hcz10_5 : w7.cell? ⟨gb204, 5, none⟩ = some (.int .i64 a0_5) := (blk_cell BK204.out 5).trans rfl
      have hfz10_0 := blk_frozen BK204.out 0
      have hfz10_1 := blk_frozen BK204.out 1
      have hfz10_2 := blk_frozen BK204.out 2
      have hfz10_3 := blk_frozen BK204.out 3
      have hfz10_4 := blk_frozen BK204.out 4
      have hfz10_5 := blk_frozen BK204.out 5
      go_wp2
      go_meet
      case rel => exact ⟨_, ((a0_1 != a2)), (by first | rfl | (simp; done) | (simp [*]; done)), H', ⟨by first | omega | exact Nat.le_refl _⟩, ⟨by (with_reducible repeat (first | refine blk_drewN ?_ _ | refine blk_drew ?_ | refine blk_alloc ?_ _)); exact BK204.out⟩, ⟨by (with_reducible repeat (first | refine blk_drewN ?_ _ | refine blk_drew ?_ | refine blk_alloc ?_ _)); exact BK205.out⟩, ⟨by repeat (first | (with_reducible first | exact HB.out | apply below_alloc | apply pw_below_drewN | apply below_drew1 | refine below_set ?_ GE204.out | refine below_set ?_ GE205.out) | exact HB.out)⟩⟩
    · rw [if_neg c8] at H
      have c8b0 : (a0_0 == a1) = false := beq_eq_false_iff_ne.mpr c8
      have c8b1 : (a0_0 != a1) = true := bne_iff_ne.mpr c8
      (first | rw [c8b0] | (simp only [i64_w, i32_w]; rw [c8b0]) | skip)
      have H' := Aside0.mk H
      clear H
      have hnb11 := NB204_205.out
      have hnc11 := NB205_204.out
      have hcz12_0 : w7.cell? ⟨gb204, 0, none⟩ = some (.int .u64 a0_0) := (blk_cell BK204.out 0).trans rfl
      have hcz12_1 : w7.cell? ⟨gb204, 1, none⟩ = some (.int .i64 a0_1) := (blk_cell BK204.out 1).trans rfl
      have hcz12_2 : w7.cell? ⟨gb204, 2, none⟩ = some (.int .i64 a0_2) := (blk_cell BK204.out 2).trans rfl
      have hcz12_3 : w7.cell? ⟨gb204, 3, none⟩ = some (.bool a0_3) := (blk_cell BK204.out 3).trans rfl
      have hcz12_4 : w7.cell? ⟨gb204, 4, none⟩ = some (.slice A0_4 l0_4.length c0_4) := (blk_cell BK204.out 4).trans rfl
      have hcz12_5 : w7.cell? ⟨gb204, 5, none⟩ = some (.int .i64 a0_5) := (blk_cell BK204.out 5).trans rfl
      have hfz12_0 := blk_frozen BK204.out 0
      have hfz12_1 := blk_frozen BK204.out 1
      have hfz12_2 := blk_frozen BK204.out 2
      have hfz12_3 := blk_frozen BK204.out 3
      have hfz12_4 := blk_frozen BK204.out 4
      have hfz12_5 := blk_frozen BK204.out 5
      go_wp2
      go_meet
      case rel => exact ⟨_, (true), (by first | rfl | (simp; done) | (simp [*]; done)), H', ⟨by first | omega | exact Nat.le_refl _⟩, ⟨by (with_reducible repeat (first | refine blk_drewN ?_ _ | refine blk_drew ?_ | refine blk_alloc ?_ _)); exact BK204.out⟩, ⟨by (with_reducible repeat (first | refine blk_drewN ?_ _ | refine blk_drew ?_ | refine blk_alloc ?_ _)); exact BK205.out⟩, ⟨by repeat (first | (with_reducible first | exact HB.out | apply below_alloc | apply pw_below_drewN | apply below_drew1 | refine below_set ?_ GE204.out | refine below_set ?_ GE205.out) | exact HB.out)⟩⟩
  case rest =>
    clear HC5
    try clear c1
    try clear p2
    try clear c3
    try clear c8
    try clear c8b0
    try clear c8b1
    try clear c9
    try clear c11
    try clear hcz10_0
    try clear hcz10_1
    try clear hcz10_2
    try clear hcz10_3
    try clear hcz10_4
    try clear hcz10_5
    try clear hcz12_0
    try clear hcz12_1
    try clear hcz12_2
    try clear hcz12_3
    try clear hcz12_4
    try clear hcz12_5
    try clear hfz10_0
    try clear hfz10_1
    try clear hfz10_2
    try clear hfz10_3
    try clear hfz10_4
    try clear hfz10_5
    try clear hfz12_0
    try clear hfz12_1
    try clear hfz12_2
    try clear hfz12_3
    try clear hfz12_4
    try clear hfz12_5
    obtain ⟨kq, x20_4, rfl, HA, HJ4, BK204, BK205, HB⟩ := hcut
    cases kq with
    | zero => exact absurd HA.out (by simp [spec_IsReal.j0])
    | succ kj4 =>
      have H := HA.out
      clear HA
      simp only [spec_IsReal.j0] at H
      by_cases c13 : x20_4 = true
      · subst c13
        have H1 : (some false) = some r := by rw [if_pos rfl] at H; exact H
        clear H
        have H := H1
        clear H1
        obtain rfl := Option.some.inj H
        go_wp2
        go_ret
        exact ⟨by first | rfl | (simp [errW_none, errW_some] <;> rfl) | (simp [*, errW_none, errW_some] <;> rfl), by repeat (first | (with_reducible first | exact HB.out | apply below_alloc | apply pw_below_drewN | apply below_drew1 | refine below_set ?_ GE204.out | refine below_set ?_ GE205.out) | exact HB.out)⟩
      · replace c13 := Bool.eq_false_iff.mpr c13
        subst c13
        have H1 : (if (l3_1.length : Int) = 0 then (if a0_2 = 0 then (if (l0_4.length : Int) = 0 then (some (a0_5 == 0)) else (some false)) else (some false)) else ((spec_Odd.f kj4 l3_1).bind fun bt206 => (if a0_2 = 1 then (if (a0_3 == a3_0) = true then ((spec_HasWords.f kj4 l0_4 bt206.1).bind fun t210 => (if t210 = true then (some (a0_5 == (wrap64 (a3_2 + bt206.2)))) else (some false))) else (some false)) else (some false)))) = some r := by rw [if_neg (show ¬ (false = true) by decide)] at H; exact H
        clear H
        have H := H1
        clear H1
        by_cases c14 : (l3_1.length : Int) = 0
        · rw [if_pos c14] at H
          have c14b0 : ((l3_1.length : Int) == 0) = true := beq_iff_eq.mpr c14
          have c14b1 : ((l3_1.length : Int) != 0) = false := bne_eq_false_iff_eq.mpr c14
          clear c14
          by_cases c15 : a0_2 = 0
          · rw [if_pos c15] at H
            have c15b0 : (a0_2 == 0) = true := beq_iff_eq.mpr c15
            have c15b1 : (a0_2 != 0) = false := bne_eq_false_iff_eq.mpr c15
            clear c15
            by_cases c16 : (l0_4.length : Int) = 0
            · rw [if_pos c16] at H
              have c16b0 : ((l0_4.length : Int) == 0) = true := beq_iff_eq.mpr c16
              have c16b1 : ((l0_4.length : Int) != 0) = false := bne_eq_false_iff_eq.mpr c16
              clear c16
              obtain rfl := Option.some.inj H
              have hnb17 := NB205_204.out
              have hnc17 := NB204_205.out
              have hcz18_0 : wc.cell? ⟨gb205, 0, none⟩ = some (.bool a3_0) := (blk_cell BK205.out 0).trans rfl
              have hcz18_1 : wc.cell? ⟨gb205, 1, none⟩ = some (.slice A3_1 l3_1.length c3_1) := (blk_cell BK205.out 1).trans rfl
              have hcz18_2 : wc.cell? ⟨gb205, 2, none⟩ = some (.int .i64 a3_2) := (blk_cell BK205.out 2).trans rfl
              have hfz18_0 := blk_frozen BK205.out 0
              have hfz18_1 := blk_frozen BK205.out 1
              have hfz18_2 := blk_frozen BK205.out 2
              have hcz19_0 : wc.cell? ⟨gb204, 0, none⟩ = some (.int .u64 a0_0) := (blk_cell BK204.out 0).trans rfl
              have hcz19_1 : wc.cell? ⟨gb204, 1, none⟩ = some (.int .i64 a0_1) := (blk_cell BK204.out 1).trans rfl
              have hcz19_2 : wc.cell? ⟨gb204, 2, none⟩ = some (.int .i64 a0_2) := (blk_cell BK204.out 2).trans rfl
              have hcz19_3 : wc.cell? ⟨gb204, 3, none⟩ = some (.bool a0_3) := (blk_cell BK204.out 3).trans rfl
              have hcz19_4 : wc.cell? ⟨gb204, 4, none⟩ = some (.slice A0_4 l0_4.length c0_4) := (blk_cell BK204.out 4).trans rfl
              have hcz19_5 : wc.cell? ⟨gb204, 5, none⟩ = some (.int .i64 a0_5) := (blk_cell BK204.out 5).trans rfl
              have hfz19_0 := blk_frozen BK204.out 0
              have hfz19_1 := blk_frozen BK204.out 1
              have hfz19_2 := blk_frozen BK204.out 2
              have hfz19_3 := blk_frozen BK204.out 3
              have hfz19_4 := blk_frozen BK204.out 4
              have hfz19_5 := blk_frozen BK204.out 5
              go_wp2
              go_ret
              exact ⟨by first | rfl | (simp [errW_none, errW_some] <;> rfl) | (simp [*, errW_none, errW_some] <;> rfl), by repeat (first | (with_reducible first | exact HB.out | apply below_alloc | apply pw_below_drewN | apply below_drew1 | refine below_set ?_ GE204.out | refine below_set ?_ GE205.out) | exact HB.out)⟩
            · rw [if_neg c16] at H
              have c16b0 : ((l0_4.length : Int) == 0) = false := beq_eq_false_iff_ne.mpr c16
              have c16b1 : ((l0_4.length : Int) != 0) = true := bne_iff_ne.mpr c16
              have c16b2 : ¬ (l0_4 = []) := fun h_ => c16 (by rw [h_]; rfl)
              obtain rfl := Option.some.inj H
              have hnb20 := NB205_204.out
              have hnc20 := NB204_205.out
              have hcz21_0 : wc.cell? ⟨gb205, 0, none⟩ = some (.bool a3_0) := (blk_cell BK205.out 0).trans rfl
              have hcz21_1 : wc.cell? ⟨gb205, 1, none⟩ = some (.slice A3_1 l3_1.length c3_1) := (blk_cell BK205.out 1).trans rfl
              have hcz21_2 : wc.cell? ⟨gb205, 2, none⟩ = some (.int .i64 a3_2) := (blk_cell BK205.out 2).trans rfl
              have hfz21_0 := blk_frozen BK205.out 0
              have hfz21_1 := blk_frozen BK205.out 1
              have hfz21_2 := blk_frozen BK205.out 2
              have hcz22_0 : wc.cell? ⟨gb204, 0, none⟩ = some (.int .u64 a0_0) := (blk_cell BK204.out 0).trans rfl
              have hcz22_1 : wc.cell? ⟨gb204, 1, none⟩ = some (.int .i64 a0_1) := (blk_cell BK204.out 1).trans rfl
              have hcz22_2 : wc.cell? ⟨gb204, 2, none⟩ = some (.int .i64 a0_2) := (blk_cell BK204.out 2).trans rfl
              have hcz22_3 : wc.cell? ⟨gb204, 3, none⟩ = some (.bool a0_3) := (blk_cell BK204.out 3).trans rfl
              have hcz22_4 : wc.cell? ⟨gb204, 4, none⟩ = some (.slice A0_4 l0_4.length c0_4) := (blk_cell BK204.out 4).trans rfl
              have hcz22_5 : wc.cell? ⟨gb204, 5, none⟩ = some (.int .i64 a0_5) := (blk_cell BK204.out 5).trans rfl
              have hfz22_0 := blk_frozen BK204.out 0
              have hfz22_1 := blk_frozen BK204.out 1
              have hfz22_2 := blk_frozen BK204.out 2
              have hfz22_3 := blk_frozen BK204.out 3
              have hfz22_4 := blk_frozen BK204.out 4
              have hfz22_5 := blk_frozen BK204.out 5
              go_wp2
              go_ret
              exact ⟨by first | rfl | (simp [errW_none, errW_some] <;> rfl) | (simp [*, errW_none, errW_some] <;> rfl), by repeat (first | (with_reducible first | exact HB.out | apply below_alloc | apply pw_below_drewN | apply below_drew1 | refine below_set ?_ GE204.out | refine below_set ?_ GE205.out) | exact HB.out)⟩
          · rw [if_neg c15] at H
            have c15b0 : (a0_2 == 0) = false := beq_eq_false_iff_ne.mpr c15
            have c15b1 : (a0_2 != 0) = true := bne_iff_ne.mpr c15
            obtain rfl := Option.some.inj H
            have hnb23 := NB205_204.out
            have hnc23 := NB204_205.out
            have hcz24_0 : wc.cell? ⟨gb205, 0, none⟩ = some (.bool a3_0) := (blk_cell BK205.out 0).trans rfl
            have hcz24_1 : wc.cell? ⟨gb205, 1, none⟩ = some (.slice A3_1 l3_1.length c3_1) := (blk_cell BK205.out 1).trans rfl
            have hcz24_2 : wc.cell? ⟨gb205, 2, none⟩ = some (.int .i64 a3_2) := (blk_cell BK205.out 2).trans rfl
            have hfz24_0 := blk_frozen BK205.out 0
            have hfz24_1 := blk_frozen BK205.out 1
            have hfz24_2 := blk_frozen BK205.out 2
            have hcz25_0 : wc.cell? ⟨gb204, 0, none⟩ = some (.int .u64 a0_0) := (blk_cell BK204.out 0).trans rfl
            have hcz25_1 : wc.cell? ⟨gb204, 1, none⟩ = some (.int .i64 a0_1) := (blk_cell BK204.out 1).trans rfl
            have hcz25_2 : wc.cell? ⟨gb204, 2, none⟩ = some (.int .i64 a0_2) := (blk_cell BK204.out 2).trans rfl
            have hcz25_3 : wc.cell? ⟨gb204, 3, none⟩ = some (.bool a0_3) := (blk_cell BK204.out 3).trans rfl
            have hcz25_4 : wc.cell? ⟨gb204, 4, none⟩ = some (.slice A0_4 l0_4.length c0_4) := (blk_cell BK204.out 4).trans rfl
            have hcz25_5 : wc.cell? ⟨gb204, 5, none⟩ = some (.int .i64 a0_5) := (blk_cell BK204.out 5).trans rfl
            have hfz25_0 := blk_frozen BK204.out 0
            have hfz25_1 := blk_frozen BK204.out 1
            have hfz25_2 := blk_frozen BK204.out 2
            have hfz25_3 := blk_frozen BK204.out 3
            have hfz25_4 := blk_frozen BK204.out 4
            have hfz25_5 := blk_frozen BK204.out 5
            go_wp2
            go_ret
            exact ⟨by first | rfl | (simp [errW_none, errW_some] <;> rfl) | (simp [*, errW_none, errW_some] <;> rfl), by repeat (first | (with_reducible first | exact HB.out | apply below_alloc | apply pw_below_drewN | apply below_drew1 | refine below_set ?_ GE204.out | refine below_set ?_ GE205.out) | exact HB.out)⟩
        · rw [if_neg c14] at H
          have c14b0 : ((l3_1.length : Int) == 0) = false := beq_eq_false_iff_ne.mpr c14
          have c14b1 : ((l3_1.length : Int) != 0) = true := bne_iff_ne.mpr c14
          have c14b2 : ¬ (l3_1 = []) := fun h_ => c14 (by rw [h_]; rfl)
          replace H := Option.bind_eq_some_iff.mp H
          obtain ⟨⟨t206, t209⟩, A260, H⟩ := H
          replace H : (if a0_2 = 1 then (if (a0_3 == a3_0) = true then ((spec_HasWords.f kj4 l0_4 t206).bind fun t210 => (if t210 = true then (some (a0_5 == (wrap64 (a3_2 + t209)))) else (some false))) else (some false)) else (some false)) = some r := H
          have A26 := Aside0.mk A260
          clear A260
          by_cases c27 : a0_2 = 1
          · rw [if_pos c27] at H
            have c27b0 : (a0_2 == 1) = true := beq_iff_eq.mpr c27
            have c27b1 : (a0_2 != 1) = false := bne_eq_false_iff_eq.mpr c27
            clear c27
            by_cases c28 : (a0_3 == a3_0) = true
            · rw [if_pos c28] at H
              have c28b0 : (a0_3 == a3_0) = true := c28
              (try (have c28b1 : decide (a0_3 = a3_0) = true := by simpa using c28))
              (try (have c28b2 : (a0_3 == a3_0) = true := by simpa using c28))
              clear c28
              replace H := Option.bind_eq_some_iff.mp H
              obtain ⟨t210, A290, H⟩ := H
              replace H : (if t210 = true then (some (a0_5 == (wrap64 (a3_2 + t209)))) else (some false)) = some r := H
              have A29 := Aside0.mk A290
              clear A290
              by_cases c30 : t210 = true
              · subst c30
                have H1 : (some (a0_5 == (wrap64 (a3_2 + t209)))) = some r := by rw [if_pos rfl] at H; exact H
                clear H
                have H := H1
                clear H1
                obtain rfl := Option.some.inj H
                have hnb31 := NB205_204.out
                have hnc31 := NB204_205.out
                have hcz32_0 : wc.cell? ⟨gb205, 0, none⟩ = some (.bool a3_0) := (blk_cell BK205.out 0).trans rfl
                have hcz32_1 : wc.cell? ⟨gb205, 1, none⟩ = some (.slice A3_1 l3_1.length c3_1) := (blk_cell BK205.out 1).trans rfl
                have hcz32_2 : wc.cell? ⟨gb205, 2, none⟩ = some (.int .i64 a3_2) := (blk_cell BK205.out 2).trans rfl
                have hfz32_0 := blk_frozen BK205.out 0
                have hfz32_1 := blk_frozen BK205.out 1
                have hfz32_2 := blk_frozen BK205.out 2
                go_wp2_with (first | ((with_reducible refine gate_callee (f := 41) rfl ?_); refine goesL_ (some 42) rfl rfl Tryd.func41 (by kernel_rfl) rfl #[.slice A3_1 l3_1.length c3_1] rfl (by (try simp only [List.map_toArray, List.map_cons, List.map_nil]); first | done | rfl | (simp only [List.length_drop, List.length_take]; rfl)) ?_; (with_reducible refine (spec_Odd.calls kj4 _ _ l3_1 t206 t209 _ ?side1 ?side2 A26.out).mono ?_); (case side1 => repeat (first | exact (Kd.C_below HR3_1.out HB.out) | (with_reducible refine Kd.C_alloc ?_ _) | (with_reducible refine Kd.C_drewN ?_ _) | (with_reducible refine Kd.C_drew ?_))); (case side2 => exact HC3_1.out); rintro e w33 ⟨v207, rfl, ho0, hb⟩; refine ⟨_, rfl, ?_⟩; have n0_ := Aside0.mk (Kd.V_lower (Kd.V_mono (ok' := fun k_ => k_ ≠ gb204 ∧ k_ ≠ gb205) ho0 (fun k_ hk_ => ⟨(Kd.freshB (g := gb204) (o := .cells #[.int .u64 a0_0, .int .i64 a0_1, .int .i64 a0_2, .bool a0_3, .slice A0_4 l0_4.length c0_4, .int .i64 a0_5] 28 (0, 0)) (by (with_reducible repeat (first | refine blk_drewN ?_ _ | refine blk_drew ?_ | refine blk_alloc ?_ _)); exact BK204.out) k_ hk_), (Kd.freshB (g := gb205) (o := .cells #[.bool a3_0, .slice A3_1 l3_1.length c3_1, .int .i64 a3_2] 40 (0, 0)) (by (with_reducible repeat (first | refine blk_drewN ?_ _ | refine blk_drew ?_ | refine blk_alloc ?_ _)); exact BK205.out) k_ hk_)⟩)) (below_size (by repeat (first | (with_reducible first | exact HB.out | apply below_alloc | apply pw_below_drewN | apply below_drew1 | refine below_set ?_ GE204.out | refine below_set ?_ GE205.out) | exact HB.out)))); have n1_ := Aside0.mk (blk_below (g := gb204) (o := .cells #[.int .u64 a0_0, .int .i64 a0_1, .int .i64 a0_2, .bool a0_3, .slice A0_4 l0_4.length c0_4, .int .i64 a0_5] 28 (0, 0)) (by (with_reducible repeat (first | refine blk_drewN ?_ _ | refine blk_drew ?_ | refine blk_alloc ?_ _)); exact BK204.out) hb); have n2_ := Aside0.mk (blk_below (g := gb205) (o := .cells #[.bool a3_0, .slice A3_1 l3_1.length c3_1, .int .i64 a3_2] 40 (0, 0)) (by (with_reducible repeat (first | refine blk_drewN ?_ _ | refine blk_drew ?_ | refine blk_alloc ?_ _)); exact BK205.out) hb); have n3_ := Aside0.mk (below_step (by repeat (first | (with_reducible first | exact HB.out | apply below_alloc | apply pw_below_drewN | apply below_drew1 | refine below_set ?_ GE204.out | refine below_set ?_ GE205.out) | exact HB.out)) hb); clear BK204; clear BK205; clear HB; have HO208 := n0_; have BK204 := n1_; have BK205 := n2_; have HB := n3_; clear n0_ n1_ n2_ n3_; (try clear hb); (try clear hb2); (try clear hk); (try clear hi); (try clear ho0); have hcz34_0 : w33.cell? ⟨gb204, 0, none⟩ = some (.int .u64 a0_0) := (blk_cell BK204.out 0).trans rfl; have hcz34_1 : w33.cell? ⟨gb204, 1, none⟩ = some (.int .i64 a0_1) := (blk_cell BK204.out 1).trans rfl; have hcz34_2 : w33.cell? ⟨gb204, 2, none⟩ = some (.int .i64 a0_2) := (blk_cell BK204.out 2).trans rfl; have hcz34_3 : w33.cell? ⟨gb204, 3, none⟩ = some (.bool a0_3) := (blk_cell BK204.out 3).trans rfl; have hcz34_4 : w33.cell? ⟨gb204, 4, none⟩ = some (.slice A0_4 l0_4.length c0_4) := (blk_cell BK204.out 4).trans rfl; have hcz34_5 : w33.cell? ⟨gb204, 5, none⟩ = some (.int .i64 a0_5) := (blk_cell BK204.out 5).trans rfl; have hfz34_0 := blk_frozen BK204.out 0; have hfz34_1 := blk_frozen BK204.out 1; have hfz34_2 := blk_frozen BK204.out 2; have hfz34_3 := blk_frozen BK204.out 3; have hfz34_4 := blk_frozen BK204.out 4; have hfz34_5 := blk_frozen BK204.out 5; have hcz35_0 : w33.cell? ⟨gb205, 0, none⟩ = some (.bool a3_0) := (blk_cell BK205.out 0).trans rfl; have hcz35_1 : w33.cell? ⟨gb205, 1, none⟩ = some (.slice A3_1 l3_1.length c3_1) := (blk_cell BK205.out 1).trans rfl; have hcz35_2 : w33.cell? ⟨gb205, 2, none⟩ = some (.int .i64 a3_2) := (blk_cell BK205.out 2).trans rfl; have hfz35_0 := blk_frozen BK205.out 0; have hfz35_1 := blk_frozen BK205.out 1; have hfz35_2 := blk_frozen BK205.out 2; obtain ⟨Ao36, co36, eo36⟩ := Kd.V_slice HO208.out; subst eo36) | (go_at_call 42; (with_reducible refine (spec_HasWords.calls kj4 _ _ l0_4 _ _ t206 true _ ?side1 ?side2 ?side3 ?side4 A29.out).mono ?_); (case side1 => repeat (first | exact (Kd.C_below HR0_4.out HB.out) | (with_reducible refine Kd.C_alloc ?_ _) | (with_reducible refine Kd.C_drewN ?_ _) | (with_reducible refine Kd.C_drew ?_))); (case side2 => exact HC0_4.out); (case side3 => repeat (first | exact (Kd.V_reads' HO208.out).2.2 | (with_reducible refine Kd.C_alloc ?_ _) | (with_reducible refine Kd.C_drewN ?_ _) | (with_reducible refine Kd.C_drew ?_))); (case side4 => exact (Kd.V_reads' HO208.out).2.1); rintro e w37 ⟨rfl, hb⟩; have n0_ := Aside0.mk (Kd.V_below (by (with_reducible repeat (first | apply Kd.V_alloc | apply Kd.V_drewN | apply Kd.V_drew)); exact HO208.out) hb); have n1_ := Aside0.mk (blk_below (g := gb204) (o := .cells #[.int .u64 a0_0, .int .i64 a0_1, .int .i64 a0_2, .bool a0_3, .slice A0_4 l0_4.length c0_4, .int .i64 a0_5] 28 (0, 0)) (by (with_reducible repeat (first | refine blk_drewN ?_ _ | refine blk_drew ?_ | refine blk_alloc ?_ _)); exact BK204.out) hb); have n2_ := Aside0.mk (blk_below (g := gb205) (o := .cells #[.bool a3_0, .slice A3_1 l3_1.length c3_1, .int .i64 a3_2] 40 (0, 0)) (by (with_reducible repeat (first | refine blk_drewN ?_ _ | refine blk_drew ?_ | refine blk_alloc ?_ _)); exact BK205.out) hb); have n3_ := Aside0.mk (below_step (by repeat (first | (with_reducible first | exact HB.out | apply below_alloc | apply pw_below_drewN | apply below_drew1 | refine below_set ?_ GE204.out | refine below_set ?_ GE205.out) | exact HB.out)) hb); clear HO208; clear BK204; clear BK205; clear HB; have HO208 := n0_; have BK204 := n1_; have BK205 := n2_; have HB := n3_; clear n0_ n1_ n2_ n3_; (try clear hb); (try clear hb2); (try clear hk); (try clear hi); have hcz38_0 : w37.cell? ⟨gb204, 0, none⟩ = some (.int .u64 a0_0) := (blk_cell BK204.out 0).trans rfl; have hcz38_1 : w37.cell? ⟨gb204, 1, none⟩ = some (.int .i64 a0_1) := (blk_cell BK204.out 1).trans rfl; have hcz38_2 : w37.cell? ⟨gb204, 2, none⟩ = some (.int .i64 a0_2) := (blk_cell BK204.out 2).trans rfl; have hcz38_3 : w37.cell? ⟨gb204, 3, none⟩ = some (.bool a0_3) := (blk_cell BK204.out 3).trans rfl; have hcz38_4 : w37.cell? ⟨gb204, 4, none⟩ = some (.slice A0_4 l0_4.length c0_4) := (blk_cell BK204.out 4).trans rfl; have hcz38_5 : w37.cell? ⟨gb204, 5, none⟩ = some (.int .i64 a0_5) := (blk_cell BK204.out 5).trans rfl; have hfz38_0 := blk_frozen BK204.out 0; have hfz38_1 := blk_frozen BK204.out 1; have hfz38_2 := blk_frozen BK204.out 2; have hfz38_3 := blk_frozen BK204.out 3; have hfz38_4 := blk_frozen BK204.out 4; have hfz38_5 := blk_frozen BK204.out 5; have hcz39_0 : w37.cell? ⟨gb205, 0, none⟩ = some (.bool a3_0) := (blk_cell BK205.out 0).trans rfl; have hcz39_1 : w37.cell? ⟨gb205, 1, none⟩ = some (.slice A3_1 l3_1.length c3_1) := (blk_cell BK205.out 1).trans rfl; have hcz39_2 : w37.cell? ⟨gb205, 2, none⟩ = some (.int .i64 a3_2) := (blk_cell BK205.out 2).trans rfl; have hfz39_0 := blk_frozen BK205.out 0; have hfz39_1 := blk_frozen BK205.out 1; have hfz39_2 := blk_frozen BK205.out 2))
                go_ret
                exact ⟨by first | rfl | (simp [errW_none, errW_some] <;> rfl) | (simp [*, errW_none, errW_some] <;> rfl), by repeat (first | (with_reducible first | exact HB.out | apply below_alloc | apply pw_below_drewN | apply below_drew1 | refine below_set ?_ GE204.out | refine below_set ?_ GE205.out) | exact HB.out)⟩
              · replace c30 := Bool.eq_false_iff.mpr c30
                subst c30
                have H1 : (some false) = some r := by rw [if_neg (show ¬ (false = true) by decide)] at H; exact H
                clear H
                have H := H1
                clear H1
                obtain rfl := Option.some.inj H
                have hnb40 := NB205_204.out
                have hnc40 := NB204_205.out
                have hcz41_0 : wc.cell? ⟨gb205, 0, none⟩ = some (.bool a3_0) := (blk_cell BK205.out 0).trans rfl
                have hcz41_1 : wc.cell? ⟨gb205, 1, none⟩ = some (.slice A3_1 l3_1.length c3_1) := (blk_cell BK205.out 1).trans rfl
                have hcz41_2 : wc.cell? ⟨gb205, 2, none⟩ = some (.int .i64 a3_2) := (blk_cell BK205.out 2).trans rfl
                have hfz41_0 := blk_frozen BK205.out 0
                have hfz41_1 := blk_frozen BK205.out 1
                have hfz41_2 := blk_frozen BK205.out 2
                go_wp2_with (first | ((with_reducible refine gate_callee (f := 41) rfl ?_); refine goesL_ (some 42) rfl rfl Tryd.func41 (by kernel_rfl) rfl #[.slice A3_1 l3_1.length c3_1] rfl (by (try simp only [List.map_toArray, List.map_cons, List.map_nil]); first | done | rfl | (simp only [List.length_drop, List.length_take]; rfl)) ?_; (with_reducible refine (spec_Odd.calls kj4 _ _ l3_1 t206 t209 _ ?side1 ?side2 A26.out).mono ?_); (case side1 => repeat (first | exact (Kd.C_below HR3_1.out HB.out) | (with_reducible refine Kd.C_alloc ?_ _) | (with_reducible refine Kd.C_drewN ?_ _) | (with_reducible refine Kd.C_drew ?_))); (case side2 => exact HC3_1.out); rintro e w42 ⟨v207, rfl, ho0, hb⟩; refine ⟨_, rfl, ?_⟩; have n0_ := Aside0.mk (Kd.V_lower (Kd.V_mono (ok' := fun k_ => k_ ≠ gb204 ∧ k_ ≠ gb205) ho0 (fun k_ hk_ => ⟨(Kd.freshB (g := gb204) (o := .cells #[.int .u64 a0_0, .int .i64 a0_1, .int .i64 a0_2, .bool a0_3, .slice A0_4 l0_4.length c0_4, .int .i64 a0_5] 28 (0, 0)) (by (with_reducible repeat (first | refine blk_drewN ?_ _ | refine blk_drew ?_ | refine blk_alloc ?_ _)); exact BK204.out) k_ hk_), (Kd.freshB (g := gb205) (o := .cells #[.bool a3_0, .slice A3_1 l3_1.length c3_1, .int .i64 a3_2] 40 (0, 0)) (by (with_reducible repeat (first | refine blk_drewN ?_ _ | refine blk_drew ?_ | refine blk_alloc ?_ _)); exact BK205.out) k_ hk_)⟩)) (below_size (by repeat (first | (with_reducible first | exact HB.out | apply below_alloc | apply pw_below_drewN | apply below_drew1 | refine below_set ?_ GE204.out | refine below_set ?_ GE205.out) | exact HB.out)))); have n1_ := Aside0.mk (blk_below (g := gb204) (o := .cells #[.int .u64 a0_0, .int .i64 a0_1, .int .i64 a0_2, .bool a0_3, .slice A0_4 l0_4.length c0_4, .int .i64 a0_5] 28 (0, 0)) (by (with_reducible repeat (first | refine blk_drewN ?_ _ | refine blk_drew ?_ | refine blk_alloc ?_ _)); exact BK204.out) hb); have n2_ := Aside0.mk (blk_below (g := gb205) (o := .cells #[.bool a3_0, .slice A3_1 l3_1.length c3_1, .int .i64 a3_2] 40 (0, 0)) (by (with_reducible repeat (first | refine blk_drewN ?_ _ | refine blk_drew ?_ | refine blk_alloc ?_ _)); exact BK205.out) hb); have n3_ := Aside0.mk (below_step (by repeat (first | (with_reducible first | exact HB.out | apply below_alloc | apply pw_below_drewN | apply below_drew1 | refine below_set ?_ GE204.out | refine below_set ?_ GE205.out) | exact HB.out)) hb); clear BK204; clear BK205; clear HB; have HO208 := n0_; have BK204 := n1_; have BK205 := n2_; have HB := n3_; clear n0_ n1_ n2_ n3_; (try clear hb); (try clear hb2); (try clear hk); (try clear hi); (try clear ho0); have hcz43_0 : w42.cell? ⟨gb204, 0, none⟩ = some (.int .u64 a0_0) := (blk_cell BK204.out 0).trans rfl; have hcz43_1 : w42.cell? ⟨gb204, 1, none⟩ = some (.int .i64 a0_1) := (blk_cell BK204.out 1).trans rfl; have hcz43_2 : w42.cell? ⟨gb204, 2, none⟩ = some (.int .i64 a0_2) := (blk_cell BK204.out 2).trans rfl; have hcz43_3 : w42.cell? ⟨gb204, 3, none⟩ = some (.bool a0_3) := (blk_cell BK204.out 3).trans rfl; have hcz43_4 : w42.cell? ⟨gb204, 4, none⟩ = some (.slice A0_4 l0_4.length c0_4) := (blk_cell BK204.out 4).trans rfl; have hcz43_5 : w42.cell? ⟨gb204, 5, none⟩ = some (.int .i64 a0_5) := (blk_cell BK204.out 5).trans rfl; have hfz43_0 := blk_frozen BK204.out 0; have hfz43_1 := blk_frozen BK204.out 1; have hfz43_2 := blk_frozen BK204.out 2; have hfz43_3 := blk_frozen BK204.out 3; have hfz43_4 := blk_frozen BK204.out 4; have hfz43_5 := blk_frozen BK204.out 5; have hcz44_0 : w42.cell? ⟨gb205, 0, none⟩ = some (.bool a3_0) := (blk_cell BK205.out 0).trans rfl; have hcz44_1 : w42.cell? ⟨gb205, 1, none⟩ = some (.slice A3_1 l3_1.length c3_1) := (blk_cell BK205.out 1).trans rfl; have hcz44_2 : w42.cell? ⟨gb205, 2, none⟩ = some (.int .i64 a3_2) := (blk_cell BK205.out 2).trans rfl; have hfz44_0 := blk_frozen BK205.out 0; have hfz44_1 := blk_frozen BK205.out 1; have hfz44_2 := blk_frozen BK205.out 2; obtain ⟨Ao45, co45, eo45⟩ := Kd.V_slice HO208.out; subst eo45) | (go_at_call 42; (with_reducible refine (spec_HasWords.calls kj4 _ _ l0_4 _ _ t206 false _ ?side1 ?side2 ?side3 ?side4 A29.out).mono ?_); (case side1 => repeat (first | exact (Kd.C_below HR0_4.out HB.out) | (with_reducible refine Kd.C_alloc ?_ _) | (with_reducible refine Kd.C_drewN ?_ _) | (with_reducible refine Kd.C_drew ?_))); (case side2 => exact HC0_4.out); (case side3 => repeat (first | exact (Kd.V_reads' HO208.out).2.2 | (with_reducible refine Kd.C_alloc ?_ _) | (with_reducible refine Kd.C_drewN ?_ _) | (with_reducible refine Kd.C_drew ?_))); (case side4 => exact (Kd.V_reads' HO208.out).2.1); rintro e w46 ⟨rfl, hb⟩; have n0_ := Aside0.mk (Kd.V_below (by (with_reducible repeat (first | apply Kd.V_alloc | apply Kd.V_drewN | apply Kd.V_drew)); exact HO208.out) hb); have n1_ := Aside0.mk (blk_below (g := gb204) (o := .cells #[.int .u64 a0_0, .int .i64 a0_1, .int .i64 a0_2, .bool a0_3, .slice A0_4 l0_4.length c0_4, .int .i64 a0_5] 28 (0, 0)) (by (with_reducible repeat (first | refine blk_drewN ?_ _ | refine blk_drew ?_ | refine blk_alloc ?_ _)); exact BK204.out) hb); have n2_ := Aside0.mk (blk_below (g := gb205) (o := .cells #[.bool a3_0, .slice A3_1 l3_1.length c3_1, .int .i64 a3_2] 40 (0, 0)) (by (with_reducible repeat (first | refine blk_drewN ?_ _ | refine blk_drew ?_ | refine blk_alloc ?_ _)); exact BK205.out) hb); have n3_ := Aside0.mk (below_step (by repeat (first | (with_reducible first | exact HB.out | apply below_alloc | apply pw_below_drewN | apply below_drew1 | refine below_set ?_ GE204.out | refine below_set ?_ GE205.out) | exact HB.out)) hb); clear HO208; clear BK204; clear BK205; clear HB; have HO208 := n0_; have BK204 := n1_; have BK205 := n2_; have HB := n3_; clear n0_ n1_ n2_ n3_; (try clear hb); (try clear hb2); (try clear hk); (try clear hi)))
                go_ret
                exact ⟨by first | rfl | (simp [errW_none, errW_some] <;> rfl) | (simp [*, errW_none, errW_some] <;> rfl), by repeat (first | (with_reducible first | exact HB.out | apply below_alloc | apply pw_below_drewN | apply below_drew1 | refine below_set ?_ GE204.out | refine below_set ?_ GE205.out) | exact HB.out)⟩
            · rw [if_neg c28] at H
              have c28b0 : (a0_3 == a3_0) = false := by simpa using c28
              (try (have c28b1 : decide (a0_3 = a3_0) = false := by simpa using c28))
              (try (have c28b2 : (a0_3 == a3_0) = false := by simpa using c28))
              (try (have c28b3 : ¬ (a0_3 = a3_0) := by simpa using c28))
              clear c28
              obtain rfl := Option.some.inj H
              have hnb47 := NB205_204.out
              have hnc47 := NB204_205.out
              have hcz48_0 : wc.cell? ⟨gb205, 0, none⟩ = some (.bool a3_0) := (blk_cell BK205.out 0).trans rfl
              have hcz48_1 : wc.cell? ⟨gb205, 1, none⟩ = some (.slice A3_1 l3_1.length c3_1) := (blk_cell BK205.out 1).trans rfl
              have hcz48_2 : wc.cell? ⟨gb205, 2, none⟩ = some (.int .i64 a3_2) := (blk_cell BK205.out 2).trans rfl
              have hfz48_0 := blk_frozen BK205.out 0
              have hfz48_1 := blk_frozen BK205.out 1
              have hfz48_2 := blk_frozen BK205.out 2
              go_wp2_with (first | ((with_reducible refine gate_callee (f := 41) rfl ?_); refine goesL_ (some 42) rfl rfl Tryd.func41 (by kernel_rfl) rfl #[.slice A3_1 l3_1.length c3_1] rfl (by (try simp only [List.map_toArray, List.map_cons, List.map_nil]); first | done | rfl | (simp only [List.length_drop, List.length_take]; rfl)) ?_; (with_reducible refine (spec_Odd.calls kj4 _ _ l3_1 t206 t209 _ ?side1 ?side2 A26.out).mono ?_); (case side1 => repeat (first | exact (Kd.C_below HR3_1.out HB.out) | (with_reducible refine Kd.C_alloc ?_ _) | (with_reducible refine Kd.C_drewN ?_ _) | (with_reducible refine Kd.C_drew ?_))); (case side2 => exact HC3_1.out); rintro e w49 ⟨v207, rfl, ho0, hb⟩; refine ⟨_, rfl, ?_⟩; have n0_ := Aside0.mk (Kd.V_lower (Kd.V_mono (ok' := fun k_ => k_ ≠ gb204 ∧ k_ ≠ gb205) ho0 (fun k_ hk_ => ⟨(Kd.freshB (g := gb204) (o := .cells #[.int .u64 a0_0, .int .i64 a0_1, .int .i64 a0_2, .bool a0_3, .slice A0_4 l0_4.length c0_4, .int .i64 a0_5] 28 (0, 0)) (by (with_reducible repeat (first | refine blk_drewN ?_ _ | refine blk_drew ?_ | refine blk_alloc ?_ _)); exact BK204.out) k_ hk_), (Kd.freshB (g := gb205) (o := .cells #[.bool a3_0, .slice A3_1 l3_1.length c3_1, .int .i64 a3_2] 40 (0, 0)) (by (with_reducible repeat (first | refine blk_drewN ?_ _ | refine blk_drew ?_ | refine blk_alloc ?_ _)); exact BK205.out) k_ hk_)⟩)) (below_size (by repeat (first | (with_reducible first | exact HB.out | apply below_alloc | apply pw_below_drewN | apply below_drew1 | refine below_set ?_ GE204.out | refine below_set ?_ GE205.out) | exact HB.out)))); have n1_ := Aside0.mk (blk_below (g := gb204) (o := .cells #[.int .u64 a0_0, .int .i64 a0_1, .int .i64 a0_2, .bool a0_3, .slice A0_4 l0_4.length c0_4, .int .i64 a0_5] 28 (0, 0)) (by (with_reducible repeat (first | refine blk_drewN ?_ _ | refine blk_drew ?_ | refine blk_alloc ?_ _)); exact BK204.out) hb); have n2_ := Aside0.mk (blk_below (g := gb205) (o := .cells #[.bool a3_0, .slice A3_1 l3_1.length c3_1, .int .i64 a3_2] 40 (0, 0)) (by (with_reducible repeat (first | refine blk_drewN ?_ _ | refine blk_drew ?_ | refine blk_alloc ?_ _)); exact BK205.out) hb); have n3_ := Aside0.mk (below_step (by repeat (first | (with_reducible first | exact HB.out | apply below_alloc | apply pw_below_drewN | apply below_drew1 | refine below_set ?_ GE204.out | refine below_set ?_ GE205.out) | exact HB.out)) hb); clear BK204; clear BK205; clear HB; have HO208 := n0_; have BK204 := n1_; have BK205 := n2_; have HB := n3_; clear n0_ n1_ n2_ n3_; (try clear hb); (try clear hb2); (try clear hk); (try clear hi); (try clear ho0); have hcz50_0 : w49.cell? ⟨gb204, 0, none⟩ = some (.int .u64 a0_0) := (blk_cell BK204.out 0).trans rfl; have hcz50_1 : w49.cell? ⟨gb204, 1, none⟩ = some (.int .i64 a0_1) := (blk_cell BK204.out 1).trans rfl; have hcz50_2 : w49.cell? ⟨gb204, 2, none⟩ = some (.int .i64 a0_2) := (blk_cell BK204.out 2).trans rfl; have hcz50_3 : w49.cell? ⟨gb204, 3, none⟩ = some (.bool a0_3) := (blk_cell BK204.out 3).trans rfl; have hcz50_4 : w49.cell? ⟨gb204, 4, none⟩ = some (.slice A0_4 l0_4.length c0_4) := (blk_cell BK204.out 4).trans rfl; have hcz50_5 : w49.cell? ⟨gb204, 5, none⟩ = some (.int .i64 a0_5) := (blk_cell BK204.out 5).trans rfl; have hfz50_0 := blk_frozen BK204.out 0; have hfz50_1 := blk_frozen BK204.out 1; have hfz50_2 := blk_frozen BK204.out 2; have hfz50_3 := blk_frozen BK204.out 3; have hfz50_4 := blk_frozen BK204.out 4; have hfz50_5 := blk_frozen BK204.out 5; have hcz51_0 : w49.cell? ⟨gb205, 0, none⟩ = some (.bool a3_0) := (blk_cell BK205.out 0).trans rfl; have hcz51_1 : w49.cell? ⟨gb205, 1, none⟩ = some (.slice A3_1 l3_1.length c3_1) := (blk_cell BK205.out 1).trans rfl; have hcz51_2 : w49.cell? ⟨gb205, 2, none⟩ = some (.int .i64 a3_2) := (blk_cell BK205.out 2).trans rfl; have hfz51_0 := blk_frozen BK205.out 0; have hfz51_1 := blk_frozen BK205.out 1; have hfz51_2 := blk_frozen BK205.out 2))
              go_ret
              exact ⟨by first | rfl | (simp [errW_none, errW_some] <;> rfl) | (simp [*, errW_none, errW_some] <;> rfl), by repeat (first | (with_reducible first | exact HB.out | apply below_alloc | apply pw_below_drewN | apply below_drew1 | refine below_set ?_ GE204.out | refine below_set ?_ GE205.out) | exact HB.out)⟩
          · rw [if_neg c27] at H
            have c27b0 : (a0_2 == 1) = false := beq_eq_false_iff_ne.mpr c27
            have c27b1 : (a0_2 != 1) = true := bne_iff_ne.mpr c27
            obtain rfl := Option.some.inj H
            have hnb52 := NB205_204.out
            have hnc52 := NB204_205.out
            have hcz53_0 : wc.cell? ⟨gb205, 0, none⟩ = some (.bool a3_0) := (blk_cell BK205.out 0).trans rfl
            have hcz53_1 : wc.cell? ⟨gb205, 1, none⟩ = some (.slice A3_1 l3_1.length c3_1) := (blk_cell BK205.out 1).trans rfl
            have hcz53_2 : wc.cell? ⟨gb205, 2, none⟩ = some (.int .i64 a3_2) := (blk_cell BK205.out 2).trans rfl
            have hfz53_0 := blk_frozen BK205.out 0
            have hfz53_1 := blk_frozen BK205.out 1
            have hfz53_2 := blk_frozen BK205.out 2
            go_wp2_with (first | ((with_reducible refine gate_callee (f := 41) rfl ?_); refine goesL_ (some 42) rfl rfl Tryd.func41 (by kernel_rfl) rfl #[.slice A3_1 l3_1.length c3_1] rfl (by (try simp only [List.map_toArray, List.map_cons, List.map_nil]); first | done | rfl | (simp only [List.length_drop, List.length_take]; rfl)) ?_; (with_reducible refine (spec_Odd.calls kj4 _ _ l3_1 t206 t209 _ ?side1 ?side2 A26.out).mono ?_); (case side1 => repeat (first | exact (Kd.C_below HR3_1.out HB.out) | (with_reducible refine Kd.C_alloc ?_ _) | (with_reducible refine Kd.C_drewN ?_ _) | (with_reducible refine Kd.C_drew ?_))); (case side2 => exact HC3_1.out); rintro e w54 ⟨v207, rfl, ho0, hb⟩; refine ⟨_, rfl, ?_⟩; have n0_ := Aside0.mk (Kd.V_lower (Kd.V_mono (ok' := fun k_ => k_ ≠ gb204 ∧ k_ ≠ gb205) ho0 (fun k_ hk_ => ⟨(Kd.freshB (g := gb204) (o := .cells #[.int .u64 a0_0, .int .i64 a0_1, .int .i64 a0_2, .bool a0_3, .slice A0_4 l0_4.length c0_4, .int .i64 a0_5] 28 (0, 0)) (by (with_reducible repeat (first | refine blk_drewN ?_ _ | refine blk_drew ?_ | refine blk_alloc ?_ _)); exact BK204.out) k_ hk_), (Kd.freshB (g := gb205) (o := .cells #[.bool a3_0, .slice A3_1 l3_1.length c3_1, .int .i64 a3_2] 40 (0, 0)) (by (with_reducible repeat (first | refine blk_drewN ?_ _ | refine blk_drew ?_ | refine blk_alloc ?_ _)); exact BK205.out) k_ hk_)⟩)) (below_size (by repeat (first | (with_reducible first | exact HB.out | apply below_alloc | apply pw_below_drewN | apply below_drew1 | refine below_set ?_ GE204.out | refine below_set ?_ GE205.out) | exact HB.out)))); have n1_ := Aside0.mk (blk_below (g := gb204) (o := .cells #[.int .u64 a0_0, .int .i64 a0_1, .int .i64 a0_2, .bool a0_3, .slice A0_4 l0_4.length c0_4, .int .i64 a0_5] 28 (0, 0)) (by (with_reducible repeat (first | refine blk_drewN ?_ _ | refine blk_drew ?_ | refine blk_alloc ?_ _)); exact BK204.out) hb); have n2_ := Aside0.mk (blk_below (g := gb205) (o := .cells #[.bool a3_0, .slice A3_1 l3_1.length c3_1, .int .i64 a3_2] 40 (0, 0)) (by (with_reducible repeat (first | refine blk_drewN ?_ _ | refine blk_drew ?_ | refine blk_alloc ?_ _)); exact BK205.out) hb); have n3_ := Aside0.mk (below_step (by repeat (first | (with_reducible first | exact HB.out | apply below_alloc | apply pw_below_drewN | apply below_drew1 | refine below_set ?_ GE204.out | refine below_set ?_ GE205.out) | exact HB.out)) hb); clear BK204; clear BK205; clear HB; have HO208 := n0_; have BK204 := n1_; have BK205 := n2_; have HB := n3_; clear n0_ n1_ n2_ n3_; (try clear hb); (try clear hb2); (try clear hk); (try clear hi); (try clear ho0); have hcz55_0 : w54.cell? ⟨gb204, 0, none⟩ = some (.int .u64 a0_0) := (blk_cell BK204.out 0).trans rfl; have hcz55_1 : w54.cell? ⟨gb204, 1, none⟩ = some (.int .i64 a0_1) := (blk_cell BK204.out 1).trans rfl; have hcz55_2 : w54.cell? ⟨gb204, 2, none⟩ = some (.int .i64 a0_2) := (blk_cell BK204.out 2).trans rfl; have hcz55_3 : w54.cell? ⟨gb204, 3, none⟩ = some (.bool a0_3) := (blk_cell BK204.out 3).trans rfl; have hcz55_4 : w54.cell? ⟨gb204, 4, none⟩ = some (.slice A0_4 l0_4.length c0_4) := (blk_cell BK204.out 4).trans rfl; have hcz55_5 : w54.cell? ⟨gb204, 5, none⟩ = some (.int .i64 a0_5) := (blk_cell BK204.out 5).trans rfl; have hfz55_0 := blk_frozen BK204.out 0; have hfz55_1 := blk_frozen BK204.out 1; have hfz55_2 := blk_frozen BK204.out 2; have hfz55_3 := blk_frozen BK204.out 3; have hfz55_4 := blk_frozen BK204.out 4; have hfz55_5 := blk_frozen BK204.out 5))
            go_ret
            exact ⟨by first | rfl | (simp [errW_none, errW_some] <;> rfl) | (simp [*, errW_none, errW_some] <;> rfl), by repeat (first | (with_reducible first | exact HB.out | apply below_alloc | apply pw_below_drewN | apply below_drew1 | refine below_set ?_ GE204.out | refine below_set ?_ GE205.out) | exact HB.out)⟩

end Go.Proofs.YtglikgjaobedbaaDoor.Sp
