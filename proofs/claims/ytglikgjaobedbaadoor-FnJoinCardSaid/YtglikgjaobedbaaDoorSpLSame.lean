/-
  laws_same: its plain function and its contract, as printed (print.sh) for this seat.
-/
import Derived.Test.YtglikgjaobedbaaDoorSp0
namespace Go.Proofs.YtglikgjaobedbaaDoor.Sp
open Go.RowKit Go.Proofs.YtglikgjaobedbaaDoorW.PrintWords Go.Proofs.YtglikgjaobedbaaDoorW.PrintLast Go.Proofs.YtglikgjaobedbaaDoorW.PrintMore
attribute [local go_sem] max2_int min2_int max_two min_two max_three min_three max_four min_four
set_option linter.unusedVariables false
set_option linter.unusedSimpArgs false

/-! ### laws_same: function 25 -/
def laws_same.l0 : Nat → Int → Int → Int → Int → Int → Bool → List Int → Int → Int → Int → Int → Bool → List Int → Int → Option (Bool)
  | 0, _, _, _, _, _, _, _, _, _, _, _, _, _, _ => none
  | k + 1, x15, x16, x251000, x251001, x251002, x251003, x251004, x251005, x252000, x252001, x252002, x252003, x252004, x252005 => if x16 < x15 then (if 0 ≤ x16 then (if x16 < (x251004.length : Int) then (if x16 < (x252004.length : Int) then (if (rd x251004 x16) = (rd x252004 x16) then (laws_same.l0 k x15 (wrap64 (x16 + 1)) x251000 x251001 x251002 x251003 x251004 x251005 x252000 x252001 x252002 x252003 x252004 x252005) else (some false)) else (none)) else (none)) else (none)) else (if x251000 = x252000 then (if x251001 = x252001 then (if x251002 = x252002 then (if (x251003 == x252003) = true then (some (x251005 == x252005)) else (some false)) else (some false)) else (some false)) else (some false))
def laws_same.f (k : Nat) (a0_0 : Int) (a0_1 : Int) (a0_2 : Int) (a0_3 : Bool) (l0_4 : List Int) (a0_5 : Int) (a1_0 : Int) (a1_1 : Int) (a1_2 : Int) (a1_3 : Bool) (l1_4 : List Int) (a1_5 : Int) : Option (Bool) := if (l0_4.length : Int) = (l1_4.length : Int) then (laws_same.l0 k (l0_4.length : Int) 0 a0_0 a0_1 a0_2 a0_3 l0_4 a0_5 a1_0 a1_1 a1_2 a1_3 l1_4 a1_5) else (some false)
theorem laws_same.mono_l : ∀ k, (∀ y0 y1 y2 y3 y4 y5 y6 y7 y8 y9 y10 y11 y12 y13, LeO (laws_same.l0 k y0 y1 y2 y3 y4 y5 y6 y7 y8 y9 y10 y11 y12 y13) (laws_same.l0 (k + 1) y0 y1 y2 y3 y4 y5 y6 y7 y8 y9 y10 y11 y12 y13))
  | 0 => fun _ _ _ _ _ _ _ _ _ _ _ _ _ _ r h => by simp [laws_same.l0] at h
  | k + 1 => by
    have ih0 := laws_same.mono_l k
    · intro y0 y1 y2 y3 y4 y5 y6 y7 y8 y9 y10 y11 y12 y13
      unfold laws_same.l0
      repeat' first
      | (with_reducible exact ih0 _ _ _ _ _ _ _ _ _ _ _ _ _ _)
      | (with_reducible exact LeO.refl _)
      | (with_reducible exact LeO.none _)
      | (with_reducible refine LeO.ite ?_ ?_)
      | (with_reducible refine LeO.bind ?_ (fun _ => ?_))
      | exact ih0 _ _ _ _ _ _ _ _ _ _ _ _ _ _
      | exact LeO.none _
      | refine LeO.ite ?_ ?_
      | refine LeO.bind ?_ (fun _ => ?_)
theorem laws_same.mono : ∀ a0 a1 a2 a3 a4 a5 a6 a7 a8 a9 a10 a11 k, LeO (laws_same.f k a0 a1 a2 a3 a4 a5 a6 a7 a8 a9 a10 a11) (laws_same.f (k + 1) a0 a1 a2 a3 a4 a5 a6 a7 a8 a9 a10 a11) := by
  intro a0 a1 a2 a3 a4 a5 a6 a7 a8 a9 a10 a11 k
  have ih0 := laws_same.mono_l k
  unfold laws_same.f
  repeat' first
      | (with_reducible exact ih0 _ _ _ _ _ _ _ _ _ _ _ _ _ _)
      | (with_reducible exact LeO.refl _)
      | (with_reducible exact LeO.none _)
      | (with_reducible refine LeO.ite ?_ ?_)
      | (with_reducible refine LeO.bind ?_ (fun _ => ?_))
      | exact ih0 _ _ _ _ _ _ _ _ _ _ _ _ _ _
      | exact LeO.none _
      | refine LeO.ite ?_ ?_
      | refine LeO.bind ?_ (fun _ => ?_)
set_option maxHeartbeats 8000000 in
set_option maxRecDepth 100000 in
theorem laws_same.calls (k : Nat) (a0_0 : Int) (a0_1 : Int) (a0_2 : Int) (a0_3 : Bool) (A0_4 : Option Addr) (c0_4 : Nat) (l0_4 : List Int) (a0_5 : Int) (a1_0 : Int) (a1_1 : Int) (a1_2 : Int) (a1_3 : Bool) (A1_4 : Option Addr) (c1_4 : Nat) (l1_4 : List Int) (a1_5 : Int) (r : Bool) (w : World) (hr0_4 : Kd.C (Kd.int .u64) w A0_4 l0_4.length l0_4) (hc0_4 : l0_4.length ≤ c0_4) (hr1_4 : Kd.C (Kd.int .u64) w A1_4 l1_4.length l1_4) (hc1_4 : l1_4.length ≤ c1_4) (h : laws_same.f k a0_0 a0_1 a0_2 a0_3 l0_4 a0_5 a1_0 a1_1 a1_2 a1_3 l1_4 a1_5 = some r) :
    Calls Tryd.prog 25 #[.agg #[.int .u64 a0_0, .int .i64 a0_1, .int .i64 a0_2, .bool a0_3, .slice A0_4 l0_4.length c0_4, .int .i64 a0_5], .agg #[.int .u64 a1_0, .int .i64 a1_1, .int .i64 a1_2, .bool a1_3, .slice A1_4 l1_4.length c1_4, .int .i64 a1_5]] w fun e w' => e = .returned (.bool r) ∧ Below w.heap.size w w' := by
  have hu28 := Tryd.underlying28
  have HR0_4 := Aside0.mk hr0_4
  have HC0_4 := Aside0.mk hc0_4
  clear hr0_4 hc0_4
  have HR1_4 := Aside0.mk hr1_4
  have HC1_4 := Aside0.mk hc1_4
  clear hr1_4 hc1_4
  have HB := Aside0.mk (Below.refl w.heap.size w)
  have H : (if (l0_4.length : Int) = (l1_4.length : Int) then (laws_same.l0 k (l0_4.length : Int) 0 a0_0 a0_1 a0_2 a0_3 l0_4 a0_5 a1_0 a1_1 a1_2 a1_3 l1_4 a1_5) else (some false)) = some r := h
  clear h
  by_cases c3 : (l0_4.length : Int) = (l1_4.length : Int)
  · rw [if_pos c3] at H
    have c3b0 : ((l0_4.length : Int) == (l1_4.length : Int)) = true := beq_iff_eq.mpr c3
    have c3b1 : ((l0_4.length : Int) != (l1_4.length : Int)) = false := bne_eq_false_iff_eq.mpr c3
    have c3b2 : (l0_4.length == l1_4.length) = true := by first | simpa using c3 | (simp at c3 ⊢; omega)
    clear c3
    have H' := Aside0.mk H
    clear H
    go_enter Tryd.func25, Tryd.ntmps25
    go_wp2_with (first | ((with_reducible refine gate_dst (N := 2) rfl ?_); refine box_event ?hg (N := 2) ?hd (cs := #[.int .u64 a0_0, .int .i64 a0_1, .int .i64 a0_2, .bool a0_3, .slice A0_4 l0_4.length c0_4, .int .i64 a0_5]) (t := 28) ?hr ?_; (case hd => rfl); (case hg => rfl); (case hr => first | (go_simp; done) | (go_simp; rfl)); intro gb250 hg w4 hbox hb; have n0_ := Aside0.mk (below_step (by repeat (first | (with_reducible first | exact HB.out | apply below_alloc | apply pw_below_drewN | apply below_drew1) | exact HB.out)) hb); have n1_ := Aside0.mk (hbox); have n2_ := Aside0.mk ((by rw [hg]; exact (below_size (by repeat (first | (with_reducible first | exact HB.out | apply below_alloc | apply pw_below_drewN | apply below_drew1) | exact HB.out))) : w.heap.size ≤ gb250)); have n3_ := Aside0.mk ((by rw [hg]; exact (below_size (by repeat (first | (with_reducible first | exact HB.out | apply below_alloc | apply pw_below_drewN | apply below_drew1) | exact HB.out))) : w.heap.size ≤ gb250)); clear HB; have HB := n0_; have BK250 := n1_; have GW250 := n2_; have GE250 := n3_; clear n0_ n1_ n2_ n3_; clear hb hbox hg) | ((with_reducible refine gate_dst (N := 3) rfl ?_); refine box_event ?hg (N := 3) ?hd (cs := #[.int .u64 a1_0, .int .i64 a1_1, .int .i64 a1_2, .bool a1_3, .slice A1_4 l1_4.length c1_4, .int .i64 a1_5]) (t := 28) ?hr ?_; (case hd => rfl); (case hg => rfl); (case hr => first | (go_simp; done) | (go_simp; rfl)); intro gb251 hg w5 hbox hb; have n0_ := Aside0.mk (blk_below (g := gb250) (o := .cells #[.int .u64 a0_0, .int .i64 a0_1, .int .i64 a0_2, .bool a0_3, .slice A0_4 l0_4.length c0_4, .int .i64 a0_5] 28 (0, 0)) (by (with_reducible repeat (first | refine blk_drewN ?_ _ | refine blk_drew ?_ | refine blk_alloc ?_ _)); exact BK250.out) hb); have n1_ := Aside0.mk (below_step (by repeat (first | (with_reducible first | exact HB.out | apply below_alloc | apply pw_below_drewN | apply below_drew1 | refine below_set ?_ GE250.out) | exact HB.out)) hb); have n2_ := Aside0.mk (hbox); have n3_ := Aside0.mk ((by rw [hg]; exact (below_size (by repeat (first | (with_reducible first | exact HB.out | apply below_alloc | apply pw_below_drewN | apply below_drew1 | refine below_set ?_ GE250.out) | exact HB.out))) : w.heap.size ≤ gb251)); have n4_ := Aside0.mk ((by rw [hg]; exact (below_size (by repeat (first | (with_reducible first | exact HB.out | apply below_alloc | apply pw_below_drewN | apply below_drew1 | refine below_set ?_ GE250.out) | exact HB.out))) : w.heap.size ≤ gb251)); have n5_ := Aside0.mk ((by rw [hg]; exact Nat.ne_of_lt (blk_lt (g := gb250) (o := .cells #[.int .u64 a0_0, .int .i64 a0_1, .int .i64 a0_2, .bool a0_3, .slice A0_4 l0_4.length c0_4, .int .i64 a0_5] 28 (0, 0)) (by (with_reducible repeat (first | refine blk_drewN ?_ _ | refine blk_drew ?_ | refine blk_alloc ?_ _)); exact BK250.out)) : gb250 ≠ gb251)); have n6_ := Aside0.mk ((by rw [hg]; exact Nat.ne_of_gt (blk_lt (g := gb250) (o := .cells #[.int .u64 a0_0, .int .i64 a0_1, .int .i64 a0_2, .bool a0_3, .slice A0_4 l0_4.length c0_4, .int .i64 a0_5] 28 (0, 0)) (by (with_reducible repeat (first | refine blk_drewN ?_ _ | refine blk_drew ?_ | refine blk_alloc ?_ _)); exact BK250.out)) : gb251 ≠ gb250)); clear BK250; clear HB; have BK250 := n0_; have HB := n1_; have BK251 := n2_; have GW251 := n3_; have GE251 := n4_; have NB250_251 := n5_; have NB251_250 := n6_; clear n0_ n1_ n2_ n3_ n4_ n5_ n6_; clear hb hbox hg; have hnb6 := NB250_251.out; have hnc6 := NB251_250.out; have hcz7_0 : w5.cell? ⟨gb250, 0, none⟩ = some (.int .u64 a0_0) := (blk_cell BK250.out 0).trans rfl; have hcz7_1 : w5.cell? ⟨gb250, 1, none⟩ = some (.int .i64 a0_1) := (blk_cell BK250.out 1).trans rfl; have hcz7_2 : w5.cell? ⟨gb250, 2, none⟩ = some (.int .i64 a0_2) := (blk_cell BK250.out 2).trans rfl; have hcz7_3 : w5.cell? ⟨gb250, 3, none⟩ = some (.bool a0_3) := (blk_cell BK250.out 3).trans rfl; have hcz7_4 : w5.cell? ⟨gb250, 4, none⟩ = some (.slice A0_4 l0_4.length c0_4) := (blk_cell BK250.out 4).trans rfl; have hcz7_5 : w5.cell? ⟨gb250, 5, none⟩ = some (.int .i64 a0_5) := (blk_cell BK250.out 5).trans rfl; have hfz7_0 := blk_frozen BK250.out 0; have hfz7_1 := blk_frozen BK250.out 1; have hfz7_2 := blk_frozen BK250.out 2; have hfz7_3 := blk_frozen BK250.out 3; have hfz7_4 := blk_frozen BK250.out 4; have hfz7_5 := blk_frozen BK250.out 5; have hcz8_0 : w5.cell? ⟨gb251, 0, none⟩ = some (.int .u64 a1_0) := (blk_cell BK251.out 0).trans rfl; have hcz8_1 : w5.cell? ⟨gb251, 1, none⟩ = some (.int .i64 a1_1) := (blk_cell BK251.out 1).trans rfl; have hcz8_2 : w5.cell? ⟨gb251, 2, none⟩ = some (.int .i64 a1_2) := (blk_cell BK251.out 2).trans rfl; have hcz8_3 : w5.cell? ⟨gb251, 3, none⟩ = some (.bool a1_3) := (blk_cell BK251.out 3).trans rfl; have hcz8_4 : w5.cell? ⟨gb251, 4, none⟩ = some (.slice A1_4 l1_4.length c1_4) := (blk_cell BK251.out 4).trans rfl; have hcz8_5 : w5.cell? ⟨gb251, 5, none⟩ = some (.int .i64 a1_5) := (blk_cell BK251.out 5).trans rfl; have hfz8_0 := blk_frozen BK251.out 0; have hfz8_1 := blk_frozen BK251.out 1; have hfz8_2 := blk_frozen BK251.out 2; have hfz8_3 := blk_frozen BK251.out 3; have hfz8_4 := blk_frozen BK251.out 4; have hfz8_5 := blk_frozen BK251.out 5))
    repeat (go_quiet (first | ((with_reducible refine gate_dst (N := 2) rfl ?_); refine box_event ?hg (N := 2) ?hd (cs := #[.int .u64 a0_0, .int .i64 a0_1, .int .i64 a0_2, .bool a0_3, .slice A0_4 l0_4.length c0_4, .int .i64 a0_5]) (t := 28) ?hr ?_; (case hd => rfl); (case hg => rfl); (case hr => first | (go_simp; done) | (go_simp; rfl)); intro gb250 hg w4 hbox hb; have n0_ := Aside0.mk (below_step (by repeat (first | (with_reducible first | exact HB.out | apply below_alloc | apply pw_below_drewN | apply below_drew1) | exact HB.out)) hb); have n1_ := Aside0.mk (hbox); have n2_ := Aside0.mk ((by rw [hg]; exact (below_size (by repeat (first | (with_reducible first | exact HB.out | apply below_alloc | apply pw_below_drewN | apply below_drew1) | exact HB.out))) : w.heap.size ≤ gb250)); have n3_ := Aside0.mk ((by rw [hg]; exact (below_size (by repeat (first | (with_reducible first | exact HB.out | apply below_alloc | apply pw_below_drewN | apply below_drew1) | exact HB.out))) : w.heap.size ≤ gb250)); clear HB; have HB := n0_; have BK250 := n1_; have GW250 := n2_; have GE250 := n3_; clear n0_ n1_ n2_ n3_; clear hb hbox hg) | ((with_reducible refine gate_dst (N := 3) rfl ?_); refine box_event ?hg (N := 3) ?hd (cs := #[.int .u64 a1_0, .int .i64 a1_1, .int .i64 a1_2, .bool a1_3, .slice A1_4 l1_4.length c1_4, .int .i64 a1_5]) (t := 28) ?hr ?_; (case hd => rfl); (case hg => rfl); (case hr => first | (go_simp; done) | (go_simp; rfl)); intro gb251 hg w5 hbox hb; have n0_ := Aside0.mk (blk_below (g := gb250) (o := .cells #[.int .u64 a0_0, .int .i64 a0_1, .int .i64 a0_2, .bool a0_3, .slice A0_4 l0_4.length c0_4, .int .i64 a0_5] 28 (0, 0)) (by (with_reducible repeat (first | refine blk_drewN ?_ _ | refine blk_drew ?_ | refine blk_alloc ?_ _)); exact BK250.out) hb); have n1_ := Aside0.mk (below_step (by repeat (first | (with_reducible first | exact HB.out | apply below_alloc | apply pw_below_drewN | apply below_drew1 | refine below_set ?_ GE250.out) | exact HB.out)) hb); have n2_ := Aside0.mk (hbox); have n3_ := Aside0.mk ((by rw [hg]; exact (below_size (by repeat (first | (with_reducible first | exact HB.out | apply below_alloc | apply pw_below_drewN | apply below_drew1 | refine below_set ?_ GE250.out) | exact HB.out))) : w.heap.size ≤ gb251)); have n4_ := Aside0.mk ((by rw [hg]; exact (below_size (by repeat (first | (with_reducible first | exact HB.out | apply below_alloc | apply pw_below_drewN | apply below_drew1 | refine below_set ?_ GE250.out) | exact HB.out))) : w.heap.size ≤ gb251)); have n5_ := Aside0.mk ((by rw [hg]; exact Nat.ne_of_lt (blk_lt (g := gb250) (o := .cells #[.int .u64 a0_0, .int .i64 a0_1, .int .i64 a0_2, .bool a0_3, .slice A0_4 l0_4.length c0_4, .int .i64 a0_5] 28 (0, 0)) (by (with_reducible repeat (first | refine blk_drewN ?_ _ | refine blk_drew ?_ | refine blk_alloc ?_ _)); exact BK250.out)) : gb250 ≠ gb251)); have n6_ := Aside0.mk ((by rw [hg]; exact Nat.ne_of_gt (blk_lt (g := gb250) (o := .cells #[.int .u64 a0_0, .int .i64 a0_1, .int .i64 a0_2, .bool a0_3, .slice A0_4 l0_4.length c0_4, .int .i64 a0_5] 28 (0, 0)) (by (with_reducible repeat (first | refine blk_drewN ?_ _ | refine blk_drew ?_ | refine blk_alloc ?_ _)); exact BK250.out)) : gb251 ≠ gb250)); clear BK250; clear HB; have BK250 := n0_; have HB := n1_; have BK251 := n2_; have GW251 := n3_; have GE251 := n4_; have NB250_251 := n5_; have NB251_250 := n6_; clear n0_ n1_ n2_ n3_ n4_ n5_ n6_; clear hb hbox hg; have hnb6 := NB250_251.out; have hnc6 := NB251_250.out; have hcz7_0 : w5.cell? ⟨gb250, 0, none⟩ = some (.int .u64 a0_0) := (blk_cell BK250.out 0).trans rfl; have hcz7_1 : w5.cell? ⟨gb250, 1, none⟩ = some (.int .i64 a0_1) := (blk_cell BK250.out 1).trans rfl; have hcz7_2 : w5.cell? ⟨gb250, 2, none⟩ = some (.int .i64 a0_2) := (blk_cell BK250.out 2).trans rfl; have hcz7_3 : w5.cell? ⟨gb250, 3, none⟩ = some (.bool a0_3) := (blk_cell BK250.out 3).trans rfl; have hcz7_4 : w5.cell? ⟨gb250, 4, none⟩ = some (.slice A0_4 l0_4.length c0_4) := (blk_cell BK250.out 4).trans rfl; have hcz7_5 : w5.cell? ⟨gb250, 5, none⟩ = some (.int .i64 a0_5) := (blk_cell BK250.out 5).trans rfl; have hfz7_0 := blk_frozen BK250.out 0; have hfz7_1 := blk_frozen BK250.out 1; have hfz7_2 := blk_frozen BK250.out 2; have hfz7_3 := blk_frozen BK250.out 3; have hfz7_4 := blk_frozen BK250.out 4; have hfz7_5 := blk_frozen BK250.out 5; have hcz8_0 : w5.cell? ⟨gb251, 0, none⟩ = some (.int .u64 a1_0) := (blk_cell BK251.out 0).trans rfl; have hcz8_1 : w5.cell? ⟨gb251, 1, none⟩ = some (.int .i64 a1_1) := (blk_cell BK251.out 1).trans rfl; have hcz8_2 : w5.cell? ⟨gb251, 2, none⟩ = some (.int .i64 a1_2) := (blk_cell BK251.out 2).trans rfl; have hcz8_3 : w5.cell? ⟨gb251, 3, none⟩ = some (.bool a1_3) := (blk_cell BK251.out 3).trans rfl; have hcz8_4 : w5.cell? ⟨gb251, 4, none⟩ = some (.slice A1_4 l1_4.length c1_4) := (blk_cell BK251.out 4).trans rfl; have hcz8_5 : w5.cell? ⟨gb251, 5, none⟩ = some (.int .i64 a1_5) := (blk_cell BK251.out 5).trans rfl; have hfz8_0 := blk_frozen BK251.out 0; have hfz8_1 := blk_frozen BK251.out 1; have hfz8_2 := blk_frozen BK251.out 2; have hfz8_3 := blk_frozen BK251.out 3; have hfz8_4 := blk_frozen BK251.out 4; have hfz8_5 := blk_frozen BK251.out 5)); try go_wp2_with (first | ((with_reducible refine gate_dst (N := 2) rfl ?_); refine box_event ?hg (N := 2) ?hd (cs := #[.int .u64 a0_0, .int .i64 a0_1, .int .i64 a0_2, .bool a0_3, .slice A0_4 l0_4.length c0_4, .int .i64 a0_5]) (t := 28) ?hr ?_; (case hd => rfl); (case hg => rfl); (case hr => first | (go_simp; done) | (go_simp; rfl)); intro gb250 hg w4 hbox hb; have n0_ := Aside0.mk (below_step (by repeat (first | (with_reducible first | exact HB.out | apply below_alloc | apply pw_below_drewN | apply below_drew1) | exact HB.out)) hb); have n1_ := Aside0.mk (hbox); have n2_ := Aside0.mk ((by rw [hg]; exact (below_size (by repeat (first | (with_reducible first | exact HB.out | apply below_alloc | apply pw_below_drewN | apply below_drew1) | exact HB.out))) : w.heap.size ≤ gb250)); have n3_ := Aside0.mk ((by rw [hg]; exact (below_size (by repeat (first | (with_reducible first | exact HB.out | apply below_alloc | apply pw_below_drewN | apply below_drew1) | exact HB.out))) : w.heap.size ≤ gb250)); clear HB; have HB := n0_; have BK250 := n1_; have GW250 := n2_; have GE250 := n3_; clear n0_ n1_ n2_ n3_; clear hb hbox hg) | ((with_reducible refine gate_dst (N := 3) rfl ?_); refine box_event ?hg (N := 3) ?hd (cs := #[.int .u64 a1_0, .int .i64 a1_1, .int .i64 a1_2, .bool a1_3, .slice A1_4 l1_4.length c1_4, .int .i64 a1_5]) (t := 28) ?hr ?_; (case hd => rfl); (case hg => rfl); (case hr => first | (go_simp; done) | (go_simp; rfl)); intro gb251 hg w5 hbox hb; have n0_ := Aside0.mk (blk_below (g := gb250) (o := .cells #[.int .u64 a0_0, .int .i64 a0_1, .int .i64 a0_2, .bool a0_3, .slice A0_4 l0_4.length c0_4, .int .i64 a0_5] 28 (0, 0)) (by (with_reducible repeat (first | refine blk_drewN ?_ _ | refine blk_drew ?_ | refine blk_alloc ?_ _)); exact BK250.out) hb); have n1_ := Aside0.mk (below_step (by repeat (first | (with_reducible first | exact HB.out | apply below_alloc | apply pw_below_drewN | apply below_drew1 | refine below_set ?_ GE250.out) | exact HB.out)) hb); have n2_ := Aside0.mk (hbox); have n3_ := Aside0.mk ((by rw [hg]; exact (below_size (by repeat (first | (with_reducible first | exact HB.out | apply below_alloc | apply pw_below_drewN | apply below_drew1 | refine below_set ?_ GE250.out) | exact HB.out))) : w.heap.size ≤ gb251)); have n4_ := Aside0.mk ((by rw [hg]; exact (below_size (by repeat (first | (with_reducible first | exact HB.out | apply below_alloc | apply pw_below_drewN | apply below_drew1 | refine below_set ?_ GE250.out) | exact HB.out))) : w.heap.size ≤ gb251)); have n5_ := Aside0.mk ((by rw [hg]; exact Nat.ne_of_lt (blk_lt (g := gb250) (o := .cells #[.int .u64 a0_0, .int .i64 a0_1, .int .i64 a0_2, .bool a0_3, .slice A0_4 l0_4.length c0_4, .int .i64 a0_5] 28 (0, 0)) (by (with_reducible repeat (first | refine blk_drewN ?_ _ | refine blk_drew ?_ | refine blk_alloc ?_ _)); exact BK250.out)) : gb250 ≠ gb251)); have n6_ := Aside0.mk ((by rw [hg]; exact Nat.ne_of_gt (blk_lt (g := gb250) (o := .cells #[.int .u64 a0_0, .int .i64 a0_1, .int .i64 a0_2, .bool a0_3, .slice A0_4 l0_4.length c0_4, .int .i64 a0_5] 28 (0, 0)) (by (with_reducible repeat (first | refine blk_drewN ?_ _ | refine blk_drew ?_ | refine blk_alloc ?_ _)); exact BK250.out)) : gb251 ≠ gb250)); clear BK250; clear HB; have BK250 := n0_; have HB := n1_; have BK251 := n2_; have GW251 := n3_; have GE251 := n4_; have NB250_251 := n5_; have NB251_250 := n6_; clear n0_ n1_ n2_ n3_ n4_ n5_ n6_; clear hb hbox hg; have hnb6 := NB250_251.out; have hnc6 := NB251_250.out; have hcz7_0 : w5.cell? ⟨gb250, 0, none⟩ = some (.int .u64 a0_0) := (blk_cell BK250.out 0).trans rfl; have hcz7_1 : w5.cell? ⟨gb250, 1, none⟩ = some (.int .i64 a0_1) := (blk_cell BK250.out 1).trans rfl; have hcz7_2 : w5.cell? ⟨gb250, 2, none⟩ = some (.int .i64 a0_2) := (blk_cell BK250.out 2).trans rfl; have hcz7_3 : w5.cell? ⟨gb250, 3, none⟩ = some (.bool a0_3) := (blk_cell BK250.out 3).trans rfl; have hcz7_4 : w5.cell? ⟨gb250, 4, none⟩ = some (.slice A0_4 l0_4.length c0_4) := (blk_cell BK250.out 4).trans rfl; have hcz7_5 : w5.cell? ⟨gb250, 5, none⟩ = some (.int .i64 a0_5) := (blk_cell BK250.out 5).trans rfl; have hfz7_0 := blk_frozen BK250.out 0; have hfz7_1 := blk_frozen BK250.out 1; have hfz7_2 := blk_frozen BK250.out 2; have hfz7_3 := blk_frozen BK250.out 3; have hfz7_4 := blk_frozen BK250.out 4; have hfz7_5 := blk_frozen BK250.out 5; have hcz8_0 : w5.cell? ⟨gb251, 0, none⟩ = some (.int .u64 a1_0) := (blk_cell BK251.out 0).trans rfl; have hcz8_1 : w5.cell? ⟨gb251, 1, none⟩ = some (.int .i64 a1_1) := (blk_cell BK251.out 1).trans rfl; have hcz8_2 : w5.cell? ⟨gb251, 2, none⟩ = some (.int .i64 a1_2) := (blk_cell BK251.out 2).trans rfl; have hcz8_3 : w5.cell? ⟨gb251, 3, none⟩ = some (.bool a1_3) := (blk_cell BK251.out 3).trans rfl; have hcz8_4 : w5.cell? ⟨gb251, 4, none⟩ = some (.slice A1_4 l1_4.length c1_4) := (blk_cell BK251.out 4).trans rfl; have hcz8_5 : w5.cell? ⟨gb251, 5, none⟩ = some (.int .i64 a1_5) := (blk_cell BK251.out 5).trans rfl; have hfz8_0 := blk_frozen BK251.out 0; have hfz8_1 := blk_frozen BK251.out 1; have hfz8_2 := blk_frozen BK251.out 2; have hfz8_3 := blk_frozen BK251.out 3; have hfz8_4 := blk_frozen BK251.out 4; have hfz8_5 := blk_frozen BK251.out 5)))
    go_loopg [16] k (fun kq v16 w' => ∃ (x16_1 : Int), v16 = .int .i64 x16_1 ∧ Aside0 (laws_same.l0 kq (l0_4.length : Int) x16_1 a0_0 a0_1 a0_2 a0_3 l0_4 a0_5 a1_0 a1_1 a1_2 a1_3 l1_4 a1_5 = some r) ∧ Aside0 (kq ≤ k) ∧ Aside0 (w'.heap[gb250]? = some (.cells #[.int .u64 a0_0, .int .i64 a0_1, .int .i64 a0_2, .bool a0_3, (.slice A0_4 l0_4.length c0_4), .int .i64 a0_5] 28 (0, 0))) ∧ Aside0 (w'.heap[gb251]? = some (.cells #[.int .u64 a1_0, .int .i64 a1_1, .int .i64 a1_2, .bool a1_3, (.slice A1_4 l1_4.length c1_4), .int .i64 a1_5] 28 (0, 0))) ∧ Aside0 (Below w.heap.size w w'))
    case atStart => exact ⟨(0), (by first | rfl | (simp; done) | (simp [*]; done)), H', ⟨Nat.le_refl _⟩, ⟨by (with_reducible repeat (first | refine blk_drewN ?_ _ | refine blk_drew ?_ | refine blk_alloc ?_ _)); exact BK250.out⟩, ⟨by (with_reducible repeat (first | refine blk_drewN ?_ _ | refine blk_drew ?_ | refine blk_alloc ?_ _)); exact BK251.out⟩, ⟨by repeat (first | (with_reducible first | exact HB.out | apply below_alloc | apply pw_below_drewN | apply below_drew1 | refine below_set ?_ GE250.out | refine below_set ?_ GE251.out) | exact HB.out)⟩⟩
    case round =>
      clear H'
      try clear c1
      try clear c2
      try clear p2
      try clear c3
      try clear c3b0
      try clear c3b1
      try clear c3b2
      try clear c6
      try clear hcz7_0
      try clear hcz7_1
      try clear hcz7_2
      try clear hcz7_3
      try clear hcz7_4
      try clear hcz7_5
      try clear hcz8_0
      try clear hcz8_1
      try clear hcz8_2
      try clear hcz8_3
      try clear hcz8_4
      try clear hcz8_5
      try clear hfz7_0
      try clear hfz7_1
      try clear hfz7_2
      try clear hfz7_3
      try clear hfz7_4
      try clear hfz7_5
      try clear hfz8_0
      try clear hfz8_1
      try clear hfz8_2
      try clear hfz8_3
      try clear hfz8_4
      try clear hfz8_5
      obtain ⟨x16_1, rfl, HA, HK1, BK250, BK251, HB⟩ := hrel
      cases gk with
      | zero => exact absurd HA.out (by simp [laws_same.l0])
      | succ k1 =>
        have H := HA.out
        clear HA
        simp only [laws_same.l0] at H
        by_cases c9 : x16_1 < (l0_4.length : Int)
        · rw [if_pos c9] at H
          have c9b0 : decide (x16_1 < (l0_4.length : Int)) = true := decide_eq_true c9
          clear c9
          by_cases c10 : 0 ≤ x16_1
          · rw [if_pos c10] at H
            have c10b0 : decide (0 ≤ x16_1) = true := decide_eq_true c10
            clear c10
            by_cases c11 : x16_1 < (l0_4.length : Int)
            · rw [if_pos c11] at H
              have c11b0 : decide (x16_1 < (l0_4.length : Int)) = true := decide_eq_true c11
              clear c11
              by_cases c12 : x16_1 < (l1_4.length : Int)
              · rw [if_pos c12] at H
                have c12b0 : decide (x16_1 < (l1_4.length : Int)) = true := decide_eq_true c12
                clear c12
                by_cases c13 : (rd l0_4 x16_1) = (rd l1_4 x16_1)
                · rw [if_pos c13] at H
                  have c13b0 : ((rd l0_4 x16_1) == (rd l1_4 x16_1)) = true := beq_iff_eq.mpr c13
                  have c13b1 : ((rd l0_4 x16_1) != (rd l1_4 x16_1)) = false := bne_eq_false_iff_eq.mpr c13
                  clear c13
                  have H' := Aside0.mk H
                  clear H
                  have hnb14 := NB250_251.out
                  have hnc14 := NB251_250.out
                  have hcz15_0 : wr.cell? ⟨gb250, 0, none⟩ = some (.int .u64 a0_0) := (blk_cell BK250.out 0).trans rfl
                  have hcz15_1 : wr.cell? ⟨gb250, 1, none⟩ = some (.int .i64 a0_1) := (blk_cell BK250.out 1).trans rfl
                  have hcz15_2 : wr.cell? ⟨gb250, 2, none⟩ = some (.int .i64 a0_2) := (blk_cell BK250.out 2).trans rfl
                  have hcz15_3 : wr.cell? ⟨gb250, 3, none⟩ = some (.bool a0_3) := (blk_cell BK250.out 3).trans rfl
                  have hcz15_4 : wr.cell? ⟨gb250, 4, none⟩ = some (.slice A0_4 l0_4.length c0_4) := (blk_cell BK250.out 4).trans rfl
                  have hcz15_5 : wr.cell? ⟨gb250, 5, none⟩ = some (.int .i64 a0_5) := (blk_cell BK250.out 5).trans rfl
                  have hfz15_0 := blk_frozen BK250.out 0
                  have hfz15_1 := blk_frozen BK250.out 1
                  have hfz15_2 := blk_frozen BK250.out 2
                  have hfz15_3 := blk_frozen BK250.out 3
                  have hfz15_4 := blk_frozen BK250.out 4
                  have hfz15_5 := blk_frozen BK250.out 5
                  have p252 : 0 ≤ (x16_1 : Int) := of_decide_eq_true (by first | (with_reducible assumption) | assumption)
                  have q252 : x16_1 < (l0_4.length : Int) := of_decide_eq_true (by first | (with_reducible assumption) | assumption)
                  obtain ⟨ad252, e252, hx252_0⟩ := Kd.at_int HR0_4.out x16_1 p252 q252
                  cases e252
                  replace hx252_0 := (HB.out.cell (World.block_lt_of_cell? w _ hx252_0)).trans hx252_0
                  replace p252 := eq_true p252
                  replace q252 := eq_true q252
                  have hcz16_0 : wr.cell? ⟨gb251, 0, none⟩ = some (.int .u64 a1_0) := (blk_cell BK251.out 0).trans rfl
                  have hcz16_1 : wr.cell? ⟨gb251, 1, none⟩ = some (.int .i64 a1_1) := (blk_cell BK251.out 1).trans rfl
                  have hcz16_2 : wr.cell? ⟨gb251, 2, none⟩ = some (.int .i64 a1_2) := (blk_cell BK251.out 2).trans rfl
                  have hcz16_3 : wr.cell? ⟨gb251, 3, none⟩ = some (.bool a1_3) := (blk_cell BK251.out 3).trans rfl
                  have hcz16_4 : wr.cell? ⟨gb251, 4, none⟩ = some (.slice A1_4 l1_4.length c1_4) := (blk_cell BK251.out 4).trans rfl
                  have hcz16_5 : wr.cell? ⟨gb251, 5, none⟩ = some (.int .i64 a1_5) := (blk_cell BK251.out 5).trans rfl
                  have hfz16_0 := blk_frozen BK251.out 0
                  have hfz16_1 := blk_frozen BK251.out 1
                  have hfz16_2 := blk_frozen BK251.out 2
                  have hfz16_3 := blk_frozen BK251.out 3
                  have hfz16_4 := blk_frozen BK251.out 4
                  have hfz16_5 := blk_frozen BK251.out 5
                  have p253 : 0 ≤ (x16_1 : Int) := of_decide_eq_true (by first | (with_reducible assumption) | assumption)
                  have q253 : x16_1 < (l1_4.length : Int) := of_decide_eq_true (by first | (with_reducible assumption) | assumption)
                  obtain ⟨ad253, e253, hx253_0⟩ := Kd.at_int HR1_4.out x16_1 p253 q253
                  cases e253
                  replace hx253_0 := (HB.out.cell (World.block_lt_of_cell? w _ hx253_0)).trans hx253_0
                  replace p253 := eq_true p253
                  replace q253 := eq_true q253
                  go_wp2
                  repeat (go_quiet (fail); try go_wp2)
                  go_roundg k1
                  case measure => have := HK1.out; omega
                  case rel => exact ⟨(wrap64 (x16_1 + 1)), (by first | rfl | (simp; done) | (simp [*]; done)), H', ⟨by have := HK1.out; omega⟩, ⟨by (with_reducible repeat (first | refine blk_drewN ?_ _ | refine blk_drew ?_ | refine blk_alloc ?_ _)); exact BK250.out⟩, ⟨by (with_reducible repeat (first | refine blk_drewN ?_ _ | refine blk_drew ?_ | refine blk_alloc ?_ _)); exact BK251.out⟩, ⟨by repeat (first | (with_reducible first | exact HB.out | apply below_alloc | apply pw_below_drewN | apply below_drew1 | refine below_set ?_ GE250.out | refine below_set ?_ GE251.out) | exact HB.out)⟩⟩
                · rw [if_neg c13] at H
                  have c13b0 : ((rd l0_4 x16_1) == (rd l1_4 x16_1)) = false := beq_eq_false_iff_ne.mpr c13
                  have c13b1 : ((rd l0_4 x16_1) != (rd l1_4 x16_1)) = true := bne_iff_ne.mpr c13
                  obtain rfl := Option.some.inj H
                  have hnb17 := NB250_251.out
                  have hnc17 := NB251_250.out
                  have hcz18_0 : wr.cell? ⟨gb250, 0, none⟩ = some (.int .u64 a0_0) := (blk_cell BK250.out 0).trans rfl
                  have hcz18_1 : wr.cell? ⟨gb250, 1, none⟩ = some (.int .i64 a0_1) := (blk_cell BK250.out 1).trans rfl
                  have hcz18_2 : wr.cell? ⟨gb250, 2, none⟩ = some (.int .i64 a0_2) := (blk_cell BK250.out 2).trans rfl
                  have hcz18_3 : wr.cell? ⟨gb250, 3, none⟩ = some (.bool a0_3) := (blk_cell BK250.out 3).trans rfl
                  have hcz18_4 : wr.cell? ⟨gb250, 4, none⟩ = some (.slice A0_4 l0_4.length c0_4) := (blk_cell BK250.out 4).trans rfl
                  have hcz18_5 : wr.cell? ⟨gb250, 5, none⟩ = some (.int .i64 a0_5) := (blk_cell BK250.out 5).trans rfl
                  have hfz18_0 := blk_frozen BK250.out 0
                  have hfz18_1 := blk_frozen BK250.out 1
                  have hfz18_2 := blk_frozen BK250.out 2
                  have hfz18_3 := blk_frozen BK250.out 3
                  have hfz18_4 := blk_frozen BK250.out 4
                  have hfz18_5 := blk_frozen BK250.out 5
                  have p252 : 0 ≤ (x16_1 : Int) := of_decide_eq_true (by first | (with_reducible assumption) | assumption)
                  have q252 : x16_1 < (l0_4.length : Int) := of_decide_eq_true (by first | (with_reducible assumption) | assumption)
                  obtain ⟨ad252, e252, hx252_0⟩ := Kd.at_int HR0_4.out x16_1 p252 q252
                  cases e252
                  replace hx252_0 := (HB.out.cell (World.block_lt_of_cell? w _ hx252_0)).trans hx252_0
                  replace p252 := eq_true p252
                  replace q252 := eq_true q252
                  have hcz19_0 : wr.cell? ⟨gb251, 0, none⟩ = some (.int .u64 a1_0) := (blk_cell BK251.out 0).trans rfl
                  have hcz19_1 : wr.cell? ⟨gb251, 1, none⟩ = some (.int .i64 a1_1) := (blk_cell BK251.out 1).trans rfl
                  have hcz19_2 : wr.cell? ⟨gb251, 2, none⟩ = some (.int .i64 a1_2) := (blk_cell BK251.out 2).trans rfl
                  have hcz19_3 : wr.cell? ⟨gb251, 3, none⟩ = some (.bool a1_3) := (blk_cell BK251.out 3).trans rfl
                  have hcz19_4 : wr.cell? ⟨gb251, 4, none⟩ = some (.slice A1_4 l1_4.length c1_4) := (blk_cell BK251.out 4).trans rfl
                  have hcz19_5 : wr.cell? ⟨gb251, 5, none⟩ = some (.int .i64 a1_5) := (blk_cell BK251.out 5).trans rfl
                  have hfz19_0 := blk_frozen BK251.out 0
                  have hfz19_1 := blk_frozen BK251.out 1
                  have hfz19_2 := blk_frozen BK251.out 2
                  have hfz19_3 := blk_frozen BK251.out 3
                  have hfz19_4 := blk_frozen BK251.out 4
                  have hfz19_5 := blk_frozen BK251.out 5
                  have p253 : 0 ≤ (x16_1 : Int) := of_decide_eq_true (by first | (with_reducible assumption) | assumption)
                  have q253 : x16_1 < (l1_4.length : Int) := of_decide_eq_true (by first | (with_reducible assumption) | assumption)
                  obtain ⟨ad253, e253, hx253_0⟩ := Kd.at_int HR1_4.out x16_1 p253 q253
                  cases e253
                  replace hx253_0 := (HB.out.cell (World.block_lt_of_cell? w _ hx253_0)).trans hx253_0
                  replace p253 := eq_true p253
                  replace q253 := eq_true q253
                  go_wp2
                  repeat (go_quiet (fail); try go_wp2)
                  go_ret
                  exact ⟨by first | rfl | (simp [errW_none, errW_some] <;> rfl) | (simp [*, errW_none, errW_some] <;> rfl), by repeat (first | (with_reducible first | exact HB.out | apply below_alloc | apply pw_below_drewN | apply below_drew1 | refine below_set ?_ GE250.out | refine below_set ?_ GE251.out) | exact HB.out)⟩
              · rw [if_neg c12] at H
                exact absurd H (by simp)
            · rw [if_neg c11] at H
              exact absurd H (by simp)
          · rw [if_neg c10] at H
            exact absurd H (by simp)
        · rw [if_neg c9] at H
          have c9b0 : decide (x16_1 < (l0_4.length : Int)) = false := decide_eq_false c9
          clear c9
          by_cases c20 : a0_0 = a1_0
          · rw [if_pos c20] at H
            have c20b0 : (a0_0 == a1_0) = true := beq_iff_eq.mpr c20
            have c20b1 : (a0_0 != a1_0) = false := bne_eq_false_iff_eq.mpr c20
            clear c20
            by_cases c21 : a0_1 = a1_1
            · rw [if_pos c21] at H
              have c21b0 : (a0_1 == a1_1) = true := beq_iff_eq.mpr c21
              have c21b1 : (a0_1 != a1_1) = false := bne_eq_false_iff_eq.mpr c21
              clear c21
              by_cases c22 : a0_2 = a1_2
              · rw [if_pos c22] at H
                have c22b0 : (a0_2 == a1_2) = true := beq_iff_eq.mpr c22
                have c22b1 : (a0_2 != a1_2) = false := bne_eq_false_iff_eq.mpr c22
                clear c22
                by_cases c23 : (a0_3 == a1_3) = true
                · rw [if_pos c23] at H
                  have c23b0 : (a0_3 == a1_3) = true := c23
                  (try (have c23b1 : decide (a0_3 = a1_3) = true := by simpa using c23))
                  (try (have c23b2 : (a0_3 == a1_3) = true := by simpa using c23))
                  clear c23
                  obtain rfl := Option.some.inj H
                  have hnb24 := NB250_251.out
                  have hnc24 := NB251_250.out
                  have hcz25_0 : wr.cell? ⟨gb250, 0, none⟩ = some (.int .u64 a0_0) := (blk_cell BK250.out 0).trans rfl
                  have hcz25_1 : wr.cell? ⟨gb250, 1, none⟩ = some (.int .i64 a0_1) := (blk_cell BK250.out 1).trans rfl
                  have hcz25_2 : wr.cell? ⟨gb250, 2, none⟩ = some (.int .i64 a0_2) := (blk_cell BK250.out 2).trans rfl
                  have hcz25_3 : wr.cell? ⟨gb250, 3, none⟩ = some (.bool a0_3) := (blk_cell BK250.out 3).trans rfl
                  have hcz25_4 : wr.cell? ⟨gb250, 4, none⟩ = some (.slice A0_4 l0_4.length c0_4) := (blk_cell BK250.out 4).trans rfl
                  have hcz25_5 : wr.cell? ⟨gb250, 5, none⟩ = some (.int .i64 a0_5) := (blk_cell BK250.out 5).trans rfl
                  have hfz25_0 := blk_frozen BK250.out 0
                  have hfz25_1 := blk_frozen BK250.out 1
                  have hfz25_2 := blk_frozen BK250.out 2
                  have hfz25_3 := blk_frozen BK250.out 3
                  have hfz25_4 := blk_frozen BK250.out 4
                  have hfz25_5 := blk_frozen BK250.out 5
                  have hcz26_0 : wr.cell? ⟨gb251, 0, none⟩ = some (.int .u64 a1_0) := (blk_cell BK251.out 0).trans rfl
                  have hcz26_1 : wr.cell? ⟨gb251, 1, none⟩ = some (.int .i64 a1_1) := (blk_cell BK251.out 1).trans rfl
                  have hcz26_2 : wr.cell? ⟨gb251, 2, none⟩ = some (.int .i64 a1_2) := (blk_cell BK251.out 2).trans rfl
                  have hcz26_3 : wr.cell? ⟨gb251, 3, none⟩ = some (.bool a1_3) := (blk_cell BK251.out 3).trans rfl
                  have hcz26_4 : wr.cell? ⟨gb251, 4, none⟩ = some (.slice A1_4 l1_4.length c1_4) := (blk_cell BK251.out 4).trans rfl
                  have hcz26_5 : wr.cell? ⟨gb251, 5, none⟩ = some (.int .i64 a1_5) := (blk_cell BK251.out 5).trans rfl
                  have hfz26_0 := blk_frozen BK251.out 0
                  have hfz26_1 := blk_frozen BK251.out 1
                  have hfz26_2 := blk_frozen BK251.out 2
                  have hfz26_3 := blk_frozen BK251.out 3
                  have hfz26_4 := blk_frozen BK251.out 4
                  have hfz26_5 := blk_frozen BK251.out 5
                  go_wp2
                  repeat (go_quiet (fail); try go_wp2)
                  go_ret
                  exact ⟨by first | rfl | (simp [errW_none, errW_some] <;> rfl) | (simp [*, errW_none, errW_some] <;> rfl), by repeat (first | (with_reducible first | exact HB.out | apply below_alloc | apply pw_below_drewN | apply below_drew1 | refine below_set ?_ GE250.out | refine below_set ?_ GE251.out) | exact HB.out)⟩
                · rw [if_neg c23] at H
                  have c23b0 : (a0_3 == a1_3) = false := by simpa using c23
                  (try (have c23b1 : decide (a0_3 = a1_3) = false := by simpa using c23))
                  (try (have c23b2 : (a0_3 == a1_3) = false := by simpa using c23))
                  (try (have c23b3 : ¬ (a0_3 = a1_3) := by simpa using c23))
                  clear c23
                  obtain rfl := Option.some.inj H
                  have hnb27 := NB250_251.out
                  have hnc27 := NB251_250.out
                  have hcz28_0 : wr.cell? ⟨gb250, 0, none⟩ = some (.int .u64 a0_0) := (blk_cell BK250.out 0).trans rfl
                  have hcz28_1 : wr.cell? ⟨gb250, 1, none⟩ = some (.int .i64 a0_1) := (blk_cell BK250.out 1).trans rfl
                  have hcz28_2 : wr.cell? ⟨gb250, 2, none⟩ = some (.int .i64 a0_2) := (blk_cell BK250.out 2).trans rfl
                  have hcz28_3 : wr.cell? ⟨gb250, 3, none⟩ = some (.bool a0_3) := (blk_cell BK250.out 3).trans rfl
                  have hcz28_4 : wr.cell? ⟨gb250, 4, none⟩ = some (.slice A0_4 l0_4.length c0_4) := (blk_cell BK250.out 4).trans rfl
                  have hcz28_5 : wr.cell? ⟨gb250, 5, none⟩ = some (.int .i64 a0_5) := (blk_cell BK250.out 5).trans rfl
                  have hfz28_0 := blk_frozen BK250.out 0
                  have hfz28_1 := blk_frozen BK250.out 1
                  have hfz28_2 := blk_frozen BK250.out 2
                  have hfz28_3 := blk_frozen BK250.out 3
                  have hfz28_4 := blk_frozen BK250.out 4
                  have hfz28_5 := blk_frozen BK250.out 5
                  have hcz29_0 : wr.cell? ⟨gb251, 0, none⟩ = some (.int .u64 a1_0) := (blk_cell BK251.out 0).trans rfl
                  have hcz29_1 : wr.cell? ⟨gb251, 1, none⟩ = some (.int .i64 a1_1) := (blk_cell BK251.out 1).trans rfl
                  have hcz29_2 : wr.cell? ⟨gb251, 2, none⟩ = some (.int .i64 a1_2) := (blk_cell BK251.out 2).trans rfl
                  have hcz29_3 : wr.cell? ⟨gb251, 3, none⟩ = some (.bool a1_3) := (blk_cell BK251.out 3).trans rfl
                  have hcz29_4 : wr.cell? ⟨gb251, 4, none⟩ = some (.slice A1_4 l1_4.length c1_4) := (blk_cell BK251.out 4).trans rfl
                  have hcz29_5 : wr.cell? ⟨gb251, 5, none⟩ = some (.int .i64 a1_5) := (blk_cell BK251.out 5).trans rfl
                  have hfz29_0 := blk_frozen BK251.out 0
                  have hfz29_1 := blk_frozen BK251.out 1
                  have hfz29_2 := blk_frozen BK251.out 2
                  have hfz29_3 := blk_frozen BK251.out 3
                  have hfz29_4 := blk_frozen BK251.out 4
                  have hfz29_5 := blk_frozen BK251.out 5
                  go_wp2
                  repeat (go_quiet (fail); try go_wp2)
                  go_ret
                  exact ⟨by first | rfl | (simp [errW_none, errW_some] <;> rfl) | (simp [*, errW_none, errW_some] <;> rfl), by repeat (first | (with_reducible first | exact HB.out | apply below_alloc | apply pw_below_drewN | apply below_drew1 | refine below_set ?_ GE250.out | refine below_set ?_ GE251.out) | exact HB.out)⟩
              · rw [if_neg c22] at H
                have c22b0 : (a0_2 == a1_2) = false := beq_eq_false_iff_ne.mpr c22
                have c22b1 : (a0_2 != a1_2) = true := bne_iff_ne.mpr c22
                obtain rfl := Option.some.inj H
                have hnb30 := NB250_251.out
                have hnc30 := NB251_250.out
                have hcz31_0 : wr.cell? ⟨gb250, 0, none⟩ = some (.int .u64 a0_0) := (blk_cell BK250.out 0).trans rfl
                have hcz31_1 : wr.cell? ⟨gb250, 1, none⟩ = some (.int .i64 a0_1) := (blk_cell BK250.out 1).trans rfl
                have hcz31_2 : wr.cell? ⟨gb250, 2, none⟩ = some (.int .i64 a0_2) := (blk_cell BK250.out 2).trans rfl
                have hcz31_3 : wr.cell? ⟨gb250, 3, none⟩ = some (.bool a0_3) := (blk_cell BK250.out 3).trans rfl
                have hcz31_4 : wr.cell? ⟨gb250, 4, none⟩ = some (.slice A0_4 l0_4.length c0_4) := (blk_cell BK250.out 4).trans rfl
                have hcz31_5 : wr.cell? ⟨gb250, 5, none⟩ = some (.int .i64 a0_5) := (blk_cell BK250.out 5).trans rfl
                have hfz31_0 := blk_frozen BK250.out 0
                have hfz31_1 := blk_frozen BK250.out 1
                have hfz31_2 := blk_frozen BK250.out 2
                have hfz31_3 := blk_frozen BK250.out 3
                have hfz31_4 := blk_frozen BK250.out 4
                have hfz31_5 := blk_frozen BK250.out 5
                have hcz32_0 : wr.cell? ⟨gb251, 0, none⟩ = some (.int .u64 a1_0) := (blk_cell BK251.out 0).trans rfl
                have hcz32_1 : wr.cell? ⟨gb251, 1, none⟩ = some (.int .i64 a1_1) := (blk_cell BK251.out 1).trans rfl
                have hcz32_2 : wr.cell? ⟨gb251, 2, none⟩ = some (.int .i64 a1_2) := (blk_cell BK251.out 2).trans rfl
                have hcz32_3 : wr.cell? ⟨gb251, 3, none⟩ = some (.bool a1_3) := (blk_cell BK251.out 3).trans rfl
                have hcz32_4 : wr.cell? ⟨gb251, 4, none⟩ = some (.slice A1_4 l1_4.length c1_4) := (blk_cell BK251.out 4).trans rfl
                have hcz32_5 : wr.cell? ⟨gb251, 5, none⟩ = some (.int .i64 a1_5) := (blk_cell BK251.out 5).trans rfl
                have hfz32_0 := blk_frozen BK251.out 0
                have hfz32_1 := blk_frozen BK251.out 1
                have hfz32_2 := blk_frozen BK251.out 2
                have hfz32_3 := blk_frozen BK251.out 3
                have hfz32_4 := blk_frozen BK251.out 4
                have hfz32_5 := blk_frozen BK251.out 5
                go_wp2
                repeat (go_quiet (fail); try go_wp2)
                go_ret
                exact ⟨by first | rfl | (simp [errW_none, errW_some] <;> rfl) | (simp [*, errW_none, errW_some] <;> rfl), by repeat (first | (with_reducible first | exact HB.out | apply below_alloc | apply pw_below_drewN | apply below_drew1 | refine below_set ?_ GE250.out | refine below_set ?_ GE251.out) | exact HB.out)⟩
            · rw [if_neg c21] at H
              have c21b0 : (a0_1 == a1_1) = false := beq_eq_false_iff_ne.mpr c21
              have c21b1 : (a0_1 != a1_1) = true := bne_iff_ne.mpr c21
              obtain rfl := Option.some.inj H
              have hnb33 := NB250_251.out
              have hnc33 := NB251_250.out
              have hcz34_0 : wr.cell? ⟨gb250, 0, none⟩ = some (.int .u64 a0_0) := (blk_cell BK250.out 0).trans rfl
              have hcz34_1 : wr.cell? ⟨gb250, 1, none⟩ = some (.int .i64 a0_1) := (blk_cell BK250.out 1).trans rfl
              have hcz34_2 : wr.cell? ⟨gb250, 2, none⟩ = some (.int .i64 a0_2) := (blk_cell BK250.out 2).trans rfl
              have hcz34_3 : wr.cell? ⟨gb250, 3, none⟩ = some (.bool a0_3) := (blk_cell BK250.out 3).trans rfl
              have hcz34_4 : wr.cell? ⟨gb250, 4, none⟩ = some (.slice A0_4 l0_4.length c0_4) := (blk_cell BK250.out 4).trans rfl
              have hcz34_5 : wr.cell? ⟨gb250, 5, none⟩ = some (.int .i64 a0_5) := (blk_cell BK250.out 5).trans rfl
              have hfz34_0 := blk_frozen BK250.out 0
              have hfz34_1 := blk_frozen BK250.out 1
              have hfz34_2 := blk_frozen BK250.out 2
              have hfz34_3 := blk_frozen BK250.out 3
              have hfz34_4 := blk_frozen BK250.out 4
              have hfz34_5 := blk_frozen BK250.out 5
              have hcz35_0 : wr.cell? ⟨gb251, 0, none⟩ = some (.int .u64 a1_0) := (blk_cell BK251.out 0).trans rfl
              have hcz35_1 : wr.cell? ⟨gb251, 1, none⟩ = some (.int .i64 a1_1) := (blk_cell BK251.out 1).trans rfl
              have hcz35_2 : wr.cell? ⟨gb251, 2, none⟩ = some (.int .i64 a1_2) := (blk_cell BK251.out 2).trans rfl
              have hcz35_3 : wr.cell? ⟨gb251, 3, none⟩ = some (.bool a1_3) := (blk_cell BK251.out 3).trans rfl
              have hcz35_4 : wr.cell? ⟨gb251, 4, none⟩ = some (.slice A1_4 l1_4.length c1_4) := (blk_cell BK251.out 4).trans rfl
              have hcz35_5 : wr.cell? ⟨gb251, 5, none⟩ = some (.int .i64 a1_5) := (blk_cell BK251.out 5).trans rfl
              have hfz35_0 := blk_frozen BK251.out 0
              have hfz35_1 := blk_frozen BK251.out 1
              have hfz35_2 := blk_frozen BK251.out 2
              have hfz35_3 := blk_frozen BK251.out 3
              have hfz35_4 := blk_frozen BK251.out 4
              have hfz35_5 := blk_frozen BK251.out 5
              go_wp2
              repeat (go_quiet (fail); try go_wp2)
              go_ret
              exact ⟨by first | rfl | (simp [errW_none, errW_some] <;> rfl) | (simp [*, errW_none, errW_some] <;> rfl), by repeat (first | (with_reducible first | exact HB.out | apply below_alloc | apply pw_below_drewN | apply below_drew1 | refine below_set ?_ GE250.out | refine below_set ?_ GE251.out) | exact HB.out)⟩
          · rw [if_neg c20] at H
            have c20b0 : (a0_0 == a1_0) = false := beq_eq_false_iff_ne.mpr c20
            have c20b1 : (a0_0 != a1_0) = true := bne_iff_ne.mpr c20
            obtain rfl := Option.some.inj H
            have hnb36 := NB250_251.out
            have hnc36 := NB251_250.out
            have hcz37_0 : wr.cell? ⟨gb250, 0, none⟩ = some (.int .u64 a0_0) := (blk_cell BK250.out 0).trans rfl
            have hcz37_1 : wr.cell? ⟨gb250, 1, none⟩ = some (.int .i64 a0_1) := (blk_cell BK250.out 1).trans rfl
            have hcz37_2 : wr.cell? ⟨gb250, 2, none⟩ = some (.int .i64 a0_2) := (blk_cell BK250.out 2).trans rfl
            have hcz37_3 : wr.cell? ⟨gb250, 3, none⟩ = some (.bool a0_3) := (blk_cell BK250.out 3).trans rfl
            have hcz37_4 : wr.cell? ⟨gb250, 4, none⟩ = some (.slice A0_4 l0_4.length c0_4) := (blk_cell BK250.out 4).trans rfl
            have hcz37_5 : wr.cell? ⟨gb250, 5, none⟩ = some (.int .i64 a0_5) := (blk_cell BK250.out 5).trans rfl
            have hfz37_0 := blk_frozen BK250.out 0
            have hfz37_1 := blk_frozen BK250.out 1
            have hfz37_2 := blk_frozen BK250.out 2
            have hfz37_3 := blk_frozen BK250.out 3
            have hfz37_4 := blk_frozen BK250.out 4
            have hfz37_5 := blk_frozen BK250.out 5
            have hcz38_0 : wr.cell? ⟨gb251, 0, none⟩ = some (.int .u64 a1_0) := (blk_cell BK251.out 0).trans rfl
            have hcz38_1 : wr.cell? ⟨gb251, 1, none⟩ = some (.int .i64 a1_1) := (blk_cell BK251.out 1).trans rfl
            have hcz38_2 : wr.cell? ⟨gb251, 2, none⟩ = some (.int .i64 a1_2) := (blk_cell BK251.out 2).trans rfl
            have hcz38_3 : wr.cell? ⟨gb251, 3, none⟩ = some (.bool a1_3) := (blk_cell BK251.out 3).trans rfl
            have hcz38_4 : wr.cell? ⟨gb251, 4, none⟩ = some (.slice A1_4 l1_4.length c1_4) := (blk_cell BK251.out 4).trans rfl
            have hcz38_5 : wr.cell? ⟨gb251, 5, none⟩ = some (.int .i64 a1_5) := (blk_cell BK251.out 5).trans rfl
            have hfz38_0 := blk_frozen BK251.out 0
            have hfz38_1 := blk_frozen BK251.out 1
            have hfz38_2 := blk_frozen BK251.out 2
            have hfz38_3 := blk_frozen BK251.out 3
            have hfz38_4 := blk_frozen BK251.out 4
            have hfz38_5 := blk_frozen BK251.out 5
            go_wp2
            repeat (go_quiet (fail); try go_wp2)
            go_ret
            exact ⟨by first | rfl | (simp [errW_none, errW_some] <;> rfl) | (simp [*, errW_none, errW_some] <;> rfl), by repeat (first | (with_reducible first | exact HB.out | apply below_alloc | apply pw_below_drewN | apply below_drew1 | refine below_set ?_ GE250.out | refine below_set ?_ GE251.out) | exact HB.out)⟩
  · rw [if_neg c3] at H
    have c3b0 : ((l0_4.length : Int) == (l1_4.length : Int)) = false := beq_eq_false_iff_ne.mpr c3
    have c3b1 : ((l0_4.length : Int) != (l1_4.length : Int)) = true := bne_iff_ne.mpr c3
    have c3b2 : (l0_4.length == l1_4.length) = false := by first | simpa using c3 | (simp at c3 ⊢; omega)
    obtain rfl := Option.some.inj H
    go_enter Tryd.func25, Tryd.ntmps25
    go_wp2_with (first | ((with_reducible refine gate_dst (N := 2) rfl ?_); refine box_event ?hg (N := 2) ?hd (cs := #[.int .u64 a0_0, .int .i64 a0_1, .int .i64 a0_2, .bool a0_3, .slice A0_4 l0_4.length c0_4, .int .i64 a0_5]) (t := 28) ?hr ?_; (case hd => rfl); (case hg => rfl); (case hr => first | (go_simp; done) | (go_simp; rfl)); intro gb250 hg w39 hbox hb; have n0_ := Aside0.mk (below_step (by repeat (first | (with_reducible first | exact HB.out | apply below_alloc | apply pw_below_drewN | apply below_drew1) | exact HB.out)) hb); have n1_ := Aside0.mk (hbox); have n2_ := Aside0.mk ((by rw [hg]; exact (below_size (by repeat (first | (with_reducible first | exact HB.out | apply below_alloc | apply pw_below_drewN | apply below_drew1) | exact HB.out))) : w.heap.size ≤ gb250)); have n3_ := Aside0.mk ((by rw [hg]; exact (below_size (by repeat (first | (with_reducible first | exact HB.out | apply below_alloc | apply pw_below_drewN | apply below_drew1) | exact HB.out))) : w.heap.size ≤ gb250)); clear HB; have HB := n0_; have BK250 := n1_; have GW250 := n2_; have GE250 := n3_; clear n0_ n1_ n2_ n3_; clear hb hbox hg) | ((with_reducible refine gate_dst (N := 3) rfl ?_); refine box_event ?hg (N := 3) ?hd (cs := #[.int .u64 a1_0, .int .i64 a1_1, .int .i64 a1_2, .bool a1_3, .slice A1_4 l1_4.length c1_4, .int .i64 a1_5]) (t := 28) ?hr ?_; (case hd => rfl); (case hg => rfl); (case hr => first | (go_simp; done) | (go_simp; rfl)); intro gb251 hg w40 hbox hb; have n0_ := Aside0.mk (blk_below (g := gb250) (o := .cells #[.int .u64 a0_0, .int .i64 a0_1, .int .i64 a0_2, .bool a0_3, .slice A0_4 l0_4.length c0_4, .int .i64 a0_5] 28 (0, 0)) (by (with_reducible repeat (first | refine blk_drewN ?_ _ | refine blk_drew ?_ | refine blk_alloc ?_ _)); exact BK250.out) hb); have n1_ := Aside0.mk (below_step (by repeat (first | (with_reducible first | exact HB.out | apply below_alloc | apply pw_below_drewN | apply below_drew1 | refine below_set ?_ GE250.out) | exact HB.out)) hb); have n2_ := Aside0.mk (hbox); have n3_ := Aside0.mk ((by rw [hg]; exact (below_size (by repeat (first | (with_reducible first | exact HB.out | apply below_alloc | apply pw_below_drewN | apply below_drew1 | refine below_set ?_ GE250.out) | exact HB.out))) : w.heap.size ≤ gb251)); have n4_ := Aside0.mk ((by rw [hg]; exact (below_size (by repeat (first | (with_reducible first | exact HB.out | apply below_alloc | apply pw_below_drewN | apply below_drew1 | refine below_set ?_ GE250.out) | exact HB.out))) : w.heap.size ≤ gb251)); have n5_ := Aside0.mk ((by rw [hg]; exact Nat.ne_of_lt (blk_lt (g := gb250) (o := .cells #[.int .u64 a0_0, .int .i64 a0_1, .int .i64 a0_2, .bool a0_3, .slice A0_4 l0_4.length c0_4, .int .i64 a0_5] 28 (0, 0)) (by (with_reducible repeat (first | refine blk_drewN ?_ _ | refine blk_drew ?_ | refine blk_alloc ?_ _)); exact BK250.out)) : gb250 ≠ gb251)); have n6_ := Aside0.mk ((by rw [hg]; exact Nat.ne_of_gt (blk_lt (g := gb250) (o := .cells #[.int .u64 a0_0, .int .i64 a0_1, .int .i64 a0_2, .bool a0_3, .slice A0_4 l0_4.length c0_4, .int .i64 a0_5] 28 (0, 0)) (by (with_reducible repeat (first | refine blk_drewN ?_ _ | refine blk_drew ?_ | refine blk_alloc ?_ _)); exact BK250.out)) : gb251 ≠ gb250)); clear BK250; clear HB; have BK250 := n0_; have HB := n1_; have BK251 := n2_; have GW251 := n3_; have GE251 := n4_; have NB250_251 := n5_; have NB251_250 := n6_; clear n0_ n1_ n2_ n3_ n4_ n5_ n6_; clear hb hbox hg; have hnb41 := NB250_251.out; have hnc41 := NB251_250.out; have hcz42_0 : w40.cell? ⟨gb250, 0, none⟩ = some (.int .u64 a0_0) := (blk_cell BK250.out 0).trans rfl; have hcz42_1 : w40.cell? ⟨gb250, 1, none⟩ = some (.int .i64 a0_1) := (blk_cell BK250.out 1).trans rfl; have hcz42_2 : w40.cell? ⟨gb250, 2, none⟩ = some (.int .i64 a0_2) := (blk_cell BK250.out 2).trans rfl; have hcz42_3 : w40.cell? ⟨gb250, 3, none⟩ = some (.bool a0_3) := (blk_cell BK250.out 3).trans rfl; have hcz42_4 : w40.cell? ⟨gb250, 4, none⟩ = some (.slice A0_4 l0_4.length c0_4) := (blk_cell BK250.out 4).trans rfl; have hcz42_5 : w40.cell? ⟨gb250, 5, none⟩ = some (.int .i64 a0_5) := (blk_cell BK250.out 5).trans rfl; have hfz42_0 := blk_frozen BK250.out 0; have hfz42_1 := blk_frozen BK250.out 1; have hfz42_2 := blk_frozen BK250.out 2; have hfz42_3 := blk_frozen BK250.out 3; have hfz42_4 := blk_frozen BK250.out 4; have hfz42_5 := blk_frozen BK250.out 5; have hcz43_0 : w40.cell? ⟨gb251, 0, none⟩ = some (.int .u64 a1_0) := (blk_cell BK251.out 0).trans rfl; have hcz43_1 : w40.cell? ⟨gb251, 1, none⟩ = some (.int .i64 a1_1) := (blk_cell BK251.out 1).trans rfl; have hcz43_2 : w40.cell? ⟨gb251, 2, none⟩ = some (.int .i64 a1_2) := (blk_cell BK251.out 2).trans rfl; have hcz43_3 : w40.cell? ⟨gb251, 3, none⟩ = some (.bool a1_3) := (blk_cell BK251.out 3).trans rfl; have hcz43_4 : w40.cell? ⟨gb251, 4, none⟩ = some (.slice A1_4 l1_4.length c1_4) := (blk_cell BK251.out 4).trans rfl; have hcz43_5 : w40.cell? ⟨gb251, 5, none⟩ = some (.int .i64 a1_5) := (blk_cell BK251.out 5).trans rfl; have hfz43_0 := blk_frozen BK251.out 0; have hfz43_1 := blk_frozen BK251.out 1; have hfz43_2 := blk_frozen BK251.out 2; have hfz43_3 := blk_frozen BK251.out 3; have hfz43_4 := blk_frozen BK251.out 4; have hfz43_5 := blk_frozen BK251.out 5))
    repeat (go_quiet (first | ((with_reducible refine gate_dst (N := 2) rfl ?_); refine box_event ?hg (N := 2) ?hd (cs := #[.int .u64 a0_0, .int .i64 a0_1, .int .i64 a0_2, .bool a0_3, .slice A0_4 l0_4.length c0_4, .int .i64 a0_5]) (t := 28) ?hr ?_; (case hd => rfl); (case hg => rfl); (case hr => first | (go_simp; done) | (go_simp; rfl)); intro gb250 hg w39 hbox hb; have n0_ := Aside0.mk (below_step (by repeat (first | (with_reducible first | exact HB.out | apply below_alloc | apply pw_below_drewN | apply below_drew1) | exact HB.out)) hb); have n1_ := Aside0.mk (hbox); have n2_ := Aside0.mk ((by rw [hg]; exact (below_size (by repeat (first | (with_reducible first | exact HB.out | apply below_alloc | apply pw_below_drewN | apply below_drew1) | exact HB.out))) : w.heap.size ≤ gb250)); have n3_ := Aside0.mk ((by rw [hg]; exact (below_size (by repeat (first | (with_reducible first | exact HB.out | apply below_alloc | apply pw_below_drewN | apply below_drew1) | exact HB.out))) : w.heap.size ≤ gb250)); clear HB; have HB := n0_; have BK250 := n1_; have GW250 := n2_; have GE250 := n3_; clear n0_ n1_ n2_ n3_; clear hb hbox hg) | ((with_reducible refine gate_dst (N := 3) rfl ?_); refine box_event ?hg (N := 3) ?hd (cs := #[.int .u64 a1_0, .int .i64 a1_1, .int .i64 a1_2, .bool a1_3, .slice A1_4 l1_4.length c1_4, .int .i64 a1_5]) (t := 28) ?hr ?_; (case hd => rfl); (case hg => rfl); (case hr => first | (go_simp; done) | (go_simp; rfl)); intro gb251 hg w40 hbox hb; have n0_ := Aside0.mk (blk_below (g := gb250) (o := .cells #[.int .u64 a0_0, .int .i64 a0_1, .int .i64 a0_2, .bool a0_3, .slice A0_4 l0_4.length c0_4, .int .i64 a0_5] 28 (0, 0)) (by (with_reducible repeat (first | refine blk_drewN ?_ _ | refine blk_drew ?_ | refine blk_alloc ?_ _)); exact BK250.out) hb); have n1_ := Aside0.mk (below_step (by repeat (first | (with_reducible first | exact HB.out | apply below_alloc | apply pw_below_drewN | apply below_drew1 | refine below_set ?_ GE250.out) | exact HB.out)) hb); have n2_ := Aside0.mk (hbox); have n3_ := Aside0.mk ((by rw [hg]; exact (below_size (by repeat (first | (with_reducible first | exact HB.out | apply below_alloc | apply pw_below_drewN | apply below_drew1 | refine below_set ?_ GE250.out) | exact HB.out))) : w.heap.size ≤ gb251)); have n4_ := Aside0.mk ((by rw [hg]; exact (below_size (by repeat (first | (with_reducible first | exact HB.out | apply below_alloc | apply pw_below_drewN | apply below_drew1 | refine below_set ?_ GE250.out) | exact HB.out))) : w.heap.size ≤ gb251)); have n5_ := Aside0.mk ((by rw [hg]; exact Nat.ne_of_lt (blk_lt (g := gb250) (o := .cells #[.int .u64 a0_0, .int .i64 a0_1, .int .i64 a0_2, .bool a0_3, .slice A0_4 l0_4.length c0_4, .int .i64 a0_5] 28 (0, 0)) (by (with_reducible repeat (first | refine blk_drewN ?_ _ | refine blk_drew ?_ | refine blk_alloc ?_ _)); exact BK250.out)) : gb250 ≠ gb251)); have n6_ := Aside0.mk ((by rw [hg]; exact Nat.ne_of_gt (blk_lt (g := gb250) (o := .cells #[.int .u64 a0_0, .int .i64 a0_1, .int .i64 a0_2, .bool a0_3, .slice A0_4 l0_4.length c0_4, .int .i64 a0_5] 28 (0, 0)) (by (with_reducible repeat (first | refine blk_drewN ?_ _ | refine blk_drew ?_ | refine blk_alloc ?_ _)); exact BK250.out)) : gb251 ≠ gb250)); clear BK250; clear HB; have BK250 := n0_; have HB := n1_; have BK251 := n2_; have GW251 := n3_; have GE251 := n4_; have NB250_251 := n5_; have NB251_250 := n6_; clear n0_ n1_ n2_ n3_ n4_ n5_ n6_; clear hb hbox hg; have hnb41 := NB250_251.out; have hnc41 := NB251_250.out; have hcz42_0 : w40.cell? ⟨gb250, 0, none⟩ = some (.int .u64 a0_0) := (blk_cell BK250.out 0).trans rfl; have hcz42_1 : w40.cell? ⟨gb250, 1, none⟩ = some (.int .i64 a0_1) := (blk_cell BK250.out 1).trans rfl; have hcz42_2 : w40.cell? ⟨gb250, 2, none⟩ = some (.int .i64 a0_2) := (blk_cell BK250.out 2).trans rfl; have hcz42_3 : w40.cell? ⟨gb250, 3, none⟩ = some (.bool a0_3) := (blk_cell BK250.out 3).trans rfl; have hcz42_4 : w40.cell? ⟨gb250, 4, none⟩ = some (.slice A0_4 l0_4.length c0_4) := (blk_cell BK250.out 4).trans rfl; have hcz42_5 : w40.cell? ⟨gb250, 5, none⟩ = some (.int .i64 a0_5) := (blk_cell BK250.out 5).trans rfl; have hfz42_0 := blk_frozen BK250.out 0; have hfz42_1 := blk_frozen BK250.out 1; have hfz42_2 := blk_frozen BK250.out 2; have hfz42_3 := blk_frozen BK250.out 3; have hfz42_4 := blk_frozen BK250.out 4; have hfz42_5 := blk_frozen BK250.out 5; have hcz43_0 : w40.cell? ⟨gb251, 0, none⟩ = some (.int .u64 a1_0) := (blk_cell BK251.out 0).trans rfl; have hcz43_1 : w40.cell? ⟨gb251, 1, none⟩ = some (.int .i64 a1_1) := (blk_cell BK251.out 1).trans rfl; have hcz43_2 : w40.cell? ⟨gb251, 2, none⟩ = some (.int .i64 a1_2) := (blk_cell BK251.out 2).trans rfl; have hcz43_3 : w40.cell? ⟨gb251, 3, none⟩ = some (.bool a1_3) := (blk_cell BK251.out 3).trans rfl; have hcz43_4 : w40.cell? ⟨gb251, 4, none⟩ = some (.slice A1_4 l1_4.length c1_4) := (blk_cell BK251.out 4).trans rfl; have hcz43_5 : w40.cell? ⟨gb251, 5, none⟩ = some (.int .i64 a1_5) := (blk_cell BK251.out 5).trans rfl; have hfz43_0 := blk_frozen BK251.out 0; have hfz43_1 := blk_frozen BK251.out 1; have hfz43_2 := blk_frozen BK251.out 2; have hfz43_3 := blk_frozen BK251.out 3; have hfz43_4 := blk_frozen BK251.out 4; have hfz43_5 := blk_frozen BK251.out 5)); try go_wp2_with (first | ((with_reducible refine gate_dst (N := 2) rfl ?_); refine box_event ?hg (N := 2) ?hd (cs := #[.int .u64 a0_0, .int .i64 a0_1, .int .i64 a0_2, .bool a0_3, .slice A0_4 l0_4.length c0_4, .int .i64 a0_5]) (t := 28) ?hr ?_; (case hd => rfl); (case hg => rfl); (case hr => first | (go_simp; done) | (go_simp; rfl)); intro gb250 hg w39 hbox hb; have n0_ := Aside0.mk (below_step (by repeat (first | (with_reducible first | exact HB.out | apply below_alloc | apply pw_below_drewN | apply below_drew1) | exact HB.out)) hb); have n1_ := Aside0.mk (hbox); have n2_ := Aside0.mk ((by rw [hg]; exact (below_size (by repeat (first | (with_reducible first | exact HB.out | apply below_alloc | apply pw_below_drewN | apply below_drew1) | exact HB.out))) : w.heap.size ≤ gb250)); have n3_ := Aside0.mk ((by rw [hg]; exact (below_size (by repeat (first | (with_reducible first | exact HB.out | apply below_alloc | apply pw_below_drewN | apply below_drew1) | exact HB.out))) : w.heap.size ≤ gb250)); clear HB; have HB := n0_; have BK250 := n1_; have GW250 := n2_; have GE250 := n3_; clear n0_ n1_ n2_ n3_; clear hb hbox hg) | ((with_reducible refine gate_dst (N := 3) rfl ?_); refine box_event ?hg (N := 3) ?hd (cs := #[.int .u64 a1_0, .int .i64 a1_1, .int .i64 a1_2, .bool a1_3, .slice A1_4 l1_4.length c1_4, .int .i64 a1_5]) (t := 28) ?hr ?_; (case hd => rfl); (case hg => rfl); (case hr => first | (go_simp; done) | (go_simp; rfl)); intro gb251 hg w40 hbox hb; have n0_ := Aside0.mk (blk_below (g := gb250) (o := .cells #[.int .u64 a0_0, .int .i64 a0_1, .int .i64 a0_2, .bool a0_3, .slice A0_4 l0_4.length c0_4, .int .i64 a0_5] 28 (0, 0)) (by (with_reducible repeat (first | refine blk_drewN ?_ _ | refine blk_drew ?_ | refine blk_alloc ?_ _)); exact BK250.out) hb); have n1_ := Aside0.mk (below_step (by repeat (first | (with_reducible first | exact HB.out | apply below_alloc | apply pw_below_drewN | apply below_drew1 | refine below_set ?_ GE250.out) | exact HB.out)) hb); have n2_ := Aside0.mk (hbox); have n3_ := Aside0.mk ((by rw [hg]; exact (below_size (by repeat (first | (with_reducible first | exact HB.out | apply below_alloc | apply pw_below_drewN | apply below_drew1 | refine below_set ?_ GE250.out) | exact HB.out))) : w.heap.size ≤ gb251)); have n4_ := Aside0.mk ((by rw [hg]; exact (below_size (by repeat (first | (with_reducible first | exact HB.out | apply below_alloc | apply pw_below_drewN | apply below_drew1 | refine below_set ?_ GE250.out) | exact HB.out))) : w.heap.size ≤ gb251)); have n5_ := Aside0.mk ((by rw [hg]; exact Nat.ne_of_lt (blk_lt (g := gb250) (o := .cells #[.int .u64 a0_0, .int .i64 a0_1, .int .i64 a0_2, .bool a0_3, .slice A0_4 l0_4.length c0_4, .int .i64 a0_5] 28 (0, 0)) (by (with_reducible repeat (first | refine blk_drewN ?_ _ | refine blk_drew ?_ | refine blk_alloc ?_ _)); exact BK250.out)) : gb250 ≠ gb251)); have n6_ := Aside0.mk ((by rw [hg]; exact Nat.ne_of_gt (blk_lt (g := gb250) (o := .cells #[.int .u64 a0_0, .int .i64 a0_1, .int .i64 a0_2, .bool a0_3, .slice A0_4 l0_4.length c0_4, .int .i64 a0_5] 28 (0, 0)) (by (with_reducible repeat (first | refine blk_drewN ?_ _ | refine blk_drew ?_ | refine blk_alloc ?_ _)); exact BK250.out)) : gb251 ≠ gb250)); clear BK250; clear HB; have BK250 := n0_; have HB := n1_; have BK251 := n2_; have GW251 := n3_; have GE251 := n4_; have NB250_251 := n5_; have NB251_250 := n6_; clear n0_ n1_ n2_ n3_ n4_ n5_ n6_; clear hb hbox hg; have hnb41 := NB250_251.out; have hnc41 := NB251_250.out; have hcz42_0 : w40.cell? ⟨gb250, 0, none⟩ = some (.int .u64 a0_0) := (blk_cell BK250.out 0).trans rfl; have hcz42_1 : w40.cell? ⟨gb250, 1, none⟩ = some (.int .i64 a0_1) := (blk_cell BK250.out 1).trans rfl; have hcz42_2 : w40.cell? ⟨gb250, 2, none⟩ = some (.int .i64 a0_2) := (blk_cell BK250.out 2).trans rfl; have hcz42_3 : w40.cell? ⟨gb250, 3, none⟩ = some (.bool a0_3) := (blk_cell BK250.out 3).trans rfl; have hcz42_4 : w40.cell? ⟨gb250, 4, none⟩ = some (.slice A0_4 l0_4.length c0_4) := (blk_cell BK250.out 4).trans rfl; have hcz42_5 : w40.cell? ⟨gb250, 5, none⟩ = some (.int .i64 a0_5) := (blk_cell BK250.out 5).trans rfl; have hfz42_0 := blk_frozen BK250.out 0; have hfz42_1 := blk_frozen BK250.out 1; have hfz42_2 := blk_frozen BK250.out 2; have hfz42_3 := blk_frozen BK250.out 3; have hfz42_4 := blk_frozen BK250.out 4; have hfz42_5 := blk_frozen BK250.out 5; have hcz43_0 : w40.cell? ⟨gb251, 0, none⟩ = some (.int .u64 a1_0) := (blk_cell BK251.out 0).trans rfl; have hcz43_1 : w40.cell? ⟨gb251, 1, none⟩ = some (.int .i64 a1_1) := (blk_cell BK251.out 1).trans rfl; have hcz43_2 : w40.cell? ⟨gb251, 2, none⟩ = some (.int .i64 a1_2) := (blk_cell BK251.out 2).trans rfl; have hcz43_3 : w40.cell? ⟨gb251, 3, none⟩ = some (.bool a1_3) := (blk_cell BK251.out 3).trans rfl; have hcz43_4 : w40.cell? ⟨gb251, 4, none⟩ = some (.slice A1_4 l1_4.length c1_4) := (blk_cell BK251.out 4).trans rfl; have hcz43_5 : w40.cell? ⟨gb251, 5, none⟩ = some (.int .i64 a1_5) := (blk_cell BK251.out 5).trans rfl; have hfz43_0 := blk_frozen BK251.out 0; have hfz43_1 := blk_frozen BK251.out 1; have hfz43_2 := blk_frozen BK251.out 2; have hfz43_3 := blk_frozen BK251.out 3; have hfz43_4 := blk_frozen BK251.out 4; have hfz43_5 := blk_frozen BK251.out 5)))
    go_ret
    exact ⟨by first | rfl | (simp [errW_none, errW_some] <;> rfl) | (simp [*, errW_none, errW_some] <;> rfl), by repeat (first | (with_reducible first | exact HB.out | apply below_alloc | apply pw_below_drewN | apply below_drew1 | refine below_set ?_ GE250.out | refine below_set ?_ GE251.out) | exact HB.out)⟩

-- NOT PRINTED: function 26 (impl_Join)

-- NOT PRINTED: function 8 (laws_FnJoin)

end Go.Proofs.YtglikgjaobedbaaDoor.Sp
