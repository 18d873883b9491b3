/-
  spec_Shr: its plain function and its contract, as printed (print.sh) for this seat.
-/
import Derived.Test.YtglikgjaobedbaaDoorSp0
import Derived.Test.YtglikgjaobedbaaDoorSpSTrim
namespace Go.Proofs.YtglikgjaobedbaaDoor.Sp
open Go.RowKit Go.Proofs.YtglikgjaobedbaaDoorW.PrintWords Go.Proofs.YtglikgjaobedbaaDoorW.PrintLast Go.Proofs.YtglikgjaobedbaaDoorW.PrintMore
attribute [local go_sem] max2_int min2_int max_two min_two max_three min_three max_four min_four
set_option linter.unusedVariables false
set_option linter.unusedSimpArgs false

/-! ### spec_Shr: function 68 -/
def spec_Shr.l0 : Nat → List Int → Int → List Int → Int → Option (List Int)
  | 0, _, _, _, _ => none
  | k + 1, x0, x1, x5, x6 => if x6 < (x0.length : Int) then (if 0 ≤ x6 then (if (wrap64 (x6 + 1)) < (x0.length : Int) then (if 0 ≤ (wrap64 (x6 + 1)) then (if 0 ≤ (Int.tmod x1 16) then (if x5.length < 17592186044416 then (spec_Shr.l0 k x0 x1 (x5 ++ [Int.tmod (shr .i64 (wrap64 ((rd x0 x6) + (wrap64 (65536 * (rd x0 (wrap64 (x6 + 1))))))) (Int.tmod x1 16)) 65536]) (wrap64 (x6 + 1))) else (none)) else (none)) else (none)) else (if 0 ≤ (Int.tmod x1 16) then (if x5.length < 17592186044416 then (spec_Shr.l0 k x0 x1 (x5 ++ [Int.tmod (shr .i64 (rd x0 x6) (Int.tmod x1 16)) 65536]) (wrap64 (x6 + 1))) else (none)) else (none))) else (none)) else ((spec_trim.f k x5).bind fun t181 => (some t181))
def spec_Shr.f (k : Nat) (l0 : List Int) (a1 : Int) : Option (List Int) := spec_Shr.l0 k l0 a1 (([] : List Int)) (wrap64 (Int.tdiv a1 16))
theorem spec_Shr.mono_l : ∀ k, (∀ y0 y1 y2 y3, LeO (spec_Shr.l0 k y0 y1 y2 y3) (spec_Shr.l0 (k + 1) y0 y1 y2 y3))
  | 0 => fun _ _ _ _ r h => by simp [spec_Shr.l0] at h
  | k + 1 => by
    have ih0 := spec_Shr.mono_l k
    · intro y0 y1 y2 y3
      unfold spec_Shr.l0
      repeat' first
      | (with_reducible exact ih0 _ _ _ _)
      | (with_reducible exact spec_trim.mono _ _)
      | (with_reducible exact LeO.refl _)
      | (with_reducible exact LeO.none _)
      | (with_reducible refine LeO.ite ?_ ?_)
      | (with_reducible refine LeO.bind ?_ (fun _ => ?_))
      | exact ih0 _ _ _ _
      | exact spec_trim.mono _ _
      | exact LeO.none _
      | refine LeO.ite ?_ ?_
      | refine LeO.bind ?_ (fun _ => ?_)
theorem spec_Shr.mono : ∀ a0 a1 k, LeO (spec_Shr.f k a0 a1) (spec_Shr.f (k + 1) a0 a1) := by
  intro a0 a1 k
  have ih0 := spec_Shr.mono_l k
  unfold spec_Shr.f
  repeat' first
      | (with_reducible exact ih0 _ _ _ _)
      | (with_reducible exact spec_trim.mono _ _)
      | (with_reducible exact LeO.refl _)
      | (with_reducible exact LeO.none _)
      | (with_reducible refine LeO.ite ?_ ?_)
      | (with_reducible refine LeO.bind ?_ (fun _ => ?_))
      | exact ih0 _ _ _ _
      | exact spec_trim.mono _ _
      | exact LeO.none _
      | refine LeO.ite ?_ ?_
      | refine LeO.bind ?_ (fun _ => ?_)
set_option maxHeartbeats 8000000 in
set_option maxRecDepth 100000 in
theorem spec_Shr.calls (k : Nat) (A0 : Option Addr) (c0 : Nat) (l0 : List Int) (a1 : Int) (r : List Int) (w : World) (hr0 : Kd.C (Kd.int .i64) w A0 l0.length l0) (hc0 : l0.length ≤ c0) (h : spec_Shr.f k l0 a1 = some r) :
    Calls Tryd.prog 68 #[.slice A0 l0.length c0, .int .i64 a1] w fun e w' => ∃ v0_ : Value, e = .returned (v0_) ∧ Kd.V (Kd.int .i64) 3 w' w.heap.size (fun k_ => (w.heap.size ≤ k_)) v0_ r ∧ Below w.heap.size w w' := by
  have HR0 := Aside0.mk hr0
  have HC0 := Aside0.mk hc0
  clear hr0 hc0
  have HB := Aside0.mk (Below.refl w.heap.size w)
  have H : (spec_Shr.l0 k l0 a1 (([] : List Int)) (wrap64 (Int.tdiv a1 16))) = some r := h
  clear h
  obtain ⟨y170, hy170⟩ : ∃ y_ : List Int, y_ = (([] : List Int)) := ⟨_, rfl⟩
  replace H : (spec_Shr.l0 k l0 a1 y170 (wrap64 (Int.tdiv a1 16))) = some r := by first | (rw [hy170]; with_reducible exact H) | (have H2_ := (Option.bind_some _ _).symm.trans H; rw [hy170]; with_reducible exact H2_) | (have H2_ := (Option.bind_some _ _).symm.trans H; with_reducible exact H2_) | with_reducible exact H | (rw [hy170]; exact H) | exact H
  have Ny170 := Aside0.mk hy170
  clear hy170
  have H' := Aside0.mk H
  clear H
  go_enter Tryd.func68, Tryd.ntmps68
  go_wp2_with (first | ((with_reducible refine gate_dst (N := 8) rfl ?_); refine Kd.R_lit (Kd.int .i64) _ 3 ?hg (N := 8) ?hd (xs := ([] : List Int)) (inner := []) (ok := fun _ => True) (okp := fun _ => True) ?hr ?hp (fun _ hk => hk) trivial (Below.refl _ _) (Nat.le_refl _) (by simp) ?_; (case hd => rfl); (case hg => rfl); (case hr => first | (go_simp; done) | (go_simp; rfl)); (case hp => exact (Reps.none _ _)); intro v171 w3 ho4 hb hg_ hnew_; clear hg_ hnew_; (first | rw [← Ny170.out] at ho4 | (simp only [Int.reduceToNat] at ho4; rw [← Ny170.out] at ho4)); have n0_ := Aside0.mk (Kd.R_lower (Kd.R_newM (M := fun k_ => (w.heap.size ≤ k_)) ho4 (below_size (by repeat (first | (with_reducible first | exact HB.out | apply below_alloc | apply pw_below_drewN | apply below_drew1) | exact HB.out))) (fun k_ h_ => h_)) (below_size (by repeat (first | (with_reducible first | exact HB.out | apply below_alloc | apply pw_below_drewN | apply below_drew1) | exact HB.out)))); have n1_ := Aside0.mk (below_step (by repeat (first | (with_reducible first | exact HB.out | apply below_alloc | apply pw_below_drewN | apply below_drew1) | exact HB.out)) hb); clear HB; have HO172 := n0_; have HB := n1_; clear n0_ n1_; clear hb ho4))
  go_loopg [5, 6] k (fun kq v5 v6 w' => ∃ (x5_1 : List Int) (x6_1 : Int), v6 = .int .i64 x6_1 ∧ Aside0 (spec_Shr.l0 kq l0 a1 x5_1 x6_1 = some r) ∧ Aside0 (kq ≤ k) ∧ Aside0 (Kd.R (Kd.int .i64) 3 w' w.heap.size (fun k_ => (w.heap.size ≤ k_)) v5 x5_1) ∧ Aside0 (Below w.heap.size w w'))
  case atStart => exact ⟨(y170), (wrap64 (Int.tdiv a1 16)), (by first | rfl | (simp; done) | (simp [*]; done)), H', ⟨Nat.le_refl _⟩, ⟨by (with_reducible repeat (first | apply Kd.R_alloc | apply Kd.R_drewN | apply Kd.R_drew)); exact Kd.R_mono HO172.out (fun _ hk => hk.1)⟩, ⟨by repeat (first | (with_reducible first | exact HB.out | apply below_alloc | apply pw_below_drewN | apply below_drew1) | exact HB.out)⟩⟩
  case round =>
    clear H'
    try clear p2
    obtain ⟨x5_1, x6_1, rfl, HA, HK1, HO_5, HB⟩ := hrel
    cases gk with
    | zero => exact absurd HA.out (by simp [spec_Shr.l0])
    | succ k1 =>
      have H := HA.out
      clear HA
      simp only [spec_Shr.l0] at H
      by_cases c5 : x6_1 < (l0.length : Int)
      · rw [if_pos c5] at H
        have c5b0 : decide (x6_1 < (l0.length : Int)) = true := decide_eq_true c5
        clear c5
        by_cases c6 : 0 ≤ x6_1
        · rw [if_pos c6] at H
          have c6b0 : decide (0 ≤ x6_1) = true := decide_eq_true c6
          clear c6
          by_cases c7 : (wrap64 (x6_1 + 1)) < (l0.length : Int)
          · rw [if_pos c7] at H
            have c7b0 : decide ((wrap64 (x6_1 + 1)) < (l0.length : Int)) = true := decide_eq_true c7
            clear c7
            obtain ⟨ji8, hji8⟩ : ∃ j_ : Int, (wrap64 (x6_1 + 1)) = j_ := ⟨_, rfl⟩
            replace H : (if 0 ≤ (ji8) then (if 0 ≤ (Int.tmod a1 16) then (if x5_1.length < 17592186044416 then (spec_Shr.l0 k1 l0 a1 (x5_1 ++ [Int.tmod (shr .i64 (wrap64 ((rd l0 x6_1) + (wrap64 (65536 * (rd l0 (ji8)))))) (Int.tmod a1 16)) 65536]) ji8) else (none)) else (none)) else (none)) = some r := by first | (rw [hji8] at H; exact H) | (simp only [hji8] at H ⊢; exact H)
            (try rw [hji8] at c7b0)
            have hji8w : (IntKind.i64.wrap (x6_1 + 1)) = ji8 := (i64_w _).trans hji8
            by_cases c9 : 0 ≤ (ji8)
            · rw [if_pos c9] at H
              have c9b0 : decide (0 ≤ (ji8)) = true := decide_eq_true c9
              clear c9
              obtain ⟨ji10, hji10⟩ : ∃ j_ : Int, (Int.tmod a1 16) = j_ := ⟨_, rfl⟩
              replace H : (if 0 ≤ (ji10) then (if x5_1.length < 17592186044416 then (spec_Shr.l0 k1 l0 a1 (x5_1 ++ [Int.tmod (shr .i64 (wrap64 ((rd l0 x6_1) + (wrap64 (65536 * (rd l0 (ji8)))))) (ji10)) 65536]) ji8) else (none)) else (none)) = some r := by first | (rw [hji10] at H; exact H) | (simp only [hji10] at H ⊢; exact H)
              by_cases c11 : 0 ≤ (ji10)
              · rw [if_pos c11] at H
                have c11b0 := eq_true c11
                have c11b1 : decide (0 ≤ (ji10)) = true := decide_eq_true c11
                clear c11
                obtain ⟨ji12, hji12⟩ : ∃ j_ : Int, (shr .i64 (wrap64 ((rd l0 x6_1) + (wrap64 (65536 * (rd l0 (ji8)))))) (ji10)) = j_ := ⟨_, rfl⟩
                replace H : (if x5_1.length < 17592186044416 then (spec_Shr.l0 k1 l0 a1 (x5_1 ++ [Int.tmod (ji12) 65536]) ji8) else (none)) = some r := by first | (rw [hji12] at H; exact H) | (simp only [hji12] at H ⊢; exact H)
                have hji12_ : ((wrap64 ((rd l0 x6_1) + (wrap64 (65536 * (rd l0 (ji8)))))) / 2 ^ min (ji10).toNat 64) = ji12 := hji12
                have hji12z : (ji10) ≤ 64 → ((wrap64 ((rd l0 x6_1) + (wrap64 (65536 * (rd l0 (ji8)))))) / 2 ^ (ji10).toNat) = ji12 := shr_small hji12
                by_cases c13 : x5_1.length < 17592186044416
                · rw [if_pos c13] at H
                  have LMc13 := Aside0.mk c13
                  clear c13
                  obtain ⟨y175, hy175⟩ : ∃ y_ : List Int, y_ = (x5_1 ++ [Int.tmod (ji12) 65536]) := ⟨_, rfl⟩
                  replace H : (spec_Shr.l0 k1 l0 a1 y175 ji8) = some r := by first | (rw [hy175]; with_reducible exact H) | (have H2_ := (Option.bind_some _ _).symm.trans H; rw [hy175]; with_reducible exact H2_) | (have H2_ := (Option.bind_some _ _).symm.trans H; with_reducible exact H2_) | with_reducible exact H | (rw [hy175]; exact H) | exact H
                  have Ny175 := Aside0.mk hy175
                  clear hy175
                  have H' := Aside0.mk H
                  clear H
                  have p173 : 0 ≤ (x6_1 : Int) := of_decide_eq_true (by first | (with_reducible assumption) | assumption)
                  have q173 : x6_1 < (l0.length : Int) := of_decide_eq_true (by first | (with_reducible assumption) | assumption)
                  obtain ⟨ad173, e173, hx173_0⟩ := Kd.at_int HR0.out x6_1 p173 q173
                  cases e173
                  replace hx173_0 := (HB.out.cell (World.block_lt_of_cell? w _ hx173_0)).trans hx173_0
                  replace p173 := eq_true p173
                  replace q173 := eq_true q173
                  have p174 : 0 ≤ ((ji8) : Int) := of_decide_eq_true (by first | (with_reducible assumption) | assumption)
                  have q174 : (ji8) < (l0.length : Int) := of_decide_eq_true (by first | (with_reducible assumption) | assumption)
                  obtain ⟨ad174, e174, hx174_0⟩ := Kd.at_int HR0.out (ji8) p174 q174
                  obtain rfl : ad173 = ad174 := (by injection e174)
                  replace hx174_0 := (HB.out.cell (World.block_lt_of_cell? w _ hx174_0)).trans hx174_0
                  replace p174 := eq_true p174
                  replace q174 := eq_true q174
                  go_wp2_with (first | ((with_reducible refine gate_builtin (b := .append) (xs := #[.tmp 34, .tmp 40]) rfl ?_); at_builtin; refine Kd.R_append (Kd.int .i64) (w0 := w) w.heap.size rfl (.tmp 34) (.tmp 40) 38 3 (.int .i64 0) 8 rfl Tryd.underlying38 info3 rfl (by decide) (by omega) u5 x5_1 (Int.tmod (ji12) 65536) [.int .i64 (Int.tmod (ji12) 65536)] (fun k_ => (w.heap.size ≤ k_)) (fun _ => False) rfl rfl ?aP (fun _ hk => hk.elim) ?aF ?aO ?aB ?aS ?aL ?_; (case aP => exact rfl); (case aB => exact (by repeat (first | (with_reducible first | exact HB.out | apply below_alloc | apply pw_below_drewN | apply below_drew1) | exact HB.out))); (case aF => exact (fun k_ hk => (Nat.le_trans (below_size (by repeat (first | (with_reducible first | exact HB.out | apply below_alloc | apply pw_below_drewN | apply below_drew1) | exact HB.out))) hk))); (case aO => exact (by (with_reducible repeat (first | apply Kd.R_alloc | apply Kd.R_drewN | apply Kd.R_drew)); exact HO_5.out)); (case aS => exact (below_size (by repeat (first | (with_reducible first | exact HB.out | apply below_alloc | apply pw_below_drewN | apply below_drew1) | exact HB.out)))); (case aL => have := LMc13.out; omega); intro v176 w14 ho hb hg hat; rw [← Ny175.out] at ho; have n0_ := Aside0.mk (hb); have n1_ := Aside0.mk (ho); clear HB; clear HO_5; have HB := n0_; have HO177 := n1_; clear n0_ n1_; clear ho hb hg hat))
                  go_roundg k1
                  case measure => have := HK1.out; omega
                  case rel => exact ⟨(y175), (ji8), (by first | rfl | (simp; done) | (simp only [← hji8] <;> (first | rfl | simp)) | (simp [*]; done)), H', ⟨by have := HK1.out; omega⟩, ⟨by (with_reducible repeat (first | apply Kd.R_alloc | apply Kd.R_drewN | apply Kd.R_drew)); exact HO177.out⟩, ⟨by repeat (first | (with_reducible first | exact HB.out | apply below_alloc | apply pw_below_drewN | apply below_drew1) | exact HB.out)⟩⟩
                · rw [if_neg c13] at H
                  exact absurd H (by simp)
              · rw [if_neg c11] at H
                exact absurd H (by simp)
            · rw [if_neg c9] at H
              exact absurd H (by simp)
          · rw [if_neg c7] at H
            have c7b0 : decide ((wrap64 (x6_1 + 1)) < (l0.length : Int)) = false := decide_eq_false c7
            clear c7
            obtain ⟨ji15, hji15⟩ : ∃ j_ : Int, (Int.tmod a1 16) = j_ := ⟨_, rfl⟩
            replace H : (if 0 ≤ (ji15) then (if x5_1.length < 17592186044416 then (spec_Shr.l0 k1 l0 a1 (x5_1 ++ [Int.tmod (shr .i64 (rd l0 x6_1) (ji15)) 65536]) (wrap64 (x6_1 + 1))) else (none)) else (none)) = some r := by first | (rw [hji15] at H; exact H) | (simp only [hji15] at H ⊢; exact H)
            by_cases c16 : 0 ≤ (ji15)
            · rw [if_pos c16] at H
              have c16b0 := eq_true c16
              have c16b1 : decide (0 ≤ (ji15)) = true := decide_eq_true c16
              clear c16
              obtain ⟨ji17, hji17⟩ : ∃ j_ : Int, (shr .i64 (rd l0 x6_1) (ji15)) = j_ := ⟨_, rfl⟩
              replace H : (if x5_1.length < 17592186044416 then (spec_Shr.l0 k1 l0 a1 (x5_1 ++ [Int.tmod (ji17) 65536]) (wrap64 (x6_1 + 1))) else (none)) = some r := by first | (rw [hji17] at H; exact H) | (simp only [hji17] at H ⊢; exact H)
              have hji17_ : ((rd l0 x6_1) / 2 ^ min (ji15).toNat 64) = ji17 := hji17
              have hji17z : (ji15) ≤ 64 → ((rd l0 x6_1) / 2 ^ (ji15).toNat) = ji17 := shr_small hji17
              by_cases c18 : x5_1.length < 17592186044416
              · rw [if_pos c18] at H
                have LMc18 := Aside0.mk c18
                clear c18
                obtain ⟨y178, hy178⟩ : ∃ y_ : List Int, y_ = (x5_1 ++ [Int.tmod (ji17) 65536]) := ⟨_, rfl⟩
                replace H : (spec_Shr.l0 k1 l0 a1 y178 (wrap64 (x6_1 + 1))) = some r := by first | (rw [hy178]; with_reducible exact H) | (have H2_ := (Option.bind_some _ _).symm.trans H; rw [hy178]; with_reducible exact H2_) | (have H2_ := (Option.bind_some _ _).symm.trans H; with_reducible exact H2_) | with_reducible exact H | (rw [hy178]; exact H) | exact H
                have Ny178 := Aside0.mk hy178
                clear hy178
                have H' := Aside0.mk H
                clear H
                have p173 : 0 ≤ (x6_1 : Int) := of_decide_eq_true (by first | (with_reducible assumption) | assumption)
                have q173 : x6_1 < (l0.length : Int) := of_decide_eq_true (by first | (with_reducible assumption) | assumption)
                obtain ⟨ad173, e173, hx173_0⟩ := Kd.at_int HR0.out x6_1 p173 q173
                cases e173
                replace hx173_0 := (HB.out.cell (World.block_lt_of_cell? w _ hx173_0)).trans hx173_0
                replace p173 := eq_true p173
                replace q173 := eq_true q173
                go_wp2_with (first | ((with_reducible refine gate_builtin (b := .append) (xs := #[.tmp 34, .tmp 40]) rfl ?_); at_builtin; refine Kd.R_append (Kd.int .i64) (w0 := w) w.heap.size rfl (.tmp 34) (.tmp 40) 38 3 (.int .i64 0) 8 rfl Tryd.underlying38 info3 rfl (by decide) (by omega) u5 x5_1 (Int.tmod (ji17) 65536) [.int .i64 (Int.tmod (ji17) 65536)] (fun k_ => (w.heap.size ≤ k_)) (fun _ => False) rfl rfl ?aP (fun _ hk => hk.elim) ?aF ?aO ?aB ?aS ?aL ?_; (case aP => exact rfl); (case aB => exact (by repeat (first | (with_reducible first | exact HB.out | apply below_alloc | apply pw_below_drewN | apply below_drew1) | exact HB.out))); (case aF => exact (fun k_ hk => (Nat.le_trans (below_size (by repeat (first | (with_reducible first | exact HB.out | apply below_alloc | apply pw_below_drewN | apply below_drew1) | exact HB.out))) hk))); (case aO => exact (by (with_reducible repeat (first | apply Kd.R_alloc | apply Kd.R_drewN | apply Kd.R_drew)); exact HO_5.out)); (case aS => exact (below_size (by repeat (first | (with_reducible first | exact HB.out | apply below_alloc | apply pw_below_drewN | apply below_drew1) | exact HB.out)))); (case aL => have := LMc18.out; omega); intro v179 w19 ho hb hg hat; rw [← Ny178.out] at ho; have n0_ := Aside0.mk (hb); have n1_ := Aside0.mk (ho); clear HB; clear HO_5; have HB := n0_; have HO180 := n1_; clear n0_ n1_; clear ho hb hg hat))
                go_roundg k1
                case measure => have := HK1.out; omega
                case rel => exact ⟨(y178), (wrap64 (x6_1 + 1)), (by first | rfl | (simp; done) | (simp [*]; done)), H', ⟨by have := HK1.out; omega⟩, ⟨by (with_reducible repeat (first | apply Kd.R_alloc | apply Kd.R_drewN | apply Kd.R_drew)); exact HO180.out⟩, ⟨by repeat (first | (with_reducible first | exact HB.out | apply below_alloc | apply pw_below_drewN | apply below_drew1) | exact HB.out)⟩⟩
              · rw [if_neg c18] at H
                exact absurd H (by simp)
            · rw [if_neg c16] at H
              exact absurd H (by simp)
        · rw [if_neg c6] at H
          exact absurd H (by simp)
      · rw [if_neg c5] at H
        have c5b0 : decide (x6_1 < (l0.length : Int)) = false := decide_eq_false c5
        clear c5
        replace H := Option.bind_eq_some_iff.mp H
        obtain ⟨t181, A200, H⟩ := H
        replace H : (some t181) = some r := H
        have A20 := Aside0.mk A200
        clear A200
        obtain rfl := Option.some.inj H
        obtain ⟨Ao21, co21, eo21⟩ := Kd.R_slice HO_5.out
        subst eo21
        go_wp2_with (first | ((with_reducible refine gate_callee (f := 77) rfl ?_); refine goesL_ (some 43) rfl rfl Tryd.func77 (by kernel_rfl) rfl #[.slice Ao21 x5_1.length co21] rfl (by (try simp only [List.map_toArray, List.map_cons, List.map_nil]); first | done | rfl | (simp only [List.length_drop, List.length_take]; rfl)) ?_; (with_reducible refine (spec_trim.calls k1 (fun k_ => some k_ = (.slice Ao21 x5_1.length co21 : Value).ownBlock) _ _ x5_1 t181 _ ?side1 A20.out).mono ?_); (case side1 => exact Kd.R_V (Kd.R_tight rfl (HO_5.out))); rintro e w22 ⟨v182, rfl, ho0, hb⟩; refine ⟨_, rfl, ?_⟩; have n0_ := Aside0.mk (Kd.R_below (by (with_reducible repeat (first | apply Kd.R_alloc | apply Kd.R_drewN | apply Kd.R_drew)); exact HO_5.out) hb); have n1_ := Aside0.mk (Kd.V_lower (Kd.V_mono (ok' := fun k_ => (w.heap.size ≤ k_)) ho0 (fun k_ hk_ => Or.elim hk_ (fun hs_ => ((HO_5.out).1 k_ hs_.symm)) (fun hn_ => (Nat.le_trans (below_size (by repeat (first | (with_reducible first | exact HB.out | apply below_alloc | apply pw_below_drewN | apply below_drew1) | exact HB.out))) hn_)))) (below_size (by repeat (first | (with_reducible first | exact HB.out | apply below_alloc | apply pw_below_drewN | apply below_drew1) | exact HB.out)))); have n2_ := Aside0.mk (below_step (by repeat (first | (with_reducible first | exact HB.out | apply below_alloc | apply pw_below_drewN | apply below_drew1) | exact HB.out)) hb); clear HO_5; clear HB; have HO_5 := n0_; have HO183 := n1_; have HB := n2_; clear n0_ n1_ n2_; (try clear hb); (try clear hb2); (try clear hk); (try clear hi); (try clear ho0)))
        go_ret
        exact ⟨_, by first | rfl | (simp [errW_none, errW_some] <;> rfl) | (simp [*, errW_none, errW_some] <;> rfl), by (with_reducible repeat (first | apply Kd.V_alloc | apply Kd.V_drewN | apply Kd.V_drew)); exact HO183.out, by repeat (first | (with_reducible first | exact HB.out | apply below_alloc | apply pw_below_drewN | apply below_drew1) | exact HB.out)⟩

end Go.Proofs.YtglikgjaobedbaaDoor.Sp
