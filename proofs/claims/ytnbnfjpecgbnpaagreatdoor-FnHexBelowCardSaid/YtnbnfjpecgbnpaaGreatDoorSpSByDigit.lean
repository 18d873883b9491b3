/-
  spec_byDigit: its plain function and its contract, as printed (print.sh) for this seat.
-/
import Derived.Test.YtnbnfjpecgbnpaaGreatDoorSp0
import Derived.Test.YtnbnfjpecgbnpaaGreatDoorSpSTrim
namespace Go.Proofs.YtnbnfjpecgbnpaaGreatDoor.Sp
open Go.RowKit Go.Proofs.YtnbnfjpecgbnpaaGreatDoorW.PrintWords Go.Proofs.YtnbnfjpecgbnpaaGreatDoorW.PrintLast Go.Proofs.YtnbnfjpecgbnpaaGreatDoorW.PrintMore
attribute [local go_sem] max2_int min2_int max_two min_two max_three min_three max_four min_four
set_option linter.unusedVariables false
set_option linter.unusedSimpArgs false

/-! ### spec_byDigit: function 57 -/
def spec_byDigit.l0 : Nat → List Int → Int → List Int → Int → Int → Option (List Int × Int)
  | 0, _, _, _, _, _ => none
  | k + 1, x0, x1, x6, x7, x8 => if x8 ≥ 0 then (if 0 ≤ x8 then (if x8 < (x0.length : Int) then (if x1 = 0 then (none) else (if x8 < (x6.length : Int) then (spec_byDigit.l0 k x0 x1 (x6.set (x8 : Int).toNat (wrap64 (Int.tdiv (wrap64 ((wrap64 (x7 * 65536)) + (rd x0 x8))) x1))) (Int.tmod (wrap64 ((wrap64 (x7 * 65536)) + (rd x0 x8))) x1) (wrap64 (x8 - 1))) else (none))) else (none)) else (none)) else ((spec_trim.f k x6).bind fun t375 => (some (t375, x7)))
def spec_byDigit.f (k : Nat) (l0 : List Int) (a1 : Int) : Option (List Int × Int) := if 0 ≤ (l0.length : Int) then (if ((l0.length : Int) : Int).toNat ≤ 35184372088832 then (spec_byDigit.l0 k l0 a1 (List.replicate ((l0.length : Int) : Int).toNat 0) 0 (wrap64 ((l0.length : Int) - 1))) else (none)) else (none)
theorem spec_byDigit.mono_l : ∀ k, (∀ y0 y1 y2 y3 y4, LeO (spec_byDigit.l0 k y0 y1 y2 y3 y4) (spec_byDigit.l0 (k + 1) y0 y1 y2 y3 y4))
  | 0 => fun _ _ _ _ _ r h => by simp [spec_byDigit.l0] at h
  | k + 1 => by
    have ih0 := spec_byDigit.mono_l k
    · intro y0 y1 y2 y3 y4
      unfold spec_byDigit.l0
      repeat' first
      | (with_reducible exact ih0 _ _ _ _ _)
      | (with_reducible exact spec_trim.mono _ _)
      | (with_reducible exact LeO.refl _)
      | (with_reducible exact LeO.none _)
      | (with_reducible refine LeO.ite ?_ ?_)
      | (with_reducible refine LeO.bind ?_ (fun _ => ?_))
      | exact ih0 _ _ _ _ _
      | exact spec_trim.mono _ _
      | exact LeO.none _
      | refine LeO.ite ?_ ?_
      | refine LeO.bind ?_ (fun _ => ?_)
theorem spec_byDigit.mono : ∀ a0 a1 k, LeO (spec_byDigit.f k a0 a1) (spec_byDigit.f (k + 1) a0 a1) := by
  intro a0 a1 k
  have ih0 := spec_byDigit.mono_l k
  unfold spec_byDigit.f
  repeat' first
      | (with_reducible exact ih0 _ _ _ _ _)
      | (with_reducible exact spec_trim.mono _ _)
      | (with_reducible exact LeO.refl _)
      | (with_reducible exact LeO.none _)
      | (with_reducible refine LeO.ite ?_ ?_)
      | (with_reducible refine LeO.bind ?_ (fun _ => ?_))
      | exact ih0 _ _ _ _ _
      | exact spec_trim.mono _ _
      | exact LeO.none _
      | refine LeO.ite ?_ ?_
      | refine LeO.bind ?_ (fun _ => ?_)
set_option maxHeartbeats 8000000 in
set_option maxRecDepth 100000 in
theorem spec_byDigit.calls (k : Nat) (A0 : Option Addr) (c0 : Nat) (l0 : List Int) (a1 : Int) (r1 : List Int) (r2 : Int) (w : World) (hr0 : Kd.C (Kd.int .i64) w A0 l0.length l0) (hc0 : l0.length ≤ c0) (h : spec_byDigit.f k l0 a1 = some (r1, r2)) :
    Calls Tryz.prog 57 #[.slice A0 l0.length c0, .int .i64 a1] w fun e w' => ∃ v0_ : Value, e = .returned (.tuple #[v0_, .int .i64 r2]) ∧ Kd.V (Kd.int .i64) 3 w' w.heap.size (fun k_ => (w.heap.size ≤ k_)) v0_ r1 ∧ Below w.heap.size w w' := by
  have HR0 := Aside0.mk hr0
  have HC0 := Aside0.mk hc0
  clear hr0 hc0
  have HB := Aside0.mk (Below.refl w.heap.size w)
  have H : (if 0 ≤ (l0.length : Int) then (if ((l0.length : Int) : Int).toNat ≤ 35184372088832 then (spec_byDigit.l0 k l0 a1 (List.replicate ((l0.length : Int) : Int).toNat 0) 0 (wrap64 ((l0.length : Int) - 1))) else (none)) else (none)) = some (r1, r2) := h
  clear h
  by_cases c3 : 0 ≤ (l0.length : Int)
  · rw [if_pos c3] at H
    have c3b0 := eq_true c3
    have c3b1 : decide (0 ≤ (l0.length : Int)) = true := decide_eq_true c3
    clear c3
    by_cases c4 : ((l0.length : Int) : Int).toNat ≤ 35184372088832
    · rw [if_pos c4] at H
      have c4b0 := eq_true c4
      have c4b1 : decide (((l0.length : Int) : Int).toNat ≤ 35184372088832) = true := decide_eq_true c4
      clear c4
      obtain ⟨y370, hy370⟩ : ∃ y_ : List Int, y_ = (List.replicate ((l0.length : Int) : Int).toNat 0) := ⟨_, rfl⟩
      replace H : (spec_byDigit.l0 k l0 a1 y370 0 (wrap64 ((l0.length : Int) - 1))) = some (r1, r2) := by first | (rw [hy370]; with_reducible exact H) | (have H2_ := (Option.bind_some _ _).symm.trans H; rw [hy370]; with_reducible exact H2_) | (have H2_ := (Option.bind_some _ _).symm.trans H; with_reducible exact H2_) | with_reducible exact H | (rw [hy370]; exact H) | exact H
      have Ny370 := Aside0.mk hy370
      clear hy370
      have H' := Aside0.mk H
      clear H
      go_enter Tryz.func57, Tryz.ntmps57
      go_wp2_with (first | ((with_reducible refine gate_dst (N := 11) rfl ?_); refine Kd.R_make (Kd.int .i64) _ 3 rfl (N := 11) rfl 30 _ _ rfl (l0.length : Int) rfl rfl Tryz.underlying30 (.int .i64 0) 8 info3 rfl (by decide) (by omega) 0 (ok := fun _ => True) (okp := fun _ => True) rfl (fun _ hk => hk) trivial (of_decide_eq_true (by first | (with_reducible assumption) | assumption)) (Nat.le_trans (Nat.mul_le_mul_right _ (of_decide_eq_true (by first | (with_reducible assumption) | assumption) : (l0.length : Int).toNat ≤ 35184372088832)) (by omega)) (Below.refl _ _) (Nat.le_refl _) ?_; intro v371 w5 ho6 hb hg_ hnew_; clear hg_ hnew_; (first | rw [← Ny370.out] at ho6 | (simp only [Int.reduceToNat] at ho6; rw [← Ny370.out] at ho6)); have n0_ := Aside0.mk (Kd.R_lower (Kd.R_newM (M := fun k_ => (w.heap.size ≤ k_)) ho6 (below_size (by repeat (first | (with_reducible first | exact HB.out | apply below_alloc | apply pw_below_drewN | apply below_drew1) | exact HB.out))) (fun k_ h_ => h_)) (below_size (by repeat (first | (with_reducible first | exact HB.out | apply below_alloc | apply pw_below_drewN | apply below_drew1) | exact HB.out)))); have n1_ := Aside0.mk (below_step (by repeat (first | (with_reducible first | exact HB.out | apply below_alloc | apply pw_below_drewN | apply below_drew1) | exact HB.out)) hb); clear HB; have HO372 := n0_; have HB := n1_; clear n0_ n1_; clear hb ho6))
      go_loopg [7, 8] k (fun kq v7 v8 w' => ∃ (x6_1 : List Int) (x7_1 : Int) (x8_1 : Int), v7 = .int .i64 x7_1 ∧ v8 = .int .i64 x8_1 ∧ Aside0 (spec_byDigit.l0 kq l0 a1 x6_1 x7_1 x8_1 = some (r1, r2)) ∧ Aside0 (kq ≤ k) ∧ Aside0 (Kd.R (Kd.int .i64) 3 w' w.heap.size (fun k_ => (w.heap.size ≤ k_)) v371 x6_1) ∧ Aside0 (Below w.heap.size w w'))
      case atStart => exact ⟨(y370), (0), (wrap64 ((l0.length : Int) - 1)), (by first | rfl | (simp; done) | (simp [*]; done)), (by first | rfl | (simp; done) | (simp [*]; done)), H', ⟨Nat.le_refl _⟩, ⟨by (with_reducible repeat (first | apply Kd.R_alloc | apply Kd.R_drewN | apply Kd.R_drew)); exact Kd.R_mono HO372.out (fun _ hk => hk.1)⟩, ⟨by repeat (first | (with_reducible first | exact HB.out | apply below_alloc | apply pw_below_drewN | apply below_drew1) | exact HB.out)⟩⟩
      case round =>
        clear H'
        try clear p2
        try clear c3
        try clear c3b0
        try clear c3b1
        try clear c4
        try clear c4b0
        try clear c4b1
        try clear c5
        try clear p6
        obtain ⟨x6_1, x7_1, x8_1, rfl, rfl, HA, HK1, HO_6, HB⟩ := hrel
        cases gk with
        | zero => exact absurd HA.out (by simp [spec_byDigit.l0])
        | succ k1 =>
          have H := HA.out
          clear HA
          simp only [spec_byDigit.l0] at H
          by_cases c7 : x8_1 ≥ 0
          · rw [if_pos c7] at H
            have c7b0 : decide (0 ≤ x8_1) = true := decide_eq_true c7
            clear c7
            by_cases c8 : 0 ≤ x8_1
            · rw [if_pos c8] at H
              have c8b0 : decide (0 ≤ x8_1) = true := decide_eq_true c8
              clear c8
              by_cases c9 : x8_1 < (l0.length : Int)
              · rw [if_pos c9] at H
                have c9b0 : decide (x8_1 < (l0.length : Int)) = true := decide_eq_true c9
                clear c9
                by_cases c10 : a1 = 0
                · rw [if_pos c10] at H
                  exact absurd H (by simp)
                · rw [if_neg c10] at H
                  have c10b0 : (a1 == 0) = false := beq_eq_false_iff_ne.mpr c10
                  have c10b1 : (a1 != 0) = true := bne_iff_ne.mpr c10
                  by_cases c11 : x8_1 < (x6_1.length : Int)
                  · rw [if_pos c11] at H
                    have c11b0 : decide (x8_1 < (x6_1.length : Int)) = true := decide_eq_true c11
                    clear c11
                    obtain ⟨y374, hy374⟩ : ∃ y_ : List Int, y_ = (x6_1.set (x8_1 : Int).toNat (wrap64 (Int.tdiv (wrap64 ((wrap64 (x7_1 * 65536)) + (rd l0 x8_1))) a1))) := ⟨_, rfl⟩
                    replace H : (spec_byDigit.l0 k1 l0 a1 y374 (Int.tmod (wrap64 ((wrap64 (x7_1 * 65536)) + (rd l0 x8_1))) a1) (wrap64 (x8_1 - 1))) = some (r1, r2) := by first | (rw [hy374]; with_reducible exact H) | (have H2_ := (Option.bind_some _ _).symm.trans H; rw [hy374]; with_reducible exact H2_) | (have H2_ := (Option.bind_some _ _).symm.trans H; with_reducible exact H2_) | with_reducible exact H | (rw [hy374]; exact H) | exact H
                    have Ny374 := Aside0.mk hy374
                    clear hy374
                    have H' := Aside0.mk H
                    clear H
                    have p373 : 0 ≤ (x8_1 : Int) := of_decide_eq_true (by first | (with_reducible assumption) | assumption)
                    have q373 : x8_1 < (l0.length : Int) := of_decide_eq_true (by first | (with_reducible assumption) | assumption)
                    obtain ⟨ad373, e373, hx373_0⟩ := Kd.at_int HR0.out x8_1 p373 q373
                    cases e373
                    replace hx373_0 := (HB.out.cell (World.block_lt_of_cell? w _ hx373_0)).trans hx373_0
                    replace p373 := eq_true p373
                    replace q373 := eq_true q373
                    have p12 : 0 ≤ (x8_1 : Int) := of_decide_eq_true (by first | (with_reducible assumption) | assumption)
                    have q12 : (x8_1 : Int) < ((x6_1.length : Int) : Int) := of_decide_eq_true (by first | (with_reducible assumption) | assumption)
                    obtain ⟨go12, co12, eo12, gb12, gl12, cl12, HG12⟩ := Kd.R_form HO_6.out (by omega)
                    (first | cases eo12 | (injection eo12 with ea_ en_ ec_; (first | subst ea_ | (injection ea_ with ea_; subst ea_)); subst ec_; clear en_))
                    have GB12 := Aside0.mk gb12
                    have GG12 := Aside0.mk HG12
                    clear gb12 gl12 HG12
                    obtain ⟨hx12_0, hf12_0⟩ := Kd.R_celln 0 HO_6.out (x8_1 : Int) p12 q12
                    replace p12 := eq_true p12
                    replace q12 := eq_true q12
                    have HP13 := Kd.R_putg HO_6.out (x8_1 : Int) (wrap64 (Int.tdiv (wrap64 ((wrap64 (x7_1 * 65536)) + (rd l0 x8_1))) a1))
                    go_wp2_with (first | ((with_reducible refine gate_store (t := 3) (p := 31) rfl ?_); refine store_event (t := 3) (p := 31) (v := ?vo_w14) (w1 := (wr.setCell ⟨go12, (x8_1 : Int).toNat, none⟩ (.int .i64 (wrap64 (Int.tdiv (wrap64 ((wrap64 (x7_1 * 65536)) + (rd l0 x8_1))) a1))))) ?hg ?ho ?hn ?hr ?_; (case ho => rfl); (case hg => rfl); (case hn => rfl); (case hr => first | (go_simp; done) | (go_simp; rfl)); intro w14 hw; have hg : wr.grownBy w14 (some go12) := (by rw [hw]; exact HP13.2); have hp_ : Kd.R (Kd.int .i64) 3 w14 w.heap.size (fun k_ => (w.heap.size ≤ k_)) (.slice (some ⟨go12, 0, none⟩) x6_1.length co12) y374 := (by rw [hw, Ny374.out]; exact HP13.1); clear HP13; have n0_ := Aside0.mk (hp_); have n1_ := Aside0.mk ((by rw [hw]; exact below_set (HB.out) GB12.out : Below w.heap.size w w14)); clear HO_6; clear HB; have HO_6 := n0_; have HB := n1_; clear n0_ n1_; clear hg hw hp_))
                    go_roundg k1
                    case measure => have := HK1.out; omega
                    case rel => exact ⟨(y374), (Int.tmod (wrap64 ((wrap64 (x7_1 * 65536)) + (rd l0 x8_1))) a1), (wrap64 (x8_1 - 1)), (by first | rfl | (simp; done) | (simp [*]; done)), (by first | rfl | (simp; done) | (simp [*]; done)), H', ⟨by have := HK1.out; omega⟩, ⟨by (with_reducible repeat (first | apply Kd.R_alloc | apply Kd.R_drewN | apply Kd.R_drew)); exact HO_6.out⟩, ⟨by repeat (first | (with_reducible first | exact HB.out | apply below_alloc | apply pw_below_drewN | apply below_drew1) | exact HB.out)⟩⟩
                  · rw [if_neg c11] at H
                    exact absurd H (by simp)
              · rw [if_neg c9] at H
                exact absurd H (by simp)
            · rw [if_neg c8] at H
              exact absurd H (by simp)
          · rw [if_neg c7] at H
            have c7b0 : decide (0 ≤ x8_1) = false := decide_eq_false c7
            clear c7
            replace H := Option.bind_eq_some_iff.mp H
            obtain ⟨t375, A150, H⟩ := H
            replace H : (some (t375, x7_1)) = some (r1, r2) := H
            have A15 := Aside0.mk A150
            clear A150
            simp only [Option.some.injEq, Prod.mk.injEq] at H
            obtain ⟨rfl, rfl⟩ := H
            obtain ⟨Ao16, co16, eo16⟩ := Kd.R_slice HO_6.out
            subst eo16
            go_wp2_with (first | ((with_reducible refine gate_callee (f := 35) rfl ?_); refine goesL_ (some 36) rfl rfl Tryz.func35 (by kernel_rfl) rfl #[.slice Ao16 x6_1.length co16] rfl (by (try simp only [List.map_toArray, List.map_cons, List.map_nil]); first | done | rfl | (simp only [List.length_drop, List.length_take]; rfl)) ?_; (with_reducible refine (spec_trim.calls k1 (fun k_ => some k_ = (.slice Ao16 x6_1.length co16 : Value).ownBlock) _ _ x6_1 t375 _ ?side1 A15.out).mono ?_); (case side1 => exact Kd.R_V (Kd.R_tight rfl (HO_6.out))); rintro e w17 ⟨v376, rfl, ho0, hb⟩; refine ⟨_, rfl, ?_⟩; have n0_ := Aside0.mk (Kd.R_below (by (with_reducible repeat (first | apply Kd.R_alloc | apply Kd.R_drewN | apply Kd.R_drew)); exact HO_6.out) hb); have n1_ := Aside0.mk (Kd.V_lower (Kd.V_mono (ok' := fun k_ => (w.heap.size ≤ k_)) ho0 (fun k_ hk_ => Or.elim hk_ (fun hs_ => ((HO_6.out).1 k_ hs_.symm)) (fun hn_ => (Nat.le_trans (below_size (by repeat (first | (with_reducible first | exact HB.out | apply below_alloc | apply pw_below_drewN | apply below_drew1) | exact HB.out))) hn_)))) (below_size (by repeat (first | (with_reducible first | exact HB.out | apply below_alloc | apply pw_below_drewN | apply below_drew1) | exact HB.out)))); have n2_ := Aside0.mk (below_step (by repeat (first | (with_reducible first | exact HB.out | apply below_alloc | apply pw_below_drewN | apply below_drew1) | exact HB.out)) hb); clear HO_6; clear HB; have HO_6 := n0_; have HO377 := n1_; have HB := n2_; clear n0_ n1_ n2_; (try clear hb); (try clear hb2); (try clear hk); (try clear hi); (try clear ho0)))
            go_ret2
            exact ⟨_, by first | rfl | (simp [errW_none, errW_some] <;> rfl) | (simp [*, errW_none, errW_some] <;> rfl), by (with_reducible repeat (first | apply Kd.V_alloc | apply Kd.V_drewN | apply Kd.V_drew)); exact HO377.out, by repeat (first | (with_reducible first | exact HB.out | apply below_alloc | apply pw_below_drewN | apply below_drew1) | exact HB.out)⟩
    · rw [if_neg c4] at H
      exact absurd H (by simp)
  · rw [if_neg c3] at H
    exact absurd H (by simp)

end Go.Proofs.YtnbnfjpecgbnpaaGreatDoor.Sp
