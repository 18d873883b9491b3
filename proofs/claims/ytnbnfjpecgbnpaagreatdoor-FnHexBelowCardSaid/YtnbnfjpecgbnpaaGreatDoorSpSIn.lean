/-
  spec_In: its plain function and its contract, as printed (print.sh) for this seat.
-/
import Derived.Test.YtnbnfjpecgbnpaaGreatDoorSp0
import Derived.Test.YtnbnfjpecgbnpaaGreatDoorSpSByDigit
namespace Go.Proofs.YtnbnfjpecgbnpaaGreatDoor.Sp
open Go.RowKit Go.Proofs.YtnbnfjpecgbnpaaGreatDoorW.PrintWords Go.Proofs.YtnbnfjpecgbnpaaGreatDoorW.PrintLast Go.Proofs.YtnbnfjpecgbnpaaGreatDoorW.PrintMore
attribute [local go_sem] max2_int min2_int max_two min_two max_three min_three max_four min_four
set_option linter.unusedVariables false
set_option linter.unusedSimpArgs false

/-! ### spec_In: function 36 -/
def spec_In.l0 : Nat → List Int → Int → ByteArray → Option (ByteArray)
  | 0, _, _, _ => none
  | k + 1, x0, x1, x5 => if (x0.length : Int) > 0 then ((spec_byDigit.f k x0 x1).bind fun bt378 => (if 0 ≤ bt378.2 then (if bt378.2 ≤ (wrap64 (bt378.2 + 1)) then (if (wrap64 (bt378.2 + 1)) ≤ 16 then (if ((⟨#[48, 49, 50, 51, 52, 53, 54, 55, 56, 57, 97, 98, 99, 100, 101, 102]⟩ : ByteArray).extract (bt378.2 : Int).toNat ((wrap64 (bt378.2 + 1)) : Int).toNat).size + x5.size ≤ 9223372036854775807 then (spec_In.l0 k bt378.1 x1 (((⟨#[48, 49, 50, 51, 52, 53, 54, 55, 56, 57, 97, 98, 99, 100, 101, 102]⟩ : ByteArray).extract (bt378.2 : Int).toNat ((wrap64 (bt378.2 + 1)) : Int).toNat) ++ x5)) else (none)) else (none)) else (none)) else (none))) else (if x5.toList = ([] : List UInt8) then (some (⟨#[48]⟩ : ByteArray)) else (some x5))
def spec_In.f (k : Nat) (l0 : List Int) (a1 : Int) : Option (ByteArray) := spec_In.l0 k l0 a1 (⟨#[]⟩ : ByteArray)
theorem spec_In.mono_l : ∀ k, (∀ y0 y1 y2, LeO (spec_In.l0 k y0 y1 y2) (spec_In.l0 (k + 1) y0 y1 y2))
  | 0 => fun _ _ _ r h => by simp [spec_In.l0] at h
  | k + 1 => by
    have ih0 := spec_In.mono_l k
    · intro y0 y1 y2
      unfold spec_In.l0
      repeat' first
      | (with_reducible exact ih0 _ _ _)
      | (with_reducible exact spec_byDigit.mono _ _ _)
      | (with_reducible exact LeO.refl _)
      | (with_reducible exact LeO.none _)
      | (with_reducible refine LeO.ite ?_ ?_)
      | (with_reducible refine LeO.bind ?_ (fun _ => ?_))
      | exact ih0 _ _ _
      | exact spec_byDigit.mono _ _ _
      | exact LeO.none _
      | refine LeO.ite ?_ ?_
      | refine LeO.bind ?_ (fun _ => ?_)
theorem spec_In.mono : ∀ a0 a1 k, LeO (spec_In.f k a0 a1) (spec_In.f (k + 1) a0 a1) := by
  intro a0 a1 k
  have ih0 := spec_In.mono_l k
  unfold spec_In.f
  repeat' first
      | (with_reducible exact ih0 _ _ _)
      | (with_reducible exact spec_byDigit.mono _ _ _)
      | (with_reducible exact LeO.refl _)
      | (with_reducible exact LeO.none _)
      | (with_reducible refine LeO.ite ?_ ?_)
      | (with_reducible refine LeO.bind ?_ (fun _ => ?_))
      | exact ih0 _ _ _
      | exact spec_byDigit.mono _ _ _
      | exact LeO.none _
      | refine LeO.ite ?_ ?_
      | refine LeO.bind ?_ (fun _ => ?_)
set_option maxHeartbeats 8000000 in
set_option maxRecDepth 100000 in
theorem spec_In.calls (k : Nat) (P0_ : Nat → Prop) (A0 : Option Addr) (c0 : Nat) (l0 : List Int) (a1 : Int) (r : ByteArray) (w : World) (hs0 : Kd.V (Kd.int .i64) 3 w w.heap.size (fun k_ => P0_ k_) (.slice A0 l0.length c0) l0) (h : spec_In.f k l0 a1 = some r) :
    Calls Tryz.prog 36 #[.slice A0 l0.length c0, .int .i64 a1] w fun e w' => e = .returned (.string r) ∧ Below w.heap.size w w' := by
  have HO0 := Aside0.mk (show Kd.V (Kd.int .i64) 3 w w.heap.size (fun k_ => (P0_ k_ ∨ w.heap.size ≤ k_)) (.slice A0 l0.length c0) l0 from Kd.V_mono hs0 (fun k_ hk => .inl hk))
  have HB := Aside0.mk (Below.refl w.heap.size w)
  have H : (spec_In.l0 k l0 a1 (⟨#[]⟩ : ByteArray)) = some r := h
  clear h
  have H' := Aside0.mk H
  clear H
  go_enter Tryz.func36, Tryz.ntmps36
  go_wp2
  go_loopg [0, 5] k (fun kq v0 v5 w' => ∃ (x0_1 : List Int) (x5_1 : ByteArray), v5 = .string x5_1 ∧ Aside0 (spec_In.l0 kq x0_1 a1 x5_1 = some r) ∧ Aside0 (kq ≤ k) ∧ Aside0 (Kd.V (Kd.int .i64) 3 w' w.heap.size (fun k_ => (P0_ k_ ∨ w.heap.size ≤ k_)) v0 x0_1) ∧ Aside0 (Below w.heap.size w w'))
  case atStart => exact ⟨(l0), ((⟨#[]⟩ : ByteArray)), (by first | rfl | (simp; done) | (simp [*]; done)), H', ⟨Nat.le_refl _⟩, ⟨by (with_reducible repeat (first | apply Kd.V_alloc | apply Kd.V_drewN | apply Kd.V_drew)); exact HO0.out⟩, ⟨by repeat (first | (with_reducible first | exact HB.out | apply below_alloc | apply pw_below_drewN | apply below_drew1) | exact HB.out)⟩⟩
  case round =>
    clear H'
    try clear p2
    obtain ⟨x0_1, x5_1, rfl, HA, HK1, HO_0, HB⟩ := hrel
    cases gk with
    | zero => exact absurd HA.out (by simp [spec_In.l0])
    | succ k1 =>
      have H := HA.out
      clear HA
      simp only [spec_In.l0] at H
      by_cases c3 : (x0_1.length : Int) > 0
      · rw [if_pos c3] at H
        have c3b0 : decide (0 < (x0_1.length : Int)) = true := decide_eq_true c3
        have c3b1 : decide (0 < x0_1.length) = true := decide_eq_true (by omega)
        clear c3
        replace H := Option.bind_eq_some_iff.mp H
        obtain ⟨⟨t378, t381⟩, A40, H⟩ := H
        replace H : (if 0 ≤ t381 then (if t381 ≤ (wrap64 (t381 + 1)) then (if (wrap64 (t381 + 1)) ≤ 16 then (if ((⟨#[48, 49, 50, 51, 52, 53, 54, 55, 56, 57, 97, 98, 99, 100, 101, 102]⟩ : ByteArray).extract (t381 : Int).toNat ((wrap64 (t381 + 1)) : Int).toNat).size + x5_1.size ≤ 9223372036854775807 then (spec_In.l0 k1 t378 a1 (((⟨#[48, 49, 50, 51, 52, 53, 54, 55, 56, 57, 97, 98, 99, 100, 101, 102]⟩ : ByteArray).extract (t381 : Int).toNat ((wrap64 (t381 + 1)) : Int).toNat) ++ x5_1)) else (none)) else (none)) else (none)) else (none)) = some r := H
        have A4 := Aside0.mk A40
        clear A40
        by_cases c5 : 0 ≤ t381
        · rw [if_pos c5] at H
          have c5b0 := eq_true c5
          have c5b1 : decide (0 ≤ t381) = true := decide_eq_true c5
          clear c5
          by_cases c6 : t381 ≤ (wrap64 (t381 + 1))
          · rw [if_pos c6] at H
            have c6b0 := eq_true c6
            have c6b1 : decide (t381 ≤ (wrap64 (t381 + 1))) = true := decide_eq_true c6
            by_cases c7 : (wrap64 (t381 + 1)) ≤ 16
            · rw [if_pos c7] at H
              have c7b0 := eq_true c7
              have c7b1 : decide ((wrap64 (t381 + 1)) ≤ 16) = true := decide_eq_true c7
              by_cases c8 : ((⟨#[48, 49, 50, 51, 52, 53, 54, 55, 56, 57, 97, 98, 99, 100, 101, 102]⟩ : ByteArray).extract (t381 : Int).toNat ((wrap64 (t381 + 1)) : Int).toNat).size + x5_1.size ≤ 9223372036854775807
              · rw [if_pos c8] at H
                have c8b0 := eq_true c8
                have c8b1 : decide (((⟨#[48, 49, 50, 51, 52, 53, 54, 55, 56, 57, 97, 98, 99, 100, 101, 102]⟩ : ByteArray).extract (t381 : Int).toNat ((wrap64 (t381 + 1)) : Int).toNat).size + x5_1.size ≤ 9223372036854775807) = true := decide_eq_true c8
                try have c8b2 : (9223372036854775807 < ((⟨#[48, 49, 50, 51, 52, 53, 54, 55, 56, 57, 97, 98, 99, 100, 101, 102]⟩ : ByteArray).extract (t381 : Int).toNat ((wrap64 (t381 + 1)) : Int).toNat).size + x5_1.size) = False := eq_false (Nat.not_lt.2 c8)
                have H' := Aside0.mk H
                clear H
                obtain ⟨Ao9, co9, eo9⟩ := Kd.V_slice HO_0.out
                subst eo9
                go_wp2_with (first | ((with_reducible refine gate_callee (f := 57) rfl ?_); refine goesL_ (some 14) rfl rfl Tryz.func57 (by kernel_rfl) rfl #[.slice Ao9 x0_1.length co9, .int .i64 a1] rfl (by (try simp only [List.map_toArray, List.map_cons, List.map_nil]); first | done | rfl | (simp only [List.length_drop, List.length_take]; rfl)) ?_; (with_reducible refine (spec_byDigit.calls k1 _ _ x0_1 a1 t378 t381 _ ?side1 ?side2 A4.out).mono ?_); (case side1 => repeat (first | exact (Kd.V_reads' HO_0.out).2.2 | (with_reducible refine Kd.C_alloc ?_ _) | (with_reducible refine Kd.C_drewN ?_ _) | (with_reducible refine Kd.C_drew ?_))); (case side2 => exact (Kd.V_reads' HO_0.out).2.1); rintro e w10 ⟨v379, rfl, ho0, hb⟩; refine ⟨_, rfl, ?_⟩; have n0_ := Aside0.mk (Kd.V_below (by (with_reducible repeat (first | apply Kd.V_alloc | apply Kd.V_drewN | apply Kd.V_drew)); exact HO_0.out) hb); have n1_ := Aside0.mk (Kd.V_lower (Kd.V_mono (ok' := fun k_ => (P0_ k_ ∨ w.heap.size ≤ k_)) ho0 (fun k_ hk_ => (.inr (Nat.le_trans (below_size (by repeat (first | (with_reducible first | exact HB.out | apply below_alloc | apply pw_below_drewN | apply below_drew1) | exact HB.out))) hk_)))) (below_size (by repeat (first | (with_reducible first | exact HB.out | apply below_alloc | apply pw_below_drewN | apply below_drew1) | exact HB.out)))); have n2_ := Aside0.mk (below_step (by repeat (first | (with_reducible first | exact HB.out | apply below_alloc | apply pw_below_drewN | apply below_drew1) | exact HB.out)) hb); clear HO_0; clear HB; have HO_0 := n0_; have HO380 := n1_; have HB := n2_; clear n0_ n1_ n2_; (try clear hb); (try clear hb2); (try clear hk); (try clear hi); (try clear ho0)))
                go_roundg k1
                case measure => have := HK1.out; omega
                case rel => exact ⟨(t378), (((⟨#[48, 49, 50, 51, 52, 53, 54, 55, 56, 57, 97, 98, 99, 100, 101, 102]⟩ : ByteArray).extract (t381 : Int).toNat ((wrap64 (t381 + 1)) : Int).toNat) ++ x5_1), (by first | rfl | (simp; done) | (simp [*]; done)), H', ⟨by have := HK1.out; omega⟩, ⟨by (with_reducible repeat (first | apply Kd.V_alloc | apply Kd.V_drewN | apply Kd.V_drew)); exact HO380.out⟩, ⟨by repeat (first | (with_reducible first | exact HB.out | apply below_alloc | apply pw_below_drewN | apply below_drew1) | exact HB.out)⟩⟩
              · rw [if_neg c8] at H
                exact absurd H (by simp)
            · rw [if_neg c7] at H
              exact absurd H (by simp)
          · rw [if_neg c6] at H
            exact absurd H (by simp)
        · rw [if_neg c5] at H
          exact absurd H (by simp)
      · rw [if_neg c3] at H
        have c3b0 : decide (0 < (x0_1.length : Int)) = false := decide_eq_false c3
        have c3b1 : decide (0 < x0_1.length) = false := decide_eq_false (by omega)
        clear c3
        by_cases c11 : x5_1.toList = ([] : List UInt8)
        · rw [if_pos c11] at H
          have c11b0 : (x5_1.toList == ([] : List UInt8)) = true := beq_iff_eq.mpr c11
          have c11b1 : (x5_1.toList != ([] : List UInt8)) = false := bne_eq_false_iff_eq.mpr c11
          clear c11
          obtain rfl := Option.some.inj H
          obtain ⟨Ao12, co12, eo12⟩ := Kd.V_slice HO_0.out
          subst eo12
          go_wp2
          go_ret
          exact ⟨by first | rfl | (simp [errW_none, errW_some] <;> rfl) | (simp [*, errW_none, errW_some] <;> rfl), by repeat (first | (with_reducible first | exact HB.out | apply below_alloc | apply pw_below_drewN | apply below_drew1) | exact HB.out)⟩
        · rw [if_neg c11] at H
          have c11b0 : (x5_1.toList == ([] : List UInt8)) = false := beq_eq_false_iff_ne.mpr c11
          have c11b1 : (x5_1.toList != ([] : List UInt8)) = true := bne_iff_ne.mpr c11
          obtain rfl := Option.some.inj H
          obtain ⟨Ao13, co13, eo13⟩ := Kd.V_slice HO_0.out
          subst eo13
          go_wp2
          go_ret
          exact ⟨by first | rfl | (simp [errW_none, errW_some] <;> rfl) | (simp [*, errW_none, errW_some] <;> rfl), by repeat (first | (with_reducible first | exact HB.out | apply below_alloc | apply pw_below_drewN | apply below_drew1) | exact HB.out)⟩

end Go.Proofs.YtnbnfjpecgbnpaaGreatDoor.Sp
