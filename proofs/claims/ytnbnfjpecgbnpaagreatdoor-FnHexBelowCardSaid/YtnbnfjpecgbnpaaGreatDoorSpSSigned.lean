/-
  spec_Signed: its plain function and its contract, as printed (print.sh) for this seat.
-/
import Derived.Test.YtnbnfjpecgbnpaaGreatDoorSp0
import Derived.Test.YtnbnfjpecgbnpaaGreatDoorSpSDigits
import Derived.Test.YtnbnfjpecgbnpaaGreatDoorSpSSmall
namespace Go.Proofs.YtnbnfjpecgbnpaaGreatDoor.Sp
open Go.RowKit Go.Proofs.YtnbnfjpecgbnpaaGreatDoorW.PrintWords Go.Proofs.YtnbnfjpecgbnpaaGreatDoorW.PrintLast Go.Proofs.YtnbnfjpecgbnpaaGreatDoorW.PrintMore
attribute [local go_sem] max2_int min2_int max_two min_two max_three min_three max_four min_four
set_option linter.unusedVariables false
set_option linter.unusedSimpArgs false

/-! ### spec_Signed: function 24 -/
def spec_Signed.f (k : Nat) (a0 : Int) : Option (ByteArray) := if a0 < 0 then ((spec_Small.f k (wrap64 (-a0))).bind fun t372 => ((spec_Digits.f k t372).bind fun t375 => (if 1 + t375.size ≤ 9223372036854775807 then (some ((⟨#[45]⟩ : ByteArray) ++ t375)) else (none)))) else ((spec_Small.f k a0).bind fun t376 => ((spec_Digits.f k t376).bind fun t379 => (if 1 + t379.size ≤ 9223372036854775807 then (some ((⟨#[43]⟩ : ByteArray) ++ t379)) else (none))))
theorem spec_Signed.mono : ∀ a0 k, LeO (spec_Signed.f k a0) (spec_Signed.f (k + 1) a0) := by
  intro a0 k
  unfold spec_Signed.f
  repeat' first
      | (with_reducible exact spec_Digits.mono _ _)
      | (with_reducible exact spec_Small.mono _ _)
      | (with_reducible exact LeO.refl _)
      | (with_reducible exact LeO.none _)
      | (with_reducible refine LeO.ite ?_ ?_)
      | (with_reducible refine LeO.bind ?_ (fun _ => ?_))
      | exact spec_Digits.mono _ _
      | exact spec_Small.mono _ _
      | exact LeO.none _
      | refine LeO.ite ?_ ?_
      | refine LeO.bind ?_ (fun _ => ?_)
set_option maxHeartbeats 8000000 in
set_option maxRecDepth 100000 in
theorem spec_Signed.calls (k : Nat) (a0 : Int) (r : ByteArray) (w : World) (h : spec_Signed.f k a0 = some r) :
    Calls Tryz.prog 24 #[.int .i64 a0] w fun e w' => e = .returned (.string r) ∧ Below w.heap.size w w' := by
  have HB := Aside0.mk (Below.refl w.heap.size w)
  have H : (if a0 < 0 then ((spec_Small.f k (wrap64 (-a0))).bind fun t372 => ((spec_Digits.f k t372).bind fun t375 => (if 1 + t375.size ≤ 9223372036854775807 then (some ((⟨#[45]⟩ : ByteArray) ++ t375)) else (none)))) else ((spec_Small.f k a0).bind fun t376 => ((spec_Digits.f k t376).bind fun t379 => (if 1 + t379.size ≤ 9223372036854775807 then (some ((⟨#[43]⟩ : ByteArray) ++ t379)) else (none))))) = some r := h
  clear h
  by_cases c2 : a0 < 0
  · rw [if_pos c2] at H
    have c2b0 : decide (a0 < 0) = true := decide_eq_true c2
    clear c2
    replace H := Option.bind_eq_some_iff.mp H
    obtain ⟨t372, A30, H⟩ := H
    replace H : ((spec_Digits.f k t372).bind fun t375 => (if 1 + t375.size ≤ 9223372036854775807 then (some ((⟨#[45]⟩ : ByteArray) ++ t375)) else (none))) = some r := H
    have A3 := Aside0.mk A30
    clear A30
    replace H := Option.bind_eq_some_iff.mp H
    obtain ⟨t375, A40, H⟩ := H
    replace H : (if 1 + t375.size ≤ 9223372036854775807 then (some ((⟨#[45]⟩ : ByteArray) ++ t375)) else (none)) = some r := H
    have A4 := Aside0.mk A40
    clear A40
    by_cases c5 : 1 + t375.size ≤ 9223372036854775807
    · rw [if_pos c5] at H
      have c5b0 := eq_true c5
      have c5b1 : decide (1 + t375.size ≤ 9223372036854775807) = true := decide_eq_true c5
      try have c5b2 : (9223372036854775807 < 1 + t375.size) = False := eq_false (Nat.not_lt.2 c5)
      obtain rfl := Option.some.inj H
      go_enter Tryz.func24, Tryz.ntmps24
      go_wp2_with (first | ((with_reducible refine gate_callee (f := 38) rfl ?_); refine goesL_ (some 7) rfl rfl Tryz.func38 (by kernel_rfl) rfl #[.int .i64 (wrap64 (-a0))] rfl (by (try simp only [List.map_toArray, List.map_cons, List.map_nil]); first | done | rfl | (simp only [List.length_drop, List.length_take]; rfl)) ?_; (with_reducible refine (spec_Small.calls k (wrap64 (-a0)) t372 _ A3.out).mono ?_); rintro e w6 ⟨v373, rfl, ho0, hb⟩; refine ⟨_, rfl, ?_⟩; have n0_ := Aside0.mk (Kd.R_lower ho0 (below_size (by repeat (first | (with_reducible first | exact HB.out | apply below_alloc | apply pw_below_drewN | apply below_drew1) | exact HB.out)))); have n1_ := Aside0.mk (below_step (by repeat (first | (with_reducible first | exact HB.out | apply below_alloc | apply pw_below_drewN | apply below_drew1) | exact HB.out)) hb); clear HB; have HO374 := n0_; have HB := n1_; clear n0_ n1_; (try clear hb); (try clear hb2); (try clear hk); (try clear hi); (try clear ho0); obtain ⟨Ao7, co7, eo7⟩ := Kd.R_slice HO374.out; subst eo7) | ((with_reducible refine gate_callee (f := 37) rfl ?_); refine goesL_ (some 8) rfl rfl Tryz.func37 (by kernel_rfl) rfl #[.slice Ao7 t372.length co7] rfl (by (try simp only [List.map_toArray, List.map_cons, List.map_nil]); first | done | rfl | (simp only [List.length_drop, List.length_take]; rfl)) ?_; (with_reducible refine (spec_Digits.calls k (fun k_ => some k_ = (.slice Ao7 t372.length co7 : Value).ownBlock) _ _ t372 t375 _ ?side1 A4.out).mono ?_); (case side1 => exact Kd.R_V (Kd.R_tight rfl (HO374.out))); rintro e w8 ⟨rfl, hb⟩; refine ⟨_, rfl, ?_⟩; have n0_ := Aside0.mk (Kd.R_below (by (with_reducible repeat (first | apply Kd.R_alloc | apply Kd.R_drewN | apply Kd.R_drew)); exact HO374.out) hb); have n1_ := Aside0.mk (below_step (by repeat (first | (with_reducible first | exact HB.out | apply below_alloc | apply pw_below_drewN | apply below_drew1) | exact HB.out)) hb); clear HO374; clear HB; have HO374 := n0_; have HB := n1_; clear n0_ n1_; (try clear hb); (try clear hb2); (try clear hk); (try clear hi)))
      go_ret
      exact ⟨by first | rfl | (simp [errW_none, errW_some] <;> rfl) | (simp [*, errW_none, errW_some] <;> rfl), by repeat (first | (with_reducible first | exact HB.out | apply below_alloc | apply pw_below_drewN | apply below_drew1) | exact HB.out)⟩
    · rw [if_neg c5] at H
      exact absurd H (by simp)
  · rw [if_neg c2] at H
    have c2b0 : decide (a0 < 0) = false := decide_eq_false c2
    clear c2
    replace H := Option.bind_eq_some_iff.mp H
    obtain ⟨t376, A90, H⟩ := H
    replace H : ((spec_Digits.f k t376).bind fun t379 => (if 1 + t379.size ≤ 9223372036854775807 then (some ((⟨#[43]⟩ : ByteArray) ++ t379)) else (none))) = some r := H
    have A9 := Aside0.mk A90
    clear A90
    replace H := Option.bind_eq_some_iff.mp H
    obtain ⟨t379, A100, H⟩ := H
    replace H : (if 1 + t379.size ≤ 9223372036854775807 then (some ((⟨#[43]⟩ : ByteArray) ++ t379)) else (none)) = some r := H
    have A10 := Aside0.mk A100
    clear A100
    by_cases c11 : 1 + t379.size ≤ 9223372036854775807
    · rw [if_pos c11] at H
      have c11b0 := eq_true c11
      have c11b1 : decide (1 + t379.size ≤ 9223372036854775807) = true := decide_eq_true c11
      try have c11b2 : (9223372036854775807 < 1 + t379.size) = False := eq_false (Nat.not_lt.2 c11)
      obtain rfl := Option.some.inj H
      go_enter Tryz.func24, Tryz.ntmps24
      go_wp2_with (first | ((with_reducible refine gate_callee (f := 38) rfl ?_); refine goesL_ (some 11) rfl rfl Tryz.func38 (by kernel_rfl) rfl #[.int .i64 a0] rfl (by (try simp only [List.map_toArray, List.map_cons, List.map_nil]); first | done | rfl | (simp only [List.length_drop, List.length_take]; rfl)) ?_; (with_reducible refine (spec_Small.calls k a0 t376 _ A9.out).mono ?_); rintro e w12 ⟨v377, rfl, ho0, hb⟩; refine ⟨_, rfl, ?_⟩; have n0_ := Aside0.mk (Kd.R_lower ho0 (below_size (by repeat (first | (with_reducible first | exact HB.out | apply below_alloc | apply pw_below_drewN | apply below_drew1) | exact HB.out)))); have n1_ := Aside0.mk (below_step (by repeat (first | (with_reducible first | exact HB.out | apply below_alloc | apply pw_below_drewN | apply below_drew1) | exact HB.out)) hb); clear HB; have HO378 := n0_; have HB := n1_; clear n0_ n1_; (try clear hb); (try clear hb2); (try clear hk); (try clear hi); (try clear ho0); obtain ⟨Ao13, co13, eo13⟩ := Kd.R_slice HO378.out; subst eo13) | ((with_reducible refine gate_callee (f := 37) rfl ?_); refine goesL_ (some 12) rfl rfl Tryz.func37 (by kernel_rfl) rfl #[.slice Ao13 t376.length co13] rfl (by (try simp only [List.map_toArray, List.map_cons, List.map_nil]); first | done | rfl | (simp only [List.length_drop, List.length_take]; rfl)) ?_; (with_reducible refine (spec_Digits.calls k (fun k_ => some k_ = (.slice Ao13 t376.length co13 : Value).ownBlock) _ _ t376 t379 _ ?side1 A10.out).mono ?_); (case side1 => exact Kd.R_V (Kd.R_tight rfl (HO378.out))); rintro e w14 ⟨rfl, hb⟩; refine ⟨_, rfl, ?_⟩; have n0_ := Aside0.mk (Kd.R_below (by (with_reducible repeat (first | apply Kd.R_alloc | apply Kd.R_drewN | apply Kd.R_drew)); exact HO378.out) hb); have n1_ := Aside0.mk (below_step (by repeat (first | (with_reducible first | exact HB.out | apply below_alloc | apply pw_below_drewN | apply below_drew1) | exact HB.out)) hb); clear HO378; clear HB; have HO378 := n0_; have HB := n1_; clear n0_ n1_; (try clear hb); (try clear hb2); (try clear hk); (try clear hi)))
      go_ret
      exact ⟨by first | rfl | (simp [errW_none, errW_some] <;> rfl) | (simp [*, errW_none, errW_some] <;> rfl), by repeat (first | (with_reducible first | exact HB.out | apply below_alloc | apply pw_below_drewN | apply below_drew1) | exact HB.out)⟩
    · rw [if_neg c11] at H
      exact absurd H (by simp)

-- NOT PRINTED: function 10 (spec_HexBelow)

end Go.Proofs.YtnbnfjpecgbnpaaGreatDoor.Sp
