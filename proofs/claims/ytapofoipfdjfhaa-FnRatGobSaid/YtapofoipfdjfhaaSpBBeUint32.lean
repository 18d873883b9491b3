/-
  bigall_beUint32: its plain function and its contract, as printed (print.sh) for this seat.
-/
import Derived.Test.YtapofoipfdjfhaaSp0
namespace Go.Proofs.Ytapofoipfdjfhaa.Sp
open Go.RowKit Go.Proofs.YtapofoipfdjfhaaW.PrintWords Go.Proofs.YtapofoipfdjfhaaW.PrintLast Go.Proofs.YtapofoipfdjfhaaW.PrintMore
attribute [local go_sem] max2_int min2_int max_two min_two max_three min_three max_four min_four
set_option linter.unusedVariables false
set_option linter.unusedSimpArgs false

/-! ### bigall_beUint32: function 52 -/
def bigall_beUint32.f (l0 : List Int) : Option (Int) := if 3 < (l0.length : Int) then (if 2 < (l0.length : Int) then (if 1 < (l0.length : Int) then (if 0 < (l0.length : Int) then (some (Go.bits .or .u32 (Go.bits .or .u32 (Go.bits .or .u32 ((rd l0 3) % 4294967296) ((((rd l0 2) % 4294967296) * 256) % 4294967296)) ((((rd l0 1) % 4294967296) * 65536) % 4294967296)) ((((rd l0 0) % 4294967296) * 16777216) % 4294967296))) else (none)) else (none)) else (none)) else (none)
set_option maxHeartbeats 8000000 in
set_option maxRecDepth 100000 in
theorem bigall_beUint32.calls (A0 : Option Addr) (c0 : Nat) (l0 : List Int) (r : Int) (w : World) (hr0 : Kd.C (Kd.int .u8) w A0 l0.length l0) (hc0 : l0.length ≤ c0) (h : bigall_beUint32.f l0 = some r) :
    Calls Try.prog 52 #[.slice A0 l0.length c0] w fun e w' => e = .returned (.int .u32 r) ∧ Drawn0 w w' := by
  have HR0 := Aside0.mk hr0
  have HC0 := Aside0.mk hc0
  clear hr0 hc0
  have H : (if 3 < (l0.length : Int) then (if 2 < (l0.length : Int) then (if 1 < (l0.length : Int) then (if 0 < (l0.length : Int) then (some (Go.bits .or .u32 (Go.bits .or .u32 (Go.bits .or .u32 ((rd l0 3) % 4294967296) ((((rd l0 2) % 4294967296) * 256) % 4294967296)) ((((rd l0 1) % 4294967296) * 65536) % 4294967296)) ((((rd l0 0) % 4294967296) * 16777216) % 4294967296))) else (none)) else (none)) else (none)) else (none)) = some r := h
  clear h
  by_cases c2 : 3 < (l0.length : Int)
  · rw [if_pos c2] at H
    have c2b0 : decide (3 < (l0.length : Int)) = true := decide_eq_true c2
    have c2b1 : decide (3 < l0.length) = true := decide_eq_true (by omega)
    clear c2
    by_cases c3 : 2 < (l0.length : Int)
    · rw [if_pos c3] at H
      have c3b0 : decide (2 < (l0.length : Int)) = true := decide_eq_true c3
      have c3b1 : decide (2 < l0.length) = true := decide_eq_true (by omega)
      clear c3
      by_cases c4 : 1 < (l0.length : Int)
      · rw [if_pos c4] at H
        have c4b0 : decide (1 < (l0.length : Int)) = true := decide_eq_true c4
        have c4b1 : decide (1 < l0.length) = true := decide_eq_true (by omega)
        clear c4
        by_cases c5 : 0 < (l0.length : Int)
        · rw [if_pos c5] at H
          have c5b0 : decide (0 < (l0.length : Int)) = true := decide_eq_true c5
          have c5b1 : decide (0 < l0.length) = true := decide_eq_true (by omega)
          clear c5
          obtain rfl := Option.some.inj H
          have p294 : 0 ≤ (3 : Int) := (by omega)
          have q294 : 3 < (l0.length : Int) := of_decide_eq_true (by first | (with_reducible assumption) | assumption)
          obtain ⟨ad294, e294, hx294_0⟩ := Kd.at_int HR0.out 3 p294 q294
          cases e294
          (try simp only [show (3 : Int).toNat = 3 from rfl, Nat.reduceMul, Nat.reduceEqDiff, Go.Addr.add, ↓reduceIte] at hx294_0)
          have qi294 : (3 < l0.length) = True := eq_true (by omega)
          (try rw [show ((3 : Int)).toNat = 3 from rfl] at hx294_0)
          replace p294 := eq_true p294
          replace q294 := eq_true q294
          have p295 : 0 ≤ (3 : Int) := (by omega)
          have q295 : 3 < (l0.length : Int) := of_decide_eq_true (by first | (with_reducible assumption) | assumption)
          obtain ⟨ad295, e295, hx295_0⟩ := Kd.at_int HR0.out 3 p295 q295
          obtain rfl : ad294 = ad295 := (by injection e295)
          (try simp only [show (3 : Int).toNat = 3 from rfl, Nat.reduceMul, Nat.reduceEqDiff, Go.Addr.add, ↓reduceIte] at hx295_0)
          have qi295 : (3 < l0.length) = True := eq_true (by omega)
          (try rw [show ((3 : Int)).toNat = 3 from rfl] at hx295_0)
          replace p295 := eq_true p295
          replace q295 := eq_true q295
          have p296 : 0 ≤ (2 : Int) := (by omega)
          have q296 : 2 < (l0.length : Int) := of_decide_eq_true (by first | (with_reducible assumption) | assumption)
          obtain ⟨ad296, e296, hx296_0⟩ := Kd.at_int HR0.out 2 p296 q296
          obtain rfl : ad294 = ad296 := (by injection e296)
          (try simp only [show (2 : Int).toNat = 2 from rfl, Nat.reduceMul, Nat.reduceEqDiff, Go.Addr.add, ↓reduceIte] at hx296_0)
          have qi296 : (2 < l0.length) = True := eq_true (by omega)
          (try rw [show ((2 : Int)).toNat = 2 from rfl] at hx296_0)
          replace p296 := eq_true p296
          replace q296 := eq_true q296
          have p297 : 0 ≤ (1 : Int) := (by omega)
          have q297 : 1 < (l0.length : Int) := of_decide_eq_true (by first | (with_reducible assumption) | assumption)
          obtain ⟨ad297, e297, hx297_0⟩ := Kd.at_int HR0.out 1 p297 q297
          obtain rfl : ad294 = ad297 := (by injection e297)
          (try simp only [show (1 : Int).toNat = 1 from rfl, Nat.reduceMul, Nat.reduceEqDiff, Go.Addr.add, ↓reduceIte] at hx297_0)
          have qi297 : (1 < l0.length) = True := eq_true (by omega)
          (try rw [show ((1 : Int)).toNat = 1 from rfl] at hx297_0)
          replace p297 := eq_true p297
          replace q297 := eq_true q297
          have p298 : 0 ≤ (0 : Int) := (by omega)
          have q298 : 0 < (l0.length : Int) := of_decide_eq_true (by first | (with_reducible assumption) | assumption)
          obtain ⟨ad298, e298, hx298_0⟩ := Kd.at_int HR0.out 0 p298 q298
          obtain rfl : ad294 = ad298 := (by injection e298)
          have qi298 : (0 < l0.length) = True := eq_true (by omega)
          (try rw [show ((0 : Int)).toNat = 0 from rfl] at hx298_0)
          (try rw [Addr.add_zero'] at hx298_0)
          replace p298 := eq_true p298
          replace q298 := eq_true q298
          go_enter Try.func52, Try.ntmps52
          go_wp2
          repeat (go_quiet (fail); try go_wp2)
          go_ret
          exact ⟨by first | rfl | (simp; done) | (simp [*]; done), by repeat (first | exact Drawn0.refl _ | apply Drawn0.step)⟩
        · rw [if_neg c5] at H
          exact absurd H (by simp)
      · rw [if_neg c4] at H
        exact absurd H (by simp)
    · rw [if_neg c3] at H
      exact absurd H (by simp)
  · rw [if_neg c2] at H
    exact absurd H (by simp)

end Go.Proofs.Ytapofoipfdjfhaa.Sp
