/-
  MERGED BY PROGRAM (regroup.py): Vv, DivP, VvC, Nat2, DivC, DivD, DivE, NatAr.
-/
import Derived.Test.YtnbnfjpecgbnpaaGreatDoorGdig
import Derived.Test.YtnbnfjpecgbnpaaGreatDoorGnat
import Derived.BigQuiet
import Derived.Deep.QuietTactic
import Derived.Deep.DeepCutAuto
import Derived.Deep.CutBlock
/-! ## Vv -/
section
namespace Go.Proofs.YtnbnfjpecgbnpaaGreatDoor.Dig

end Go.Proofs.YtnbnfjpecgbnpaaGreatDoor.Dig
end

/-! ## DivP -/
section
namespace Go.Proofs.YtnbnfjpecgbnpaaGreatDoor.Dig
set_option linter.unusedVariables false
/-- A guess of a quotient by the divisor's upper half. -/
structure Est (B u y1 y0 u1 q r : Int) : Prop where
  sum : q * y1 + r = u
  r0 : 0 ≤ r
  ge : (u * B + u1) / (y1 * B + y0) ≤ q
  le : q ≤ B + 1
structure EstH (B u y1 y0 u1 : Int) : Prop where
  B0 : 0 < B
  y1h : B ≤ 2 * y1
  y1l : y1 < B
  y00 : 0 ≤ y0
  y0l : y0 < B
  u10 : 0 ≤ u1
  u1l : u1 < B
  u0 : 0 ≤ u
  ul : u < y1 * B + y0
theorem EstH.y {B u y1 y0 u1 : Int} (h : EstH B u y1 y0 u1) : 0 < y1 * B + y0 := by
  have := h.u0; have := h.ul; omega
theorem EstH.q {B u y1 y0 u1 : Int} (h : EstH B u y1 y0 u1) : 0 ≤ (u * B + u1) / (y1 * B + y0) ∧ (u * B + u1) / (y1 * B + y0) < B := by
  have hy := h.y
  have h1 := Int.mul_nonneg h.u0 (Int.le_of_lt h.B0)
  refine ⟨Int.ediv_nonneg (by have := h.u10; omega) (Int.le_of_lt hy), Int.ediv_lt_of_lt_mul hy ?_⟩
  have h2 := Int.mul_le_mul_of_nonneg_right (show u + 1 ≤ y1 * B + y0 by have := h.ul; omega) (Int.le_of_lt h.B0)
  rw [Int.add_mul, Int.one_mul] at h2
  rw [Int.mul_comm B]
  have := h.u1l
  omega
/-- The true quotient times the divisor. -/
theorem EstH.t {B u y1 y0 u1 : Int} (h : EstH B u y1 y0 u1) : (u * B + u1) / (y1 * B + y0) * (y1 * B + y0) ≤ u * B + u1 := Int.ediv_mul_le _ (Int.ne_of_gt h.y)
theorem Est.gt {B u y1 y0 u1 q r : Int} (h : EstH B u y1 y0 u1) (e : Est B u y1 y0 u1 q r) (hc : B ≤ q ∨ B * r + u1 < q * y0) : (u * B + u1) / (y1 * B + y0) ≤ q - 1 := by
  have hq := h.q
  rcases hc with hc | hc
  · omega
  · have hy := h.y
    have h2 : (u * B + u1) / (y1 * B + y0) < q := by
      apply Int.ediv_lt_of_lt_mul hy
      have h1 : q * y1 * B + r * B = u * B := by rw [← Int.add_mul, e.sum]
      rw [Int.mul_add, ← Int.mul_assoc]
      rw [Int.mul_comm B r] at hc
      omega
    omega
theorem Est.next {B u y1 y0 u1 q r : Int} (h : EstH B u y1 y0 u1) (e : Est B u y1 y0 u1 q r) (hc : B ≤ q ∨ B * r + u1 < q * y0) : Est B u y1 y0 u1 (q - 1) (r + y1) := by
  have hy1 : 0 < y1 := by have := h.y1h; have := h.B0; omega
  have h1 := e.sum
  refine ⟨by rw [Int.sub_mul, Int.one_mul]; omega, by have := e.r0; omega, e.gt h hc, by have := e.le; omega⟩
/-! ### by a reciprocal -/
end Go.Proofs.YtnbnfjpecgbnpaaGreatDoor.Dig
end

/-! ## VvC -/
section
namespace Go.Proofs.YtnbnfjpecgbnpaaGreatDoor.Sp
open Go.RowKit Go.Proofs.YtnbnfjpecgbnpaaGreatDoorW.PrintWords Go.Proofs.YtnbnfjpecgbnpaaGreatDoorW.PrintLast Go.Proofs.YtnbnfjpecgbnpaaGreatDoorW.PrintMore Go.Proofs.YtnbnfjpecgbnpaaGreatDoor.Dig
set_option linter.unusedVariables false
set_option linter.unusedSimpArgs false
theorem Kept.drewN {S : Nat → Prop} {a w : World} (h : Kept S a w) (n : Nat) : Kept S a (w.drewN n) := ⟨h.os, h.tape, h.output, h.size, h.block⟩
end Go.Proofs.YtnbnfjpecgbnpaaGreatDoor.Sp
end

/-! ## Nat2 -/
section
namespace Go.Proofs.YtnbnfjpecgbnpaaGreatDoor.Sp
open Go.RowKit Go.Proofs.YtnbnfjpecgbnpaaGreatDoorW.PrintWords Go.Proofs.YtnbnfjpecgbnpaaGreatDoorW.PrintLast Go.Proofs.YtnbnfjpecgbnpaaGreatDoorW.PrintMore Go.Proofs.YtnbnfjpecgbnpaaGreatDoor.Dig
set_option linter.unusedVariables false
set_option linter.unusedSimpArgs false

/-- A natural number at the head of a block of P, or nil. -/
def NR (w : World) (P : Nat → Prop) (z : Value) (v : Int) : Prop :=
  (z = .slice none 0 0 ∧ v = 0) ∨ ∃ mb L R, z = .slice (some ⟨mb, 0, none⟩) L.length (L ++ R).length ∧ hp w mb = some (.cells (u64s (L ++ R)) 101 (0, 0)) ∧ okd BW (L ++ R) ∧ Cn BW L ∧ ev BW L = v ∧ P mb ∧ (L ++ R).length ≤ 1000000
theorem NR.nil (w : World) (P : Nat → Prop) : NR w P (.slice none 0 0) 0 := .inl ⟨rfl, rfl⟩
theorem NR.kept {w w' : World} {P S : Nat → Prop} {z : Value} {v : Int} (h : NR w P z v) (hk : Kept S w w') (hT : ∀ i, P i → ¬ S i) : NR w' P z v := by
  rcases h with h | ⟨mb, L, R, h1, h2, h3, h4, h5, h6, h7⟩
  · exact .inl h
  · exact .inr ⟨mb, L, R, h1, hp_kept h2 hk (hT mb h6), h3, h4, h5, h6, h7⟩
theorem NR.below {w w' : World} {P : Nat → Prop} {z : Value} {v : Int} (h : NR w P z v) (hb : Below w.heap.size w w') : NR w' P z v := h.kept (Kept.of_below (S := fun _ => False) hb) (fun _ _ h => h)
theorem NR.mono {w : World} {P Q : Nat → Prop} {z : Value} {v : Int} (h : NR w P z v) (hQ : ∀ i, P i → Q i) : NR w Q z v := by
  rcases h with h | ⟨mb, L, R, h1, h2, h3, h4, h5, h6, h7⟩
  · exact .inl h
  · exact .inr ⟨mb, L, R, h1, h2, h3, h4, h5, hQ mb h6, h7⟩
theorem NR.set {w : World} {P : Nat → Prop} {z : Value} {v : Int} (h : NR w P z v) {p : Addr} (hp : ¬ P p.block) (u : Value) : NR (w.setCell p u) P z v := by
  rcases h with h | ⟨mb, L, R, h1, h2, h3, h4, h5, h6, h7⟩
  · exact .inl h
  · exact .inr ⟨mb, L, R, h1, by rw [hp_other _ _ _ _ (fun e => hp (by rw [e]; exact h6))]; exact h2, h3, h4, h5, h6, h7⟩
theorem NR.dst {w : World} {P : Nat → Prop} {z : Value} {v : Int} (h : NR w P z v) : Dst w z P := by
  rcases h with ⟨rfl, _⟩ | ⟨mb, L, R, h1, h2, h3, h4, h5, h6, h7⟩
  · exact .inl rfl
  · exact .inr ⟨mb, L.length, L ++ R, h1, h2, h3, h6, h7, by simp⟩
theorem row_C {w : World} {mb : Nat} {L R : List Int} {t : TypeId} (h : hp w mb = some (.cells (u64s (L ++ R)) t (0, 0))) (hl : (L ++ R).length ≤ 1000000) : Kd.C (Kd.int .u64) w (some ⟨mb, 0, none⟩) L.length L := by
  rw [List.length_append] at hl
  refine blk_C _ h 0 (by omega) (fun i hi => ?_)
  rw [Nat.zero_add, u64s_get _ i (by rw [List.length_append]; omega)]
  simp only [List.getD_eq_getElem?_getD, List.getElem?_append_left hi]
theorem NR.wd {w : World} {P : Nat → Prop} {z : Value} {v : Int} (h : NR w P z v) : Wd w z v := by
  rcases h with ⟨rfl, rfl⟩ | ⟨mb, L, R, h1, h2, h3, h4, h5, h6, h7⟩
  · exact ⟨none, 0, [], rfl, Nat.le_refl _, Kd.C_nil _ _, Cn_nil _, ev_nil _⟩
  · exact ⟨_, _, L, h1, by simp, row_C h2 h7, h4, h5⟩
theorem NR.slice {w : World} {P : Nat → Prop} {z : Value} {v : Int} (h : NR w P z v) : ∃ A n c, z = .slice A n c := by
  rcases h with ⟨rfl, _⟩ | ⟨mb, L, R, h1, _⟩
  · exact ⟨_, _, _, rfl⟩
  · exact ⟨_, _, _, h1⟩
/-- A row of words that is read: not in S, or at the head of z's own block. -/
def Rd (w : World) (S : Nat → Prop) (z x : Value) (L : List Int) : Prop :=
  ∃ mx ox c, x = .slice (some ⟨mx, ox, none⟩) L.length c ∧ L.length ≤ c ∧ (∀ j, j < L.length → w.cell? ⟨mx, ox + j, none⟩ = some (.int .u64 (L.getD j 0))) ∧ okd BW L ∧ mx < w.heap.size ∧ (¬ S mx ∨ (ox = 0 ∧ ∃ n k, z = .slice (some ⟨mx, 0, none⟩) n k))
theorem row_at {w : World} {mb : Nat} {L R : List Int} {t : TypeId} (h : hp w mb = some (.cells (u64s (L ++ R)) t (0, 0))) (j : Nat) (hj : j < L.length) : w.cell? ⟨mb, j, none⟩ = some (.int .u64 (L.getD j 0)) := by
  rw [blk_cell h j, u64s_get _ j (by rw [List.length_append]; omega)]
  simp only [List.getD_eq_getElem?_getD, List.getElem?_append_left hj]
/-- A natural number that is read. -/
theorem NR.rd {w : World} {P S : Nat → Prop} {z x : Value} {v : Int} (h : NR w P x v) (h0 : 0 < v) (hS : (∀ i, P i → ¬ S i) ∨ z = x) : ∃ L, Rd w S z x L ∧ Cn BW L ∧ ev BW L = v ∧ 0 < L.length ∧ L.length ≤ 1000000 := by
  rcases h with ⟨_, h⟩ | ⟨mb, L, R, h1, h2, h3, h4, h5, h6, h7⟩
  · omega
  · have hl : 0 < L.length := by
      rcases Nat.eq_zero_or_pos L.length with h | h
      · rw [List.eq_nil_of_length_eq_zero h, ev_nil] at h5; omega
      · exact h
    refine ⟨L, ⟨mb, 0, _, h1, by simp, fun j hj => by rw [Nat.zero_add]; exact row_at h2 j hj, (okd_append.1 h3).1, hp_lt h2, ?_⟩, h4, h5, hl, by rw [List.length_append] at h7; omega⟩
    rcases hS with h | h
    · exact .inl (h mb h6)
    · exact .inr ⟨rfl, _, _, h.trans h1⟩
end Go.Proofs.YtnbnfjpecgbnpaaGreatDoor.Sp
end

/-! ## DivC -/
section
namespace Go.Proofs.YtnbnfjpecgbnpaaGreatDoor.Sp
open Go.RowKit Go.Proofs.YtnbnfjpecgbnpaaGreatDoorW.PrintWords Go.Proofs.YtnbnfjpecgbnpaaGreatDoorW.PrintLast Go.Proofs.YtnbnfjpecgbnpaaGreatDoorW.PrintMore Go.Proofs.YtnbnfjpecgbnpaaGreatDoor.Dig
set_option linter.unusedVariables false
set_option linter.unusedSimpArgs false
/-! ### printed by gendivc.py -/
end Go.Proofs.YtnbnfjpecgbnpaaGreatDoor.Sp
end

/-! ## DivD -/
section
namespace Go.Proofs.YtnbnfjpecgbnpaaGreatDoor.Sp
open Go.RowKit Go.Proofs.YtnbnfjpecgbnpaaGreatDoorW.PrintWords Go.Proofs.YtnbnfjpecgbnpaaGreatDoorW.PrintLast Go.Proofs.YtnbnfjpecgbnpaaGreatDoorW.PrintMore Go.Proofs.YtnbnfjpecgbnpaaGreatDoor.Dig
set_option linter.unusedVariables false
set_option linter.unusedSimpArgs false
end Go.Proofs.YtnbnfjpecgbnpaaGreatDoor.Sp
end

/-! ## DivE -/
section
namespace Go.Proofs.YtnbnfjpecgbnpaaGreatDoor.Sp
open Go.RowKit Go.Proofs.YtnbnfjpecgbnpaaGreatDoorW.PrintWords Go.Proofs.YtnbnfjpecgbnpaaGreatDoorW.PrintLast Go.Proofs.YtnbnfjpecgbnpaaGreatDoorW.PrintMore Go.Proofs.YtnbnfjpecgbnpaaGreatDoor.Dig
set_option linter.unusedVariables false
set_option linter.unusedSimpArgs false
end Go.Proofs.YtnbnfjpecgbnpaaGreatDoor.Sp
end

/-! ## NatAr -/
section
namespace Go.Proofs.YtnbnfjpecgbnpaaGreatDoor.Sp
open Go.RowKit Go.Proofs.YtnbnfjpecgbnpaaGreatDoorW.PrintWords Go.Proofs.YtnbnfjpecgbnpaaGreatDoorW.PrintLast Go.Proofs.YtnbnfjpecgbnpaaGreatDoorW.PrintMore Go.Proofs.YtnbnfjpecgbnpaaGreatDoor.Dig
set_option linter.unusedVariables false
set_option linter.unusedSimpArgs false
end Go.Proofs.YtnbnfjpecgbnpaaGreatDoor.Sp
end
