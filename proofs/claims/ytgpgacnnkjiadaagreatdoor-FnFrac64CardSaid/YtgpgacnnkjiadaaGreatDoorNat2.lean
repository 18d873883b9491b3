/-
  CONTRACTS of nat.make where the contents matter; natural numbers at the head of a block ('NR'); rows that are read ('Rd').
-/
import Derived.Test.YtgpgacnnkjiadaaGreatDoorMake
import Derived.Test.YtgpgacnnkjiadaaGreatDoorMVv
import Derived.Test.YtgpgacnnkjiadaaGreatDoorAddVW
namespace Go.Proofs.YtgpgacnnkjiadaaGreatDoor.Sp
open Go.RowKit Go.Proofs.YtgpgacnnkjiadaaGreatDoorW.PrintWords Go.Proofs.YtgpgacnnkjiadaaGreatDoorW.PrintLast Go.Proofs.YtgpgacnnkjiadaaGreatDoorW.PrintMore Go.Proofs.YtgpgacnnkjiadaaGreatDoor.Dig
set_option linter.unusedVariables false
set_option linter.unusedSimpArgs false

/-- A natural number at the head of a block of P, or nil. -/
def NR (w : World) (P : Nat → Prop) (z : Value) (v : Int) : Prop :=
  (z = .slice none 0 0 ∧ v = 0) ∨ ∃ mb L R, z = .slice (some ⟨mb, 0, none⟩) L.length (L ++ R).length ∧ hp w mb = some (.cells (u64s (L ++ R)) 67 (0, 0)) ∧ okd BW (L ++ R) ∧ Cn BW L ∧ ev BW L = v ∧ P mb ∧ (L ++ R).length ≤ 1000000
theorem NR.nil (w : World) (P : Nat → Prop) : NR w P (.slice none 0 0) 0 := .inl ⟨rfl, rfl⟩
theorem NR.kept {w w' : World} {P S : Nat → Prop} {z : Value} {v : Int} (h : NR w P z v) (hk : Kept S w w') (hT : ∀ i, P i → ¬ S i) : NR w' P z v := by
  rcases h with h | ⟨mb, L, R, h1, h2, h3, h4, h5, h6, h7⟩
  · exact .inl h
  · exact .inr ⟨mb, L, R, h1, hp_kept h2 hk (hT mb h6), h3, h4, h5, h6, h7⟩
theorem NR.below {w w' : World} {P : Nat → Prop} {z : Value} {v : Int} (h : NR w P z v) (hb : Below w.heap.size w w') : NR w' P z v := h.kept (Kept.of_below (S := fun _ => False) hb) (fun _ _ h => h)
theorem NR.mono {w : World} {P Q : Nat → Prop} {z : Value} {v : Int} (h : NR w P z v) (hQ : ∀ i, P i → Q i) : NR w Q z v := by
  rcases h with h | ⟨mb, L, R, h1, h2, h3, h4, h5, h6, h7⟩
  · exact .inl h
  · exact .inr ⟨mb, L, R, h1, h2, h3, h4, h5, hQ mb h6, h7⟩
theorem NR.set {w : World} {P : Nat → Prop} {z : Value} {v : Int} (h : NR w P z v) {p : Addr} (hp : ¬ P p.block) (u : Value) : NR (w.setCell p u) P z v := by
  rcases h with h | ⟨mb, L, R, h1, h2, h3, h4, h5, h6, h7⟩
  · exact .inl h
  · exact .inr ⟨mb, L, R, h1, by rw [hp_other _ _ _ _ (fun e => hp (by rw [e]; exact h6))]; exact h2, h3, h4, h5, h6, h7⟩
theorem NR.dst {w : World} {P : Nat → Prop} {z : Value} {v : Int} (h : NR w P z v) : Dst w z P := by
  rcases h with ⟨rfl, _⟩ | ⟨mb, L, R, h1, h2, h3, h4, h5, h6, h7⟩
  · exact .inl rfl
  · exact .inr ⟨mb, L.length, L ++ R, h1, h2, h3, h6, h7, by simp⟩
theorem NR.nonneg {w : World} {P : Nat → Prop} {z : Value} {v : Int} (h : NR w P z v) : 0 ≤ v := by
  rcases h with ⟨_, rfl⟩ | ⟨mb, L, R, h1, h2, h3, h4, h5, h6, h7⟩
  · omega
  · rw [← h5]; exact ev_nonneg h4.ok BW_pos
theorem row_C {w : World} {mb : Nat} {L R : List Int} {t : TypeId} (h : hp w mb = some (.cells (u64s (L ++ R)) t (0, 0))) (hl : (L ++ R).length ≤ 1000000) : Kd.C (Kd.int .u64) w (some ⟨mb, 0, none⟩) L.length L := by
  rw [List.length_append] at hl
  refine blk_C _ h 0 (by omega) (fun i hi => ?_)
  rw [Nat.zero_add, u64s_get _ i (by rw [List.length_append]; omega)]
  simp only [List.getD_eq_getElem?_getD, List.getElem?_append_left hi]
theorem NR.wd {w : World} {P : Nat → Prop} {z : Value} {v : Int} (h : NR w P z v) : Wd w z v := by
  rcases h with ⟨rfl, rfl⟩ | ⟨mb, L, R, h1, h2, h3, h4, h5, h6, h7⟩
  · exact ⟨none, 0, [], rfl, Nat.le_refl _, Kd.C_nil _ _, Cn_nil _, ev_nil _⟩
  · exact ⟨_, _, L, h1, by simp, row_C h2 h7, h4, h5⟩
theorem NR.slice {w : World} {P : Nat → Prop} {z : Value} {v : Int} (h : NR w P z v) : ∃ A n c, z = .slice A n c := by
  rcases h with ⟨rfl, _⟩ | ⟨mb, L, R, h1, _⟩
  · exact ⟨_, _, _, rfl⟩
  · exact ⟨_, _, _, h1⟩
/-- What 'make' leaves: the destination's own block as it is, or a new one. -/
def Make2 (w : World) (z : Value) (n : Nat) (e : Ending) (w' : World) : Prop :=
  (∃ mz nz c, z = .slice (some ⟨mz, 0, none⟩) nz c ∧ n ≤ c ∧ e = .returned (.slice (some ⟨mz, 0, none⟩) n c) ∧ w = w') ∨
  (∃ c, e = .returned (.slice (some ⟨w.heap.size, 0, none⟩) n c) ∧ n ≤ c ∧ c ≤ 1000000 ∧ hp w' w.heap.size = some (.cells (u64s (List.replicate c 0)) 67 (0, 0)) ∧ Below w.heap.size w w')
set_option maxHeartbeats 1600000 in
set_option maxRecDepth 100000 in
theorem make2_c (z : Value) (S : Nat → Prop) (n : Nat) (w : World) (h : Dst w z S) (h1 : 1 ≤ n) (h2 : n ≤ 900000) :
    Calls Tryz.prog 31 #[z, .int .i64 (n : Int)] w (Make2 w z n) := by
  rcases h with rfl | ⟨mz, nz, Z, rfl, hz, hok, hS, hmax, hnz⟩
  · refine (make_nil (n : Int) (by omega) (by omega) w).mono ?_
    rintro e w' ⟨c, hc1, hc2, rfl, rfl⟩
    rw [Int.toNat_natCast] at *
    exact .inr ⟨c, rfl, by omega, by omega, hp_new _ _ _ rfl, below_alloc (Below.refl _ _) _⟩
  · by_cases hle : n ≤ Z.length
    · have hle2 : decide (n ≤ Z.length) = true := decide_eq_true hle
      clear hz hok hS
      go_enter Tryz.func31, Tryz.ntmps31
      go_wp2_with (fail)
      go_ret
      exact .inl ⟨mz, nz, Z.length, rfl, hle, rfl, rfl⟩
    · have hle2 : decide (n ≤ Z.length) = false := decide_eq_false hle
      by_cases hn : n = 1
      · subst hn
        have hmk := make_ints 36 67 .u64 8 Tryz.underlying36 infoWord (by omega) 1 1 (by omega) (by omega) (by omega)
        clear hz hok hS
        go_enter Tryz.func31, Tryz.ntmps31
        go_wp2
        go_ret
        exact .inr ⟨1, rfl, Nat.le_refl _, by omega, hp_new _ _ _ rfl, below_alloc (Below.refl _ _) _⟩
      · have hb : ((n : Int) == 1) = false := by rw [beq_eq_false_iff_ne]; omega
        have hmk := make_ints 36 67 .u64 8 Tryz.underlying36 infoWord (by omega) (n : Int) ((n : Int) + 4) (by omega) (by omega) (by omega)
        clear hz hok hS
        go_enter Tryz.func31, Tryz.ntmps31
        go_wp2
        go_ret
        have e1 : ((n : Int) + 4).toNat = n + 4 := by omega
        refine .inr ⟨n + 4, ?_, by omega, by omega, by rw [hp_new _ _ _ rfl, ← u64s_rep], below_alloc (Below.refl _ _) _⟩
        simp [e1]
/-- A row of words that is read: not in S, or at the head of z's own block. -/
def Rd (w : World) (S : Nat → Prop) (z x : Value) (L : List Int) : Prop :=
  ∃ mx ox c, x = .slice (some ⟨mx, ox, none⟩) L.length c ∧ L.length ≤ c ∧ (∀ j, j < L.length → w.cell? ⟨mx, ox + j, none⟩ = some (.int .u64 (L.getD j 0))) ∧ okd BW L ∧ mx < w.heap.size ∧ (¬ S mx ∨ (ox = 0 ∧ ∃ n k, z = .slice (some ⟨mx, 0, none⟩) n k))
theorem row_at {w : World} {mb : Nat} {L R : List Int} {t : TypeId} (h : hp w mb = some (.cells (u64s (L ++ R)) t (0, 0))) (j : Nat) (hj : j < L.length) : w.cell? ⟨mb, j, none⟩ = some (.int .u64 (L.getD j 0)) := by
  rw [blk_cell h j, u64s_get _ j (by rw [List.length_append]; omega)]
  simp only [List.getD_eq_getElem?_getD, List.getElem?_append_left hj]
/-- A natural number that is read. -/
theorem NR.rd {w : World} {P S : Nat → Prop} {z x : Value} {v : Int} (h : NR w P x v) (h0 : 0 < v) (hS : (∀ i, P i → ¬ S i) ∨ z = x) : ∃ L, Rd w S z x L ∧ Cn BW L ∧ ev BW L = v ∧ 0 < L.length ∧ L.length ≤ 1000000 := by
  rcases h with ⟨_, h⟩ | ⟨mb, L, R, h1, h2, h3, h4, h5, h6, h7⟩
  · omega
  · have hl : 0 < L.length := by
      rcases Nat.eq_zero_or_pos L.length with h | h
      · rw [List.eq_nil_of_length_eq_zero h, ev_nil] at h5; omega
      · exact h
    refine ⟨L, ⟨mb, 0, _, h1, by simp, fun j hj => by rw [Nat.zero_add]; exact row_at h2 j hj, (okd_append.1 h3).1, hp_lt h2, ?_⟩, h4, h5, hl, by rw [List.length_append] at h7; omega⟩
    rcases hS with h | h
    · exact .inl (h mb h6)
    · exact .inr ⟨rfl, _, _, h.trans h1⟩
/-- What 'make' leaves, next to a row that is read. -/
theorem make_dst {w w1 : World} {z : Value} {S : Nat → Prop} {n : Nat} {e : Ending} (h : Dst w z S) (hm : Make2 w z n e w1) : ∃ mb Z, e = .returned (.slice (some ⟨mb, 0, none⟩) n Z.length) ∧ n ≤ Z.length ∧ Z.length ≤ 1000000 ∧ (S mb ∨ mb = w.heap.size) ∧ hp w1 mb = some (.cells (u64s Z) 67 (0, 0)) ∧ okd BW Z ∧ Below w.heap.size w w1 ∧ (mb = w.heap.size ∨ (w1 = w ∧ mb < w.heap.size ∧ ∃ nz k, z = .slice (some ⟨mb, 0, none⟩) nz k)) := by
  rcases hm with ⟨mz, nz, c, h1, h2, h3, rfl⟩ | ⟨c, h1, h2, h3, h4, h5⟩
  · rcases h with h | ⟨mz', nz', Z, h4, h5, h6, h7, h8, h9⟩
    · rw [h] at h1; injection h1 with e1; cases e1
    · rw [h4] at h1
      injection h1 with e1 e2 e3
      injection e1 with e1
      injection e1 with e1
      subst e1 e3
      exact ⟨mz', Z, h3, h2, h8, .inl h7, h5, h6, Below.refl _ _, .inr ⟨rfl, hp_lt h5, nz', _, h4⟩⟩
  · refine ⟨w.heap.size, List.replicate c 0, by rw [List.length_replicate]; exact h1, by simpa using h2, by simpa using h3, .inr rfl, h4, okd_replicate _ BW_pos, h5, .inl rfl⟩
theorem rd_lies {w w1 : World} {z x : Value} {S : Nat → Prop} {mb : Nat} {L : List Int} (hr : Rd w S z x L) (hb : Below w.heap.size w w1) (hS : S mb ∨ mb = w.heap.size) (hm : mb = w.heap.size ∨ (w1 = w ∧ mb < w.heap.size ∧ ∃ nz k, z = .slice (some ⟨mb, 0, none⟩) nz k)) : ∃ mx ox c, x = .slice (some ⟨mx, ox, none⟩) L.length c ∧ L.length ≤ c ∧ Lies w1 mb 0 mx ox L ∧ mx < w.heap.size := by
  obtain ⟨mx, ox, c, h1, h2, h3, h4, h5, h6⟩ := hr
  refine ⟨mx, ox, c, h1, h2, ⟨fun j hj => by rw [hb.cell (p := ⟨mx, ox + j, none⟩) h5]; exact h3 j hj, ?_⟩, h5⟩
  rcases hm with rfl | ⟨rfl, h7, nz, k, h8⟩
  · exact .inl (by omega)
  · rcases h6 with h6 | ⟨h6, n', k', h9⟩
    · left
      rintro rfl
      rcases hS with h | h
      · exact h6 h
      · omega
    · right
      rw [h8] at h9
      injection h9 with e1
      injection e1 with e1
      injection e1 with e1
      exact ⟨e1.symm, h6⟩
/-- The head of a block that was written, without the noughts at its end. -/
theorem NR.of_strip {w : World} {P : Nat → Prop} {mb n c : Nat} {X : List Int} {v : Int} (h : hp w mb = some (.cells (u64s X) 67 (0, 0))) (hok : okd BW X) (hn : n ≤ X.length) (hv : ev BW (X.take n) = v) (hP : P mb) (hc : c = X.length) (hl : X.length ≤ 1000000) : NR w P (.slice (some ⟨mb, 0, none⟩) (strip (X.take n)).length c) v := by
  obtain ⟨h1, h2, k, h3, h4⟩ := strip_cn (X.take n) (okd_take hok n)
  rw [List.length_take] at h3
  have hk : strip (X.take n) = X.take k := by rw [h4, List.take_take, Nat.min_eq_left (by omega)]
  refine .inr ⟨mb, strip (X.take n), X.drop (strip (X.take n)).length, ?_⟩
  have hkl : (X.take k).length = k := by rw [List.length_take]; omega
  have hX : strip (X.take n) ++ X.drop (strip (X.take n)).length = X := by rw [hk, hkl, List.take_append_drop]
  rw [hX]
  exact ⟨by rw [hc], h, hok, h1, by rw [h2, hv], hP, hl⟩
end Go.Proofs.YtgpgacnnkjiadaaGreatDoor.Sp
