/-
  CONTRACTS of Float.SetFloat64 at noughts, infinities and what is no number; NewFloat.
-/
import Derived.Test.YtglikgjaobedbaaDoorSetF
import Derived.Test.YtglikgjaobedbaaDoorCaught
namespace Go.Proofs.YtglikgjaobedbaaDoor.Sp
open Go.RowKit Go.Proofs.YtglikgjaobedbaaDoorW.PrintWords Go.Proofs.YtglikgjaobedbaaDoorW.PrintLast Go.Proofs.YtglikgjaobedbaaDoorW.PrintMore Go.Proofs.YtglikgjaobedbaaDoor.Dig Go.Proofs.YtglikgjaobedbaaDoor.Flo
set_option linter.unusedVariables false
set_option linter.unusedSimpArgs false
/-- The form of a float64 that is 0 or infinite. -/
def sf (N : Nat) : Int := if N % 9223372036854775808 = 0 then 0 else 2
set_option maxHeartbeats 6400000 in
set_option maxRecDepth 100000 in
theorem setF_spc (g p : Nat) (m : Int) (N : Nat) (w : World) (h : hp w g = some (.cells #[.int .u32 p, .int .u8 m, .int .i8 0, .int .u8 0, .bool false, .slice none 0 0, .int .i32 0] 91 (0, 0))) (hN : N < 18446744073709551616) (h0 : N % 9223372036854775808 = 0 ∨ N % 9223372036854775808 = 9218868437227405312) :
    Calls Tryd.prog 45 #[.pointer (some ⟨g, 0, none⟩), .float .f64 N] w fun e w' => e = .returned (.pointer (some ⟨g, 0, none⟩)) ∧ Spc w' g (if p = 0 then 53 else p) m (sf N) (sg N) ∧ Kept (On g) w w' := by
  obtain ⟨c0, c1, c2, c3, c4, c5, c6, f0, f1, f2, f3, f4, f5, f6⟩ := blk7 h
  have lg0 := hp_lt h
  have H := Aside0.mk h
  have HA := Aside0.mk (fun W => isNaN_no N W (by omega))
  have HS := Aside0.mk (fun W => signbit_c N W hN)
  clear h
  rcases h0 with h0 | h0
  · have hsf : sf N = 0 := if_pos h0
    have hz : (FloatKind.f64.format.order N 0 == some .eq) = true := by rw [order_zero N h0]; rfl
    rw [hsf]
    clear hsf h0
    by_cases hp0 : p = 0
    · subst hp0
      rw [if_pos rfl]
      go_enter Tryd.func45, Tryd.ntmps45
      go_wp2_with (first | (go_at_call 66; refine (HA.out _).mono ?_; rintro e w' ⟨rfl, rfl⟩) | (go_at_call 70; refine (HS.out _).mono ?_; rintro e w' ⟨rfl, rfl⟩))
      go_ret
      refine ⟨rfl, ?_, ((((Kept.refl (On g) w).setCell (p := ⟨g, 0, none⟩) (.inl rfl) _).setCell (p := ⟨g, 2, none⟩) (.inl rfl) _).setCell (p := ⟨g, 4, none⟩) (.inl rfl) _).setCell (p := ⟨g, 3, none⟩) (.inl rfl) _⟩
      unfold Spc
      rw [hp_here _ _ _ _ _ rfl, hp_here _ _ _ _ _ rfl, hp_here _ _ _ _ _ rfl, hp_here _ _ _ _ _ rfl, H.out]
      rfl
    · rw [if_neg hp0]
      have hpb : ((p : Int) == 0) = false := by rw [beq_eq_false_iff_ne]; omega
      go_enter Tryd.func45, Tryd.ntmps45
      go_wp2_with (first | (go_at_call 66; refine (HA.out _).mono ?_; rintro e w' ⟨rfl, rfl⟩) | (go_at_call 70; refine (HS.out _).mono ?_; rintro e w' ⟨rfl, rfl⟩))
      go_ret
      refine ⟨rfl, ?_, (((Kept.refl (On g) w).setCell (p := ⟨g, 2, none⟩) (.inl rfl) _).setCell (p := ⟨g, 4, none⟩) (.inl rfl) _).setCell (p := ⟨g, 3, none⟩) (.inl rfl) _⟩
      unfold Spc
      rw [hp_here _ _ _ _ _ rfl, hp_here _ _ _ _ _ rfl, hp_here _ _ _ _ _ rfl, H.out]
      rfl
  · have hsf : sf N = 2 := if_neg (by omega)
    have hz : (FloatKind.f64.format.order N 0 == some .eq) = false := by rw [beq_eq_false_iff_ne]; exact order_nonzero N (by omega)
    have HI := Aside0.mk (fun W => isInf_yes N W hN h0)
    rw [hsf]
    clear hsf h0
    by_cases hp0 : p = 0
    · subst hp0
      rw [if_pos rfl]
      go_enter Tryd.func45, Tryd.ntmps45
      go_wp2_with (first | (go_at_call 66; refine (HA.out _).mono ?_; rintro e w' ⟨rfl, rfl⟩) | (go_at_call 71; refine (HI.out _).mono ?_; rintro e w' ⟨rfl, rfl⟩) | (go_at_call 70; refine (HS.out _).mono ?_; rintro e w' ⟨rfl, rfl⟩))
      go_ret
      refine ⟨rfl, ?_, ((((Kept.refl (On g) w).setCell (p := ⟨g, 0, none⟩) (.inl rfl) _).setCell (p := ⟨g, 2, none⟩) (.inl rfl) _).setCell (p := ⟨g, 4, none⟩) (.inl rfl) _).setCell (p := ⟨g, 3, none⟩) (.inl rfl) _⟩
      unfold Spc
      rw [hp_here _ _ _ _ _ rfl, hp_here _ _ _ _ _ rfl, hp_here _ _ _ _ _ rfl, hp_here _ _ _ _ _ rfl, H.out]
      rfl
    · rw [if_neg hp0]
      have hpb : ((p : Int) == 0) = false := by rw [beq_eq_false_iff_ne]; omega
      go_enter Tryd.func45, Tryd.ntmps45
      go_wp2_with (first | (go_at_call 66; refine (HA.out _).mono ?_; rintro e w' ⟨rfl, rfl⟩) | (go_at_call 71; refine (HI.out _).mono ?_; rintro e w' ⟨rfl, rfl⟩) | (go_at_call 70; refine (HS.out _).mono ?_; rintro e w' ⟨rfl, rfl⟩))
      go_ret
      refine ⟨rfl, ?_, (((Kept.refl (On g) w).setCell (p := ⟨g, 2, none⟩) (.inl rfl) _).setCell (p := ⟨g, 4, none⟩) (.inl rfl) _).setCell (p := ⟨g, 3, none⟩) (.inl rfl) _⟩
      unfold Spc
      rw [hp_here _ _ _ _ _ rfl, hp_here _ _ _ _ _ rfl, hp_here _ _ _ _ _ rfl, H.out]
      rfl
set_option maxHeartbeats 1600000 in
set_option maxRecDepth 100000 in
theorem setF_nan (g p : Nat) (m : Int) (N : Nat) (w : World) (h : hp w g = some (.cells #[.int .u32 p, .int .u8 m, .int .i8 0, .int .u8 0, .bool false, .slice none 0 0, .int .i32 0] 91 (0, 0))) (h0 : 9218868437227405312 < N % 9223372036854775808) :
    Calls Tryd.prog 45 #[.pointer (some ⟨g, 0, none⟩), .float .f64 N] w fun e w' => (∃ s, e = .panicked (nanChain s false)) ∧ Kept (On g) w w' := by
  obtain ⟨c0, c1, c2, c3, c4, c5, c6, f0, f1, f2, f3, f4, f5, f6⟩ := blk7 h
  have lg0 := hp_lt h
  have HA := Aside0.mk (fun W => isNaN_yes N W h0)
  clear h h0
  by_cases hp0 : p = 0
  · subst hp0
    go_enter Tryd.func45, Tryd.ntmps45
    go_wp2_with (first | (go_at_call 66; refine (HA.out _).mono ?_; rintro e w' ⟨rfl, rfl⟩))
    exact ⟨rfl, ⟨_, rfl⟩, (Kept.refl (On g) w).setCell (p := ⟨g, 0, none⟩) (.inl rfl) _⟩
  · have hpb : ((p : Int) == 0) = false := by rw [beq_eq_false_iff_ne]; omega
    go_enter Tryd.func45, Tryd.ntmps45
    go_wp2_with (first | (go_at_call 66; refine (HA.out _).mono ?_; rintro e w' ⟨rfl, rfl⟩))
    exact ⟨rfl, ⟨_, rfl⟩, Kept.refl (On g) w⟩
/-! ### the value -/
/-- The magnitude, its exponent, its binary digits. -/
def mg (N : Nat) : Nat := if N % 9223372036854775808 < 4503599627370496 then N % 9223372036854775808 else 4503599627370496 + N % 9223372036854775808 % 4503599627370496
def ex (N : Nat) : Int := if N % 9223372036854775808 < 4503599627370496 then -1074 else (N % 9223372036854775808 / 4503599627370496 - 1 : Nat) - 1074
def bl (N : Nat) : Nat := if N % 9223372036854775808 < 4503599627370496 then (N % 9223372036854775808).log2 + 1 else 53
theorem bl_le (N : Nat) (h0 : 0 < N % 9223372036854775808) : 1 ≤ bl N ∧ bl N ≤ 53 := by
  unfold bl
  split
  · rename_i h
    have := log2_sub _ h0 h
    omega
  · omega
theorem mg_bits (N : Nat) (h0 : 0 < N % 9223372036854775808) : Bits (mg N : Int) (bl N) := by
  unfold mg bl
  split
  · rename_i h
    generalize N % 9223372036854775808 = r at h0 h
    have h1 := Nat.log2_self_le (n := r) (by omega)
    have h2 := Nat.lt_log2_self (n := r)
    refine ⟨by omega, ?_, .inr ?_⟩
    · exact_mod_cast h2
    · rw [Nat.add_sub_cancel]
      exact_mod_cast h1
  · have e1 : (2 : Int) ^ 53 = 9007199254740992 := by decide
    have e2 : (2 : Int) ^ (53 - 1) = 4503599627370496 := by decide
    exact ⟨by omega, by rw [e1]; omega, .inr (by rw [e2]; omega)⟩
theorem mg_pos (N : Nat) (h0 : 0 < N % 9223372036854775808) : 0 < mg N := by unfold mg; split <;> omega
theorem mw_eq (N : Nat) (h : N < 18446744073709551616) (h0 : 0 < N % 9223372036854775808) : mw N = mg N * 2 ^ (64 - bl N) := by
  unfold mw frf mg bl nz
  by_cases hs : N % 9223372036854775808 < 4503599627370496
  · rw [if_pos hs, if_pos hs, if_pos hs]
    unfold sub52
    have hb := sub_bounds _ h0 hs
    have hl := log2_sub _ h0 hs
    have e1 : N % 9223372036854775808 * 2 ^ (64 - ((N % 9223372036854775808).log2 + 1)) = N % 9223372036854775808 * 2 ^ (52 - (N % 9223372036854775808).log2) * 2048 := by
      rw [Nat.mul_assoc, show (2048 : Nat) = 2 ^ 11 from rfl, ← Nat.pow_add, show 52 - (N % 9223372036854775808).log2 + 11 = 64 - ((N % 9223372036854775808).log2 + 1) by omega]
    rw [e1]
    generalize N % 9223372036854775808 * 2 ^ (52 - (N % 9223372036854775808).log2) = q at hb ⊢
    generalize (N % 9223372036854775808).log2 = L at hl ⊢
    omega
  · rw [if_neg hs, if_neg hs, if_neg hs, show 64 - 53 = 11 by omega, show 2 ^ 11 = 2048 from rfl]
    omega
theorem fre_eq (N : Nat) (h : N < 18446744073709551616) (h0 : 0 < N % 9223372036854775808) (h2 : N % 9223372036854775808 < 9218868437227405312) : fre N = bl N + ex N := by
  unfold fre nze nz bl ex
  by_cases hs : N % 9223372036854775808 < 4503599627370496
  · rw [if_pos hs, if_pos hs, if_pos hs, if_pos hs]
    unfold sub52
    have hb := sub_bounds _ h0 hs
    have hl := log2_sub _ h0 hs
    generalize N % 9223372036854775808 * 2 ^ (52 - (N % 9223372036854775808).log2) = q at hb ⊢
    generalize (N % 9223372036854775808).log2 = L at hl ⊢
    omega
  · rw [if_neg hs, if_neg hs, if_neg hs, if_neg hs]
    omega
theorem mw_canon (N : Nat) (p : Nat) (hp : 53 ≤ p) : Canon p [(mw N : Int)] := by
  have hb := mw_b N
  refine ⟨by intro d hd; simp at hd; subst hd; rw [BW_def]; omega, by simp, by unfold Top; simp; omega, by simp; omega, ?_⟩
  have e : ev BW [(mw N : Int)] = mw N := by rw [ev_cons, ev_nil, Int.mul_zero, Int.add_zero]
  rw [e]
  show (mw N : Int) % 2 ^ (64 * 1 - p) = 0
  have hm : (mw N : Int) = 2048 * ((mw N / 2048 : Nat) : Int) := by unfold mw; omega
  have hd : (2 : Int) ^ (64 * 1 - p) ∣ 2048 := by
    by_cases hp2 : p ≤ 64
    · exact ⟨2 ^ (p - 53), by rw [← Int.pow_add, show 64 * 1 - p + (p - 53) = 11 by omega]; rfl⟩
    · rw [show 64 * 1 - p = 0 by omega]
      exact ⟨2048, by simp⟩
  rw [hm]
  exact Int.emod_eq_zero_of_dvd (Int.dvd_mul_of_dvd_left hd)
/-- A float64 is told exactly with at least 53 bits. -/
theorem own_of_setF {w0 w w' : World} {g P : Nat} {m : Int} {N : Nat} {e : Ending} (hN : N < 18446744073709551616) (h0 : 0 < N % 9223372036854775808) (h2 : N % 9223372036854775808 < 9218868437227405312) (h : SetFPost w g P m N e w') (hP : 53 ≤ P) (hg : w0.heap.size ≤ g) (hw : w0.heap.size ≤ w.heap.size) : Own w0 w' g P m (sg N) (mg N) (ex N) (bl N) := by
  obtain ⟨_, mb, R, c, w2, h1, h3, h4, h5, h6⟩ := h
  have e1 : w' = w2 := by
    rcases h6 with ⟨_, h⟩ | ⟨h, _⟩
    · exact h
    · omega
  rw [e1]
  have hbl := bl_le N h0
  have e : ev BW [(mw N : Int)] = mw N := by rw [ev_cons, ev_nil, Int.mul_zero, Int.add_zero]
  refine ⟨mb, [(mw N : Int)], R, c, hg, by omega, h3, by rw [← fre_eq N hN h0 h2]; exact h4, mw_canon N P hP, ?_, by simp; omega, by simp; omega⟩
  rw [e, mw_eq N hN h0]
  simp
/-! ### NewFloat -/
set_option maxHeartbeats 1600000 in
set_option maxRecDepth 100000 in
theorem newF_nan (N : Nat) (w : World) (h0 : 9218868437227405312 < N % 9223372036854775808) : Calls Tryd.prog 38 #[.float .f64 N] w fun e w' => (∃ s, e = .panicked (nanChain s false)) ∧ w = w' := by
  have HA := Aside0.mk (fun W => isNaN_yes N W h0)
  clear h0
  go_enter Tryd.func38, Tryd.ntmps38
  go_wp2_with (first | (go_at_call 66; refine (HA.out _).mono ?_; rintro e w' ⟨rfl, rfl⟩))
  exact ⟨rfl, ⟨_, rfl⟩, rfl⟩
set_option maxHeartbeats 1600000 in
set_option maxRecDepth 100000 in
theorem newF_spc (N : Nat) (w : World) (hN : N < 18446744073709551616) (h0 : N % 9223372036854775808 = 0 ∨ N % 9223372036854775808 = 9218868437227405312) : Calls Tryd.prog 38 #[.float .f64 N] w fun e w' => e = .returned (.pointer (some ⟨w.heap.size, 0, none⟩)) ∧ Spc w' w.heap.size 53 0 (sf N) (sg N) ∧ Below w.heap.size w w' := by
  have HA := Aside0.mk (fun W => isNaN_no N W (by omega))
  have HS := Aside0.mk (setF_spc w.heap.size 0 0 N (w.alloc (.cells #[.int .u32 0, .int .u8 0, .int .i8 0, .int .u8 0, .bool false, .slice none 0 0, .int .i32 0] 91)) (hp_new _ _ _ rfl) hN h0)
  go_enter Tryd.func38, Tryd.ntmps38
  go_wp2_with (first | (go_at_call 66; refine (HA.out _).mono ?_; rintro e w' ⟨rfl, rfl⟩))
  refine (HS.out).mono ?_
  rintro e w1 ⟨rfl, hs, hk⟩
  have HH := Aside0.mk hs
  have HB := Aside0.mk ((below_alloc (Below.refl w.heap.size w) _).trans (hk.below (B := w.heap.size) (by intro i h; have : i = w.heap.size := h; omega) (by simp)))
  clear hs hk
  go_wp2_with (fail)
  go_ret
  exact ⟨rfl, HH.out, HB.out⟩
set_option maxHeartbeats 1600000 in
set_option maxRecDepth 100000 in
theorem newF_fin (N : Nat) (w : World) (hN : N < 18446744073709551616) (h0 : 0 < N % 9223372036854775808) (h2 : N % 9223372036854775808 < 9218868437227405312) : Calls Tryd.prog 38 #[.float .f64 N] w fun e w' => e = .returned (.pointer (some ⟨w.heap.size, 0, none⟩)) ∧ Own w w' w.heap.size 53 0 (sg N) (mg N) (ex N) (bl N) ∧ Below w.heap.size w w' := by
  have HA := Aside0.mk (fun W => isNaN_no N W (by omega))
  have HS := Aside0.mk (setF_c w.heap.size 0 0 N (w.alloc (.cells #[.int .u32 0, .int .u8 0, .int .i8 0, .int .u8 0, .bool false, .slice none 0 0, .int .i32 0] 91)) (hp_new _ _ _ rfl) (by omega) (by omega) hN h0 h2)
  go_enter Tryd.func38, Tryd.ntmps38
  go_wp2_with (first | (go_at_call 66; refine (HA.out _).mono ?_; rintro e w' ⟨rfl, rfl⟩))
  refine (HS.out).mono ?_
  intro e w1 hs
  have he := hs.1
  subst he
  have HH := Aside0.mk (own_of_setF (w0 := w) hN h0 h2 hs (Nat.le_refl _) (Nat.le_refl _) (by simp))
  have HB : Aside0 (Below w.heap.size w w1) := by
    obtain ⟨_, mb, R, c, w2, h1, h3, h4, h5, h6⟩ := hs
    have e1 : w1 = w2 := by
      rcases h6 with ⟨_, h⟩ | ⟨h, _⟩
      · exact h
      · exact absurd h (by decide)
    rw [e1]
    exact ⟨(below_alloc (Below.refl w.heap.size w) _).trans (h5.below (B := w.heap.size) (by intro i h; have : i = w.heap.size := h; omega) (by simp))⟩
  clear hs
  go_wp2_with (fail)
  go_ret
  exact ⟨rfl, HH.out, HB.out⟩
end Go.Proofs.YtglikgjaobedbaaDoor.Sp
