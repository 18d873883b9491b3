/-
  PLAIN: what spec.Shr and spec.Odd tell (as printed; the lines of OddC), and the CONTRACT of spec.Odd.
-/
import Derived.Test.YtfnknldbjckgoaaGreatDoorGspec
import Derived.Test.YtfnknldbjckgoaaGreatDoorGnat
import Derived.Test.YtfnknldbjckgoaaGreatDoorSpAll
namespace Go.Proofs.YtfnknldbjckgoaaGreatDoor.Sp
open Go.RowKit Go.Proofs.YtfnknldbjckgoaaGreatDoorW.PrintWords Go.Proofs.YtfnknldbjckgoaaGreatDoorW.PrintLast Go.Proofs.YtfnknldbjckgoaaGreatDoorW.PrintMore Go.Proofs.YtfnknldbjckgoaaGreatDoor.Dig
set_option linter.unusedVariables false
set_option linter.unusedSimpArgs false
theorem p16 (s : Nat) (hs : s ≤ 16) : (65536 : Int) = 2 ^ s * 2 ^ (16 - s) := by
  rw [← Int.pow_add, show s + (16 - s) = 16 by omega]
  rfl
/-- One digit of a number that is shifted. -/
theorem shr_step (x y E' : Int) (s : Nat) (hs : s < 16) (hx0 : 0 ≤ x) (hx1 : x < 65536) : (x + 65536 * y) / 2 ^ s % 65536 + 65536 * ((y + 65536 * E') / 2 ^ s) = (x + 65536 * (y + 65536 * E')) / 2 ^ s := by
  have hp : (0 : Int) < 2 ^ s := Int.pow_pos (by omega)
  have e1 : y + 65536 * E' = y + 2 ^ s * (2 ^ (16 - s) * E') := by rw [← Int.mul_assoc, ← p16 s (by omega)]
  have e2 : x + 65536 * (y + 65536 * E') = (x + 65536 * y) + 2 ^ s * (2 ^ (16 - s) * (65536 * E')) := by
    rw [← Int.mul_assoc, ← p16 s (by omega), Int.mul_add, Int.add_assoc]
  have e3 : (x + 65536 * y) / 2 ^ s / 65536 = y / 2 ^ s := by
    have h : (x + 65536 * y) / 65536 = y := by omega
    rw [edd (Int.le_of_lt hp), Int.mul_comm (2 ^ s) 65536, ← edd (by omega), h]
  have e4 : (2 : Int) ^ (16 - s) * (65536 * E') = 65536 * (2 ^ (16 - s) * E') := by rw [Int.mul_left_comm]
  rw [e2, Int.add_mul_ediv_left _ _ (by omega), e1, Int.add_mul_ediv_left _ _ (by omega), e4, Int.mul_add, ← e3]
  have h5 := Int.emod_add_mul_ediv ((x + 65536 * y) / 2 ^ s) 65536
  generalize (2 : Int) ^ (16 - s) * E' = Z at *
  generalize (x + 65536 * y) / 2 ^ s = Y at *
  omega
theorem ev_shr (l : List Int) (hl : okd BH l) (q s : Nat) : ev BH l / 2 ^ (16 * q + s) = ev BH (l.drop q) / 2 ^ s := by
  rw [Int.pow_add, Int.pow_mul, ← BH_two, ← edd (Int.le_of_lt (pow_pos BH_pos q))]
  by_cases hq : q ≤ l.length
  · rw [ev_div hl BH_pos q hq]
  · have h1 := ev_lt hl BH_pos
    have h2 := ev_nonneg hl BH_pos
    have h3 : BH ^ l.length ≤ BH ^ q := pow_mono BH_pos (by omega)
    rw [Int.ediv_eq_zero_of_lt h2 (by omega), List.drop_eq_nil_of_le (by omega), ev_nil]
/-- The bit with an index. -/
theorem bit_at (l : List Int) (hl : okd BH l) (q s : Nat) (hs : s < 16) : ev BH l / 2 ^ (16 * q + s) % 2 = l.getD q 0 / 2 ^ s % 2 := by
  have hp : (0 : Int) < 2 ^ s := Int.pow_pos (by omega)
  rw [ev_shr l hl]
  by_cases hq : q < l.length
  · rw [drop_cons l q hq, ev_cons, BH_def, p16 s (by omega), Int.mul_assoc, Int.add_mul_ediv_left _ _ (by omega)]
    obtain ⟨r, hr⟩ : ∃ r, 16 - s = r + 1 := ⟨15 - s, by omega⟩
    rw [hr, Int.pow_succ]
    generalize l.getD q 0 / 2 ^ s = d
    rw [Int.mul_comm (2 ^ r) 2, Int.mul_assoc]
    generalize (2 : Int) ^ r * ev BH (List.drop (q + 1) l) = z
    omega
  · rw [getD_out l q hq, List.drop_eq_nil_of_le (by omega), ev_nil]
theorem shr_i64 (x : Int) (i : Nat) (hi : i ≤ 64) : shr .i64 x (i : Int) = x / 2 ^ i := by
  unfold shr
  simp only [IntKind.bits, Int.toNat_natCast]
  rw [Nat.min_eq_left hi]
theorem and1 (x : Int) (h0 : 0 ≤ x) (h1 : x < 9223372036854775808) : Go.bits .and .i64 x 1 = x % 2 := by
  have hk : ∀ n : Int, 0 ≤ n → n < 2 ^ 63 → IntKind.i64.wrap n = n := by
    intro n h0 h1
    have h2 : n < 9223372036854775808 := by simpa using h1
    exact IntWalk.i64_in n (by omega)
  have h := bits_mask .i64 63 (by decide) hk 1 (by decide) x h0 (by simpa using h1)
  simpa using h
theorem has_f (l : List Int) (hl : okd BH l) (hlen : l.length < 1099511627776) (n : Nat) (hn : n < 1099511627776) : spec_Has.f l n = some (decide (ev BH l / 2 ^ n % 2 = 1)) := by
  obtain ⟨q, s, hs, rfl⟩ : ∃ q s, s < 16 ∧ n = 16 * q + s := ⟨n / 16, n % 16, by omega, by omega⟩
  have e1 : wrap64 (Int.tdiv ((16 * q + s : Nat) : Int) 16) = (q : Int) := by rw [Int.tdiv_eq_ediv_of_nonneg (by omega), w64 (by omega) (by omega)]; omega
  have e2 : Int.tmod ((16 * q + s : Nat) : Int) 16 = (s : Int) := by rw [Int.tmod_eq_emod_of_nonneg (by omega)]; omega
  rw [bit_at l hl q s hs]
  unfold spec_Has.f
  rw [e1, e2]
  have hx := okd_get hl BH_pos q
  rw [BH_def] at hx
  by_cases hq : q < l.length
  · have hp : (0 : Int) < 2 ^ s := Int.pow_pos (by omega)
    have h2 : l.getD q 0 / 2 ^ s ≤ l.getD q 0 := Int.ediv_le_self _ hx.1
    have h3 : 0 ≤ l.getD q 0 / 2 ^ s := Int.ediv_nonneg hx.1 (Int.le_of_lt hp)
    rw [if_pos (by omega), if_pos (by omega), if_pos (by omega), rd_nat, shr_i64 _ s (by omega), and1 _ h3 (by omega)]
    exact congrArg some (Bool.eq_iff_iff.2 (by simp))
  · rw [if_neg (by omega), getD_out l q hq]
    simp
theorem shr_e (x y : Int) (s : Nat) (hs : s < 16) (hx : 0 ≤ x ∧ x < 65536) (hy : 0 ≤ y ∧ y < 65536) : Int.tmod (shr .i64 (wrap64 (x + wrap64 (65536 * y))) (s : Int)) 65536 = (x + 65536 * y) / 2 ^ s % 65536 := by
  rw [w64 (show -9223372036854775808 ≤ 65536 * y by omega) (by omega), w64 (by omega) (by omega), shr_i64 _ s (by omega)]
  exact Int.tmod_eq_emod_of_nonneg (Int.ediv_nonneg (by omega) (Int.le_of_lt (Int.pow_pos (by omega))))
theorem shr_e0 (x : Int) (s : Nat) (hs : s < 16) (hx : 0 ≤ x ∧ x < 65536) : Int.tmod (shr .i64 x (s : Int)) 65536 = (x + 65536 * 0) / 2 ^ s % 65536 := by
  rw [shr_i64 _ s (by omega), Int.mul_zero, Int.add_zero]
  exact Int.tmod_eq_emod_of_nonneg (Int.ediv_nonneg (by omega) (Int.le_of_lt (Int.pow_pos (by omega))))
theorem shr_l (l : List Int) (hl : okd BH l) (hlen : l.length < 1099511627776) (N : Int) (s : Nat) (hs : s < 16) (hN : Int.tmod N 16 = (s : Int)) (d : Nat) : ∀ (i : Nat) (out : List Int), i + d = l.length → out.length ≤ i → ∀ k, d + (l.length + 2) ≤ k →
    ∃ r, spec_Shr.l0 k l N out i = some (strip (out ++ r)) ∧ okd BH r ∧ ev BH r = ev BH (l.drop i) / 2 ^ s := by
  induction d with
  | zero =>
    intro i out hi ho k hk
    obtain ⟨k, rfl⟩ : ∃ m, k = m + 1 := ⟨k - 1, by omega⟩
    refine ⟨[], ?_, okd_nil _, by rw [List.drop_eq_nil_of_le (by omega), ev_nil]; simp⟩
    simp only [spec_Shr.l0]
    rw [if_neg (by omega), List.append_nil]
    show (spec_trim.l0 k out).bind _ = _
    rw [trim_l _ (by omega) k (by omega)]
    rfl
  | succ d ih =>
    intro i out hi ho k hk
    obtain ⟨k, rfl⟩ : ∃ m, k = m + 1 := ⟨k - 1, by omega⟩
    have e1 := inc64 i (by omega)
    have hx := okd_get hl BH_pos i
    have hy := okd_get hl BH_pos (i + 1)
    rw [BH_def] at hx hy
    have hE : ∃ E', ev BH (l.drop (i + 1)) = l.getD (i + 1) 0 + 65536 * E' := by
      by_cases h : i + 1 < l.length
      · exact ⟨ev BH (l.drop (i + 1 + 1)), by rw [drop_cons l _ h, ev_cons, BH_def]⟩
      · exact ⟨0, by rw [getD_out l _ h, List.drop_eq_nil_of_le (by omega), ev_nil]; rfl⟩
    obtain ⟨E', hE⟩ := hE
    have hd : ev BH (l.drop i) = l.getD i 0 + 65536 * (l.getD (i + 1) 0 + 65536 * E') := by rw [drop_cons l i (by omega), ev_cons, hE, BH_def]
    obtain ⟨z, hz⟩ : ∃ z, z = (l.getD i 0 + 65536 * l.getD (i + 1) 0) / 2 ^ s % 65536 := ⟨_, rfl⟩
    obtain ⟨r, hr, hok, hev⟩ := ih (i + 1) (out ++ [z]) (by omega) (by simp; omega) k (by omega)
    refine ⟨z :: r, ?_, okd_cons.2 ⟨by rw [BH_def]; omega, hok⟩, ?_⟩
    · simp only [spec_Shr.l0]
      rw [if_pos (by omega), if_pos (by omega), e1, hN, rd_nat, rd_nat]
      by_cases h : i + 1 < l.length
      · rw [if_pos (by omega), if_pos (by omega), if_pos (by omega), if_pos (by omega), shr_e _ _ s hs hx hy, ← hz, hr]
        simp
      · rw [getD_out l _ h] at hz
        rw [if_neg (by omega), if_pos (by omega), if_pos (by omega), shr_e0 _ s hs hx, ← hz, hr]
        simp
    · rw [ev_cons, hev, hE, hd, BH_def, hz]
      exact shr_step _ _ _ s hs hx.1 hx.2
theorem shr_ev (l : List Int) (hl : okd BH l) (hlen : l.length < 1099511627776) (n : Nat) (hn : n < 1099511627776) : ∃ r, Ev (fun k => spec_Shr.f k l n) r ∧ Cn BH r ∧ ev BH r = ev BH l / 2 ^ n := by
  obtain ⟨q, s, hs, rfl⟩ : ∃ q s, s < 16 ∧ n = 16 * q + s := ⟨n / 16, n % 16, by omega, by omega⟩
  have e1 : wrap64 (Int.tdiv ((16 * q + s : Nat) : Int) 16) = (q : Int) := by rw [Int.tdiv_eq_ediv_of_nonneg (by omega), w64 (by omega) (by omega)]; omega
  have e2 : Int.tmod ((16 * q + s : Nat) : Int) 16 = (s : Int) := by rw [Int.tmod_eq_emod_of_nonneg (by omega)]; omega
  rw [ev_shr l hl]
  by_cases hq : q ≤ l.length
  · obtain ⟨r, hr, hok, hev⟩ := shr_l l hl hlen _ s hs e2 (l.length - q) q [] (by omega) (by simp) (l.length - q + (l.length + 2)) (Nat.le_refl _)
    refine ⟨strip r, Ev.of (spec_Shr.mono l _) (k := l.length - q + (l.length + 2)) ?_, (strip_cn r hok).1, by rw [(strip_cn r hok).2.1, hev]⟩
    unfold spec_Shr.f
    rw [e1, hr, List.nil_append]
  · refine ⟨[], Ev.of (spec_Shr.mono l _) (k := 2) ?_, Cn_nil _, by rw [List.drop_eq_nil_of_le (by omega), ev_nil]; simp⟩
    unfold spec_Shr.f
    rw [e1]
    simp only [spec_Shr.l0]
    rw [if_neg (by omega)]
    rfl
theorem tz_low {v : Int} {n i : Nat} (h : Tz v n) (hi : i < n) : v / 2 ^ i % 2 = 0 := by
  obtain ⟨m, rfl⟩ := h
  obtain ⟨j, rfl⟩ : ∃ j, n = i + (j + 1) := ⟨n - i - 1, by omega⟩
  rw [Int.pow_add, Int.pow_succ, Int.mul_assoc, Int.mul_ediv_cancel_left _ (Int.ne_of_gt (Int.pow_pos (by omega))), Int.mul_comm (2 ^ j) 2, Int.mul_assoc, Int.mul_emod_right]
theorem odd_l (l r : List Int) (hl : okd BH l) (hlen : l.length < 1099511627776) (n K : Nat) (hn : n < 1099511627776) (ht : Tz (ev BH l) n) (hr : ∀ k, K ≤ k → spec_Shr.f k l n = some r) (d : Nat) : ∀ i, i + d = n → ∀ k, d + (K + 1) ≤ k → spec_Odd.l0 k l (i : Int) = some (r, (n : Int)) := by
  induction d with
  | zero =>
    intro i hi k hk
    obtain ⟨k, rfl⟩ : ∃ m, k = m + 1 := ⟨k - 1, by omega⟩
    obtain rfl : i = n := by omega
    simp only [spec_Odd.l0]
    rw [has_f l hl hlen i hn, decide_eq_true ht.odd]
    simp only [Option.bind_some, if_true]
    rw [hr k (by omega)]
    rfl
  | succ d ih =>
    intro i hi k hk
    obtain ⟨k, rfl⟩ : ∃ m, k = m + 1 := ⟨k - 1, by omega⟩
    simp only [spec_Odd.l0]
    rw [has_f l hl hlen i (by omega), decide_eq_false (by rw [tz_low ht (by omega)]; omega), inc64 i (by omega)]
    simp only [Option.bind_some, Bool.false_eq_true, if_false]
    exact ih (i + 1) (by omega) k (by omega)
theorem odd_ev (l : List Int) (hl : okd BH l) (hlen : l.length < 1099511627776) (n : Nat) (hn : n < 1099511627776) (ht : Tz (ev BH l) n) : ∃ r, Ev (fun k => spec_Odd.f k l) (r, (n : Int)) ∧ Cn BH r ∧ ev BH r = ev BH l / 2 ^ n := by
  obtain ⟨r, ⟨K, hK⟩, hc, he⟩ := shr_ev l hl hlen n hn
  exact ⟨r, ⟨n + (K + 1), fun k hk => odd_l l r hl hlen n K hn ht hK n 0 (by omega) k (by omega)⟩, hc, he⟩
theorem odd_c (A : Option Addr) (mm cc : Nat) (v : Int) (z : Nat) (w : World) (h : Dg w (.slice A mm cc) v) (hl : v < Lim) (ht : Tz v z) (hz : z ≤ 100000) :
    Calls Tryz.prog 13 #[.slice A mm cc] w fun e w' => ∃ A' m' c', e = .returned (.tuple #[.slice A' m' c', .int .i64 z]) ∧ Dg w' (.slice A' m' c') (v / 2 ^ z) ∧ Below w.heap.size w w' := by
  obtain ⟨A0, c0, l, h1, h2, h3, h4, h5⟩ := h
  injection h1 with e1 e2 e3
  subst e1 e2 e3
  subst h5
  have hll := Lim_len h4 hl
  obtain ⟨r, ⟨K, hK⟩, hc, he⟩ := odd_ev l h4.ok (by omega) z (by omega) ht
  refine (spec_Odd.calls K A cc l _ _ w h3 h2 (hK K (Nat.le_refl _))).mono ?_
  rintro e w' ⟨v, rfl, hv, hb⟩
  have hd := Dg.of_V hv hc he
  obtain ⟨A', m', c', rfl⟩ := hd.slice
  exact ⟨A', m', c', rfl, hd, hb⟩
end Go.Proofs.YtfnknldbjckgoaaGreatDoor.Sp
