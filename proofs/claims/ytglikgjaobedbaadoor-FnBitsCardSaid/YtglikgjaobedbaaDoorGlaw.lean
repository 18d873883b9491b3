/-
  MERGED BY PROGRAM (regroup.py): OddC, OfReal, RealL, Tbl, LawIn.
-/
import Derived.Test.YtglikgjaobedbaaDoorGspec
import Derived.Test.YtglikgjaobedbaaDoorGnat
import Derived.Test.YtglikgjaobedbaaDoorSpSShr
import Derived.Test.YtglikgjaobedbaaDoorSpSOdd
import Derived.Test.YtglikgjaobedbaaDoorSpSIsReal
import Derived.Test.YtglikgjaobedbaaDoorRows
import Derived.Lib.LaidTab
import Derived.Stop.LaidErr
import Derived.MakeChecks
import Derived.Test.YtglikgjaobedbaaDoorRow
import Derived.Test.YtglikgjaobedbaaDoorGexa
/-! ## OddC -/
section
namespace Go.Proofs.YtglikgjaobedbaaDoor.Sp
open Go.RowKit Go.Proofs.YtglikgjaobedbaaDoorW.PrintWords Go.Proofs.YtglikgjaobedbaaDoorW.PrintLast Go.Proofs.YtglikgjaobedbaaDoorW.PrintMore Go.Proofs.YtglikgjaobedbaaDoor.Dig
set_option linter.unusedVariables false
set_option linter.unusedSimpArgs false
theorem p16 (s : Nat) (hs : s ≤ 16) : (65536 : Int) = 2 ^ s * 2 ^ (16 - s) := by
  rw [← Int.pow_add, show s + (16 - s) = 16 by omega]
  rfl
/-- One digit of a number that is shifted. -/
theorem shr_step (x y E' : Int) (s : Nat) (hs : s < 16) (hx0 : 0 ≤ x) (hx1 : x < 65536) : (x + 65536 * y) / 2 ^ s % 65536 + 65536 * ((y + 65536 * E') / 2 ^ s) = (x + 65536 * (y + 65536 * E')) / 2 ^ s := by
  have hp : (0 : Int) < 2 ^ s := Int.pow_pos (by omega)
  have e1 : y + 65536 * E' = y + 2 ^ s * (2 ^ (16 - s) * E') := by rw [← Int.mul_assoc, ← p16 s (by omega)]
  have e2 : x + 65536 * (y + 65536 * E') = (x + 65536 * y) + 2 ^ s * (2 ^ (16 - s) * (65536 * E')) := by
    rw [← Int.mul_assoc, ← p16 s (by omega), Int.mul_add, Int.add_assoc]
  have e3 : (x + 65536 * y) / 2 ^ s / 65536 = y / 2 ^ s := by
    have h : (x + 65536 * y) / 65536 = y := by omega
    rw [edd (Int.le_of_lt hp), Int.mul_comm (2 ^ s) 65536, ← edd (by omega), h]
  have e4 : (2 : Int) ^ (16 - s) * (65536 * E') = 65536 * (2 ^ (16 - s) * E') := by rw [Int.mul_left_comm]
  rw [e2, Int.add_mul_ediv_left _ _ (by omega), e1, Int.add_mul_ediv_left _ _ (by omega), e4, Int.mul_add, ← e3]
  have h5 := Int.emod_add_mul_ediv ((x + 65536 * y) / 2 ^ s) 65536
  generalize (2 : Int) ^ (16 - s) * E' = Z at *
  generalize (x + 65536 * y) / 2 ^ s = Y at *
  omega
theorem ev_shr (l : List Int) (hl : okd BH l) (q s : Nat) : ev BH l / 2 ^ (16 * q + s) = ev BH (l.drop q) / 2 ^ s := by
  rw [Int.pow_add, Int.pow_mul, ← BH_two, ← edd (Int.le_of_lt (pow_pos BH_pos q))]
  by_cases hq : q ≤ l.length
  · rw [ev_div hl BH_pos q hq]
  · have h1 := ev_lt hl BH_pos
    have h2 := ev_nonneg hl BH_pos
    have h3 : BH ^ l.length ≤ BH ^ q := pow_mono BH_pos (by omega)
    rw [Int.ediv_eq_zero_of_lt h2 (by omega), List.drop_eq_nil_of_le (by omega), ev_nil]
/-- The bit with an index. -/
theorem bit_at (l : List Int) (hl : okd BH l) (q s : Nat) (hs : s < 16) : ev BH l / 2 ^ (16 * q + s) % 2 = l.getD q 0 / 2 ^ s % 2 := by
  have hp : (0 : Int) < 2 ^ s := Int.pow_pos (by omega)
  rw [ev_shr l hl]
  by_cases hq : q < l.length
  · rw [drop_cons l q hq, ev_cons, BH_def, p16 s (by omega), Int.mul_assoc, Int.add_mul_ediv_left _ _ (by omega)]
    obtain ⟨r, hr⟩ : ∃ r, 16 - s = r + 1 := ⟨15 - s, by omega⟩
    rw [hr, Int.pow_succ]
    generalize l.getD q 0 / 2 ^ s = d
    rw [Int.mul_comm (2 ^ r) 2, Int.mul_assoc]
    generalize (2 : Int) ^ r * ev BH (List.drop (q + 1) l) = z
    omega
  · rw [getD_out l q hq, List.drop_eq_nil_of_le (by omega), ev_nil]
theorem shr_i64 (x : Int) (i : Nat) (hi : i ≤ 64) : shr .i64 x (i : Int) = x / 2 ^ i := by
  unfold shr
  simp only [IntKind.bits, Int.toNat_natCast]
  rw [Nat.min_eq_left hi]
theorem and1 (x : Int) (h0 : 0 ≤ x) (h1 : x < 9223372036854775808) : Go.bits .and .i64 x 1 = x % 2 := by
  have hk : ∀ n : Int, 0 ≤ n → n < 2 ^ 63 → IntKind.i64.wrap n = n := by
    intro n h0 h1
    have h2 : n < 9223372036854775808 := by simpa using h1
    exact IntWalk.i64_in n (by omega)
  have h := bits_mask .i64 63 (by decide) hk 1 (by decide) x h0 (by simpa using h1)
  simpa using h
theorem has_f (l : List Int) (hl : okd BH l) (hlen : l.length < 1099511627776) (n : Nat) (hn : n < 1099511627776) : spec_Has.f l n = some (decide (ev BH l / 2 ^ n % 2 = 1)) := by
  obtain ⟨q, s, hs, rfl⟩ : ∃ q s, s < 16 ∧ n = 16 * q + s := ⟨n / 16, n % 16, by omega, by omega⟩
  have e1 : wrap64 (Int.tdiv ((16 * q + s : Nat) : Int) 16) = (q : Int) := by rw [Int.tdiv_eq_ediv_of_nonneg (by omega), w64 (by omega) (by omega)]; omega
  have e2 : Int.tmod ((16 * q + s : Nat) : Int) 16 = (s : Int) := by rw [Int.tmod_eq_emod_of_nonneg (by omega)]; omega
  rw [bit_at l hl q s hs]
  unfold spec_Has.f
  rw [e1, e2]
  have hx := okd_get hl BH_pos q
  rw [BH_def] at hx
  by_cases hq : q < l.length
  · have hp : (0 : Int) < 2 ^ s := Int.pow_pos (by omega)
    have h2 : l.getD q 0 / 2 ^ s ≤ l.getD q 0 := Int.ediv_le_self _ hx.1
    have h3 : 0 ≤ l.getD q 0 / 2 ^ s := Int.ediv_nonneg hx.1 (Int.le_of_lt hp)
    rw [if_pos (by omega), if_pos (by omega), if_pos (by omega), rd_nat, shr_i64 _ s (by omega), and1 _ h3 (by omega)]
    exact congrArg some (Bool.eq_iff_iff.2 (by simp))
  · rw [if_neg (by omega), getD_out l q hq]
    simp
theorem shr_e (x y : Int) (s : Nat) (hs : s < 16) (hx : 0 ≤ x ∧ x < 65536) (hy : 0 ≤ y ∧ y < 65536) : Int.tmod (shr .i64 (wrap64 (x + wrap64 (65536 * y))) (s : Int)) 65536 = (x + 65536 * y) / 2 ^ s % 65536 := by
  rw [w64 (show -9223372036854775808 ≤ 65536 * y by omega) (by omega), w64 (by omega) (by omega), shr_i64 _ s (by omega)]
  exact Int.tmod_eq_emod_of_nonneg (Int.ediv_nonneg (by omega) (Int.le_of_lt (Int.pow_pos (by omega))))
theorem shr_e0 (x : Int) (s : Nat) (hs : s < 16) (hx : 0 ≤ x ∧ x < 65536) : Int.tmod (shr .i64 x (s : Int)) 65536 = (x + 65536 * 0) / 2 ^ s % 65536 := by
  rw [shr_i64 _ s (by omega), Int.mul_zero, Int.add_zero]
  exact Int.tmod_eq_emod_of_nonneg (Int.ediv_nonneg (by omega) (Int.le_of_lt (Int.pow_pos (by omega))))
theorem shr_l (l : List Int) (hl : okd BH l) (hlen : l.length < 1099511627776) (N : Int) (s : Nat) (hs : s < 16) (hN : Int.tmod N 16 = (s : Int)) (d : Nat) : ∀ (i : Nat) (out : List Int), i + d = l.length → out.length ≤ i → ∀ k, d + (l.length + 2) ≤ k →
    ∃ r, spec_Shr.l0 k l N out i = some (strip (out ++ r)) ∧ okd BH r ∧ ev BH r = ev BH (l.drop i) / 2 ^ s := by
  induction d with
  | zero =>
    intro i out hi ho k hk
    obtain ⟨k, rfl⟩ : ∃ m, k = m + 1 := ⟨k - 1, by omega⟩
    refine ⟨[], ?_, okd_nil _, by rw [List.drop_eq_nil_of_le (by omega), ev_nil]; simp⟩
    simp only [spec_Shr.l0]
    rw [if_neg (by omega), List.append_nil]
    show (spec_trim.l0 k out).bind _ = _
    rw [trim_l _ (by omega) k (by omega)]
    rfl
  | succ d ih =>
    intro i out hi ho k hk
    obtain ⟨k, rfl⟩ : ∃ m, k = m + 1 := ⟨k - 1, by omega⟩
    have e1 := inc64 i (by omega)
    have hx := okd_get hl BH_pos i
    have hy := okd_get hl BH_pos (i + 1)
    rw [BH_def] at hx hy
    have hE : ∃ E', ev BH (l.drop (i + 1)) = l.getD (i + 1) 0 + 65536 * E' := by
      by_cases h : i + 1 < l.length
      · exact ⟨ev BH (l.drop (i + 1 + 1)), by rw [drop_cons l _ h, ev_cons, BH_def]⟩
      · exact ⟨0, by rw [getD_out l _ h, List.drop_eq_nil_of_le (by omega), ev_nil]; rfl⟩
    obtain ⟨E', hE⟩ := hE
    have hd : ev BH (l.drop i) = l.getD i 0 + 65536 * (l.getD (i + 1) 0 + 65536 * E') := by rw [drop_cons l i (by omega), ev_cons, hE, BH_def]
    obtain ⟨z, hz⟩ : ∃ z, z = (l.getD i 0 + 65536 * l.getD (i + 1) 0) / 2 ^ s % 65536 := ⟨_, rfl⟩
    obtain ⟨r, hr, hok, hev⟩ := ih (i + 1) (out ++ [z]) (by omega) (by simp; omega) k (by omega)
    refine ⟨z :: r, ?_, okd_cons.2 ⟨by rw [BH_def]; omega, hok⟩, ?_⟩
    · simp only [spec_Shr.l0]
      rw [if_pos (by omega), if_pos (by omega), e1, hN, rd_nat, rd_nat]
      by_cases h : i + 1 < l.length
      · rw [if_pos (by omega), if_pos (by omega), if_pos (by omega), if_pos (by omega), shr_e _ _ s hs hx hy, ← hz, hr]
        simp
      · rw [getD_out l _ h] at hz
        rw [if_neg (by omega), if_pos (by omega), if_pos (by omega), shr_e0 _ s hs hx, ← hz, hr]
        simp
    · rw [ev_cons, hev, hE, hd, BH_def, hz]
      exact shr_step _ _ _ s hs hx.1 hx.2
theorem shr_ev (l : List Int) (hl : okd BH l) (hlen : l.length < 1099511627776) (n : Nat) (hn : n < 1099511627776) : ∃ r, Ev (fun k => spec_Shr.f k l n) r ∧ Cn BH r ∧ ev BH r = ev BH l / 2 ^ n := by
  obtain ⟨q, s, hs, rfl⟩ : ∃ q s, s < 16 ∧ n = 16 * q + s := ⟨n / 16, n % 16, by omega, by omega⟩
  have e1 : wrap64 (Int.tdiv ((16 * q + s : Nat) : Int) 16) = (q : Int) := by rw [Int.tdiv_eq_ediv_of_nonneg (by omega), w64 (by omega) (by omega)]; omega
  have e2 : Int.tmod ((16 * q + s : Nat) : Int) 16 = (s : Int) := by rw [Int.tmod_eq_emod_of_nonneg (by omega)]; omega
  rw [ev_shr l hl]
  by_cases hq : q ≤ l.length
  · obtain ⟨r, hr, hok, hev⟩ := shr_l l hl hlen _ s hs e2 (l.length - q) q [] (by omega) (by simp) (l.length - q + (l.length + 2)) (Nat.le_refl _)
    refine ⟨strip r, Ev.of (spec_Shr.mono l _) (k := l.length - q + (l.length + 2)) ?_, (strip_cn r hok).1, by rw [(strip_cn r hok).2.1, hev]⟩
    unfold spec_Shr.f
    rw [e1, hr, List.nil_append]
  · refine ⟨[], Ev.of (spec_Shr.mono l _) (k := 2) ?_, Cn_nil _, by rw [List.drop_eq_nil_of_le (by omega), ev_nil]; simp⟩
    unfold spec_Shr.f
    rw [e1]
    simp only [spec_Shr.l0]
    rw [if_neg (by omega)]
    rfl
theorem tz_low {v : Int} {n i : Nat} (h : Tz v n) (hi : i < n) : v / 2 ^ i % 2 = 0 := by
  obtain ⟨m, rfl⟩ := h
  obtain ⟨j, rfl⟩ : ∃ j, n = i + (j + 1) := ⟨n - i - 1, by omega⟩
  rw [Int.pow_add, Int.pow_succ, Int.mul_assoc, Int.mul_ediv_cancel_left _ (Int.ne_of_gt (Int.pow_pos (by omega))), Int.mul_comm (2 ^ j) 2, Int.mul_assoc, Int.mul_emod_right]
theorem odd_l (l r : List Int) (hl : okd BH l) (hlen : l.length < 1099511627776) (n K : Nat) (hn : n < 1099511627776) (ht : Tz (ev BH l) n) (hr : ∀ k, K ≤ k → spec_Shr.f k l n = some r) (d : Nat) : ∀ i, i + d = n → ∀ k, d + (K + 1) ≤ k → spec_Odd.l0 k l (i : Int) = some (r, (n : Int)) := by
  induction d with
  | zero =>
    intro i hi k hk
    obtain ⟨k, rfl⟩ : ∃ m, k = m + 1 := ⟨k - 1, by omega⟩
    obtain rfl : i = n := by omega
    simp only [spec_Odd.l0]
    rw [has_f l hl hlen i hn, decide_eq_true ht.odd]
    simp only [Option.bind_some, if_true]
    rw [hr k (by omega)]
    rfl
  | succ d ih =>
    intro i hi k hk
    obtain ⟨k, rfl⟩ : ∃ m, k = m + 1 := ⟨k - 1, by omega⟩
    simp only [spec_Odd.l0]
    rw [has_f l hl hlen i (by omega), decide_eq_false (by rw [tz_low ht (by omega)]; omega), inc64 i (by omega)]
    simp only [Option.bind_some, Bool.false_eq_true, if_false]
    exact ih (i + 1) (by omega) k (by omega)
theorem odd_ev (l : List Int) (hl : okd BH l) (hlen : l.length < 1099511627776) (n : Nat) (hn : n < 1099511627776) (ht : Tz (ev BH l) n) : ∃ r, Ev (fun k => spec_Odd.f k l) (r, (n : Int)) ∧ Cn BH r ∧ ev BH r = ev BH l / 2 ^ n := by
  obtain ⟨r, ⟨K, hK⟩, hc, he⟩ := shr_ev l hl hlen n hn
  exact ⟨r, ⟨n + (K + 1), fun k hk => odd_l l r hl hlen n K hn ht hK n 0 (by omega) k (by omega)⟩, hc, he⟩
/-- What is told of a value is what is asked. -/
theorem isReal_ev (p m x vx : Int) (neg : Bool) (X l : List Int) (n : Nat) (hl : Cn BH l) (hlen : l.length < 1099511627776) (hn : n < 1099511627776) (ht : Tz (ev BH l) n) (h0 : 0 < ev BH l) (hX : Cn BW X) (he : ev BW X = ev BH l / 2 ^ n) (hx : x = vx + n) (hv : -1000000000000 ≤ vx ∧ vx ≤ 1000000000000) : Ev (fun k => spec_IsReal.f k p m 1 neg X x p m neg l vx) true := by
  obtain ⟨r, ⟨K, hK⟩, hc, her⟩ := odd_ev l hl.ok hlen n hn ht
  have hrl : r.length < 1099511627776 := by
    have h1 := Cn_len_le hc BH_gt l.length (by
      have h2 := ev_lt hl.ok BH_pos
      have h3 := Int.ediv_le_self (2 ^ n) (Int.le_of_lt h0)
      omega)
    omega
  obtain ⟨w, hcw, hew, ⟨K2, hK2⟩⟩ := has_ev X r hc hrl
  obtain rfl : X = w := Cn_inj hX hcw BW_pos (by rw [he, hew, her])
  refine ⟨K + K2 + 1, fun k hk => ?_⟩
  obtain ⟨k, rfl⟩ : ∃ m, k = m + 1 := ⟨k - 1, by omega⟩
  have hll : l.length ≠ 0 := by
    intro h
    rw [List.eq_nil_of_length_eq_zero h, ev_nil] at h0
    omega
  show spec_IsReal.f (k + 1) p m 1 neg X x p m neg l vx = some true
  unfold spec_IsReal.f
  have hmm : (m != m) = false := by simp
  rw [if_pos rfl, hmm]
  simp only [spec_IsReal.j0]
  have hKk : spec_Odd.f k l = some (r, (n : Int)) := hK k (by omega)
  have hKh : spec_HasWords.f k X r = some (decide (X = X)) := hK2 k (by omega)
  rw [if_neg (by simp), if_neg (by omega), hKk]
  show (if (1 : Int) = 1 then (if (neg == neg) = true then ((spec_HasWords.f k X r).bind fun t210 => (if t210 = true then (some (x == (wrap64 (vx + (n : Int))))) else (some false))) else (some false)) else (some false)) = some true
  rw [if_pos rfl, if_pos (by simp), hKh, decide_eq_true rfl, w64 (by omega) (by omega), hx]
  simp
theorem tz_small {v : Int} {n : Nat} (h : Tz v n) (h0 : 0 < v) (hl : v < Lim) : n < 1600000 := by
  obtain ⟨m, rfl⟩ := h
  rw [Lim_def, BH_two, ← Int.pow_mul] at hl
  refine Nat.lt_of_not_le fun hle => ?_
  have h1 : (2 : Int) ^ (16 * 100000) ≤ 2 ^ n := pow_mono (by omega) (by omega)
  have hp : (0 : Int) < 2 ^ n := Int.pow_pos (by omega)
  have hm : 0 < 2 * m + 1 := by
    rcases Int.lt_or_le 0 (2 * m + 1) with h1 | h1
    · exact h1
    · have := Int.mul_nonpos_of_nonneg_of_nonpos (Int.le_of_lt hp) h1
      omega
  have h2 : (2 : Int) ^ n * 1 ≤ 2 ^ n * (2 * m + 1) := Int.mul_le_mul_of_nonneg_left (by omega) (Int.le_of_lt hp)
  omega
theorem isReal_c (p m x vx : Int) (neg : Bool) (A A' : Option Addr) (mm cc mm' cc' : Nat) (v : Int) (n : Nat) (w : World) (h : Wd w (.slice A mm cc) (v / 2 ^ n)) (h' : Dg w (.slice A' mm' cc') v) (h0 : 0 < v) (hl : v < Lim) (ht : Tz v n) (hx : x = vx + n) (hv : -1000000000000 ≤ vx ∧ vx ≤ 1000000000000) :
    Calls Tryd.prog 16 #[.agg #[.int .u64 p, .int .i64 m, .int .i64 1, .bool neg, .slice A mm cc, .int .i64 x], .int .u64 p, .int .i64 m, .agg #[.bool neg, .slice A' mm' cc', .int .i64 vx]] w fun e w' => e = .returned (.bool true) ∧ Below w.heap.size w w' := by
  obtain ⟨_, _, X, e1, h2, h3, h4, h5⟩ := h
  injection e1 with e1 e2 e3
  subst e1 e2 e3
  obtain ⟨_, _, l, e1, k2, k3, k4, k5⟩ := h'
  injection e1 with e1 e2 e3
  subst e1 e2 e3 k5
  have := Lim_len k4 hl
  obtain ⟨K, hK⟩ := isReal_ev p m x vx neg X l n k4 (by omega) (by have := tz_small ht h0 hl; omega) ht h0 h4 h5 hx hv
  exact spec_IsReal.calls K p m 1 neg _ _ X x p m neg _ _ l vx true w h3 h2 k3 k2 (hK K (Nat.le_refl _))
end Go.Proofs.YtglikgjaobedbaaDoor.Sp
end

/-! ## OfReal -/
section
namespace Go.Proofs.YtglikgjaobedbaaDoor.Sp
open Go.RowKit Go.Proofs.YtglikgjaobedbaaDoorW.PrintWords Go.Proofs.YtglikgjaobedbaaDoorW.PrintLast Go.Proofs.YtglikgjaobedbaaDoorW.PrintMore Go.Proofs.YtglikgjaobedbaaDoor.Dig
set_option linter.unusedVariables false
set_option linter.unusedSimpArgs false
theorem of_v (A : Option Addr) (mm cc : Nat) (l : List Int) (w : World) (h : Ws w (.slice A mm cc) l) (hl : l.length ≤ 1000000) : Calls Tryd.prog 47 #[.slice A mm cc] w fun e w' => ∃ A' m c r, e = .returned (.slice A' m c) ∧ Kd.V (Kd.int .i64) 3 w' w.heap.size (fun k => w.heap.size ≤ k) (.slice A' m c) r ∧ Cn BH r ∧ ev BH r = ev BW l ∧ Below w.heap.size w w' := by
  obtain ⟨_, _, e1, h2, h3, h4⟩ := h
  injection e1 with e1 e2 e3
  subst e1 e2 e3
  obtain ⟨K, hK⟩ := of_ev l h4 (by omega)
  refine (spec_Of.calls K A cc l _ w h3 h2 (hK K (Nat.le_refl _))).mono ?_
  rintro e w' ⟨v, rfl, hv, hb⟩
  obtain ⟨A', c', rfl⟩ := Kd.V_slice hv
  exact ⟨A', _, c', _, rfl, hv, of16_cn l, of16_ev l h4, hb⟩
set_option maxHeartbeats 3200000 in
set_option maxRecDepth 100000 in
theorem ofReal_c (p m : Int) (neg : Bool) (A : Option Addr) (mm cc : Nat) (x : Int) (X : List Int) (w : World) (h : Ws w (.slice A mm cc) X) (hX : X.length ≤ 1000000) :
    Calls Tryd.prog 23 #[.agg #[.int .u64 p, .int .i64 m, .int .i64 1, .bool neg, .slice A mm cc, .int .i64 x]] w fun e w' => ∃ A' m' c', e = .returned (.agg #[.bool neg, .slice A' m' c', .int .i64 x]) ∧ Dg w' (.slice A' m' c') (ev BW X) ∧ Below w.heap.size w w' := by
  have hu := Tryd.underlying28
  have hu2 := Tryd.underlying40
  have HB0 := Aside0.mk (below_alloc (below_alloc (Below.refl w.heap.size w) (.cells #[.int .u64 p, .int .i64 m, .int .i64 1, .bool neg, .slice A mm cc, .int .i64 x] 28)) (.cells #[.bool false, .slice none 0 0, .int .i64 0] 40))
  have KX := Aside0.mk (show hp ((w.alloc (.cells #[.int .u64 p, .int .i64 m, .int .i64 1, .bool neg, .slice A mm cc, .int .i64 x] 28)).alloc (.cells #[.bool false, .slice none 0 0, .int .i64 0] 40)) w.heap.size = some (.cells #[.int .u64 p, .int .i64 m, .int .i64 1, .bool neg, .slice A mm cc, .int .i64 x] 28 (0, 0)) from (by simp (disch := first | omega | (simp; omega) | (simp; done) | fail) [hp_new, hp_old, hp_here, hp_other, setObj_cells, hp_drew, hp_drewN]))
  have KD := Aside0.mk (show hp ((w.alloc (.cells #[.int .u64 p, .int .i64 m, .int .i64 1, .bool neg, .slice A mm cc, .int .i64 x] 28)).alloc (.cells #[.bool false, .slice none 0 0, .int .i64 0] 40)) (w.heap.size + 1) = some (.cells #[.bool false, .slice none 0 0, .int .i64 0] 40 (0, 0)) from (by simp (disch := first | omega | (simp; omega) | (simp; done) | fail) [hp_new, hp_old, hp_here, hp_other, setObj_cells, hp_drew, hp_drewN]))
  have HOF := Aside0.mk (of_v _ _ _ X _ (h.below (below_drew1 HB0.out)) hX)
  have HBD := Aside0.mk (below_drew1 HB0.out)
  clear h
  go_enter Tryd.func23, Tryd.ntmps23
  go_upto_region 3 with (fail)
  obtain ⟨w1, hw1⟩ : ∃ w1, w1 = (w.alloc (.cells #[.int .u64 p, .int .i64 m, .int .i64 1, .bool neg, .slice A mm cc, .int .i64 x] 28)).alloc (.cells #[.bool false, .slice none 0 0, .int .i64 0] 40) := ⟨_, rfl⟩
  rw [← hw1] at HB0 KX KD HOF HBD ⊢
  clear hw1
  obtain ⟨c0, c1, c2, c3, c4, c5, f0, f1, f2, f3, f4, f5⟩ := blk6 KX.out
  obtain ⟨d0, d1, d2, g0, g1, g2⟩ := blk3 KD.out
  have l1 := hp_lt KX.out
  have l2 := hp_lt KD.out
  refine start_ (n := 9) (S := fun w' => w'.cell? ⟨w.heap.size, 3, none⟩ = some (.bool neg) ∧ w'.cell? ⟨w.heap.size, 4, none⟩ = some (.slice A mm cc) ∧ w'.cell? ⟨w.heap.size, 5, none⟩ = some (.int .i64 x)) (ds := [8]) #[false, false, false, false, false, false, false, false, false] (by kernel_rfl) rfl rfl ⟨(by go_simp), (by go_simp), (by go_simp)⟩ (fun hHeld => ?_)
  refine pure_ (i := 0) (N := some 7) (v := ?_) (a' := ?_) #[true, false, false, false, false, false, false, false, false] rfl rfl (by kernel_rfl) (fun _ _ _ h => h) (Or.inl ⟨by rfl, ?_⟩) ?_ ?_
  rotate_left
  · intro w'
    go_simp
    with_reducible rfl
  rotate_left
  · simp only [Act.put, List.setIfInBounds_toArray, List.set_cons_zero, List.set_cons_succ, i64_w, i32_w]
    rfl
  refine pure_ (i := 2) (N := some 9) (v := ?_) (a' := ?_) #[true, false, true, false, false, false, false, false, false] rfl rfl (by kernel_rfl) (fun _ _ _ h => h) (Or.inl ⟨by rfl, ?_⟩) ?_ ?_
  rotate_left
  · intro w'
    go_simp
    with_reducible rfl
  rotate_left
  · simp only [Act.put, List.setIfInBounds_toArray, List.set_cons_zero, List.set_cons_succ, i64_w, i32_w]
    rfl
  refine pure_ (i := 5) (N := some 12) (v := ?_) (a' := ?_) #[true, false, true, false, false, true, false, false, false] rfl rfl (by kernel_rfl) (fun _ _ _ h => h) (Or.inl ⟨by rfl, ?_⟩) ?_ ?_
  rotate_left
  · intro w'
    go_simp
    with_reducible rfl
  rotate_left
  · simp only [Act.put, List.setIfInBounds_toArray, List.set_cons_zero, List.set_cons_succ, i64_w, i32_w]
    rfl
  refine take_ (i := 1) (N := some 8) (v := ?_) (a' := ?_) #[true, true, true, false, false, true, false, false, false] rfl rfl (by kernel_rfl) (fun _ _ _ h => h) (Or.inl ⟨by rfl, ?_⟩) hHeld ?_ ?_
  rotate_left
  · rintro w' ⟨s0, s1, s2⟩
    go_simp
    with_reducible rfl
  rotate_left
  · simp only [Act.put, List.setIfInBounds_toArray, List.set_cons_zero, List.set_cons_succ, i64_w, i32_w]
    rfl
  refine take_ (i := 3) (N := some 10) (v := ?_) (a' := ?_) #[true, true, true, true, false, true, false, false, false] rfl rfl (by kernel_rfl) (fun _ _ _ h => h) (Or.inl ⟨by rfl, ?_⟩) hHeld ?_ ?_
  rotate_left
  · rintro w' ⟨s0, s1, s2⟩
    go_simp
    with_reducible rfl
  rotate_left
  · simp only [Act.put, List.setIfInBounds_toArray, List.set_cons_zero, List.set_cons_succ, i64_w, i32_w]
    rfl
  refine take_ (i := 6) (N := some 13) (v := ?_) (a' := ?_) #[true, true, true, true, false, true, true, false, false] rfl rfl (by kernel_rfl) (fun _ _ _ h => h) (Or.inl ⟨by rfl, ?_⟩) hHeld ?_ ?_
  rotate_left
  · rintro w' ⟨s0, s1, s2⟩
    go_simp
    with_reducible rfl
  rotate_left
  · simp only [Act.put, List.setIfInBounds_toArray, List.set_cons_zero, List.set_cons_succ, i64_w, i32_w]
    rfl
  refine one_ (i := 4) (N := some 11) #[true, true, true, true, true, true, true, false, false] rfl rfl (by kernel_rfl) (by decide) (fun K hK => ?_)
  refine goes_ Tryd.func47 (by kernel_rfl) rfl #[.slice A mm cc] (by rfl) rfl rfl (by simp only [List.map_toArray, List.map_cons, List.map_nil]; rfl) ?_
  with_reducible refine (HOF.out).mono ?_
  rintro e w2 ⟨A2, m2, k2, r, rfl, hv2, hcn, hev, hb2⟩
  refine ⟨_, rfl, ?_⟩
  have HCN := Aside0.mk hcn
  have HEV := Aside0.mk hev
  have HB2 := Aside0.mk (below_step HBD.out hb2)
  have HV2 := Aside0.mk hv2
  obtain ⟨_, _, _, q3, q4, q5, _, _, _, _, _, _⟩ := blk6 (hp_below (show hp w1.drew w.heap.size = _ from KX.out) hb2)
  have KD2 := Aside0.mk (hp_below (show hp w1.drew (w.heap.size + 1) = _ from KD.out) hb2)
  obtain ⟨r0, r1, r2, r3, r4, r5⟩ := blk3 KD2.out
  have l3 := hp_lt KD2.out
  clear d0 d1 d2 g0 g1 g2 hv2 hb2 hcn hev
  refine hK.out _ _ ⟨q3, q4, q5⟩ (fun hHeld => ?_)
  clear hK K
  refine norm_ (a' := ?_) ?_ ?_
  rotate_left
  · show Act.put _ (some 11) _ = _
    simp only [Act.put, List.setIfInBounds_toArray, List.set_cons_zero, List.set_cons_succ, i64_w, i32_w]
    rfl
  refine pure_ (i := 7) (N := some 14) (v := ?_) (a' := ?_) #[true, true, true, true, true, true, true, true, false] rfl rfl (by kernel_rfl) (fun _ _ _ h => h) (Or.inl ⟨by rfl, ?_⟩) ?_ ?_
  rotate_left
  · intro w'
    go_simp
    with_reducible rfl
  rotate_left
  · simp only [Act.put, List.setIfInBounds_toArray, List.set_cons_zero, List.set_cons_succ, i64_w, i32_w]
    rfl
  refine last_ (i := 8) (N := none) #[true, true, true, true, true, true, true, true, true] rfl rfl (by kernel_rfl) (by decide) (fun K hK => ?_)
  refine skip_ (w1 := ?_) (by rfl) rfl ?_ ?_
  rotate_left
  · go_simp
    rfl
  refine hK.out _ _ ?_
  clear hK K
  refine done_ (by kernel_rfl) ?_
  go_wp2_with (fail)
  refine bodyPost_ret (v := .agg #[.bool neg, .slice A2 m2 k2, .int .i64 x]) (by simp [results, Tryd.results23, go_sem, r0, r1, r2, r3, r4, r5]) rfl ?_
  refine ⟨A2, m2, k2, rfl, ?_, ?_⟩
  · refine Dg.of_V (Kd.V_far (Kd.V_far (Kd.V_far HV2.out ?_ _) ?_ _) ?_ _) HCN.out HEV.out <;> (intro k hk; (try simp at hk); (try simp); omega)
  · exact ((HB2.out.setCell (by simp) _).setCell (by simp) _).setCell (by simp) _
end Go.Proofs.YtglikgjaobedbaaDoor.Sp
end

/-! ## RealL -/
section
namespace Go.Proofs.YtglikgjaobedbaaDoor.Sp
open Go.RowKit Go.Proofs.YtglikgjaobedbaaDoorW.PrintWords Go.Proofs.YtglikgjaobedbaaDoorW.PrintLast Go.Proofs.YtglikgjaobedbaaDoorW.PrintMore Go.Proofs.YtglikgjaobedbaaDoor.Dig
set_option linter.unusedVariables false
set_option linter.unusedSimpArgs false
/-- A valid Real of at most B bits, with an exponent of at most M. -/
def RealOk (B M p m f x : Int) (X : List Int) : Prop :=
  (1 ≤ p ∧ p ≤ B ∧ 0 ≤ m ∧ m ≤ 5) ∧ ((f = 0 ∨ f = 2) ∨ (f = 1 ∧ (X.length : Int) ≤ (p + 63) / 64 ∧ 0 < ev BW X ∧ (∃ b : Nat, Bits (ev BW X) b ∧ (b : Int) ≤ p) ∧ -M ≤ x ∧ x ≤ M))
theorem len_b (A : Option Addr) (mm cc b : Nat) (a : Int) (w : World) (h : Dg w (.slice A mm cc) a) (ha : a < Lim) (hb : Bits a b) : Calls Tryd.prog 48 #[.slice A mm cc] w fun e w' => e = .returned (.int .i64 b) ∧ Below w.heap.size w w' := by
  refine (len_c _ a w h ha).mono ?_
  rintro e w' ⟨n, rfl, hn, _, hb2⟩
  obtain rfl := hn.uniq hb
  exact ⟨rfl, hb2⟩
theorem Dg.pos {w : World} {A : Option Addr} {m c : Nat} {n : Int} (h : Dg w (.slice A m c) n) : 0 < m ↔ 0 < n := by
  obtain ⟨A', c', l, e, h2, h3, h4, h5⟩ := h
  injection e with e1 e2 e3
  subst e2 h5
  constructor
  · intro h; exact Cn_pos h4 BH_pos (List.length_pos_iff.1 h)
  · intro h
    rcases Nat.eq_zero_or_pos l.length with h0 | h0
    · rw [List.eq_nil_of_length_eq_zero h0, ev_nil] at h; omega
    · exact h0
def RLPost (B M p m f x : Int) (X : List Int) (w : World) (e : Ending) (w' : World) : Prop := ∃ r, e = .returned (.bool r) ∧ (r = true → RealOk B M p m f x X) ∧ Below w.heap.size w w'
set_option maxHeartbeats 6400000 in
set_option maxRecDepth 100000 in
theorem real_l (B M p m f x : Int) (neg : Bool) (A : Option Addr) (cc : Nat) (X : List Int) (w : World) (h : Ws w (.slice A X.length cc) X) (hB : 1 ≤ B ∧ B ≤ 100000) (hM : 0 ≤ M ∧ M ≤ 500000000) (hpp : 0 ≤ p) :
    Calls Tryd.prog 21 #[.agg #[.int .u64 p, .int .i64 m, .int .i64 f, .bool neg, .slice A X.length cc, .int .i64 x], .int .u64 B, .int .i64 M] w (RLPost B M p m f x X w) := by
  have hu := Tryd.underlying28
  have HB := Aside0.mk (below_alloc (Below.refl w.heap.size w) (.cells #[.int .u64 p, .int .i64 m, .int .i64 f, .bool neg, .slice A X.length cc, .int .i64 x] 28))
  have KX := Aside0.mk (show hp (w.alloc (.cells #[.int .u64 p, .int .i64 m, .int .i64 f, .bool neg, .slice A X.length cc, .int .i64 x] 28)) w.heap.size = some (.cells #[.int .u64 p, .int .i64 m, .int .i64 f, .bool neg, .slice A X.length cc, .int .i64 x] 28 (0, 0)) from (by simp (disch := first | omega | (simp; omega) | (simp; done) | fail) [hp_new, hp_old, hp_here, hp_other, setObj_cells, hp_drew, hp_drewN]))
  have HX := Aside0.mk (h.below HB.out)
  have HW := Aside0.mk (show okd BW X from by obtain ⟨_, _, _, _, _, h4⟩ := h; exact h4)
  clear h
  by_cases a1 : p < 1
  · have d1 : decide (p < 1) = true := decide_eq_true (by omega)
    go_enter Tryd.func21, Tryd.ntmps21
    go_wp2_with (fail)
    go_ret
    exact ⟨_, rfl, by simp, HB.out⟩
  by_cases a2 : B < p
  · have d1 : decide (p < 1) = false := decide_eq_false (by omega)
    have d2 : decide (B < p) = true := decide_eq_true (by omega)
    go_enter Tryd.func21, Tryd.ntmps21
    go_wp2_with (fail)
    go_ret
    exact ⟨_, rfl, by simp, HB.out⟩
  by_cases a3 : m < 0
  · have d1 : decide (p < 1) = false := decide_eq_false (by omega)
    have d2 : decide (B < p) = false := decide_eq_false (by omega)
    have d3 : decide (m < 0) = true := decide_eq_true (by omega)
    go_enter Tryd.func21, Tryd.ntmps21
    go_wp2_with (fail)
    go_ret
    exact ⟨_, rfl, by simp, HB.out⟩
  by_cases a4 : 5 < m
  · have d1 : decide (p < 1) = false := decide_eq_false (by omega)
    have d2 : decide (B < p) = false := decide_eq_false (by omega)
    have d3 : decide (m < 0) = false := decide_eq_false (by omega)
    have d4 : decide (5 < m) = true := decide_eq_true (by omega)
    go_enter Tryd.func21, Tryd.ntmps21
    go_wp2_with (fail)
    go_ret
    exact ⟨_, rfl, by simp, HB.out⟩
  have d1 : decide (p < 1) = false := decide_eq_false (by omega)
  have d2 : decide (B < p) = false := decide_eq_false (by omega)
  have d3 : decide (m < 0) = false := decide_eq_false (by omega)
  have d4 : decide (5 < m) = false := decide_eq_false (by omega)
  by_cases f1 : f = 1
  case neg =>
    have e1 : (f != 1) = true := by simp [f1]
    by_cases f0 : f = 0
    · subst f0
      go_enter Tryd.func21, Tryd.ntmps21
      go_wp2_with (fail)
      go_ret
      exact ⟨_, rfl, fun _ => ⟨⟨by omega, by omega, by omega, by omega⟩, .inl (.inl rfl)⟩, HB.out⟩
    · have e2 : (f == 0) = false := by simp [f0]
      go_enter Tryd.func21, Tryd.ntmps21
      go_wp2_with (fail)
      go_ret
      exact ⟨_, rfl, fun h => ⟨⟨by omega, by omega, by omega, by omega⟩, .inl (.inr (by simpa using h))⟩, HB.out⟩
  subst f1
  have hw1 : IntKind.u64.wrap (p + 63) = p + 63 := by rw [IntKind.wrap_u64]; omega
  have hw2 : IntKind.i64.wrap (p + 63) = p + 63 := IntWalk.i64_in _ (by omega)
  have hw3 : IntKind.i64.wrap p = p := IntWalk.i64_in _ (by omega)
  have hw4 : IntKind.i64.wrap (-M) = -M := IntWalk.i64_in _ (by omega)
  have hp63 : 0 ≤ p + 63 := by omega
  by_cases a5 : (p + 63) / 64 < (X.length : Int)
  · have d5 : decide ((p + 63) / 64 < (X.length : Int)) = true := decide_eq_true a5
    go_enter Tryd.func21, Tryd.ntmps21
    go_wp2_with (fail)
    go_ret
    exact ⟨_, rfl, by simp, HB.out⟩
  have d5 : decide ((p + 63) / 64 < (X.length : Int)) = false := decide_eq_false a5
  have HLL := Aside0.mk (show (X.length : Int) ≤ (p + 63) / 64 by omega)
  have HLM := Aside0.mk (show ev BW X < Lim from words_Lim HW.out (by omega))
  have HOF := Aside0.mk (of_v A X.length cc X _ HX.out (by omega))
  clear hp63
  go_enter Tryd.func21, Tryd.ntmps21
  go_wp2_with (fail)
  refine (HOF.out).mono ?_
  rintro e w2 ⟨A2, m2, k2, r, rfl, hv2, hcn, hev, hb2⟩
  have HD := Aside0.mk (show Dg w2 (.slice A2 m2 k2) (ev BW X) from Dg.of_V hv2 hcn hev)
  have HB2 := Aside0.mk (below_step HB.out hb2)
  have KX2 := Aside0.mk (hp_below KX.out hb2)
  have hpos := HD.out.pos
  clear hv2 hcn hev hb2 HB KX HX HOF
  obtain ⟨c0, c1, c2, c3, c4, c5, g0, g1, g2, g3, g4, g5⟩ := blk6 KX2.out
  have l1 := hp_lt KX2.out
  by_cases v0 : 0 < ev BW X
  case neg =>
    have hm2 : m2 = 0 := by have := hpos.1; omega
    subst hm2
    have d6 : decide ((0 : Int) < ((0 : Nat) : Int)) = false := by decide
    go_upto_region 8 with (fail)
    refine start_ (n := 25) (S := fun w' => w'.cell? ⟨w.heap.size, 0, none⟩ = some (.int .u64 p) ∧ w'.cell? ⟨w.heap.size, 5, none⟩ = some (.int .i64 x)) (ds := []) #[false, false, false, false, false, false, false, false, false, false, false, false, false, false, false, false, false, false, false, false, false, false, false, false, false] (by kernel_rfl) rfl rfl ⟨(by go_simp), (by go_simp)⟩ (fun hHeld => ?_)
    refine pure_ (i := 0) (N := some 50) (v := ?_) (a' := ?_) #[true, false, false, false, false, false, false, false, false, false, false, false, false, false, false, false, false, false, false, false, false, false, false, false, false] rfl rfl (by kernel_rfl) (fun _ _ _ h => h) (Or.inl ⟨by rfl, ?_⟩) ?_ ?_
    rotate_left
    · intro w'
      go_simp
      with_reducible rfl
    rotate_left
    · simp only [Act.put, List.setIfInBounds_toArray, List.set_cons_zero, List.set_cons_succ, i64_w, i32_w]
      rfl
    refine pure_ (i := 1) (N := some 51) (v := ?_) (a' := ?_) #[true, true, false, false, false, false, false, false, false, false, false, false, false, false, false, false, false, false, false, false, false, false, false, false, false] rfl rfl (by kernel_rfl) (fun _ _ _ h => h) (Or.inl ⟨by rfl, ?_⟩) ?_ ?_
    rotate_left
    · intro w'
      go_simp
      with_reducible rfl
    rotate_left
    · simp only [Act.put, List.setIfInBounds_toArray, List.set_cons_zero, List.set_cons_succ, i64_w, i32_w]
      rfl
    refine pure_ (i := 2) (N := some 52) (v := ?_) (a' := ?_) #[true, true, true, false, false, false, false, false, false, false, false, false, false, false, false, false, false, false, false, false, false, false, false, false, false] rfl rfl (by kernel_rfl) (fun _ _ _ h => h) (Or.inl ⟨by rfl, ?_⟩) ?_ ?_
    rotate_left
    · intro w'
      go_simp
      with_reducible rfl
    rotate_left
    · simp only [Act.put, List.setIfInBounds_toArray, List.set_cons_zero, List.set_cons_succ, i64_w, i32_w]
      rfl
    refine pure_ (i := 3) (N := some 53) (v := ?_) (a' := ?_) #[true, true, true, true, false, false, false, false, false, false, false, false, false, false, false, false, false, false, false, false, false, false, false, false, false] rfl rfl (by kernel_rfl) (fun _ _ _ h => h) (Or.inl ⟨by rfl, ?_⟩) ?_ ?_
    rotate_left
    · intro w'
      go_simp
      with_reducible rfl
    rotate_left
    · simp only [Act.put, List.setIfInBounds_toArray, List.set_cons_zero, List.set_cons_succ, i64_w, i32_w]
      rfl
    refine pure_ (i := 4) (N := some 54) (v := undef) (a' := ?_) #[true, true, true, true, true, false, false, false, false, false, false, false, false, false, false, false, false, false, false, false, false, false, false, false, false] rfl rfl (by kernel_rfl) (fun _ _ _ h => h) (Or.inr ⟨by rfl, rfl⟩) ?_ ?_
    rotate_left
    · simp only [Act.put, List.setIfInBounds_toArray, List.set_cons_zero, List.set_cons_succ, i64_w, i32_w]
      rfl
    refine pure_ (i := 5) (N := some 55) (v := undef) (a' := ?_) #[true, true, true, true, true, true, false, false, false, false, false, false, false, false, false, false, false, false, false, false, false, false, false, false, false] rfl rfl (by kernel_rfl) (fun _ _ _ h => h) (Or.inr ⟨by rfl, rfl⟩) ?_ ?_
    rotate_left
    · simp only [Act.put, List.setIfInBounds_toArray, List.set_cons_zero, List.set_cons_succ, i64_w, i32_w]
      rfl
    refine pure_ (i := 6) (N := some 56) (v := undef) (a' := ?_) #[true, true, true, true, true, true, true, false, false, false, false, false, false, false, false, false, false, false, false, false, false, false, false, false, false] rfl rfl (by kernel_rfl) (fun _ _ _ h => h) (Or.inr ⟨by rfl, rfl⟩) ?_ ?_
    rotate_left
    · simp only [Act.put, List.setIfInBounds_toArray, List.set_cons_zero, List.set_cons_succ, i64_w, i32_w]
      rfl
    refine pure_ (i := 7) (N := some 57) (v := undef) (a' := ?_) #[true, true, true, true, true, true, true, true, false, false, false, false, false, false, false, false, false, false, false, false, false, false, false, false, false] rfl rfl (by kernel_rfl) (fun _ _ _ h => h) (Or.inr ⟨by rfl, rfl⟩) ?_ ?_
    rotate_left
    · simp only [Act.put, List.setIfInBounds_toArray, List.set_cons_zero, List.set_cons_succ, i64_w, i32_w]
      rfl
    refine pure_ (i := 8) (N := some 58) (v := undef) (a' := ?_) #[true, true, true, true, true, true, true, true, true, false, false, false, false, false, false, false, false, false, false, false, false, false, false, false, false] rfl rfl (by kernel_rfl) (fun _ _ _ h => h) (Or.inr ⟨by rfl, rfl⟩) ?_ ?_
    rotate_left
    · simp only [Act.put, List.setIfInBounds_toArray, List.set_cons_zero, List.set_cons_succ, i64_w, i32_w]
      rfl
    refine pure_ (i := 9) (N := some 59) (v := undef) (a' := ?_) #[true, true, true, true, true, true, true, true, true, true, false, false, false, false, false, false, false, false, false, false, false, false, false, false, false] rfl rfl (by kernel_rfl) (fun _ _ _ h => h) (Or.inr ⟨by rfl, rfl⟩) ?_ ?_
    rotate_left
    · simp only [Act.put, List.setIfInBounds_toArray, List.set_cons_zero, List.set_cons_succ, i64_w, i32_w]
      rfl
    refine pure_ (i := 10) (N := some 60) (v := ?_) (a' := ?_) #[true, true, true, true, true, true, true, true, true, true, true, false, false, false, false, false, false, false, false, false, false, false, false, false, false] rfl rfl (by kernel_rfl) (fun _ _ _ h => h) (Or.inl ⟨by rfl, ?_⟩) ?_ ?_
    rotate_left
    · intro w'
      go_simp
      with_reducible rfl
    rotate_left
    · simp only [Act.put, List.setIfInBounds_toArray, List.set_cons_zero, List.set_cons_succ, i64_w, i32_w]
      rfl
    refine pure_ (i := 11) (N := some 61) (v := ?_) (a' := ?_) #[true, true, true, true, true, true, true, true, true, true, true, true, false, false, false, false, false, false, false, false, false, false, false, false, false] rfl rfl (by kernel_rfl) (fun _ _ _ h => h) (Or.inl ⟨by rfl, ?_⟩) ?_ ?_
    rotate_left
    · intro w'
      go_simp
      with_reducible rfl
    rotate_left
    · simp only [Act.put, List.setIfInBounds_toArray, List.set_cons_zero, List.set_cons_succ, i64_w, i32_w]
      rfl
    refine pure_ (i := 12) (N := some 62) (v := undef) (a' := ?_) #[true, true, true, true, true, true, true, true, true, true, true, true, true, false, false, false, false, false, false, false, false, false, false, false, false] rfl rfl (by kernel_rfl) (fun _ _ _ h => h) (Or.inr ⟨by rfl, rfl⟩) ?_ ?_
    rotate_left
    · simp only [Act.put, List.setIfInBounds_toArray, List.set_cons_zero, List.set_cons_succ, i64_w, i32_w]
      rfl
    refine pure_ (i := 13) (N := some 63) (v := undef) (a' := ?_) #[true, true, true, true, true, true, true, true, true, true, true, true, true, true, false, false, false, false, false, false, false, false, false, false, false] rfl rfl (by kernel_rfl) (fun _ _ _ h => h) (Or.inr ⟨by rfl, rfl⟩) ?_ ?_
    rotate_left
    · simp only [Act.put, List.setIfInBounds_toArray, List.set_cons_zero, List.set_cons_succ, i64_w, i32_w]
      rfl
    refine pure_ (i := 14) (N := some 64) (v := undef) (a' := ?_) #[true, true, true, true, true, true, true, true, true, true, true, true, true, true, true, false, false, false, false, false, false, false, false, false, false] rfl rfl (by kernel_rfl) (fun _ _ _ h => h) (Or.inr ⟨by rfl, rfl⟩) ?_ ?_
    rotate_left
    · simp only [Act.put, List.setIfInBounds_toArray, List.set_cons_zero, List.set_cons_succ, i64_w, i32_w]
      rfl
    refine pure_ (i := 15) (N := some 65) (v := undef) (a' := ?_) #[true, true, true, true, true, true, true, true, true, true, true, true, true, true, true, true, false, false, false, false, false, false, false, false, false] rfl rfl (by kernel_rfl) (fun _ _ _ h => h) (Or.inr ⟨by rfl, rfl⟩) ?_ ?_
    rotate_left
    · simp only [Act.put, List.setIfInBounds_toArray, List.set_cons_zero, List.set_cons_succ, i64_w, i32_w]
      rfl
    refine pure_ (i := 16) (N := some 66) (v := undef) (a' := ?_) #[true, true, true, true, true, true, true, true, true, true, true, true, true, true, true, true, true, false, false, false, false, false, false, false, false] rfl rfl (by kernel_rfl) (fun _ _ _ h => h) (Or.inr ⟨by rfl, rfl⟩) ?_ ?_
    rotate_left
    · simp only [Act.put, List.setIfInBounds_toArray, List.set_cons_zero, List.set_cons_succ, i64_w, i32_w]
      rfl
    refine pure_ (i := 17) (N := some 67) (v := ?_) (a' := ?_) #[true, true, true, true, true, true, true, true, true, true, true, true, true, true, true, true, true, true, false, false, false, false, false, false, false] rfl rfl (by kernel_rfl) (fun _ _ _ h => h) (Or.inl ⟨by rfl, ?_⟩) ?_ ?_
    rotate_left
    · intro w'
      go_simp
      with_reducible rfl
    rotate_left
    · simp only [Act.put, List.setIfInBounds_toArray, List.set_cons_zero, List.set_cons_succ, i64_w, i32_w]
      rfl
    refine pure_ (i := 18) (N := some 68) (v := ?_) (a' := ?_) #[true, true, true, true, true, true, true, true, true, true, true, true, true, true, true, true, true, true, true, false, false, false, false, false, false] rfl rfl (by kernel_rfl) (fun _ _ _ h => h) (Or.inl ⟨by rfl, ?_⟩) ?_ ?_
    rotate_left
    · intro w'
      go_simp
      with_reducible rfl
    rotate_left
    · simp only [Act.put, List.setIfInBounds_toArray, List.set_cons_zero, List.set_cons_succ, i64_w, i32_w]
      rfl
    refine pure_ (i := 19) (N := some 69) (v := undef) (a' := ?_) #[true, true, true, true, true, true, true, true, true, true, true, true, true, true, true, true, true, true, true, true, false, false, false, false, false] rfl rfl (by kernel_rfl) (fun _ _ _ h => h) (Or.inr ⟨by rfl, rfl⟩) ?_ ?_
    rotate_left
    · simp only [Act.put, List.setIfInBounds_toArray, List.set_cons_zero, List.set_cons_succ, i64_w, i32_w]
      rfl
    refine pure_ (i := 20) (N := some 70) (v := undef) (a' := ?_) #[true, true, true, true, true, true, true, true, true, true, true, true, true, true, true, true, true, true, true, true, true, false, false, false, false] rfl rfl (by kernel_rfl) (fun _ _ _ h => h) (Or.inr ⟨by rfl, rfl⟩) ?_ ?_
    rotate_left
    · simp only [Act.put, List.setIfInBounds_toArray, List.set_cons_zero, List.set_cons_succ, i64_w, i32_w]
      rfl
    refine pure_ (i := 21) (N := some 71) (v := undef) (a' := ?_) #[true, true, true, true, true, true, true, true, true, true, true, true, true, true, true, true, true, true, true, true, true, true, false, false, false] rfl rfl (by kernel_rfl) (fun _ _ _ h => h) (Or.inr ⟨by rfl, rfl⟩) ?_ ?_
    rotate_left
    · simp only [Act.put, List.setIfInBounds_toArray, List.set_cons_zero, List.set_cons_succ, i64_w, i32_w]
      rfl
    refine pure_ (i := 22) (N := some 72) (v := undef) (a' := ?_) #[true, true, true, true, true, true, true, true, true, true, true, true, true, true, true, true, true, true, true, true, true, true, true, false, false] rfl rfl (by kernel_rfl) (fun _ _ _ h => h) (Or.inr ⟨by rfl, rfl⟩) ?_ ?_
    rotate_left
    · simp only [Act.put, List.setIfInBounds_toArray, List.set_cons_zero, List.set_cons_succ, i64_w, i32_w]
      rfl
    refine pure_ (i := 23) (N := some 73) (v := ?_) (a' := ?_) #[true, true, true, true, true, true, true, true, true, true, true, true, true, true, true, true, true, true, true, true, true, true, true, true, false] rfl rfl (by kernel_rfl) (fun _ _ _ h => h) (Or.inl ⟨by rfl, ?_⟩) ?_ ?_
    rotate_left
    · intro w'
      go_simp
      with_reducible rfl
    rotate_left
    · simp only [Act.put, List.setIfInBounds_toArray, List.set_cons_zero, List.set_cons_succ, i64_w, i32_w]
      rfl
    refine pure_ (i := 24) (N := some 6) (v := ?_) (a' := ?_) #[true, true, true, true, true, true, true, true, true, true, true, true, true, true, true, true, true, true, true, true, true, true, true, true, true] rfl rfl (by kernel_rfl) (fun _ _ _ h => h) (Or.inl ⟨by rfl, ?_⟩) ?_ ?_
    rotate_left
    · intro w'
      go_simp
      with_reducible rfl
    rotate_left
    · simp only [Act.put, List.setIfInBounds_toArray, List.set_cons_zero, List.set_cons_succ, i64_w, i32_w]
      rfl
    refine done_ (by kernel_rfl) ?_
    go_wp2_with (fail)
    go_ret
    exact ⟨_, rfl, by simp, HB2.out.drew⟩
  obtain ⟨b, hb⟩ := Bits.exists (ev BW X) (by omega)
  have hm2 : 0 < m2 := hpos.2 v0
  have d6 : decide ((0 : Int) < (m2 : Int)) = true := decide_eq_true (by omega)
  have HBD := Aside0.mk (below_drew1 HB2.out)
  have HLN := Aside0.mk (len_b A2 m2 k2 b (ev BW X) w2.drew (HD.out.below (below_drew (Below.refl _ _))) HLM.out hb)
  have HBB := Aside0.mk hb
  have HV0 := Aside0.mk v0
  clear hb hpos v0
  by_cases a7 : (b : Int) ≤ p
  case neg =>
    have d7 : decide ((b : Int) ≤ p) = false := decide_eq_false a7
    go_upto_region 8 with (fail)
    refine start_ (n := 25) (S := fun w' => w'.cell? ⟨w.heap.size, 0, none⟩ = some (.int .u64 p) ∧ w'.cell? ⟨w.heap.size, 5, none⟩ = some (.int .i64 x)) (ds := []) #[false, false, false, false, false, false, false, false, false, false, false, false, false, false, false, false, false, false, false, false, false, false, false, false, false] (by kernel_rfl) rfl rfl ⟨(by go_simp), (by go_simp)⟩ (fun hHeld => ?_)
    refine pure_ (i := 0) (N := some 50) (v := ?_) (a' := ?_) #[true, false, false, false, false, false, false, false, false, false, false, false, false, false, false, false, false, false, false, false, false, false, false, false, false] rfl rfl (by kernel_rfl) (fun _ _ _ h => h) (Or.inl ⟨by rfl, ?_⟩) ?_ ?_
    rotate_left
    · intro w'
      go_simp
      with_reducible rfl
    rotate_left
    · simp only [Act.put, List.setIfInBounds_toArray, List.set_cons_zero, List.set_cons_succ, i64_w, i32_w]
      rfl
    refine pure_ (i := 1) (N := some 51) (v := ?_) (a' := ?_) #[true, true, false, false, false, false, false, false, false, false, false, false, false, false, false, false, false, false, false, false, false, false, false, false, false] rfl rfl (by kernel_rfl) (fun _ _ _ h => h) (Or.inl ⟨by rfl, ?_⟩) ?_ ?_
    rotate_left
    · intro w'
      go_simp
      with_reducible rfl
    rotate_left
    · simp only [Act.put, List.setIfInBounds_toArray, List.set_cons_zero, List.set_cons_succ, i64_w, i32_w]
      rfl
    refine pure_ (i := 2) (N := some 52) (v := ?_) (a' := ?_) #[true, true, true, false, false, false, false, false, false, false, false, false, false, false, false, false, false, false, false, false, false, false, false, false, false] rfl rfl (by kernel_rfl) (fun _ _ _ h => h) (Or.inl ⟨by rfl, ?_⟩) ?_ ?_
    rotate_left
    · intro w'
      go_simp
      with_reducible rfl
    rotate_left
    · simp only [Act.put, List.setIfInBounds_toArray, List.set_cons_zero, List.set_cons_succ, i64_w, i32_w]
      rfl
    refine pure_ (i := 3) (N := some 53) (v := ?_) (a' := ?_) #[true, true, true, true, false, false, false, false, false, false, false, false, false, false, false, false, false, false, false, false, false, false, false, false, false] rfl rfl (by kernel_rfl) (fun _ _ _ h => h) (Or.inl ⟨by rfl, ?_⟩) ?_ ?_
    rotate_left
    · intro w'
      go_simp
      with_reducible rfl
    rotate_left
    · simp only [Act.put, List.setIfInBounds_toArray, List.set_cons_zero, List.set_cons_succ, i64_w, i32_w]
      rfl
    refine pure_ (i := 4) (N := some 54) (v := ?_) (a' := ?_) #[true, true, true, true, true, false, false, false, false, false, false, false, false, false, false, false, false, false, false, false, false, false, false, false, false] rfl rfl (by kernel_rfl) (fun _ _ _ h => h) (Or.inl ⟨by rfl, ?_⟩) ?_ ?_
    rotate_left
    · intro w'
      go_simp
      with_reducible rfl
    rotate_left
    · simp only [Act.put, List.setIfInBounds_toArray, List.set_cons_zero, List.set_cons_succ, i64_w, i32_w]
      rfl
    refine pure_ (i := 6) (N := some 56) (v := ?_) (a' := ?_) #[true, true, true, true, true, false, true, false, false, false, false, false, false, false, false, false, false, false, false, false, false, false, false, false, false] rfl rfl (by kernel_rfl) (fun _ _ _ h => h) (Or.inl ⟨by rfl, ?_⟩) ?_ ?_
    rotate_left
    · intro w'
      go_simp
      with_reducible rfl
    rotate_left
    · simp only [Act.put, List.setIfInBounds_toArray, List.set_cons_zero, List.set_cons_succ, i64_w, i32_w]
      rfl
    refine take_ (i := 7) (N := some 57) (v := ?_) (a' := ?_) #[true, true, true, true, true, false, true, true, false, false, false, false, false, false, false, false, false, false, false, false, false, false, false, false, false] rfl rfl (by kernel_rfl) (fun _ _ _ h => h) (Or.inl ⟨by rfl, ?_⟩) hHeld ?_ ?_
    rotate_left
    · rintro w' ⟨s0, s1⟩
      go_simp
      with_reducible rfl
    rotate_left
    · simp only [Act.put, List.setIfInBounds_toArray, List.set_cons_zero, List.set_cons_succ, i64_w, i32_w]
      rfl
    refine pure_ (i := 8) (N := some 58) (v := ?_) (a' := ?_) #[true, true, true, true, true, false, true, true, true, false, false, false, false, false, false, false, false, false, false, false, false, false, false, false, false] rfl rfl (by kernel_rfl) (fun _ _ _ h => h) (Or.inl ⟨by rfl, ?_⟩) ?_ ?_
    rotate_left
    · intro w'
      go_simp
      with_reducible rfl
    rotate_left
    · simp only [Act.put, List.setIfInBounds_toArray, List.set_cons_zero, List.set_cons_succ, i64_w, i32_w]
      rfl
    refine one_ (i := 5) (N := some 55) #[true, true, true, true, true, true, true, true, true, false, false, false, false, false, false, false, false, false, false, false, false, false, false, false, false] rfl rfl (by kernel_rfl) (by decide) (fun K hK => ?_)
    refine goes_ Tryd.func48 (by kernel_rfl) rfl #[.slice A2 m2 k2] (by rfl) rfl rfl (by simp only [List.map_toArray, List.map_cons, List.map_nil]; rfl) ?_
    with_reducible refine (HLN.out).mono ?_
    rintro e w3 ⟨rfl, hb3⟩
    refine ⟨_, rfl, ?_⟩
    have HB3 := Aside0.mk (below_step HBD.out hb3)
    obtain ⟨y0, _, _, _, _, y5, _, _, _, _, _, _⟩ := blk6 (hp_below (show hp w2.drew w.heap.size = _ from KX2.out) hb3)
    refine hK.out _ _ ⟨y0, y5⟩ (fun hHeld => ?_)
    clear hK K
    refine norm_ (a' := ?_) ?_ ?_
    rotate_left
    · show Act.put _ (some 55) _ = _
      simp only [Act.put, List.setIfInBounds_toArray, List.set_cons_zero, List.set_cons_succ, i64_w, i32_w]
      rfl
    refine pure_ (i := 9) (N := some 59) (v := ?_) (a' := ?_) #[true, true, true, true, true, true, true, true, true, true, false, false, false, false, false, false, false, false, false, false, false, false, false, false, false] rfl rfl (by kernel_rfl) (fun _ _ _ h => h) (Or.inl ⟨by rfl, ?_⟩) ?_ ?_
    rotate_left
    · intro w'
      go_simp
      with_reducible rfl
    rotate_left
    · simp only [Act.put, List.setIfInBounds_toArray, List.set_cons_zero, List.set_cons_succ, i64_w, i32_w]
      rfl
    refine pure_ (i := 10) (N := some 60) (v := ?_) (a' := ?_) #[true, true, true, true, true, true, true, true, true, true, true, false, false, false, false, false, false, false, false, false, false, false, false, false, false] rfl rfl (by kernel_rfl) (fun _ _ _ h => h) (Or.inl ⟨by rfl, ?_⟩) ?_ ?_
    rotate_left
    · intro w'
      go_simp
      with_reducible rfl
    rotate_left
    · simp only [Act.put, List.setIfInBounds_toArray, List.set_cons_zero, List.set_cons_succ, i64_w, i32_w]
      rfl
    refine pure_ (i := 11) (N := some 61) (v := ?_) (a' := ?_) #[true, true, true, true, true, true, true, true, true, true, true, true, false, false, false, false, false, false, false, false, false, false, false, false, false] rfl rfl (by kernel_rfl) (fun _ _ _ h => h) (Or.inl ⟨by rfl, ?_⟩) ?_ ?_
    rotate_left
    · intro w'
      go_simp
      with_reducible rfl
    rotate_left
    · simp only [Act.put, List.setIfInBounds_toArray, List.set_cons_zero, List.set_cons_succ, i64_w, i32_w]
      rfl
    refine pure_ (i := 12) (N := some 62) (v := undef) (a' := ?_) #[true, true, true, true, true, true, true, true, true, true, true, true, true, false, false, false, false, false, false, false, false, false, false, false, false] rfl rfl (by kernel_rfl) (fun _ _ _ h => h) (Or.inr ⟨by rfl, rfl⟩) ?_ ?_
    rotate_left
    · simp only [Act.put, List.setIfInBounds_toArray, List.set_cons_zero, List.set_cons_succ, i64_w, i32_w]
      rfl
    refine pure_ (i := 13) (N := some 63) (v := undef) (a' := ?_) #[true, true, true, true, true, true, true, true, true, true, true, true, true, true, false, false, false, false, false, false, false, false, false, false, false] rfl rfl (by kernel_rfl) (fun _ _ _ h => h) (Or.inr ⟨by rfl, rfl⟩) ?_ ?_
    rotate_left
    · simp only [Act.put, List.setIfInBounds_toArray, List.set_cons_zero, List.set_cons_succ, i64_w, i32_w]
      rfl
    refine pure_ (i := 14) (N := some 64) (v := undef) (a' := ?_) #[true, true, true, true, true, true, true, true, true, true, true, true, true, true, true, false, false, false, false, false, false, false, false, false, false] rfl rfl (by kernel_rfl) (fun _ _ _ h => h) (Or.inr ⟨by rfl, rfl⟩) ?_ ?_
    rotate_left
    · simp only [Act.put, List.setIfInBounds_toArray, List.set_cons_zero, List.set_cons_succ, i64_w, i32_w]
      rfl
    refine pure_ (i := 15) (N := some 65) (v := undef) (a' := ?_) #[true, true, true, true, true, true, true, true, true, true, true, true, true, true, true, true, false, false, false, false, false, false, false, false, false] rfl rfl (by kernel_rfl) (fun _ _ _ h => h) (Or.inr ⟨by rfl, rfl⟩) ?_ ?_
    rotate_left
    · simp only [Act.put, List.setIfInBounds_toArray, List.set_cons_zero, List.set_cons_succ, i64_w, i32_w]
      rfl
    refine pure_ (i := 16) (N := some 66) (v := undef) (a' := ?_) #[true, true, true, true, true, true, true, true, true, true, true, true, true, true, true, true, true, false, false, false, false, false, false, false, false] rfl rfl (by kernel_rfl) (fun _ _ _ h => h) (Or.inr ⟨by rfl, rfl⟩) ?_ ?_
    rotate_left
    · simp only [Act.put, List.setIfInBounds_toArray, List.set_cons_zero, List.set_cons_succ, i64_w, i32_w]
      rfl
    refine pure_ (i := 17) (N := some 67) (v := ?_) (a' := ?_) #[true, true, true, true, true, true, true, true, true, true, true, true, true, true, true, true, true, true, false, false, false, false, false, false, false] rfl rfl (by kernel_rfl) (fun _ _ _ h => h) (Or.inl ⟨by rfl, ?_⟩) ?_ ?_
    rotate_left
    · intro w'
      go_simp
      with_reducible rfl
    rotate_left
    · simp only [Act.put, List.setIfInBounds_toArray, List.set_cons_zero, List.set_cons_succ, i64_w, i32_w]
      rfl
    refine pure_ (i := 18) (N := some 68) (v := ?_) (a' := ?_) #[true, true, true, true, true, true, true, true, true, true, true, true, true, true, true, true, true, true, true, false, false, false, false, false, false] rfl rfl (by kernel_rfl) (fun _ _ _ h => h) (Or.inl ⟨by rfl, ?_⟩) ?_ ?_
    rotate_left
    · intro w'
      go_simp
      with_reducible rfl
    rotate_left
    · simp only [Act.put, List.setIfInBounds_toArray, List.set_cons_zero, List.set_cons_succ, i64_w, i32_w]
      rfl
    refine pure_ (i := 19) (N := some 69) (v := undef) (a' := ?_) #[true, true, true, true, true, true, true, true, true, true, true, true, true, true, true, true, true, true, true, true, false, false, false, false, false] rfl rfl (by kernel_rfl) (fun _ _ _ h => h) (Or.inr ⟨by rfl, rfl⟩) ?_ ?_
    rotate_left
    · simp only [Act.put, List.setIfInBounds_toArray, List.set_cons_zero, List.set_cons_succ, i64_w, i32_w]
      rfl
    refine pure_ (i := 20) (N := some 70) (v := undef) (a' := ?_) #[true, true, true, true, true, true, true, true, true, true, true, true, true, true, true, true, true, true, true, true, true, false, false, false, false] rfl rfl (by kernel_rfl) (fun _ _ _ h => h) (Or.inr ⟨by rfl, rfl⟩) ?_ ?_
    rotate_left
    · simp only [Act.put, List.setIfInBounds_toArray, List.set_cons_zero, List.set_cons_succ, i64_w, i32_w]
      rfl
    refine pure_ (i := 21) (N := some 71) (v := undef) (a' := ?_) #[true, true, true, true, true, true, true, true, true, true, true, true, true, true, true, true, true, true, true, true, true, true, false, false, false] rfl rfl (by kernel_rfl) (fun _ _ _ h => h) (Or.inr ⟨by rfl, rfl⟩) ?_ ?_
    rotate_left
    · simp only [Act.put, List.setIfInBounds_toArray, List.set_cons_zero, List.set_cons_succ, i64_w, i32_w]
      rfl
    refine pure_ (i := 22) (N := some 72) (v := undef) (a' := ?_) #[true, true, true, true, true, true, true, true, true, true, true, true, true, true, true, true, true, true, true, true, true, true, true, false, false] rfl rfl (by kernel_rfl) (fun _ _ _ h => h) (Or.inr ⟨by rfl, rfl⟩) ?_ ?_
    rotate_left
    · simp only [Act.put, List.setIfInBounds_toArray, List.set_cons_zero, List.set_cons_succ, i64_w, i32_w]
      rfl
    refine pure_ (i := 23) (N := some 73) (v := ?_) (a' := ?_) #[true, true, true, true, true, true, true, true, true, true, true, true, true, true, true, true, true, true, true, true, true, true, true, true, false] rfl rfl (by kernel_rfl) (fun _ _ _ h => h) (Or.inl ⟨by rfl, ?_⟩) ?_ ?_
    rotate_left
    · intro w'
      go_simp
      with_reducible rfl
    rotate_left
    · simp only [Act.put, List.setIfInBounds_toArray, List.set_cons_zero, List.set_cons_succ, i64_w, i32_w]
      rfl
    refine pure_ (i := 24) (N := some 6) (v := ?_) (a' := ?_) #[true, true, true, true, true, true, true, true, true, true, true, true, true, true, true, true, true, true, true, true, true, true, true, true, true] rfl rfl (by kernel_rfl) (fun _ _ _ h => h) (Or.inl ⟨by rfl, ?_⟩) ?_ ?_
    rotate_left
    · intro w'
      go_simp
      with_reducible rfl
    rotate_left
    · simp only [Act.put, List.setIfInBounds_toArray, List.set_cons_zero, List.set_cons_succ, i64_w, i32_w]
      rfl
    refine done_ (by kernel_rfl) ?_
    go_wp2_with (fail)
    go_ret
    exact ⟨_, rfl, by simp, HB3.out⟩
  have d7 : decide ((b : Int) ≤ p) = true := decide_eq_true a7
  by_cases a8 : -M ≤ x
  case neg =>
    have d8 : decide (-M ≤ x) = false := decide_eq_false a8
    go_upto_region 8 with (fail)
    refine start_ (n := 25) (S := fun w' => w'.cell? ⟨w.heap.size, 0, none⟩ = some (.int .u64 p) ∧ w'.cell? ⟨w.heap.size, 5, none⟩ = some (.int .i64 x)) (ds := []) #[false, false, false, false, false, false, false, false, false, false, false, false, false, false, false, false, false, false, false, false, false, false, false, false, false] (by kernel_rfl) rfl rfl ⟨(by go_simp), (by go_simp)⟩ (fun hHeld => ?_)
    refine pure_ (i := 0) (N := some 50) (v := ?_) (a' := ?_) #[true, false, false, false, false, false, false, false, false, false, false, false, false, false, false, false, false, false, false, false, false, false, false, false, false] rfl rfl (by kernel_rfl) (fun _ _ _ h => h) (Or.inl ⟨by rfl, ?_⟩) ?_ ?_
    rotate_left
    · intro w'
      go_simp
      with_reducible rfl
    rotate_left
    · simp only [Act.put, List.setIfInBounds_toArray, List.set_cons_zero, List.set_cons_succ, i64_w, i32_w]
      rfl
    refine pure_ (i := 1) (N := some 51) (v := ?_) (a' := ?_) #[true, true, false, false, false, false, false, false, false, false, false, false, false, false, false, false, false, false, false, false, false, false, false, false, false] rfl rfl (by kernel_rfl) (fun _ _ _ h => h) (Or.inl ⟨by rfl, ?_⟩) ?_ ?_
    rotate_left
    · intro w'
      go_simp
      with_reducible rfl
    rotate_left
    · simp only [Act.put, List.setIfInBounds_toArray, List.set_cons_zero, List.set_cons_succ, i64_w, i32_w]
      rfl
    refine pure_ (i := 2) (N := some 52) (v := ?_) (a' := ?_) #[true, true, true, false, false, false, false, false, false, false, false, false, false, false, false, false, false, false, false, false, false, false, false, false, false] rfl rfl (by kernel_rfl) (fun _ _ _ h => h) (Or.inl ⟨by rfl, ?_⟩) ?_ ?_
    rotate_left
    · intro w'
      go_simp
      with_reducible rfl
    rotate_left
    · simp only [Act.put, List.setIfInBounds_toArray, List.set_cons_zero, List.set_cons_succ, i64_w, i32_w]
      rfl
    refine pure_ (i := 3) (N := some 53) (v := ?_) (a' := ?_) #[true, true, true, true, false, false, false, false, false, false, false, false, false, false, false, false, false, false, false, false, false, false, false, false, false] rfl rfl (by kernel_rfl) (fun _ _ _ h => h) (Or.inl ⟨by rfl, ?_⟩) ?_ ?_
    rotate_left
    · intro w'
      go_simp
      with_reducible rfl
    rotate_left
    · simp only [Act.put, List.setIfInBounds_toArray, List.set_cons_zero, List.set_cons_succ, i64_w, i32_w]
      rfl
    refine pure_ (i := 4) (N := some 54) (v := ?_) (a' := ?_) #[true, true, true, true, true, false, false, false, false, false, false, false, false, false, false, false, false, false, false, false, false, false, false, false, false] rfl rfl (by kernel_rfl) (fun _ _ _ h => h) (Or.inl ⟨by rfl, ?_⟩) ?_ ?_
    rotate_left
    · intro w'
      go_simp
      with_reducible rfl
    rotate_left
    · simp only [Act.put, List.setIfInBounds_toArray, List.set_cons_zero, List.set_cons_succ, i64_w, i32_w]
      rfl
    refine pure_ (i := 6) (N := some 56) (v := ?_) (a' := ?_) #[true, true, true, true, true, false, true, false, false, false, false, false, false, false, false, false, false, false, false, false, false, false, false, false, false] rfl rfl (by kernel_rfl) (fun _ _ _ h => h) (Or.inl ⟨by rfl, ?_⟩) ?_ ?_
    rotate_left
    · intro w'
      go_simp
      with_reducible rfl
    rotate_left
    · simp only [Act.put, List.setIfInBounds_toArray, List.set_cons_zero, List.set_cons_succ, i64_w, i32_w]
      rfl
    refine take_ (i := 7) (N := some 57) (v := ?_) (a' := ?_) #[true, true, true, true, true, false, true, true, false, false, false, false, false, false, false, false, false, false, false, false, false, false, false, false, false] rfl rfl (by kernel_rfl) (fun _ _ _ h => h) (Or.inl ⟨by rfl, ?_⟩) hHeld ?_ ?_
    rotate_left
    · rintro w' ⟨s0, s1⟩
      go_simp
      with_reducible rfl
    rotate_left
    · simp only [Act.put, List.setIfInBounds_toArray, List.set_cons_zero, List.set_cons_succ, i64_w, i32_w]
      rfl
    refine pure_ (i := 8) (N := some 58) (v := ?_) (a' := ?_) #[true, true, true, true, true, false, true, true, true, false, false, false, false, false, false, false, false, false, false, false, false, false, false, false, false] rfl rfl (by kernel_rfl) (fun _ _ _ h => h) (Or.inl ⟨by rfl, ?_⟩) ?_ ?_
    rotate_left
    · intro w'
      go_simp
      with_reducible rfl
    rotate_left
    · simp only [Act.put, List.setIfInBounds_toArray, List.set_cons_zero, List.set_cons_succ, i64_w, i32_w]
      rfl
    refine one_ (i := 5) (N := some 55) #[true, true, true, true, true, true, true, true, true, false, false, false, false, false, false, false, false, false, false, false, false, false, false, false, false] rfl rfl (by kernel_rfl) (by decide) (fun K hK => ?_)
    refine goes_ Tryd.func48 (by kernel_rfl) rfl #[.slice A2 m2 k2] (by rfl) rfl rfl (by simp only [List.map_toArray, List.map_cons, List.map_nil]; rfl) ?_
    with_reducible refine (HLN.out).mono ?_
    rintro e w3 ⟨rfl, hb3⟩
    refine ⟨_, rfl, ?_⟩
    have HB3 := Aside0.mk (below_step HBD.out hb3)
    obtain ⟨y0, _, _, _, _, y5, _, _, _, _, _, _⟩ := blk6 (hp_below (show hp w2.drew w.heap.size = _ from KX2.out) hb3)
    refine hK.out _ _ ⟨y0, y5⟩ (fun hHeld => ?_)
    clear hK K
    refine norm_ (a' := ?_) ?_ ?_
    rotate_left
    · show Act.put _ (some 55) _ = _
      simp only [Act.put, List.setIfInBounds_toArray, List.set_cons_zero, List.set_cons_succ, i64_w, i32_w]
      rfl
    refine pure_ (i := 9) (N := some 59) (v := ?_) (a' := ?_) #[true, true, true, true, true, true, true, true, true, true, false, false, false, false, false, false, false, false, false, false, false, false, false, false, false] rfl rfl (by kernel_rfl) (fun _ _ _ h => h) (Or.inl ⟨by rfl, ?_⟩) ?_ ?_
    rotate_left
    · intro w'
      go_simp
      with_reducible rfl
    rotate_left
    · simp only [Act.put, List.setIfInBounds_toArray, List.set_cons_zero, List.set_cons_succ, i64_w, i32_w]
      rfl
    refine pure_ (i := 10) (N := some 60) (v := ?_) (a' := ?_) #[true, true, true, true, true, true, true, true, true, true, true, false, false, false, false, false, false, false, false, false, false, false, false, false, false] rfl rfl (by kernel_rfl) (fun _ _ _ h => h) (Or.inl ⟨by rfl, ?_⟩) ?_ ?_
    rotate_left
    · intro w'
      go_simp
      with_reducible rfl
    rotate_left
    · simp only [Act.put, List.setIfInBounds_toArray, List.set_cons_zero, List.set_cons_succ, i64_w, i32_w]
      rfl
    refine pure_ (i := 11) (N := some 61) (v := ?_) (a' := ?_) #[true, true, true, true, true, true, true, true, true, true, true, true, false, false, false, false, false, false, false, false, false, false, false, false, false] rfl rfl (by kernel_rfl) (fun _ _ _ h => h) (Or.inl ⟨by rfl, ?_⟩) ?_ ?_
    rotate_left
    · intro w'
      go_simp
      with_reducible rfl
    rotate_left
    · simp only [Act.put, List.setIfInBounds_toArray, List.set_cons_zero, List.set_cons_succ, i64_w, i32_w]
      rfl
    refine pure_ (i := 12) (N := some 62) (v := ?_) (a' := ?_) #[true, true, true, true, true, true, true, true, true, true, true, true, true, false, false, false, false, false, false, false, false, false, false, false, false] rfl rfl (by kernel_rfl) (fun _ _ _ h => h) (Or.inl ⟨by rfl, ?_⟩) ?_ ?_
    rotate_left
    · intro w'
      go_simp
      with_reducible rfl
    rotate_left
    · simp only [Act.put, List.setIfInBounds_toArray, List.set_cons_zero, List.set_cons_succ, i64_w, i32_w]
      rfl
    refine pure_ (i := 14) (N := some 64) (v := ?_) (a' := ?_) #[true, true, true, true, true, true, true, true, true, true, true, true, true, false, true, false, false, false, false, false, false, false, false, false, false] rfl rfl (by kernel_rfl) (fun _ _ _ h => h) (Or.inl ⟨by rfl, ?_⟩) ?_ ?_
    rotate_left
    · intro w'
      go_simp
      with_reducible rfl
    rotate_left
    · simp only [Act.put, List.setIfInBounds_toArray, List.set_cons_zero, List.set_cons_succ, i64_w, i32_w]
      rfl
    refine pure_ (i := 15) (N := some 65) (v := ?_) (a' := ?_) #[true, true, true, true, true, true, true, true, true, true, true, true, true, false, true, true, false, false, false, false, false, false, false, false, false] rfl rfl (by kernel_rfl) (fun _ _ _ h => h) (Or.inl ⟨by rfl, ?_⟩) ?_ ?_
    rotate_left
    · intro w'
      go_simp
      with_reducible rfl
    rotate_left
    · simp only [Act.put, List.setIfInBounds_toArray, List.set_cons_zero, List.set_cons_succ, i64_w, i32_w]
      rfl
    refine take_ (i := 13) (N := some 63) (v := ?_) (a' := ?_) #[true, true, true, true, true, true, true, true, true, true, true, true, true, true, true, true, false, false, false, false, false, false, false, false, false] rfl rfl (by kernel_rfl) (fun _ _ _ h => h) (Or.inl ⟨by rfl, ?_⟩) hHeld ?_ ?_
    rotate_left
    · rintro w' ⟨s0, s1⟩
      go_simp
      with_reducible rfl
    rotate_left
    · simp only [Act.put, List.setIfInBounds_toArray, List.set_cons_zero, List.set_cons_succ, i64_w, i32_w]
      rfl
    refine pure_ (i := 16) (N := some 66) (v := ?_) (a' := ?_) #[true, true, true, true, true, true, true, true, true, true, true, true, true, true, true, true, true, false, false, false, false, false, false, false, false] rfl rfl (by kernel_rfl) (fun _ _ _ h => h) (Or.inl ⟨by rfl, ?_⟩) ?_ ?_
    rotate_left
    · intro w'
      go_simp
      with_reducible rfl
    rotate_left
    · simp only [Act.put, List.setIfInBounds_toArray, List.set_cons_zero, List.set_cons_succ, i64_w, i32_w]
      rfl
    refine pure_ (i := 17) (N := some 67) (v := ?_) (a' := ?_) #[true, true, true, true, true, true, true, true, true, true, true, true, true, true, true, true, true, true, false, false, false, false, false, false, false] rfl rfl (by kernel_rfl) (fun _ _ _ h => h) (Or.inl ⟨by rfl, ?_⟩) ?_ ?_
    rotate_left
    · intro w'
      go_simp
      with_reducible rfl
    rotate_left
    · simp only [Act.put, List.setIfInBounds_toArray, List.set_cons_zero, List.set_cons_succ, i64_w, i32_w]
      rfl
    refine pure_ (i := 18) (N := some 68) (v := ?_) (a' := ?_) #[true, true, true, true, true, true, true, true, true, true, true, true, true, true, true, true, true, true, true, false, false, false, false, false, false] rfl rfl (by kernel_rfl) (fun _ _ _ h => h) (Or.inl ⟨by rfl, ?_⟩) ?_ ?_
    rotate_left
    · intro w'
      go_simp
      with_reducible rfl
    rotate_left
    · simp only [Act.put, List.setIfInBounds_toArray, List.set_cons_zero, List.set_cons_succ, i64_w, i32_w]
      rfl
    refine pure_ (i := 19) (N := some 69) (v := undef) (a' := ?_) #[true, true, true, true, true, true, true, true, true, true, true, true, true, true, true, true, true, true, true, true, false, false, false, false, false] rfl rfl (by kernel_rfl) (fun _ _ _ h => h) (Or.inr ⟨by rfl, rfl⟩) ?_ ?_
    rotate_left
    · simp only [Act.put, List.setIfInBounds_toArray, List.set_cons_zero, List.set_cons_succ, i64_w, i32_w]
      rfl
    refine pure_ (i := 20) (N := some 70) (v := undef) (a' := ?_) #[true, true, true, true, true, true, true, true, true, true, true, true, true, true, true, true, true, true, true, true, true, false, false, false, false] rfl rfl (by kernel_rfl) (fun _ _ _ h => h) (Or.inr ⟨by rfl, rfl⟩) ?_ ?_
    rotate_left
    · simp only [Act.put, List.setIfInBounds_toArray, List.set_cons_zero, List.set_cons_succ, i64_w, i32_w]
      rfl
    refine pure_ (i := 21) (N := some 71) (v := undef) (a' := ?_) #[true, true, true, true, true, true, true, true, true, true, true, true, true, true, true, true, true, true, true, true, true, true, false, false, false] rfl rfl (by kernel_rfl) (fun _ _ _ h => h) (Or.inr ⟨by rfl, rfl⟩) ?_ ?_
    rotate_left
    · simp only [Act.put, List.setIfInBounds_toArray, List.set_cons_zero, List.set_cons_succ, i64_w, i32_w]
      rfl
    refine pure_ (i := 22) (N := some 72) (v := undef) (a' := ?_) #[true, true, true, true, true, true, true, true, true, true, true, true, true, true, true, true, true, true, true, true, true, true, true, false, false] rfl rfl (by kernel_rfl) (fun _ _ _ h => h) (Or.inr ⟨by rfl, rfl⟩) ?_ ?_
    rotate_left
    · simp only [Act.put, List.setIfInBounds_toArray, List.set_cons_zero, List.set_cons_succ, i64_w, i32_w]
      rfl
    refine pure_ (i := 23) (N := some 73) (v := ?_) (a' := ?_) #[true, true, true, true, true, true, true, true, true, true, true, true, true, true, true, true, true, true, true, true, true, true, true, true, false] rfl rfl (by kernel_rfl) (fun _ _ _ h => h) (Or.inl ⟨by rfl, ?_⟩) ?_ ?_
    rotate_left
    · intro w'
      go_simp
      with_reducible rfl
    rotate_left
    · simp only [Act.put, List.setIfInBounds_toArray, List.set_cons_zero, List.set_cons_succ, i64_w, i32_w]
      rfl
    refine pure_ (i := 24) (N := some 6) (v := ?_) (a' := ?_) #[true, true, true, true, true, true, true, true, true, true, true, true, true, true, true, true, true, true, true, true, true, true, true, true, true] rfl rfl (by kernel_rfl) (fun _ _ _ h => h) (Or.inl ⟨by rfl, ?_⟩) ?_ ?_
    rotate_left
    · intro w'
      go_simp
      with_reducible rfl
    rotate_left
    · simp only [Act.put, List.setIfInBounds_toArray, List.set_cons_zero, List.set_cons_succ, i64_w, i32_w]
      rfl
    refine done_ (by kernel_rfl) ?_
    go_wp2_with (fail)
    go_ret
    exact ⟨_, rfl, by simp, HB3.out⟩
  have d8 : decide (-M ≤ x) = true := decide_eq_true a8
  go_upto_region 8 with (fail)
  refine start_ (n := 25) (S := fun w' => w'.cell? ⟨w.heap.size, 0, none⟩ = some (.int .u64 p) ∧ w'.cell? ⟨w.heap.size, 5, none⟩ = some (.int .i64 x)) (ds := []) #[false, false, false, false, false, false, false, false, false, false, false, false, false, false, false, false, false, false, false, false, false, false, false, false, false] (by kernel_rfl) rfl rfl ⟨(by go_simp), (by go_simp)⟩ (fun hHeld => ?_)
  refine pure_ (i := 0) (N := some 50) (v := ?_) (a' := ?_) #[true, false, false, false, false, false, false, false, false, false, false, false, false, false, false, false, false, false, false, false, false, false, false, false, false] rfl rfl (by kernel_rfl) (fun _ _ _ h => h) (Or.inl ⟨by rfl, ?_⟩) ?_ ?_
  rotate_left
  · intro w'
    go_simp
    with_reducible rfl
  rotate_left
  · simp only [Act.put, List.setIfInBounds_toArray, List.set_cons_zero, List.set_cons_succ, i64_w, i32_w]
    rfl
  refine pure_ (i := 1) (N := some 51) (v := ?_) (a' := ?_) #[true, true, false, false, false, false, false, false, false, false, false, false, false, false, false, false, false, false, false, false, false, false, false, false, false] rfl rfl (by kernel_rfl) (fun _ _ _ h => h) (Or.inl ⟨by rfl, ?_⟩) ?_ ?_
  rotate_left
  · intro w'
    go_simp
    with_reducible rfl
  rotate_left
  · simp only [Act.put, List.setIfInBounds_toArray, List.set_cons_zero, List.set_cons_succ, i64_w, i32_w]
    rfl
  refine pure_ (i := 2) (N := some 52) (v := ?_) (a' := ?_) #[true, true, true, false, false, false, false, false, false, false, false, false, false, false, false, false, false, false, false, false, false, false, false, false, false] rfl rfl (by kernel_rfl) (fun _ _ _ h => h) (Or.inl ⟨by rfl, ?_⟩) ?_ ?_
  rotate_left
  · intro w'
    go_simp
    with_reducible rfl
  rotate_left
  · simp only [Act.put, List.setIfInBounds_toArray, List.set_cons_zero, List.set_cons_succ, i64_w, i32_w]
    rfl
  refine pure_ (i := 3) (N := some 53) (v := ?_) (a' := ?_) #[true, true, true, true, false, false, false, false, false, false, false, false, false, false, false, false, false, false, false, false, false, false, false, false, false] rfl rfl (by kernel_rfl) (fun _ _ _ h => h) (Or.inl ⟨by rfl, ?_⟩) ?_ ?_
  rotate_left
  · intro w'
    go_simp
    with_reducible rfl
  rotate_left
  · simp only [Act.put, List.setIfInBounds_toArray, List.set_cons_zero, List.set_cons_succ, i64_w, i32_w]
    rfl
  refine pure_ (i := 4) (N := some 54) (v := ?_) (a' := ?_) #[true, true, true, true, true, false, false, false, false, false, false, false, false, false, false, false, false, false, false, false, false, false, false, false, false] rfl rfl (by kernel_rfl) (fun _ _ _ h => h) (Or.inl ⟨by rfl, ?_⟩) ?_ ?_
  rotate_left
  · intro w'
    go_simp
    with_reducible rfl
  rotate_left
  · simp only [Act.put, List.setIfInBounds_toArray, List.set_cons_zero, List.set_cons_succ, i64_w, i32_w]
    rfl
  refine pure_ (i := 6) (N := some 56) (v := ?_) (a' := ?_) #[true, true, true, true, true, false, true, false, false, false, false, false, false, false, false, false, false, false, false, false, false, false, false, false, false] rfl rfl (by kernel_rfl) (fun _ _ _ h => h) (Or.inl ⟨by rfl, ?_⟩) ?_ ?_
  rotate_left
  · intro w'
    go_simp
    with_reducible rfl
  rotate_left
  · simp only [Act.put, List.setIfInBounds_toArray, List.set_cons_zero, List.set_cons_succ, i64_w, i32_w]
    rfl
  refine take_ (i := 7) (N := some 57) (v := ?_) (a' := ?_) #[true, true, true, true, true, false, true, true, false, false, false, false, false, false, false, false, false, false, false, false, false, false, false, false, false] rfl rfl (by kernel_rfl) (fun _ _ _ h => h) (Or.inl ⟨by rfl, ?_⟩) hHeld ?_ ?_
  rotate_left
  · rintro w' ⟨s0, s1⟩
    go_simp
    with_reducible rfl
  rotate_left
  · simp only [Act.put, List.setIfInBounds_toArray, List.set_cons_zero, List.set_cons_succ, i64_w, i32_w]
    rfl
  refine pure_ (i := 8) (N := some 58) (v := ?_) (a' := ?_) #[true, true, true, true, true, false, true, true, true, false, false, false, false, false, false, false, false, false, false, false, false, false, false, false, false] rfl rfl (by kernel_rfl) (fun _ _ _ h => h) (Or.inl ⟨by rfl, ?_⟩) ?_ ?_
  rotate_left
  · intro w'
    go_simp
    with_reducible rfl
  rotate_left
  · simp only [Act.put, List.setIfInBounds_toArray, List.set_cons_zero, List.set_cons_succ, i64_w, i32_w]
    rfl
  refine one_ (i := 5) (N := some 55) #[true, true, true, true, true, true, true, true, true, false, false, false, false, false, false, false, false, false, false, false, false, false, false, false, false] rfl rfl (by kernel_rfl) (by decide) (fun K hK => ?_)
  refine goes_ Tryd.func48 (by kernel_rfl) rfl #[.slice A2 m2 k2] (by rfl) rfl rfl (by simp only [List.map_toArray, List.map_cons, List.map_nil]; rfl) ?_
  with_reducible refine (HLN.out).mono ?_
  rintro e w3 ⟨rfl, hb3⟩
  refine ⟨_, rfl, ?_⟩
  have HB3 := Aside0.mk (below_step HBD.out hb3)
  obtain ⟨y0, _, _, _, _, y5, _, _, _, _, _, _⟩ := blk6 (hp_below (show hp w2.drew w.heap.size = _ from KX2.out) hb3)
  refine hK.out _ _ ⟨y0, y5⟩ (fun hHeld => ?_)
  clear hK K
  refine norm_ (a' := ?_) ?_ ?_
  rotate_left
  · show Act.put _ (some 55) _ = _
    simp only [Act.put, List.setIfInBounds_toArray, List.set_cons_zero, List.set_cons_succ, i64_w, i32_w]
    rfl
  refine pure_ (i := 9) (N := some 59) (v := ?_) (a' := ?_) #[true, true, true, true, true, true, true, true, true, true, false, false, false, false, false, false, false, false, false, false, false, false, false, false, false] rfl rfl (by kernel_rfl) (fun _ _ _ h => h) (Or.inl ⟨by rfl, ?_⟩) ?_ ?_
  rotate_left
  · intro w'
    go_simp
    with_reducible rfl
  rotate_left
  · simp only [Act.put, List.setIfInBounds_toArray, List.set_cons_zero, List.set_cons_succ, i64_w, i32_w]
    rfl
  refine pure_ (i := 10) (N := some 60) (v := ?_) (a' := ?_) #[true, true, true, true, true, true, true, true, true, true, true, false, false, false, false, false, false, false, false, false, false, false, false, false, false] rfl rfl (by kernel_rfl) (fun _ _ _ h => h) (Or.inl ⟨by rfl, ?_⟩) ?_ ?_
  rotate_left
  · intro w'
    go_simp
    with_reducible rfl
  rotate_left
  · simp only [Act.put, List.setIfInBounds_toArray, List.set_cons_zero, List.set_cons_succ, i64_w, i32_w]
    rfl
  refine pure_ (i := 11) (N := some 61) (v := ?_) (a' := ?_) #[true, true, true, true, true, true, true, true, true, true, true, true, false, false, false, false, false, false, false, false, false, false, false, false, false] rfl rfl (by kernel_rfl) (fun _ _ _ h => h) (Or.inl ⟨by rfl, ?_⟩) ?_ ?_
  rotate_left
  · intro w'
    go_simp
    with_reducible rfl
  rotate_left
  · simp only [Act.put, List.setIfInBounds_toArray, List.set_cons_zero, List.set_cons_succ, i64_w, i32_w]
    rfl
  refine pure_ (i := 12) (N := some 62) (v := ?_) (a' := ?_) #[true, true, true, true, true, true, true, true, true, true, true, true, true, false, false, false, false, false, false, false, false, false, false, false, false] rfl rfl (by kernel_rfl) (fun _ _ _ h => h) (Or.inl ⟨by rfl, ?_⟩) ?_ ?_
  rotate_left
  · intro w'
    go_simp
    with_reducible rfl
  rotate_left
  · simp only [Act.put, List.setIfInBounds_toArray, List.set_cons_zero, List.set_cons_succ, i64_w, i32_w]
    rfl
  refine pure_ (i := 14) (N := some 64) (v := ?_) (a' := ?_) #[true, true, true, true, true, true, true, true, true, true, true, true, true, false, true, false, false, false, false, false, false, false, false, false, false] rfl rfl (by kernel_rfl) (fun _ _ _ h => h) (Or.inl ⟨by rfl, ?_⟩) ?_ ?_
  rotate_left
  · intro w'
    go_simp
    with_reducible rfl
  rotate_left
  · simp only [Act.put, List.setIfInBounds_toArray, List.set_cons_zero, List.set_cons_succ, i64_w, i32_w]
    rfl
  refine pure_ (i := 15) (N := some 65) (v := ?_) (a' := ?_) #[true, true, true, true, true, true, true, true, true, true, true, true, true, false, true, true, false, false, false, false, false, false, false, false, false] rfl rfl (by kernel_rfl) (fun _ _ _ h => h) (Or.inl ⟨by rfl, ?_⟩) ?_ ?_
  rotate_left
  · intro w'
    go_simp
    with_reducible rfl
  rotate_left
  · simp only [Act.put, List.setIfInBounds_toArray, List.set_cons_zero, List.set_cons_succ, i64_w, i32_w]
    rfl
  refine take_ (i := 13) (N := some 63) (v := ?_) (a' := ?_) #[true, true, true, true, true, true, true, true, true, true, true, true, true, true, true, true, false, false, false, false, false, false, false, false, false] rfl rfl (by kernel_rfl) (fun _ _ _ h => h) (Or.inl ⟨by rfl, ?_⟩) hHeld ?_ ?_
  rotate_left
  · rintro w' ⟨s0, s1⟩
    go_simp
    with_reducible rfl
  rotate_left
  · simp only [Act.put, List.setIfInBounds_toArray, List.set_cons_zero, List.set_cons_succ, i64_w, i32_w]
    rfl
  refine pure_ (i := 16) (N := some 66) (v := ?_) (a' := ?_) #[true, true, true, true, true, true, true, true, true, true, true, true, true, true, true, true, true, false, false, false, false, false, false, false, false] rfl rfl (by kernel_rfl) (fun _ _ _ h => h) (Or.inl ⟨by rfl, ?_⟩) ?_ ?_
  rotate_left
  · intro w'
    go_simp
    with_reducible rfl
  rotate_left
  · simp only [Act.put, List.setIfInBounds_toArray, List.set_cons_zero, List.set_cons_succ, i64_w, i32_w]
    rfl
  refine pure_ (i := 17) (N := some 67) (v := ?_) (a' := ?_) #[true, true, true, true, true, true, true, true, true, true, true, true, true, true, true, true, true, true, false, false, false, false, false, false, false] rfl rfl (by kernel_rfl) (fun _ _ _ h => h) (Or.inl ⟨by rfl, ?_⟩) ?_ ?_
  rotate_left
  · intro w'
    go_simp
    with_reducible rfl
  rotate_left
  · simp only [Act.put, List.setIfInBounds_toArray, List.set_cons_zero, List.set_cons_succ, i64_w, i32_w]
    rfl
  refine pure_ (i := 18) (N := some 68) (v := ?_) (a' := ?_) #[true, true, true, true, true, true, true, true, true, true, true, true, true, true, true, true, true, true, true, false, false, false, false, false, false] rfl rfl (by kernel_rfl) (fun _ _ _ h => h) (Or.inl ⟨by rfl, ?_⟩) ?_ ?_
  rotate_left
  · intro w'
    go_simp
    with_reducible rfl
  rotate_left
  · simp only [Act.put, List.setIfInBounds_toArray, List.set_cons_zero, List.set_cons_succ, i64_w, i32_w]
    rfl
  refine pure_ (i := 19) (N := some 69) (v := ?_) (a' := ?_) #[true, true, true, true, true, true, true, true, true, true, true, true, true, true, true, true, true, true, true, true, false, false, false, false, false] rfl rfl (by kernel_rfl) (fun _ _ _ h => h) (Or.inl ⟨by rfl, ?_⟩) ?_ ?_
  rotate_left
  · intro w'
    go_simp
    with_reducible rfl
  rotate_left
  · simp only [Act.put, List.setIfInBounds_toArray, List.set_cons_zero, List.set_cons_succ, i64_w, i32_w]
    rfl
  refine pure_ (i := 21) (N := some 71) (v := ?_) (a' := ?_) #[true, true, true, true, true, true, true, true, true, true, true, true, true, true, true, true, true, true, true, true, false, true, false, false, false] rfl rfl (by kernel_rfl) (fun _ _ _ h => h) (Or.inl ⟨by rfl, ?_⟩) ?_ ?_
  rotate_left
  · intro w'
    go_simp
    with_reducible rfl
  rotate_left
  · simp only [Act.put, List.setIfInBounds_toArray, List.set_cons_zero, List.set_cons_succ, i64_w, i32_w]
    rfl
  refine take_ (i := 20) (N := some 70) (v := ?_) (a' := ?_) #[true, true, true, true, true, true, true, true, true, true, true, true, true, true, true, true, true, true, true, true, true, true, false, false, false] rfl rfl (by kernel_rfl) (fun _ _ _ h => h) (Or.inl ⟨by rfl, ?_⟩) hHeld ?_ ?_
  rotate_left
  · rintro w' ⟨s0, s1⟩
    go_simp
    with_reducible rfl
  rotate_left
  · simp only [Act.put, List.setIfInBounds_toArray, List.set_cons_zero, List.set_cons_succ, i64_w, i32_w]
    rfl
  refine pure_ (i := 22) (N := some 72) (v := ?_) (a' := ?_) #[true, true, true, true, true, true, true, true, true, true, true, true, true, true, true, true, true, true, true, true, true, true, true, false, false] rfl rfl (by kernel_rfl) (fun _ _ _ h => h) (Or.inl ⟨by rfl, ?_⟩) ?_ ?_
  rotate_left
  · intro w'
    go_simp
    with_reducible rfl
  rotate_left
  · simp only [Act.put, List.setIfInBounds_toArray, List.set_cons_zero, List.set_cons_succ, i64_w, i32_w]
    rfl
  refine pure_ (i := 23) (N := some 73) (v := ?_) (a' := ?_) #[true, true, true, true, true, true, true, true, true, true, true, true, true, true, true, true, true, true, true, true, true, true, true, true, false] rfl rfl (by kernel_rfl) (fun _ _ _ h => h) (Or.inl ⟨by rfl, ?_⟩) ?_ ?_
  rotate_left
  · intro w'
    go_simp
    with_reducible rfl
  rotate_left
  · simp only [Act.put, List.setIfInBounds_toArray, List.set_cons_zero, List.set_cons_succ, i64_w, i32_w]
    rfl
  refine pure_ (i := 24) (N := some 6) (v := ?_) (a' := ?_) #[true, true, true, true, true, true, true, true, true, true, true, true, true, true, true, true, true, true, true, true, true, true, true, true, true] rfl rfl (by kernel_rfl) (fun _ _ _ h => h) (Or.inl ⟨by rfl, ?_⟩) ?_ ?_
  rotate_left
  · intro w'
    go_simp
    with_reducible rfl
  rotate_left
  · simp only [Act.put, List.setIfInBounds_toArray, List.set_cons_zero, List.set_cons_succ, i64_w, i32_w]
    rfl
  refine done_ (by kernel_rfl) ?_
  go_wp2_with (fail)
  go_ret
  exact ⟨_, rfl, fun h => ⟨⟨by omega, by omega, by omega, by omega⟩, .inr ⟨rfl, HLL.out, HV0.out, ⟨b, HBB.out, a7⟩, a8, by simpa using h⟩⟩, HB3.out⟩
end Go.Proofs.YtglikgjaobedbaaDoor.Sp
end

/-! ## Tbl -/
section
namespace Go.Proofs.YtglikgjaobedbaaDoor.Sp
open Go.RowKit Go.Proofs.YtglikgjaobedbaaDoorW.PrintWords Go.Proofs.YtglikgjaobedbaaDoorW.PrintLast Go.Proofs.YtglikgjaobedbaaDoorW.PrintMore Go.Proofs.YtglikgjaobedbaaDoor.Dig
set_option linter.unusedVariables false
set_option linter.unusedSimpArgs false
theorem tb_data : (Rows.laid_math_bits_deBruijn64tab : DataW Unit) = Lib.tabData .u8 (Lib.deBruijn64tab.map Int.ofNat) := by rfl
set_option maxRecDepth 100000 in
theorem tb_of_laid {W : World} (hL : laidMetH Tryd.prog [("math/bits.deBruijn32tab", Rows.laid_math_bits_deBruijn32tab), ("math/bits.deBruijn64tab", Rows.laid_math_bits_deBruijn64tab)] W) : Tb W := by
  rw [MakeChecks.laidMetH_plain _ _ _ (by kernel_rfl)] at hL
  have h2 := laidMet.tail hL
  rw [tb_data] at h2
  have hT := Lib.tabIs_of_head (g := 2) (t := 176) (e := 5) (n := 64) (by kernel_rfl) (by kernel_rfl) (by kernel_rfl) (by kernel_rfl) (by kernel_rfl) (by kernel_rfl) h2
  have hc := fun i hi => Lib.TabIs.cell hT (g := 2) (by kernel_rfl) i hi
  refine ⟨fun j hj => ?_, World.block_lt_of_cell? _ _ (hc 0 (by decide))⟩
  rw [hc j (by rw [List.length_map]; exact hj)]
  simp [List.getD, List.getElem?_map, List.getElem?_eq_getElem hj]
end Go.Proofs.YtglikgjaobedbaaDoor.Sp
end

/-! ## LawIn -/
section
namespace Go.Proofs.YtglikgjaobedbaaDoor.Sp
open Go.RowKit Go.Proofs.YtglikgjaobedbaaDoorW.PrintWords Go.Proofs.YtglikgjaobedbaaDoorW.PrintLast Go.Proofs.YtglikgjaobedbaaDoorW.PrintMore Go.Proofs.YtglikgjaobedbaaDoor.Dig
set_option linter.unusedVariables false
set_option linter.unusedSimpArgs false
theorem ws_in {w : World} {v : Value} {l : List Int} (h : InInts .u64 w v l) : Ws w v l := by
  obtain ⟨A, c, e, h1, h2, h3⟩ := h
  exact ⟨A, c, e, h1, h2, fun d hd => by have := wf_u64 (h3 d hd); rw [BW_def]; exact this⟩
/-- What a law knows of a Real that is let in. -/
def Lets (w : World) (M : Int) (P : Nat) (m f : Int) (A : Option Addr) (c : Nat) (x z : Int) (b n : Nat) (X : List Int) : Prop :=
  ROk w P m f A X.length c x z b n X ∧ (f = 1 → ev BW X = z ∧ 0 < z ∧ z < Lim ∧ Tz z n ∧ X.length ≤ 10000 ∧ -M ≤ x ∧ x ≤ M)
theorem lets {w : World} {B M : Int} {P : Nat} {m f x : Int} {A : Option Addr} {c : Nat} {X : List Int} (h : RealOk B M P m f x X) (hX : Ws w (.slice A X.length c) X) (hB : B ≤ 60000) (hM : M ≤ 100000) : ∃ (z : Int) (b n : Nat), Lets w M P m f A c x z b n X := by
  obtain ⟨⟨q1, q2, q3, q4⟩, hform⟩ := h
  rcases hform with h | ⟨rfl, h1, h2, ⟨b, h3, h4⟩, h5, h6⟩
  · exact ⟨0, 0, 0, ⟨by omega, by omega, .inl h⟩, fun h => by omega⟩
  · obtain ⟨n, hn⟩ := Tz.exists h2
    exact ⟨_, b, n, ⟨by omega, by omega, .inr ⟨rfl, hX, by omega, rfl, h2, h3, hn, by omega, by omega, by omega⟩⟩, fun _ => ⟨rfl, h2, words_Lim (by obtain ⟨_, _, _, _, _, h⟩ := hX; exact h) (by omega), hn, by omega, h5, h6⟩⟩
end Go.Proofs.YtglikgjaobedbaaDoor.Sp
end
