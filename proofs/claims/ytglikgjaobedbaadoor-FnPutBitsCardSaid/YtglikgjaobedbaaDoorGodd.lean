/-
  MERGED BY PROGRAM (regroup.py): OddC, Tbl.
-/
import Derived.Test.YtglikgjaobedbaaDoorGspec
import Derived.Test.YtglikgjaobedbaaDoorGnat
import Derived.Test.YtglikgjaobedbaaDoorSpSShr
import Derived.Test.YtglikgjaobedbaaDoorSpSOdd
import Derived.Test.YtglikgjaobedbaaDoorSpSIsReal
import Derived.Test.YtglikgjaobedbaaDoorRows
import Derived.Lib.LaidTab
import Derived.Stop.LaidErr
import Derived.MakeChecks
/-! ## OddC -/
section
namespace Go.Proofs.YtglikgjaobedbaaDoor.Sp
open Go.RowKit Go.Proofs.YtglikgjaobedbaaDoorW.PrintWords Go.Proofs.YtglikgjaobedbaaDoorW.PrintLast Go.Proofs.YtglikgjaobedbaaDoorW.PrintMore Go.Proofs.YtglikgjaobedbaaDoor.Dig
set_option linter.unusedVariables false
set_option linter.unusedSimpArgs false
theorem p16 (s : Nat) (hs : s ≤ 16) : (65536 : Int) = 2 ^ s * 2 ^ (16 - s) := by
  rw [← Int.pow_add, show s + (16 - s) = 16 by omega]
  rfl
/-- One digit of a number that is shifted. -/
theorem shr_step (x y E' : Int) (s : Nat) (hs : s < 16) (hx0 : 0 ≤ x) (hx1 : x < 65536) : (x + 65536 * y) / 2 ^ s % 65536 + 65536 * ((y + 65536 * E') / 2 ^ s) = (x + 65536 * (y + 65536 * E')) / 2 ^ s := by
  have hp : (0 : Int) < 2 ^ s := Int.pow_pos (by omega)
  have e1 : y + 65536 * E' = y + 2 ^ s * (2 ^ (16 - s) * E') := by rw [← Int.mul_assoc, ← p16 s (by omega)]
  have e2 : x + 65536 * (y + 65536 * E') = (x + 65536 * y) + 2 ^ s * (2 ^ (16 - s) * (65536 * E')) := by
    rw [← Int.mul_assoc, ← p16 s (by omega), Int.mul_add, Int.add_assoc]
  have e3 : (x + 65536 * y) / 2 ^ s / 65536 = y / 2 ^ s := by
    have h : (x + 65536 * y) / 65536 = y := by omega
    rw [edd (Int.le_of_lt hp), Int.mul_comm (2 ^ s) 65536, ← edd (by omega), h]
  have e4 : (2 : Int) ^ (16 - s) * (65536 * E') = 65536 * (2 ^ (16 - s) * E') := by rw [Int.mul_left_comm]
  rw [e2, Int.add_mul_ediv_left _ _ (by omega), e1, Int.add_mul_ediv_left _ _ (by omega), e4, Int.mul_add, ← e3]
  have h5 := Int.emod_add_mul_ediv ((x + 65536 * y) / 2 ^ s) 65536
  generalize (2 : Int) ^ (16 - s) * E' = Z at *
  generalize (x + 65536 * y) / 2 ^ s = Y at *
  omega
theorem ev_shr (l : List Int) (hl : okd BH l) (q s : Nat) : ev BH l / 2 ^ (16 * q + s) = ev BH (l.drop q) / 2 ^ s := by
  rw [Int.pow_add, Int.pow_mul, ← BH_two, ← edd (Int.le_of_lt (pow_pos BH_pos q))]
  by_cases hq : q ≤ l.length
  · rw [ev_div hl BH_pos q hq]
  · have h1 := ev_lt hl BH_pos
    have h2 := ev_nonneg hl BH_pos
    have h3 : BH ^ l.length ≤ BH ^ q := pow_mono BH_pos (by omega)
    rw [Int.ediv_eq_zero_of_lt h2 (by omega), List.drop_eq_nil_of_le (by omega), ev_nil]
/-- The bit with an index. -/
theorem bit_at (l : List Int) (hl : okd BH l) (q s : Nat) (hs : s < 16) : ev BH l / 2 ^ (16 * q + s) % 2 = l.getD q 0 / 2 ^ s % 2 := by
  have hp : (0 : Int) < 2 ^ s := Int.pow_pos (by omega)
  rw [ev_shr l hl]
  by_cases hq : q < l.length
  · rw [drop_cons l q hq, ev_cons, BH_def, p16 s (by omega), Int.mul_assoc, Int.add_mul_ediv_left _ _ (by omega)]
    obtain ⟨r, hr⟩ : ∃ r, 16 - s = r + 1 := ⟨15 - s, by omega⟩
    rw [hr, Int.pow_succ]
    generalize l.getD q 0 / 2 ^ s = d
    rw [Int.mul_comm (2 ^ r) 2, Int.mul_assoc]
    generalize (2 : Int) ^ r * ev BH (List.drop (q + 1) l) = z
    omega
  · rw [getD_out l q hq, List.drop_eq_nil_of_le (by omega), ev_nil]
theorem shr_i64 (x : Int) (i : Nat) (hi : i ≤ 64) : shr .i64 x (i : Int) = x / 2 ^ i := by
  unfold shr
  simp only [IntKind.bits, Int.toNat_natCast]
  rw [Nat.min_eq_left hi]
theorem and1 (x : Int) (h0 : 0 ≤ x) (h1 : x < 9223372036854775808) : Go.bits .and .i64 x 1 = x % 2 := by
  have hk : ∀ n : Int, 0 ≤ n → n < 2 ^ 63 → IntKind.i64.wrap n = n := by
    intro n h0 h1
    have h2 : n < 9223372036854775808 := by simpa using h1
    exact IntWalk.i64_in n (by omega)
  have h := bits_mask .i64 63 (by decide) hk 1 (by decide) x h0 (by simpa using h1)
  simpa using h
theorem has_f (l : List Int) (hl : okd BH l) (hlen : l.length < 1099511627776) (n : Nat) (hn : n < 1099511627776) : spec_Has.f l n = some (decide (ev BH l / 2 ^ n % 2 = 1)) := by
  obtain ⟨q, s, hs, rfl⟩ : ∃ q s, s < 16 ∧ n = 16 * q + s := ⟨n / 16, n % 16, by omega, by omega⟩
  have e1 : wrap64 (Int.tdiv ((16 * q + s : Nat) : Int) 16) = (q : Int) := by rw [Int.tdiv_eq_ediv_of_nonneg (by omega), w64 (by omega) (by omega)]; omega
  have e2 : Int.tmod ((16 * q + s : Nat) : Int) 16 = (s : Int) := by rw [Int.tmod_eq_emod_of_nonneg (by omega)]; omega
  rw [bit_at l hl q s hs]
  unfold spec_Has.f
  rw [e1, e2]
  have hx := okd_get hl BH_pos q
  rw [BH_def] at hx
  by_cases hq : q < l.length
  · have hp : (0 : Int) < 2 ^ s := Int.pow_pos (by omega)
    have h2 : l.getD q 0 / 2 ^ s ≤ l.getD q 0 := Int.ediv_le_self _ hx.1
    have h3 : 0 ≤ l.getD q 0 / 2 ^ s := Int.ediv_nonneg hx.1 (Int.le_of_lt hp)
    rw [if_pos (by omega), if_pos (by omega), if_pos (by omega), rd_nat, shr_i64 _ s (by omega), and1 _ h3 (by omega)]
    exact congrArg some (Bool.eq_iff_iff.2 (by simp))
  · rw [if_neg (by omega), getD_out l q hq]
    simp
theorem shr_e (x y : Int) (s : Nat) (hs : s < 16) (hx : 0 ≤ x ∧ x < 65536) (hy : 0 ≤ y ∧ y < 65536) : Int.tmod (shr .i64 (wrap64 (x + wrap64 (65536 * y))) (s : Int)) 65536 = (x + 65536 * y) / 2 ^ s % 65536 := by
  rw [w64 (show -9223372036854775808 ≤ 65536 * y by omega) (by omega), w64 (by omega) (by omega), shr_i64 _ s (by omega)]
  exact Int.tmod_eq_emod_of_nonneg (Int.ediv_nonneg (by omega) (Int.le_of_lt (Int.pow_pos (by omega))))
theorem shr_e0 (x : Int) (s : Nat) (hs : s < 16) (hx : 0 ≤ x ∧ x < 65536) : Int.tmod (shr .i64 x (s : Int)) 65536 = (x + 65536 * 0) / 2 ^ s % 65536 := by
  rw [shr_i64 _ s (by omega), Int.mul_zero, Int.add_zero]
  exact Int.tmod_eq_emod_of_nonneg (Int.ediv_nonneg (by omega) (Int.le_of_lt (Int.pow_pos (by omega))))
theorem shr_l (l : List Int) (hl : okd BH l) (hlen : l.length < 1099511627776) (N : Int) (s : Nat) (hs : s < 16) (hN : Int.tmod N 16 = (s : Int)) (d : Nat) : ∀ (i : Nat) (out : List Int), i + d = l.length → out.length ≤ i → ∀ k, d + (l.length + 2) ≤ k →
    ∃ r, spec_Shr.l0 k l N out i = some (strip (out ++ r)) ∧ okd BH r ∧ ev BH r = ev BH (l.drop i) / 2 ^ s := by
  induction d with
  | zero =>
    intro i out hi ho k hk
    obtain ⟨k, rfl⟩ : ∃ m, k = m + 1 := ⟨k - 1, by omega⟩
    refine ⟨[], ?_, okd_nil _, by rw [List.drop_eq_nil_of_le (by omega), ev_nil]; simp⟩
    simp only [spec_Shr.l0]
    rw [if_neg (by omega), List.append_nil]
    show (spec_trim.l0 k out).bind _ = _
    rw [trim_l _ (by omega) k (by omega)]
    rfl
  | succ d ih =>
    intro i out hi ho k hk
    obtain ⟨k, rfl⟩ : ∃ m, k = m + 1 := ⟨k - 1, by omega⟩
    have e1 := inc64 i (by omega)
    have hx := okd_get hl BH_pos i
    have hy := okd_get hl BH_pos (i + 1)
    rw [BH_def] at hx hy
    have hE : ∃ E', ev BH (l.drop (i + 1)) = l.getD (i + 1) 0 + 65536 * E' := by
      by_cases h : i + 1 < l.length
      · exact ⟨ev BH (l.drop (i + 1 + 1)), by rw [drop_cons l _ h, ev_cons, BH_def]⟩
      · exact ⟨0, by rw [getD_out l _ h, List.drop_eq_nil_of_le (by omega), ev_nil]; rfl⟩
    obtain ⟨E', hE⟩ := hE
    have hd : ev BH (l.drop i) = l.getD i 0 + 65536 * (l.getD (i + 1) 0 + 65536 * E') := by rw [drop_cons l i (by omega), ev_cons, hE, BH_def]
    obtain ⟨z, hz⟩ : ∃ z, z = (l.getD i 0 + 65536 * l.getD (i + 1) 0) / 2 ^ s % 65536 := ⟨_, rfl⟩
    obtain ⟨r, hr, hok, hev⟩ := ih (i + 1) (out ++ [z]) (by omega) (by simp; omega) k (by omega)
    refine ⟨z :: r, ?_, okd_cons.2 ⟨by rw [BH_def]; omega, hok⟩, ?_⟩
    · simp only [spec_Shr.l0]
      rw [if_pos (by omega), if_pos (by omega), e1, hN, rd_nat, rd_nat]
      by_cases h : i + 1 < l.length
      · rw [if_pos (by omega), if_pos (by omega), if_pos (by omega), if_pos (by omega), shr_e _ _ s hs hx hy, ← hz, hr]
        simp
      · rw [getD_out l _ h] at hz
        rw [if_neg (by omega), if_pos (by omega), if_pos (by omega), shr_e0 _ s hs hx, ← hz, hr]
        simp
    · rw [ev_cons, hev, hE, hd, BH_def, hz]
      exact shr_step _ _ _ s hs hx.1 hx.2
theorem shr_ev (l : List Int) (hl : okd BH l) (hlen : l.length < 1099511627776) (n : Nat) (hn : n < 1099511627776) : ∃ r, Ev (fun k => spec_Shr.f k l n) r ∧ Cn BH r ∧ ev BH r = ev BH l / 2 ^ n := by
  obtain ⟨q, s, hs, rfl⟩ : ∃ q s, s < 16 ∧ n = 16 * q + s := ⟨n / 16, n % 16, by omega, by omega⟩
  have e1 : wrap64 (Int.tdiv ((16 * q + s : Nat) : Int) 16) = (q : Int) := by rw [Int.tdiv_eq_ediv_of_nonneg (by omega), w64 (by omega) (by omega)]; omega
  have e2 : Int.tmod ((16 * q + s : Nat) : Int) 16 = (s : Int) := by rw [Int.tmod_eq_emod_of_nonneg (by omega)]; omega
  rw [ev_shr l hl]
  by_cases hq : q ≤ l.length
  · obtain ⟨r, hr, hok, hev⟩ := shr_l l hl hlen _ s hs e2 (l.length - q) q [] (by omega) (by simp) (l.length - q + (l.length + 2)) (Nat.le_refl _)
    refine ⟨strip r, Ev.of (spec_Shr.mono l _) (k := l.length - q + (l.length + 2)) ?_, (strip_cn r hok).1, by rw [(strip_cn r hok).2.1, hev]⟩
    unfold spec_Shr.f
    rw [e1, hr, List.nil_append]
  · refine ⟨[], Ev.of (spec_Shr.mono l _) (k := 2) ?_, Cn_nil _, by rw [List.drop_eq_nil_of_le (by omega), ev_nil]; simp⟩
    unfold spec_Shr.f
    rw [e1]
    simp only [spec_Shr.l0]
    rw [if_neg (by omega)]
    rfl
theorem tz_low {v : Int} {n i : Nat} (h : Tz v n) (hi : i < n) : v / 2 ^ i % 2 = 0 := by
  obtain ⟨m, rfl⟩ := h
  obtain ⟨j, rfl⟩ : ∃ j, n = i + (j + 1) := ⟨n - i - 1, by omega⟩
  rw [Int.pow_add, Int.pow_succ, Int.mul_assoc, Int.mul_ediv_cancel_left _ (Int.ne_of_gt (Int.pow_pos (by omega))), Int.mul_comm (2 ^ j) 2, Int.mul_assoc, Int.mul_emod_right]
theorem odd_l (l r : List Int) (hl : okd BH l) (hlen : l.length < 1099511627776) (n K : Nat) (hn : n < 1099511627776) (ht : Tz (ev BH l) n) (hr : ∀ k, K ≤ k → spec_Shr.f k l n = some r) (d : Nat) : ∀ i, i + d = n → ∀ k, d + (K + 1) ≤ k → spec_Odd.l0 k l (i : Int) = some (r, (n : Int)) := by
  induction d with
  | zero =>
    intro i hi k hk
    obtain ⟨k, rfl⟩ : ∃ m, k = m + 1 := ⟨k - 1, by omega⟩
    obtain rfl : i = n := by omega
    simp only [spec_Odd.l0]
    rw [has_f l hl hlen i hn, decide_eq_true ht.odd]
    simp only [Option.bind_some, if_true]
    rw [hr k (by omega)]
    rfl
  | succ d ih =>
    intro i hi k hk
    obtain ⟨k, rfl⟩ : ∃ m, k = m + 1 := ⟨k - 1, by omega⟩
    simp only [spec_Odd.l0]
    rw [has_f l hl hlen i (by omega), decide_eq_false (by rw [tz_low ht (by omega)]; omega), inc64 i (by omega)]
    simp only [Option.bind_some, Bool.false_eq_true, if_false]
    exact ih (i + 1) (by omega) k (by omega)
theorem odd_ev (l : List Int) (hl : okd BH l) (hlen : l.length < 1099511627776) (n : Nat) (hn : n < 1099511627776) (ht : Tz (ev BH l) n) : ∃ r, Ev (fun k => spec_Odd.f k l) (r, (n : Int)) ∧ Cn BH r ∧ ev BH r = ev BH l / 2 ^ n := by
  obtain ⟨r, ⟨K, hK⟩, hc, he⟩ := shr_ev l hl hlen n hn
  exact ⟨r, ⟨n + (K + 1), fun k hk => odd_l l r hl hlen n K hn ht hK n 0 (by omega) k (by omega)⟩, hc, he⟩
/-- What is told of a value is what is asked. -/
theorem isReal_ev (p m x vx : Int) (neg : Bool) (X l : List Int) (n : Nat) (hl : Cn BH l) (hlen : l.length < 1099511627776) (hn : n < 1099511627776) (ht : Tz (ev BH l) n) (h0 : 0 < ev BH l) (hX : Cn BW X) (he : ev BW X = ev BH l / 2 ^ n) (hx : x = vx + n) (hv : -1000000000000 ≤ vx ∧ vx ≤ 1000000000000) : Ev (fun k => spec_IsReal.f k p m 1 neg X x p m neg l vx) true := by
  obtain ⟨r, ⟨K, hK⟩, hc, her⟩ := odd_ev l hl.ok hlen n hn ht
  have hrl : r.length < 1099511627776 := by
    have h1 := Cn_len_le hc BH_gt l.length (by
      have h2 := ev_lt hl.ok BH_pos
      have h3 := Int.ediv_le_self (2 ^ n) (Int.le_of_lt h0)
      omega)
    omega
  obtain ⟨w, hcw, hew, ⟨K2, hK2⟩⟩ := has_ev X r hc hrl
  obtain rfl : X = w := Cn_inj hX hcw BW_pos (by rw [he, hew, her])
  refine ⟨K + K2 + 1, fun k hk => ?_⟩
  obtain ⟨k, rfl⟩ : ∃ m, k = m + 1 := ⟨k - 1, by omega⟩
  have hll : l.length ≠ 0 := by
    intro h
    rw [List.eq_nil_of_length_eq_zero h, ev_nil] at h0
    omega
  show spec_IsReal.f (k + 1) p m 1 neg X x p m neg l vx = some true
  unfold spec_IsReal.f
  have hmm : (m != m) = false := by simp
  rw [if_pos rfl, hmm]
  simp only [spec_IsReal.j0]
  have hKk : spec_Odd.f k l = some (r, (n : Int)) := hK k (by omega)
  have hKh : spec_HasWords.f k X r = some (decide (X = X)) := hK2 k (by omega)
  rw [if_neg (by simp), if_neg (by omega), hKk]
  show (if (1 : Int) = 1 then (if (neg == neg) = true then ((spec_HasWords.f k X r).bind fun t210 => (if t210 = true then (some (x == (wrap64 (vx + (n : Int))))) else (some false))) else (some false)) else (some false)) = some true
  rw [if_pos rfl, if_pos (by simp), hKh, decide_eq_true rfl, w64 (by omega) (by omega), hx]
  simp
theorem tz_small {v : Int} {n : Nat} (h : Tz v n) (h0 : 0 < v) (hl : v < Lim) : n < 1600000 := by
  obtain ⟨m, rfl⟩ := h
  rw [Lim_def, BH_two, ← Int.pow_mul] at hl
  refine Nat.lt_of_not_le fun hle => ?_
  have h1 : (2 : Int) ^ (16 * 100000) ≤ 2 ^ n := pow_mono (by omega) (by omega)
  have hp : (0 : Int) < 2 ^ n := Int.pow_pos (by omega)
  have hm : 0 < 2 * m + 1 := by
    rcases Int.lt_or_le 0 (2 * m + 1) with h1 | h1
    · exact h1
    · have := Int.mul_nonpos_of_nonneg_of_nonpos (Int.le_of_lt hp) h1
      omega
  have h2 : (2 : Int) ^ n * 1 ≤ 2 ^ n * (2 * m + 1) := Int.mul_le_mul_of_nonneg_left (by omega) (Int.le_of_lt hp)
  omega
theorem isReal_c (p m x vx : Int) (neg : Bool) (A A' : Option Addr) (mm cc mm' cc' : Nat) (v : Int) (n : Nat) (w : World) (h : Wd w (.slice A mm cc) (v / 2 ^ n)) (h' : Dg w (.slice A' mm' cc') v) (h0 : 0 < v) (hl : v < Lim) (ht : Tz v n) (hx : x = vx + n) (hv : -1000000000000 ≤ vx ∧ vx ≤ 1000000000000) :
    Calls Tryd.prog 16 #[.agg #[.int .u64 p, .int .i64 m, .int .i64 1, .bool neg, .slice A mm cc, .int .i64 x], .int .u64 p, .int .i64 m, .agg #[.bool neg, .slice A' mm' cc', .int .i64 vx]] w fun e w' => e = .returned (.bool true) ∧ Below w.heap.size w w' := by
  obtain ⟨_, _, X, e1, h2, h3, h4, h5⟩ := h
  injection e1 with e1 e2 e3
  subst e1 e2 e3
  obtain ⟨_, _, l, e1, k2, k3, k4, k5⟩ := h'
  injection e1 with e1 e2 e3
  subst e1 e2 e3 k5
  have := Lim_len k4 hl
  obtain ⟨K, hK⟩ := isReal_ev p m x vx neg X l n k4 (by omega) (by have := tz_small ht h0 hl; omega) ht h0 h4 h5 hx hv
  exact spec_IsReal.calls K p m 1 neg _ _ X x p m neg _ _ l vx true w h3 h2 k3 k2 (hK K (Nat.le_refl _))
end Go.Proofs.YtglikgjaobedbaaDoor.Sp
end

/-! ## Tbl -/
section
namespace Go.Proofs.YtglikgjaobedbaaDoor.Sp
open Go.RowKit Go.Proofs.YtglikgjaobedbaaDoorW.PrintWords Go.Proofs.YtglikgjaobedbaaDoorW.PrintLast Go.Proofs.YtglikgjaobedbaaDoorW.PrintMore Go.Proofs.YtglikgjaobedbaaDoor.Dig
set_option linter.unusedVariables false
set_option linter.unusedSimpArgs false
theorem tb_data : (Rows.laid_math_bits_deBruijn64tab : DataW Unit) = Lib.tabData .u8 (Lib.deBruijn64tab.map Int.ofNat) := by rfl
set_option maxRecDepth 100000 in
theorem tb_of_laid {W : World} (hL : laidMetH Tryd.prog [("math/bits.deBruijn32tab", Rows.laid_math_bits_deBruijn32tab), ("math/bits.deBruijn64tab", Rows.laid_math_bits_deBruijn64tab)] W) : Tb W := by
  rw [MakeChecks.laidMetH_plain _ _ _ (by kernel_rfl)] at hL
  have h2 := laidMet.tail hL
  rw [tb_data] at h2
  have hT := Lib.tabIs_of_head (g := 2) (t := 176) (e := 5) (n := 64) (by kernel_rfl) (by kernel_rfl) (by kernel_rfl) (by kernel_rfl) (by kernel_rfl) (by kernel_rfl) h2
  have hc := fun i hi => Lib.TabIs.cell hT (g := 2) (by kernel_rfl) i hi
  refine ⟨fun j hj => ?_, World.block_lt_of_cell? _ _ (hc 0 (by decide))⟩
  rw [hc j (by rw [List.length_map]; exact hj)]
  simp [List.getD, List.getElem?_map, List.getElem?_eq_getElem hj]
end Go.Proofs.YtglikgjaobedbaaDoor.Sp
end
