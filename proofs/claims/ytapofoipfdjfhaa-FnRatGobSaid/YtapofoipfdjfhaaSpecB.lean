/-
  PLAIN LAWS of the reference's functions on natural numbers, as printed: Words, HasWords.
-/
import Derived.Test.YtapofoipfdjfhaaSpecA
import Derived.Test.YtapofoipfdjfhaaSpSWords
import Derived.Test.YtapofoipfdjfhaaSpSHasWords
namespace Go.Proofs.Ytapofoipfdjfhaa.Sp
open Go.RowKit Go.Proofs.YtapofoipfdjfhaaW.PrintWords Go.Proofs.YtapofoipfdjfhaaW.PrintLast Go.Proofs.YtapofoipfdjfhaaW.PrintMore Go.Proofs.Ytapofoipfdjfhaa.Dig
set_option linter.unusedVariables false
set_option linter.unusedSimpArgs false

theorem pow16 (q : Nat) : BH ^ (4 * q) = BW ^ q := by rw [Int.pow_mul, BW_BH]
theorem wrap_u64 {n : Int} (h0 : 0 ≤ n) (h1 : n < 18446744073709551616) : IntKind.u64.wrap n = n := by
  rw [IntKind.wrap_u64]
  omega
theorem or64_comm (x y : Int) (h0 : 0 ≤ x) (h1 : x < 18446744073709551616) (h2 : 0 ≤ y) (h3 : y < 18446744073709551616) : Go.bits .or .u64 x y = Go.bits .or .u64 y x := by
  rw [u64_or x y h0 h1 h2 h3, u64_or y x h2 h3 h0 h1, Nat.or_comm]
/-- A high part is laid over a low one. -/
theorem or64_join (i : Nat) (x y : Int) (hx0 : 0 ≤ x) (hx : x % 2 ^ i = 0) (hx1 : x < 18446744073709551616) (hy0 : 0 ≤ y) (hy : y < 2 ^ i) (hy1 : y < 18446744073709551616) : Go.bits .or .u64 y x = y + x := by
  rw [or64_comm y x hy0 hy1 hx0 hx1, bits_join .u64 64 (by decide) (fun n h0 h1 => wrap_u64 h0 (by simpa using h1)) i x y hx0 hx (by simpa using hx1) hy0 hy (by simpa using hy1)]
  omega
theorem shl_u64 (x : Int) (i : Nat) (hi : i ≤ 64) (h0 : 0 ≤ x) (h1 : x * 2 ^ i < 18446744073709551616) : shl .u64 x (i : Int) = x * 2 ^ i := by
  unfold shl
  simp only [IntKind.bits, Int.toNat_natCast]
  rw [Nat.min_eq_left hi]
  exact wrap_u64 (Int.mul_nonneg h0 (Int.le_of_lt (Int.pow_pos (by omega)))) h1
theorem ev_take_succ (b : Int) (l : List Int) (i : Nat) (hi : i < l.length) : ev b (l.take (i + 1)) = ev b (l.take i) + b ^ i * l.getD i 0 := by
  have : l.take (i + 1) = l.take i ++ [l.getD i 0] := by
    rw [List.take_succ_eq_append_getElem (by omega)]
    simp [List.getD, List.getElem?_eq_getElem (show i < l.length by omega)]
  rw [this, ev_snoc, List.length_take, Nat.min_eq_left (by omega)]
/-- The highest word that has been begun holds what has been put into it. -/
theorem top_lt (out : List Int) (q s : Nat) (hq : q < out.length) (hok : okd BW out) (h : ev BW out < BH ^ (4 * q + s)) : out.getD q 0 < BH ^ s := by
  have h1 := ev_split BW out q (by omega)
  have h2 := ev_nonneg (okd_take hok q) BW_pos
  have h3 : out.drop q = out.getD q 0 :: out.drop (q + 1) := by
    rw [List.drop_eq_getElem_cons hq]
    simp [List.getD, List.getElem?_eq_getElem hq]
  have h4 := ev_nonneg (okd_drop hok (q + 1)) BW_pos
  have hp := pow_pos BW_pos q
  rw [h3] at h1
  simp only [ev_cons] at h1
  rw [Int.pow_add, pow16] at h
  have h5 : BW ^ q * out.getD q 0 ≤ BW ^ q * (out.getD q 0 + BW * ev BW (out.drop (q + 1))) := Int.mul_le_mul_of_nonneg_left (by have := Int.mul_nonneg (Int.le_of_lt BW_pos) h4; omega) (Int.le_of_lt hp)
  exact Int.lt_of_mul_lt_mul_left (show BW ^ q * out.getD q 0 < BW ^ q * BH ^ s by omega) (Int.le_of_lt hp)
theorem put16 (o d : Int) (s : Nat) (hs : s < 4) (h0 : 0 ≤ o) (h1 : o < BH ^ s) (hd0 : 0 ≤ d) (hd1 : d < 65536) :
    Go.bits .or .u64 o (shl .u64 (IntKind.u64.wrap d) (wrap64 (16 * (s : Int)))) = o + BH ^ s * d ∧ o + BH ^ s * d < 18446744073709551616 := by
  rw [wrap_u64 hd0 (by omega), w64 (by omega) (by omega), show (16 * (s : Int)) = ((16 * s : Nat) : Int) by omega]
  have e : BH ^ s = 2 ^ (16 * s) := by rw [Int.pow_mul, BH_two]
  rw [e] at h1 ⊢
  have hb : (2 : Int) ^ (16 * s) ≤ 2 ^ 48 := pow_mono (by omega) (by omega)
  have hp : (0 : Int) < 2 ^ (16 * s) := Int.pow_pos (by omega)
  have hm : d * 2 ^ (16 * s) ≤ 65535 * 2 ^ (16 * s) := Int.mul_le_mul_of_nonneg_right (by omega) (Int.le_of_lt hp)
  have hm0 : 0 ≤ d * 2 ^ (16 * s) := Int.mul_nonneg hd0 (Int.le_of_lt hp)
  have c48 : (2 : Int) ^ 48 = 281474976710656 := rfl
  rw [shl_u64 d (16 * s) (by omega) hd0 (by omega), or64_join (16 * s) _ _ hm0 (Int.mul_emod_left _ _) (by omega) h0 h1 (by omega)]
  rw [Int.mul_comm d]
  rw [Int.mul_comm d] at hm
  exact ⟨rfl, by omega⟩
theorem rd_set_self (l : List Int) (i : Nat) (x : Int) (h : i < l.length) : (l.set i x).getD i 0 = x := by
  simp [List.getD, h]

theorem tm4 (i : Nat) : Int.tmod (i : Int) 4 = ((i % 4 : Nat) : Int) := by rw [Int.tmod_eq_emod_of_nonneg (by omega)]; omega
theorem td4 (i : Nat) (h : i < 1099511627776) : wrap64 (Int.tdiv (i : Int) 4) = ((i / 4 : Nat) : Int) := by rw [Int.tdiv_eq_ediv_of_nonneg (by omega), w64 (by omega) (by omega)]; omega
theorem inc64 (i : Nat) (h : i < 1099511627776) : wrap64 ((i : Int) + 1) = ((i + 1 : Nat) : Int) := by rw [w64 (by omega) (by omega)]; omega
theorem mul16 (s : Nat) (h : s < 4) : 0 ≤ wrap64 (16 * (s : Int)) := by rw [w64 (by omega) (by omega)]; omega
theorem words_l (l : List Int) (hl : okd BH l) (hlen : l.length < 1099511627776) (d : Nat) : ∀ (i : Nat) (out : List Int), i + d = l.length → okd BW out → out.length = (i + 3) / 4 → ev BW out = ev BH (l.take i) →
    ∀ k, d < k → ∃ r, spec_Words.l0 k out l l.length i = some r ∧ okd BW r ∧ r.length = (l.length + 3) / 4 ∧ ev BW r = ev BH l := by
  induction d with
  | zero =>
    intro i out hi hok ho he k hk
    obtain ⟨k, rfl⟩ : ∃ m, k = m + 1 := ⟨k - 1, by omega⟩
    have hi' : i = l.length := by omega
    subst hi'
    simp only [spec_Words.l0]
    rw [if_neg (by omega)]
    rw [List.take_length] at he
    exact ⟨out, rfl, hok, ho, he⟩
  | succ d ih =>
    intro i out hi hok ho he k hk
    obtain ⟨k, rfl⟩ : ∃ m, k = m + 1 := ⟨k - 1, by omega⟩
    have hil : i < l.length := by omega
    have hx := okd_get hl BH_pos i
    have hi40 : i < 1099511627776 := by omega
    have hmod : i = 4 * (i / 4) + i % 4 := by omega
    have hlt := ev_lt (okd_take hl i) BH_pos
    rw [List.length_take, Nat.min_eq_left (by omega), ← he] at hlt
    have step : ∀ (o2 : List Int), okd BW o2 → o2.length = i / 4 + 1 → ev BW o2 = ev BH (l.take i) →
        ∃ r, spec_Words.l0 k (o2.set (i / 4) (Go.bits .or .u64 (rd o2 ((i / 4 : Nat) : Int)) (shl .u64 (IntKind.u64.wrap (rd l (i : Int))) (wrap64 (16 * ((i % 4 : Nat) : Int)))))) l l.length ((i + 1 : Nat) : Int) = some r ∧ okd BW r ∧ r.length = (l.length + 3) / 4 ∧ ev BW r = ev BH l := by
      intro o2 hok2 hl2 he2
      have hb := okd_get hok2 BW_pos (i / 4)
      have hlt2 : ev BW o2 < BH ^ (4 * (i / 4) + i % 4) := by rw [← hmod, he2, ← he]; exact hlt
      have htop := top_lt o2 (i / 4) (i % 4) (by omega) hok2 hlt2
      obtain ⟨p1, p2⟩ := put16 (o2.getD (i / 4) 0) (l.getD i 0) (i % 4) (by omega) hb.1 htop hx.1 (by rw [← BH_def]; exact hx.2)
      rw [rd_nat, rd_nat, p1]
      have hge : 0 ≤ BH ^ (i % 4) * l.getD i 0 := Int.mul_nonneg (Int.le_of_lt (Int.pow_pos BH_pos)) hx.1
      refine ih (i + 1) _ (by omega) (okd_set hok2 _ (by omega) (by rw [BW_def]; exact p2)) (by rw [List.length_set, hl2]; omega) ?_ k (by omega)
      rw [ev_set _ _ _ _ (by omega), ev_take_succ _ _ _ hil, he2, ← pow16]
      conv => rhs; rw [hmod]
      rw [Int.pow_add]
      have : o2.getD (i / 4) 0 + BH ^ (i % 4) * l.getD i 0 - o2.getD (i / 4) 0 = BH ^ (i % 4) * l.getD i 0 := by omega
      rw [this, Int.mul_assoc, ← hmod]
    simp only [spec_Words.l0]
    rw [if_pos (by omega), if_pos (by omega), if_pos (by omega), tm4, td4 i hi40, inc64 i hi40]
    by_cases hs : i % 4 = 0
    · rw [if_pos (by omega), if_pos (by omega)]
      simp only [Option.bind_some]
      rw [if_pos (by omega), if_pos (by simp; omega), if_pos (mul16 _ (by omega)), Int.toNat_natCast]
      exact step (out ++ [0]) (okd_append.2 ⟨hok, fun x hx => by simp at hx; rw [BW_def]; omega⟩) (by simp; omega) (by rw [ev_snoc, he]; simp)
    · rw [if_neg (by omega), if_pos (by omega), if_pos (by omega), if_pos (mul16 _ (by omega)), Int.toNat_natCast]
      exact step out hok (by omega) he
theorem Cn_of_ge {b : Int} {l : List Int} (h : okd b l) (hb : 1 < b) (hg : l ≠ [] → b ^ (l.length - 1) ≤ ev b l) : Cn b l := by
  refine ⟨h, fun d hd e => ?_⟩
  have h0 : l ≠ [] := by intro e; subst e; simp at hd
  obtain ⟨m, x, rfl⟩ : ∃ m d, l = m ++ [d] := ⟨l.dropLast, l.getLast h0, (List.dropLast_concat_getLast h0).symm⟩
  have hx : x = d := by simpa using hd
  subst hx
  have h1 := hg h0
  have h2 := ev_lt (okd_append.1 h).1 (by omega)
  rw [ev_snoc, e] at h1
  simp at h1
  omega
/-- The words of a number that is told in digits to the base 65536. -/
theorem words_ev (l : List Int) (hl : Cn BH l) (hlen : l.length < 1099511627776) : ∃ r, Ev (fun k => spec_Words.f k l) r ∧ Cn BW r ∧ ev BW r = ev BH l ∧ r.length ≤ l.length := by
  obtain ⟨r, hr, hok, hlen2, he⟩ := words_l l hl.ok hlen l.length 0 [] (by omega) (okd_nil _) (by simp) (by simp [ev]) (l.length + 1) (by omega)
  refine ⟨r, Ev.of (spec_Words.mono l) (k := l.length + 1) hr, Cn_of_ge hok BW_gt (fun h0 => ?_), he, by omega⟩
  have h1 : l ≠ [] := by intro e; subst e; simp at hlen2; exact h0 hlen2
  have h2 := Cn_len_ge hl BH_pos h1
  have h3 : BW ^ (r.length - 1) ≤ BH ^ (l.length - 1) := by
    rw [← pow16]
    refine pow_mono BH_pos ?_
    have : l.length ≠ 0 := fun e => h1 (List.eq_nil_of_length_eq_zero e)
    omega
  omega

theorem has_l (x w : List Int) (hlen : x.length < 1099511627776) (hxw : x.length = w.length) (d : Nat) : ∀ (i : Nat), i + d = w.length → x.take i = w.take i → ∀ k, d < k → spec_HasWords.l0 k x w w.length i = some (decide (x = w)) := by
  induction d with
  | zero =>
    intro i hi ht k hk
    obtain ⟨k, rfl⟩ : ∃ m, k = m + 1 := ⟨k - 1, by omega⟩
    simp only [spec_HasWords.l0]
    rw [if_neg (by omega)]
    have : x = w := by
      rw [← List.take_length (l := x), ← List.take_length (l := w), hxw, show w.length = i by omega]
      exact ht
    simp [this]
  | succ d ih =>
    intro i hi ht k hk
    obtain ⟨k, rfl⟩ : ∃ m, k = m + 1 := ⟨k - 1, by omega⟩
    have t3 := inc64 i (by omega)
    simp only [spec_HasWords.l0]
    rw [if_pos (by omega), if_pos (by omega), if_pos (by omega), if_pos (by omega), rd_nat, rd_nat, inc64 i (by omega)]
    by_cases h : x.getD i 0 = w.getD i 0
    · rw [if_pos h]
      refine ih (i + 1) (by omega) ?_ k (by omega)
      rw [List.take_succ_eq_append_getElem (by omega), List.take_succ_eq_append_getElem (by omega), ht]
      simp only [List.getD_eq_getElem?_getD, List.getElem?_eq_getElem (show i < x.length by omega), List.getElem?_eq_getElem (show i < w.length by omega), Option.getD_some] at h
      rw [h]
    · rw [if_neg h]
      have : x ≠ w := fun e => h (by rw [e])
      simp [this]
theorem has_ev (x l : List Int) (hl : Cn BH l) (hlen : l.length < 1099511627776) : ∃ w, Cn BW w ∧ ev BW w = ev BH l ∧ Ev (fun k => spec_HasWords.f k x l) (decide (x = w)) := by
  obtain ⟨w, hw, hc, he, hle⟩ := words_ev l hl hlen
  refine ⟨w, hc, he, Ev.bind (g := fun k => spec_Words.f k l) (f := fun k (t : List Int) => if (x.length : Int) = (t.length : Int) then spec_HasWords.l0 k x t (t.length : Int) 0 else some false) hw ?_⟩
  by_cases h : x.length = w.length
  · refine ⟨w.length + 1, fun k hk => ?_⟩
    show (if (x.length : Int) = (w.length : Int) then spec_HasWords.l0 k x w (w.length : Int) 0 else some false) = _
    rw [if_pos (by omega)]
    exact has_l x w (by omega) h w.length 0 (by omega) (by simp) k (by omega)
  · refine ⟨0, fun k hk => ?_⟩
    show (if (x.length : Int) = (w.length : Int) then spec_HasWords.l0 k x w (w.length : Int) 0 else some false) = _
    rw [if_neg (by omega)]
    have : x ≠ w := fun e => h (by rw [e])
    simp [this]
end Go.Proofs.Ytapofoipfdjfhaa.Sp
