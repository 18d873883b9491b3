/-
  PLAIN LAWS of the reference's functions on natural numbers, as printed: Cmp, Len, byDigit, Add, Sub.
-/
import Derived.Test.YtapofoipfdjfhaaSpecB
import Derived.Test.YtapofoipfdjfhaaSpSCmp
import Derived.Test.YtapofoipfdjfhaaSpSLen
import Derived.Test.YtapofoipfdjfhaaSpSByDigit
import Derived.Test.YtapofoipfdjfhaaSpSAdd
import Derived.Test.YtapofoipfdjfhaaSpSSub
namespace Go.Proofs.Ytapofoipfdjfhaa.Sp
open Go.RowKit Go.Proofs.YtapofoipfdjfhaaW.PrintWords Go.Proofs.YtapofoipfdjfhaaW.PrintLast Go.Proofs.YtapofoipfdjfhaaW.PrintMore Go.Proofs.Ytapofoipfdjfhaa.Dig
set_option linter.unusedVariables false
set_option linter.unusedSimpArgs false

theorem drop_cons (l : List Int) (i : Nat) (h : i < l.length) : l.drop i = l.getD i 0 :: l.drop (i + 1) := by
  rw [List.drop_eq_getElem_cons h]
  simp [List.getD, List.getElem?_eq_getElem h]
theorem ev_mid (b : Int) (l : List Int) (i : Nat) (h : i < l.length) : ev b l = ev b (l.take i) + b ^ i * (l.getD i 0 + b * ev b (l.drop (i + 1))) := by
  rw [ev_split b l i (by omega), drop_cons l i h, ev_cons]
theorem ev_take_lt {b : Int} {l : List Int} (h : okd b l) (hb : 0 < b) (i : Nat) (hi : i ≤ l.length) : 0 ≤ ev b (l.take i) ∧ ev b (l.take i) < b ^ i := by
  have h1 := ev_lt (okd_take h i) hb
  rw [List.length_take, Nat.min_eq_left hi] at h1
  exact ⟨ev_nonneg (okd_take h i) hb, h1⟩

/-! ### Cmp -/
def cmpI (a b : Int) : Int := if a < b then -1 else if a > b then 1 else 0
theorem cmpI_lt {a b : Int} (h : a < b) : cmpI a b = -1 := if_pos h
theorem cmpI_gt {a b : Int} (h : b < a) : cmpI a b = 1 := by rw [cmpI, if_neg (by omega), if_pos h]
theorem cmpI_self (a : Int) : cmpI a a = 0 := by rw [cmpI, if_neg (by omega), if_neg (by omega)]
theorem mid_lt (x y : List Int) (hx : okd BH x) (hy : okd BH y) (i : Nat) (h : i < x.length) (h' : i < y.length) (ht : x.drop (i + 1) = y.drop (i + 1)) (hlt : x.getD i 0 < y.getD i 0) : ev BH x < ev BH y := by
  have h1 := ev_mid BH x i h
  have h2 := ev_mid BH y i h'
  have h3 := ev_take_lt hx BH_pos i (by omega)
  have h4 := ev_take_lt hy BH_pos i (by omega)
  rw [ht] at h1
  have hp := pow_pos BH_pos i
  have h5 : BH ^ i * (x.getD i 0 + BH * ev BH (y.drop (i + 1)) + 1) ≤ BH ^ i * (y.getD i 0 + BH * ev BH (y.drop (i + 1))) := Int.mul_le_mul_of_nonneg_left (by omega) (Int.le_of_lt hp)
  rw [Int.mul_add _ _ 1, Int.mul_one] at h5
  omega
theorem cmp_l (x y : List Int) (hx : okd BH x) (hy : okd BH y) (hlen : x.length < 1099511627776) (hxy : x.length = y.length) (d : Nat) : d ≤ x.length → x.drop d = y.drop d → ∀ k, d < k → spec_Cmp.l0 k x y ((d : Int) - 1) = some (cmpI (ev BH x) (ev BH y)) := by
  induction d with
  | zero =>
    intro _ ht k hk
    obtain ⟨k, rfl⟩ : ∃ m, k = m + 1 := ⟨k - 1, by omega⟩
    simp only [spec_Cmp.l0]
    rw [if_neg (by omega)]
    have : x = y := by simpa using ht
    rw [this, cmpI_self]
  | succ d ih =>
    intro hd ht k hk
    obtain ⟨k, rfl⟩ : ∃ m, k = m + 1 := ⟨k - 1, by omega⟩
    have e : (((d + 1 : Nat) : Int) - 1) = (d : Int) := by omega
    have e2 : wrap64 ((d : Int) - 1) = (d : Int) - 1 := w64 (by omega) (by omega)
    simp only [spec_Cmp.l0]
    rw [e, if_pos (by omega), if_pos (by omega), if_pos (by omega), if_pos (by omega), rd_nat, rd_nat]
    by_cases h1 : x.getD d 0 < y.getD d 0
    · rw [if_pos h1, cmpI_lt (mid_lt x y hx hy d (by omega) (by omega) ht h1)]
    · rw [if_neg h1]
      by_cases h2 : x.getD d 0 > y.getD d 0
      · rw [if_pos h2, cmpI_gt (mid_lt y x hy hx d (by omega) (by omega) ht.symm h2)]
      · rw [if_neg h2, e2]
        refine ih (by omega) ?_ k (by omega)
        rw [drop_cons x d (by omega), drop_cons y d (by omega), ht, show x.getD d 0 = y.getD d 0 by omega]
theorem len_lt_ev {x y : List Int} (hx : Cn BH x) (hy : Cn BH y) (h : x.length < y.length) : ev BH x < ev BH y := by
  have h1 := ev_lt hx.ok BH_pos
  have h2 := Cn_len_ge hy BH_pos (by intro e; subst e; simp at h)
  have h3 : BH ^ x.length ≤ BH ^ (y.length - 1) := pow_mono BH_pos (by omega)
  omega
theorem cmp_ev (x y : List Int) (hx : Cn BH x) (hy : Cn BH y) (hlen : x.length < 1099511627776) : Ev (fun k => spec_Cmp.f k x y) (cmpI (ev BH x) (ev BH y)) := by
  refine ⟨x.length + 1, fun k hk => ?_⟩
  show (if (x.length : Int) < (y.length : Int) then some (-1) else (if (x.length : Int) > (y.length : Int) then some 1 else spec_Cmp.l0 k x y (wrap64 ((x.length : Int) - 1)))) = _
  by_cases h1 : x.length < y.length
  · rw [if_pos (by omega), cmpI_lt (len_lt_ev hx hy h1)]
  · rw [if_neg (by omega)]
    by_cases h2 : y.length < x.length
    · rw [if_pos (by omega), cmpI_gt (len_lt_ev hy hx h2)]
    · have e2 : wrap64 ((x.length : Int) - 1) = (x.length : Int) - 1 := w64 (by omega) (by omega)
      rw [if_neg (by omega), e2]
      exact cmp_l x y hx.ok hy.ok hlen (by omega) x.length (Nat.le_refl _) (by rw [List.drop_length, show x.length = y.length by omega, List.drop_length]) k (by omega)

/-! ### Len -/
/-- v has n bits. -/
def Bits (v : Int) (n : Nat) : Prop := 0 ≤ v ∧ v < 2 ^ n ∧ (n = 0 ∨ 2 ^ (n - 1) ≤ v)
theorem Bits.zero : Bits 0 0 := ⟨by omega, by decide, .inl rfl⟩
theorem Bits.le {v : Int} {n m : Nat} (h : Bits v n) (hm : v < 2 ^ m) : n ≤ m := by
  rcases h.2.2 with h0 | h0
  · omega
  · rcases Nat.lt_or_ge m n with h1 | h1
    · exfalso
      have h2 : (2 : Int) ^ m ≤ 2 ^ (n - 1) := pow_mono (by omega) (by omega)
      omega
    · exact h1
theorem Bits.uniq {v : Int} {n m : Nat} (h : Bits v n) (h' : Bits v m) : n = m := by
  have := h.le h'.2.1
  have := h'.le h.2.1
  omega
theorem Bits.pos {v : Int} {n : Nat} (h : Bits v n) (hv : 0 < v) : 0 < n := by
  rcases Nat.eq_zero_or_pos n with h0 | h0
  · subst h0
    have := h.2.1
    simp at this
    omega
  · exact h0
theorem Bits.exists (v : Int) (h : 0 ≤ v) : ∃ n, Bits v n := by
  obtain ⟨m, rfl⟩ := Int.eq_ofNat_of_zero_le h
  by_cases h0 : m = 0
  · subst h0; exact ⟨0, Bits.zero⟩
  · refine ⟨Nat.log2 m + 1, by omega, ?_, .inr ?_⟩
    · have := (Nat.log2_lt h0).1 (Nat.lt_succ_self (Nat.log2 m))
      exact_mod_cast this
    · have := (Nat.le_log2 h0).1 (Nat.le_refl _)
      simpa using (by exact_mod_cast this : ((2 ^ Nat.log2 m : Nat) : Int) ≤ m)
theorem Bits.half {v : Int} {n : Nat} (h : Bits v n) (hv : 0 < v) : Bits (v / 2) (n - 1) := by
  have hn := h.pos hv
  obtain ⟨n, rfl⟩ : ∃ m, n = m + 1 := ⟨n - 1, by omega⟩
  obtain ⟨h0, h1, h2⟩ := h
  rw [Int.pow_succ] at h1
  refine ⟨by omega, by simp only [Nat.add_sub_cancel]; omega, ?_⟩
  rcases Nat.eq_zero_or_pos n with hz | hz
  · exact .inl (by omega)
  · refine .inr ?_
    obtain ⟨n, rfl⟩ : ∃ m, n = m + 1 := ⟨n - 1, by omega⟩
    rcases h2 with h2 | h2
    · omega
    · simp only [Nat.add_sub_cancel] at h2 ⊢
      rw [Int.pow_succ] at h2
      omega
theorem len_l (n : Nat) : ∀ (v m : Int), Bits v n → 0 ≤ m → m + n ≤ 4611686018427387904 → v < 65536 → ∀ k, n < k → spec_Len.l0 k m v = some (m + n) := by
  induction n with
  | zero =>
    intro v m hv hm0 hm hv2 k hk
    obtain ⟨k, rfl⟩ : ∃ m, k = m + 1 := ⟨k - 1, by omega⟩
    have h1 := hv.2.1
    simp only [spec_Len.l0]
    rw [if_neg (by simp at h1; omega)]
    simp
  | succ n ih =>
    intro v m hv hm0 hm hv2 k hk
    obtain ⟨k, rfl⟩ : ∃ m, k = m + 1 := ⟨k - 1, by omega⟩
    have hp : 0 < v := by
      rcases hv.2.2 with h | h
      · omega
      · have : (0 : Int) < 2 ^ (n + 1 - 1) := Int.pow_pos (by omega)
        omega
    have e1 : wrap64 (m + 1) = m + 1 := w64 (by omega) (by omega)
    have e2 : wrap64 (v / 2) = v / 2 := w64 (by omega) (by omega)
    simp only [spec_Len.l0]
    rw [if_pos hp, Int.tdiv_eq_ediv_of_nonneg (by omega), e1, e2]
    rw [ih (v / 2) (m + 1) (by simpa using hv.half hp) (by omega) (by omega) (by omega) k (by omega)]
    congr 1
    omega
theorem len_top (l : List Int) (hl : Cn BH l) (t : Nat) (h0 : l ≠ []) (ht : Bits (l.getD (l.length - 1) 0) t) : Bits (ev BH l) (16 * (l.length - 1) + t) := by
  have hn : 0 < l.length := List.length_pos_iff.2 h0
  have h1 := ev_mid BH l (l.length - 1) (by omega)
  have h2 := ev_take_lt hl.ok BH_pos (l.length - 1) (by omega)
  rw [show l.length - 1 + 1 = l.length by omega, List.drop_length, ev_nil, Int.mul_zero, Int.add_zero] at h1
  have hg : 0 < l.getD (l.length - 1) 0 := by
    have h3 := okd_get hl.ok BH_pos (l.length - 1)
    have h4 := hl.top (l.getD (l.length - 1) 0) (by rw [List.getLast?_eq_getElem?, List.getD_eq_getElem?_getD, List.getElem?_eq_getElem (by omega)]; rfl)
    omega
  have ht0 := ht.pos hg
  have e : BH ^ (l.length - 1) = 2 ^ (16 * (l.length - 1)) := by rw [Int.pow_mul, BH_two]
  rw [e] at h1 h2
  have hp : (0 : Int) < 2 ^ (16 * (l.length - 1)) := Int.pow_pos (by omega)
  refine ⟨ev_nonneg hl.ok BH_pos, ?_, .inr ?_⟩
  · rw [Int.pow_add]
    have h5 : (2 : Int) ^ (16 * (l.length - 1)) * (l.getD (l.length - 1) 0 + 1) ≤ 2 ^ (16 * (l.length - 1)) * 2 ^ t := Int.mul_le_mul_of_nonneg_left (by have := ht.2.1; omega) (Int.le_of_lt hp)
    rw [Int.mul_add, Int.mul_one] at h5
    omega
  · rw [show 16 * (l.length - 1) + t - 1 = 16 * (l.length - 1) + (t - 1) by omega, Int.pow_add]
    have ht2 : (2 : Int) ^ (t - 1) ≤ l.getD (l.length - 1) 0 := by
      rcases ht.2.2 with h | h
      · omega
      · exact h
    have h5 : (2 : Int) ^ (16 * (l.length - 1)) * 2 ^ (t - 1) ≤ 2 ^ (16 * (l.length - 1)) * l.getD (l.length - 1) 0 := Int.mul_le_mul_of_nonneg_left ht2 (Int.le_of_lt hp)
    omega
theorem len_ev (l : List Int) (hl : Cn BH l) (hlen : l.length < 1099511627776) : ∃ n : Nat, Bits (ev BH l) n ∧ Ev (fun k => spec_Len.f k l) (n : Int) ∧ n ≤ 16 * l.length := by
  by_cases h0 : l = []
  · subst h0
    exact ⟨0, by rw [ev_nil]; exact Bits.zero, ⟨0, fun k _ => rfl⟩, by simp⟩
  · have hn : 0 < l.length := List.length_pos_iff.2 h0
    have hg := okd_get hl.ok BH_pos (l.length - 1)
    rw [BH_def] at hg
    obtain ⟨t, ht⟩ := Bits.exists _ hg.1
    have ht16 := ht.le (m := 16) (by simpa using hg.2)
    refine ⟨16 * (l.length - 1) + t, len_top l hl t h0 ht, ⟨t + 1, fun k hk => ?_⟩, by omega⟩
    have e1 : wrap64 ((l.length : Int) - 1) = ((l.length - 1 : Nat) : Int) := by rw [w64 (by omega) (by omega)]; omega
    have e2 : wrap64 (16 * ((l.length - 1 : Nat) : Int)) = 16 * ((l.length - 1 : Nat) : Int) := w64 (by omega) (by omega)
    show (if (l.length : Int) = 0 then some 0 else (if 0 ≤ (wrap64 ((l.length : Int) - 1)) then (if (wrap64 ((l.length : Int) - 1)) < (l.length : Int) then (spec_Len.l0 k (wrap64 (16 * (wrap64 ((l.length : Int) - 1)))) (rd l (wrap64 ((l.length : Int) - 1)))) else none) else none)) = _
    rw [e1, e2, if_neg (by omega), if_pos (by omega), if_pos (by omega), rd_nat, len_l t _ _ ht (by omega) (by omega) hg.2 k (by omega)]
    congr 1 <;> omega

/-! ### byDigit -/
theorem dig_l (l : List Int) (hl : okd BH l) (hlen : l.length < 1099511627776) (D : Int) (hD0 : 0 < D) (hD1 : D < 65536) (d : Nat) : ∀ (out : List Int) (rest : Int), d ≤ l.length → out.length = l.length → okd BH out → 0 ≤ rest → rest < D →
    ev BH (l.drop d) = ev BH (out.drop d) * D + rest → ∀ k, d + l.length + 1 < k → ∃ q r, spec_byDigit.l0 k l D out rest ((d : Int) - 1) = some (q, r) ∧ Cn BH q ∧ ev BH l = ev BH q * D + r ∧ 0 ≤ r ∧ r < D := by
  induction d with
  | zero =>
    intro out rest _ ho hok h0 h1 he k hk
    obtain ⟨k, rfl⟩ : ∃ m, k = m + 1 := ⟨k - 1, by omega⟩
    obtain ⟨s1, s2, _⟩ := strip_cn out hok
    refine ⟨strip out, rest, ?_, s1, by rw [s2]; simpa using he, h0, h1⟩
    simp only [spec_byDigit.l0]
    rw [if_neg (by omega)]
    show (spec_trim.l0 k out).bind _ = _
    rw [trim_l out (by omega) k (by omega)]
    rfl
  | succ d ih =>
    intro out rest hd ho hok h0 h1 he k hk
    obtain ⟨k, rfl⟩ : ∃ m, k = m + 1 := ⟨k - 1, by omega⟩
    have e : (((d + 1 : Nat) : Int) - 1) = (d : Int) := by omega
    have e2 : wrap64 ((d : Int) - 1) = (d : Int) - 1 := w64 (by omega) (by omega)
    have hx := okd_get hl BH_pos d
    rw [BH_def] at hx
    have e3 : wrap64 (rest * 65536) = rest * 65536 := w64 (by omega) (by omega)
    have e4 : wrap64 (rest * 65536 + l.getD d 0) = rest * 65536 + l.getD d 0 := w64 (by omega) (by omega)
    obtain ⟨c, hc⟩ : ∃ c, c = rest * 65536 + l.getD d 0 := ⟨_, rfl⟩
    have hc0 : 0 ≤ c := by omega
    have hc1 : c < D * 65536 := by
      have : (rest + 1) * 65536 ≤ D * 65536 := Int.mul_le_mul_of_nonneg_right (by omega) (by omega)
      omega
    have hq0 : 0 ≤ c / D := Int.ediv_nonneg hc0 (by omega)
    have hq1 : c / D < 65536 := Int.ediv_lt_of_lt_mul hD0 (by rw [Int.mul_comm]; exact hc1)
    have e5 : wrap64 (c / D) = c / D := w64 (by omega) (by omega)
    have hr0 := Int.emod_nonneg c (show D ≠ 0 by omega)
    have hr1 := Int.emod_lt_of_pos c hD0
    have hqr := Int.emod_add_mul_ediv c D
    have tq : Int.tdiv c D = c / D := Int.tdiv_eq_ediv_of_nonneg hc0
    have tr : Int.tmod c D = c % D := Int.tmod_eq_emod_of_nonneg hc0
    simp only [spec_byDigit.l0]
    rw [e, if_pos (by omega), if_pos (by omega), if_pos (by omega), if_neg (by omega), if_pos (by omega), rd_nat, e3, e4, ← hc, tq, tr, e5, e2, Int.toNat_natCast]
    clear tq tr
    refine ih (out.set d (c / D)) (c % D) (by omega) (by simpa using ho) (okd_set hok d hq0 (by rw [BH_def]; exact hq1)) hr0 hr1 ?_ k (by omega)
    rw [drop_cons l d (by omega), drop_cons (out.set d (c / D)) d (by rw [List.length_set]; omega), rd_set_self _ _ _ (by omega), List.drop_set_of_lt (by omega), ev_cons, ev_cons, he]
    have hB := BH_def
    rw [show l.getD d 0 = c - rest * BH by rw [hB]; omega]
    clear ih he hok hl hx hc1 hq1 e e2 e3 e4 e5 hc hq0 hr0 hr1
    generalize c / D = q at *
    generalize c % D = r at *
    generalize ev BH (List.drop (d + 1) out) = T
    clear hk hd ho hlen hD0 hD1 hB h0 h1 hc0
    grind
theorem dig_ev (l : List Int) (hl : Cn BH l) (hlen : l.length < 1099511627776) (D : Int) (hD0 : 0 < D) (hD1 : D < 65536) : ∃ q r, Ev (fun k => spec_byDigit.f k l D) (q, r) ∧ Cn BH q ∧ ev BH l = ev BH q * D + r ∧ 0 ≤ r ∧ r < D := by
  obtain ⟨q, r, h, h2⟩ := dig_l l hl.ok hlen D hD0 hD1 l.length (List.replicate l.length 0) 0 (Nat.le_refl _) (by simp) (okd_replicate _ BH_pos) (by omega) hD0 (by simp [ev_nil]) (l.length + l.length + 2) (by omega)
  refine ⟨q, r, Ev.of (spec_byDigit.mono l D) (k := l.length + l.length + 2) ?_, h2⟩
  have e2 : wrap64 ((l.length : Int) - 1) = (l.length : Int) - 1 := w64 (by omega) (by omega)
  show (if 0 ≤ (l.length : Int) then (if ((l.length : Int) : Int).toNat ≤ 35184372088832 then (spec_byDigit.l0 (l.length + l.length + 2) l D (List.replicate ((l.length : Int) : Int).toNat 0) 0 (wrap64 ((l.length : Int) - 1))) else none) else none) = _
  rw [if_pos (by omega), if_pos (by simp; omega), e2, Int.toNat_natCast, h]

/-! ### Add -/
theorem ev_take_succ' (b : Int) (l : List Int) (i : Nat) : ev b (l.take (i + 1)) = ev b (l.take i) + b ^ i * l.getD i 0 := by
  by_cases h : i < l.length
  · exact ev_take_succ b l i h
  · rw [List.take_of_length_le (by omega), List.take_of_length_le (by omega), List.getD_eq_getElem?_getD, List.getElem?_eq_none (by omega)]
    simp
theorem getD_out (l : List Int) (i : Nat) (h : ¬ i < l.length) : l.getD i 0 = 0 := by
  rw [List.getD_eq_getElem?_getD, List.getElem?_eq_none (by omega)]
  rfl
theorem add_step (x y out : List Int) (hx : okd BH x) (hy : okd BH y) (hlx : x.length < 1099511627776) (hly : y.length < 1099511627776) (c : Int) (hc0 : 0 ≤ c) (hc1 : c ≤ 1) (i : Nat) (ho : out.length = i) (h : i < x.length ∨ i < y.length) (k : Nat) :
    spec_Add.l0 (k + 2) x y out c i = spec_Add.l0 k x y (out ++ [(c + x.getD i 0 + y.getD i 0) % 65536]) ((c + x.getD i 0 + y.getD i 0) / 65536) ((i + 1 : Nat) : Int) := by
  have h1 := okd_get hx BH_pos i
  have h2 := okd_get hy BH_pos i
  rw [BH_def] at h1 h2
  have e1 := inc64 i (by omega)
  have d1 : ∀ s : Int, 0 ≤ s → s < 4294967296 → Int.tmod (wrap64 s) 65536 = s % 65536 ∧ wrap64 (Int.tdiv (wrap64 s) 65536) = s / 65536 := by
    intro s s0 s1
    rw [w64 (by omega) (by omega), Int.tmod_eq_emod_of_nonneg s0, Int.tdiv_eq_ediv_of_nonneg s0, w64 (by omega) (by omega)]
    exact ⟨rfl, rfl⟩
  have e2 : wrap64 (c + x.getD i 0) = c + x.getD i 0 := w64 (by omega) (by omega)
  simp only [spec_Add.l0]
  by_cases hix : i < x.length
  · rw [if_pos (by omega)]
    simp only [spec_Add.j1]
    rw [if_pos trivial, if_pos (by omega), if_pos (by omega)]
    by_cases hiy : i < y.length
    · rw [if_pos (by omega), if_pos (by omega), rd_nat, rd_nat, e2, (d1 _ (by omega) (by omega)).1, (d1 _ (by omega) (by omega)).2, e1]
    · rw [if_neg (by omega), if_pos (by omega), rd_nat, (d1 _ (by omega) (by omega)).1, (d1 _ (by omega) (by omega)).2, e1, getD_out y i hiy, Int.add_zero]
  · have hiy : i < y.length := by omega
    rw [if_neg (by omega), decide_eq_true (by omega)]
    simp only [spec_Add.j1]
    rw [if_pos trivial, if_neg (by omega), if_pos (by omega), if_pos (by omega), if_pos (by omega), rd_nat, (d1 _ (by omega) (by omega)).1, (d1 _ (by omega) (by omega)).2, e1, getD_out x i hix, Int.add_zero]
theorem add_l (x y : List Int) (hx : okd BH x) (hy : okd BH y) (hlx : x.length < 1099511627776) (hly : y.length < 1099511627776) (d : Nat) : ∀ (i : Nat) (out : List Int) (c : Int), i + d = max x.length y.length → out.length = i → okd BH out → 0 ≤ c → c ≤ 1 →
    ev BH out + BH ^ i * c = ev BH (x.take i) + ev BH (y.take i) → ∀ k, 2 * d + max x.length y.length + 4 < k → ∃ r, spec_Add.l0 k x y out c i = some r ∧ Cn BH r ∧ ev BH r = ev BH x + ev BH y := by
  induction d with
  | zero =>
    intro i out c hi ho hok hc0 hc1 he k hk
    obtain ⟨k, rfl⟩ : ∃ m, k = m + 2 := ⟨k - 2, by omega⟩
    obtain ⟨s1, s2, _⟩ := strip_cn (out ++ [c]) (okd_append.2 ⟨hok, fun z hz => by simp at hz; rw [BH_def]; omega⟩)
    refine ⟨strip (out ++ [c]), ?_, s1, ?_⟩
    · simp only [spec_Add.l0]
      rw [if_neg (by omega), decide_eq_false (by omega)]
      simp only [spec_Add.j1]
      rw [if_neg (by decide), if_pos (by omega)]
      show (spec_trim.l0 k (out ++ [c])).bind _ = _
      rw [trim_l _ (by simp; omega) k (by simp; omega)]
      rfl
    · rw [s2, ev_snoc, ho, he, List.take_of_length_le (by omega), List.take_of_length_le (by omega)]
  | succ d ih =>
    intro i out c hi ho hok hc0 hc1 he k hk
    have h : i < x.length ∨ i < y.length := by omega
    obtain ⟨k, rfl⟩ : ∃ m, k = m + 2 := ⟨k - 2, by omega⟩
    have h1 := okd_get hx BH_pos i
    have h2 := okd_get hy BH_pos i
    have hB := BH_def
    rw [BH_def] at h1 h2
    rw [add_step x y out hx hy hlx hly c hc0 hc1 i ho h k]
    refine ih (i + 1) _ _ (by omega) (by simp; omega) (okd_append.2 ⟨hok, fun z hz => by simp at hz; rw [BH_def]; omega⟩) (by omega) (by omega) ?_ k (by omega)
    rw [ev_snoc, ev_take_succ', ev_take_succ', ho]
    have hq := Int.emod_add_mul_ediv (c + x.getD i 0 + y.getD i 0) 65536
    rw [← hB] at hq ⊢
    generalize (c + x.getD i 0 + y.getD i 0) % BH = r at hq ⊢
    generalize (c + x.getD i 0 + y.getD i 0) / BH = q at hq ⊢
    generalize ev BH out = o at *
    generalize ev BH (x.take i) = X at *
    generalize ev BH (y.take i) = Y at *
    clear ih h1 h2 hB hi hk h
    grind
theorem add_ev (x y : List Int) (hx : okd BH x) (hy : okd BH y) (hlx : x.length < 1099511627776) (hly : y.length < 1099511627776) : ∃ r, Ev (fun k => spec_Add.f k x y) r ∧ Cn BH r ∧ ev BH r = ev BH x + ev BH y := by
  obtain ⟨r, h, h2⟩ := add_l x y hx hy hlx hly (max x.length y.length) 0 [] 0 (by omega) rfl (okd_nil _) (by omega) (by omega) (by simp [ev_nil]) (3 * max x.length y.length + 5) (by omega)
  exact ⟨r, Ev.of (spec_Add.mono x y) (k := 3 * max x.length y.length + 5) h, h2⟩

/-! ### Sub -/
theorem sub_step (x y out : List Int) (hx : okd BH x) (hy : okd BH y) (hlx : x.length < 1099511627776) (c : Int) (hc0 : 0 ≤ c) (hc1 : c ≤ 1) (i : Nat) (ho : out.length = i) (h : i < x.length) (k : Nat) :
    spec_Sub.l0 (k + 1) y out c x x.length i = spec_Sub.l0 k y (out ++ [(x.getD i 0 - c - y.getD i 0) % 65536]) (if x.getD i 0 - c - y.getD i 0 < 0 then 1 else 0) x x.length ((i + 1 : Nat) : Int) := by
  have h1 := okd_get hx BH_pos i
  have h2 := okd_get hy BH_pos i
  rw [BH_def] at h1 h2
  have e1 := inc64 i (by omega)
  have e2 : wrap64 (x.getD i 0 - c) = x.getD i 0 - c := w64 (by omega) (by omega)
  have e3 : wrap64 (x.getD i 0 - c - y.getD i 0) = x.getD i 0 - c - y.getD i 0 := w64 (by omega) (by omega)
  have e4 : wrap64 (x.getD i 0 - c - y.getD i 0 + 65536) = x.getD i 0 - c - y.getD i 0 + 65536 := w64 (by omega) (by omega)
  have e5 : wrap64 (x.getD i 0 - c + 65536) = x.getD i 0 - c + 65536 := w64 (by omega) (by omega)
  simp only [spec_Sub.l0]
  rw [if_pos (by omega), if_pos (by omega), if_pos (by omega), rd_nat, rd_nat, e2]
  by_cases hy' : i < y.length
  · rw [if_pos (by omega), e3]
    by_cases hn : x.getD i 0 - c - y.getD i 0 < 0
    · rw [if_pos hn, if_pos (by omega), e4, e1, if_pos hn, show (x.getD i 0 - c - y.getD i 0) % 65536 = x.getD i 0 - c - y.getD i 0 + 65536 by omega]
    · rw [if_neg hn, if_pos (by omega), e1, if_neg hn, show (x.getD i 0 - c - y.getD i 0) % 65536 = x.getD i 0 - c - y.getD i 0 by omega]
  · have hz := getD_out y i hy'
    rw [hz] at *
    rw [if_neg (by omega), Int.sub_zero]
    by_cases hn : x.getD i 0 - c < 0
    · rw [if_pos hn, if_pos (by omega), e5, e1, if_pos hn, show (x.getD i 0 - c) % 65536 = x.getD i 0 - c + 65536 by omega]
    · rw [if_neg hn, if_pos (by omega), e1, if_neg hn, show (x.getD i 0 - c) % 65536 = x.getD i 0 - c by omega]
theorem sub_l (x y : List Int) (hx : okd BH x) (hy : okd BH y) (hlx : x.length < 1099511627776) (hly : y.length ≤ x.length) (hle : ev BH y ≤ ev BH x) (d : Nat) : ∀ (i : Nat) (out : List Int) (c : Int), i + d = x.length → out.length = i → okd BH out → 0 ≤ c → c ≤ 1 →
    ev BH out - BH ^ i * c = ev BH (x.take i) - ev BH (y.take i) → ∀ k, d + x.length + 2 < k → ∃ r, spec_Sub.l0 k y out c x x.length i = some r ∧ Cn BH r ∧ ev BH r = ev BH x - ev BH y := by
  induction d with
  | zero =>
    intro i out c hi ho hok hc0 hc1 he k hk
    obtain ⟨k, rfl⟩ : ∃ m, k = m + 1 := ⟨k - 1, by omega⟩
    obtain ⟨s1, s2, _⟩ := strip_cn out hok
    have hlt := ev_lt hok BH_pos
    rw [List.take_of_length_le (by omega), List.take_of_length_le (by omega)] at he
    have hc : c = 0 := by
      rcases (show c = 0 ∨ c = 1 by omega) with h | h
      · exact h
      · exfalso
        rw [h, Int.mul_one] at he
        rw [ho] at hlt
        omega
    refine ⟨strip out, ?_, s1, by rw [s2]; rw [hc] at he; simp at he; exact he⟩
    simp only [spec_Sub.l0]
    rw [if_neg (by omega)]
    show (spec_trim.l0 k out).bind _ = _
    rw [trim_l _ (by omega) k (by omega)]
    rfl
  | succ d ih =>
    intro i out c hi ho hok hc0 hc1 he k hk
    obtain ⟨k, rfl⟩ : ∃ m, k = m + 1 := ⟨k - 1, by omega⟩
    have h1 := okd_get hx BH_pos i
    have h2 := okd_get hy BH_pos i
    have hB := BH_def
    rw [BH_def] at h1 h2
    rw [sub_step x y out hx hy hlx c hc0 hc1 i ho (by omega) k]
    refine ih (i + 1) _ _ (by omega) (by simp; omega) (okd_append.2 ⟨hok, fun z hz => by simp at hz; rw [BH_def]; omega⟩) (by split <;> omega) (by split <;> omega) ?_ k (by omega)
    rw [ev_snoc, ev_take_succ', ev_take_succ', ho]
    have hq : (x.getD i 0 - c - y.getD i 0) % 65536 = x.getD i 0 - c - y.getD i 0 + BH * (if x.getD i 0 - c - y.getD i 0 < 0 then 1 else 0) := by
      rw [hB]
      split <;> omega
    rw [hq]
    generalize (if x.getD i 0 - c - y.getD i 0 < 0 then (1 : Int) else 0) = q
    generalize ev BH out = o at *
    generalize ev BH (x.take i) = X at *
    generalize ev BH (y.take i) = Y at *
    clear ih h1 h2 hB hi hk hq hle
    grind
theorem sub_ev (x y : List Int) (hx : Cn BH x) (hy : Cn BH y) (hlx : x.length < 1099511627776) (hle : ev BH y ≤ ev BH x) : ∃ r, Ev (fun k => spec_Sub.f k x y) r ∧ Cn BH r ∧ ev BH r = ev BH x - ev BH y := by
  have hly : y.length ≤ x.length := Cn_len_le hy BH_gt _ (by have := ev_lt hx.ok BH_pos; omega)
  obtain ⟨r, h, h2⟩ := sub_l x y hx.ok hy.ok hlx hly hle x.length 0 [] 0 (by omega) rfl (okd_nil _) (by omega) (by omega) (by simp [ev_nil]) (2 * x.length + 3) (by omega)
  exact ⟨r, Ev.of (spec_Sub.mono x y) (k := 2 * x.length + 3) h, h2⟩
end Go.Proofs.Ytapofoipfdjfhaa.Sp
