/-
  PLAIN LAWS of the reference's functions on natural numbers, as printed: trim, Of, Small.
-/
import Derived.Test.YtapofoipfdjfhaaBase
import Derived.Test.YtapofoipfdjfhaaSpSOf
import Derived.Test.YtapofoipfdjfhaaSpSSmall
namespace Go.Proofs.Ytapofoipfdjfhaa.Sp
open Go.RowKit Go.Proofs.YtapofoipfdjfhaaW.PrintWords Go.Proofs.YtapofoipfdjfhaaW.PrintLast Go.Proofs.YtapofoipfdjfhaaW.PrintMore Go.Proofs.Ytapofoipfdjfhaa.Dig
set_option linter.unusedVariables false
set_option linter.unusedSimpArgs false

theorem w64 {i : Int} (h0 : -9223372036854775808 ≤ i) (h1 : i ≤ 9223372036854775807) : wrap64 i = i := by
  unfold wrap64
  omega
theorem rd_snoc (l : List Int) (d : Int) : rd (l ++ [d]) (l.length : Int) = d := by
  simp [rd, List.getD]
theorem rd_nat (l : List Int) (i : Nat) : rd l (i : Int) = l.getD i 0 := by simp [rd]

theorem trim_l (l : List Int) (hl : l.length < 4611686018427387904) : ∀ k, l.length < k → spec_trim.l0 k l = some (strip l) := by
  obtain ⟨n, hn⟩ : ∃ n, l.length = n := ⟨_, rfl⟩
  induction n generalizing l with
  | zero =>
    have : l = [] := List.eq_nil_of_length_eq_zero hn
    subst this
    intro k hk
    obtain ⟨k, rfl⟩ : ∃ m, k = m + 1 := ⟨k - 1, by omega⟩
    simp only [spec_trim.l0]
    rw [if_neg (by simp)]
    rfl
  | succ n ih =>
    intro k hk
    obtain ⟨k, rfl⟩ : ∃ m, k = m + 1 := ⟨k - 1, by omega⟩
    have h0 : l ≠ [] := by intro e; subst e; simp at hn
    obtain ⟨m, d, rfl⟩ : ∃ m d, l = m ++ [d] := ⟨l.dropLast, l.getLast h0, (List.dropLast_concat_getLast h0).symm⟩
    have hm : m.length = n := by simpa using hn
    have hw : wrap64 (((m ++ [d]).length : Int) - 1) = (m.length : Int) := by rw [w64 (by simp <;> omega) (by simp <;> omega)]; simp
    simp only [spec_trim.l0]
    rw [hw, if_pos (by simp <;> omega), if_pos (by omega), if_pos (by simp <;> omega), rd_snoc, strip_snoc]
    by_cases hd : d = 0
    · rw [if_pos hd, if_pos (by simp <;> omega), if_pos hd]
      simp only [Int.toNat_natCast, List.take_left]
      exact ih m (by omega) hm k (by omega)
    · rw [if_neg hd, if_neg hd]
theorem trim_ev (l : List Int) (hl : l.length < 4611686018427387904) : Ev (fun k => spec_trim.f k l) (strip l) :=
  ⟨l.length + 1, fun k hk => by show spec_trim.l0 k l = _; exact trim_l l hl k (by omega)⟩

/-- The four digits to the base 65536 of a word. -/
def four (x : Int) : List Int := [x % 65536, x / 65536 % 65536, x / 4294967296 % 65536, x / 281474976710656 % 65536]
def fours (l : List Int) : List Int := l.flatMap four
theorem four_ev (x : Int) (h0 : 0 ≤ x) (h1 : x < 18446744073709551616) : ev BH (four x) = x := by
  simp only [four, ev, BH_def]
  omega
theorem four_ok (x : Int) : okd BH (four x) := by
  intro d hd
  rw [BH_def]
  simp only [four, List.mem_cons, List.not_mem_nil, or_false] at hd
  rcases hd with h | h | h | h <;> subst h <;> omega
theorem fours_ok (l : List Int) : okd BH (fours l) := by
  intro d hd
  obtain ⟨x, _, h⟩ := List.mem_flatMap.1 hd
  exact four_ok x d h
theorem fours_ev (l : List Int) (h : okd BW l) : ev BH (fours l) = ev BW l := by
  induction l with
  | nil => simp [fours, ev_nil]
  | cons x l ih =>
    obtain ⟨hx, hl⟩ := okd_cons.1 h
    show ev BH (four x ++ fours l) = _
    rw [ev_append, four_ev x hx.1 (by rw [← BW_def]; exact hx.2), ih hl, ev_cons, BW_BH]
    rfl
theorem fours_len (l : List Int) : (fours l).length = 4 * l.length := by
  induction l with
  | nil => rfl
  | cons x l ih =>
    show (four x ++ fours l).length = _
    rw [List.length_append, ih]
    simp [four]
    omega
/-- The digits of a number that is told in words. -/
def of16 (l : List Int) : List Int := strip (fours l)
theorem of16_cn (l : List Int) : Cn BH (of16 l) := (strip_cn _ (fours_ok l)).1
theorem of16_ev (l : List Int) (h : okd BW l) : ev BH (of16 l) = ev BW l := by
  rw [of16, (strip_cn _ (fours_ok l)).2.1, fours_ev l h]
theorem of16_len (l : List Int) : (of16 l).length ≤ 4 * l.length := by
  have := Cn_take_strip (fours_ok l)
  rw [fours_len] at this
  exact this
theorem and16 (x : Int) (h0 : 0 ≤ x) (h1 : x < 18446744073709551616) : wrap64 (Go.bits .and .u64 x 65535) = x % 65536 := by
  have h := bits_mask .u64 64 (by decide) (fun n h0 h1 => by rw [IntKind.wrap_u64]; exact Int.emod_eq_of_lt h0 (by simpa using h1)) 16 (by decide) x h0 (by simpa using h1)
  have h2 : Go.bits .and .u64 x 65535 = x % 65536 := by simpa using h
  rw [h2, w64 (by omega) (by omega)]
theorem shr_u64 (x : Int) (i : Nat) (hi : i ≤ 64) : shr .u64 x (i : Int) = x / 2 ^ i := by
  unfold shr
  simp only [IntKind.bits, Int.toNat_natCast]
  rw [Nat.min_eq_left hi]
theorem of_l1_step (x : Int) (ws : List Int) (n i : Int) (k : Nat) (acc : List Int) (j d : Int) (hj0 : 0 ≤ j) (hj1 : j < 4) (hacc : acc.length < 17592186044416) (hd : wrap64 (Go.bits .and .u64 (shr .u64 x (16 * j)) 65535) = d) :
    spec_Of.l1 (k + 1) acc x j ws n i = spec_Of.l1 k (acc ++ [d]) x (j + 1) ws n i := by
  have u1 : wrap64 (16 * j) = 16 * j := w64 (by omega) (by omega)
  have u2 : wrap64 (j + 1) = j + 1 := w64 (by omega) (by omega)
  simp only [spec_Of.l1]
  rw [u1, u2, if_pos hj1, if_pos (by omega), if_pos hacc, hd]
theorem of_l1_end (x : Int) (ws : List Int) (n i : Int) (k : Nat) (acc : List Int) : spec_Of.l1 (k + 1) acc x 4 ws n i = spec_Of.l0 k acc ws n (wrap64 (i + 1)) := by
  simp only [spec_Of.l1]
  rw [if_neg (by omega)]
theorem of_e (x : Int) (h0 : 0 ≤ x) (h1 : x < 18446744073709551616) (j : Nat) (hj : j ≤ 64) : wrap64 (Go.bits .and .u64 (shr .u64 x (j : Int)) 65535) = x / 2 ^ j % 65536 := by
  have hp : (0 : Int) < 2 ^ j := Int.pow_pos (by omega)
  have h2 : x / 2 ^ j ≤ x := Int.ediv_le_self _ h0
  have h3 : 0 ≤ x / 2 ^ j := Int.ediv_nonneg h0 (Int.le_of_lt hp)
  rw [shr_u64 x j hj, and16 _ h3 (by omega)]
theorem of_l1 (x : Int) (h0 : 0 ≤ x) (h1 : x < 18446744073709551616) (ws acc : List Int) (n i : Int) (ha : acc.length + 4 < 17592186044416) (k : Nat) :
    spec_Of.l1 (k + 1 + 1 + 1 + 1 + 1) acc x 0 ws n i = spec_Of.l0 k (acc ++ four x) ws n (wrap64 (i + 1)) := by
  have e0 := of_e x h0 h1 0 (by omega)
  have e1 := of_e x h0 h1 16 (by omega)
  have e2 := of_e x h0 h1 32 (by omega)
  have e3 := of_e x h0 h1 48 (by omega)
  have f : acc ++ four x = acc ++ [x / 2 ^ 0 % 65536] ++ [x / 2 ^ 16 % 65536] ++ [x / 2 ^ 32 % 65536] ++ [x / 2 ^ 48 % 65536] := by simp [four]
  rw [f, ← of_l1_end]
  exact (of_l1_step x ws n i _ acc 0 _ (by omega) (by omega) (by omega) e0).trans ((of_l1_step x ws n i _ _ 1 _ (by omega) (by omega) (by simp; omega) e1).trans
    ((of_l1_step x ws n i _ _ 2 _ (by omega) (by omega) (by simp; omega) e2).trans (of_l1_step x ws n i _ _ 3 _ (by omega) (by omega) (by simp; omega) e3)))
theorem of_l0 (ws : List Int) (hw : okd BW ws) (hl : ws.length < 1099511627776) (d : Nat) : ∀ (i : Nat) (acc : List Int), i + d = ws.length → acc = fours (ws.take i) →
    ∀ k, 6 * d + (4 * ws.length + 2) ≤ k → spec_Of.l0 k acc ws ws.length i = some (of16 ws) := by
  induction d with
  | zero =>
    intro i acc hi ha k hk
    obtain ⟨k, rfl⟩ : ∃ m, k = m + 1 := ⟨k - 1, by omega⟩
    simp only [spec_Of.l0]
    have hi' : i = ws.length := by omega
    subst hi'
    rw [if_neg (by omega), ha, List.take_length]
    show (spec_trim.l0 k (fours ws)).bind _ = _
    rw [trim_l _ (by rw [fours_len]; omega) k (by rw [fours_len]; omega)]
    rfl
  | succ d ih =>
    intro i acc hi ha k hk
    obtain ⟨k, rfl⟩ : ∃ m, k = m + 1 + 1 + 1 + 1 + 1 + 1 := ⟨k - 6, by omega⟩
    simp only [spec_Of.l0]
    rw [if_pos (by omega), if_pos (by omega), if_pos (by omega), rd_nat]
    have hx := okd_get hw BW_pos i
    rw [BW_def] at hx
    rw [of_l1 _ hx.1 hx.2 _ _ _ _ (by rw [ha, fours_len, List.length_take]; omega), w64 (by omega) (by omega), show ((i : Int) + 1) = ((i + 1 : Nat) : Int) by omega]
    refine ih (i + 1) _ (by omega) ?_ k (by omega)
    have : ws.take (i + 1) = ws.take i ++ [ws.getD i 0] := by
      rw [List.take_succ_eq_append_getElem (by omega)]
      simp [List.getD, List.getElem?_eq_getElem (show i < ws.length by omega)]
    rw [this, ha]
    simp [fours]
theorem of_ev (ws : List Int) (hw : okd BW ws) (hl : ws.length < 1099511627776) : Ev (fun k => spec_Of.f k ws) (of16 ws) :=
  ⟨6 * ws.length + (4 * ws.length + 2), fun k hk => of_l0 ws hw hl ws.length 0 [] (by omega) rfl k hk⟩

theorem small_l (d : Nat) : ∀ (n : Int) (acc : List Int), 0 ≤ n → n ≤ 9223372036854775807 → n.toNat ≤ d → acc.length + d < 17592186044416 → d ≤ 1099511627776 → ∀ k, d < k → ∃ r, spec_Small.l0 k n acc = some (acc ++ r) ∧ Cn BH r ∧ ev BH r = n := by
  induction d with
  | zero =>
    intro n acc h0 h1 hd ha _ k hk
    obtain ⟨k, rfl⟩ : ∃ m, k = m + 1 := ⟨k - 1, by omega⟩
    simp only [spec_Small.l0]
    rw [if_neg (by omega)]
    exact ⟨[], by simp, Cn_nil _, by simp [ev]; omega⟩
  | succ d ih =>
    intro n acc h0 h1 hd ha hq k hk
    obtain ⟨k, rfl⟩ : ∃ m, k = m + 1 := ⟨k - 1, by omega⟩
    simp only [spec_Small.l0]
    by_cases hn : n > 0
    · have e1 : Int.tdiv n 65536 = n / 65536 := Int.tdiv_eq_ediv_of_nonneg h0
      have e2 : Int.tmod n 65536 = n % 65536 := Int.tmod_eq_emod_of_nonneg h0
      rw [if_pos hn, if_pos (by omega), e1, e2, w64 (by omega) (by omega)]
      obtain ⟨r, hr, hc, he⟩ := ih (n / 65536) (acc ++ [n % 65536]) (by omega) (by omega) (by omega) (by simp; omega) (by omega) k (by omega)
      refine ⟨n % 65536 :: r, by rw [hr]; simp, ⟨okd_cons.2 ⟨by rw [BH_def]; omega, hc.ok⟩, fun x hx => ?_⟩, by rw [ev_cons, he, BH_def]; omega⟩
      cases r with
      | nil => simp [ev] at he hx; omega
      | cons y r => exact hc.top x (by simpa [List.getLast?_cons_cons] using hx)
    · rw [if_neg hn]
      exact ⟨[], by simp, Cn_nil _, by simp [ev]; omega⟩
theorem small_ev (n : Int) (h0 : 0 ≤ n) (h1 : n ≤ 1099511627775) : ∃ r, Ev (fun k => spec_Small.f k n) r ∧ Cn BH r ∧ ev BH r = n := by
  obtain ⟨r, hr, hc, he⟩ := small_l (n.toNat) n [] h0 (by omega) (Nat.le_refl _) (by simp; omega) (by omega) (n.toNat + 1) (by omega)
  exact ⟨r, Ev.of (spec_Small.mono n) (k := n.toNat + 1) (by rw [List.nil_append] at hr; exact hr), hc, he⟩
end Go.Proofs.Ytapofoipfdjfhaa.Sp
