/-
  Several texts in one (merged by program).
-/
import Derived.Test.YtgpgacnnkjiadaaGreatDoorBase
import Derived.Test.YtgpgacnnkjiadaaGreatDoorMSp
/-! ## SpecA -/
section
namespace Go.Proofs.YtgpgacnnkjiadaaGreatDoor.Sp
open Go.RowKit Go.Proofs.YtgpgacnnkjiadaaGreatDoorW.PrintWords Go.Proofs.YtgpgacnnkjiadaaGreatDoorW.PrintLast Go.Proofs.YtgpgacnnkjiadaaGreatDoorW.PrintMore Go.Proofs.YtgpgacnnkjiadaaGreatDoor.Dig
set_option linter.unusedVariables false
set_option linter.unusedSimpArgs false

theorem w64 {i : Int} (h0 : -9223372036854775808 ≤ i) (h1 : i ≤ 9223372036854775807) : wrap64 i = i := by
  unfold wrap64
  omega
theorem rd_snoc (l : List Int) (d : Int) : rd (l ++ [d]) (l.length : Int) = d := by
  simp [rd, List.getD]
theorem rd_nat (l : List Int) (i : Nat) : rd l (i : Int) = l.getD i 0 := by simp [rd]

theorem trim_l (l : List Int) (hl : l.length < 4611686018427387904) : ∀ k, l.length < k → spec_trim.l0 k l = some (strip l) := by
  obtain ⟨n, hn⟩ : ∃ n, l.length = n := ⟨_, rfl⟩
  induction n generalizing l with
  | zero =>
    have : l = [] := List.eq_nil_of_length_eq_zero hn
    subst this
    intro k hk
    obtain ⟨k, rfl⟩ : ∃ m, k = m + 1 := ⟨k - 1, by omega⟩
    simp only [spec_trim.l0]
    rw [if_neg (by simp)]
    rfl
  | succ n ih =>
    intro k hk
    obtain ⟨k, rfl⟩ : ∃ m, k = m + 1 := ⟨k - 1, by omega⟩
    have h0 : l ≠ [] := by intro e; subst e; simp at hn
    obtain ⟨m, d, rfl⟩ : ∃ m d, l = m ++ [d] := ⟨l.dropLast, l.getLast h0, (List.dropLast_concat_getLast h0).symm⟩
    have hm : m.length = n := by simpa using hn
    have hw : wrap64 (((m ++ [d]).length : Int) - 1) = (m.length : Int) := by rw [w64 (by simp <;> omega) (by simp <;> omega)]; simp
    simp only [spec_trim.l0]
    rw [hw, if_pos (by simp <;> omega), if_pos (by omega), if_pos (by simp <;> omega), rd_snoc, strip_snoc]
    by_cases hd : d = 0
    · rw [if_pos hd, if_pos (by simp <;> omega), if_pos hd]
      simp only [Int.toNat_natCast, List.take_left]
      exact ih m (by omega) hm k (by omega)
    · rw [if_neg hd, if_neg hd]
theorem trim_ev (l : List Int) (hl : l.length < 4611686018427387904) : Ev (fun k => spec_trim.f k l) (strip l) :=
  ⟨l.length + 1, fun k hk => by show spec_trim.l0 k l = _; exact trim_l l hl k (by omega)⟩

/-- The four digits to the base 65536 of a word. -/
def four (x : Int) : List Int := [x % 65536, x / 65536 % 65536, x / 4294967296 % 65536, x / 281474976710656 % 65536]
def fours (l : List Int) : List Int := l.flatMap four
theorem four_ev (x : Int) (h0 : 0 ≤ x) (h1 : x < 18446744073709551616) : ev BH (four x) = x := by
  simp only [four, ev, BH_def]
  omega
theorem four_ok (x : Int) : okd BH (four x) := by
  intro d hd
  rw [BH_def]
  simp only [four, List.mem_cons, List.not_mem_nil, or_false] at hd
  rcases hd with h | h | h | h <;> subst h <;> omega
theorem fours_ok (l : List Int) : okd BH (fours l) := by
  intro d hd
  obtain ⟨x, _, h⟩ := List.mem_flatMap.1 hd
  exact four_ok x d h
theorem fours_ev (l : List Int) (h : okd BW l) : ev BH (fours l) = ev BW l := by
  induction l with
  | nil => simp [fours, ev_nil]
  | cons x l ih =>
    obtain ⟨hx, hl⟩ := okd_cons.1 h
    show ev BH (four x ++ fours l) = _
    rw [ev_append, four_ev x hx.1 (by rw [← BW_def]; exact hx.2), ih hl, ev_cons, BW_BH]
    rfl
theorem fours_len (l : List Int) : (fours l).length = 4 * l.length := by
  induction l with
  | nil => rfl
  | cons x l ih =>
    show (four x ++ fours l).length = _
    rw [List.length_append, ih]
    simp [four]
    omega
/-- The digits of a number that is told in words. -/
def of16 (l : List Int) : List Int := strip (fours l)
theorem of16_cn (l : List Int) : Cn BH (of16 l) := (strip_cn _ (fours_ok l)).1
theorem of16_ev (l : List Int) (h : okd BW l) : ev BH (of16 l) = ev BW l := by
  rw [of16, (strip_cn _ (fours_ok l)).2.1, fours_ev l h]
theorem of16_len (l : List Int) : (of16 l).length ≤ 4 * l.length := by
  have := Cn_take_strip (fours_ok l)
  rw [fours_len] at this
  exact this
theorem and16 (x : Int) (h0 : 0 ≤ x) (h1 : x < 18446744073709551616) : wrap64 (Go.bits .and .u64 x 65535) = x % 65536 := by
  have h := bits_mask .u64 64 (by decide) (fun n h0 h1 => by rw [IntKind.wrap_u64]; exact Int.emod_eq_of_lt h0 (by simpa using h1)) 16 (by decide) x h0 (by simpa using h1)
  have h2 : Go.bits .and .u64 x 65535 = x % 65536 := by simpa using h
  rw [h2, w64 (by omega) (by omega)]
theorem shr_u64 (x : Int) (i : Nat) (hi : i ≤ 64) : shr .u64 x (i : Int) = x / 2 ^ i := by
  unfold shr
  simp only [IntKind.bits, Int.toNat_natCast]
  rw [Nat.min_eq_left hi]
theorem of_l1_step (x : Int) (ws : List Int) (n i : Int) (k : Nat) (acc : List Int) (j d : Int) (hj0 : 0 ≤ j) (hj1 : j < 4) (hacc : acc.length < 17592186044416) (hd : wrap64 (Go.bits .and .u64 (shr .u64 x (16 * j)) 65535) = d) :
    spec_Of.l1 (k + 1) acc x j ws n i = spec_Of.l1 k (acc ++ [d]) x (j + 1) ws n i := by
  have u1 : wrap64 (16 * j) = 16 * j := w64 (by omega) (by omega)
  have u2 : wrap64 (j + 1) = j + 1 := w64 (by omega) (by omega)
  simp only [spec_Of.l1]
  rw [u1, u2, if_pos hj1, if_pos (by omega), if_pos hacc, hd]
theorem of_l1_end (x : Int) (ws : List Int) (n i : Int) (k : Nat) (acc : List Int) : spec_Of.l1 (k + 1) acc x 4 ws n i = spec_Of.l0 k acc ws n (wrap64 (i + 1)) := by
  simp only [spec_Of.l1]
  rw [if_neg (by omega)]
theorem of_e (x : Int) (h0 : 0 ≤ x) (h1 : x < 18446744073709551616) (j : Nat) (hj : j ≤ 64) : wrap64 (Go.bits .and .u64 (shr .u64 x (j : Int)) 65535) = x / 2 ^ j % 65536 := by
  have hp : (0 : Int) < 2 ^ j := Int.pow_pos (by omega)
  have h2 : x / 2 ^ j ≤ x := Int.ediv_le_self _ h0
  have h3 : 0 ≤ x / 2 ^ j := Int.ediv_nonneg h0 (Int.le_of_lt hp)
  rw [shr_u64 x j hj, and16 _ h3 (by omega)]
theorem of_l1 (x : Int) (h0 : 0 ≤ x) (h1 : x < 18446744073709551616) (ws acc : List Int) (n i : Int) (ha : acc.length + 4 < 17592186044416) (k : Nat) :
    spec_Of.l1 (k + 1 + 1 + 1 + 1 + 1) acc x 0 ws n i = spec_Of.l0 k (acc ++ four x) ws n (wrap64 (i + 1)) := by
  have e0 := of_e x h0 h1 0 (by omega)
  have e1 := of_e x h0 h1 16 (by omega)
  have e2 := of_e x h0 h1 32 (by omega)
  have e3 := of_e x h0 h1 48 (by omega)
  have f : acc ++ four x = acc ++ [x / 2 ^ 0 % 65536] ++ [x / 2 ^ 16 % 65536] ++ [x / 2 ^ 32 % 65536] ++ [x / 2 ^ 48 % 65536] := by simp [four]
  rw [f, ← of_l1_end]
  exact (of_l1_step x ws n i _ acc 0 _ (by omega) (by omega) (by omega) e0).trans ((of_l1_step x ws n i _ _ 1 _ (by omega) (by omega) (by simp; omega) e1).trans
    ((of_l1_step x ws n i _ _ 2 _ (by omega) (by omega) (by simp; omega) e2).trans (of_l1_step x ws n i _ _ 3 _ (by omega) (by omega) (by simp; omega) e3)))
theorem of_l0 (ws : List Int) (hw : okd BW ws) (hl : ws.length < 1099511627776) (d : Nat) : ∀ (i : Nat) (acc : List Int), i + d = ws.length → acc = fours (ws.take i) →
    ∀ k, 6 * d + (4 * ws.length + 2) ≤ k → spec_Of.l0 k acc ws ws.length i = some (of16 ws) := by
  induction d with
  | zero =>
    intro i acc hi ha k hk
    obtain ⟨k, rfl⟩ : ∃ m, k = m + 1 := ⟨k - 1, by omega⟩
    simp only [spec_Of.l0]
    have hi' : i = ws.length := by omega
    subst hi'
    rw [if_neg (by omega), ha, List.take_length]
    show (spec_trim.l0 k (fours ws)).bind _ = _
    rw [trim_l _ (by rw [fours_len]; omega) k (by rw [fours_len]; omega)]
    rfl
  | succ d ih =>
    intro i acc hi ha k hk
    obtain ⟨k, rfl⟩ : ∃ m, k = m + 1 + 1 + 1 + 1 + 1 + 1 := ⟨k - 6, by omega⟩
    simp only [spec_Of.l0]
    rw [if_pos (by omega), if_pos (by omega), if_pos (by omega), rd_nat]
    have hx := okd_get hw BW_pos i
    rw [BW_def] at hx
    rw [of_l1 _ hx.1 hx.2 _ _ _ _ (by rw [ha, fours_len, List.length_take]; omega), w64 (by omega) (by omega), show ((i : Int) + 1) = ((i + 1 : Nat) : Int) by omega]
    refine ih (i + 1) _ (by omega) ?_ k (by omega)
    have : ws.take (i + 1) = ws.take i ++ [ws.getD i 0] := by
      rw [List.take_succ_eq_append_getElem (by omega)]
      simp [List.getD, List.getElem?_eq_getElem (show i < ws.length by omega)]
    rw [this, ha]
    simp [fours]
theorem of_ev (ws : List Int) (hw : okd BW ws) (hl : ws.length < 1099511627776) : Ev (fun k => spec_Of.f k ws) (of16 ws) :=
  ⟨6 * ws.length + (4 * ws.length + 2), fun k hk => of_l0 ws hw hl ws.length 0 [] (by omega) rfl k hk⟩

theorem small_l (d : Nat) : ∀ (n : Int) (acc : List Int), 0 ≤ n → n ≤ 9223372036854775807 → n.toNat ≤ d → acc.length + d < 17592186044416 → d ≤ 1099511627776 → ∀ k, d < k → ∃ r, spec_Small.l0 k n acc = some (acc ++ r) ∧ Cn BH r ∧ ev BH r = n := by
  induction d with
  | zero =>
    intro n acc h0 h1 hd ha _ k hk
    obtain ⟨k, rfl⟩ : ∃ m, k = m + 1 := ⟨k - 1, by omega⟩
    simp only [spec_Small.l0]
    rw [if_neg (by omega)]
    exact ⟨[], by simp, Cn_nil _, by simp [ev]; omega⟩
  | succ d ih =>
    intro n acc h0 h1 hd ha hq k hk
    obtain ⟨k, rfl⟩ : ∃ m, k = m + 1 := ⟨k - 1, by omega⟩
    simp only [spec_Small.l0]
    by_cases hn : n > 0
    · have e1 : Int.tdiv n 65536 = n / 65536 := Int.tdiv_eq_ediv_of_nonneg h0
      have e2 : Int.tmod n 65536 = n % 65536 := Int.tmod_eq_emod_of_nonneg h0
      rw [if_pos hn, if_pos (by omega), e1, e2, w64 (by omega) (by omega)]
      obtain ⟨r, hr, hc, he⟩ := ih (n / 65536) (acc ++ [n % 65536]) (by omega) (by omega) (by omega) (by simp; omega) (by omega) k (by omega)
      refine ⟨n % 65536 :: r, by rw [hr]; simp, ⟨okd_cons.2 ⟨by rw [BH_def]; omega, hc.ok⟩, fun x hx => ?_⟩, by rw [ev_cons, he, BH_def]; omega⟩
      cases r with
      | nil => simp [ev] at he hx; omega
      | cons y r => exact hc.top x (by simpa [List.getLast?_cons_cons] using hx)
    · rw [if_neg hn]
      exact ⟨[], by simp, Cn_nil _, by simp [ev]; omega⟩
theorem small_ev (n : Int) (h0 : 0 ≤ n) (h1 : n ≤ 1099511627775) : ∃ r, Ev (fun k => spec_Small.f k n) r ∧ Cn BH r ∧ ev BH r = n := by
  obtain ⟨r, hr, hc, he⟩ := small_l (n.toNat) n [] h0 (by omega) (Nat.le_refl _) (by simp; omega) (by omega) (n.toNat + 1) (by omega)
  exact ⟨r, Ev.of (spec_Small.mono n) (k := n.toNat + 1) (by rw [List.nil_append] at hr; exact hr), hc, he⟩
end Go.Proofs.YtgpgacnnkjiadaaGreatDoor.Sp
end

/-! ## SpecB -/
section
namespace Go.Proofs.YtgpgacnnkjiadaaGreatDoor.Sp
open Go.RowKit Go.Proofs.YtgpgacnnkjiadaaGreatDoorW.PrintWords Go.Proofs.YtgpgacnnkjiadaaGreatDoorW.PrintLast Go.Proofs.YtgpgacnnkjiadaaGreatDoorW.PrintMore Go.Proofs.YtgpgacnnkjiadaaGreatDoor.Dig
set_option linter.unusedVariables false
set_option linter.unusedSimpArgs false

theorem pow16 (q : Nat) : BH ^ (4 * q) = BW ^ q := by rw [Int.pow_mul, BW_BH]
theorem wrap_u64 {n : Int} (h0 : 0 ≤ n) (h1 : n < 18446744073709551616) : IntKind.u64.wrap n = n := by
  rw [IntKind.wrap_u64]
  omega
theorem or64_comm (x y : Int) (h0 : 0 ≤ x) (h1 : x < 18446744073709551616) (h2 : 0 ≤ y) (h3 : y < 18446744073709551616) : Go.bits .or .u64 x y = Go.bits .or .u64 y x := by
  rw [u64_or x y h0 h1 h2 h3, u64_or y x h2 h3 h0 h1, Nat.or_comm]
/-- A high part is laid over a low one. -/
theorem or64_join (i : Nat) (x y : Int) (hx0 : 0 ≤ x) (hx : x % 2 ^ i = 0) (hx1 : x < 18446744073709551616) (hy0 : 0 ≤ y) (hy : y < 2 ^ i) (hy1 : y < 18446744073709551616) : Go.bits .or .u64 y x = y + x := by
  rw [or64_comm y x hy0 hy1 hx0 hx1, bits_join .u64 64 (by decide) (fun n h0 h1 => wrap_u64 h0 (by simpa using h1)) i x y hx0 hx (by simpa using hx1) hy0 hy (by simpa using hy1)]
  omega
theorem shl_u64 (x : Int) (i : Nat) (hi : i ≤ 64) (h0 : 0 ≤ x) (h1 : x * 2 ^ i < 18446744073709551616) : shl .u64 x (i : Int) = x * 2 ^ i := by
  unfold shl
  simp only [IntKind.bits, Int.toNat_natCast]
  rw [Nat.min_eq_left hi]
  exact wrap_u64 (Int.mul_nonneg h0 (Int.le_of_lt (Int.pow_pos (by omega)))) h1
theorem ev_take_succ (b : Int) (l : List Int) (i : Nat) (hi : i < l.length) : ev b (l.take (i + 1)) = ev b (l.take i) + b ^ i * l.getD i 0 := by
  have : l.take (i + 1) = l.take i ++ [l.getD i 0] := by
    rw [List.take_succ_eq_append_getElem (by omega)]
    simp [List.getD, List.getElem?_eq_getElem (show i < l.length by omega)]
  rw [this, ev_snoc, List.length_take, Nat.min_eq_left (by omega)]
/-- The highest word that has been begun holds what has been put into it. -/
theorem top_lt (out : List Int) (q s : Nat) (hq : q < out.length) (hok : okd BW out) (h : ev BW out < BH ^ (4 * q + s)) : out.getD q 0 < BH ^ s := by
  have h1 := ev_split BW out q (by omega)
  have h2 := ev_nonneg (okd_take hok q) BW_pos
  have h3 : out.drop q = out.getD q 0 :: out.drop (q + 1) := by
    rw [List.drop_eq_getElem_cons hq]
    simp [List.getD, List.getElem?_eq_getElem hq]
  have h4 := ev_nonneg (okd_drop hok (q + 1)) BW_pos
  have hp := pow_pos BW_pos q
  rw [h3] at h1
  simp only [ev_cons] at h1
  rw [Int.pow_add, pow16] at h
  have h5 : BW ^ q * out.getD q 0 ≤ BW ^ q * (out.getD q 0 + BW * ev BW (out.drop (q + 1))) := Int.mul_le_mul_of_nonneg_left (by have := Int.mul_nonneg (Int.le_of_lt BW_pos) h4; omega) (Int.le_of_lt hp)
  exact Int.lt_of_mul_lt_mul_left (show BW ^ q * out.getD q 0 < BW ^ q * BH ^ s by omega) (Int.le_of_lt hp)
theorem put16 (o d : Int) (s : Nat) (hs : s < 4) (h0 : 0 ≤ o) (h1 : o < BH ^ s) (hd0 : 0 ≤ d) (hd1 : d < 65536) :
    Go.bits .or .u64 o (shl .u64 (IntKind.u64.wrap d) (wrap64 (16 * (s : Int)))) = o + BH ^ s * d ∧ o + BH ^ s * d < 18446744073709551616 := by
  rw [wrap_u64 hd0 (by omega), w64 (by omega) (by omega), show (16 * (s : Int)) = ((16 * s : Nat) : Int) by omega]
  have e : BH ^ s = 2 ^ (16 * s) := by rw [Int.pow_mul, BH_two]
  rw [e] at h1 ⊢
  have hb : (2 : Int) ^ (16 * s) ≤ 2 ^ 48 := pow_mono (by omega) (by omega)
  have hp : (0 : Int) < 2 ^ (16 * s) := Int.pow_pos (by omega)
  have hm : d * 2 ^ (16 * s) ≤ 65535 * 2 ^ (16 * s) := Int.mul_le_mul_of_nonneg_right (by omega) (Int.le_of_lt hp)
  have hm0 : 0 ≤ d * 2 ^ (16 * s) := Int.mul_nonneg hd0 (Int.le_of_lt hp)
  have c48 : (2 : Int) ^ 48 = 281474976710656 := rfl
  rw [shl_u64 d (16 * s) (by omega) hd0 (by omega), or64_join (16 * s) _ _ hm0 (Int.mul_emod_left _ _) (by omega) h0 h1 (by omega)]
  rw [Int.mul_comm d]
  rw [Int.mul_comm d] at hm
  exact ⟨rfl, by omega⟩
theorem rd_set_self (l : List Int) (i : Nat) (x : Int) (h : i < l.length) : (l.set i x).getD i 0 = x := by
  simp [List.getD, h]

theorem tm4 (i : Nat) : Int.tmod (i : Int) 4 = ((i % 4 : Nat) : Int) := by rw [Int.tmod_eq_emod_of_nonneg (by omega)]; omega
theorem td4 (i : Nat) (h : i < 1099511627776) : wrap64 (Int.tdiv (i : Int) 4) = ((i / 4 : Nat) : Int) := by rw [Int.tdiv_eq_ediv_of_nonneg (by omega), w64 (by omega) (by omega)]; omega
theorem inc64 (i : Nat) (h : i < 1099511627776) : wrap64 ((i : Int) + 1) = ((i + 1 : Nat) : Int) := by rw [w64 (by omega) (by omega)]; omega
theorem mul16 (s : Nat) (h : s < 4) : 0 ≤ wrap64 (16 * (s : Int)) := by rw [w64 (by omega) (by omega)]; omega
theorem words_l (l : List Int) (hl : okd BH l) (hlen : l.length < 1099511627776) (d : Nat) : ∀ (i : Nat) (out : List Int), i + d = l.length → okd BW out → out.length = (i + 3) / 4 → ev BW out = ev BH (l.take i) →
    ∀ k, d < k → ∃ r, spec_Words.l0 k out l l.length i = some r ∧ okd BW r ∧ r.length = (l.length + 3) / 4 ∧ ev BW r = ev BH l := by
  induction d with
  | zero =>
    intro i out hi hok ho he k hk
    obtain ⟨k, rfl⟩ : ∃ m, k = m + 1 := ⟨k - 1, by omega⟩
    have hi' : i = l.length := by omega
    subst hi'
    simp only [spec_Words.l0]
    rw [if_neg (by omega)]
    rw [List.take_length] at he
    exact ⟨out, rfl, hok, ho, he⟩
  | succ d ih =>
    intro i out hi hok ho he k hk
    obtain ⟨k, rfl⟩ : ∃ m, k = m + 1 := ⟨k - 1, by omega⟩
    have hil : i < l.length := by omega
    have hx := okd_get hl BH_pos i
    have hi40 : i < 1099511627776 := by omega
    have hmod : i = 4 * (i / 4) + i % 4 := by omega
    have hlt := ev_lt (okd_take hl i) BH_pos
    rw [List.length_take, Nat.min_eq_left (by omega), ← he] at hlt
    have step : ∀ (o2 : List Int), okd BW o2 → o2.length = i / 4 + 1 → ev BW o2 = ev BH (l.take i) →
        ∃ r, spec_Words.l0 k (o2.set (i / 4) (Go.bits .or .u64 (rd o2 ((i / 4 : Nat) : Int)) (shl .u64 (IntKind.u64.wrap (rd l (i : Int))) (wrap64 (16 * ((i % 4 : Nat) : Int)))))) l l.length ((i + 1 : Nat) : Int) = some r ∧ okd BW r ∧ r.length = (l.length + 3) / 4 ∧ ev BW r = ev BH l := by
      intro o2 hok2 hl2 he2
      have hb := okd_get hok2 BW_pos (i / 4)
      have hlt2 : ev BW o2 < BH ^ (4 * (i / 4) + i % 4) := by rw [← hmod, he2, ← he]; exact hlt
      have htop := top_lt o2 (i / 4) (i % 4) (by omega) hok2 hlt2
      obtain ⟨p1, p2⟩ := put16 (o2.getD (i / 4) 0) (l.getD i 0) (i % 4) (by omega) hb.1 htop hx.1 (by rw [← BH_def]; exact hx.2)
      rw [rd_nat, rd_nat, p1]
      have hge : 0 ≤ BH ^ (i % 4) * l.getD i 0 := Int.mul_nonneg (Int.le_of_lt (Int.pow_pos BH_pos)) hx.1
      refine ih (i + 1) _ (by omega) (okd_set hok2 _ (by omega) (by rw [BW_def]; exact p2)) (by rw [List.length_set, hl2]; omega) ?_ k (by omega)
      rw [ev_set _ _ _ _ (by omega), ev_take_succ _ _ _ hil, he2, ← pow16]
      conv => rhs; rw [hmod]
      rw [Int.pow_add]
      have : o2.getD (i / 4) 0 + BH ^ (i % 4) * l.getD i 0 - o2.getD (i / 4) 0 = BH ^ (i % 4) * l.getD i 0 := by omega
      rw [this, Int.mul_assoc, ← hmod]
    simp only [spec_Words.l0]
    rw [if_pos (by omega), if_pos (by omega), if_pos (by omega), tm4, td4 i hi40, inc64 i hi40]
    by_cases hs : i % 4 = 0
    · rw [if_pos (by omega), if_pos (by omega)]
      simp only [Option.bind_some]
      rw [if_pos (by omega), if_pos (by simp; omega), if_pos (mul16 _ (by omega)), Int.toNat_natCast]
      exact step (out ++ [0]) (okd_append.2 ⟨hok, fun x hx => by simp at hx; rw [BW_def]; omega⟩) (by simp; omega) (by rw [ev_snoc, he]; simp)
    · rw [if_neg (by omega), if_pos (by omega), if_pos (by omega), if_pos (mul16 _ (by omega)), Int.toNat_natCast]
      exact step out hok (by omega) he
theorem Cn_of_ge {b : Int} {l : List Int} (h : okd b l) (hb : 1 < b) (hg : l ≠ [] → b ^ (l.length - 1) ≤ ev b l) : Cn b l := by
  refine ⟨h, fun d hd e => ?_⟩
  have h0 : l ≠ [] := by intro e; subst e; simp at hd
  obtain ⟨m, x, rfl⟩ : ∃ m d, l = m ++ [d] := ⟨l.dropLast, l.getLast h0, (List.dropLast_concat_getLast h0).symm⟩
  have hx : x = d := by simpa using hd
  subst hx
  have h1 := hg h0
  have h2 := ev_lt (okd_append.1 h).1 (by omega)
  rw [ev_snoc, e] at h1
  simp at h1
  omega
/-- The words of a number that is told in digits to the base 65536. -/
theorem words_ev (l : List Int) (hl : Cn BH l) (hlen : l.length < 1099511627776) : ∃ r, Ev (fun k => spec_Words.f k l) r ∧ Cn BW r ∧ ev BW r = ev BH l ∧ r.length ≤ l.length := by
  obtain ⟨r, hr, hok, hlen2, he⟩ := words_l l hl.ok hlen l.length 0 [] (by omega) (okd_nil _) (by simp) (by simp [ev]) (l.length + 1) (by omega)
  refine ⟨r, Ev.of (spec_Words.mono l) (k := l.length + 1) hr, Cn_of_ge hok BW_gt (fun h0 => ?_), he, by omega⟩
  have h1 : l ≠ [] := by intro e; subst e; simp at hlen2; exact h0 hlen2
  have h2 := Cn_len_ge hl BH_pos h1
  have h3 : BW ^ (r.length - 1) ≤ BH ^ (l.length - 1) := by
    rw [← pow16]
    refine pow_mono BH_pos ?_
    have : l.length ≠ 0 := fun e => h1 (List.eq_nil_of_length_eq_zero e)
    omega
  omega

theorem has_l (x w : List Int) (hlen : x.length < 1099511627776) (hxw : x.length = w.length) (d : Nat) : ∀ (i : Nat), i + d = w.length → x.take i = w.take i → ∀ k, d < k → spec_HasWords.l0 k x w w.length i = some (decide (x = w)) := by
  induction d with
  | zero =>
    intro i hi ht k hk
    obtain ⟨k, rfl⟩ : ∃ m, k = m + 1 := ⟨k - 1, by omega⟩
    simp only [spec_HasWords.l0]
    rw [if_neg (by omega)]
    have : x = w := by
      rw [← List.take_length (l := x), ← List.take_length (l := w), hxw, show w.length = i by omega]
      exact ht
    simp [this]
  | succ d ih =>
    intro i hi ht k hk
    obtain ⟨k, rfl⟩ : ∃ m, k = m + 1 := ⟨k - 1, by omega⟩
    have t3 := inc64 i (by omega)
    simp only [spec_HasWords.l0]
    rw [if_pos (by omega), if_pos (by omega), if_pos (by omega), if_pos (by omega), rd_nat, rd_nat, inc64 i (by omega)]
    by_cases h : x.getD i 0 = w.getD i 0
    · rw [if_pos h]
      refine ih (i + 1) (by omega) ?_ k (by omega)
      rw [List.take_succ_eq_append_getElem (by omega), List.take_succ_eq_append_getElem (by omega), ht]
      simp only [List.getD_eq_getElem?_getD, List.getElem?_eq_getElem (show i < x.length by omega), List.getElem?_eq_getElem (show i < w.length by omega), Option.getD_some] at h
      rw [h]
    · rw [if_neg h]
      have : x ≠ w := fun e => h (by rw [e])
      simp [this]
theorem has_ev (x l : List Int) (hl : Cn BH l) (hlen : l.length < 1099511627776) : ∃ w, Cn BW w ∧ ev BW w = ev BH l ∧ Ev (fun k => spec_HasWords.f k x l) (decide (x = w)) := by
  obtain ⟨w, hw, hc, he, hle⟩ := words_ev l hl hlen
  refine ⟨w, hc, he, Ev.bind (g := fun k => spec_Words.f k l) (f := fun k (t : List Int) => if (x.length : Int) = (t.length : Int) then spec_HasWords.l0 k x t (t.length : Int) 0 else some false) hw ?_⟩
  by_cases h : x.length = w.length
  · refine ⟨w.length + 1, fun k hk => ?_⟩
    show (if (x.length : Int) = (w.length : Int) then spec_HasWords.l0 k x w (w.length : Int) 0 else some false) = _
    rw [if_pos (by omega)]
    exact has_l x w (by omega) h w.length 0 (by omega) (by simp) k (by omega)
  · refine ⟨0, fun k hk => ?_⟩
    show (if (x.length : Int) = (w.length : Int) then spec_HasWords.l0 k x w (w.length : Int) 0 else some false) = _
    rw [if_neg (by omega)]
    have : x ≠ w := fun e => h (by rw [e])
    simp [this]
end Go.Proofs.YtgpgacnnkjiadaaGreatDoor.Sp
end

/-! ## SpecC -/
section
namespace Go.Proofs.YtgpgacnnkjiadaaGreatDoor.Sp
open Go.RowKit Go.Proofs.YtgpgacnnkjiadaaGreatDoorW.PrintWords Go.Proofs.YtgpgacnnkjiadaaGreatDoorW.PrintLast Go.Proofs.YtgpgacnnkjiadaaGreatDoorW.PrintMore Go.Proofs.YtgpgacnnkjiadaaGreatDoor.Dig
set_option linter.unusedVariables false
set_option linter.unusedSimpArgs false

theorem drop_cons (l : List Int) (i : Nat) (h : i < l.length) : l.drop i = l.getD i 0 :: l.drop (i + 1) := by
  rw [List.drop_eq_getElem_cons h]
  simp [List.getD, List.getElem?_eq_getElem h]
theorem ev_mid (b : Int) (l : List Int) (i : Nat) (h : i < l.length) : ev b l = ev b (l.take i) + b ^ i * (l.getD i 0 + b * ev b (l.drop (i + 1))) := by
  rw [ev_split b l i (by omega), drop_cons l i h, ev_cons]
theorem ev_take_lt {b : Int} {l : List Int} (h : okd b l) (hb : 0 < b) (i : Nat) (hi : i ≤ l.length) : 0 ≤ ev b (l.take i) ∧ ev b (l.take i) < b ^ i := by
  have h1 := ev_lt (okd_take h i) hb
  rw [List.length_take, Nat.min_eq_left hi] at h1
  exact ⟨ev_nonneg (okd_take h i) hb, h1⟩

/-! ### Cmp -/
def cmpI (a b : Int) : Int := if a < b then -1 else if a > b then 1 else 0
theorem cmpI_lt {a b : Int} (h : a < b) : cmpI a b = -1 := if_pos h
theorem cmpI_gt {a b : Int} (h : b < a) : cmpI a b = 1 := by rw [cmpI, if_neg (by omega), if_pos h]
theorem cmpI_self (a : Int) : cmpI a a = 0 := by rw [cmpI, if_neg (by omega), if_neg (by omega)]
theorem mid_lt (x y : List Int) (hx : okd BH x) (hy : okd BH y) (i : Nat) (h : i < x.length) (h' : i < y.length) (ht : x.drop (i + 1) = y.drop (i + 1)) (hlt : x.getD i 0 < y.getD i 0) : ev BH x < ev BH y := by
  have h1 := ev_mid BH x i h
  have h2 := ev_mid BH y i h'
  have h3 := ev_take_lt hx BH_pos i (by omega)
  have h4 := ev_take_lt hy BH_pos i (by omega)
  rw [ht] at h1
  have hp := pow_pos BH_pos i
  have h5 : BH ^ i * (x.getD i 0 + BH * ev BH (y.drop (i + 1)) + 1) ≤ BH ^ i * (y.getD i 0 + BH * ev BH (y.drop (i + 1))) := Int.mul_le_mul_of_nonneg_left (by omega) (Int.le_of_lt hp)
  rw [Int.mul_add _ _ 1, Int.mul_one] at h5
  omega
theorem cmp_l (x y : List Int) (hx : okd BH x) (hy : okd BH y) (hlen : x.length < 1099511627776) (hxy : x.length = y.length) (d : Nat) : d ≤ x.length → x.drop d = y.drop d → ∀ k, d < k → spec_Cmp.l0 k x y ((d : Int) - 1) = some (cmpI (ev BH x) (ev BH y)) := by
  induction d with
  | zero =>
    intro _ ht k hk
    obtain ⟨k, rfl⟩ : ∃ m, k = m + 1 := ⟨k - 1, by omega⟩
    simp only [spec_Cmp.l0]
    rw [if_neg (by omega)]
    have : x = y := by simpa using ht
    rw [this, cmpI_self]
  | succ d ih =>
    intro hd ht k hk
    obtain ⟨k, rfl⟩ : ∃ m, k = m + 1 := ⟨k - 1, by omega⟩
    have e : (((d + 1 : Nat) : Int) - 1) = (d : Int) := by omega
    have e2 : wrap64 ((d : Int) - 1) = (d : Int) - 1 := w64 (by omega) (by omega)
    simp only [spec_Cmp.l0]
    rw [e, if_pos (by omega), if_pos (by omega), if_pos (by omega), if_pos (by omega), rd_nat, rd_nat]
    by_cases h1 : x.getD d 0 < y.getD d 0
    · rw [if_pos h1, cmpI_lt (mid_lt x y hx hy d (by omega) (by omega) ht h1)]
    · rw [if_neg h1]
      by_cases h2 : x.getD d 0 > y.getD d 0
      · rw [if_pos h2, cmpI_gt (mid_lt y x hy hx d (by omega) (by omega) ht.symm h2)]
      · rw [if_neg h2, e2]
        refine ih (by omega) ?_ k (by omega)
        rw [drop_cons x d (by omega), drop_cons y d (by omega), ht, show x.getD d 0 = y.getD d 0 by omega]
theorem len_lt_ev {x y : List Int} (hx : Cn BH x) (hy : Cn BH y) (h : x.length < y.length) : ev BH x < ev BH y := by
  have h1 := ev_lt hx.ok BH_pos
  have h2 := Cn_len_ge hy BH_pos (by intro e; subst e; simp at h)
  have h3 : BH ^ x.length ≤ BH ^ (y.length - 1) := pow_mono BH_pos (by omega)
  omega
theorem cmp_ev (x y : List Int) (hx : Cn BH x) (hy : Cn BH y) (hlen : x.length < 1099511627776) : Ev (fun k => spec_Cmp.f k x y) (cmpI (ev BH x) (ev BH y)) := by
  refine ⟨x.length + 1, fun k hk => ?_⟩
  show (if (x.length : Int) < (y.length : Int) then some (-1) else (if (x.length : Int) > (y.length : Int) then some 1 else spec_Cmp.l0 k x y (wrap64 ((x.length : Int) - 1)))) = _
  by_cases h1 : x.length < y.length
  · rw [if_pos (by omega), cmpI_lt (len_lt_ev hx hy h1)]
  · rw [if_neg (by omega)]
    by_cases h2 : y.length < x.length
    · rw [if_pos (by omega), cmpI_gt (len_lt_ev hy hx h2)]
    · have e2 : wrap64 ((x.length : Int) - 1) = (x.length : Int) - 1 := w64 (by omega) (by omega)
      rw [if_neg (by omega), e2]
      exact cmp_l x y hx.ok hy.ok hlen (by omega) x.length (Nat.le_refl _) (by rw [List.drop_length, show x.length = y.length by omega, List.drop_length]) k (by omega)
/-! ### Len -/
/-- v has n bits. -/
def Bits (v : Int) (n : Nat) : Prop := 0 ≤ v ∧ v < 2 ^ n ∧ (n = 0 ∨ 2 ^ (n - 1) ≤ v)
theorem Bits.zero : Bits 0 0 := ⟨by omega, by decide, .inl rfl⟩
theorem Bits.le {v : Int} {n m : Nat} (h : Bits v n) (hm : v < 2 ^ m) : n ≤ m := by
  rcases h.2.2 with h0 | h0
  · omega
  · rcases Nat.lt_or_ge m n with h1 | h1
    · exfalso
      have h2 : (2 : Int) ^ m ≤ 2 ^ (n - 1) := pow_mono (by omega) (by omega)
      omega
    · exact h1
theorem Bits.uniq {v : Int} {n m : Nat} (h : Bits v n) (h' : Bits v m) : n = m := by
  have := h.le h'.2.1
  have := h'.le h.2.1
  omega
theorem Bits.pos {v : Int} {n : Nat} (h : Bits v n) (hv : 0 < v) : 0 < n := by
  rcases Nat.eq_zero_or_pos n with h0 | h0
  · subst h0
    have := h.2.1
    simp at this
    omega
  · exact h0
theorem Bits.exists (v : Int) (h : 0 ≤ v) : ∃ n, Bits v n := by
  obtain ⟨m, rfl⟩ := Int.eq_ofNat_of_zero_le h
  by_cases h0 : m = 0
  · subst h0; exact ⟨0, Bits.zero⟩
  · refine ⟨Nat.log2 m + 1, by omega, ?_, .inr ?_⟩
    · have := (Nat.log2_lt h0).1 (Nat.lt_succ_self (Nat.log2 m))
      exact_mod_cast this
    · have := (Nat.le_log2 h0).1 (Nat.le_refl _)
      simpa using (by exact_mod_cast this : ((2 ^ Nat.log2 m : Nat) : Int) ≤ m)
theorem Bits.half {v : Int} {n : Nat} (h : Bits v n) (hv : 0 < v) : Bits (v / 2) (n - 1) := by
  have hn := h.pos hv
  obtain ⟨n, rfl⟩ : ∃ m, n = m + 1 := ⟨n - 1, by omega⟩
  obtain ⟨h0, h1, h2⟩ := h
  rw [Int.pow_succ] at h1
  refine ⟨by omega, by simp only [Nat.add_sub_cancel]; omega, ?_⟩
  rcases Nat.eq_zero_or_pos n with hz | hz
  · exact .inl (by omega)
  · refine .inr ?_
    obtain ⟨n, rfl⟩ : ∃ m, n = m + 1 := ⟨n - 1, by omega⟩
    rcases h2 with h2 | h2
    · omega
    · simp only [Nat.add_sub_cancel] at h2 ⊢
      rw [Int.pow_succ] at h2
      omega
theorem len_l (n : Nat) : ∀ (v m : Int), Bits v n → 0 ≤ m → m + n ≤ 4611686018427387904 → v < 65536 → ∀ k, n < k → spec_Len.l0 k m v = some (m + n) := by
  induction n with
  | zero =>
    intro v m hv hm0 hm hv2 k hk
    obtain ⟨k, rfl⟩ : ∃ m, k = m + 1 := ⟨k - 1, by omega⟩
    have h1 := hv.2.1
    simp only [spec_Len.l0]
    rw [if_neg (by simp at h1; omega)]
    simp
  | succ n ih =>
    intro v m hv hm0 hm hv2 k hk
    obtain ⟨k, rfl⟩ : ∃ m, k = m + 1 := ⟨k - 1, by omega⟩
    have hp : 0 < v := by
      rcases hv.2.2 with h | h
      · omega
      · have : (0 : Int) < 2 ^ (n + 1 - 1) := Int.pow_pos (by omega)
        omega
    have e1 : wrap64 (m + 1) = m + 1 := w64 (by omega) (by omega)
    have e2 : wrap64 (v / 2) = v / 2 := w64 (by omega) (by omega)
    simp only [spec_Len.l0]
    rw [if_pos hp, Int.tdiv_eq_ediv_of_nonneg (by omega), e1, e2]
    rw [ih (v / 2) (m + 1) (by simpa using hv.half hp) (by omega) (by omega) (by omega) k (by omega)]
    congr 1
    omega
theorem len_top (l : List Int) (hl : Cn BH l) (t : Nat) (h0 : l ≠ []) (ht : Bits (l.getD (l.length - 1) 0) t) : Bits (ev BH l) (16 * (l.length - 1) + t) := by
  have hn : 0 < l.length := List.length_pos_iff.2 h0
  have h1 := ev_mid BH l (l.length - 1) (by omega)
  have h2 := ev_take_lt hl.ok BH_pos (l.length - 1) (by omega)
  rw [show l.length - 1 + 1 = l.length by omega, List.drop_length, ev_nil, Int.mul_zero, Int.add_zero] at h1
  have hg : 0 < l.getD (l.length - 1) 0 := by
    have h3 := okd_get hl.ok BH_pos (l.length - 1)
    have h4 := hl.top (l.getD (l.length - 1) 0) (by rw [List.getLast?_eq_getElem?, List.getD_eq_getElem?_getD, List.getElem?_eq_getElem (by omega)]; rfl)
    omega
  have ht0 := ht.pos hg
  have e : BH ^ (l.length - 1) = 2 ^ (16 * (l.length - 1)) := by rw [Int.pow_mul, BH_two]
  rw [e] at h1 h2
  have hp : (0 : Int) < 2 ^ (16 * (l.length - 1)) := Int.pow_pos (by omega)
  refine ⟨ev_nonneg hl.ok BH_pos, ?_, .inr ?_⟩
  · rw [Int.pow_add]
    have h5 : (2 : Int) ^ (16 * (l.length - 1)) * (l.getD (l.length - 1) 0 + 1) ≤ 2 ^ (16 * (l.length - 1)) * 2 ^ t := Int.mul_le_mul_of_nonneg_left (by have := ht.2.1; omega) (Int.le_of_lt hp)
    rw [Int.mul_add, Int.mul_one] at h5
    omega
  · rw [show 16 * (l.length - 1) + t - 1 = 16 * (l.length - 1) + (t - 1) by omega, Int.pow_add]
    have ht2 : (2 : Int) ^ (t - 1) ≤ l.getD (l.length - 1) 0 := by
      rcases ht.2.2 with h | h
      · omega
      · exact h
    have h5 : (2 : Int) ^ (16 * (l.length - 1)) * 2 ^ (t - 1) ≤ 2 ^ (16 * (l.length - 1)) * l.getD (l.length - 1) 0 := Int.mul_le_mul_of_nonneg_left ht2 (Int.le_of_lt hp)
    omega
theorem len_ev (l : List Int) (hl : Cn BH l) (hlen : l.length < 1099511627776) : ∃ n : Nat, Bits (ev BH l) n ∧ Ev (fun k => spec_Len.f k l) (n : Int) ∧ n ≤ 16 * l.length := by
  by_cases h0 : l = []
  · subst h0
    exact ⟨0, by rw [ev_nil]; exact Bits.zero, ⟨0, fun k _ => rfl⟩, by simp⟩
  · have hn : 0 < l.length := List.length_pos_iff.2 h0
    have hg := okd_get hl.ok BH_pos (l.length - 1)
    rw [BH_def] at hg
    obtain ⟨t, ht⟩ := Bits.exists _ hg.1
    have ht16 := ht.le (m := 16) (by simpa using hg.2)
    refine ⟨16 * (l.length - 1) + t, len_top l hl t h0 ht, ⟨t + 1, fun k hk => ?_⟩, by omega⟩
    have e1 : wrap64 ((l.length : Int) - 1) = ((l.length - 1 : Nat) : Int) := by rw [w64 (by omega) (by omega)]; omega
    have e2 : wrap64 (16 * ((l.length - 1 : Nat) : Int)) = 16 * ((l.length - 1 : Nat) : Int) := w64 (by omega) (by omega)
    show (if (l.length : Int) = 0 then some 0 else (if 0 ≤ (wrap64 ((l.length : Int) - 1)) then (if (wrap64 ((l.length : Int) - 1)) < (l.length : Int) then (spec_Len.l0 k (wrap64 (16 * (wrap64 ((l.length : Int) - 1)))) (rd l (wrap64 ((l.length : Int) - 1)))) else none) else none)) = _
    rw [e1, e2, if_neg (by omega), if_pos (by omega), if_pos (by omega), rd_nat, len_l t _ _ ht (by omega) (by omega) hg.2 k (by omega)]
    congr 1 <;> omega
/-! ### byDigit -/
theorem dig_l (l : List Int) (hl : okd BH l) (hlen : l.length < 1099511627776) (D : Int) (hD0 : 0 < D) (hD1 : D < 65536) (d : Nat) : ∀ (out : List Int) (rest : Int), d ≤ l.length → out.length = l.length → okd BH out → 0 ≤ rest → rest < D →
    ev BH (l.drop d) = ev BH (out.drop d) * D + rest → ∀ k, d + l.length + 1 < k → ∃ q r, spec_byDigit.l0 k l D out rest ((d : Int) - 1) = some (q, r) ∧ Cn BH q ∧ ev BH l = ev BH q * D + r ∧ 0 ≤ r ∧ r < D := by
  induction d with
  | zero =>
    intro out rest _ ho hok h0 h1 he k hk
    obtain ⟨k, rfl⟩ : ∃ m, k = m + 1 := ⟨k - 1, by omega⟩
    obtain ⟨s1, s2, _⟩ := strip_cn out hok
    refine ⟨strip out, rest, ?_, s1, by rw [s2]; simpa using he, h0, h1⟩
    simp only [spec_byDigit.l0]
    rw [if_neg (by omega)]
    show (spec_trim.l0 k out).bind _ = _
    rw [trim_l out (by omega) k (by omega)]
    rfl
  | succ d ih =>
    intro out rest hd ho hok h0 h1 he k hk
    obtain ⟨k, rfl⟩ : ∃ m, k = m + 1 := ⟨k - 1, by omega⟩
    have e : (((d + 1 : Nat) : Int) - 1) = (d : Int) := by omega
    have e2 : wrap64 ((d : Int) - 1) = (d : Int) - 1 := w64 (by omega) (by omega)
    have hx := okd_get hl BH_pos d
    rw [BH_def] at hx
    have e3 : wrap64 (rest * 65536) = rest * 65536 := w64 (by omega) (by omega)
    have e4 : wrap64 (rest * 65536 + l.getD d 0) = rest * 65536 + l.getD d 0 := w64 (by omega) (by omega)
    obtain ⟨c, hc⟩ : ∃ c, c = rest * 65536 + l.getD d 0 := ⟨_, rfl⟩
    have hc0 : 0 ≤ c := by omega
    have hc1 : c < D * 65536 := by
      have : (rest + 1) * 65536 ≤ D * 65536 := Int.mul_le_mul_of_nonneg_right (by omega) (by omega)
      omega
    have hq0 : 0 ≤ c / D := Int.ediv_nonneg hc0 (by omega)
    have hq1 : c / D < 65536 := Int.ediv_lt_of_lt_mul hD0 (by rw [Int.mul_comm]; exact hc1)
    have e5 : wrap64 (c / D) = c / D := w64 (by omega) (by omega)
    have hr0 := Int.emod_nonneg c (show D ≠ 0 by omega)
    have hr1 := Int.emod_lt_of_pos c hD0
    have hqr := Int.emod_add_mul_ediv c D
    have tq : Int.tdiv c D = c / D := Int.tdiv_eq_ediv_of_nonneg hc0
    have tr : Int.tmod c D = c % D := Int.tmod_eq_emod_of_nonneg hc0
    simp only [spec_byDigit.l0]
    rw [e, if_pos (by omega), if_pos (by omega), if_pos (by omega), if_neg (by omega), if_pos (by omega), rd_nat, e3, e4, ← hc, tq, tr, e5, e2, Int.toNat_natCast]
    clear tq tr
    refine ih (out.set d (c / D)) (c % D) (by omega) (by simpa using ho) (okd_set hok d hq0 (by rw [BH_def]; exact hq1)) hr0 hr1 ?_ k (by omega)
    rw [drop_cons l d (by omega), drop_cons (out.set d (c / D)) d (by rw [List.length_set]; omega), rd_set_self _ _ _ (by omega), List.drop_set_of_lt (by omega), ev_cons, ev_cons, he]
    have hB := BH_def
    rw [show l.getD d 0 = c - rest * BH by rw [hB]; omega]
    clear ih he hok hl hx hc1 hq1 e e2 e3 e4 e5 hc hq0 hr0 hr1
    generalize c / D = q at *
    generalize c % D = r at *
    generalize ev BH (List.drop (d + 1) out) = T
    clear hk hd ho hlen hD0 hD1 hB h0 h1 hc0
    grind
theorem dig_ev (l : List Int) (hl : Cn BH l) (hlen : l.length < 1099511627776) (D : Int) (hD0 : 0 < D) (hD1 : D < 65536) : ∃ q r, Ev (fun k => spec_byDigit.f k l D) (q, r) ∧ Cn BH q ∧ ev BH l = ev BH q * D + r ∧ 0 ≤ r ∧ r < D := by
  obtain ⟨q, r, h, h2⟩ := dig_l l hl.ok hlen D hD0 hD1 l.length (List.replicate l.length 0) 0 (Nat.le_refl _) (by simp) (okd_replicate _ BH_pos) (by omega) hD0 (by simp [ev_nil]) (l.length + l.length + 2) (by omega)
  refine ⟨q, r, Ev.of (spec_byDigit.mono l D) (k := l.length + l.length + 2) ?_, h2⟩
  have e2 : wrap64 ((l.length : Int) - 1) = (l.length : Int) - 1 := w64 (by omega) (by omega)
  show (if 0 ≤ (l.length : Int) then (if ((l.length : Int) : Int).toNat ≤ 35184372088832 then (spec_byDigit.l0 (l.length + l.length + 2) l D (List.replicate ((l.length : Int) : Int).toNat 0) 0 (wrap64 ((l.length : Int) - 1))) else none) else none) = _
  rw [if_pos (by omega), if_pos (by simp; omega), e2, Int.toNat_natCast, h]

/-! ### Add -/
theorem ev_take_succ' (b : Int) (l : List Int) (i : Nat) : ev b (l.take (i + 1)) = ev b (l.take i) + b ^ i * l.getD i 0 := by
  by_cases h : i < l.length
  · exact ev_take_succ b l i h
  · rw [List.take_of_length_le (by omega), List.take_of_length_le (by omega), List.getD_eq_getElem?_getD, List.getElem?_eq_none (by omega)]
    simp
theorem getD_out (l : List Int) (i : Nat) (h : ¬ i < l.length) : l.getD i 0 = 0 := by
  rw [List.getD_eq_getElem?_getD, List.getElem?_eq_none (by omega)]
  rfl
theorem add_step (x y out : List Int) (hx : okd BH x) (hy : okd BH y) (hlx : x.length < 1099511627776) (hly : y.length < 1099511627776) (c : Int) (hc0 : 0 ≤ c) (hc1 : c ≤ 1) (i : Nat) (ho : out.length = i) (h : i < x.length ∨ i < y.length) (k : Nat) :
    spec_Add.l0 (k + 2) x y out c i = spec_Add.l0 k x y (out ++ [(c + x.getD i 0 + y.getD i 0) % 65536]) ((c + x.getD i 0 + y.getD i 0) / 65536) ((i + 1 : Nat) : Int) := by
  have h1 := okd_get hx BH_pos i
  have h2 := okd_get hy BH_pos i
  rw [BH_def] at h1 h2
  have e1 := inc64 i (by omega)
  have d1 : ∀ s : Int, 0 ≤ s → s < 4294967296 → Int.tmod (wrap64 s) 65536 = s % 65536 ∧ wrap64 (Int.tdiv (wrap64 s) 65536) = s / 65536 := by
    intro s s0 s1
    rw [w64 (by omega) (by omega), Int.tmod_eq_emod_of_nonneg s0, Int.tdiv_eq_ediv_of_nonneg s0, w64 (by omega) (by omega)]
    exact ⟨rfl, rfl⟩
  have e2 : wrap64 (c + x.getD i 0) = c + x.getD i 0 := w64 (by omega) (by omega)
  simp only [spec_Add.l0]
  by_cases hix : i < x.length
  · rw [if_pos (by omega)]
    simp only [spec_Add.j1]
    rw [if_pos trivial, if_pos (by omega), if_pos (by omega)]
    by_cases hiy : i < y.length
    · rw [if_pos (by omega), if_pos (by omega), rd_nat, rd_nat, e2, (d1 _ (by omega) (by omega)).1, (d1 _ (by omega) (by omega)).2, e1]
    · rw [if_neg (by omega), if_pos (by omega), rd_nat, (d1 _ (by omega) (by omega)).1, (d1 _ (by omega) (by omega)).2, e1, getD_out y i hiy, Int.add_zero]
  · have hiy : i < y.length := by omega
    rw [if_neg (by omega), decide_eq_true (by omega)]
    simp only [spec_Add.j1]
    rw [if_pos trivial, if_neg (by omega), if_pos (by omega), if_pos (by omega), if_pos (by omega), rd_nat, (d1 _ (by omega) (by omega)).1, (d1 _ (by omega) (by omega)).2, e1, getD_out x i hix, Int.add_zero]
theorem add_l (x y : List Int) (hx : okd BH x) (hy : okd BH y) (hlx : x.length < 1099511627776) (hly : y.length < 1099511627776) (d : Nat) : ∀ (i : Nat) (out : List Int) (c : Int), i + d = max x.length y.length → out.length = i → okd BH out → 0 ≤ c → c ≤ 1 →
    ev BH out + BH ^ i * c = ev BH (x.take i) + ev BH (y.take i) → ∀ k, 2 * d + max x.length y.length + 4 < k → ∃ r, spec_Add.l0 k x y out c i = some r ∧ Cn BH r ∧ ev BH r = ev BH x + ev BH y := by
  induction d with
  | zero =>
    intro i out c hi ho hok hc0 hc1 he k hk
    obtain ⟨k, rfl⟩ : ∃ m, k = m + 2 := ⟨k - 2, by omega⟩
    obtain ⟨s1, s2, _⟩ := strip_cn (out ++ [c]) (okd_append.2 ⟨hok, fun z hz => by simp at hz; rw [BH_def]; omega⟩)
    refine ⟨strip (out ++ [c]), ?_, s1, ?_⟩
    · simp only [spec_Add.l0]
      rw [if_neg (by omega), decide_eq_false (by omega)]
      simp only [spec_Add.j1]
      rw [if_neg (by decide), if_pos (by omega)]
      show (spec_trim.l0 k (out ++ [c])).bind _ = _
      rw [trim_l _ (by simp; omega) k (by simp; omega)]
      rfl
    · rw [s2, ev_snoc, ho, he, List.take_of_length_le (by omega), List.take_of_length_le (by omega)]
  | succ d ih =>
    intro i out c hi ho hok hc0 hc1 he k hk
    have h : i < x.length ∨ i < y.length := by omega
    obtain ⟨k, rfl⟩ : ∃ m, k = m + 2 := ⟨k - 2, by omega⟩
    have h1 := okd_get hx BH_pos i
    have h2 := okd_get hy BH_pos i
    have hB := BH_def
    rw [BH_def] at h1 h2
    rw [add_step x y out hx hy hlx hly c hc0 hc1 i ho h k]
    refine ih (i + 1) _ _ (by omega) (by simp; omega) (okd_append.2 ⟨hok, fun z hz => by simp at hz; rw [BH_def]; omega⟩) (by omega) (by omega) ?_ k (by omega)
    rw [ev_snoc, ev_take_succ', ev_take_succ', ho]
    have hq := Int.emod_add_mul_ediv (c + x.getD i 0 + y.getD i 0) 65536
    rw [← hB] at hq ⊢
    generalize (c + x.getD i 0 + y.getD i 0) % BH = r at hq ⊢
    generalize (c + x.getD i 0 + y.getD i 0) / BH = q at hq ⊢
    generalize ev BH out = o at *
    generalize ev BH (x.take i) = X at *
    generalize ev BH (y.take i) = Y at *
    clear ih h1 h2 hB hi hk h
    grind
theorem add_ev (x y : List Int) (hx : okd BH x) (hy : okd BH y) (hlx : x.length < 1099511627776) (hly : y.length < 1099511627776) : ∃ r, Ev (fun k => spec_Add.f k x y) r ∧ Cn BH r ∧ ev BH r = ev BH x + ev BH y := by
  obtain ⟨r, h, h2⟩ := add_l x y hx hy hlx hly (max x.length y.length) 0 [] 0 (by omega) rfl (okd_nil _) (by omega) (by omega) (by simp [ev_nil]) (3 * max x.length y.length + 5) (by omega)
  exact ⟨r, Ev.of (spec_Add.mono x y) (k := 3 * max x.length y.length + 5) h, h2⟩
/-! ### Sub -/
theorem sub_step (x y out : List Int) (hx : okd BH x) (hy : okd BH y) (hlx : x.length < 1099511627776) (c : Int) (hc0 : 0 ≤ c) (hc1 : c ≤ 1) (i : Nat) (ho : out.length = i) (h : i < x.length) (k : Nat) :
    spec_Sub.l0 (k + 1) y out c x x.length i = spec_Sub.l0 k y (out ++ [(x.getD i 0 - c - y.getD i 0) % 65536]) (if x.getD i 0 - c - y.getD i 0 < 0 then 1 else 0) x x.length ((i + 1 : Nat) : Int) := by
  have h1 := okd_get hx BH_pos i
  have h2 := okd_get hy BH_pos i
  rw [BH_def] at h1 h2
  have e1 := inc64 i (by omega)
  have e2 : wrap64 (x.getD i 0 - c) = x.getD i 0 - c := w64 (by omega) (by omega)
  have e3 : wrap64 (x.getD i 0 - c - y.getD i 0) = x.getD i 0 - c - y.getD i 0 := w64 (by omega) (by omega)
  have e4 : wrap64 (x.getD i 0 - c - y.getD i 0 + 65536) = x.getD i 0 - c - y.getD i 0 + 65536 := w64 (by omega) (by omega)
  have e5 : wrap64 (x.getD i 0 - c + 65536) = x.getD i 0 - c + 65536 := w64 (by omega) (by omega)
  simp only [spec_Sub.l0]
  rw [if_pos (by omega), if_pos (by omega), if_pos (by omega), rd_nat, rd_nat, e2]
  by_cases hy' : i < y.length
  · rw [if_pos (by omega), e3]
    by_cases hn : x.getD i 0 - c - y.getD i 0 < 0
    · rw [if_pos hn, if_pos (by omega), e4, e1, if_pos hn, show (x.getD i 0 - c - y.getD i 0) % 65536 = x.getD i 0 - c - y.getD i 0 + 65536 by omega]
    · rw [if_neg hn, if_pos (by omega), e1, if_neg hn, show (x.getD i 0 - c - y.getD i 0) % 65536 = x.getD i 0 - c - y.getD i 0 by omega]
  · have hz := getD_out y i hy'
    rw [hz] at *
    rw [if_neg (by omega), Int.sub_zero]
    by_cases hn : x.getD i 0 - c < 0
    · rw [if_pos hn, if_pos (by omega), e5, e1, if_pos hn, show (x.getD i 0 - c) % 65536 = x.getD i 0 - c + 65536 by omega]
    · rw [if_neg hn, if_pos (by omega), e1, if_neg hn, show (x.getD i 0 - c) % 65536 = x.getD i 0 - c by omega]
theorem sub_l (x y : List Int) (hx : okd BH x) (hy : okd BH y) (hlx : x.length < 1099511627776) (hly : y.length ≤ x.length) (hle : ev BH y ≤ ev BH x) (d : Nat) : ∀ (i : Nat) (out : List Int) (c : Int), i + d = x.length → out.length = i → okd BH out → 0 ≤ c → c ≤ 1 →
    ev BH out - BH ^ i * c = ev BH (x.take i) - ev BH (y.take i) → ∀ k, d + x.length + 2 < k → ∃ r, spec_Sub.l0 k y out c x x.length i = some r ∧ Cn BH r ∧ ev BH r = ev BH x - ev BH y := by
  induction d with
  | zero =>
    intro i out c hi ho hok hc0 hc1 he k hk
    obtain ⟨k, rfl⟩ : ∃ m, k = m + 1 := ⟨k - 1, by omega⟩
    obtain ⟨s1, s2, _⟩ := strip_cn out hok
    have hlt := ev_lt hok BH_pos
    rw [List.take_of_length_le (by omega), List.take_of_length_le (by omega)] at he
    have hc : c = 0 := by
      rcases (show c = 0 ∨ c = 1 by omega) with h | h
      · exact h
      · exfalso
        rw [h, Int.mul_one] at he
        rw [ho] at hlt
        omega
    refine ⟨strip out, ?_, s1, by rw [s2]; rw [hc] at he; simp at he; exact he⟩
    simp only [spec_Sub.l0]
    rw [if_neg (by omega)]
    show (spec_trim.l0 k out).bind _ = _
    rw [trim_l _ (by omega) k (by omega)]
    rfl
  | succ d ih =>
    intro i out c hi ho hok hc0 hc1 he k hk
    obtain ⟨k, rfl⟩ : ∃ m, k = m + 1 := ⟨k - 1, by omega⟩
    have h1 := okd_get hx BH_pos i
    have h2 := okd_get hy BH_pos i
    have hB := BH_def
    rw [BH_def] at h1 h2
    rw [sub_step x y out hx hy hlx c hc0 hc1 i ho (by omega) k]
    refine ih (i + 1) _ _ (by omega) (by simp; omega) (okd_append.2 ⟨hok, fun z hz => by simp at hz; rw [BH_def]; omega⟩) (by split <;> omega) (by split <;> omega) ?_ k (by omega)
    rw [ev_snoc, ev_take_succ', ev_take_succ', ho]
    have hq : (x.getD i 0 - c - y.getD i 0) % 65536 = x.getD i 0 - c - y.getD i 0 + BH * (if x.getD i 0 - c - y.getD i 0 < 0 then 1 else 0) := by
      rw [hB]
      split <;> omega
    rw [hq]
    generalize (if x.getD i 0 - c - y.getD i 0 < 0 then (1 : Int) else 0) = q
    generalize ev BH out = o at *
    generalize ev BH (x.take i) = X at *
    generalize ev BH (y.take i) = Y at *
    clear ih h1 h2 hB hi hk hq hle
    grind
theorem sub_ev (x y : List Int) (hx : Cn BH x) (hy : Cn BH y) (hlx : x.length < 1099511627776) (hle : ev BH y ≤ ev BH x) : ∃ r, Ev (fun k => spec_Sub.f k x y) r ∧ Cn BH r ∧ ev BH r = ev BH x - ev BH y := by
  have hly : y.length ≤ x.length := Cn_len_le hy BH_gt _ (by have := ev_lt hx.ok BH_pos; omega)
  obtain ⟨r, h, h2⟩ := sub_l x y hx.ok hy.ok hlx hly hle x.length 0 [] 0 (by omega) rfl (okd_nil _) (by omega) (by omega) (by simp [ev_nil]) (2 * x.length + 3) (by omega)
  exact ⟨r, Ev.of (spec_Sub.mono x y) (k := 2 * x.length + 3) h, h2⟩
end Go.Proofs.YtgpgacnnkjiadaaGreatDoor.Sp
end

/-! ## SBit -/
section
namespace Go.Proofs.YtgpgacnnkjiadaaGreatDoor.Sp
open Go.RowKit Go.Proofs.YtgpgacnnkjiadaaGreatDoorW.PrintWords Go.Proofs.YtgpgacnnkjiadaaGreatDoorW.PrintLast Go.Proofs.YtgpgacnnkjiadaaGreatDoorW.PrintMore Go.Proofs.YtgpgacnnkjiadaaGreatDoor.Dig
set_option linter.unusedVariables false
set_option linter.unusedSimpArgs false

theorem madeCells_one (z : Value) (n : Nat) : madeCells #[z] n = Array.replicate n z := by
  apply Array.ext
  · simp [madeCells]
  · intro i h1 h2
    simp [madeCells, Nat.mod_one]
theorem make_ints (t e : TypeId) (k : IntKind) (bytes : Nat) (ht : Tryz.prog.underlying t = some (.slice e)) (hinfo : (Tryz.prog.info? e).map (fun i => (i.zero, i.size, i.bytes)) = some (some (.int k 0), 1, bytes)) (hb : 0 < bytes) (n m : Int) (h0 : 0 ≤ n) (hnm : n ≤ m) (hm : m.toNat * bytes ≤ 281474976710656) (W : World) :
    (Instr.makeSlice t (.int .i64 n) (.int .i64 m)).run Tryz.prog W = .ok (.slice (some ⟨W.heap.size, 0, none⟩) n.toNat m.toNat) (W.alloc (.cells (Array.replicate m.toNat (.int k 0)) e)) := by
  obtain ⟨i0, hi, hz0, hz1, hz2⟩ := info_parts hinfo
  obtain ⟨n, rfl⟩ := Int.eq_ofNat_of_zero_le h0
  obtain ⟨m, rfl⟩ := Int.eq_ofNat_of_zero_le (show 0 ≤ m by omega)
  have h1 : m ≤ 281474976710656 := Nat.le_trans (Nat.le_mul_of_pos_right _ hb) (by rw [Int.toNat_natCast] at hm; exact hm)
  have h := run_make (P := Tryz.prog) W t e i0 (.int k 0) ht hi hz0 .i64 .i64 n m (by omega) (by omega) (by rw [hz2, Int.mul_comm, ← Int.natCast_mul]; rw [Int.toNat_natCast] at hm; omega) (by omega)
  rw [h, hz1, Nat.mul_one, show (Value.int k 0).cells = #[.int k 0] from rfl, madeCells_one]

set_option maxHeartbeats 800000 in
set_option maxRecDepth 100000 in
theorem bit_any (q s : Nat) (hs : s < 16) (hq : q ≤ 1000000000) (w : World) :
    Calls Tryz.prog 49 #[.int .i64 ((16 * q + s : Nat) : Int)] w fun e w' => ∃ r v, e = .returned v ∧ Kd.V (Kd.int .i64) 3 w' w.heap.size (fun k => w.heap.size ≤ k) v r ∧ Cn BH r ∧ ev BH r = 2 ^ (16 * q + s) ∧ Below w.heap.size w w' := by
  obtain ⟨i, hi⟩ : ∃ i : Int, i = ((16 * q + s : Nat) : Int) := ⟨_, rfl⟩
  rw [← hi]
  have d1 : i / 16 = (q : Int) := by omega
  have d2 : i % 16 = (s : Int) := by omega
  have d3 : 0 ≤ i := by omega
  have d4 : i ≤ 16000000015 := by omega
  clear hi
  have d5 : IntKind.i64.wrap ((q : Int) + 1) = ((q + 1 : Nat) : Int) := by rw [IntWalk.i64_in _ (by omega)]; omega
  have hmk := make_ints 30 3 .i64 8 Tryz.underlying30 info3 (by omega) ((q : Int) + 1) ((q : Int) + 1) (by omega) (by omega) (by omega)
  have d6 : (((q : Int) + 1).toNat) = q + 1 := by omega
  have d7 : (q : Int) < ((q + 1 : Nat) : Int) := by omega
  go_enter Tryz.func49, Tryz.ntmps49
  go_wp2
  go_ret
  have hp2 : (2 : Int) ^ s ≤ 2 ^ 15 := pow_mono (by omega) (by omega)
  have hp0 : (0 : Int) < 2 ^ s := Int.pow_pos (by omega)
  have h15 : (2 : Int) ^ 15 = 32768 := rfl
  have hw : wrap64 (2 ^ s) = 2 ^ s := w64 (by omega) (by omega)
  have hl : ((List.replicate q (0 : Int)) ++ [2 ^ s]).length = q + 1 := by simp
  refine ⟨List.replicate q 0 ++ [2 ^ s], _, rfl, ?_, ⟨okd_append.2 ⟨okd_replicate _ BH_pos, fun d hd => ?_⟩, fun d hd => ?_⟩, ?_, (Below.refl _ _).alloc (Nat.le_refl _) _⟩
  · refine blk_V (hp_new w _ _ rfl) hl (by omega) (Nat.le_refl _) (Nat.le_refl _) ?_
    intro i hi'
    rw [hw, Nat.zero_add, Array.getElem?_setIfInBounds]
    by_cases h : q = i
    · subst h
      simp
    · rw [if_neg h]
      simp [show i < q + 1 by omega, List.getD, List.getElem?_append, show i < q by omega]
  · simp at hd
    subst hd
    rw [BH_def]
    omega
  · simp at hd
    omega
  · rw [ev_snoc, ev_replicate, List.length_replicate, Int.pow_add, Int.pow_mul, BH_two]
    omega

/-! ### Shl -/
theorem low_lt (o : List Int) (q s : Nat) (hq : q < o.length) (hok : okd BH o) (h : ev BH o < BH ^ q * 2 ^ s) : o.getD q 0 < 2 ^ s := by
  have h1 := ev_mid BH o q hq
  have h2 := ev_nonneg (okd_take hok q) BH_pos
  have h4 := Int.mul_nonneg (Int.le_of_lt BH_pos) (ev_nonneg (okd_drop hok (q + 1)) BH_pos)
  have hp := pow_pos BH_pos q
  have h5 : BH ^ q * o.getD q 0 ≤ BH ^ q * (o.getD q 0 + BH * ev BH (o.drop (q + 1))) := Int.mul_le_mul_of_nonneg_left (by omega) (Int.le_of_lt hp)
  exact Int.lt_of_mul_lt_mul_left (show BH ^ q * o.getD q 0 < BH ^ q * 2 ^ s by omega) (Int.le_of_lt hp)
theorem modmul (x : Int) (s : Nat) (hs : s ≤ 16) : x * 2 ^ s % 65536 ≤ 65536 - 2 ^ s := by
  have e : (65536 : Int) = 2 ^ s * 2 ^ (16 - s) := by rw [← Int.pow_add, show s + (16 - s) = 16 by omega]; rfl
  have hp0 : (0 : Int) < 2 ^ s := Int.pow_pos (by omega)
  have hp1 : (0 : Int) < 2 ^ (16 - s) := Int.pow_pos (by omega)
  rw [e, Int.mul_comm x, Int.mul_emod_mul_of_pos _ _ hp0]
  have h1 := Int.emod_lt_of_pos x hp1
  have h2 : 2 ^ s * (x % 2 ^ (16 - s) + 1) ≤ 2 ^ s * 2 ^ (16 - s) := Int.mul_le_mul_of_nonneg_left (by omega) (Int.le_of_lt hp0)
  rw [Int.mul_add, Int.mul_one] at h2
  omega
theorem getD_set (l : List Int) (i j : Nat) (x : Int) : (l.set i x).getD j 0 = if i = j ∧ i < l.length then x else l.getD j 0 := by
  simp only [List.getD_eq_getElem?_getD, List.getElem?_set]
  by_cases h : i = j
  · subst h
    by_cases h2 : i < l.length
    · simp [h2]
    · simp [h2, List.getElem?_eq_none (show l.length ≤ i by omega)]
  · simp [h]
theorem shl_step (o l : List Int) (q s i : Nat) (hs : s < 16) (hi : i < l.length) (ho : o.length = q + l.length + 1) (hok : okd BH o) (hl : okd BH l) (he : ev BH o = BH ^ q * (ev BH (l.take i) * 2 ^ s)) (hz : ∀ j, q + i < j → o.getD j 0 = 0) :
    0 ≤ l.getD i 0 * 2 ^ s ∧ l.getD i 0 * 2 ^ s < 2147483648 ∧ 0 ≤ o.getD (q + i) 0 + l.getD i 0 * 2 ^ s % 65536 ∧ o.getD (q + i) 0 + l.getD i 0 * 2 ^ s % 65536 < 65536 ∧
      okd BH ((o.set (q + i) (o.getD (q + i) 0 + l.getD i 0 * 2 ^ s % 65536)).set (q + i + 1) (l.getD i 0 * 2 ^ s / 65536)) ∧
      ev BH ((o.set (q + i) (o.getD (q + i) 0 + l.getD i 0 * 2 ^ s % 65536)).set (q + i + 1) (l.getD i 0 * 2 ^ s / 65536)) = BH ^ q * (ev BH (l.take (i + 1)) * 2 ^ s) ∧
      ∀ j, q + (i + 1) < j → ((o.set (q + i) (o.getD (q + i) 0 + l.getD i 0 * 2 ^ s % 65536)).set (q + i + 1) (l.getD i 0 * 2 ^ s / 65536)).getD j 0 = 0 := by
  have hp2 : (2 : Int) ^ s ≤ 2 ^ 15 := pow_mono (by omega) (by omega)
  have hp0 : (0 : Int) < 2 ^ s := Int.pow_pos (by omega)
  have h15 : (2 : Int) ^ 15 = 32768 := rfl
  have hx := okd_get hl BH_pos i
  have hB := BH_def
  have hlo : o.getD (q + i) 0 < 2 ^ s := by
    refine low_lt o (q + i) s (by omega) hok ?_
    rw [he, Int.pow_add, Int.mul_assoc]
    refine Int.mul_lt_mul_of_pos_left ?_ (pow_pos BH_pos q)
    exact Int.mul_lt_mul_of_pos_right (ev_take_lt hl BH_pos i (by omega)).2 hp0
  have hlo0 := (okd_get hok BH_pos (q + i)).1
  have hm1 : l.getD i 0 * 2 ^ s ≤ 65535 * 2 ^ s := Int.mul_le_mul_of_nonneg_right (by omega) (Int.le_of_lt hp0)
  have hm0 : 0 ≤ l.getD i 0 * 2 ^ s := Int.mul_nonneg hx.1 (Int.le_of_lt hp0)
  have hmod := modmul (l.getD i 0) s (by omega)
  have hx2 : l.getD i 0 * 2 ^ s < 2147483648 := by omega
  have hz1 := hz (q + i + 1) (by omega)
  clear hp2 h15 hB
  generalize hX : l.getD i 0 * 2 ^ s = X at *
  have hlen1 : q + i < o.length := by omega
  refine ⟨hm0, hx2, by omega, by omega, ?_, ?_, ?_⟩
  · exact okd_set (okd_set hok _ (by omega) (by rw [BH_def]; omega)) _ (by omega) (by rw [BH_def]; omega)
  · rw [ev_set _ _ _ _ (by rw [List.length_set]; omega), ev_set _ _ _ _ hlen1, getD_set, if_neg (by omega), hz1, he, ev_take_succ _ _ _ hi, Int.pow_succ, Int.pow_add]
    have hqr := Int.emod_add_mul_ediv X 65536
    rw [← BH_def] at hqr ⊢
    clear hmod hz1 hz he hm0 hm1 hx2 hlo hlo0 hx hok hl ho hlen1 hi hs
    generalize X % BH = r at *
    generalize X / BH = d at *
    generalize ev BH (l.take i) = T at *
    generalize l.getD i 0 = x at *
    generalize o.getD (q + i) 0 = a at *
    generalize BH ^ q = P at *
    generalize BH ^ i = R at *
    generalize (2 : Int) ^ s = U at *
    subst hX
    clear hp0
    grind
  · intro j hj
    rw [getD_set, if_neg (by omega), getD_set, if_neg (by omega)]
    exact hz j (by omega)
/-- A block of numbers of 64 bits. -/
def i64s (l : List Int) : Array Value := (l.map (Value.int .i64)).toArray
theorem i64s_size (l : List Int) : (i64s l).size = l.length := by simp [i64s]
theorem i64s_get (l : List Int) (i : Nat) (h : i < l.length) : (i64s l)[i]? = some (.int .i64 (l.getD i 0)) := by
  simp [i64s, List.getD, List.getElem?_eq_getElem h]
theorem i64s_set (l : List Int) (i : Nat) (x : Int) : (i64s l).setIfInBounds i (.int .i64 x) = i64s (l.set i x) := by
  simp [i64s, List.map_set]
theorem i64s_rep (n : Nat) : Array.replicate n (Value.int .i64 0) = i64s (List.replicate n 0) := by
  simp [i64s]

set_option maxHeartbeats 1600000 in
set_option maxRecDepth 100000 in
theorem shl_any (P : Nat → Prop) (A : Option Addr) (c : Nat) (l : List Int) (q s : Nat) (hs : s < 16) (hq : q ≤ 1000000000) (hl : Cn BH l) (hlen : l.length ≤ 1000000000) (w : World) (hv : Kd.V (Kd.int .i64) 3 w w.heap.size P (.slice A l.length c) l) :
    Calls Tryz.prog 45 #[.slice A l.length c, .int .i64 ((16 * q + s : Nat) : Int)] w fun e w' => ∃ r v, e = .returned v ∧ Kd.V (Kd.int .i64) 3 w' w.heap.size (fun k => P k ∨ w.heap.size ≤ k) v r ∧ Cn BH r ∧ ev BH r = ev BH l * 2 ^ (16 * q + s) ∧ Below w.heap.size w w' := by
  have HV := Aside0.mk hv
  have HL := Aside0.mk hl
  clear hv hl
  by_cases h0 : l.length = 0
  · have hl : l = [] := List.eq_nil_of_length_eq_zero h0
    subst hl
    go_enter Tryz.func45, Tryz.ntmps45
    go_wp2
    go_ret
    exact ⟨[], _, rfl, Kd.V_mono HV.out (fun k hk => .inl hk), Cn_nil _, by rw [ev_nil]; simp, Below.refl _ _⟩
  · have hb0 : ((l.length : Int) == 0) = false := by simpa using h0
    obtain ⟨n, hn⟩ : ∃ n : Int, n = ((16 * q + s : Nat) : Int) := ⟨_, rfl⟩
    rw [← hn]
    have d1 : n / 16 = (q : Int) := by omega
    have d2 : n % 16 = (s : Int) := by omega
    have d3 : 0 ≤ n := by omega
    have d4 : n ≤ 16000000015 := by omega
    clear hn
    have hmk := make_ints 30 3 .i64 8 Tryz.underlying30 info3 (by omega) ((q : Int) + l.length + 1) ((q : Int) + l.length + 1) (by omega) (by omega) (by omega)
    have d6 : (((q : Int) + l.length + 1).toNat) = q + l.length + 1 := by omega
    go_enter Tryz.func45, Tryz.ntmps45
    go_wp2
    go_loopw [21] (fun v21 wr => ∃ (i : Int) (o : List Int), 0 ≤ i ∧ i ≤ l.length ∧ v21 = .int .i64 i ∧ Aside0 (hp wr w.heap.size = some (.cells (i64s o) 3 (0, 0)) ∧ o.length = q + l.length + 1 ∧ okd BH o ∧ ev BH o = BH ^ q * (ev BH (l.take i.toNat) * 2 ^ s) ∧ ∀ j, q + i.toNat < j → o.getD j 0 = 0) ∧ Aside0 (Below w.heap.size w wr)) (fun i _ => l.length - (intOf i).toNat)
    case atStart =>
      exact ⟨0, List.replicate (q + l.length + 1) 0, by omega, by omega, rfl, ⟨by rw [i64s_rep]; exact hp_new w _ _ rfl, by simp, okd_replicate _ BH_pos, by rw [ev_replicate]; simp [ev_nil], fun j _ => by simp [List.getD, List.getElem?_replicate]; split <;> rfl⟩, ⟨(Below.refl _ _).alloc (Nat.le_refl _) _⟩⟩
    case round =>
      obtain ⟨i, o, i0, i1, rfl, HO, HB⟩ := hrel
      by_cases hlt : i < l.length
      · obtain ⟨ad, e, hx⟩ := Kd.at_int (Kd.V_reads' HV.out).2.2 i i0 hlt
        cases e
        replace hx := (HB.out.cell (World.block_lt_of_cell? w _ hx)).trans hx
        obtain ⟨ho, hol, hok, he, hz⟩ := HO.out
        obtain ⟨m0, m1, a0, a1, k1, k2, k3⟩ := shl_step o l q s i.toNat hs (by omega) hol hok HL.out.ok he hz
        have c1 : wr.cell? ⟨w.heap.size, q + i.toNat, none⟩ = some (.int .i64 (o.getD (q + i.toNat) 0)) := (blk_cell ho _).trans (i64s_get o _ (by omega))
        have c2 : wr.cell? ⟨w.heap.size, q + i.toNat + 1, none⟩ = some (.int .i64 (o.getD (q + i.toNat + 1) 0)) := (blk_cell ho _).trans (i64s_get o _ (by omega))
        have f1 : wr.frozen? ⟨w.heap.size, q + i.toNat, none⟩ = false := blk_frozen ho _
        have f2 : wr.frozen? ⟨w.heap.size, q + i.toNat + 1, none⟩ = false := blk_frozen ho _
        have hrd : rd l i = l.getD i.toNat 0 := rfl
        obtain ⟨x, hxx⟩ : ∃ x, x = l.getD i.toNat 0 := ⟨_, rfl⟩
        rw [← hxx] at m0 m1 a0 a1 k1 k2 k3
        obtain ⟨X, hX⟩ : ∃ X, X = x * 2 ^ s := ⟨_, rfl⟩
        obtain ⟨a, ha⟩ : ∃ a, a = o.getD (q + i.toNat) 0 := ⟨_, rfl⟩
        rw [← hX] at m0 m1 a0 a1 k1 k2 k3
        rw [← ha] at a0 a1 k1 k2 k3 c1
        rw [hrd, ← hxx] at hx
        have wX : wrap64 (x * 2 ^ s) = X := by rw [← hX]; exact w64 (by omega) (by omega)
        have HO2 : Aside0 (hp ((wr.setCell ⟨w.heap.size, q + i.toNat, none⟩ (.int .i64 (a + X % 65536))).setCell ⟨w.heap.size, q + i.toNat + 1, none⟩ (.int .i64 (X / 65536))) w.heap.size = some (.cells (i64s ((o.set (q + i.toNat) (a + X % 65536)).set (q + i.toNat + 1) (X / 65536))) 3 (0, 0)) ∧
            ((o.set (q + i.toNat) (a + X % 65536)).set (q + i.toNat + 1) (X / 65536)).length = q + l.length + 1 ∧ okd BH ((o.set (q + i.toNat) (a + X % 65536)).set (q + i.toNat + 1) (X / 65536)) ∧ ev BH ((o.set (q + i.toNat) (a + X % 65536)).set (q + i.toNat + 1) (X / 65536)) = BH ^ q * (ev BH (l.take (i + 1).toNat) * 2 ^ s) ∧ ∀ j, q + (i + 1).toNat < j → ((o.set (q + i.toNat) (a + X % 65536)).set (q + i.toNat + 1) (X / 65536)).getD j 0 = 0) := by
          have e1 : (i + 1).toNat = i.toNat + 1 := by omega
          rw [e1]
          exact ⟨by rw [hp_here _ _ _ _ _ rfl, hp_here _ _ _ _ _ rfl, ho]; simp only [Option.map_some, setObj_cells, i64s_set], by simp [hol], k1, k2, k3⟩
        have HB2 := Aside0.mk ((HB.out.setCell (p := ⟨w.heap.size, q + i.toNat, none⟩) (Nat.le_refl _) (.int .i64 (a + X % 65536))).setCell (p := ⟨w.heap.size, q + i.toNat + 1, none⟩) (Nat.le_refl _) (.int .i64 (X / 65536)))
        have e3 : ((q : Int) + i).toNat = q + i.toNat := by omega
        have e4 : ((q : Int) + i + 1).toNat = q + i.toNat + 1 := by omega
        have b1 : (q : Int) + i < ((q + l.length + 1 : Nat) : Int) := by omega
        have b2 : (q : Int) + i + 1 < ((q + l.length + 1 : Nat) : Int) := by omega
        clear ho hol hok he hz k1 k2 k3 hX ha hrd HO hxx
        go_wp2
        go_roundw
        case rel => first | exact ⟨i + 1, _, by omega, by omega, rfl, HO2, HB2⟩ | fail
        case measure => simp [intOf]; omega
      · have hi : i.toNat = l.length := by omega
        obtain ⟨ho, hol, hok, he, hz⟩ := HO.out
        rw [hi, List.take_length] at he
        go_wp2_with (fail)
        obtain ⟨K, hK⟩ := trim_ev o (by omega)
        obtain ⟨s1, s2, _⟩ := strip_cn o hok
        have hvo : Kd.V (Kd.int .i64) 3 wr wr.heap.size (fun k => w.heap.size ≤ k) (.slice (some ⟨w.heap.size, 0, none⟩) o.length (q + l.length + 1)) o := blk_V ho rfl (by omega) (by omega) (Nat.le_refl _) (fun i hi => by rw [Nat.zero_add]; exact i64s_get o i hi)
        have hT := spec_trim.calls K (fun k => w.heap.size ≤ k) (some ⟨w.heap.size, 0, none⟩) (q + l.length + 1) o (strip o) wr hvo (hK K (Nat.le_refl _))
        rw [hol] at hT
        refine hT.mono ?_
        rintro e w1 ⟨v, rfl, hv1, hb1⟩
        have HE := Aside0.mk (show Cn BH (strip o) ∧ ev BH (strip o) = ev BH l * 2 ^ (16 * q + s) from ⟨s1, by rw [s2, he, Int.pow_add, Int.pow_mul, ← BH_two]; grind⟩)
        have HV1 := Aside0.mk hv1
        have HB1 := Aside0.mk (below_step HB.out hb1)
        have hsz := HB.out.size
        clear ho hol hok he hz hvo hK hv1 hb1 s1 s2 hT
        go_wp2_with (fail)
        go_ret
        exact ⟨_, _, rfl, Kd.V_mono (Kd.V_lower HV1.out hsz) (fun k hk => .inr (by omega)), HE.out.1, HE.out.2, HB1.out⟩
end Go.Proofs.YtgpgacnnkjiadaaGreatDoor.Sp
end

/-! ## NatC -/
section
namespace Go.Proofs.YtgpgacnnkjiadaaGreatDoor.Sp
open Go.RowKit Go.Proofs.YtgpgacnnkjiadaaGreatDoorW.PrintWords Go.Proofs.YtgpgacnnkjiadaaGreatDoorW.PrintLast Go.Proofs.YtgpgacnnkjiadaaGreatDoorW.PrintMore Go.Proofs.YtgpgacnnkjiadaaGreatDoor.Dig
set_option linter.unusedVariables false
set_option linter.unusedSimpArgs false

/-- The slice v reads as the digits (to the base 65536, canonical) of n. -/
def Dg (w : World) (v : Value) (n : Int) : Prop := ∃ A c l, v = .slice A l.length c ∧ l.length ≤ c ∧ Kd.C (Kd.int .i64) w A l.length l ∧ Cn BH l ∧ ev BH l = n
/-- The slice v reads as the words (to the base 2^64, canonical) of n. -/
def Wd (w : World) (v : Value) (n : Int) : Prop := ∃ A c l, v = .slice A l.length c ∧ l.length ≤ c ∧ Kd.C (Kd.int .u64) w A l.length l ∧ Cn BW l ∧ ev BW l = n
/-- The slice v reads as words l (whatever they are). -/
def Ws (w : World) (v : Value) (l : List Int) : Prop := ∃ A c, v = .slice A l.length c ∧ l.length ≤ c ∧ Kd.C (Kd.int .u64) w A l.length l ∧ okd BW l
theorem Dg.below {w w1 : World} {v : Value} {n : Int} (h : Dg w v n) (hb : Below w.heap.size w w1) : Dg w1 v n := by
  obtain ⟨A, c, l, h1, h2, h3, h4⟩ := h
  exact ⟨A, c, l, h1, h2, Kd.C_below h3 hb, h4⟩
theorem Wd.below {w w1 : World} {v : Value} {n : Int} (h : Wd w v n) (hb : Below w.heap.size w w1) : Wd w1 v n := by
  obtain ⟨A, c, l, h1, h2, h3, h4⟩ := h
  exact ⟨A, c, l, h1, h2, Kd.C_below h3 hb, h4⟩
theorem Ws.below {w w1 : World} {v : Value} {l : List Int} (h : Ws w v l) (hb : Below w.heap.size w w1) : Ws w1 v l := by
  obtain ⟨A, c, h1, h2, h3, h4⟩ := h
  exact ⟨A, c, h1, h2, Kd.C_below h3 hb, h4⟩
theorem Dg.slice {w : World} {v : Value} {n : Int} (h : Dg w v n) : ∃ A m c, v = .slice A m c := by
  obtain ⟨A, c, l, h1, _⟩ := h
  exact ⟨A, _, c, h1⟩
theorem Wd.ws {w : World} {v : Value} {n : Int} (h : Wd w v n) : ∃ l, Ws w v l ∧ Cn BW l ∧ ev BW l = n := by
  obtain ⟨A, c, l, h1, h2, h3, h4, h5⟩ := h
  exact ⟨l, ⟨A, c, h1, h2, h3, h4.ok⟩, h4, h5⟩
theorem Dg.nonneg {w : World} {v : Value} {n : Int} (h : Dg w v n) : 0 ≤ n := by
  obtain ⟨A, c, l, h1, h2, h3, h4, h5⟩ := h
  rw [← h5]
  exact ev_nonneg h4.ok BH_pos
theorem Dg.of_V {w : World} {v : Value} {r : List Int} {n : Int} {e base : Nat} {ok : Nat → Prop} (h : Kd.V (Kd.int .i64) e w base ok v r) (hc : Cn BH r) (he : ev BH r = n) : Dg w v n := by
  obtain ⟨A, c, h1, h2, h3⟩ := h
  exact ⟨A, c, r, h1, h2, Kd.F_now h3, hc, he⟩
theorem Dg.of_R {w : World} {v : Value} {r : List Int} {n : Int} {e base : Nat} {ok : Nat → Prop} (h : Kd.R (Kd.int .i64) e w base ok v r) (hc : Cn BH r) (he : ev BH r = n) : Dg w v n := by
  obtain ⟨A, c, h1, h2, h3⟩ := Kd.R_reads h
  exact ⟨A, c, r, h1, h2, h3, hc, he⟩
/-- What is read is read in every world in which the old blocks are as they were. -/
theorem V_of_C {w : World} {k : IntKind} {A : Option Addr} {c : Nat} {l : List Int} {e base : Nat} (h : Kd.C (Kd.int k) w A l.length l) (hl : l.length ≤ c) : Kd.V (Kd.int k) e w base (fun _ => True) (.slice A l.length c) l := by
  refine Kd.V_mk hl (fun W' hW' => ?_)
  obtain ⟨h1, h2, h3⟩ := h
  refine ⟨h1, h2, fun h0 => ?_⟩
  obtain ⟨ad, e, hc⟩ := h3 h0
  refine ⟨ad, e, fun j p hj => ?_⟩
  obtain ⟨cs, g1, g2, g3⟩ := hc j p hj
  refine ⟨cs, g1, g2, fun i u hu => ?_⟩
  have g4 := g3 i u hu
  have g5 := World.block_lt_of_cell? w _ g4
  rw [← g4]
  exact World.cell?_of_block (hW' _ trivial g5)

/-- A store to a cell that holds no number changes no row of numbers. -/
theorem C_set {w : World} {k : IntKind} {A : Option Addr} {l : List Int} (h : Kd.C (Kd.int k) w A l.length l) {p : Addr} {u : Value} (hu : w.cell? p = some u) (hn : ∀ k x, u ≠ .int k x) (u' : Value) : Kd.C (Kd.int k) (w.setCell p u') A l.length l := by
  obtain ⟨h1, h2, h3⟩ := h
  refine ⟨h1, h2, fun h0 => ?_⟩
  obtain ⟨ad, e, hc⟩ := h3 h0
  refine ⟨ad, e, fun j q hj => ?_⟩
  obtain ⟨cs, g1, g2, g3⟩ := hc j q hj
  refine ⟨cs, g1, g2, fun i v hv => ?_⟩
  have g4 := g3 i v hv
  rw [World.cell?_setCell_other _ _ _ _ ?_]
  · exact g4
  · intro e2
    have g5 : cs = [.int k q] := g2
    rw [g5] at hv
    have hv2 : v = .int k q := by
      cases i with
      | zero => simpa using hv.symm
      | succ i => simp at hv
    rw [← e2, hu, hv2] at g4
    exact hn _ _ (Option.some.inj g4)
theorem Dg.set {w : World} {v : Value} {n : Int} (h : Dg w v n) {p : Addr} {u : Value} (hu : w.cell? p = some u) (hn : ∀ k x, u ≠ .int k x) (u' : Value) : Dg (w.setCell p u') v n := by
  obtain ⟨A, c, l, h1, h2, h3, h4⟩ := h
  exact ⟨A, c, l, h1, h2, C_set h3 hu hn u', h4⟩
theorem Wd.set {w : World} {v : Value} {n : Int} (h : Wd w v n) {p : Addr} {u : Value} (hu : w.cell? p = some u) (hn : ∀ k x, u ≠ .int k x) (u' : Value) : Wd (w.setCell p u') v n := by
  obtain ⟨A, c, l, h1, h2, h3, h4⟩ := h
  exact ⟨A, c, l, h1, h2, C_set h3 hu hn u', h4⟩
theorem Ws.set {w : World} {v : Value} {l : List Int} (h : Ws w v l) {p : Addr} {u : Value} (hu : w.cell? p = some u) (hn : ∀ k x, u ≠ .int k x) (u' : Value) : Ws (w.setCell p u') v l := by
  obtain ⟨A, c, h1, h2, h3, h4⟩ := h
  exact ⟨A, c, h1, h2, C_set h3 hu hn u', h4⟩

/-- A bound on the numbers, far above all that the laws meet. -/
def Lim : Int := BH ^ 100000
theorem Lim_def : Lim = BH ^ 100000 := rfl
attribute [irreducible] Lim
theorem lt_Lim {n : Int} (k : Nat) (h : n < 2 ^ k) (hk : k ≤ 1600000) : n < Lim := by
  have h1 : (2 : Int) ^ k ≤ 2 ^ (16 * 100000) := pow_mono (by omega) (by omega)
  rw [Int.pow_mul, ← BH_two, ← Lim_def] at h1
  omega
theorem Lim_len {l : List Int} (h : Cn BH l) (hl : ev BH l < Lim) : l.length ≤ 100000 := by
  rw [Lim_def] at hl
  exact Cn_len_le h BH_gt _ hl

theorem small_c (n : Int) (h0 : 0 ≤ n) (h1 : n ≤ 1099511627775) (w : World) : Calls Tryz.prog 43 #[.int .i64 n] w fun e w' => ∃ v, e = .returned v ∧ Dg w' v n ∧ Below w.heap.size w w' := by
  obtain ⟨r, ⟨K, hK⟩, hc, he⟩ := small_ev n h0 h1
  refine (spec_Small.calls K n r w (hK K (Nat.le_refl _))).mono ?_
  rintro e w' ⟨v, rfl, hv, hb⟩
  exact ⟨v, rfl, Dg.of_R hv hc he, hb⟩
theorem of_c (v : Value) (l : List Int) (w : World) (h : Ws w v l) (hl : l.length ≤ 1000000) : Calls Tryz.prog 14 #[v] w fun e w' => ∃ v, e = .returned v ∧ Dg w' v (ev BW l) ∧ Below w.heap.size w w' := by
  obtain ⟨A, c, rfl, h2, h3, h4⟩ := h
  obtain ⟨K, hK⟩ := of_ev l (by rw [BW_def] at *; exact h4) (by omega)
  refine (spec_Of.calls K A c l (of16 l) w h3 h2 (hK K (Nat.le_refl _))).mono ?_
  rintro e w' ⟨v, rfl, hv, hb⟩
  exact ⟨v, rfl, Dg.of_V hv (of16_cn l) (of16_ev l h4), hb⟩
theorem cmp_c (v u : Value) (a b : Int) (w : World) (h : Dg w v a) (h' : Dg w u b) (ha : a < Lim) : Calls Tryz.prog 46 #[v, u] w fun e w' => e = .returned (.int .i64 (cmpI a b)) ∧ Below w.heap.size w w' := by
  obtain ⟨A, c, l, rfl, h2, h3, h4, h5⟩ := h
  obtain ⟨A', c', l', rfl, h2', h3', h4', h5'⟩ := h'
  subst h5 h5'
  have := Lim_len h4 ha
  obtain ⟨K, hK⟩ := cmp_ev l l' h4 h4' (by omega)
  refine (spec_Cmp.calls K A c l A' c' l' _ w h3 h2 h3' h2' (hK K (Nat.le_refl _))).mono ?_
  rintro e w' ⟨rfl, hb⟩
  exact ⟨rfl, hb.below⟩
theorem len_c (v : Value) (a : Int) (w : World) (h : Dg w v a) (ha : a < Lim) : Calls Tryz.prog 44 #[v] w fun e w' => ∃ n : Nat, e = .returned (.int .i64 n) ∧ Bits a n ∧ n ≤ 1600000 ∧ Below w.heap.size w w' := by
  obtain ⟨A, c, l, rfl, h2, h3, h4, h5⟩ := h
  subst h5
  have := Lim_len h4 ha
  obtain ⟨n, hn, ⟨K, hK⟩, hle⟩ := len_ev l h4 (by omega)
  refine (spec_Len.calls K A c l _ w h3 h2 (hK K (Nat.le_refl _))).mono ?_
  rintro e w' ⟨rfl, hb⟩
  exact ⟨n, rfl, hn, by omega, hb.below⟩
theorem dig_c (v : Value) (a D : Int) (w : World) (h : Dg w v a) (ha : a < Lim) (hD0 : 0 < D) (hD1 : D < 65536) : Calls Tryz.prog 42 #[v, .int .i64 D] w fun e w' => ∃ v, e = .returned (.tuple #[v, .int .i64 (a % D)]) ∧ Dg w' v (a / D) ∧ Below w.heap.size w w' := by
  obtain ⟨A, c, l, rfl, h2, h3, h4, h5⟩ := h
  subst h5
  have := Lim_len h4 ha
  obtain ⟨q, r, ⟨K, hK⟩, hc, he, r0, r1⟩ := dig_ev l h4 (by omega) D hD0 hD1
  refine (spec_byDigit.calls K A c l D q r w h3 h2 (hK K (Nat.le_refl _))).mono ?_
  rintro e w' ⟨v, rfl, hv, hb⟩
  have e1 : ev BH l / D = ev BH q := by rw [he, Int.add_comm, Int.add_mul_ediv_right _ _ (by omega), Int.ediv_eq_zero_of_lt r0 r1, Int.zero_add]
  have e2 : ev BH l % D = r := by rw [he, Int.add_comm, Int.add_mul_emod_self_right, Int.emod_eq_of_lt r0 r1]
  exact ⟨v, by rw [e2], Dg.of_V hv hc e1.symm, hb⟩
theorem add_c (v u : Value) (a b : Int) (w : World) (h : Dg w v a) (h' : Dg w u b) (ha : a < Lim) (hb : b < Lim) : Calls Tryz.prog 48 #[v, u] w fun e w' => ∃ v, e = .returned v ∧ Dg w' v (a + b) ∧ Below w.heap.size w w' := by
  obtain ⟨A, c, l, rfl, h2, h3, h4, h5⟩ := h
  obtain ⟨A', c', l', rfl, h2', h3', h4', h5'⟩ := h'
  subst h5 h5'
  have := Lim_len h4 ha
  have := Lim_len h4' hb
  obtain ⟨r, ⟨K, hK⟩, hc, he⟩ := add_ev l l' h4.ok h4'.ok (by omega) (by omega)
  refine (spec_Add.calls K A c l A' c' l' r w h3 h2 h3' h2' (hK K (Nat.le_refl _))).mono ?_
  rintro e w' ⟨v, rfl, hv, hb⟩
  exact ⟨v, rfl, Dg.of_V hv hc he, hb⟩
theorem sub_c (v u : Value) (a b : Int) (w : World) (h : Dg w v a) (h' : Dg w u b) (ha : a < Lim) (hb : b ≤ a) : Calls Tryz.prog 47 #[v, u] w fun e w' => ∃ v, e = .returned v ∧ Dg w' v (a - b) ∧ Below w.heap.size w w' := by
  obtain ⟨A, c, l, rfl, h2, h3, h4, h5⟩ := h
  obtain ⟨A', c', l', rfl, h2', h3', h4', h5'⟩ := h'
  subst h5 h5'
  have := Lim_len h4 ha
  obtain ⟨r, ⟨K, hK⟩, hc, he⟩ := sub_ev l l' h4 h4' (by omega) hb
  refine (spec_Sub.calls K A c l A' c' l' r w h3 h2 h3' h2' (hK K (Nat.le_refl _))).mono ?_
  rintro e w' ⟨v, rfl, hv, hb⟩
  exact ⟨v, rfl, Dg.of_V hv hc he, hb⟩
theorem bit_c (n : Int) (h0 : 0 ≤ n) (h1 : n ≤ 1000000000) (w : World) : Calls Tryz.prog 49 #[.int .i64 n] w fun e w' => ∃ v, e = .returned v ∧ Dg w' v (2 ^ n.toNat) ∧ Below w.heap.size w w' := by
  have e : n = ((16 * (n.toNat / 16) + n.toNat % 16 : Nat) : Int) := by omega
  have e2 : 16 * (n.toNat / 16) + n.toNat % 16 = n.toNat := by omega
  have h := bit_any (n.toNat / 16) (n.toNat % 16) (by omega) (by omega) w
  rw [← e, e2] at h
  refine h.mono ?_
  rintro e w' ⟨r, v, rfl, hv, hc, he, hb⟩
  exact ⟨v, rfl, Dg.of_V hv hc he, hb⟩
theorem shl_c (v : Value) (a n : Int) (w : World) (h : Dg w v a) (ha : a < Lim) (h0 : 0 ≤ n) (h1 : n ≤ 1000000000) : Calls Tryz.prog 45 #[v, .int .i64 n] w fun e w' => ∃ v, e = .returned v ∧ Dg w' v (a * 2 ^ n.toNat) ∧ Below w.heap.size w w' := by
  obtain ⟨A, c, l, rfl, h2, h3, h4, h5⟩ := h
  subst h5
  have := Lim_len h4 ha
  have e : n = ((16 * (n.toNat / 16) + n.toNat % 16 : Nat) : Int) := by omega
  have e2 : 16 * (n.toNat / 16) + n.toNat % 16 = n.toNat := by omega
  have h := shl_any (fun _ => True) A c l (n.toNat / 16) (n.toNat % 16) (by omega) (by omega) h4 (by omega) w (V_of_C h3 h2)
  rw [← e, e2] at h
  refine h.mono ?_
  rintro e w' ⟨r, v, rfl, hv, hc, he, hb⟩
  exact ⟨v, rfl, Dg.of_V hv hc he, hb⟩
/-- Words against digits: true just where they are the canonical words of the number. -/
theorem has_c (v u : Value) (x : List Int) (n : Int) (w : World) (h : Ws w v x) (h' : Dg w u n) (hn : n < Lim) : Calls Tryz.prog 27 #[v, u] w fun e w' => ∃ b, e = .returned (.bool b) ∧ (b = true ↔ Cn BW x ∧ ev BW x = n) ∧ Below w.heap.size w w' := by
  obtain ⟨A, c, rfl, h2, h3, h4⟩ := h
  obtain ⟨A', c', l', rfl, h2', h3', h4', h5'⟩ := h'
  subst h5'
  have := Lim_len h4' hn
  obtain ⟨r, hc, he, ⟨K, hK⟩⟩ := has_ev x l' h4' (by omega)
  refine (spec_HasWords.calls K A c x A' c' l' _ w h3 h2 h3' h2' (hK K (Nat.le_refl _))).mono ?_
  rintro e w' ⟨rfl, hb⟩
  refine ⟨_, rfl, ?_, hb⟩
  rw [decide_eq_true_iff]
  constructor
  · rintro rfl
    exact ⟨hc, he⟩
  · rintro ⟨k1, k2⟩
    exact Cn_inj k1 hc BW_pos (k2.trans he.symm)
end Go.Proofs.YtgpgacnnkjiadaaGreatDoor.Sp
end
