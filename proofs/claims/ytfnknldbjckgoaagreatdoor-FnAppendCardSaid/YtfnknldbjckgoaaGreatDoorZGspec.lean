/-
  MERGED BY PROGRAM (regroup.py): SpecA, SpecB, SpecC, SBit, NatC.
-/
import Derived.Test.YtfnknldbjckgoaaGreatDoorZBase
import Derived.Test.YtfnknldbjckgoaaGreatDoorZSpAll
/-! ## SpecA -/
section
namespace Go.Proofs.YtfnknldbjckgoaaGreatDoor.Sp
open Go.RowKit Go.Proofs.YtfnknldbjckgoaaGreatDoorW.PrintWords Go.Proofs.YtfnknldbjckgoaaGreatDoorW.PrintLast Go.Proofs.YtfnknldbjckgoaaGreatDoorW.PrintMore Go.Proofs.YtfnknldbjckgoaaGreatDoor.Dig
set_option linter.unusedVariables false
set_option linter.unusedSimpArgs false

theorem w64 {i : Int} (h0 : -9223372036854775808 ≤ i) (h1 : i ≤ 9223372036854775807) : wrap64 i = i := by
  unfold wrap64
  omega
theorem rd_snoc (l : List Int) (d : Int) : rd (l ++ [d]) (l.length : Int) = d := by
  simp [rd, List.getD]
theorem rd_nat (l : List Int) (i : Nat) : rd l (i : Int) = l.getD i 0 := by simp [rd]

theorem trim_l (l : List Int) (hl : l.length < 4611686018427387904) : ∀ k, l.length < k → spec_trim.l0 k l = some (strip l) := by
  obtain ⟨n, hn⟩ : ∃ n, l.length = n := ⟨_, rfl⟩
  induction n generalizing l with
  | zero =>
    have : l = [] := List.eq_nil_of_length_eq_zero hn
    subst this
    intro k hk
    obtain ⟨k, rfl⟩ : ∃ m, k = m + 1 := ⟨k - 1, by omega⟩
    simp only [spec_trim.l0]
    rw [if_neg (by simp)]
    rfl
  | succ n ih =>
    intro k hk
    obtain ⟨k, rfl⟩ : ∃ m, k = m + 1 := ⟨k - 1, by omega⟩
    have h0 : l ≠ [] := by intro e; subst e; simp at hn
    obtain ⟨m, d, rfl⟩ : ∃ m d, l = m ++ [d] := ⟨l.dropLast, l.getLast h0, (List.dropLast_concat_getLast h0).symm⟩
    have hm : m.length = n := by simpa using hn
    have hw : wrap64 (((m ++ [d]).length : Int) - 1) = (m.length : Int) := by rw [w64 (by simp <;> omega) (by simp <;> omega)]; simp
    simp only [spec_trim.l0]
    rw [hw, if_pos (by simp <;> omega), if_pos (by omega), if_pos (by simp <;> omega), rd_snoc, strip_snoc]
    by_cases hd : d = 0
    · rw [if_pos hd, if_pos (by simp <;> omega), if_pos hd]
      simp only [Int.toNat_natCast, List.take_left]
      exact ih m (by omega) hm k (by omega)
    · rw [if_neg hd, if_neg hd]
/-- The four digits to the base 65536 of a word. -/
def four (x : Int) : List Int := [x % 65536, x / 65536 % 65536, x / 4294967296 % 65536, x / 281474976710656 % 65536]
def fours (l : List Int) : List Int := l.flatMap four
theorem four_ev (x : Int) (h0 : 0 ≤ x) (h1 : x < 18446744073709551616) : ev BH (four x) = x := by
  simp only [four, ev, BH_def]
  omega
theorem four_ok (x : Int) : okd BH (four x) := by
  intro d hd
  rw [BH_def]
  simp only [four, List.mem_cons, List.not_mem_nil, or_false] at hd
  rcases hd with h | h | h | h <;> subst h <;> omega
theorem fours_ok (l : List Int) : okd BH (fours l) := by
  intro d hd
  obtain ⟨x, _, h⟩ := List.mem_flatMap.1 hd
  exact four_ok x d h
theorem fours_ev (l : List Int) (h : okd BW l) : ev BH (fours l) = ev BW l := by
  induction l with
  | nil => simp [fours, ev_nil]
  | cons x l ih =>
    obtain ⟨hx, hl⟩ := okd_cons.1 h
    show ev BH (four x ++ fours l) = _
    rw [ev_append, four_ev x hx.1 (by rw [← BW_def]; exact hx.2), ih hl, ev_cons, BW_BH]
    rfl
theorem fours_len (l : List Int) : (fours l).length = 4 * l.length := by
  induction l with
  | nil => rfl
  | cons x l ih =>
    show (four x ++ fours l).length = _
    rw [List.length_append, ih]
    simp [four]
    omega
/-- The digits of a number that is told in words. -/
def of16 (l : List Int) : List Int := strip (fours l)
theorem of16_cn (l : List Int) : Cn BH (of16 l) := (strip_cn _ (fours_ok l)).1
theorem of16_ev (l : List Int) (h : okd BW l) : ev BH (of16 l) = ev BW l := by
  rw [of16, (strip_cn _ (fours_ok l)).2.1, fours_ev l h]
theorem and16 (x : Int) (h0 : 0 ≤ x) (h1 : x < 18446744073709551616) : wrap64 (Go.bits .and .u64 x 65535) = x % 65536 := by
  have h := bits_mask .u64 64 (by decide) (fun n h0 h1 => by rw [IntKind.wrap_u64]; exact Int.emod_eq_of_lt h0 (by simpa using h1)) 16 (by decide) x h0 (by simpa using h1)
  have h2 : Go.bits .and .u64 x 65535 = x % 65536 := by simpa using h
  rw [h2, w64 (by omega) (by omega)]
theorem shr_u64 (x : Int) (i : Nat) (hi : i ≤ 64) : shr .u64 x (i : Int) = x / 2 ^ i := by
  unfold shr
  simp only [IntKind.bits, Int.toNat_natCast]
  rw [Nat.min_eq_left hi]
theorem of_l1_step (x : Int) (ws : List Int) (n i : Int) (k : Nat) (acc : List Int) (j d : Int) (hj0 : 0 ≤ j) (hj1 : j < 4) (hacc : acc.length < 17592186044416) (hd : wrap64 (Go.bits .and .u64 (shr .u64 x (16 * j)) 65535) = d) :
    spec_Of.l1 (k + 1) acc x j ws n i = spec_Of.l1 k (acc ++ [d]) x (j + 1) ws n i := by
  have u1 : wrap64 (16 * j) = 16 * j := w64 (by omega) (by omega)
  have u2 : wrap64 (j + 1) = j + 1 := w64 (by omega) (by omega)
  simp only [spec_Of.l1]
  rw [u1, u2, if_pos hj1, if_pos (by omega), if_pos hacc, hd]
theorem of_l1_end (x : Int) (ws : List Int) (n i : Int) (k : Nat) (acc : List Int) : spec_Of.l1 (k + 1) acc x 4 ws n i = spec_Of.l0 k acc ws n (wrap64 (i + 1)) := by
  simp only [spec_Of.l1]
  rw [if_neg (by omega)]
theorem of_e (x : Int) (h0 : 0 ≤ x) (h1 : x < 18446744073709551616) (j : Nat) (hj : j ≤ 64) : wrap64 (Go.bits .and .u64 (shr .u64 x (j : Int)) 65535) = x / 2 ^ j % 65536 := by
  have hp : (0 : Int) < 2 ^ j := Int.pow_pos (by omega)
  have h2 : x / 2 ^ j ≤ x := Int.ediv_le_self _ h0
  have h3 : 0 ≤ x / 2 ^ j := Int.ediv_nonneg h0 (Int.le_of_lt hp)
  rw [shr_u64 x j hj, and16 _ h3 (by omega)]
theorem of_l1 (x : Int) (h0 : 0 ≤ x) (h1 : x < 18446744073709551616) (ws acc : List Int) (n i : Int) (ha : acc.length + 4 < 17592186044416) (k : Nat) :
    spec_Of.l1 (k + 1 + 1 + 1 + 1 + 1) acc x 0 ws n i = spec_Of.l0 k (acc ++ four x) ws n (wrap64 (i + 1)) := by
  have e0 := of_e x h0 h1 0 (by omega)
  have e1 := of_e x h0 h1 16 (by omega)
  have e2 := of_e x h0 h1 32 (by omega)
  have e3 := of_e x h0 h1 48 (by omega)
  have f : acc ++ four x = acc ++ [x / 2 ^ 0 % 65536] ++ [x / 2 ^ 16 % 65536] ++ [x / 2 ^ 32 % 65536] ++ [x / 2 ^ 48 % 65536] := by simp [four]
  rw [f, ← of_l1_end]
  exact (of_l1_step x ws n i _ acc 0 _ (by omega) (by omega) (by omega) e0).trans ((of_l1_step x ws n i _ _ 1 _ (by omega) (by omega) (by simp; omega) e1).trans
    ((of_l1_step x ws n i _ _ 2 _ (by omega) (by omega) (by simp; omega) e2).trans (of_l1_step x ws n i _ _ 3 _ (by omega) (by omega) (by simp; omega) e3)))
theorem of_l0 (ws : List Int) (hw : okd BW ws) (hl : ws.length < 1099511627776) (d : Nat) : ∀ (i : Nat) (acc : List Int), i + d = ws.length → acc = fours (ws.take i) →
    ∀ k, 6 * d + (4 * ws.length + 2) ≤ k → spec_Of.l0 k acc ws ws.length i = some (of16 ws) := by
  induction d with
  | zero =>
    intro i acc hi ha k hk
    obtain ⟨k, rfl⟩ : ∃ m, k = m + 1 := ⟨k - 1, by omega⟩
    simp only [spec_Of.l0]
    have hi' : i = ws.length := by omega
    subst hi'
    rw [if_neg (by omega), ha, List.take_length]
    show (spec_trim.l0 k (fours ws)).bind _ = _
    rw [trim_l _ (by rw [fours_len]; omega) k (by rw [fours_len]; omega)]
    rfl
  | succ d ih =>
    intro i acc hi ha k hk
    obtain ⟨k, rfl⟩ : ∃ m, k = m + 1 + 1 + 1 + 1 + 1 + 1 := ⟨k - 6, by omega⟩
    simp only [spec_Of.l0]
    rw [if_pos (by omega), if_pos (by omega), if_pos (by omega), rd_nat]
    have hx := okd_get hw BW_pos i
    rw [BW_def] at hx
    rw [of_l1 _ hx.1 hx.2 _ _ _ _ (by rw [ha, fours_len, List.length_take]; omega), w64 (by omega) (by omega), show ((i : Int) + 1) = ((i + 1 : Nat) : Int) by omega]
    refine ih (i + 1) _ (by omega) ?_ k (by omega)
    have : ws.take (i + 1) = ws.take i ++ [ws.getD i 0] := by
      rw [List.take_succ_eq_append_getElem (by omega)]
      simp [List.getD, List.getElem?_eq_getElem (show i < ws.length by omega)]
    rw [this, ha]
    simp [fours]
theorem of_ev (ws : List Int) (hw : okd BW ws) (hl : ws.length < 1099511627776) : Ev (fun k => spec_Of.f k ws) (of16 ws) :=
  ⟨6 * ws.length + (4 * ws.length + 2), fun k hk => of_l0 ws hw hl ws.length 0 [] (by omega) rfl k hk⟩

end Go.Proofs.YtfnknldbjckgoaaGreatDoor.Sp
end

/-! ## SpecB -/
section
namespace Go.Proofs.YtfnknldbjckgoaaGreatDoor.Sp
open Go.RowKit Go.Proofs.YtfnknldbjckgoaaGreatDoorW.PrintWords Go.Proofs.YtfnknldbjckgoaaGreatDoorW.PrintLast Go.Proofs.YtfnknldbjckgoaaGreatDoorW.PrintMore Go.Proofs.YtfnknldbjckgoaaGreatDoor.Dig
set_option linter.unusedVariables false
set_option linter.unusedSimpArgs false

theorem pow16 (q : Nat) : BH ^ (4 * q) = BW ^ q := by rw [Int.pow_mul, BW_BH]
theorem wrap_u64 {n : Int} (h0 : 0 ≤ n) (h1 : n < 18446744073709551616) : IntKind.u64.wrap n = n := by
  rw [IntKind.wrap_u64]
  omega
theorem or64_comm (x y : Int) (h0 : 0 ≤ x) (h1 : x < 18446744073709551616) (h2 : 0 ≤ y) (h3 : y < 18446744073709551616) : Go.bits .or .u64 x y = Go.bits .or .u64 y x := by
  rw [u64_or x y h0 h1 h2 h3, u64_or y x h2 h3 h0 h1, Nat.or_comm]
/-- A high part is laid over a low one. -/
theorem or64_join (i : Nat) (x y : Int) (hx0 : 0 ≤ x) (hx : x % 2 ^ i = 0) (hx1 : x < 18446744073709551616) (hy0 : 0 ≤ y) (hy : y < 2 ^ i) (hy1 : y < 18446744073709551616) : Go.bits .or .u64 y x = y + x := by
  rw [or64_comm y x hy0 hy1 hx0 hx1, bits_join .u64 64 (by decide) (fun n h0 h1 => wrap_u64 h0 (by simpa using h1)) i x y hx0 hx (by simpa using hx1) hy0 hy (by simpa using hy1)]
  omega
end Go.Proofs.YtfnknldbjckgoaaGreatDoor.Sp
end

/-! ## SpecC -/
section
namespace Go.Proofs.YtfnknldbjckgoaaGreatDoor.Sp
open Go.RowKit Go.Proofs.YtfnknldbjckgoaaGreatDoorW.PrintWords Go.Proofs.YtfnknldbjckgoaaGreatDoorW.PrintLast Go.Proofs.YtfnknldbjckgoaaGreatDoorW.PrintMore Go.Proofs.YtfnknldbjckgoaaGreatDoor.Dig
set_option linter.unusedVariables false
set_option linter.unusedSimpArgs false

theorem drop_cons (l : List Int) (i : Nat) (h : i < l.length) : l.drop i = l.getD i 0 :: l.drop (i + 1) := by
  rw [List.drop_eq_getElem_cons h]
  simp [List.getD, List.getElem?_eq_getElem h]
theorem ev_mid (b : Int) (l : List Int) (i : Nat) (h : i < l.length) : ev b l = ev b (l.take i) + b ^ i * (l.getD i 0 + b * ev b (l.drop (i + 1))) := by
  rw [ev_split b l i (by omega), drop_cons l i h, ev_cons]
theorem ev_take_lt {b : Int} {l : List Int} (h : okd b l) (hb : 0 < b) (i : Nat) (hi : i ≤ l.length) : 0 ≤ ev b (l.take i) ∧ ev b (l.take i) < b ^ i := by
  have h1 := ev_lt (okd_take h i) hb
  rw [List.length_take, Nat.min_eq_left hi] at h1
  exact ⟨ev_nonneg (okd_take h i) hb, h1⟩

/-! ### Cmp -/
/-! ### Len -/
/-- v has n bits. -/
def Bits (v : Int) (n : Nat) : Prop := 0 ≤ v ∧ v < 2 ^ n ∧ (n = 0 ∨ 2 ^ (n - 1) ≤ v)
theorem Bits.zero : Bits 0 0 := ⟨by omega, by decide, .inl rfl⟩
theorem Bits.le {v : Int} {n m : Nat} (h : Bits v n) (hm : v < 2 ^ m) : n ≤ m := by
  rcases h.2.2 with h0 | h0
  · omega
  · rcases Nat.lt_or_ge m n with h1 | h1
    · exfalso
      have h2 : (2 : Int) ^ m ≤ 2 ^ (n - 1) := pow_mono (by omega) (by omega)
      omega
    · exact h1
theorem Bits.uniq {v : Int} {n m : Nat} (h : Bits v n) (h' : Bits v m) : n = m := by
  have := h.le h'.2.1
  have := h'.le h.2.1
  omega
theorem Bits.pos {v : Int} {n : Nat} (h : Bits v n) (hv : 0 < v) : 0 < n := by
  rcases Nat.eq_zero_or_pos n with h0 | h0
  · subst h0
    have := h.2.1
    simp at this
    omega
  · exact h0
theorem Bits.exists (v : Int) (h : 0 ≤ v) : ∃ n, Bits v n := by
  obtain ⟨m, rfl⟩ := Int.eq_ofNat_of_zero_le h
  by_cases h0 : m = 0
  · subst h0; exact ⟨0, Bits.zero⟩
  · refine ⟨Nat.log2 m + 1, by omega, ?_, .inr ?_⟩
    · have := (Nat.log2_lt h0).1 (Nat.lt_succ_self (Nat.log2 m))
      exact_mod_cast this
    · have := (Nat.le_log2 h0).1 (Nat.le_refl _)
      simpa using (by exact_mod_cast this : ((2 ^ Nat.log2 m : Nat) : Int) ≤ m)
theorem Bits.half {v : Int} {n : Nat} (h : Bits v n) (hv : 0 < v) : Bits (v / 2) (n - 1) := by
  have hn := h.pos hv
  obtain ⟨n, rfl⟩ : ∃ m, n = m + 1 := ⟨n - 1, by omega⟩
  obtain ⟨h0, h1, h2⟩ := h
  rw [Int.pow_succ] at h1
  refine ⟨by omega, by simp only [Nat.add_sub_cancel]; omega, ?_⟩
  rcases Nat.eq_zero_or_pos n with hz | hz
  · exact .inl (by omega)
  · refine .inr ?_
    obtain ⟨n, rfl⟩ : ∃ m, n = m + 1 := ⟨n - 1, by omega⟩
    rcases h2 with h2 | h2
    · omega
    · simp only [Nat.add_sub_cancel] at h2 ⊢
      rw [Int.pow_succ] at h2
      omega
theorem len_l (n : Nat) : ∀ (v m : Int), Bits v n → 0 ≤ m → m + n ≤ 4611686018427387904 → v < 65536 → ∀ k, n < k → spec_Len.l0 k m v = some (m + n) := by
  induction n with
  | zero =>
    intro v m hv hm0 hm hv2 k hk
    obtain ⟨k, rfl⟩ : ∃ m, k = m + 1 := ⟨k - 1, by omega⟩
    have h1 := hv.2.1
    simp only [spec_Len.l0]
    rw [if_neg (by simp at h1; omega)]
    simp
  | succ n ih =>
    intro v m hv hm0 hm hv2 k hk
    obtain ⟨k, rfl⟩ : ∃ m, k = m + 1 := ⟨k - 1, by omega⟩
    have hp : 0 < v := by
      rcases hv.2.2 with h | h
      · omega
      · have : (0 : Int) < 2 ^ (n + 1 - 1) := Int.pow_pos (by omega)
        omega
    have e1 : wrap64 (m + 1) = m + 1 := w64 (by omega) (by omega)
    have e2 : wrap64 (v / 2) = v / 2 := w64 (by omega) (by omega)
    simp only [spec_Len.l0]
    rw [if_pos hp, Int.tdiv_eq_ediv_of_nonneg (by omega), e1, e2]
    rw [ih (v / 2) (m + 1) (by simpa using hv.half hp) (by omega) (by omega) (by omega) k (by omega)]
    congr 1
    omega
theorem len_top (l : List Int) (hl : Cn BH l) (t : Nat) (h0 : l ≠ []) (ht : Bits (l.getD (l.length - 1) 0) t) : Bits (ev BH l) (16 * (l.length - 1) + t) := by
  have hn : 0 < l.length := List.length_pos_iff.2 h0
  have h1 := ev_mid BH l (l.length - 1) (by omega)
  have h2 := ev_take_lt hl.ok BH_pos (l.length - 1) (by omega)
  rw [show l.length - 1 + 1 = l.length by omega, List.drop_length, ev_nil, Int.mul_zero, Int.add_zero] at h1
  have hg : 0 < l.getD (l.length - 1) 0 := by
    have h3 := okd_get hl.ok BH_pos (l.length - 1)
    have h4 := hl.top (l.getD (l.length - 1) 0) (by rw [List.getLast?_eq_getElem?, List.getD_eq_getElem?_getD, List.getElem?_eq_getElem (by omega)]; rfl)
    omega
  have ht0 := ht.pos hg
  have e : BH ^ (l.length - 1) = 2 ^ (16 * (l.length - 1)) := by rw [Int.pow_mul, BH_two]
  rw [e] at h1 h2
  have hp : (0 : Int) < 2 ^ (16 * (l.length - 1)) := Int.pow_pos (by omega)
  refine ⟨ev_nonneg hl.ok BH_pos, ?_, .inr ?_⟩
  · rw [Int.pow_add]
    have h5 : (2 : Int) ^ (16 * (l.length - 1)) * (l.getD (l.length - 1) 0 + 1) ≤ 2 ^ (16 * (l.length - 1)) * 2 ^ t := Int.mul_le_mul_of_nonneg_left (by have := ht.2.1; omega) (Int.le_of_lt hp)
    rw [Int.mul_add, Int.mul_one] at h5
    omega
  · rw [show 16 * (l.length - 1) + t - 1 = 16 * (l.length - 1) + (t - 1) by omega, Int.pow_add]
    have ht2 : (2 : Int) ^ (t - 1) ≤ l.getD (l.length - 1) 0 := by
      rcases ht.2.2 with h | h
      · omega
      · exact h
    have h5 : (2 : Int) ^ (16 * (l.length - 1)) * 2 ^ (t - 1) ≤ 2 ^ (16 * (l.length - 1)) * l.getD (l.length - 1) 0 := Int.mul_le_mul_of_nonneg_left ht2 (Int.le_of_lt hp)
    omega
theorem len_ev (l : List Int) (hl : Cn BH l) (hlen : l.length < 1099511627776) : ∃ n : Nat, Bits (ev BH l) n ∧ Ev (fun k => spec_Len.f k l) (n : Int) ∧ n ≤ 16 * l.length := by
  by_cases h0 : l = []
  · subst h0
    exact ⟨0, by rw [ev_nil]; exact Bits.zero, ⟨0, fun k _ => rfl⟩, by simp⟩
  · have hn : 0 < l.length := List.length_pos_iff.2 h0
    have hg := okd_get hl.ok BH_pos (l.length - 1)
    rw [BH_def] at hg
    obtain ⟨t, ht⟩ := Bits.exists _ hg.1
    have ht16 := ht.le (m := 16) (by simpa using hg.2)
    refine ⟨16 * (l.length - 1) + t, len_top l hl t h0 ht, ⟨t + 1, fun k hk => ?_⟩, by omega⟩
    have e1 : wrap64 ((l.length : Int) - 1) = ((l.length - 1 : Nat) : Int) := by rw [w64 (by omega) (by omega)]; omega
    have e2 : wrap64 (16 * ((l.length - 1 : Nat) : Int)) = 16 * ((l.length - 1 : Nat) : Int) := w64 (by omega) (by omega)
    show (if (l.length : Int) = 0 then some 0 else (if 0 ≤ (wrap64 ((l.length : Int) - 1)) then (if (wrap64 ((l.length : Int) - 1)) < (l.length : Int) then (spec_Len.l0 k (wrap64 (16 * (wrap64 ((l.length : Int) - 1)))) (rd l (wrap64 ((l.length : Int) - 1)))) else none) else none)) = _
    rw [e1, e2, if_neg (by omega), if_pos (by omega), if_pos (by omega), rd_nat, len_l t _ _ ht (by omega) (by omega) hg.2 k (by omega)]
    congr 1 <;> omega

/-! ### Add -/
/-! ### Sub -/
end Go.Proofs.YtfnknldbjckgoaaGreatDoor.Sp
end

/-! ## SBit -/
section
namespace Go.Proofs.YtfnknldbjckgoaaGreatDoor.Sp
open Go.RowKit Go.Proofs.YtfnknldbjckgoaaGreatDoorW.PrintWords Go.Proofs.YtfnknldbjckgoaaGreatDoorW.PrintLast Go.Proofs.YtfnknldbjckgoaaGreatDoorW.PrintMore Go.Proofs.YtfnknldbjckgoaaGreatDoor.Dig
set_option linter.unusedVariables false
set_option linter.unusedSimpArgs false

theorem madeCells_one (z : Value) (n : Nat) : madeCells #[z] n = Array.replicate n z := by
  apply Array.ext
  · simp [madeCells]
  · intro i h1 h2
    simp [madeCells, Nat.mod_one]
theorem make_ints (t e : TypeId) (k : IntKind) (bytes : Nat) (ht : Tryz.prog.underlying t = some (.slice e)) (hinfo : (Tryz.prog.info? e).map (fun i => (i.zero, i.size, i.bytes)) = some (some (.int k 0), 1, bytes)) (hb : 0 < bytes) (n m : Int) (h0 : 0 ≤ n) (hnm : n ≤ m) (hm : m.toNat * bytes ≤ 281474976710656) (W : World) :
    (Instr.makeSlice t (.int .i64 n) (.int .i64 m)).run Tryz.prog W = .ok (.slice (some ⟨W.heap.size, 0, none⟩) n.toNat m.toNat) (W.alloc (.cells (Array.replicate m.toNat (.int k 0)) e)) := by
  obtain ⟨i0, hi, hz0, hz1, hz2⟩ := info_parts hinfo
  obtain ⟨n, rfl⟩ := Int.eq_ofNat_of_zero_le h0
  obtain ⟨m, rfl⟩ := Int.eq_ofNat_of_zero_le (show 0 ≤ m by omega)
  have h1 : m ≤ 281474976710656 := Nat.le_trans (Nat.le_mul_of_pos_right _ hb) (by rw [Int.toNat_natCast] at hm; exact hm)
  have h := run_make (P := Tryz.prog) W t e i0 (.int k 0) ht hi hz0 .i64 .i64 n m (by omega) (by omega) (by rw [hz2, Int.mul_comm, ← Int.natCast_mul]; rw [Int.toNat_natCast] at hm; omega) (by omega)
  rw [h, hz1, Nat.mul_one, show (Value.int k 0).cells = #[.int k 0] from rfl, madeCells_one]

end Go.Proofs.YtfnknldbjckgoaaGreatDoor.Sp
end

/-! ## NatC -/
section
namespace Go.Proofs.YtfnknldbjckgoaaGreatDoor.Sp
open Go.RowKit Go.Proofs.YtfnknldbjckgoaaGreatDoorW.PrintWords Go.Proofs.YtfnknldbjckgoaaGreatDoorW.PrintLast Go.Proofs.YtfnknldbjckgoaaGreatDoorW.PrintMore Go.Proofs.YtfnknldbjckgoaaGreatDoor.Dig
set_option linter.unusedVariables false
set_option linter.unusedSimpArgs false

/-- The slice v reads as the digits (to the base 65536, canonical) of n. -/
def Dg (w : World) (v : Value) (n : Int) : Prop := ∃ A c l, v = .slice A l.length c ∧ l.length ≤ c ∧ Kd.C (Kd.int .i64) w A l.length l ∧ Cn BH l ∧ ev BH l = n
/-- The slice v reads as the words (to the base 2^64, canonical) of n. -/
def Wd (w : World) (v : Value) (n : Int) : Prop := ∃ A c l, v = .slice A l.length c ∧ l.length ≤ c ∧ Kd.C (Kd.int .u64) w A l.length l ∧ Cn BW l ∧ ev BW l = n
/-- The slice v reads as words l (whatever they are). -/
def Ws (w : World) (v : Value) (l : List Int) : Prop := ∃ A c, v = .slice A l.length c ∧ l.length ≤ c ∧ Kd.C (Kd.int .u64) w A l.length l ∧ okd BW l
theorem Dg.below {w w1 : World} {v : Value} {n : Int} (h : Dg w v n) (hb : Below w.heap.size w w1) : Dg w1 v n := by
  obtain ⟨A, c, l, h1, h2, h3, h4⟩ := h
  exact ⟨A, c, l, h1, h2, Kd.C_below h3 hb, h4⟩
theorem Wd.below {w w1 : World} {v : Value} {n : Int} (h : Wd w v n) (hb : Below w.heap.size w w1) : Wd w1 v n := by
  obtain ⟨A, c, l, h1, h2, h3, h4⟩ := h
  exact ⟨A, c, l, h1, h2, Kd.C_below h3 hb, h4⟩
theorem Ws.below {w w1 : World} {v : Value} {l : List Int} (h : Ws w v l) (hb : Below w.heap.size w w1) : Ws w1 v l := by
  obtain ⟨A, c, h1, h2, h3, h4⟩ := h
  exact ⟨A, c, h1, h2, Kd.C_below h3 hb, h4⟩
theorem Dg.slice {w : World} {v : Value} {n : Int} (h : Dg w v n) : ∃ A m c, v = .slice A m c := by
  obtain ⟨A, c, l, h1, _⟩ := h
  exact ⟨A, _, c, h1⟩
theorem Wd.ws {w : World} {v : Value} {n : Int} (h : Wd w v n) : ∃ l, Ws w v l ∧ Cn BW l ∧ ev BW l = n := by
  obtain ⟨A, c, l, h1, h2, h3, h4, h5⟩ := h
  exact ⟨l, ⟨A, c, h1, h2, h3, h4.ok⟩, h4, h5⟩
theorem Dg.of_V {w : World} {v : Value} {r : List Int} {n : Int} {e base : Nat} {ok : Nat → Prop} (h : Kd.V (Kd.int .i64) e w base ok v r) (hc : Cn BH r) (he : ev BH r = n) : Dg w v n := by
  obtain ⟨A, c, h1, h2, h3⟩ := h
  exact ⟨A, c, r, h1, h2, Kd.F_now h3, hc, he⟩
/-- A store to a cell that holds no number changes no row of numbers. -/
theorem C_set {w : World} {k : IntKind} {A : Option Addr} {l : List Int} (h : Kd.C (Kd.int k) w A l.length l) {p : Addr} {u : Value} (hu : w.cell? p = some u) (hn : ∀ k x, u ≠ .int k x) (u' : Value) : Kd.C (Kd.int k) (w.setCell p u') A l.length l := by
  obtain ⟨h1, h2, h3⟩ := h
  refine ⟨h1, h2, fun h0 => ?_⟩
  obtain ⟨ad, e, hc⟩ := h3 h0
  refine ⟨ad, e, fun j q hj => ?_⟩
  obtain ⟨cs, g1, g2, g3⟩ := hc j q hj
  refine ⟨cs, g1, g2, fun i v hv => ?_⟩
  have g4 := g3 i v hv
  rw [World.cell?_setCell_other _ _ _ _ ?_]
  · exact g4
  · intro e2
    have g5 : cs = [.int k q] := g2
    rw [g5] at hv
    have hv2 : v = .int k q := by
      cases i with
      | zero => simpa using hv.symm
      | succ i => simp at hv
    rw [← e2, hu, hv2] at g4
    exact hn _ _ (Option.some.inj g4)
theorem Dg.set {w : World} {v : Value} {n : Int} (h : Dg w v n) {p : Addr} {u : Value} (hu : w.cell? p = some u) (hn : ∀ k x, u ≠ .int k x) (u' : Value) : Dg (w.setCell p u') v n := by
  obtain ⟨A, c, l, h1, h2, h3, h4⟩ := h
  exact ⟨A, c, l, h1, h2, C_set h3 hu hn u', h4⟩
theorem Wd.set {w : World} {v : Value} {n : Int} (h : Wd w v n) {p : Addr} {u : Value} (hu : w.cell? p = some u) (hn : ∀ k x, u ≠ .int k x) (u' : Value) : Wd (w.setCell p u') v n := by
  obtain ⟨A, c, l, h1, h2, h3, h4⟩ := h
  exact ⟨A, c, l, h1, h2, C_set h3 hu hn u', h4⟩
theorem Ws.set {w : World} {v : Value} {l : List Int} (h : Ws w v l) {p : Addr} {u : Value} (hu : w.cell? p = some u) (hn : ∀ k x, u ≠ .int k x) (u' : Value) : Ws (w.setCell p u') v l := by
  obtain ⟨A, c, h1, h2, h3, h4⟩ := h
  exact ⟨A, c, h1, h2, C_set h3 hu hn u', h4⟩

/-- A bound on the numbers, far above all that the laws meet. -/
def Lim : Int := BH ^ 100000
theorem Lim_def : Lim = BH ^ 100000 := rfl
attribute [irreducible] Lim
theorem lt_Lim {n : Int} (k : Nat) (h : n < 2 ^ k) (hk : k ≤ 1600000) : n < Lim := by
  have h1 : (2 : Int) ^ k ≤ 2 ^ (16 * 100000) := pow_mono (by omega) (by omega)
  rw [Int.pow_mul, ← BH_two, ← Lim_def] at h1
  omega
theorem Lim_len {l : List Int} (h : Cn BH l) (hl : ev BH l < Lim) : l.length ≤ 100000 := by
  rw [Lim_def] at hl
  exact Cn_len_le h BH_gt _ hl

theorem len_c (v : Value) (a : Int) (w : World) (h : Dg w v a) (ha : a < Lim) : Calls Tryz.prog 16 #[v] w fun e w' => ∃ n : Nat, e = .returned (.int .i64 n) ∧ Bits a n ∧ n ≤ 1600000 ∧ Below w.heap.size w w' := by
  obtain ⟨A, c, l, rfl, h2, h3, h4, h5⟩ := h
  subst h5
  have := Lim_len h4 ha
  obtain ⟨n, hn, ⟨K, hK⟩, hle⟩ := len_ev l h4 (by omega)
  refine (spec_Len.calls K A c l _ w h3 h2 (hK K (Nat.le_refl _))).mono ?_
  rintro e w' ⟨rfl, hb⟩
  exact ⟨n, rfl, hn, by omega, hb.below⟩
end Go.Proofs.YtfnknldbjckgoaaGreatDoor.Sp
end
