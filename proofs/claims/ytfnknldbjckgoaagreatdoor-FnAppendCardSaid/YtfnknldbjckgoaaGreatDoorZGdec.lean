/-
  MERGED BY PROGRAM (regroup.py): DecP, DecQ.
-/
import Derived.RowKit
/-! ## DecP -/
section
namespace Go.Proofs.YtfnknldbjckgoaaGreatDoor.Dig
set_option linter.unusedVariables false

/-! ### figures -/
/-- The sign of a figure (bases up to 16). -/
def fig (d : Nat) : Int := if d < 10 then 48 + (d : Int) else 87 + (d : Int)
/-- The lowest k figures of n to the base b, the highest first. -/
def lows (b : Nat) : Nat → Nat → List Int
  | 0, _ => []
  | k + 1, n => lows b k (n / b) ++ [fig (n % b)]
/-- Without the noughts ahead. -/
def lz : List Int → List Int
  | [] => []
  | c :: l => if c = 48 then lz l else c :: l
/-- The figures of n (none of 0). -/
def figs (b n : Nat) : List Int := lz (lows b (n.log2 + 1) n)
theorem lows_len (b k n : Nat) : (lows b k n).length = k := by
  induction k generalizing n with
  | zero => rfl
  | succ k ih => simp [lows, ih]
theorem lows_split (b j k n : Nat) : lows b (j + k) n = lows b j (n / b ^ k) ++ lows b k n := by
  induction k generalizing n with
  | zero => simp [lows]
  | succ k ih =>
    rw [← Nat.add_assoc, lows, ih, lows, ← List.append_assoc, Nat.div_div_eq_div_mul, Nat.pow_succ, Nat.mul_comm]
theorem lows_zero (b k : Nat) : lows b k 0 = List.replicate k 48 := by
  induction k with
  | zero => rfl
  | succ k ih => rw [lows, Nat.zero_div, ih, Nat.zero_mod, List.replicate_succ']; rfl
theorem lz_rep (k : Nat) (l : List Int) : lz (List.replicate k 48 ++ l) = lz l := by
  induction k with
  | zero => rfl
  | succ k ih => rw [List.replicate_succ, List.cons_append, lz, if_pos rfl, ih]
theorem lz_pad (b j k n : Nat) (h : n < b ^ k) : lz (lows b (j + k) n) = lz (lows b k n) := by
  rw [lows_split, Nat.div_eq_of_lt h, lows_zero, lz_rep]
theorem lt_pow_log (b n : Nat) (hb : 2 ≤ b) : n < b ^ (n.log2 + 1) := by
  have h1 : n < 2 ^ (n.log2 + 1) := Nat.lt_log2_self
  exact Nat.lt_of_lt_of_le h1 (Nat.pow_le_pow_left hb _)
theorem lz_lows (b k n : Nat) (hb : 2 ≤ b) (h : n < b ^ k) : lz (lows b k n) = figs b n := by
  have h2 := lt_pow_log b n hb
  unfold figs
  rcases Nat.le_total k (n.log2 + 1) with hk | hk
  · rw [show n.log2 + 1 = (n.log2 + 1 - k) + k by omega, lz_pad b _ k n h]
  · rw [show k = (k - (n.log2 + 1)) + (n.log2 + 1) by omega, lz_pad b _ _ n h2]
theorem figs_zero (b : Nat) : figs b 0 = [] := by
  unfold figs
  rw [lows_zero]
  have := lz_rep (Nat.log2 0 + 1) []
  rw [List.append_nil] at this
  exact this
theorem lz_append (l m : List Int) (h : lz l ≠ []) : lz (l ++ m) = lz l ++ m := by
  induction l with
  | nil => exact absurd rfl h
  | cons c l ih =>
    rw [List.cons_append, lz, lz]
    by_cases hc : c = 48
    · rw [if_pos hc, if_pos hc]
      rw [lz, if_pos hc] at h
      exact ih h
    · rw [if_neg hc, if_neg hc, List.cons_append]
theorem fig_ne (d : Nat) (h : 0 < d) (h2 : d < 16) : fig d ≠ 48 := by
  unfold fig
  split <;> omega
theorem fig_dec (d : Nat) (h : d < 10) : fig d = 48 + (d : Int) := if_pos h
theorem figs_one (b d : Nat) (hb : 2 ≤ b) (h16 : b ≤ 16) (h0 : 0 < d) (h1 : d < b) : figs b d = [fig d] := by
  rw [← lz_lows b 1 d hb (by rw [Nat.pow_one]; exact h1)]
  show lz (lows b 0 (d / b) ++ [fig (d % b)]) = _
  rw [Nat.mod_eq_of_lt h1]
  show lz ([] ++ [fig d]) = _
  rw [List.nil_append, lz, if_neg (fig_ne d h0 (by omega))]
theorem figs_succ (b n : Nat) (hb : 2 ≤ b) (h16 : b ≤ 16) (h0 : 0 < n) : figs b n = figs b (n / b) ++ [fig (n % b)] ∧ figs b n ≠ [] := by
  induction n using Nat.strongRecOn with
  | _ n ih =>
    by_cases hlt : n < b
    · rw [figs_one b n hb h16 h0 hlt, Nat.div_eq_of_lt hlt, figs_zero, Nat.mod_eq_of_lt hlt]
      exact ⟨rfl, by simp⟩
    · have h1 : 0 < n / b := Nat.div_pos (by omega) (by omega)
      have h2 : n / b < n := Nat.div_lt_self h0 (by omega)
      have h3 := (ih (n / b) h2 h1).2
      have h4 : n < b ^ (n.log2 + 1) := lt_pow_log b n hb
      have h5 : n / b < b ^ n.log2 := by
        rw [Nat.div_lt_iff_lt_mul (by omega), ← Nat.pow_succ]
        exact h4
      have h6 : figs b n = lz (lows b n.log2 (n / b) ++ [fig (n % b)]) := rfl
      have h7 := lz_lows b n.log2 (n / b) hb h5
      rw [h6, lz_append _ _ (by rw [h7]; exact h3), h7]
      exact ⟨rfl, by simp⟩
theorem figs_ne (b n : Nat) (hb : 2 ≤ b) (h16 : b ≤ 16) (h0 : 0 < n) : figs b n ≠ [] := (figs_succ b n hb h16 h0).2
theorem lz_head (l : List Int) : (lz l).head? ≠ some 48 := by
  induction l with
  | nil => simp [lz]
  | cons c l ih =>
    rw [lz]
    by_cases hc : c = 48
    · rw [if_pos hc]; exact ih
    · rw [if_neg hc]; simpa using hc
theorem lz_mem (l : List Int) (c : Int) (h : c ∈ lz l) : c ∈ l := by
  induction l with
  | nil => exact h
  | cons d l ih =>
    rw [lz] at h
    split at h
    · exact List.mem_cons_of_mem _ (ih h)
    · exact h
theorem lz_len (l : List Int) : (lz l).length ≤ l.length := by
  induction l with
  | nil => exact Nat.le_refl _
  | cons d l ih =>
    rw [lz]
    split
    · simp; omega
    · exact Nat.le_refl _
theorem lows_dec (k n : Nat) (c : Int) (h : c ∈ lows 10 k n) : 48 ≤ c ∧ c ≤ 57 := by
  induction k generalizing n with
  | zero => simp [lows] at h
  | succ k ih =>
    rw [lows, List.mem_append] at h
    rcases h with h | h
    · exact ih _ h
    · have h1 := Nat.mod_lt n (show 0 < 10 by omega)
      rw [List.mem_singleton, fig_dec _ h1] at h
      omega
theorem figs_dec (n : Nat) (c : Int) (h : c ∈ figs 10 n) : 48 ≤ c ∧ c ≤ 57 := lows_dec _ _ _ (lz_mem _ _ h)
theorem figs_len (b k n : Nat) (hb : 2 ≤ b) (h : n < b ^ k) : (figs b n).length ≤ k := by
  rw [← lz_lows b k n hb h]
  have := lz_len (lows b k n)
  rw [lows_len] at this
  exact this

/-! ### noughts at the end -/
/-- Without the noughts at the end. -/
def rz : List Int → List Int
  | [] => []
  | c :: l => if rz l = [] then (if c = 48 then [] else [c]) else c :: rz l
theorem rz_snoc (l : List Int) (c : Int) : rz (l ++ [c]) = if c = 48 then rz l else l ++ [c] := by
  induction l with
  | nil => simp [rz]
  | cons d l ih =>
    rw [List.cons_append, rz, ih]
    by_cases hc : c = 48
    · rw [if_pos hc, if_pos hc, rz]
    · rw [if_neg hc, if_neg hc, if_neg (by simp)]
/-- How a loop finds it. -/
theorem rz_of (l : List Int) (n : Nat) (hn : n ≤ l.length) (h : ∀ i, n ≤ i → i < l.length → l.getD i 0 = 48) (h2 : n = 0 ∨ l.getD (n - 1) 0 ≠ 48) : l.take n = rz l := by
  induction hk : l.length - n generalizing l with
  | zero =>
    have : n = l.length := by omega
    subst this
    rw [List.take_length]
    rcases List.eq_nil_or_concat l with rfl | ⟨m, c, rfl⟩
    · rfl
    · rw [List.concat_eq_append] at *
      rw [rz_snoc, if_neg]
      rcases h2 with h2 | h2
      · simp at h2
      · simpa [List.getD_eq_getElem?_getD] using h2
  | succ k ih =>
    rcases List.eq_nil_or_concat l with rfl | ⟨m, c, rfl⟩
    · simp at hk
    · rw [List.concat_eq_append] at *
      have hl : (m ++ [c]).length = m.length + 1 := by simp
      have hc : c = 48 := by
        have := h m.length (by omega) (by omega)
        simpa [List.getD_eq_getElem?_getD] using this
      rw [rz_snoc, if_pos hc, List.take_append_of_le_length (by omega)]
      refine ih m (by omega) (fun i h1 h3 => ?_) ?_ (by omega)
      · have := h i h1 (by omega)
        rw [List.getD_eq_getElem?_getD, List.getElem?_append_left h3] at this
        rw [List.getD_eq_getElem?_getD]
        exact this
      · rcases Nat.eq_zero_or_pos n with h0 | h0
        · exact .inl h0
        · rcases h2 with h2 | h2
          · exact .inl h2
          · right
            rw [List.getD_eq_getElem?_getD, List.getElem?_append_left (by omega)] at h2
            rw [List.getD_eq_getElem?_getD]
            exact h2
theorem rz_last (l : List Int) : (rz l).getLast? ≠ some 48 := by
  induction l with
  | nil => simp [rz]
  | cons c l ih =>
    rw [rz]
    by_cases h : rz l = []
    · rw [if_pos h]
      by_cases hc : c = 48
      · rw [if_pos hc]; simp
      · rw [if_neg hc]; simpa using hc
    · rw [if_neg h, List.getLast?_cons]
      cases e : (rz l).getLast? with
      | none => exact absurd (List.getLast?_eq_none_iff.1 e) h
      | some d => rw [e] at ih; simpa using ih
theorem rz_pre (l : List Int) : ∃ k, l = rz l ++ List.replicate k 48 := by
  induction l with
  | nil => exact ⟨0, rfl⟩
  | cons c l ih =>
    obtain ⟨k, hk⟩ := ih
    rw [rz]
    by_cases h : rz l = []
    · rw [h, List.nil_append] at hk
      rw [if_pos h]
      by_cases hc : c = 48
      · rw [if_pos hc]
        exact ⟨k + 1, by rw [hk, hc]; rfl⟩
      · rw [if_neg hc]
        exact ⟨k, by rw [hk]; rfl⟩
    · rw [if_neg h]
      exact ⟨k, by rw [List.cons_append, ← hk]⟩
theorem rz_len (l : List Int) : (rz l).length ≤ l.length := by
  obtain ⟨k, hk⟩ := rz_pre l
  have := congrArg List.length hk
  rw [List.length_append] at this
  omega
theorem rz_mem (l : List Int) (c : Int) (h : c ∈ rz l) : c ∈ l := by
  obtain ⟨k, hk⟩ := rz_pre l
  rw [hk]
  exact List.mem_append_left _ h
theorem rz_head (c : Int) (l : List Int) (hc : c ≠ 48) : ∃ t, rz (c :: l) = c :: t := by
  rw [rz]
  by_cases h : rz l = []
  · rw [if_pos h, if_neg hc]; exact ⟨_, rfl⟩
  · rw [if_neg h]; exact ⟨_, rfl⟩
/-- Figures of a decimal that is not 0: the first and the last one are no noughts. -/
structure Dc (l : List Int) : Prop where
  dig : ∀ c ∈ l, 48 ≤ c ∧ c ≤ 57
  head : ∃ c t, l = c :: t ∧ c ≠ 48
  last : l.getLast? ≠ some 48
theorem Dc.mk_rz {l : List Int} (h : ∀ c ∈ l, 48 ≤ c ∧ c ≤ 57) (h2 : ∃ c t, l = c :: t ∧ c ≠ 48) : Dc (rz l) := by
  refine ⟨fun c hc => h c (rz_mem _ _ hc), ?_, rz_last l⟩
  obtain ⟨c, t, rfl, hc⟩ := h2
  obtain ⟨u, hu⟩ := rz_head c t hc
  exact ⟨c, u, hu, hc⟩
theorem Dc.pos {l : List Int} (h : Dc l) : 0 < l.length := by
  obtain ⟨c, t, rfl, _⟩ := h.head
  simp
theorem Dc.ne {l : List Int} (h : Dc l) : l ≠ [] := by
  obtain ⟨c, t, rfl, _⟩ := h.head
  simp
theorem Dc.of_figs {n : Nat} (h0 : 0 < n) : Dc (rz (figs 10 n)) := by
  refine Dc.mk_rz (fun c hc => figs_dec n c hc) ?_
  cases e : figs 10 n with
  | nil => exact absurd e (figs_ne 10 n (by omega) (by omega) h0)
  | cons c t =>
    refine ⟨c, t, rfl, ?_⟩
    have := lz_head (lows 10 (n.log2 + 1) n)
    rw [show lz (lows 10 (n.log2 + 1) n) = figs 10 n from rfl, e] at this
    simpa using this
theorem Dc.get {l : List Int} (h : Dc l) (i : Nat) (hi : i < l.length) : 48 ≤ l.getD i 0 ∧ l.getD i 0 ≤ 57 := by
  rw [List.getD_eq_getElem?_getD, List.getElem?_eq_getElem hi]
  exact h.dig _ (List.getElem_mem hi)

/-! ### a decimal is halved s times -/
/-- The figures that are picked up first. -/
def ph1 (s : Nat) : Nat → List Int → Nat → Nat × List Int × Nat
  | n, [], r => (n, [], r)
  | n, c :: t, r => if n / 2 ^ s = 0 then ph1 s (n * 10 + (c - 48).toNat) t (r + 1) else (n, c :: t, r)
/-- The noughts that are picked up behind them. -/
def ph2 (s : Nat) : Nat → Nat → Nat → Nat × Nat
  | 0, n, r => (n, r)
  | f + 1, n, r => if n / 2 ^ s = 0 then ph2 s f (n * 10) (r + 1) else (n, r)
/-- What is left is written out. -/
def gen0 (s : Nat) : Nat → Nat → List Int
  | 0, _ => []
  | f + 1, n => if n = 0 then [] else (48 + ((n / 2 ^ s : Nat) : Int)) :: gen0 s f (n % 2 ^ s * 10)
/-- The figures that are written. -/
def gen (s : Nat) : Nat → List Int → List Int
  | n, [] => gen0 s (s + 1) n
  | n, c :: t => (48 + ((n / 2 ^ s : Nat) : Int)) :: gen s (n % 2 ^ s * 10 + (c - 48).toNat) t
def rshD (d : List Int × Int) (s : Nat) : List Int × Int :=
  let q := ph1 s 0 d.1 0
  let u := ph2 s 64 q.1 q.2.2
  let o := rz (gen s u.1 q.2.1)
  (o, if o = [] then 0 else d.2 + 1 - (u.2 : Int))
/-- Halved k times, by 60 at a time. -/
def shrs : Nat → List Int × Int → Nat → List Int × Int
  | 0, d, k => rshD d k
  | f + 1, d, k => if 60 < k then shrs f (rshD d 60) (k - 60) else rshD d k
theorem lt_of_div0 {n s : Nat} (h : n / 2 ^ s = 0) : n < 2 ^ s := by
  rcases (Nat.div_eq_zero_iff).1 h with h | h
  · have := Nat.two_pow_pos s; omega
  · exact h
theorem ge_of_div {n s : Nat} (h : n / 2 ^ s ≠ 0) : 2 ^ s ≤ n := by
  rcases Nat.lt_or_ge n (2 ^ s) with h2 | h2
  · exact absurd (Nat.div_eq_of_lt h2) h
  · exact h2
theorem ph1_inv (s n r : Nat) (l : List Int) (hl : ∀ c ∈ l, 48 ≤ c ∧ c ≤ 57) (hn : n < 10 * 2 ^ s) :
    (ph1 s n l r).1 < 10 * 2 ^ s ∧ ((ph1 s n l r).2.1 ≠ [] → 2 ^ s ≤ (ph1 s n l r).1) ∧ (∀ c ∈ (ph1 s n l r).2.1, c ∈ l) ∧ (ph1 s n l r).2.1.length + (ph1 s n l r).2.2 = l.length + r ∧ n ≤ (ph1 s n l r).1 := by
  induction l generalizing n r with
  | nil => simpa [ph1] using hn
  | cons c t ih =>
    rw [ph1]
    by_cases h : n / 2 ^ s = 0
    · rw [if_pos h]
      have h1 := lt_of_div0 h
      have hc := hl c (by simp)
      obtain ⟨a1, a2, a3, a4, a5⟩ := ih (n * 10 + (c - 48).toNat) (r + 1) (fun d hd => hl d (List.mem_cons_of_mem _ hd)) (by omega)
      refine ⟨a1, a2, fun d hd => List.mem_cons_of_mem _ (a3 d hd), ?_, by omega⟩
      rw [List.length_cons]
      omega
    · rw [if_neg h]
      exact ⟨hn, fun _ => ge_of_div h, fun c h => h, rfl, Nat.le_refl _⟩
theorem ph1_pos (s r : Nat) (c : Int) (t : List Int) (hc : 49 ≤ c ∧ c ≤ 57) (hl : ∀ c ∈ t, 48 ≤ c ∧ c ≤ 57) : 0 < (ph1 s 0 (c :: t) r).1 ∧ r < (ph1 s 0 (c :: t) r).2.2 := by
  have e : ph1 s 0 (c :: t) r = ph1 s (0 * 10 + (c - 48).toNat) t (r + 1) := by rw [ph1, if_pos (Nat.zero_div _)]
  have hp := Nat.two_pow_pos s
  have h2 : (0 * 10 + (c - 48).toNat) < 10 * 2 ^ s := by omega
  obtain ⟨a1, a2, a3, a4, a5⟩ := ph1_inv s (0 * 10 + (c - 48).toNat) (r + 1) t hl h2
  rw [e]
  refine ⟨by omega, ?_⟩
  have : ∀ (n : Nat) (t : List Int) (r : Nat), r ≤ (ph1 s n t r).2.2 := by
    intro n t
    induction t generalizing n with
    | nil => intro r; exact Nat.le_refl _
    | cons c t ih =>
      intro r
      rw [ph1]
      split
      · exact Nat.le_trans (Nat.le_succ r) (ih _ _)
      · exact Nat.le_refl _
  exact this _ _ _
theorem ph1_drop (s n : Nat) (l t : List Int) (r : Nat) (h : t = l.drop r) : (ph1 s n t r).2.1 = l.drop (ph1 s n t r).2.2 := by
  induction t generalizing n r with
  | nil => exact h
  | cons c t ih =>
    rw [ph1]
    split
    · refine ih _ (r + 1) ?_
      have h2 := congrArg (List.drop 1) h
      rw [List.drop_drop] at h2
      exact h2
    · exact h
theorem ph2_inv (s f n r : Nat) (hn : n < 10 * 2 ^ s) (hf : 2 ^ s ≤ n * 10 ^ f) : (ph2 s f n r).1 < 10 * 2 ^ s ∧ 2 ^ s ≤ (ph2 s f n r).1 ∧ r ≤ (ph2 s f n r).2 ∧ (ph2 s f n r).2 ≤ r + f := by
  induction f generalizing n r with
  | zero => exact ⟨hn, by rw [Nat.pow_zero, Nat.mul_one] at hf; exact hf, Nat.le_refl _, Nat.le_refl _⟩
  | succ f ih =>
    rw [ph2]
    by_cases h : n / 2 ^ s = 0
    · rw [if_pos h]
      have h1 := lt_of_div0 h
      obtain ⟨a1, a2, a3, a4⟩ := ih (n * 10) (r + 1) (by omega) (by rw [Nat.mul_assoc, ← Nat.pow_succ']; exact hf)
      exact ⟨a1, a2, by omega, by omega⟩
    · rw [if_neg h]
      exact ⟨hn, ge_of_div h, Nat.le_refl _, by omega⟩
theorem div_lt10 {n s : Nat} (h : n < 10 * 2 ^ s) : n / 2 ^ s < 10 := by
  rw [Nat.div_lt_iff_lt_mul (Nat.two_pow_pos s)]
  exact h
theorem dig_of {d : Nat} (h : d < 10) : 48 ≤ 48 + (d : Int) ∧ 48 + (d : Int) ≤ 57 := by omega
theorem gen0_dig (s f n : Nat) (hn : n < 10 * 2 ^ s) (c : Int) (h : c ∈ gen0 s f n) : 48 ≤ c ∧ c ≤ 57 := by
  induction f generalizing n with
  | zero => simp [gen0] at h
  | succ f ih =>
    rw [gen0] at h
    split at h
    · simp at h
    · have h1 := div_lt10 hn
      have h2 := Nat.mod_lt n (Nat.two_pow_pos s)
      rcases List.mem_cons.1 h with h | h
      · rw [h]; exact dig_of h1
      · exact ih _ (by omega) h
theorem gen_dig (s n : Nat) (l : List Int) (hn : n < 10 * 2 ^ s) (hl : ∀ c ∈ l, 48 ≤ c ∧ c ≤ 57) (c : Int) (h : c ∈ gen s n l) : 48 ≤ c ∧ c ≤ 57 := by
  induction l generalizing n with
  | nil => exact gen0_dig s _ n hn c h
  | cons d t ih =>
    rw [gen] at h
    have h1 := div_lt10 hn
    have h2 := Nat.mod_lt n (Nat.two_pow_pos s)
    have hd := hl d (by simp)
    rcases List.mem_cons.1 h with h | h
    · rw [h]; exact dig_of h1
    · exact ih _ (by omega) (fun c hc => hl c (List.mem_cons_of_mem _ hc)) h
theorem gen_head (s n : Nat) (l : List Int) (h : 2 ^ s ≤ n) : ∃ c t, gen s n l = c :: t ∧ c ≠ 48 := by
  have h1 : 0 < n / 2 ^ s := Nat.div_pos h (Nat.two_pow_pos s)
  have h2 := Nat.two_pow_pos s
  cases l with
  | nil =>
    refine ⟨48 + ((n / 2 ^ s : Nat) : Int), gen0 s s (n % 2 ^ s * 10), ?_, by omega⟩
    rw [gen, gen0, if_neg (by omega)]
  | cons d t => exact ⟨_, _, rfl, by omega⟩
theorem gen0_len (s f n : Nat) : (gen0 s f n).length ≤ f := by
  induction f generalizing n with
  | zero => exact Nat.le_refl _
  | succ f ih =>
    rw [gen0]
    split
    · simp
    · have := ih (n % 2 ^ s * 10)
      simp
      omega
theorem gen_len (s n : Nat) (l : List Int) : (gen s n l).length ≤ l.length + s + 1 := by
  induction l generalizing n with
  | nil => have := gen0_len s (s + 1) n; simpa [gen] using this
  | cons c t ih =>
    have := ih (n % 2 ^ s * 10 + (c - 48).toNat)
    simp [gen]
    omega
theorem two_dvd_step {s j n : Nat} (h : 2 ^ j ∣ n) (hj : j ≤ s) : 2 ^ (j + 1) ∣ n % 2 ^ s * 10 := by
  have h1 : 2 ^ j ∣ n % 2 ^ s := (Nat.dvd_mod_iff (Nat.pow_dvd_pow 2 hj)).2 h
  rw [Nat.pow_succ, show (10 : Nat) = 2 * 5 from rfl, ← Nat.mul_assoc]
  exact Nat.dvd_mul_right_of_dvd (Nat.mul_dvd_mul_right h1 2) 5
theorem two60 {s : Nat} (hs : s ≤ 60) (n : Nat) (hn : 0 < n) : 2 ^ s ≤ n * 10 ^ 64 := by
  have h1 : 2 ^ s ≤ 2 ^ 60 := Nat.pow_le_pow_right (by omega) hs
  have h2 : (2 : Nat) ^ 60 ≤ 10 ^ 64 := by decide
  have h3 : 1 * 10 ^ 64 ≤ n * 10 ^ 64 := Nat.mul_le_mul_right _ hn
  omega
/-- What is written, out of what is picked up. -/
theorem rshD_inv (l : List Int) (s : Nat) (h : Dc l) (hs : s ≤ 60) : ∃ n r t, ph1 s 0 l 0 = (n, t, r) ∧ 0 < n ∧ n < 10 * 2 ^ s ∧ 0 < r ∧ t.length + r = l.length ∧ (∀ c ∈ t, 48 ≤ c ∧ c ≤ 57) ∧ (ph2 s 64 n r).1 < 10 * 2 ^ s ∧ 2 ^ s ≤ (ph2 s 64 n r).1 ∧ r ≤ (ph2 s 64 n r).2 ∧ (ph2 s 64 n r).2 ≤ r + 64 := by
  obtain ⟨c, t, rfl, hc⟩ := h.head
  have hd := h.dig c (by simp)
  have hp := Nat.two_pow_pos s
  obtain ⟨p1, p2⟩ := ph1_pos s 0 c t (by omega) (fun d hd => h.dig d (List.mem_cons_of_mem _ hd))
  obtain ⟨a1, a2, a3, a4, a5⟩ := ph1_inv s 0 0 (c :: t) h.dig (by omega)
  obtain ⟨b1, b2, b3, b4⟩ := ph2_inv s 64 _ (ph1 s 0 (c :: t) 0).2.2 a1 (two60 hs _ p1)
  exact ⟨_, _, _, rfl, p1, a1, p2, a4, fun d hd => h.dig d (a3 d hd), b1, b2, b3, b4⟩
theorem rshD_dc (l : List Int) (e : Int) (s : Nat) (h : Dc l) (hs : s ≤ 60) : Dc (rshD (l, e) s).1 := by
  obtain ⟨n, r, t, h1, h2, h3, h4, h5, h6, h7, h8, h9, h10⟩ := rshD_inv l s h hs
  unfold rshD
  simp only [h1]
  exact Dc.mk_rz (fun c hc => gen_dig s _ t h7 h6 c hc) (gen_head s _ t h8)
theorem rshD_bd (l : List Int) (e : Int) (s : Nat) (h : Dc l) (hs : s ≤ 60) : (rshD (l, e) s).1.length ≤ l.length + 61 ∧ e - l.length - 64 ≤ (rshD (l, e) s).2 ∧ (rshD (l, e) s).2 ≤ e := by
  have hd := (rshD_dc l e s h hs).ne
  obtain ⟨n, r, t, h1, h2, h3, h4, h5, h6, h7, h8, h9, h10⟩ := rshD_inv l s h hs
  unfold rshD at hd ⊢
  simp only [h1] at hd ⊢
  have g1 := gen_len s (ph2 s 64 n r).1 t
  have g2 := rz_len (gen s (ph2 s 64 n r).1 t)
  rw [if_neg hd]
  omega
theorem shrs_inv (f : Nat) (l : List Int) (e : Int) (k i : Nat) (h : Dc l) (hk : k ≤ 60 * (f + 1)) (hi : i + f ≤ 100) (hl : l.length ≤ 1000 + 61 * i) (he : -1000 - 10000 * (i : Int) ≤ e ∧ e ≤ 1000) :
    Dc (shrs f (l, e) k).1 ∧ (shrs f (l, e) k).1.length ≤ 8000 ∧ -1100000 ≤ (shrs f (l, e) k).2 ∧ (shrs f (l, e) k).2 ≤ 1000 := by
  induction f generalizing l e k i with
  | zero =>
    have h1 := rshD_dc l e k h (by omega)
    have h2 := rshD_bd l e k h (by omega)
    rw [shrs]
    exact ⟨h1, by omega, by omega, by omega⟩
  | succ f ih =>
    rw [shrs]
    by_cases hk2 : 60 < k
    · rw [if_pos hk2]
      have h1 := rshD_dc l e 60 h (by omega)
      have h2 := rshD_bd l e 60 h (by omega)
      exact ih (rshD (l, e) 60).1 (rshD (l, e) 60).2 (k - 60) (i + 1) h1 (by omega) (by omega) (by omega) (by omega)
    · rw [if_neg hk2]
      have h1 := rshD_dc l e k h (by omega)
      have h2 := rshD_bd l e k h (by omega)
      exact ⟨h1, by omega, by omega, by omega⟩

/-! ### a natural number times a power of 2 -/
/-- How often 2 divides it. -/
def tzf : Nat → Nat → Nat
  | 0, _ => 0
  | f + 1, n => if n % 2 = 1 then 0 else tzf f (n / 2) + 1
def tzn (n : Nat) : Nat := tzf (n.log2 + 1) n
theorem tzf_eq (f m n : Nat) (h : n < f) : tzf f ((2 * m + 1) * 2 ^ n) = n := by
  induction n generalizing f with
  | zero =>
    obtain ⟨g, rfl⟩ : ∃ g, f = g + 1 := ⟨f - 1, by omega⟩
    rw [tzf, if_pos (by simp)]
  | succ n ih =>
    obtain ⟨g, rfl⟩ : ∃ g, f = g + 1 := ⟨f - 1, by omega⟩
    have e : (2 * m + 1) * 2 ^ (n + 1) = (2 * m + 1) * 2 ^ n * 2 := by rw [Nat.pow_succ, Nat.mul_assoc]
    rw [tzf, e, if_neg (by omega), Nat.mul_div_cancel _ (by omega), ih g (by omega)]
theorem tzn_eq (m n : Nat) : tzn ((2 * m + 1) * 2 ^ n) = n := by
  refine tzf_eq _ m n ?_
  have h1 : 0 < (2 * m + 1) * 2 ^ n := Nat.mul_pos (by omega) (Nat.two_pow_pos n)
  have h2 : 2 ^ n ≤ (2 * m + 1) * 2 ^ n := Nat.le_mul_of_pos_left _ (by omega)
  have h3 := (Nat.le_log2 (by omega)).2 h2
  omega
theorem odd_part (v : Nat) (h0 : 0 < v) : ∃ m n, v = (2 * m + 1) * 2 ^ n := by
  induction v using Nat.strongRecOn with
  | _ v ih =>
    by_cases hv : v % 2 = 1
    · exact ⟨v / 2, 0, by omega⟩
    · obtain ⟨m, n, e⟩ := ih (v / 2) (by omega) (by omega)
      exact ⟨m, n + 1, by rw [Nat.pow_succ, ← Nat.mul_assoc, ← e]; omega⟩
/-- The decimal of v times 2 to the sh. -/
def initD (v : Nat) (sh : Int) : List Int × Int :=
  if v = 0 then ([], 0)
  else if sh < 0 then
    let s := min (-sh).toNat (tzn v)
    let d := figs 10 (v / 2 ^ s)
    if (-sh).toNat - s = 0 then (rz d, (d.length : Int)) else shrs 64 (rz d, (d.length : Int)) ((-sh).toNat - s)
  else
    let d := figs 10 (v * 2 ^ sh.toNat)
    (rz d, (d.length : Int))
theorem figs_bits (v : Nat) (h : v < 2 ^ 512) : (figs 10 v).length ≤ 155 := figs_len 10 155 v (by omega) (Nat.lt_of_lt_of_le h (by decide +kernel))
theorem initD_inv (v : Nat) (sh : Int) (h0 : 0 < v) (h1 : v < 2 ^ 512) (h2 : 0 ≤ sh → v * 2 ^ sh.toNat < 2 ^ 512) (hs : -3000 ≤ sh) : Dc (initD v sh).1 ∧ (initD v sh).1.length ≤ 8000 ∧ -1100000 ≤ (initD v sh).2 ∧ (initD v sh).2 ≤ 1000 := by
  unfold initD
  rw [if_neg (by omega)]
  by_cases hn : sh < 0
  · rw [if_pos hn]
    simp only
    obtain ⟨s, hs'⟩ : ∃ s, s = min (-sh).toNat (tzn v) := ⟨_, rfl⟩
    rw [← hs']
    have hv : v / 2 ^ s ≤ v := Nat.div_le_self _ _
    have hl := figs_bits (v / 2 ^ s) (by omega)
    have hr := rz_len (figs 10 (v / 2 ^ s))
    have hv0 : 0 < v / 2 ^ s := by
      have hsz : s ≤ tzn v := by omega
      obtain ⟨m, n, e⟩ := odd_part v h0
      rw [e, tzn_eq] at hsz
      rw [e]
      refine Nat.div_pos ?_ (Nat.two_pow_pos s)
      have h3 : 2 ^ s ≤ 2 ^ n := Nat.pow_le_pow_right (by omega) hsz
      have h4 : 2 ^ n ≤ (2 * m + 1) * 2 ^ n := Nat.le_mul_of_pos_left _ (by omega)
      omega
    by_cases hk : (-sh).toNat - s = 0
    · rw [if_pos hk]
      exact ⟨Dc.of_figs hv0, by simp only; omega, by simp only; omega, by simp only; omega⟩
    · rw [if_neg hk]
      exact shrs_inv 64 _ _ _ 0 (Dc.of_figs hv0) (by omega) (by omega) (by omega) (by omega)
  · rw [if_neg hn]
    simp only
    have hl := figs_bits (v * 2 ^ sh.toNat) (h2 (by omega))
    have hr := rz_len (figs 10 (v * 2 ^ sh.toNat))
    exact ⟨Dc.of_figs (Nat.mul_pos h0 (Nat.two_pow_pos _)), by omega, by omega, by omega⟩

/-! ### decimals are rounded -/
def shouldUp (l : List Int) (n : Nat) : Bool :=
  if l.getD n 0 = 53 ∧ n + 1 = l.length then decide (0 < n ∧ (l.getD (n - 1) 0 - 48) % 2 ≠ 0) else decide (53 ≤ l.getD n 0)
/-- Where the first figure below 9 ends. -/
def up9 (l : List Int) : Nat → Nat
  | 0 => 0
  | n + 1 => if 57 ≤ l.getD n 0 then up9 l n else n + 1
def roundUpD (d : List Int × Int) (n : Nat) : List Int × Int :=
  if d.1.length ≤ n then d else if up9 d.1 n = 0 then ([49], d.2 + 1) else (d.1.take (up9 d.1 n - 1) ++ [d.1.getD (up9 d.1 n - 1) 0 + 1], d.2)
def roundDownD (d : List Int × Int) (n : Nat) : List Int × Int :=
  if d.1.length ≤ n then d else (rz (d.1.take n), if rz (d.1.take n) = [] then 0 else d.2)
def roundD (d : List Int × Int) (n : Int) : List Int × Int :=
  if n < 0 ∨ (d.1.length : Int) ≤ n then d else if shouldUp d.1 n.toNat then roundUpD d n.toNat else roundDownD d n.toNat
theorem up9_le (l : List Int) (n : Nat) : up9 l n ≤ n := by
  induction n with
  | zero => exact Nat.le_refl _
  | succ n ih => rw [up9]; split <;> omega
theorem up9_lt (l : List Int) (n : Nat) (h : up9 l n ≠ 0) : l.getD (up9 l n - 1) 0 < 57 := by
  induction n with
  | zero => exact absurd rfl h
  | succ n ih =>
    rw [up9] at h ⊢
    by_cases hc : 57 ≤ l.getD n 0
    · rw [if_pos hc] at h ⊢; exact ih h
    · rw [if_neg hc]; rw [Nat.add_sub_cancel]; omega
theorem Dc.take {l : List Int} (h : Dc l) (n : Nat) (hn : 0 < n) : ∃ c t, l.take n = c :: t ∧ c ≠ 48 := by
  obtain ⟨c, t, rfl, hc⟩ := h.head
  obtain ⟨m, rfl⟩ : ∃ m, n = m + 1 := ⟨n - 1, by omega⟩
  exact ⟨c, _, rfl, hc⟩
theorem roundUpD_dc (d : List Int × Int) (n : Nat) (h : Dc d.1) : Dc (roundUpD d n).1 := by
  unfold roundUpD
  by_cases h1 : d.1.length ≤ n
  · rw [if_pos h1]; exact h
  · rw [if_neg h1]
    have hle := up9_le d.1 n
    by_cases h2 : up9 d.1 n = 0
    · rw [if_pos h2]
      exact ⟨fun c hc => by simp at hc; omega, ⟨49, [], rfl, by omega⟩, by simp⟩
    · rw [if_neg h2]
      have h3 := up9_lt d.1 n h2
      have h4 := h.get (up9 d.1 n - 1) (by omega)
      refine ⟨fun c hc => ?_, ?_, by rw [List.getLast?_append, List.getLast?_singleton, Option.some_or]; intro e; injection e with e; omega⟩
      · rcases List.mem_append.1 hc with hc | hc
        · exact h.dig c (List.mem_of_mem_take hc)
        · rw [List.mem_singleton] at hc; omega
      · by_cases h5 : up9 d.1 n = 1
        · rw [h5]
          exact ⟨_, [], rfl, by rw [h5] at h4; simp at h4 ⊢; omega⟩
        · obtain ⟨c, t, e, hc⟩ := h.take (up9 d.1 n - 1) (by omega)
          exact ⟨c, t ++ [d.1.getD (up9 d.1 n - 1) 0 + 1], by rw [e]; rfl, hc⟩
theorem roundDownD_dc (d : List Int × Int) (n : Nat) (h : Dc d.1) (hn : 0 < n) : Dc (roundDownD d n).1 := by
  unfold roundDownD
  by_cases h1 : d.1.length ≤ n
  · rw [if_pos h1]; exact h
  · rw [if_neg h1]
    exact Dc.mk_rz (fun c hc => h.dig c (List.mem_of_mem_take hc)) (h.take n hn)
theorem roundD_dc (d : List Int × Int) (n : Int) (h : Dc d.1) (hn : 0 < n) : Dc (roundD d n).1 := by
  unfold roundD
  split
  · exact h
  · split
    · exact roundUpD_dc d _ h
    · exact roundDownD_dc d _ h (by omega)
theorem roundUpD_len (d : List Int × Int) (n : Nat) : (roundUpD d n).1.length ≤ d.1.length ∧ d.2 ≤ (roundUpD d n).2 ∧ (roundUpD d n).2 ≤ d.2 + 1 := by
  unfold roundUpD
  have hle := up9_le d.1 n
  by_cases h1 : d.1.length ≤ n
  · rw [if_pos h1]; omega
  · rw [if_neg h1]
    by_cases h2 : up9 d.1 n = 0
    · rw [if_pos h2]; simp; omega
    · rw [if_neg h2]; simp; omega
theorem roundDownD_len (d : List Int × Int) (n : Nat) : (roundDownD d n).1.length ≤ d.1.length ∧ ((roundDownD d n).2 = d.2 ∨ (roundDownD d n).2 = 0) := by
  unfold roundDownD
  by_cases h1 : d.1.length ≤ n
  · rw [if_pos h1]; exact ⟨Nat.le_refl _, .inl rfl⟩
  · rw [if_neg h1]
    have := rz_len (d.1.take n)
    simp only [List.length_take] at this
    refine ⟨by simp only; omega, ?_⟩
    simp only
    split
    · exact .inr rfl
    · exact .inl rfl
theorem roundD_len (d : List Int × Int) (n : Int) : (roundD d n).1.length ≤ d.1.length ∧ ((roundD d n).2 = 0 ∨ (d.2 ≤ (roundD d n).2 ∧ (roundD d n).2 ≤ d.2 + 1)) := by
  unfold roundD
  split
  · exact ⟨Nat.le_refl _, .inr (by omega)⟩
  · split
    · have := roundUpD_len d n.toNat; exact ⟨this.1, .inr this.2⟩
    · have := roundDownD_len d n.toNat
      refine ⟨this.1, ?_⟩
      rcases this.2 with h | h
      · exact .inr (by omega)
      · exact .inl h

/-! ### the shortest decimal -/
/-- Figure i, a nought behind the end. -/
def atD (l : List Int) (i : Nat) : Int := l.getD i 48
def okDown (inc : Bool) (lo : List Int) (i : Nat) (m : Int) : Bool := decide (atD lo i ≠ m) || (inc && decide (i + 1 = lo.length))
def okUp (inc : Bool) (up : List Int) (i : Nat) (m : Int) : Bool := decide (m ≠ atD up i) && (inc || decide (m + 1 < atD up i) || decide (i + 1 < up.length) || (decide (up.length ≤ i) && decide (m < 57)))
def rsS (inc : Bool) (lo up : List Int) (d : List Int × Int) : Nat → List Int → List Int × Int
  | _, [] => d
  | i, m :: t => if okDown inc lo i m then (if okUp inc up i m then roundD d ((i : Int) + 1) else roundDownD d (i + 1)) else if okUp inc up i m then roundUpD d (i + 1) else rsS inc lo up d (i + 1) t
/-- The mantissa V of B bits with one bit more than the precision. -/
def mantS (V B p : Nat) : Nat := if B < p + 1 then V * 2 ^ (p + 1 - B) else V / 2 ^ (B - (p + 1))
theorem rsS_dc (inc : Bool) (lo up : List Int) (d : List Int × Int) (h : Dc d.1) (i : Nat) (t : List Int) : Dc (rsS inc lo up d i t).1 := by
  induction t generalizing i with
  | nil => exact h
  | cons m t ih =>
    rw [rsS]
    split
    · split
      · exact roundD_dc d _ h (by omega)
      · exact roundDownD_dc d _ h (by omega)
    · split
      · exact roundUpD_dc d _ h
      · exact ih _
theorem rsS_len (inc : Bool) (lo up : List Int) (d : List Int × Int) (i : Nat) (t : List Int) : (rsS inc lo up d i t).1.length ≤ d.1.length ∧ ((rsS inc lo up d i t).2 = 0 ∨ (d.2 ≤ (rsS inc lo up d i t).2 ∧ (rsS inc lo up d i t).2 ≤ d.2 + 1)) := by
  induction t generalizing i with
  | nil => exact ⟨Nat.le_refl _, .inr (by rw [rsS]; omega)⟩
  | cons m t ih =>
    rw [rsS]
    split
    · split
      · exact roundD_len d _
      · have := roundDownD_len d (i + 1)
        refine ⟨this.1, ?_⟩
        rcases this.2 with h | h
        · exact .inr (by omega)
        · exact .inl h
    · split
      · have := roundUpD_len d (i + 1); exact ⟨this.1, .inr this.2⟩
      · exact ih _

/-! ### texts of decimals -/
/-- A natural number as a text. -/
def itoaT (n : Nat) : List Int := if n = 0 then [48] else figs 10 n
/-- A whole number as a text. -/
def itoaI (x : Int) : List Int := if x < 0 then 45 :: itoaT x.natAbs else itoaT x.natAbs
/-- An exponent: its sign, at least two figures. -/
def expT (x : Int) : List Int := [if x < 0 then 45 else 43] ++ (if x.natAbs < 10 then [48] else []) ++ itoaT x.natAbs
/-- So many figures behind the first one. -/
def moreT (l : List Int) (p : Nat) : List Int := (l.drop 1).take p ++ List.replicate (p - (l.drop 1).length) 48
def fmtET (d : List Int × Int) (ch prec : Int) : List Int :=
  [d.1.getD 0 48] ++ (if 0 < prec then 46 :: moreT d.1 prec.toNat else []) ++ [ch] ++ expT (if d.1 = [] then 0 else d.2 - 1)
/-- Figure i, noughts ahead and behind. -/
def atI (l : List Int) (i : Int) : Int := if 0 ≤ i then l.getD i.toNat 48 else 48
def wholeT (d : List Int × Int) : List Int := if 0 < d.2 then d.1.take d.2.toNat ++ List.replicate (d.2.toNat - d.1.length) 48 else [48]
def fracT (d : List Int × Int) (p : Nat) : List Int := (List.range p).map fun (i : Nat) => atI d.1 (d.2 + (i : Int))
def fmtFT (d : List Int × Int) (prec : Int) : List Int := wholeT d ++ (if 0 < prec then 46 :: fracT d prec.toNat else [])
/-- The formats g, G: d is rounded to prec figures. -/
def fmtGT (d : List Int × Int) (ch prec : Int) (short : Bool) : List Int :=
  let n : Int := d.1.length
  let ep : Int := if short then 6 else if n < prec ∧ d.2 ≤ n then n else prec
  if d.2 - 1 < -4 ∨ ep ≤ d.2 - 1 then fmtET d (ch - 2) ((if n < prec then n else prec) - 1)
  else fmtFT d (max ((if d.2 < prec then n else prec) - d.2) 0)
/-- What is written of a magnitude: d0 its decimal, ds its shortest one. -/
def decT (d0 ds : List Int × Int) (ch k : Int) : List Int :=
  if ch = 101 ∨ ch = 69 then (if k < 0 then fmtET ds ch ((ds.1.length : Int) - 1) else fmtET (roundD d0 (1 + k)) ch k)
  else if ch = 102 then (if k < 0 then fmtFT ds (max ((ds.1.length : Int) - ds.2) 0) else fmtFT (roundD d0 (d0.2 + k)) k)
  else (if k < 0 then fmtGT ds ch ds.1.length true else fmtGT (roundD d0 (if k = 0 then 1 else k)) ch (if k = 0 then 1 else k) false)
end Go.Proofs.YtfnknldbjckgoaaGreatDoor.Dig
end

/-! ## DecQ -/
section
namespace Go.Proofs.YtfnknldbjckgoaaGreatDoor.Dig
set_option linter.unusedVariables false
theorem tzn_mul (v j : Nat) (hv : 0 < v) : tzn (v * 2 ^ j) = tzn v + j := by
  obtain ⟨m, n, rfl⟩ := odd_part v hv
  rw [tzn_eq, Nat.mul_assoc, ← Nat.pow_add, tzn_eq]
theorem mul_div_pow (v j k : Nat) (h : k ≤ j) : v * 2 ^ j / 2 ^ k = v * 2 ^ (j - k) := by
  rw [show j = (j - k) + k by omega, Nat.pow_add, ← Nat.mul_assoc, Nat.mul_div_cancel _ (Nat.two_pow_pos k), Nat.add_sub_cancel]
theorem mul_div_pow' (v j k : Nat) : v * 2 ^ j / 2 ^ (k + j) = v / 2 ^ k := by
  rw [Nat.pow_add, Nat.mul_div_mul_right _ _ (Nat.two_pow_pos j)]
theorem initD_shift (v j : Nat) (sh : Int) (hv : 0 < v) : initD (v * 2 ^ j) (sh - j) = initD v sh := by
  have hp : 0 < v * 2 ^ j := Nat.mul_pos hv (Nat.two_pow_pos j)
  unfold initD
  rw [if_neg (show ¬ v * 2 ^ j = 0 by omega), if_neg (show ¬ v = 0 by omega), tzn_mul v j hv]
  by_cases h1 : sh < 0
  · rw [if_pos (by omega), if_pos h1]
    simp only
    have e1 : min (-(sh - (j : Int))).toNat (tzn v + j) = min (-sh).toNat (tzn v) + j := by omega
    rw [e1, mul_div_pow']
    have e2 : (-(sh - (j : Int))).toNat - (min (-sh).toNat (tzn v) + j) = (-sh).toNat - min (-sh).toNat (tzn v) := by omega
    rw [e2]
  · rw [if_neg h1]
    by_cases h2 : sh - (j : Int) < 0
    · rw [if_pos h2]
      simp only
      have e1 : min (-(sh - (j : Int))).toNat (tzn v + j) = j - sh.toNat := by omega
      rw [e1, mul_div_pow _ _ _ (by omega), if_pos (by omega), show j - (j - sh.toNat) = sh.toNat by omega]
    · rw [if_neg h2]
      simp only
      rw [Nat.mul_assoc, ← Nat.pow_add, show j + (sh - (j : Int)).toNat = sh.toNat by omega]
/-- The mantissa with one bit more than the precision. -/
theorem mantS_eq (v b B p : Nat) (hb : b ≤ p) (hB : b ≤ B) : mantS (v * 2 ^ (B - b)) B p = v * 2 ^ (p + 1 - b) := by
  unfold mantS
  split
  · rw [Nat.mul_assoc, ← Nat.pow_add, show B - b + (p + 1 - B) = p + 1 - b by omega]
  · rw [mul_div_pow _ _ _ (by omega), show B - b - (B - (p + 1)) = p + 1 - b by omega]
/-- The shortest decimal of v times 2 to the x, v of b bits, to the precision p. -/
def shortV (v b p : Nat) (x : Int) : List Int × Int :=
  rsS (decide (v * 2 ^ (p + 1 - b) % 4 < 2)) (initD (v * 2 ^ (p + 1 - b) - 1) (x + b - (p + 1))).1 (initD (v * 2 ^ (p + 1 - b) + 1) (x + b - (p + 1))).1 (initD v x) 0 (initD v x).1
/-- The text of v times 2 to the x in the formats e, E, f, g, G. -/
def finT (v b p : Nat) (x ch k : Int) : List Int := decT (initD v x) (shortV v b p x) ch k
end Go.Proofs.YtfnknldbjckgoaaGreatDoor.Dig
end
