/-
  PLAIN LEAN, no program in sight: numbers as lists of digits to a base b, the lowest first ('ev': the value; 'Cn': digits in range, the last one not 0).
-/
import Derived.RowKit
namespace Go.Proofs.YtgpgacnnkjiadaaGreatDoor.Dig

/-- The value of digits to the base b, the lowest first. -/
def ev (b : Int) : List Int → Int
  | [] => 0
  | d :: l => d + b * ev b l
/-- All digits are in range. -/
def okd (b : Int) (l : List Int) : Prop := ∀ d ∈ l, 0 ≤ d ∧ d < b
/-- In range, and the last one is not 0. -/
structure Cn (b : Int) (l : List Int) : Prop where
  ok : okd b l
  top : ∀ d, l.getLast? = some d → d ≠ 0

theorem okd_nil (b : Int) : okd b [] := fun d h => by simp at h
theorem okd_cons {b d : Int} {l : List Int} : okd b (d :: l) ↔ (0 ≤ d ∧ d < b) ∧ okd b l := by simp [okd]
theorem okd_append {b : Int} {l m : List Int} : okd b (l ++ m) ↔ okd b l ∧ okd b m := by
  simp only [okd, List.mem_append]
  exact ⟨fun h => ⟨fun d hd => h d (.inl hd), fun d hd => h d (.inr hd)⟩, fun h d hd => hd.elim (h.1 d) (h.2 d)⟩
theorem okd_take {b : Int} {l : List Int} (h : okd b l) (k : Nat) : okd b (l.take k) := fun d hd => h d (List.mem_of_mem_take hd)
theorem okd_drop {b : Int} {l : List Int} (h : okd b l) (k : Nat) : okd b (l.drop k) := fun d hd => h d (List.mem_of_mem_drop hd)
theorem okd_get {b : Int} {l : List Int} (h : okd b l) (hb : 0 < b) (i : Nat) : 0 ≤ l.getD i 0 ∧ l.getD i 0 < b := by
  rw [List.getD_eq_getElem?_getD]
  cases e : l[i]? with
  | none => simp; omega
  | some d => exact h d (List.mem_of_getElem? e)
theorem okd_set {b : Int} {l : List Int} (h : okd b l) (i : Nat) {d : Int} (h0 : 0 ≤ d) (h1 : d < b) : okd b (l.set i d) := fun x hx => by
  rcases List.mem_or_eq_of_mem_set hx with hx | hx
  · exact h x hx
  · subst hx; exact ⟨h0, h1⟩
theorem okd_replicate {b : Int} (n : Nat) (hb : 0 < b) : okd b (List.replicate n 0) := fun d hd => by
  have := (List.mem_replicate.1 hd).2
  subst this
  exact ⟨Int.le_refl _, hb⟩

theorem ev_append (b : Int) (l m : List Int) : ev b (l ++ m) = ev b l + b ^ l.length * ev b m := by
  induction l with
  | nil => simp [ev]
  | cons d l ih =>
    simp only [List.cons_append, ev, ih, List.length_cons, Int.pow_succ, Int.mul_add]
    rw [Int.mul_comm (b ^ l.length) b, Int.mul_assoc]
    omega
theorem ev_snoc (b : Int) (l : List Int) (d : Int) : ev b (l ++ [d]) = ev b l + b ^ l.length * d := by
  rw [ev_append]
  simp [ev]
theorem ev_replicate (b : Int) (n : Nat) : ev b (List.replicate n 0) = 0 := by
  induction n with
  | zero => rfl
  | succ n ih => simp [List.replicate_succ, ev, ih]
theorem ev_split (b : Int) (l : List Int) (k : Nat) (hk : k ≤ l.length) : ev b l = ev b (l.take k) + b ^ k * ev b (l.drop k) := by
  conv => lhs; rw [← List.take_append_drop k l]
  rw [ev_append, List.length_take, Nat.min_eq_left hk]
theorem ev_set (b : Int) (l : List Int) (i : Nat) (d : Int) (h : i < l.length) : ev b (l.set i d) = ev b l + b ^ i * (d - l.getD i 0) := by
  induction l generalizing i with
  | nil => simp at h
  | cons x l ih =>
    cases i with
    | zero => simp [ev]; omega
    | succ i =>
      have hi : i < l.length := by simpa using h
      simp only [List.set_cons_succ, ev, ih i hi, List.getD_cons_succ, Int.pow_succ, Int.mul_add]
      rw [Int.mul_comm (b ^ i) b, Int.mul_assoc]
      omega
theorem pow_mono {b : Int} (hb : 0 < b) {m n : Nat} (h : m ≤ n) : b ^ m ≤ b ^ n := by
  obtain ⟨k, rfl⟩ := Nat.le.dest h
  have h1 : 0 < b ^ k := Int.pow_pos hb
  have h2 : 0 < b ^ m := Int.pow_pos hb
  have h3 := Int.mul_le_mul_of_nonneg_left (show (1 : Int) ≤ b ^ k by omega) (Int.le_of_lt h2)
  rw [Int.pow_add]
  omega
theorem pow_pos {b : Int} (hb : 0 < b) (n : Nat) : 0 < b ^ n := Int.pow_pos hb
theorem ev_nonneg {b : Int} {l : List Int} (h : okd b l) (hb : 0 < b) : 0 ≤ ev b l := by
  induction l with
  | nil => simp [ev]
  | cons d l ih =>
    obtain ⟨hd, hl⟩ := okd_cons.1 h
    have := Int.mul_nonneg (Int.le_of_lt hb) (ih hl)
    simp only [ev]
    omega
theorem ev_lt {b : Int} {l : List Int} (h : okd b l) (hb : 0 < b) : ev b l < b ^ l.length := by
  induction l with
  | nil => simp [ev]
  | cons d l ih =>
    obtain ⟨hd, hl⟩ := okd_cons.1 h
    have h1 : ev b l + 1 ≤ b ^ l.length := ih hl
    have h2 := Int.mul_le_mul_of_nonneg_left h1 (Int.le_of_lt hb)
    simp only [ev, List.length_cons, Int.pow_succ]
    rw [Int.mul_comm (b ^ l.length) b]
    rw [Int.mul_add, Int.mul_one] at h2
    omega
theorem ev_mod {b : Int} {l : List Int} (h : okd b l) (hb : 0 < b) (k : Nat) (hk : k ≤ l.length) : ev b (l.take k) = ev b l % b ^ k := by
  have h1 := ev_split b l k hk
  have h2 := ev_lt (okd_take h k) hb
  have h3 := ev_nonneg (okd_take h k) hb
  rw [List.length_take, Nat.min_eq_left hk] at h2
  rw [h1, Int.add_mul_emod_self_left, Int.emod_eq_of_lt h3 h2]
theorem ev_div {b : Int} {l : List Int} (h : okd b l) (hb : 0 < b) (k : Nat) (hk : k ≤ l.length) : ev b (l.drop k) = ev b l / b ^ k := by
  have h1 := ev_split b l k hk
  have h2 := ev_lt (okd_take h k) hb
  have h3 := ev_nonneg (okd_take h k) hb
  rw [List.length_take, Nat.min_eq_left hk] at h2
  rw [h1, Int.add_mul_ediv_left _ _ (Int.ne_of_gt (pow_pos hb k)), Int.ediv_eq_zero_of_lt h3 h2, Int.zero_add]

/-! ### canonical lists -/
theorem Cn_nil (b : Int) : Cn b [] := ⟨okd_nil b, fun d h => by simp at h⟩
theorem Cn_tail {b d : Int} {l : List Int} (h : Cn b (d :: l)) : Cn b l := ⟨(okd_cons.1 h.ok).2, fun x hx => h.top x (by
  cases l with
  | nil => simp at hx
  | cons y l => simpa [List.getLast?_cons_cons] using hx)⟩
theorem Cn_zero {b : Int} {l : List Int} (h : Cn b l) (hb : 0 < b) (h0 : ev b l = 0) : l = [] := by
  induction l with
  | nil => rfl
  | cons d l ih =>
    exfalso
    obtain ⟨hd, hl⟩ := okd_cons.1 h.ok
    have h1 := ev_nonneg hl hb
    simp only [ev] at h0
    have h2 := Int.mul_nonneg (Int.le_of_lt hb) h1
    have h3 : b * ev b l = 0 := by omega
    have h4 : ev b l = 0 := by
      rcases Int.mul_eq_zero.1 h3 with h | h
      · omega
      · exact h
    have h5 := ih (Cn_tail h) h4
    subst h5
    exact h.top d (by simp) (by omega)
theorem Cn_pos {b : Int} {l : List Int} (h : Cn b l) (hb : 0 < b) (h0 : l ≠ []) : 0 < ev b l := by
  have h1 := ev_nonneg h.ok hb
  have h2 : ev b l ≠ 0 := fun h2 => h0 (Cn_zero h hb h2)
  omega
theorem Cn_inj {b : Int} {l m : List Int} (h : Cn b l) (k : Cn b m) (hb : 0 < b) (he : ev b l = ev b m) : l = m := by
  induction l generalizing m with
  | nil => exact (Cn_zero k hb (by simpa [ev] using he.symm)).symm
  | cons d l ih =>
    cases m with
    | nil => exact absurd (Cn_zero h hb (by simpa [ev] using he)) (by simp)
    | cons x m =>
      obtain ⟨hd, hl⟩ := okd_cons.1 h.ok
      obtain ⟨hx, hm⟩ := okd_cons.1 k.ok
      simp only [ev] at he
      have e1 : d = x := by
        have a1 : (d + b * ev b l) % b = d := by rw [Int.add_mul_emod_self_left, Int.emod_eq_of_lt hd.1 hd.2]
        have a2 : (x + b * ev b m) % b = x := by rw [Int.add_mul_emod_self_left, Int.emod_eq_of_lt hx.1 hx.2]
        rw [← a1, he, a2]
      subst e1
      have e2 : b * ev b l = b * ev b m := by omega
      have e3 : ev b l = ev b m := Int.eq_of_mul_eq_mul_left (Int.ne_of_gt hb) e2
      rw [ih (Cn_tail h) (Cn_tail k) e3]
theorem Cn_len_ge {b : Int} {l : List Int} (h : Cn b l) (hb : 0 < b) (h0 : l ≠ []) : b ^ (l.length - 1) ≤ ev b l := by
  obtain ⟨m, d, rfl⟩ : ∃ m d, l = m ++ [d] := ⟨l.dropLast, l.getLast h0, (List.dropLast_concat_getLast h0).symm⟩
  have hd := h.top d (by simp)
  have h1 := (okd_append.1 h.ok).2 d (by simp)
  have h2 := ev_nonneg (okd_append.1 h.ok).1 hb
  rw [ev_snoc]
  simp only [List.length_append, List.length_cons, List.length_nil, Nat.zero_add, Nat.add_sub_cancel]
  have h3 := Int.mul_le_mul_of_nonneg_left (show (1 : Int) ≤ d by omega) (Int.le_of_lt (pow_pos hb m.length))
  rw [Int.mul_one] at h3
  omega
/-- A number below b to the k has at most k digits. -/
theorem Cn_len_le {b : Int} {l : List Int} (h : Cn b l) (hb : 1 < b) (k : Nat) (hk : ev b l < b ^ k) : l.length ≤ k := by
  by_cases h0 : l = []
  · subst h0; simp
  · have h1 := Cn_len_ge h (by omega) h0
    rcases Nat.lt_or_ge k l.length with h2 | h2
    · exfalso
      have h3 : k ≤ l.length - 1 := by omega
      have h4 : b ^ k ≤ b ^ (l.length - 1) := pow_mono (by omega) h3
      omega
    · exact h2
/-- A number from b to the k on has more than k digits. -/
theorem Cn_len_gt {b : Int} {l : List Int} (h : okd b l) (hb : 1 < b) (k : Nat) (hk : b ^ k ≤ ev b l) : k < l.length := by
  have h1 := ev_lt h (by omega)
  rcases Nat.lt_or_ge k l.length with h2 | h2
  · exact h2
  · exfalso
    have h4 : b ^ l.length ≤ b ^ k := pow_mono (by omega) h2
    omega

/-- Without the noughts at its end. -/
def strip (l : List Int) : List Int := (l.reverse.dropWhile (· == 0)).reverse
theorem strip_snoc (l : List Int) (d : Int) : strip (l ++ [d]) = if d = 0 then strip l else l ++ [d] := by
  unfold strip
  rw [List.reverse_append]
  simp only [List.reverse_cons, List.reverse_nil, List.nil_append, List.singleton_append, List.dropWhile_cons]
  by_cases h : d = 0
  · simp [h]
  · simp [h]
theorem strip_nil : strip [] = [] := rfl
theorem strip_cn {b : Int} (l : List Int) (h : okd b l) : Cn b (strip l) ∧ ev b (strip l) = ev b l ∧ ∃ k, k ≤ l.length ∧ strip l = l.take k := by
  obtain ⟨n, hn⟩ : ∃ n, l.length = n := ⟨_, rfl⟩
  induction n generalizing l with
  | zero =>
    have : l = [] := List.eq_nil_of_length_eq_zero hn
    subst this
    exact ⟨Cn_nil b, rfl, 0, by simp, rfl⟩
  | succ n ih =>
    have h0 : l ≠ [] := by intro e; subst e; simp at hn
    obtain ⟨m, d, rfl⟩ : ∃ m d, l = m ++ [d] := ⟨l.dropLast, l.getLast h0, (List.dropLast_concat_getLast h0).symm⟩
    rw [strip_snoc]
    by_cases hd : d = 0
    · rw [if_pos hd]
      obtain ⟨h1, h2, k, h3, h4⟩ := ih m (okd_append.1 h).1 (by simpa using hn)
      refine ⟨h1, by rw [h2, ev_snoc, hd]; simp, k, by simp; omega, ?_⟩
      rw [h4, List.take_append_of_le_length h3]
    · rw [if_neg hd]
      exact ⟨⟨h, fun x hx => by simp at hx; omega⟩, rfl, _, Nat.le_refl _, (List.take_length).symm⟩
theorem strip_of_cn {b : Int} {l : List Int} (h : Cn b l) : strip l = l := by
  by_cases h0 : l = []
  · subst h0; rfl
  · obtain ⟨m, d, rfl⟩ : ∃ m d, l = m ++ [d] := ⟨l.dropLast, l.getLast h0, (List.dropLast_concat_getLast h0).symm⟩
    rw [strip_snoc, if_neg (h.top d (by simp))]
theorem Cn_take_strip {b : Int} {l : List Int} (h : okd b l) : (strip l).length ≤ l.length := by
  obtain ⟨_, _, k, h1, h2⟩ := strip_cn l h
  rw [h2, List.length_take]
  omega

/-- Every number has its digits. -/
theorem Cn_exists {b : Int} (hb : 1 < b) (n : Int) (h0 : 0 ≤ n) : ∃ l, Cn b l ∧ ev b l = n := by
  obtain ⟨k, rfl⟩ := Int.eq_ofNat_of_zero_le h0
  clear h0
  induction k using Nat.strongRecOn with
  | _ k ih =>
    by_cases hk : k = 0
    · subst hk; exact ⟨[], Cn_nil b, rfl⟩
    · have hlt : ((k : Int) / b).toNat < k := by
        have h1 : (k : Int) / b < k := Int.ediv_lt_self_of_pos_of_ne_one (by omega) (by omega)
        omega
      have hge : 0 ≤ (k : Int) / b := Int.ediv_nonneg (by omega) (by omega)
      obtain ⟨l, hl, he⟩ := ih _ hlt
      have he' : ev b l = (k : Int) / b := by rw [he]; omega
      have hm0 := Int.emod_nonneg (k : Int) (show b ≠ 0 by omega)
      have hm1 := Int.emod_lt_of_pos (k : Int) (show 0 < b by omega)
      have hkk := Int.emod_add_mul_ediv (k : Int) b
      refine ⟨((k : Int) % b) :: l, ⟨okd_cons.2 ⟨⟨hm0, hm1⟩, hl.ok⟩, fun d hd => ?_⟩, by simp only [ev, he']; omega⟩
      cases l with
      | nil =>
        simp [ev] at he'
        have : d = (k : Int) % b := by simpa using hd.symm
        rw [← he'] at hkk
        simp at hkk
        omega
      | cons x l => exact hl.top d (by simpa [List.getLast?_cons_cons] using hd)

theorem ev_nil (b : Int) : ev b [] = 0 := rfl
theorem ev_cons (b d : Int) (l : List Int) : ev b (d :: l) = d + b * ev b l := rfl
attribute [irreducible] ev

/-- The two bases, behind names: Lean counts great numerals up where it compares two terms that hold them. -/
def BW : Int := 18446744073709551616
def BH : Int := 65536
theorem BW_def : BW = 18446744073709551616 := rfl
theorem BH_def : BH = 65536 := rfl
attribute [irreducible] BW BH
theorem BW_pos : 0 < BW := by rw [BW_def]; omega
theorem BH_pos : 0 < BH := by rw [BH_def]; omega
theorem BW_gt : 1 < BW := by rw [BW_def]; omega
theorem BH_gt : 1 < BH := by rw [BH_def]; omega
theorem BW_BH : BW = BH ^ 4 := by rw [BW_def, BH_def]; rfl
theorem BH_two : BH = 2 ^ 16 := by rw [BH_def]; rfl
theorem BW_two : BW = 2 ^ 64 := by rw [BW_def]; rfl

end Go.Proofs.YtgpgacnnkjiadaaGreatDoor.Dig
