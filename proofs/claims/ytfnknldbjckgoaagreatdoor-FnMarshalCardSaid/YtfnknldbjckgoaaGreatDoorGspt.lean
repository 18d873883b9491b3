/-
  MERGED BY PROGRAM (regroup.py): SpT, WholeC.
-/
import Derived.Test.YtfnknldbjckgoaaGreatDoorGspec
import Derived.Test.YtfnknldbjckgoaaGreatDoorGdec
import Derived.Test.YtfnknldbjckgoaaGreatDoorSpAll
import Derived.Test.YtfnknldbjckgoaaGreatDoorGtxb
/-! ## SpT -/
section
namespace Go.Proofs.YtfnknldbjckgoaaGreatDoor.Sp
open Go.RowKit Go.Proofs.YtfnknldbjckgoaaGreatDoorW.PrintWords Go.Proofs.YtfnknldbjckgoaaGreatDoorW.PrintLast Go.Proofs.YtfnknldbjckgoaaGreatDoorW.PrintMore Go.Proofs.YtfnknldbjckgoaaGreatDoor.Dig
set_option linter.unusedVariables false
set_option linter.unusedSimpArgs false
/-! ### Shl -/
/-! ### byDigit -/
theorem dig_l (l : List Int) (hl : okd BH l) (hlen : l.length < 1099511627776) (D : Int) (hD0 : 0 < D) (hD1 : D < 65536) (d : Nat) : ∀ (out : List Int) (rest : Int), d ≤ l.length → out.length = l.length → okd BH out → 0 ≤ rest → rest < D →
    ev BH (l.drop d) = ev BH (out.drop d) * D + rest → ∀ k, d + l.length + 1 < k → ∃ q r, spec_byDigit.l0 k l D out rest ((d : Int) - 1) = some (q, r) ∧ Cn BH q ∧ ev BH l = ev BH q * D + r ∧ 0 ≤ r ∧ r < D := by
  induction d with
  | zero =>
    intro out rest _ ho hok h0 h1 he k hk
    obtain ⟨k, rfl⟩ : ∃ m, k = m + 1 := ⟨k - 1, by omega⟩
    obtain ⟨s1, s2, _⟩ := strip_cn out hok
    refine ⟨strip out, rest, ?_, s1, by rw [s2]; simpa using he, h0, h1⟩
    simp only [spec_byDigit.l0]
    rw [if_neg (by omega)]
    show (spec_trim.l0 k out).bind _ = _
    rw [trim_l out (by omega) k (by omega)]
    rfl
  | succ d ih =>
    intro out rest hd ho hok h0 h1 he k hk
    obtain ⟨k, rfl⟩ : ∃ m, k = m + 1 := ⟨k - 1, by omega⟩
    have e : (((d + 1 : Nat) : Int) - 1) = (d : Int) := by omega
    have e2 : wrap64 ((d : Int) - 1) = (d : Int) - 1 := w64 (by omega) (by omega)
    have hx := okd_get hl BH_pos d
    rw [BH_def] at hx
    have e3 : wrap64 (rest * 65536) = rest * 65536 := w64 (by omega) (by omega)
    have e4 : wrap64 (rest * 65536 + l.getD d 0) = rest * 65536 + l.getD d 0 := w64 (by omega) (by omega)
    obtain ⟨c, hc⟩ : ∃ c, c = rest * 65536 + l.getD d 0 := ⟨_, rfl⟩
    have hc0 : 0 ≤ c := by omega
    have hc1 : c < D * 65536 := by
      have : (rest + 1) * 65536 ≤ D * 65536 := Int.mul_le_mul_of_nonneg_right (by omega) (by omega)
      omega
    have hq0 : 0 ≤ c / D := Int.ediv_nonneg hc0 (by omega)
    have hq1 : c / D < 65536 := Int.ediv_lt_of_lt_mul hD0 (by rw [Int.mul_comm]; exact hc1)
    have e5 : wrap64 (c / D) = c / D := w64 (by omega) (by omega)
    have hr0 := Int.emod_nonneg c (show D ≠ 0 by omega)
    have hr1 := Int.emod_lt_of_pos c hD0
    have hqr := Int.emod_add_mul_ediv c D
    have tq : Int.tdiv c D = c / D := Int.tdiv_eq_ediv_of_nonneg hc0
    have tr : Int.tmod c D = c % D := Int.tmod_eq_emod_of_nonneg hc0
    simp only [spec_byDigit.l0]
    rw [e, if_pos (by omega), if_pos (by omega), if_pos (by omega), if_neg (by omega), if_pos (by omega), rd_nat, e3, e4, ← hc, tq, tr, e5, e2, Int.toNat_natCast]
    clear tq tr
    refine ih (out.set d (c / D)) (c % D) (by omega) (by simpa using ho) (okd_set hok d hq0 (by rw [BH_def]; exact hq1)) hr0 hr1 ?_ k (by omega)
    rw [drop_cons l d (by omega), drop_cons (out.set d (c / D)) d (by rw [List.length_set]; omega), rd_set_self _ _ _ (by omega), List.drop_set_of_lt (by omega), ev_cons, ev_cons, he]
    have hB := BH_def
    rw [show l.getD d 0 = c - rest * BH by rw [hB]; omega]
    clear ih he hok hl hx hc1 hq1 e e2 e3 e4 e5 hc hq0 hr0 hr1
    generalize c / D = q at *
    generalize c % D = r at *
    generalize ev BH (List.drop (d + 1) out) = T
    clear hk hd ho hlen hD0 hD1 hB h0 h1 hc0
    grind
theorem dig_ev (l : List Int) (hl : Cn BH l) (hlen : l.length < 1099511627776) (D : Int) (hD0 : 0 < D) (hD1 : D < 65536) : ∃ q r, Ev (fun k => spec_byDigit.f k l D) (q, r) ∧ Cn BH q ∧ ev BH l = ev BH q * D + r ∧ 0 ≤ r ∧ r < D := by
  obtain ⟨q, r, h, h2⟩ := dig_l l hl.ok hlen D hD0 hD1 l.length (List.replicate l.length 0) 0 (Nat.le_refl _) (by simp) (okd_replicate _ BH_pos) (by omega) hD0 (by simp [ev_nil]) (l.length + l.length + 2) (by omega)
  refine ⟨q, r, Ev.of (spec_byDigit.mono l D) (k := l.length + l.length + 2) ?_, h2⟩
  have e2 : wrap64 ((l.length : Int) - 1) = (l.length : Int) - 1 := w64 (by omega) (by omega)
  show (if 0 ≤ (l.length : Int) then (if ((l.length : Int) : Int).toNat ≤ 35184372088832 then (spec_byDigit.l0 (l.length + l.length + 2) l D (List.replicate ((l.length : Int) : Int).toNat 0) 0 (wrap64 ((l.length : Int) - 1))) else none) else none) = _
  rw [if_pos (by omega), if_pos (by simp; omega), e2, Int.toNat_natCast, h]
/-! ### Digits, plain -/
theorem strOfNums_app (l m : List Int) : strOfNums (l ++ m) = strOfNums l ++ strOfNums m := by
  apply ByteArray.ext
  rw [ByteArray.data_append]
  apply Array.toList_inj.1
  simp [strOfNums]
theorem strOfNums_sz (l : List Int) : (strOfNums l).size = l.length := by
  rw [← ByteArray.size_data]
  simp [strOfNums]
theorem itoaT_lenS (n : Nat) (h : n < 10 ^ 18) : (itoaT n).length ≤ 18 := by
  unfold itoaT
  split
  · simp
  · exact figs_len 10 18 n (by omega) h
theorem figs10 (n : Nat) (h : 0 < n) : figs 10 n = figs 10 (n / 10) ++ [fig (n % 10)] := (figs_succ 10 n (by omega) (by omega) h).1
theorem digits_l (d : Nat) : ∀ (n : Nat) (l : List Int) (acc : List Int), n < 10 ^ d → Cn BH l → ev BH l = (n : Int) → l.length ≤ 100000 → acc.length + d ≤ 1000000 → Ev (fun k => spec_Digits.l0 k l (strOfNums acc)) (strOfNums (figs 10 n ++ acc)) := by
  induction d with
  | zero =>
    intro n l acc hn hc he hl ha
    have hn0 : n = 0 := by simpa using hn
    subst hn0
    have hl0 : l = [] := Cn_zero hc BH_pos he
    subst hl0
    rw [figs_zero, List.nil_append]
    exact Ev.step (f := fun _ => some (strOfNums acc)) (fun k => rfl) (Ev.now _)
  | succ d ih =>
    intro n l acc hn hc he hl ha
    by_cases hn0 : n = 0
    · subst hn0
      have hl0 : l = [] := Cn_zero hc BH_pos he
      subst hl0
      rw [figs_zero, List.nil_append]
      exact Ev.step (f := fun _ => some (strOfNums acc)) (fun k => rfl) (Ev.now _)
    · have hll : 0 < l.length := by
        rcases Nat.eq_zero_or_pos l.length with h | h
        · rw [List.eq_nil_of_length_eq_zero h, ev_nil] at he; omega
        · exact h
      obtain ⟨q, r, hq, hqc, hqe, hr0, hr1⟩ := dig_ev l hc (by omega) 10 (by omega) (by omega)
      have hqn : ev BH q = ((n / 10 : Nat) : Int) := by omega
      have hrn : r = ((n % 10 : Nat) : Int) := by omega
      have hql : q.length ≤ 100000 := by
        rcases Nat.lt_or_ge q.length l.length with h | h
        · omega
        · rcases Nat.lt_or_ge l.length q.length with h2 | h2
          · have := len_lt_ev hc hqc h2
            omega
          · omega
      have hw : wrap64 (48 + r) % 256 = fig (n % 10) := by
        rw [w64 (by omega) (by omega), fig_dec _ (Nat.mod_lt n (by omega)), hrn]; omega
      have hi := ih (n / 10) q (fig (n % 10) :: acc) (by rw [Nat.pow_succ] at hn; omega) hqc hqn hql (by simp only [List.length_cons]; omega)
      rw [figs10 n (by omega), List.append_assoc]
      refine Ev.step (f := fun k => (spec_byDigit.f k l 10).bind fun bt => ((some (([(wrap64 (48 + bt.2)) % 256] : List Int) : List Int)).bind fun y => (if (strOfNums y).size + (strOfNums acc).size ≤ 9223372036854775807 then (spec_Digits.l0 k bt.1 ((strOfNums y) ++ (strOfNums acc))) else (none)))) (fun k => ?_) ?_
      · simp only [spec_Digits.l0]
        rw [if_pos (by omega)]
      · refine Ev.bind hq ?_
        refine Ev.congr (f := fun k => spec_Digits.l0 k q (strOfNums (fig (n % 10) :: acc))) (fun k => ?_) hi
        show (if (strOfNums [wrap64 (48 + r) % 256]).size + (strOfNums acc).size ≤ 9223372036854775807 then _ else _) = _
        rw [hw, strOfNums_sz, strOfNums_sz, if_pos (by simp only [List.length_cons, List.length_nil]; omega), ← strOfNums_app]
        rfl
theorem digits_ev (n : Nat) (d : Nat) (hd : n < 10 ^ d) (h9 : d ≤ 100000) (l : List Int) (hc : Cn BH l) (he : ev BH l = (n : Int)) (hl : l.length ≤ 100000) : Ev (fun k => spec_Digits.f k l) (strOfNums (itoaT n)) := by
  by_cases hn0 : n = 0
  · subst hn0
    have hl0 : l = [] := Cn_zero hc BH_pos he
    subst hl0
    exact Ev.now _
  · have hll : 0 < l.length := by
      rcases Nat.eq_zero_or_pos l.length with h | h
      · rw [List.eq_nil_of_length_eq_zero h, ev_nil] at he; omega
      · exact h
    have h := digits_l d n l [] hd hc he hl (by simp; omega)
    rw [List.append_nil] at h
    unfold itoaT
    rw [if_neg hn0]
    refine Ev.congr (fun k => ?_) h
    unfold spec_Digits.f
    rw [if_neg (by omega)]
    rfl
end Go.Proofs.YtfnknldbjckgoaaGreatDoor.Sp
end

/-! ## WholeC -/
section
namespace Go.Proofs.YtfnknldbjckgoaaGreatDoor.Sp
open Go.RowKit Go.Proofs.YtfnknldbjckgoaaGreatDoorW.PrintWords Go.Proofs.YtfnknldbjckgoaaGreatDoorW.PrintLast Go.Proofs.YtfnknldbjckgoaaGreatDoorW.PrintMore Go.Proofs.YtfnknldbjckgoaaGreatDoor.Dig
set_option linter.unusedVariables false
set_option linter.unusedSimpArgs false
theorem sadd1 {a b c : ByteArray} (h : c = a ++ b) (hs : a.size + b.size ≤ 100000) (w : World) : (Op.stringOp .add a b).run Tryz.prog w = .ok (.string c) w := by
  rw [h]; exact run_string_add_sum w a b (by omega)
end Go.Proofs.YtfnknldbjckgoaaGreatDoor.Sp
end
