/-
  PLAIN: what spec.In and spec.Hex tell (as printed), and CONTRACTS of spec.Hex, spec.HexBelow.
-/
import Derived.Test.YtfnknldbjckgoaaGreatDoorGspt
import Derived.Test.YtfnknldbjckgoaaGreatDoorSpAll
import Derived.Test.YtfnknldbjckgoaaGreatDoorGx1
import Derived.Lib.Strings
namespace Go.Proofs.YtfnknldbjckgoaaGreatDoor.Sp
open Go.RowKit Go.Proofs.YtfnknldbjckgoaaGreatDoorW.PrintWords Go.Proofs.YtfnknldbjckgoaaGreatDoorW.PrintLast Go.Proofs.YtfnknldbjckgoaaGreatDoorW.PrintMore Go.Proofs.YtfnknldbjckgoaaGreatDoor.Dig
set_option linter.unusedVariables false
set_option linter.unusedSimpArgs false
/-- The figures to the base 16. -/
def hx16 : ByteArray := ⟨#[48, 49, 50, 51, 52, 53, 54, 55, 56, 57, 97, 98, 99, 100, 101, 102]⟩
theorem hx_one (r : Nat) (h : r < 16) : hx16.extract r (r + 1) = strOfNums [fig r] := by
  match r, h with
  | 0, _ => rfl
  | 1, _ => rfl
  | 2, _ => rfl
  | 3, _ => rfl
  | 4, _ => rfl
  | 5, _ => rfl
  | 6, _ => rfl
  | 7, _ => rfl
  | 8, _ => rfl
  | 9, _ => rfl
  | 10, _ => rfl
  | 11, _ => rfl
  | 12, _ => rfl
  | 13, _ => rfl
  | 14, _ => rfl
  | 15, _ => rfl
  | d + 16, h => exact absurd h (by omega)
theorem str_ne {acc : List Int} (h : acc ≠ []) : (strOfNums acc).toList ≠ [] := by
  intro h2
  have h3 := strOfNums_sz acc
  have h4 : (strOfNums acc).data.toList.length = acc.length := by rw [Array.length_toList]; exact h3
  rw [ByteArray.toList_eq] at h2
  rw [h2, List.length_nil] at h4
  exact h (List.eq_nil_of_length_eq_zero h4.symm)
theorem in_l (d : Nat) : ∀ (n : Nat) (l : List Int) (acc : List Int), n < 16 ^ d → Cn BH l → ev BH l = (n : Int) → l.length ≤ 100000 → acc.length + d ≤ 1000000 → (acc ≠ [] ∨ 0 < n) → Ev (fun k => spec_In.l0 k l 16 (strOfNums acc)) (strOfNums (figs 16 n ++ acc)) := by
  have base : ∀ acc : List Int, acc ≠ [] → Ev (fun k => spec_In.l0 k [] 16 (strOfNums acc)) (strOfNums (figs 16 0 ++ acc)) := by
    intro acc ha
    rw [figs_zero, List.nil_append]
    refine Ev.step (f := fun _ => some (strOfNums acc)) (fun k => ?_) (Ev.now _)
    simp only [spec_In.l0]
    rw [if_neg (by simp), if_neg (str_ne ha)]
  induction d with
  | zero =>
    intro n l acc hn hc he hl ha hne
    have hn0 : n = 0 := by simpa using hn
    subst hn0
    have hl0 : l = [] := Cn_zero hc BH_pos he
    subst hl0
    exact base acc (by rcases hne with h | h; exact h; omega)
  | succ d ih =>
    intro n l acc hn hc he hl ha hne
    by_cases hn0 : n = 0
    · subst hn0
      have hl0 : l = [] := Cn_zero hc BH_pos he
      subst hl0
      exact base acc (by rcases hne with h | h; exact h; omega)
    · have hll : 0 < l.length := by
        rcases Nat.eq_zero_or_pos l.length with h | h
        · rw [List.eq_nil_of_length_eq_zero h, ev_nil] at he; omega
        · exact h
      obtain ⟨q, r, hq, hqc, hqe, hr0, hr1⟩ := dig_ev l hc (by omega) 16 (by omega) (by omega)
      have hqn : ev BH q = ((n / 16 : Nat) : Int) := by omega
      have hrn : r = ((n % 16 : Nat) : Int) := by omega
      have hql : q.length ≤ 100000 := by
        rcases Nat.lt_or_ge q.length l.length with h | h
        · omega
        · rcases Nat.lt_or_ge l.length q.length with h2 | h2
          · have := len_lt_ev hc hqc h2
            omega
          · omega
      have hw : wrap64 (r + 1) = r + 1 := w64 (by omega) (by omega)
      have hx : hx16.extract r.toNat (r + 1).toNat = strOfNums [fig (n % 16)] := by
        have h1 : r.toNat = n % 16 := by omega
        have h2 : (r + 1).toNat = n % 16 + 1 := by omega
        rw [h1, h2]
        exact hx_one _ (Nat.mod_lt n (by omega))
      have hi := ih (n / 16) q (fig (n % 16) :: acc) (by rw [Nat.pow_succ] at hn; omega) hqc hqn hql (by simp only [List.length_cons]; omega) (.inl (by simp))
      rw [(figs_succ 16 n (by omega) (by omega) (by omega)).1, List.append_assoc]
      refine Ev.step (f := fun k => (spec_byDigit.f k l 16).bind fun bt => (if 0 ≤ bt.2 then (if bt.2 ≤ (wrap64 (bt.2 + 1)) then (if (wrap64 (bt.2 + 1)) ≤ 16 then (if (hx16.extract (bt.2 : Int).toNat ((wrap64 (bt.2 + 1)) : Int).toNat).size + (strOfNums acc).size ≤ 9223372036854775807 then (spec_In.l0 k bt.1 16 ((hx16.extract (bt.2 : Int).toNat ((wrap64 (bt.2 + 1)) : Int).toNat) ++ (strOfNums acc))) else (none)) else (none)) else (none)) else (none))) (fun k => ?_) ?_
      · simp only [spec_In.l0]
        rw [if_pos (by omega)]
        rfl
      · refine Ev.bind hq ?_
        refine Ev.congr (f := fun k => spec_In.l0 k q 16 (strOfNums (fig (n % 16) :: acc))) (fun k => ?_) hi
        show (if 0 ≤ r then _ else _) = _
        rw [if_pos hr0, hw, if_pos (show r ≤ r + 1 by omega), if_pos (show r + 1 ≤ 16 by omega), hx, strOfNums_sz, strOfNums_sz, if_pos (by simp only [List.length_cons, List.length_nil]; omega), ← strOfNums_app]
        rfl
theorem hex_ev (n d : Nat) (hd : n < 16 ^ d) (h9 : d ≤ 100000) (h0 : 0 < n) (l : List Int) (hc : Cn BH l) (he : ev BH l = (n : Int)) (hl : l.length ≤ 100000) : Ev (fun k => spec_Hex.f k l) (strOfNums (figs 16 n)) := by
  have h := in_l d n l [] hd hc he hl (by simp; omega) (.inr h0)
  rw [List.append_nil] at h
  refine Ev.congr (f := fun k => (spec_In.f k l 16).bind fun t => some t) (fun k => rfl) ?_
  exact Ev.bind h (Ev.now _)
theorem hex_c (v : Value) (M : Nat) (w : World) (h : Dg w v (M : Int)) (hf : Fit M) (hM : 0 < M) (hl : (M : Int) < Lim) : Calls Tryz.prog 31 #[v] w fun e w' => e = .returned (.string (strOfNums (figs 16 M))) ∧ Below w.heap.size w w' := by
  obtain ⟨A, c, l, rfl, h2, h3, h4, h5⟩ := h
  have hll := Lim_len h4 (by rw [h5]; exact hl)
  obtain ⟨K, hK⟩ := hex_ev M 150 (Nat.lt_of_lt_of_le hf (by decide +kernel)) (by omega) hM l h4 h5 hll
  exact spec_Hex.calls K A c l _ w h3 h2 (hK K (Nat.le_refl _))
theorem str_cut (l : List Int) (n q : Nat) (hq : q ≤ n) : (strOfNums (l.take n)).extract 0 q = strOfNums (l.take q) := by
  apply ByteArray.ext
  rw [ByteArray.data_extract]
  apply Array.toList_inj.1
  simp [strOfNums, List.map_take, List.take_take, Nat.min_eq_left hq]
end Go.Proofs.YtfnknldbjckgoaaGreatDoor.Sp
