/-
  CONTRACT of the reference's Upper; the texts of the formats e and g hold bytes.
-/
import Derived.Test.YtfnknldbjckgoaaGreatDoorGx2
import Derived.Test.YtfnknldbjckgoaaGreatDoorSpAll
import Derived.Test.YtfnknldbjckgoaaGreatDoorAppD
namespace Go.Proofs.YtfnknldbjckgoaaGreatDoor.Sp
open Go.RowKit Go.Proofs.YtfnknldbjckgoaaGreatDoorW.PrintWords Go.Proofs.YtfnknldbjckgoaaGreatDoorW.PrintLast Go.Proofs.YtfnknldbjckgoaaGreatDoorW.PrintMore Go.Proofs.YtfnknldbjckgoaaGreatDoor.Dig
set_option linter.unusedVariables false
set_option linter.unusedSimpArgs false
theorem bt_str (l : List Int) (j : Nat) (hj : j < l.length) (h : 0 ≤ l.getD j 0 ∧ l.getD j 0 < 256) : bt (strOfNums l) (j : Int) = l.getD j 0 := by
  unfold bt
  rw [dif_pos (show (j : Int).toNat < (strOfNums l).size by rw [Int.toNat_natCast, strOfNums_sz]; exact hj)]
  exact str_at l j hj (by rw [strOfNums_sz]; exact hj) h
theorem upper_l (l : List Int) (hc : ∀ c ∈ l, 0 ≤ c ∧ c < 256) (hl : l.length ≤ 100000000) (d : Nat) : ∀ (j : Nat) (acc : List Int), j + d = l.length → acc.length = j → ∀ k, d < k → spec_Upper.l0 k (strOfNums l) acc (l.length : Int) (j : Int) = some (strOfNums (acc ++ upT (l.drop j))) := by
  induction d with
  | zero =>
    intro j acc hj ha k hk
    obtain ⟨k, rfl⟩ : ∃ m, k = m + 1 := ⟨k - 1, by omega⟩
    simp only [spec_Upper.l0]
    rw [if_neg (by omega), List.drop_eq_nil_of_le (by omega)]
    simp [upT]
  | succ d ih =>
    intro j acc hj ha k hk
    obtain ⟨k, rfl⟩ : ∃ m, k = m + 1 := ⟨k - 1, by omega⟩
    have hjl : j < l.length := by omega
    have hcc := hc _ (getD_memI hjl)
    have hb := bt_str l j hjl hcc
    have hw : wrap64 ((j : Int) + 1) = ((j + 1 : Nat) : Int) := by rw [w64 (by omega) (by omega)]; omega
    have hd : upT (l.drop j) = upC (l.getD j 0) :: upT (l.drop (j + 1)) := by
      rw [List.drop_eq_getElem_cons hjl, List.getD_eq_getElem?_getD, List.getElem?_eq_getElem hjl]
      rfl
    have hn : ∀ y, y = upC (l.getD j 0) → spec_Upper.l0 k (strOfNums l) (acc ++ [y]) (l.length : Int) (wrap64 ((j : Int) + 1)) = some (strOfNums (acc ++ upT (l.drop j))) := by
      intro y hy
      rw [hw, ih (j + 1) (acc ++ [y]) (by omega) (by simp [ha]) k (by omega), hd, hy, List.append_assoc]
      rfl
    simp only [spec_Upper.l0]
    rw [if_pos (by omega), if_pos (by omega), if_pos (by rw [strOfNums_sz]; omega), hb]
    by_cases h1 : l.getD j 0 ≥ 97
    · rw [if_pos h1]
      by_cases h2 : l.getD j 0 ≤ 122
      · rw [if_pos h2, if_pos (by omega)]
        exact hn _ (by unfold upC; rw [if_pos ⟨h1, h2⟩]; omega)
      · rw [if_neg h2, if_pos (by omega)]
        exact hn _ (by unfold upC; rw [if_neg (by omega)])
    · rw [if_neg h1, if_pos (by omega)]
      exact hn _ (by unfold upC; rw [if_neg (by omega)])
theorem upper_c (l : List Int) (w : World) (hc : ∀ c ∈ l, 0 ≤ c ∧ c < 256) (hl : l.length ≤ 100000000) :
    Calls Tryz.prog 19 #[.string (strOfNums l)] w fun e w' => e = .returned (.string (strOfNums (upT l))) ∧ Below w.heap.size w w' := by
  have h := upper_l l hc hl l.length 0 [] (by omega) rfl (l.length + 1) (by omega)
  rw [List.nil_append, List.drop_zero] at h
  exact spec_Upper.calls (l.length + 1) _ _ w (by unfold spec_Upper.f; rw [strOfNums_sz]; exact h)
/-- Bytes, and not too many. -/
def Chr (l : List Int) : Prop := (∀ c ∈ l, 0 ≤ c ∧ c < 256) ∧ l.length ≤ 10000000
theorem fmtET_chr {d : List Int × Int} (h : DBd d) (ch prec : Int) (hc : 0 ≤ ch ∧ ch < 256) (hp : prec ≤ 100000) : Chr (fmtET d ch prec) := by
  have hex := expF_len (d.2 - 1) (by have := h.lo; have := h.hi; omega)
  rw [fmtET_parts _ _ _ h.dc.ne]
  constructor
  · intro c hm
    rcases List.mem_append.1 hm with hm | hm
    · have := headE_mem h.digs prec c hm; omega
    · rcases List.mem_cons.1 hm with hm | hm
      · omega
      · rcases List.mem_cons.1 hm with hm | hm
        · split at hm <;> omega
        · have := expF_dec _ c hm; omega
  · rw [List.length_append, headE_len, List.length_cons, List.length_cons]
    split <;> omega
theorem fmtFT_chr {d : List Int × Int} (h : DBd d) (prec : Int) (hp : prec ≤ 3000000) : Chr (fmtFT d prec) := by
  refine ⟨fun c hc => by have := fmtFT_low d prec h.digs c hc; omega, ?_⟩
  have h1 : (wholeT d).length ≤ 9010 := by
    have := h.len
    have := h.hi
    unfold wholeT
    split <;> simp <;> omega
  unfold fmtFT fracT
  rw [List.length_append]
  split
  · rw [List.length_cons, List.length_map, List.length_range]; omega
  · simp; omega
theorem fmtGT_chr {d : List Int × Int} (h : DBd d) (ch prec : Int) (short : Bool) (hc : 2 ≤ ch ∧ ch < 256) (hp : prec ≤ 10000) : Chr (fmtGT d ch prec short) := by
  unfold fmtGT
  simp only
  have h1 := h.len
  have h2 := h.lo
  obtain ⟨ep, hep⟩ : ∃ ep : Int, ep = (if short = true then (6 : Int) else if (d.1.length : Int) < prec ∧ d.2 ≤ (d.1.length : Int) then (d.1.length : Int) else prec) := ⟨_, rfl⟩
  rw [← hep]
  split
  · exact fmtET_chr h _ _ (by omega) (by split <;> omega)
  · exact fmtFT_chr h _ (by split <;> omega)
theorem finT_chr {vN b p : Nat} {x : Int} (h0 : DBd (initD vN x)) (h9 : (initD vN x).2 ≤ 1000) (hs : DBd (shortV vN b p x)) (k : Int) (hk : -10 ≤ k ∧ k ≤ 1000) : Chr (finT vN b p x 101 k) ∧ Chr (finT vN b p x 103 k) := by
  have hl := hs.len
  unfold finT
  rw [decT_e, decT_g]
  constructor
  · split
    · exact fmtET_chr hs _ _ (by omega) (by omega)
    · exact fmtET_chr (roundD_bd h0 h9 _ (by omega)) _ _ (by omega) (by omega)
  · split
    · exact fmtGT_chr hs _ _ _ (by omega) (by omega)
    · exact fmtGT_chr (roundD_bd h0 h9 _ (by split <;> omega)) _ _ _ (by omega) (by split <;> omega)
theorem sgn_chr (neg : Bool) {l : List Int} (h : Chr l) : (∀ c ∈ sgn1 neg ++ l, 0 ≤ c ∧ c < 256) ∧ (sgn1 neg ++ l).length ≤ 100000000 := by
  constructor
  · intro c hc
    rcases List.mem_append.1 hc with hc | hc
    · cases neg
      · simp [sgn1] at hc
      · simp [sgn1] at hc; omega
    · exact h.1 c hc
  · have := h.2
    rw [List.length_append]
    cases neg <;> simp [sgn1] <;> omega
theorem up_sgn (neg : Bool) (l : List Int) : upT (sgn1 neg ++ l) = sgn1 neg ++ upT l := by
  rw [upT_append]
  cases neg <;> rfl
end Go.Proofs.YtfnknldbjckgoaaGreatDoor.Sp
