/-
  Several texts in one (merged by program).
-/
import Derived.Test.YtfnknldbjckgoaaGreatDoorGdec
import Derived.Test.YtfnknldbjckgoaaGreatDoorGflt
import Derived.Test.YtfnknldbjckgoaaGreatDoorGspt
import Derived.Test.YtfnknldbjckgoaaGreatDoorSpAll
import Derived.Lib.Strings
import Derived.Test.YtfnknldbjckgoaaGreatDoorGfmt
/-! ## HexP -/
section
namespace Go.Proofs.YtfnknldbjckgoaaGreatDoor.Dig
set_option linter.unusedVariables false
theorem figs_low (b J v : Nat) (hb : 2 ≤ b) (h16 : b ≤ 16) (h1 : b ^ (J - 1) ≤ v) (h2 : v < b ^ J) (hJ : 0 < J) : figs b v = lows b J v := by
  obtain ⟨K, rfl⟩ : ∃ K, J = K + 1 := ⟨J - 1, by omega⟩
  rw [Nat.add_sub_cancel] at h1
  have hd0 : 0 < v / b ^ K := Nat.div_pos h1 (Nat.pow_pos (by omega))
  have hd1 : v / b ^ K < b := Nat.div_lt_of_lt_mul (by rw [← Nat.pow_succ]; exact h2)
  have e : lows b (K + 1) v = fig (v / b ^ K) :: lows b K v := by
    rw [Nat.add_comm, lows_split]
    show [fig (v / b ^ K % b)] ++ lows b K v = _
    rw [Nat.mod_eq_of_lt hd1]
    rfl
  rw [← lz_lows b (K + 1) v hb h2, e, lz, if_neg (fig_ne _ hd0 (by omega))]
end Go.Proofs.YtfnknldbjckgoaaGreatDoor.Dig
end

/-! ## SetX -/
section
namespace Go.Proofs.YtfnknldbjckgoaaGreatDoor.Sp
open Go.RowKit Go.Proofs.YtfnknldbjckgoaaGreatDoorW.PrintWords Go.Proofs.YtfnknldbjckgoaaGreatDoorW.PrintLast Go.Proofs.YtfnknldbjckgoaaGreatDoorW.PrintMore Go.Proofs.YtfnknldbjckgoaaGreatDoor.Dig
set_option linter.unusedVariables false
set_option linter.unusedSimpArgs false
end Go.Proofs.YtfnknldbjckgoaaGreatDoor.Sp
end

/-! ## HexX -/
section
namespace Go.Proofs.YtfnknldbjckgoaaGreatDoor.Sp
open Go.RowKit Go.Proofs.YtfnknldbjckgoaaGreatDoorW.PrintWords Go.Proofs.YtfnknldbjckgoaaGreatDoorW.PrintLast Go.Proofs.YtfnknldbjckgoaaGreatDoorW.PrintMore Go.Proofs.YtfnknldbjckgoaaGreatDoor.Dig
set_option linter.unusedVariables false
set_option linter.unusedSimpArgs false
/-- The figures of a mantissa of 4 k + 1 bits: a one, and k more. -/
theorem figs_one {M k : Nat} (h1 : 2 ^ (4 * k) ≤ M) (h2 : M < 2 ^ (4 * k + 1)) : figs 16 M = 49 :: lows 16 k M := by
  have e : (16 : Nat) ^ k = 2 ^ (4 * k) := by rw [show (16 : Nat) = 2 ^ 4 from rfl, ← Nat.pow_mul]
  have h3 : M < 16 ^ (k + 1) := by
    rw [Nat.pow_succ, e]
    rw [Nat.pow_succ] at h2
    omega
  rw [figs_low 16 (k + 1) M (by omega) (by omega) (by rw [Nat.add_sub_cancel, e]; exact h1) h3 (by omega), Nat.add_comm, lows_split]
  have h4 : M / 16 ^ k = 1 := by
    rw [e]
    rw [Nat.pow_succ] at h2
    apply Nat.div_eq_of_lt_le
    · omega
    · omega
  rw [h4]
  rfl
end Go.Proofs.YtfnknldbjckgoaaGreatDoor.Sp
end

/-! ## SpH -/
section
namespace Go.Proofs.YtfnknldbjckgoaaGreatDoor.Sp
open Go.RowKit Go.Proofs.YtfnknldbjckgoaaGreatDoorW.PrintWords Go.Proofs.YtfnknldbjckgoaaGreatDoorW.PrintLast Go.Proofs.YtfnknldbjckgoaaGreatDoorW.PrintMore Go.Proofs.YtfnknldbjckgoaaGreatDoor.Dig
set_option linter.unusedVariables false
set_option linter.unusedSimpArgs false
theorem str_at (l : List Int) (q : Nat) (hq : q < l.length) (h : q < (strOfNums l).size) (hd : 0 ≤ l.getD q 0 ∧ l.getD q 0 < 256) : (((strOfNums l)[q]'h).toNat : Int) = l.getD q 0 := by
  have h1 : (strOfNums l)[q]'h = ((l.map fun n => UInt8.ofNat n.toNat).toArray)[q]'(by simpa using hq) := rfl
  have h2 : l.getD q 0 = l[q] := by rw [List.getD_eq_getElem?_getD, List.getElem?_eq_getElem hq]; rfl
  rw [h1, List.getElem_toArray, List.getElem_map, UInt8.toNat_ofNat', h2]
  rw [h2] at hd
  omega
theorem str_cut (l : List Int) (n q : Nat) (hq : q ≤ n) : (strOfNums (l.take n)).extract 0 q = strOfNums (l.take q) := by
  apply ByteArray.ext
  rw [ByteArray.data_extract]
  apply Array.toList_inj.1
  simp [strOfNums, List.map_take, List.take_take, Nat.min_eq_left hq]
end Go.Proofs.YtfnknldbjckgoaaGreatDoor.Sp
end

/-! ## SpX -/
section
namespace Go.Proofs.YtfnknldbjckgoaaGreatDoor.Sp
open Go.RowKit Go.Proofs.YtfnknldbjckgoaaGreatDoorW.PrintWords Go.Proofs.YtfnknldbjckgoaaGreatDoorW.PrintLast Go.Proofs.YtfnknldbjckgoaaGreatDoorW.PrintMore Go.Proofs.YtfnknldbjckgoaaGreatDoor.Dig
set_option linter.unusedVariables false
set_option linter.unusedSimpArgs false
theorem itoaT_short (n : Nat) : (itoaT n).length < 2 ↔ n < 10 := by
  unfold itoaT
  by_cases h0 : n = 0
  · subst h0; simp
  · rw [if_neg h0, (figs_succ 10 n (by omega) (by omega) (by omega)).1, List.length_append]
    by_cases h10 : n < 10
    · rw [show n / 10 = 0 by omega, figs_zero]
      simp only [List.length_nil, List.length_cons]; omega
    · have h1 := figs_ne 10 (n / 10) (by omega) (by omega) (by omega)
      have h2 : (figs 10 (n / 10)).length ≠ 0 := fun h => h1 (List.eq_nil_of_length_eq_zero h)
      simp only [List.length_nil, List.length_cons]; omega
set_option maxHeartbeats 3200000 in
set_option maxRecDepth 100000 in
theorem power_c (x : Int) (h : -1000000000 ≤ x ∧ x ≤ 1000000000) (w : World) : Calls Tryz.prog 33 #[.int .i64 x] w fun e w' => e = .returned (.string (strOfNums (expT x))) ∧ Below w.heap.size w w' := by
  obtain ⟨D, hD⟩ : ∃ D, D = x.natAbs := ⟨_, rfl⟩
  have hT : (itoaT D).length ≤ 18 := itoaT_lenS _ (by omega)
  have HSM : Aside0 (∀ W, Calls Tryz.prog 44 #[.int .i64 (max x (-x))] W fun e w' => ∃ v, e = .returned v ∧ Dg w' v (D : Int) ∧ Below W.heap.size W w') := ⟨fun W => by rw [show max x (-x) = (D : Int) by omega]; exact small_c (D : Int) (by omega) (by omega) W⟩
  have HDI : Aside0 (∀ W v, Dg W v (D : Int) → Calls Tryz.prog 43 #[v] W fun e w' => e = .returned (.string (strOfNums (itoaT D))) ∧ Below W.heap.size W w') := ⟨fun W v hd => by
    obtain ⟨A, c, l, rfl, h2, h3, h4, h5⟩ := hd
    have hll : l.length ≤ 100000 := Lim_len h4 (by rw [h5]; exact lt_Lim 64 (by omega) (by omega))
    obtain ⟨K, hK⟩ := digits_ev D 10 (by omega) (by omega) l h4 h5 hll
    exact spec_Digits.calls K (fun _ => True) A c l _ W (V_of_C h3 h2) (hK K (Nat.le_refl _))⟩
  have HB : Aside0 (Below w.heap.size w w) := ⟨Below.refl _ _⟩
  have hsh := itoaT_short D
  obtain ⟨S0, hS0⟩ : ∃ S, S = strOfNums (itoaT D) := ⟨_, rfl⟩
  have hz : S0.size = (itoaT D).length := by rw [hS0, strOfNums_sz]
  rw [← hS0] at HDI
  obtain ⟨S1, hS1⟩ : ∃ S, S = strOfNums ((if D < 10 then [48] else []) ++ itoaT D) := ⟨_, rfl⟩
  have a1 : D < 10 → ∀ w, (Op.stringOp .add ⟨#[48]⟩ S0).run Tryz.prog w = .ok (.string S1) w := fun h10 w => sadd1 (by rw [hS0, hS1, if_pos h10, show (⟨#[48]⟩ : ByteArray) = strOfNums [48] from rfl, ← strOfNums_app]) (by rw [hz, show (⟨#[48]⟩ : ByteArray).size = 1 from rfl]; omega) w
  have hS10 : ¬ D < 10 → S0 = S1 := fun h10 => by rw [hS0, hS1, if_neg h10, List.nil_append]
  have hz1 : S1.size ≤ 19 := by rw [hS1, strOfNums_sz, List.length_append]; split <;> simp <;> omega
  obtain ⟨TT, hTT⟩ : ∃ T, T = strOfNums (expT x) := ⟨_, rfl⟩
  have a2 : ∀ w, (Op.stringOp .add (if x < 0 then ⟨#[45]⟩ else ⟨#[43]⟩) S1).run Tryz.prog w = .ok (.string TT) w := fun w => sadd1 (by
    rw [hTT, hS1]
    unfold expT
    rw [← hD, List.append_assoc, strOfNums_app]
    congr 1
    split <;> rfl) (by split <;> (first | rw [show (⟨#[45]⟩ : ByteArray).size = 1 from rfl] | rw [show (⟨#[43]⟩ : ByteArray).size = 1 from rfl]) <;> omega) w
  rw [← hTT]
  have hnw : IntKind.i64.wrap (-x) = -x := IntWalk.i64_in _ (by omega)
  clear hTT hS1 hS0 hz1
  clear hD
  have HZ := Aside0.mk hz
  have HSH := Aside0.mk hsh
  clear hz hsh hT h
  by_cases hx : x < 0
  · rw [if_pos hx] at a2
    have hxd : decide (x < 0) = true := decide_eq_true hx
    by_cases h10 : D < 10
    · have a1' := a1 h10
      have hszi : (S0.size : Int) < 2 := by rw [HZ.out]; have := HSH.out.2 h10; omega
      have hszd : decide ((S0.size : Int) < 2) = true := decide_eq_true hszi
      clear a1 hS10 h10
      go_enter Tryz.func33, Tryz.ntmps33
      go_wp2_with (first | (go_at_call 44; refine (HSM.out _).mono ?_; rintro e w1 ⟨v, rfl, hd, hb⟩; have HD1 := Aside0.mk hd; have HB1 := Aside0.mk hb; obtain ⟨A1, m1, c1, rfl⟩ := hd.slice; clear hd hb) | (go_at_call 43; refine (HDI.out _ _ HD1.out).mono ?_; rintro e w2 ⟨rfl, hb⟩; have HB2 := Aside0.mk (below_step HB1.out hb); clear hb) | fail)
      go_ret
      exact ⟨rfl, HB2.out⟩
    · have a1' := hS10 h10
      subst a1'
      have hszi : ¬ (S0.size : Int) < 2 := by rw [HZ.out]; intro hh; exact h10 (HSH.out.1 (by omega))
      have hszd : decide ((S0.size : Int) < 2) = false := decide_eq_false hszi
      clear a1 h10
      go_enter Tryz.func33, Tryz.ntmps33
      go_wp2_with (first | (go_at_call 44; refine (HSM.out _).mono ?_; rintro e w1 ⟨v, rfl, hd, hb⟩; have HD1 := Aside0.mk hd; have HB1 := Aside0.mk hb; obtain ⟨A1, m1, c1, rfl⟩ := hd.slice; clear hd hb) | (go_at_call 43; refine (HDI.out _ _ HD1.out).mono ?_; rintro e w2 ⟨rfl, hb⟩; have HB2 := Aside0.mk (below_step HB1.out hb); clear hb) | fail)
      go_ret
      exact ⟨rfl, HB2.out⟩
  · rw [if_neg hx] at a2
    have hxd : decide (x < 0) = false := decide_eq_false hx
    by_cases h10 : D < 10
    · have a1' := a1 h10
      have hszi : (S0.size : Int) < 2 := by rw [HZ.out]; have := HSH.out.2 h10; omega
      have hszd : decide ((S0.size : Int) < 2) = true := decide_eq_true hszi
      clear a1 hS10 h10
      go_enter Tryz.func33, Tryz.ntmps33
      go_wp2_with (first | (go_at_call 44; refine (HSM.out _).mono ?_; rintro e w1 ⟨v, rfl, hd, hb⟩; have HD1 := Aside0.mk hd; have HB1 := Aside0.mk hb; obtain ⟨A1, m1, c1, rfl⟩ := hd.slice; clear hd hb) | (go_at_call 43; refine (HDI.out _ _ HD1.out).mono ?_; rintro e w2 ⟨rfl, hb⟩; have HB2 := Aside0.mk (below_step HB1.out hb); clear hb) | fail)
      go_ret
      exact ⟨rfl, HB2.out⟩
    · have a1' := hS10 h10
      subst a1'
      have hszi : ¬ (S0.size : Int) < 2 := by rw [HZ.out]; intro hh; exact h10 (HSH.out.1 (by omega))
      have hszd : decide ((S0.size : Int) < 2) = false := decide_eq_false hszi
      clear a1 h10
      go_enter Tryz.func33, Tryz.ntmps33
      go_wp2_with (first | (go_at_call 44; refine (HSM.out _).mono ?_; rintro e w1 ⟨v, rfl, hd, hb⟩; have HD1 := Aside0.mk hd; have HB1 := Aside0.mk hb; obtain ⟨A1, m1, c1, rfl⟩ := hd.slice; clear hd hb) | (go_at_call 43; refine (HDI.out _ _ HD1.out).mono ?_; rintro e w2 ⟨rfl, hb⟩; have HB2 := Aside0.mk (below_step HB1.out hb); clear hb) | fail)
      go_ret
      exact ⟨rfl, HB2.out⟩
end Go.Proofs.YtfnknldbjckgoaaGreatDoor.Sp
end

/-! ## GenQ -/
section
namespace Go.Proofs.YtfnknldbjckgoaaGreatDoor.Dig
set_option linter.unusedVariables false
theorem decT_e (d0 ds : List Int × Int) (k : Int) : decT d0 ds 101 k = if k < 0 then fmtET ds 101 ((ds.1.length : Int) - 1) else fmtET (roundD d0 (1 + k)) 101 k := if_pos (.inl rfl)
theorem decT_E (d0 ds : List Int × Int) (k : Int) : decT d0 ds 69 k = if k < 0 then fmtET ds 69 ((ds.1.length : Int) - 1) else fmtET (roundD d0 (1 + k)) 69 k := if_pos (.inr rfl)
theorem decT_g (d0 ds : List Int × Int) (k : Int) : decT d0 ds 103 k = if k < 0 then fmtGT ds 103 ds.1.length true else fmtGT (roundD d0 (if k = 0 then 1 else k)) 103 (if k = 0 then 1 else k) false := (if_neg (by decide)).trans (if_neg (by decide))
theorem decT_G (d0 ds : List Int × Int) (k : Int) : decT d0 ds 71 k = if k < 0 then fmtGT ds 71 ds.1.length true else fmtGT (roundD d0 (if k = 0 then 1 else k)) 71 (if k = 0 then 1 else k) false := (if_neg (by decide)).trans (if_neg (by decide))
/-- With a capital letter of the format. -/
theorem up_dec (d0 ds : List Int × Int) (k : Int) (h0 : Dc d0.1) (hs : Dc ds.1) : upT (decT d0 ds 101 k) = decT d0 ds 69 k ∧ upT (decT d0 ds 103 k) = decT d0 ds 71 k := by
  rw [decT_e, decT_E, decT_g, decT_G]
  constructor
  · by_cases hk : k < 0
    · rw [if_pos hk, if_pos hk]
      exact up_fmtET ds 101 _ hs.dig hs.ne (by omega)
    · rw [if_neg hk, if_neg hk]
      have h := roundD_dc d0 (1 + k) h0 (by omega)
      exact up_fmtET _ 101 _ h.dig h.ne (by omega)
  · by_cases hk : k < 0
    · rw [if_pos hk, if_pos hk]
      exact up_fmtGT ds _ true hs.dig hs.ne
    · rw [if_neg hk, if_neg hk]
      have h := roundD_dc d0 (if k = 0 then 1 else k) h0 (by split <;> omega)
      exact up_fmtGT _ _ false h.dig h.ne
theorem headE_len (l : List Int) (prec : Int) : (headE l prec).length = if 0 < prec then prec.toNat + 2 else 1 := by
  unfold headE moreT
  split
  · simp
    omega
  · simp
/-- The text with an exponent, in the parts that General reads; what General makes of them. -/
theorem gen_dec (d0 ds : List Int × Int) (p : Nat) (h0 : Dc d0.1) (hp : 0 < p) : ∃ a x, decT d0 ds 101 ((p : Int) - 1) = a ++ 101 :: (if x < 0 then 45 else 43) :: expF x ∧ (∀ c ∈ a, c = 46 ∨ (48 ≤ c ∧ c ≤ 57)) ∧ (0 < a.length ∧ a.length ≤ p + 1) ∧ x = (roundD d0 p).2 - 1 ∧ Dc (rz (a.filter fun c => c != 46)) ∧ gen2 (rz (a.filter fun c => c != 46)) x p false = decT d0 ds 103 p := by
  have h := roundD_dc d0 p h0 (by omega)
  refine ⟨headE (roundD d0 p).1 ((p : Int) - 1), (roundD d0 p).2 - 1, ?_, fun c hc => headE_mem h.dig _ c hc, ⟨by simp [headE], by rw [headE_len]; split <;> omega⟩, rfl, ?_, ?_⟩
  · rw [decT_e, if_neg (show ¬ (p : Int) - 1 < 0 by omega), show 1 + ((p : Int) - 1) = p by omega, fmtET_parts _ _ _ h.ne]
  · rw [headE_figs h p hp (roundD_le d0 p hp)]; exact h
  · rw [headE_figs h p hp (roundD_le d0 p hp), gen2_eq (roundD d0 p).1 ((roundD d0 p).2 - 1) p false h.pos (by omega)]
    rw [decT_g, if_neg (show ¬ (p : Int) < 0 by omega), if_neg (show ¬ (p : Int) = 0 by omega), show (roundD d0 p).2 - 1 + 1 = (roundD d0 p).2 by omega]
    rfl
theorem gen2_short (ds : List Int) (k p : Int) : gen2 ds k p true = gen2 ds k 1 true := rfl
theorem gen_short (d0 ds : List Int × Int) (p : Int) (hs : Dc ds.1) : ∃ a x, decT d0 ds 101 (-1) = a ++ 101 :: (if x < 0 then 45 else 43) :: expF x ∧ (∀ c ∈ a, c = 46 ∨ (48 ≤ c ∧ c ≤ 57)) ∧ (0 < a.length ∧ a.length ≤ ds.1.length + 1) ∧ x = ds.2 - 1 ∧ Dc (rz (a.filter fun c => c != 46)) ∧ gen2 (rz (a.filter fun c => c != 46)) x p true = decT d0 ds 103 (-1) := by
  have hp := hs.pos
  refine ⟨headE ds.1 ((ds.1.length : Int) - 1), ds.2 - 1, ?_, fun c hc => headE_mem hs.dig _ c hc, ⟨by simp [headE], by rw [headE_len]; split <;> omega⟩, rfl, ?_, ?_⟩
  · rw [decT_e, if_pos (show (-1 : Int) < 0 by omega), fmtET_parts _ _ _ hs.ne]
  · rw [headE_figs hs ds.1.length hp (Nat.le_refl _)]; exact hs
  · rw [headE_figs hs ds.1.length hp (Nat.le_refl _), gen2_short, gen2_eq ds.1 (ds.2 - 1) 1 true hp (by omega)]
    rw [decT_g, if_pos (show (-1 : Int) < 0 by omega), show ds.2 - 1 + 1 = ds.2 by omega]
    rfl
end Go.Proofs.YtfnknldbjckgoaaGreatDoor.Dig
end

/-! ## GenS -/
section
namespace Go.Proofs.YtfnknldbjckgoaaGreatDoor.Sp
open Go.RowKit Go.Proofs.YtfnknldbjckgoaaGreatDoorW.PrintWords Go.Proofs.YtfnknldbjckgoaaGreatDoorW.PrintLast Go.Proofs.YtfnknldbjckgoaaGreatDoorW.PrintMore Go.Proofs.YtfnknldbjckgoaaGreatDoor.Dig
set_option linter.unusedVariables false
set_option linter.unusedSimpArgs false
theorem str_ext (l : List Int) (a b : Nat) : (strOfNums l).extract a b = strOfNums ((l.drop a).take (b - a)) := by
  apply ByteArray.ext
  rw [ByteArray.data_extract]
  apply Array.toList_inj.1
  simp [strOfNums, List.map_take, List.map_drop]
theorem take_snoc (l : List Int) (k : Nat) (hk : k < l.length) : l.take (k + 1) = l.take k ++ [l.getD k 0] := by
  rw [List.take_add_one, List.getElem?_eq_getElem hk, List.getD_eq_getElem?_getD, List.getElem?_eq_getElem hk]
  rfl
theorem str_one (l : List Int) (k : Nat) (hk : k < l.length) : (strOfNums l).extract k (k + 1) = strOfNums [l.getD k 0] := by
  rw [str_ext, show k + 1 - k = 1 by omega]
  congr 1
  rw [List.getD_eq_getElem?_getD, List.getElem?_eq_getElem hk, List.drop_eq_getElem_cons hk]
  rfl
theorem dval_take (e : List Int) (j : Nat) (hj : j < e.length) : dval (e.take (j + 1)) = 10 * dval (e.take j) + (e.getD j 0 - 48) := by
  rw [take_snoc e j hj, dval_snoc]
theorem dval_lt (d : Nat) : ∀ (l : List Int), l.length = d → (∀ c ∈ l, 48 ≤ c ∧ c ≤ 57) → 0 ≤ dval l ∧ dval l < 10 ^ d := by
  induction d with
  | zero =>
    intro l hl _
    obtain rfl : l = [] := List.eq_nil_of_length_eq_zero hl
    decide
  | succ d ih =>
    intro l hl h
    have h1 := take_snoc l d (by omega)
    rw [List.take_of_length_le (show l.length ≤ d + 1 by omega)] at h1
    have h2 := ih (l.take d) (by rw [List.length_take]; omega) (fun c hc => h c (List.mem_of_mem_take hc))
    have h3 := h (l.getD d 0) (by rw [List.getD_eq_getElem?_getD, List.getElem?_eq_getElem (show d < l.length by omega)]; exact List.getElem_mem _)
    rw [h1, dval_snoc, Int.pow_succ]
    omega
theorem filter_snoc (p : Int → Bool) (l : List Int) (k : Nat) (hk : k < l.length) : (l.take (k + 1)).filter p = (l.take k).filter p ++ (if p (l.getD k 0) then [l.getD k 0] else []) := by
  rw [take_snoc l k hk, List.filter_append]
  congr 1
  rw [List.filter_cons]
  split <;> rfl
theorem map_snoc (f : Nat → Int) (i : Nat) : (List.range (i + 1)).map f = (List.range i).map f ++ [f i] := by
  rw [List.range_succ, List.map_append]
  rfl
theorem getD_left (a l : List Int) (k : Nat) (h : k < a.length) : (a ++ l).getD k 0 = a.getD k 0 := by
  rw [List.getD_eq_getElem?_getD, List.getD_eq_getElem?_getD, List.getElem?_append_left h]
theorem getD_right (a l : List Int) (k : Nat) : (a ++ l).getD (a.length + k) 0 = l.getD k 0 := by
  rw [List.getD_eq_getElem?_getD, List.getD_eq_getElem?_getD, List.getElem?_append_right (by omega), Nat.add_sub_cancel_left]
theorem getD_memI {l : List Int} {k : Nat} (h : k < l.length) : l.getD k 0 ∈ l := by
  rw [List.getD_eq_getElem?_getD, List.getElem?_eq_getElem h]
  exact List.getElem_mem _
end Go.Proofs.YtfnknldbjckgoaaGreatDoor.Sp
end
