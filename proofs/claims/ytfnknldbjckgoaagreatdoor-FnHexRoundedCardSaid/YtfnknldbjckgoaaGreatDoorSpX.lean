/-
  PLAIN: what spec.power tells (as printed), and CONTRACTS of spec.power, spec.HexPoint.
-/
import Derived.Test.YtfnknldbjckgoaaGreatDoorSpH
import Derived.Test.YtfnknldbjckgoaaGreatDoorGx1
namespace Go.Proofs.YtfnknldbjckgoaaGreatDoor.Sp
open Go.RowKit Go.Proofs.YtfnknldbjckgoaaGreatDoorW.PrintWords Go.Proofs.YtfnknldbjckgoaaGreatDoorW.PrintLast Go.Proofs.YtfnknldbjckgoaaGreatDoorW.PrintMore Go.Proofs.YtfnknldbjckgoaaGreatDoor.Dig
set_option linter.unusedVariables false
set_option linter.unusedSimpArgs false
theorem itoaT_short (n : Nat) : (itoaT n).length < 2 ↔ n < 10 := by
  unfold itoaT
  by_cases h0 : n = 0
  · subst h0; simp
  · rw [if_neg h0, (figs_succ 10 n (by omega) (by omega) (by omega)).1, List.length_append]
    by_cases h10 : n < 10
    · rw [show n / 10 = 0 by omega, figs_zero]
      simp only [List.length_nil, List.length_cons]; omega
    · have h1 := figs_ne 10 (n / 10) (by omega) (by omega) (by omega)
      have h2 : (figs 10 (n / 10)).length ≠ 0 := fun h => h1 (List.eq_nil_of_length_eq_zero h)
      simp only [List.length_nil, List.length_cons]; omega
set_option maxHeartbeats 3200000 in
set_option maxRecDepth 100000 in
theorem power_c (x : Int) (h : -1000000000 ≤ x ∧ x ≤ 1000000000) (w : World) : Calls Tryz.prog 33 #[.int .i64 x] w fun e w' => e = .returned (.string (strOfNums (expT x))) ∧ Below w.heap.size w w' := by
  obtain ⟨D, hD⟩ : ∃ D, D = x.natAbs := ⟨_, rfl⟩
  have hT : (itoaT D).length ≤ 18 := itoaT_lenS _ (by omega)
  have HSM : Aside0 (∀ W, Calls Tryz.prog 44 #[.int .i64 (max x (-x))] W fun e w' => ∃ v, e = .returned v ∧ Dg w' v (D : Int) ∧ Below W.heap.size W w') := ⟨fun W => by rw [show max x (-x) = (D : Int) by omega]; exact small_c (D : Int) (by omega) (by omega) W⟩
  have HDI : Aside0 (∀ W v, Dg W v (D : Int) → Calls Tryz.prog 43 #[v] W fun e w' => e = .returned (.string (strOfNums (itoaT D))) ∧ Below W.heap.size W w') := ⟨fun W v hd => by
    obtain ⟨A, c, l, rfl, h2, h3, h4, h5⟩ := hd
    have hll : l.length ≤ 100000 := Lim_len h4 (by rw [h5]; exact lt_Lim 64 (by omega) (by omega))
    obtain ⟨K, hK⟩ := digits_ev D 10 (by omega) (by omega) l h4 h5 hll
    exact spec_Digits.calls K (fun _ => True) A c l _ W (V_of_C h3 h2) (hK K (Nat.le_refl _))⟩
  have HB : Aside0 (Below w.heap.size w w) := ⟨Below.refl _ _⟩
  have hsh := itoaT_short D
  obtain ⟨S0, hS0⟩ : ∃ S, S = strOfNums (itoaT D) := ⟨_, rfl⟩
  have hz : S0.size = (itoaT D).length := by rw [hS0, strOfNums_sz]
  rw [← hS0] at HDI
  obtain ⟨S1, hS1⟩ : ∃ S, S = strOfNums ((if D < 10 then [48] else []) ++ itoaT D) := ⟨_, rfl⟩
  have a1 : D < 10 → ∀ w, (Op.stringOp .add ⟨#[48]⟩ S0).run Tryz.prog w = .ok (.string S1) w := fun h10 w => sadd1 (by rw [hS0, hS1, if_pos h10, show (⟨#[48]⟩ : ByteArray) = strOfNums [48] from rfl, ← strOfNums_app]) (by rw [hz, show (⟨#[48]⟩ : ByteArray).size = 1 from rfl]; omega) w
  have hS10 : ¬ D < 10 → S0 = S1 := fun h10 => by rw [hS0, hS1, if_neg h10, List.nil_append]
  have hz1 : S1.size ≤ 19 := by rw [hS1, strOfNums_sz, List.length_append]; split <;> simp <;> omega
  obtain ⟨TT, hTT⟩ : ∃ T, T = strOfNums (expT x) := ⟨_, rfl⟩
  have a2 : ∀ w, (Op.stringOp .add (if x < 0 then ⟨#[45]⟩ else ⟨#[43]⟩) S1).run Tryz.prog w = .ok (.string TT) w := fun w => sadd1 (by
    rw [hTT, hS1]
    unfold expT
    rw [← hD, List.append_assoc, strOfNums_app]
    congr 1
    split <;> rfl) (by split <;> (first | rw [show (⟨#[45]⟩ : ByteArray).size = 1 from rfl] | rw [show (⟨#[43]⟩ : ByteArray).size = 1 from rfl]) <;> omega) w
  rw [← hTT]
  have hnw : IntKind.i64.wrap (-x) = -x := IntWalk.i64_in _ (by omega)
  clear hTT hS1 hS0 hz1
  clear hD
  have HZ := Aside0.mk hz
  have HSH := Aside0.mk hsh
  clear hz hsh hT h
  by_cases hx : x < 0
  · rw [if_pos hx] at a2
    have hxd : decide (x < 0) = true := decide_eq_true hx
    by_cases h10 : D < 10
    · have a1' := a1 h10
      have hszi : (S0.size : Int) < 2 := by rw [HZ.out]; have := HSH.out.2 h10; omega
      have hszd : decide ((S0.size : Int) < 2) = true := decide_eq_true hszi
      clear a1 hS10 h10
      go_enter Tryz.func33, Tryz.ntmps33
      go_wp2_with (first | (go_at_call 44; refine (HSM.out _).mono ?_; rintro e w1 ⟨v, rfl, hd, hb⟩; have HD1 := Aside0.mk hd; have HB1 := Aside0.mk hb; obtain ⟨A1, m1, c1, rfl⟩ := hd.slice; clear hd hb) | (go_at_call 43; refine (HDI.out _ _ HD1.out).mono ?_; rintro e w2 ⟨rfl, hb⟩; have HB2 := Aside0.mk (below_step HB1.out hb); clear hb) | fail)
      go_ret
      exact ⟨rfl, HB2.out⟩
    · have a1' := hS10 h10
      subst a1'
      have hszi : ¬ (S0.size : Int) < 2 := by rw [HZ.out]; intro hh; exact h10 (HSH.out.1 (by omega))
      have hszd : decide ((S0.size : Int) < 2) = false := decide_eq_false hszi
      clear a1 h10
      go_enter Tryz.func33, Tryz.ntmps33
      go_wp2_with (first | (go_at_call 44; refine (HSM.out _).mono ?_; rintro e w1 ⟨v, rfl, hd, hb⟩; have HD1 := Aside0.mk hd; have HB1 := Aside0.mk hb; obtain ⟨A1, m1, c1, rfl⟩ := hd.slice; clear hd hb) | (go_at_call 43; refine (HDI.out _ _ HD1.out).mono ?_; rintro e w2 ⟨rfl, hb⟩; have HB2 := Aside0.mk (below_step HB1.out hb); clear hb) | fail)
      go_ret
      exact ⟨rfl, HB2.out⟩
  · rw [if_neg hx] at a2
    have hxd : decide (x < 0) = false := decide_eq_false hx
    by_cases h10 : D < 10
    · have a1' := a1 h10
      have hszi : (S0.size : Int) < 2 := by rw [HZ.out]; have := HSH.out.2 h10; omega
      have hszd : decide ((S0.size : Int) < 2) = true := decide_eq_true hszi
      clear a1 hS10 h10
      go_enter Tryz.func33, Tryz.ntmps33
      go_wp2_with (first | (go_at_call 44; refine (HSM.out _).mono ?_; rintro e w1 ⟨v, rfl, hd, hb⟩; have HD1 := Aside0.mk hd; have HB1 := Aside0.mk hb; obtain ⟨A1, m1, c1, rfl⟩ := hd.slice; clear hd hb) | (go_at_call 43; refine (HDI.out _ _ HD1.out).mono ?_; rintro e w2 ⟨rfl, hb⟩; have HB2 := Aside0.mk (below_step HB1.out hb); clear hb) | fail)
      go_ret
      exact ⟨rfl, HB2.out⟩
    · have a1' := hS10 h10
      subst a1'
      have hszi : ¬ (S0.size : Int) < 2 := by rw [HZ.out]; intro hh; exact h10 (HSH.out.1 (by omega))
      have hszd : decide ((S0.size : Int) < 2) = false := decide_eq_false hszi
      clear a1 h10
      go_enter Tryz.func33, Tryz.ntmps33
      go_wp2_with (first | (go_at_call 44; refine (HSM.out _).mono ?_; rintro e w1 ⟨v, rfl, hd, hb⟩; have HD1 := Aside0.mk hd; have HB1 := Aside0.mk hb; obtain ⟨A1, m1, c1, rfl⟩ := hd.slice; clear hd hb) | (go_at_call 43; refine (HDI.out _ _ HD1.out).mono ?_; rintro e w2 ⟨rfl, hb⟩; have HB2 := Aside0.mk (below_step HB1.out hb); clear hb) | fail)
      go_ret
      exact ⟨rfl, HB2.out⟩
set_option maxHeartbeats 3200000 in
set_option maxRecDepth 100000 in
theorem hexPoint_c (neg : Bool) (A : Option Addr) (mm cc : Nat) (vN b k1 : Nat) (x : Int) (w : World) (h : Dg w (.slice A mm cc) (vN : Int)) (hv0 : 0 < vN) (hb : Bits (vN : Int) b) (hbk : b ≤ 4 * k1 + 1) (hk : k1 ≤ 110) (hx : -3000 ≤ x ∧ x ≤ 3000) :
    Calls Tryz.prog 15 #[.agg #[.bool neg, .slice A mm cc, .int .i64 x], .int .i64 (k1 : Int)] w fun e w' => e = .returned (.string (strOfNums (sgn1 neg ++ fmtXT false 0 vN b (4 * k1 + 1) x))) ∧ Below w.heap.size w w' := by
  have hvb : vN < 2 ^ b := Int.ofNat_lt.1 (by rw [Int.natCast_pow]; exact hb.2.1)
  have hb1 := hb.pos (by omega)
  obtain ⟨t, ht⟩ : ∃ t, t = 4 * k1 + 1 - b := ⟨_, rfl⟩
  obtain ⟨M, hM⟩ : ∃ M, M = vN * 2 ^ t := ⟨_, rfl⟩
  have hMI : (vN : Int) * 2 ^ t = (M : Int) := by rw [hM, Int.natCast_mul, Int.natCast_pow]; rfl
  have hXB := xM_bits (neg := false) (m := 0) (n := 4 * k1 + 1) hb (by omega) (by omega)
  have hxM : xM false 0 vN b (4 * k1 + 1) = (M : Int) := by unfold xM; rw [if_pos hbk, ← ht, hMI]
  rw [hxM, Nat.add_sub_cancel] at hXB
  have hMB : 2 ^ (4 * k1) ≤ M ∧ M < 2 ^ (4 * k1 + 1) := by
    have e1 : (2 : Int) ^ (4 * k1) = ((2 ^ (4 * k1) : Nat) : Int) := by rw [Int.natCast_pow]; rfl
    have e2 : (2 : Int) ^ (4 * k1 + 1) = ((2 ^ (4 * k1 + 1) : Nat) : Int) := by rw [Int.natCast_pow]; rfl
    rw [e1, e2] at hXB
    exact ⟨Int.ofNat_le.1 hXB.1, Int.ofNat_lt.1 hXB.2⟩
  have hM0 : 0 < M := Nat.lt_of_lt_of_le (Nat.two_pow_pos _) hMB.1
  have hFG := figs_one hMB.1 hMB.2
  obtain ⟨T1, hT1⟩ : ∃ T1, T1 = lows 16 k1 M := ⟨_, rfl⟩
  have hT1L : T1.length = k1 := by rw [hT1, lows_len]
  rw [← hT1] at hFG
  obtain ⟨Y, hY⟩ : ∃ Y : Int, Y = (b : Int) + x - 1 := ⟨_, rfl⟩
  have hXT : fmtXT false 0 vN b (4 * k1 + 1) x = [48, 120, 49] ++ (if k1 = 0 then [] else [46] ++ T1) ++ [112] ++ expT Y := by
    unfold fmtXT
    rw [hxM, show (4 * k1 + 1 - 1) / 4 = k1 by omega, Int.toNat_natCast, ← hT1]
    unfold xE
    rw [if_pos hbk, ← hY]
    by_cases hk0 : k1 = 0
    · rw [if_pos (by omega), if_pos hk0]
    · rw [if_neg (by omega), if_neg hk0]
  have hvL : (vN : Int) < Lim := lt_Lim b (fit_pow hvb) (by omega)
  have HML : Aside0 ((M : Int) < Lim) := ⟨lt_Lim (4 * k1 + 1) (fit_pow hMB.2) (by omega)⟩
  have HFM := Aside0.mk (fit_of hMB.2 (by omega))
  have HB0 := Aside0.mk (below_alloc (Below.refl w.heap.size w) (.cells #[.bool neg, .slice A mm cc, .int .i64 x] 30))
  have KX := Aside0.mk (show hp (w.alloc (.cells #[.bool neg, .slice A mm cc, .int .i64 x] 30)) w.heap.size = some (.cells #[.bool neg, .slice A mm cc, .int .i64 x] 30 (0, 0)) from (by simp (disch := first | omega | (simp; omega) | (simp; done) | fail) [hp_new, hp_old, hp_here, hp_other, setObj_cells, hp_drew, hp_drewN]))
  have HLN : Aside0 (∀ W, Below w.heap.size w W → Calls Tryz.prog 16 #[.slice A mm cc] W fun e w' => e = .returned (.int .i64 b) ∧ Below W.heap.size W w') := ⟨fun W hW => len_is _ _ b _ (h.below hW) hvL hb⟩
  have HSH : Aside0 (∀ W, Below w.heap.size w W → Calls Tryz.prog 30 #[.slice A mm cc, .int .i64 (wrap64 (wrap64 (wrap64 (4 * (k1 : Int)) + 1) - (b : Int)))] W fun e w' => ∃ v, e = .returned v ∧ Dg w' v (M : Int) ∧ Below W.heap.size W w') := ⟨fun W hW => by
    have := shl_c (.slice A mm cc) (vN : Int) (t : Int) W (h.below hW) hvL (by omega) (by omega)
    rw [Int.toNat_natCast, hMI] at this
    have e : wrap64 (wrap64 (wrap64 (4 * (k1 : Int)) + 1) - (b : Int)) = (t : Int) := by
      rw [w64 (i := 4 * (k1 : Int)) (by omega) (by omega), w64 (i := 4 * (k1 : Int) + 1) (by omega) (by omega), w64 (by omega) (by omega)]
      omega
    rw [e]
    exact this⟩
  have HPW : Aside0 (∀ W, Calls Tryz.prog 33 #[.int .i64 (wrap64 (wrap64 (x + (b : Int)) - 1))] W fun e w' => e = .returned (.string (strOfNums (expT Y))) ∧ Below W.heap.size W w') := ⟨fun W => by
    have e : wrap64 (wrap64 (x + (b : Int)) - 1) = Y := by
      rw [w64 (i := x + (b : Int)) (by omega) (by omega), w64 (by omega) (by omega)]
      omega
    rw [e]
    exact power_c Y (by omega) W⟩
  obtain ⟨F, hF⟩ : ∃ F, F = strOfNums (figs 16 M) := ⟨_, rfl⟩
  have HHX : Aside0 (∀ W v, Dg W v (M : Int) → Calls Tryz.prog 31 #[v] W fun e w' => e = .returned (.string F) ∧ Below W.heap.size W w') := ⟨fun W v hd => by rw [hF]; exact hex_c v M W hd HFM.out hM0 HML.out⟩
  have hu := Tryz.underlying30
  have hFs : F.size = k1 + 1 := by rw [hF, hFG, strOfNums_sz, List.length_cons, hT1L]
  have hF1 : F.extract 0 1 = strOfNums [49] := by
    rw [hF, hFG]
    have := str_cut (49 :: T1) (49 :: T1).length 1 (by simp)
    rwa [List.take_length] at this
  have hF2 : F.extract 1 F.size = strOfNums T1 := by
    rw [hFs, hF, hFG]
    apply ByteArray.ext
    rw [ByteArray.data_extract]
    apply Array.toList_inj.1
    simp [strOfNums, hT1L]
    exact List.take_of_length_le (by rw [List.length_map, hT1L]; exact Nat.le_refl _)
  have hlT : T1.length ≤ 110 := by omega
  have hsn : (sgn1 neg).length ≤ 1 := by cases neg <;> simp [sgn1]
  have hsl : (expT Y).length ≤ 25 := by
    have h1 := itoaT_lenS Y.natAbs (by omega)
    unfold expT
    rw [List.length_append, List.length_append]
    split <;> split <;> simp only [List.length_cons, List.length_nil] <;> omega
  obtain ⟨X1, hX1⟩ : ∃ X, X = (if k1 = 0 then [] else [46] ++ T1) := ⟨_, rfl⟩
  have hX1l : X1.length ≤ 111 := by rw [hX1]; split <;> simp <;> omega
  rw [← hX1] at hXT
  obtain ⟨TT, hTT⟩ : ∃ TT, TT = strOfNums (sgn1 neg ++ fmtXT false 0 vN b (4 * k1 + 1) x) := ⟨_, rfl⟩
  rw [← hTT]
  obtain ⟨S4, h4⟩ : ∃ S, S = strOfNums (sgn1 neg) := ⟨_, rfl⟩
  obtain ⟨S5, h5⟩ : ∃ S, S = strOfNums (sgn1 neg ++ [48, 120]) := ⟨_, rfl⟩
  obtain ⟨S6, h6⟩ : ∃ S, S = strOfNums (sgn1 neg ++ [48, 120, 49]) := ⟨_, rfl⟩
  obtain ⟨S7, h7⟩ : ∃ S, S = strOfNums (sgn1 neg ++ [48, 120, 49] ++ X1) := ⟨_, rfl⟩
  obtain ⟨S8, h8⟩ : ∃ S, S = strOfNums (sgn1 neg ++ [48, 120, 49] ++ X1 ++ [112]) := ⟨_, rfl⟩
  obtain ⟨S9, h9⟩ : ∃ S, S = strOfNums (expT Y) := ⟨_, rfl⟩
  obtain ⟨SA, hA⟩ : ∃ S, S = strOfNums (sgn1 neg ++ [48, 120, 49] ++ [46]) := ⟨_, rfl⟩
  obtain ⟨SB, hBs⟩ : ∃ S, S = strOfNums T1 := ⟨_, rfl⟩
  obtain ⟨SC, hC⟩ : ∃ S, S = strOfNums [49] := ⟨_, rfl⟩
  rw [← hC] at hF1
  rw [← hBs] at hF2
  rw [← h9] at HPW
  have hp1 : (⟨#[48, 120]⟩ : ByteArray) = strOfNums [48, 120] := rfl
  have hp2 : (⟨#[112]⟩ : ByteArray) = strOfNums [112] := rfl
  have hp3 : (⟨#[46]⟩ : ByteArray) = strOfNums [46] := rfl
  have a1 : ∀ w, (Op.stringOp .add S4 ⟨#[48, 120]⟩).run Tryz.prog w = .ok (.string S5) w := fun w => sadd1 (by rw [h4, h5, hp1, ← strOfNums_app]) (by rw [h4, hp1, strOfNums_sz, strOfNums_sz]; simp only [List.length_cons, List.length_nil]; omega) w
  have a2 : ∀ w, (Op.stringOp .add S5 SC).run Tryz.prog w = .ok (.string S6) w := fun w => sadd1 (by rw [h5, h6, hC, ← strOfNums_app, List.append_assoc]; rfl) (by rw [h5, hC, strOfNums_sz, strOfNums_sz, List.length_append]; simp only [List.length_cons, List.length_nil]; omega) w
  have a3 : ∀ w, (Op.stringOp .add S6 ⟨#[46]⟩).run Tryz.prog w = .ok (.string SA) w := fun w => sadd1 (by rw [h6, hA, hp3, ← strOfNums_app]) (by rw [h6, hp3, strOfNums_sz, strOfNums_sz, List.length_append]; simp only [List.length_cons, List.length_nil]; omega) w
  have a4 : k1 ≠ 0 → ∀ w, (Op.stringOp .add SA SB).run Tryz.prog w = .ok (.string S7) w := fun hk0 w => sadd1 (by rw [hA, hBs, h7, hX1, if_neg hk0, ← strOfNums_app]; simp only [List.append_assoc]) (by rw [hA, hBs, strOfNums_sz, strOfNums_sz, List.length_append, List.length_append]; simp only [List.length_cons, List.length_nil]; omega) w
  have a5 : ∀ w, (Op.stringOp .add S7 ⟨#[112]⟩).run Tryz.prog w = .ok (.string S8) w := fun w => sadd1 (by rw [h7, h8, hp2, ← strOfNums_app]) (by rw [h7, hp2, strOfNums_sz, strOfNums_sz, List.length_append, List.length_append]; simp only [List.length_cons, List.length_nil]; omega) w
  have a6 : ∀ w, (Op.stringOp .add S8 S9).run Tryz.prog w = .ok (.string TT) w := fun w => sadd1 (by rw [h8, h9, hTT, hXT, ← strOfNums_app]; simp only [List.append_assoc]) (by rw [h8, h9, strOfNums_sz, strOfNums_sz, List.length_append, List.length_append, List.length_append]; simp only [List.length_cons, List.length_nil]; omega) w
  have HS67 : Aside0 (k1 = 0 → S6 = S7) := ⟨fun hk0 => by rw [h6, h7, hX1, if_pos hk0, List.append_nil]⟩
  have HMN : Aside0 (∀ W, Calls Tryz.prog 32 #[.bool neg] W fun e w' => e = .returned (.string S4) ∧ Below W.heap.size W w') := ⟨fun W => by rw [h4]; exact minus_c neg W⟩
  have hFz : 1 ≤ F.size := by omega
  have hFzi : (1 : Int) ≤ (F.size : Int) := by omega
  have hk9 : (k1 : Int) ≤ 110 := by omega
  clear h hv0 hb hx hvb hb1 ht hM hMI hXB hxM hMB hM0 hFG hT1 hT1L hY hXT hvL hF hFs hlT hsn hsl hX1 hX1l hTT h4 h5 h6 h7 h8 h9 hA hBs hC hp1 hp2 hp3 hbk
  go_enter Tryz.func15, Tryz.ntmps15
  go_upto_region 1 with (fail)
  refine start_ (n := 11) (S := fun w' => w'.cell? ⟨w.heap.size, 1, none⟩ = some (.slice A mm cc)) (ds := []) #[false, false, false, false, false, false, false, false, false, false, false] (by kernel_rfl) rfl rfl ((by go_simp)) (fun hHeld => ?_)
  refine pure_ (i := 0) (N := some 8) (v := ?_) (a' := ?_) #[true, false, false, false, false, false, false, false, false, false, false] rfl rfl (by kernel_rfl) (fun _ _ _ h => h) (Or.inl ⟨by rfl, ?_⟩) ?_ ?_
  rotate_left
  · intro w'
    go_simp
    with_reducible rfl
  rotate_left
  · simp only [Act.put, List.setIfInBounds_toArray, List.set_cons_zero, List.set_cons_succ, i64_w, i32_w]
    rfl
  refine pure_ (i := 2) (N := some 10) (v := ?_) (a' := ?_) #[true, false, true, false, false, false, false, false, false, false, false] rfl rfl (by kernel_rfl) (fun _ _ _ h => h) (Or.inl ⟨by rfl, ?_⟩) ?_ ?_
  rotate_left
  · intro w'
    go_simp
    with_reducible rfl
  rotate_left
  · simp only [Act.put, List.setIfInBounds_toArray, List.set_cons_zero, List.set_cons_succ, i64_w, i32_w]
    rfl
  refine pure_ (i := 3) (N := some 11) (v := ?_) (a' := ?_) #[true, false, true, true, false, false, false, false, false, false, false] rfl rfl (by kernel_rfl) (fun _ _ _ h => h) (Or.inl ⟨by rfl, ?_⟩) ?_ ?_
  rotate_left
  · intro w'
    go_simp
    with_reducible rfl
  rotate_left
  · simp only [Act.put, List.setIfInBounds_toArray, List.set_cons_zero, List.set_cons_succ, i64_w, i32_w]
    rfl
  refine pure_ (i := 4) (N := some 12) (v := ?_) (a' := ?_) #[true, false, true, true, true, false, false, false, false, false, false] rfl rfl (by kernel_rfl) (fun _ _ _ h => h) (Or.inl ⟨by rfl, ?_⟩) ?_ ?_
  rotate_left
  · intro w'
    go_simp
    with_reducible rfl
  rotate_left
  · simp only [Act.put, List.setIfInBounds_toArray, List.set_cons_zero, List.set_cons_succ, i64_w, i32_w]
    rfl
  refine pure_ (i := 5) (N := some 13) (v := ?_) (a' := ?_) #[true, false, true, true, true, true, false, false, false, false, false] rfl rfl (by kernel_rfl) (fun _ _ _ h => h) (Or.inl ⟨by rfl, ?_⟩) ?_ ?_
  rotate_left
  · intro w'
    go_simp
    with_reducible rfl
  rotate_left
  · simp only [Act.put, List.setIfInBounds_toArray, List.set_cons_zero, List.set_cons_succ, i64_w, i32_w]
    rfl
  refine take_ (i := 1) (N := some 9) (v := ?_) (a' := ?_) #[true, true, true, true, true, true, false, false, false, false, false] rfl rfl (by kernel_rfl) (fun _ _ _ h => h) (Or.inl ⟨by rfl, ?_⟩) hHeld ?_ ?_
  rotate_left
  · intro w' s0
    go_simp
    with_reducible rfl
  rotate_left
  · simp only [Act.put, List.setIfInBounds_toArray, List.set_cons_zero, List.set_cons_succ, i64_w, i32_w]
    rfl
  refine take_ (i := 6) (N := some 14) (v := ?_) (a' := ?_) #[true, true, true, true, true, true, true, false, false, false, false] rfl rfl (by kernel_rfl) (fun _ _ _ h => h) (Or.inl ⟨by rfl, ?_⟩) hHeld ?_ ?_
  rotate_left
  · intro w' s0
    go_simp
    with_reducible rfl
  rotate_left
  · simp only [Act.put, List.setIfInBounds_toArray, List.set_cons_zero, List.set_cons_succ, i64_w, i32_w]
    rfl
  refine one_ (i := 7) (N := some 15) #[true, true, true, true, true, true, true, true, false, false, false] rfl rfl (by kernel_rfl) (by decide) (fun K hK => ?_)
  refine goes_ Tryz.func16 (by kernel_rfl) rfl #[.slice A mm cc] (by rfl) rfl rfl (by simp only [List.map_toArray, List.map_cons, List.map_nil]; rfl) ?_
  with_reducible refine (HLN.out _ (below_drew1 HB0.out)).mono ?_
  rintro e w1 ⟨rfl, hb1⟩
  refine ⟨_, rfl, ?_⟩
  have HB1 := Aside0.mk (below_step (below_drew1 HB0.out) hb1)
  have KX1 := Aside0.mk (hp_below (show hp (w.alloc _).drew w.heap.size = _ from KX.out) hb1)
  obtain ⟨q0, q1, q2, _, _, _⟩ := blk3 KX1.out
  clear hb1
  refine hK.out _ _ (q1) (fun hHeld => ?_)
  clear hK K
  refine norm_ (a' := ?_) ?_ ?_
  rotate_left
  · show Act.put _ (some 15) _ = _
    simp only [Act.put, List.setIfInBounds_toArray, List.set_cons_zero, List.set_cons_succ, i64_w, i32_w]
    rfl
  refine pure_ (i := 8) (N := some 16) (v := ?_) (a' := ?_) #[true, true, true, true, true, true, true, true, true, false, false] rfl rfl (by kernel_rfl) (fun _ _ _ h => h) (Or.inl ⟨by rfl, ?_⟩) ?_ ?_
  rotate_left
  · intro w'
    go_simp
    with_reducible rfl
  rotate_left
  · simp only [Act.put, List.setIfInBounds_toArray, List.set_cons_zero, List.set_cons_succ, i64_w, i32_w]
    rfl
  refine one_ (i := 9) (N := some 17) #[true, true, true, true, true, true, true, true, true, true, false] rfl rfl (by kernel_rfl) (by decide) (fun K hK => ?_)
  refine goes_ Tryz.func30 (by kernel_rfl) rfl #[.slice A mm cc, .int .i64 (wrap64 (wrap64 (wrap64 (4 * (k1 : Int)) + 1) - (b : Int)))] (by rfl) rfl rfl (by simp only [List.map_toArray, List.map_cons, List.map_nil]; rfl) ?_
  with_reducible refine (HSH.out w1 HB1.out).mono ?_
  rintro e w2 ⟨v2, rfl, hd2, hb2⟩
  refine ⟨_, rfl, ?_⟩
  have HB2 := Aside0.mk (below_step HB1.out hb2)
  have KX2 := Aside0.mk (hp_below KX1.out hb2)
  have HD2 := Aside0.mk hd2
  obtain ⟨A2, m2, c2, rfl⟩ := hd2.slice
  obtain ⟨q0, q1, q2, _, _, _⟩ := blk3 KX2.out
  clear hb2 hd2
  refine hK.out _ _ (q1) (fun hHeld => ?_)
  clear hK K
  refine norm_ (a' := ?_) ?_ ?_
  rotate_left
  · show Act.put _ (some 17) _ = _
    simp only [Act.put, List.setIfInBounds_toArray, List.set_cons_zero, List.set_cons_succ, i64_w, i32_w]
    rfl
  refine pure_ (i := 10) (N := some 5) (v := ?_) (a' := ?_) #[true, true, true, true, true, true, true, true, true, true, true] rfl rfl (by kernel_rfl) (fun _ _ _ h => h) (Or.inl ⟨by rfl, ?_⟩) ?_ ?_
  rotate_left
  · intro w'
    go_simp
    with_reducible rfl
  rotate_left
  · simp only [Act.put, List.setIfInBounds_toArray, List.set_cons_zero, List.set_cons_succ, i64_w, i32_w]
    rfl
  refine done_ (by kernel_rfl) ?_
  clear q0 q1 q2 hHeld HSH
  have HH2 := Aside0.mk (HHX.out w2 _ HD2.out)
  go_wp2_with (go_at_call 31; refine HH2.out.mono ?_; rintro e w3 ⟨rfl, hb3⟩; have HB3 := Aside0.mk (below_step HB2.out hb3); have KX3 := Aside0.mk (hp_below KX2.out hb3); clear hb3)
  have HBD3 := Aside0.mk (below_drew1 HB3.out)
  obtain ⟨d0, d1, d2, g0, g1, g2⟩ := blk3 KX3.out
  have lg3 := hp_lt KX3.out
  clear HH2 HHX
  refine start_ (n := 8) (S := fun w' => w'.cell? ⟨w.heap.size, 0, none⟩ = some (.bool neg)) (ds := []) #[false, false, false, false, false, false, false, false] (by kernel_rfl) rfl rfl ((by go_simp)) (fun hHeld => ?_)
  refine pure_ (i := 0) (N := some 20) (v := ?_) (a' := ?_) #[true, false, false, false, false, false, false, false] rfl rfl (by kernel_rfl) (fun _ _ _ h => h) (Or.inl ⟨by rfl, ?_⟩) ?_ ?_
  rotate_left
  · intro w'
    go_simp
    with_reducible rfl
  rotate_left
  · simp only [Act.put, List.setIfInBounds_toArray, List.set_cons_zero, List.set_cons_succ, i64_w, i32_w]
    rfl
  refine pure_ (i := 4) (N := some 24) (v := ?_) (a' := ?_) #[true, false, false, false, true, false, false, false] rfl rfl (by kernel_rfl) (fun _ _ _ h => h) (Or.inl ⟨by rfl, ?_⟩) ?_ ?_
  rotate_left
  · intro w'
    go_simp
    with_reducible rfl
  rotate_left
  · simp only [Act.put, List.setIfInBounds_toArray, List.set_cons_zero, List.set_cons_succ, i64_w, i32_w]
    rfl
  refine pure_ (i := 5) (N := some 25) (v := ?_) (a' := ?_) #[true, false, false, false, true, true, false, false] rfl rfl (by kernel_rfl) (fun _ _ _ h => h) (Or.inl ⟨by rfl, ?_⟩) ?_ ?_
  rotate_left
  · intro w'
    go_simp
    with_reducible rfl
  rotate_left
  · simp only [Act.put, List.setIfInBounds_toArray, List.set_cons_zero, List.set_cons_succ, i64_w, i32_w]
    rfl
  refine take_ (i := 1) (N := some 21) (v := ?_) (a' := ?_) #[true, true, false, false, true, true, false, false] rfl rfl (by kernel_rfl) (fun _ _ _ h => h) (Or.inl ⟨by rfl, ?_⟩) hHeld ?_ ?_
  rotate_left
  · intro w' s0
    go_simp
    with_reducible rfl
  rotate_left
  · simp only [Act.put, List.setIfInBounds_toArray, List.set_cons_zero, List.set_cons_succ, i64_w, i32_w]
    rfl
  refine one_ (i := 2) (N := some 22) #[true, true, true, false, true, true, false, false] rfl rfl (by kernel_rfl) (by decide) (fun K hK => ?_)
  refine goes_ Tryz.func32 (by kernel_rfl) rfl #[.bool neg] (by rfl) rfl rfl (by simp only [List.map_toArray, List.map_cons, List.map_nil]; rfl) ?_
  with_reducible refine (HMN.out _).mono ?_
  rintro e w4 ⟨rfl, hb4⟩
  refine ⟨_, rfl, ?_⟩
  have HB4 := Aside0.mk (below_step HBD3.out hb4)
  have KX4 := Aside0.mk (hp_below (show hp w3.drew w.heap.size = _ from KX3.out) hb4)
  obtain ⟨q0, q1, q2, _, _, _⟩ := blk3 KX4.out
  clear hb4
  refine hK.out _ _ (q0) (fun hHeld => ?_)
  clear hK K
  refine norm_ (a' := ?_) ?_ ?_
  rotate_left
  · show Act.put _ (some 22) _ = _
    simp only [Act.put, List.setIfInBounds_toArray, List.set_cons_zero, List.set_cons_succ, i64_w, i32_w]
    rfl
  refine pure_ (i := 3) (N := some 23) (v := ?_) (a' := ?_) #[true, true, true, true, true, true, false, false] rfl rfl (by kernel_rfl) (fun _ _ _ h => h) (Or.inl ⟨by rfl, ?_⟩) ?_ ?_
  rotate_left
  · intro w'
    go_simp
    with_reducible rfl
  rotate_left
  · simp only [Act.put, List.setIfInBounds_toArray, List.set_cons_zero, List.set_cons_succ, i64_w, i32_w]
    rfl
  refine pure_ (i := 6) (N := some 26) (v := ?_) (a' := ?_) #[true, true, true, true, true, true, true, false] rfl rfl (by kernel_rfl) (fun _ _ _ h => h) (Or.inl ⟨by rfl, ?_⟩) ?_ ?_
  rotate_left
  · intro w'
    go_simp
    with_reducible rfl
  rotate_left
  · simp only [Act.put, List.setIfInBounds_toArray, List.set_cons_zero, List.set_cons_succ, i64_w, i32_w]
    rfl
  refine pure_ (i := 7) (N := some 7) (v := ?_) (a' := ?_) #[true, true, true, true, true, true, true, true] rfl rfl (by kernel_rfl) (fun _ _ _ h => h) (Or.inl ⟨by rfl, ?_⟩) ?_ ?_
  rotate_left
  · intro w'
    go_simp
    with_reducible rfl
  rotate_left
  · simp only [Act.put, List.setIfInBounds_toArray, List.set_cons_zero, List.set_cons_succ, i64_w, i32_w]
    rfl
  refine done_ (by kernel_rfl) ?_
  clear d0 d1 d2 g0 g1 g2 lg3 q0 q1 q2 hHeld
  obtain ⟨d0, d1, d2, g0, g1, g2⟩ := blk3 KX4.out
  have lg4 := hp_lt KX4.out
  by_cases hk0 : k1 = 0
  · have e67 := HS67.out hk0
    subst e67
    subst hk0
    go_wp2_with (fail)
    refine start_ (n := 12) (S := fun w' => w'.cell? ⟨w.heap.size, 1, none⟩ = some (.slice A mm cc) ∧ w'.cell? ⟨w.heap.size, 2, none⟩ = some (.int .i64 x)) (ds := []) #[false, false, false, false, false, false, false, false, false, false, false, false] (by kernel_rfl) rfl rfl ⟨(by go_simp), (by go_simp)⟩ (fun hHeld => ?_)
    refine pure_ (i := 0) (N := some 34) (v := ?_) (a' := ?_) #[true, false, false, false, false, false, false, false, false, false, false, false] rfl rfl (by kernel_rfl) (fun _ _ _ h => h) (Or.inl ⟨by rfl, ?_⟩) ?_ ?_
    rotate_left
    · intro w'
      go_simp
      with_reducible rfl
    rotate_left
    · simp only [Act.put, List.setIfInBounds_toArray, List.set_cons_zero, List.set_cons_succ, i64_w, i32_w]
      rfl
    refine pure_ (i := 1) (N := some 35) (v := ?_) (a' := ?_) #[true, true, false, false, false, false, false, false, false, false, false, false] rfl rfl (by kernel_rfl) (fun _ _ _ h => h) (Or.inl ⟨by rfl, ?_⟩) ?_ ?_
    rotate_left
    · intro w'
      go_simp
      with_reducible rfl
    rotate_left
    · simp only [Act.put, List.setIfInBounds_toArray, List.set_cons_zero, List.set_cons_succ, i64_w, i32_w]
      rfl
    refine pure_ (i := 2) (N := some 36) (v := ?_) (a' := ?_) #[true, true, true, false, false, false, false, false, false, false, false, false] rfl rfl (by kernel_rfl) (fun _ _ _ h => h) (Or.inl ⟨by rfl, ?_⟩) ?_ ?_
    rotate_left
    · intro w'
      go_simp
      with_reducible rfl
    rotate_left
    · simp only [Act.put, List.setIfInBounds_toArray, List.set_cons_zero, List.set_cons_succ, i64_w, i32_w]
      rfl
    refine pure_ (i := 4) (N := some 38) (v := ?_) (a' := ?_) #[true, true, true, false, true, false, false, false, false, false, false, false] rfl rfl (by kernel_rfl) (fun _ _ _ h => h) (Or.inl ⟨by rfl, ?_⟩) ?_ ?_
    rotate_left
    · intro w'
      go_simp
      with_reducible rfl
    rotate_left
    · simp only [Act.put, List.setIfInBounds_toArray, List.set_cons_zero, List.set_cons_succ, i64_w, i32_w]
      rfl
    refine take_ (i := 3) (N := some 37) (v := ?_) (a' := ?_) #[true, true, true, true, true, false, false, false, false, false, false, false] rfl rfl (by kernel_rfl) (fun _ _ _ h => h) (Or.inl ⟨by rfl, ?_⟩) hHeld ?_ ?_
    rotate_left
    · rintro w' ⟨s0, s1⟩
      go_simp
      with_reducible rfl
    rotate_left
    · simp only [Act.put, List.setIfInBounds_toArray, List.set_cons_zero, List.set_cons_succ, i64_w, i32_w]
      rfl
    refine take_ (i := 5) (N := some 39) (v := ?_) (a' := ?_) #[true, true, true, true, true, true, false, false, false, false, false, false] rfl rfl (by kernel_rfl) (fun _ _ _ h => h) (Or.inl ⟨by rfl, ?_⟩) hHeld ?_ ?_
    rotate_left
    · rintro w' ⟨s0, s1⟩
      go_simp
      with_reducible rfl
    rotate_left
    · simp only [Act.put, List.setIfInBounds_toArray, List.set_cons_zero, List.set_cons_succ, i64_w, i32_w]
      rfl
    refine one_ (i := 6) (N := some 40) #[true, true, true, true, true, true, true, false, false, false, false, false] rfl rfl (by kernel_rfl) (by decide) (fun K hK => ?_)
    refine goes_ Tryz.func16 (by kernel_rfl) rfl #[.slice A mm cc] (by rfl) rfl rfl (by simp only [List.map_toArray, List.map_cons, List.map_nil]; rfl) ?_
    with_reducible refine (HLN.out _ (below_drew1 HB4.out)).mono ?_
    rintro e w5 ⟨rfl, hb5⟩
    refine ⟨_, rfl, ?_⟩
    have HB5 := Aside0.mk (below_step (below_drew1 HB4.out) hb5)
    have KX5 := Aside0.mk (hp_below (show hp w4.drew w.heap.size = _ from KX4.out) hb5)
    obtain ⟨q0, q1, q2, _, _, _⟩ := blk3 KX5.out
    clear hb5
    refine hK.out _ _ ⟨q1, q2⟩ (fun hHeld => ?_)
    clear hK K
    refine norm_ (a' := ?_) ?_ ?_
    rotate_left
    · show Act.put _ (some 40) _ = _
      simp only [Act.put, List.setIfInBounds_toArray, List.set_cons_zero, List.set_cons_succ, i64_w, i32_w]
      rfl
    refine pure_ (i := 7) (N := some 41) (v := ?_) (a' := ?_) #[true, true, true, true, true, true, true, true, false, false, false, false] rfl rfl (by kernel_rfl) (fun _ _ _ h => h) (Or.inl ⟨by rfl, ?_⟩) ?_ ?_
    rotate_left
    · intro w'
      go_simp
      with_reducible rfl
    rotate_left
    · simp only [Act.put, List.setIfInBounds_toArray, List.set_cons_zero, List.set_cons_succ, i64_w, i32_w]
      rfl
    refine pure_ (i := 8) (N := some 42) (v := ?_) (a' := ?_) #[true, true, true, true, true, true, true, true, true, false, false, false] rfl rfl (by kernel_rfl) (fun _ _ _ h => h) (Or.inl ⟨by rfl, ?_⟩) ?_ ?_
    rotate_left
    · intro w'
      go_simp
      with_reducible rfl
    rotate_left
    · simp only [Act.put, List.setIfInBounds_toArray, List.set_cons_zero, List.set_cons_succ, i64_w, i32_w]
      rfl
    refine one_ (i := 9) (N := some 43) #[true, true, true, true, true, true, true, true, true, true, false, false] rfl rfl (by kernel_rfl) (by decide) (fun K hK => ?_)
    refine goes_ Tryz.func33 (by kernel_rfl) rfl #[.int .i64 (wrap64 (wrap64 (x + (b : Int)) - 1))] (by rfl) rfl rfl (by simp only [List.map_toArray, List.map_cons, List.map_nil]; rfl) ?_
    with_reducible refine (HPW.out w5).mono ?_
    rintro e w6 ⟨rfl, hb6⟩
    refine ⟨_, rfl, ?_⟩
    have HB6 := Aside0.mk (below_step HB5.out hb6)
    have KX6 := Aside0.mk (hp_below KX5.out hb6)
    obtain ⟨q0, q1, q2, _, _, _⟩ := blk3 KX6.out
    clear hb6
    refine hK.out _ _ ⟨q1, q2⟩ (fun hHeld => ?_)
    clear hK K
    refine norm_ (a' := ?_) ?_ ?_
    rotate_left
    · show Act.put _ (some 43) _ = _
      simp only [Act.put, List.setIfInBounds_toArray, List.set_cons_zero, List.set_cons_succ, i64_w, i32_w]
      rfl
    refine pure_ (i := 10) (N := some 44) (v := ?_) (a' := ?_) #[true, true, true, true, true, true, true, true, true, true, true, false] rfl rfl (by kernel_rfl) (fun _ _ _ h => h) (Or.inl ⟨by rfl, ?_⟩) ?_ ?_
    rotate_left
    · intro w'
      go_simp
      with_reducible rfl
    rotate_left
    · simp only [Act.put, List.setIfInBounds_toArray, List.set_cons_zero, List.set_cons_succ, i64_w, i32_w]
      rfl
    refine pure_ (i := 11) (N := some 4) (v := ?_) (a' := ?_) #[true, true, true, true, true, true, true, true, true, true, true, true] rfl rfl (by kernel_rfl) (fun _ _ _ h => h) (Or.inl ⟨by rfl, ?_⟩) ?_ ?_
    rotate_left
    · intro w'
      go_simp
      with_reducible rfl
    rotate_left
    · simp only [Act.put, List.setIfInBounds_toArray, List.set_cons_zero, List.set_cons_succ, i64_w, i32_w]
      rfl
    refine done_ (by kernel_rfl) ?_
    go_wp2_with (fail)
    go_ret
    exact ⟨rfl, HB6.out⟩
  · have a4' := a4 hk0
    have hkd : decide ((0 : Int) < (k1 : Int)) = true := decide_eq_true (by omega)
    have hki : (0 : Int) < (k1 : Int) := by omega
    clear a4
    go_wp2_with (fail)
    refine start_ (n := 12) (S := fun w' => w'.cell? ⟨w.heap.size, 1, none⟩ = some (.slice A mm cc) ∧ w'.cell? ⟨w.heap.size, 2, none⟩ = some (.int .i64 x)) (ds := []) #[false, false, false, false, false, false, false, false, false, false, false, false] (by kernel_rfl) rfl rfl ⟨(by go_simp), (by go_simp)⟩ (fun hHeld => ?_)
    refine pure_ (i := 0) (N := some 34) (v := ?_) (a' := ?_) #[true, false, false, false, false, false, false, false, false, false, false, false] rfl rfl (by kernel_rfl) (fun _ _ _ h => h) (Or.inl ⟨by rfl, ?_⟩) ?_ ?_
    rotate_left
    · intro w'
      go_simp
      with_reducible rfl
    rotate_left
    · simp only [Act.put, List.setIfInBounds_toArray, List.set_cons_zero, List.set_cons_succ, i64_w, i32_w]
      rfl
    refine pure_ (i := 1) (N := some 35) (v := ?_) (a' := ?_) #[true, true, false, false, false, false, false, false, false, false, false, false] rfl rfl (by kernel_rfl) (fun _ _ _ h => h) (Or.inl ⟨by rfl, ?_⟩) ?_ ?_
    rotate_left
    · intro w'
      go_simp
      with_reducible rfl
    rotate_left
    · simp only [Act.put, List.setIfInBounds_toArray, List.set_cons_zero, List.set_cons_succ, i64_w, i32_w]
      rfl
    refine pure_ (i := 2) (N := some 36) (v := ?_) (a' := ?_) #[true, true, true, false, false, false, false, false, false, false, false, false] rfl rfl (by kernel_rfl) (fun _ _ _ h => h) (Or.inl ⟨by rfl, ?_⟩) ?_ ?_
    rotate_left
    · intro w'
      go_simp
      with_reducible rfl
    rotate_left
    · simp only [Act.put, List.setIfInBounds_toArray, List.set_cons_zero, List.set_cons_succ, i64_w, i32_w]
      rfl
    refine pure_ (i := 4) (N := some 38) (v := ?_) (a' := ?_) #[true, true, true, false, true, false, false, false, false, false, false, false] rfl rfl (by kernel_rfl) (fun _ _ _ h => h) (Or.inl ⟨by rfl, ?_⟩) ?_ ?_
    rotate_left
    · intro w'
      go_simp
      with_reducible rfl
    rotate_left
    · simp only [Act.put, List.setIfInBounds_toArray, List.set_cons_zero, List.set_cons_succ, i64_w, i32_w]
      rfl
    refine take_ (i := 3) (N := some 37) (v := ?_) (a' := ?_) #[true, true, true, true, true, false, false, false, false, false, false, false] rfl rfl (by kernel_rfl) (fun _ _ _ h => h) (Or.inl ⟨by rfl, ?_⟩) hHeld ?_ ?_
    rotate_left
    · rintro w' ⟨s0, s1⟩
      go_simp
      with_reducible rfl
    rotate_left
    · simp only [Act.put, List.setIfInBounds_toArray, List.set_cons_zero, List.set_cons_succ, i64_w, i32_w]
      rfl
    refine take_ (i := 5) (N := some 39) (v := ?_) (a' := ?_) #[true, true, true, true, true, true, false, false, false, false, false, false] rfl rfl (by kernel_rfl) (fun _ _ _ h => h) (Or.inl ⟨by rfl, ?_⟩) hHeld ?_ ?_
    rotate_left
    · rintro w' ⟨s0, s1⟩
      go_simp
      with_reducible rfl
    rotate_left
    · simp only [Act.put, List.setIfInBounds_toArray, List.set_cons_zero, List.set_cons_succ, i64_w, i32_w]
      rfl
    refine one_ (i := 6) (N := some 40) #[true, true, true, true, true, true, true, false, false, false, false, false] rfl rfl (by kernel_rfl) (by decide) (fun K hK => ?_)
    refine goes_ Tryz.func16 (by kernel_rfl) rfl #[.slice A mm cc] (by rfl) rfl rfl (by simp only [List.map_toArray, List.map_cons, List.map_nil]; rfl) ?_
    with_reducible refine (HLN.out _ (below_drew1 HB4.out)).mono ?_
    rintro e w5 ⟨rfl, hb5⟩
    refine ⟨_, rfl, ?_⟩
    have HB5 := Aside0.mk (below_step (below_drew1 HB4.out) hb5)
    have KX5 := Aside0.mk (hp_below (show hp w4.drew w.heap.size = _ from KX4.out) hb5)
    obtain ⟨q0, q1, q2, _, _, _⟩ := blk3 KX5.out
    clear hb5
    refine hK.out _ _ ⟨q1, q2⟩ (fun hHeld => ?_)
    clear hK K
    refine norm_ (a' := ?_) ?_ ?_
    rotate_left
    · show Act.put _ (some 40) _ = _
      simp only [Act.put, List.setIfInBounds_toArray, List.set_cons_zero, List.set_cons_succ, i64_w, i32_w]
      rfl
    refine pure_ (i := 7) (N := some 41) (v := ?_) (a' := ?_) #[true, true, true, true, true, true, true, true, false, false, false, false] rfl rfl (by kernel_rfl) (fun _ _ _ h => h) (Or.inl ⟨by rfl, ?_⟩) ?_ ?_
    rotate_left
    · intro w'
      go_simp
      with_reducible rfl
    rotate_left
    · simp only [Act.put, List.setIfInBounds_toArray, List.set_cons_zero, List.set_cons_succ, i64_w, i32_w]
      rfl
    refine pure_ (i := 8) (N := some 42) (v := ?_) (a' := ?_) #[true, true, true, true, true, true, true, true, true, false, false, false] rfl rfl (by kernel_rfl) (fun _ _ _ h => h) (Or.inl ⟨by rfl, ?_⟩) ?_ ?_
    rotate_left
    · intro w'
      go_simp
      with_reducible rfl
    rotate_left
    · simp only [Act.put, List.setIfInBounds_toArray, List.set_cons_zero, List.set_cons_succ, i64_w, i32_w]
      rfl
    refine one_ (i := 9) (N := some 43) #[true, true, true, true, true, true, true, true, true, true, false, false] rfl rfl (by kernel_rfl) (by decide) (fun K hK => ?_)
    refine goes_ Tryz.func33 (by kernel_rfl) rfl #[.int .i64 (wrap64 (wrap64 (x + (b : Int)) - 1))] (by rfl) rfl rfl (by simp only [List.map_toArray, List.map_cons, List.map_nil]; rfl) ?_
    with_reducible refine (HPW.out w5).mono ?_
    rintro e w6 ⟨rfl, hb6⟩
    refine ⟨_, rfl, ?_⟩
    have HB6 := Aside0.mk (below_step HB5.out hb6)
    have KX6 := Aside0.mk (hp_below KX5.out hb6)
    obtain ⟨q0, q1, q2, _, _, _⟩ := blk3 KX6.out
    clear hb6
    refine hK.out _ _ ⟨q1, q2⟩ (fun hHeld => ?_)
    clear hK K
    refine norm_ (a' := ?_) ?_ ?_
    rotate_left
    · show Act.put _ (some 43) _ = _
      simp only [Act.put, List.setIfInBounds_toArray, List.set_cons_zero, List.set_cons_succ, i64_w, i32_w]
      rfl
    refine pure_ (i := 10) (N := some 44) (v := ?_) (a' := ?_) #[true, true, true, true, true, true, true, true, true, true, true, false] rfl rfl (by kernel_rfl) (fun _ _ _ h => h) (Or.inl ⟨by rfl, ?_⟩) ?_ ?_
    rotate_left
    · intro w'
      go_simp
      with_reducible rfl
    rotate_left
    · simp only [Act.put, List.setIfInBounds_toArray, List.set_cons_zero, List.set_cons_succ, i64_w, i32_w]
      rfl
    refine pure_ (i := 11) (N := some 4) (v := ?_) (a' := ?_) #[true, true, true, true, true, true, true, true, true, true, true, true] rfl rfl (by kernel_rfl) (fun _ _ _ h => h) (Or.inl ⟨by rfl, ?_⟩) ?_ ?_
    rotate_left
    · intro w'
      go_simp
      with_reducible rfl
    rotate_left
    · simp only [Act.put, List.setIfInBounds_toArray, List.set_cons_zero, List.set_cons_succ, i64_w, i32_w]
      rfl
    refine done_ (by kernel_rfl) ?_
    go_wp2_with (fail)
    go_ret
    exact ⟨rfl, HB6.out⟩
end Go.Proofs.YtfnknldbjckgoaaGreatDoor.Sp
