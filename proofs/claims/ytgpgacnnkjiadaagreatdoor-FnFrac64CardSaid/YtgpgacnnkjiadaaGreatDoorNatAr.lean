/-
  CONTRACTS: arithmetic of natural numbers (divW, mulAddWW).
-/
import Derived.Test.YtgpgacnnkjiadaaGreatDoorMDiv
namespace Go.Proofs.YtgpgacnnkjiadaaGreatDoor.Sp
open Go.RowKit Go.Proofs.YtgpgacnnkjiadaaGreatDoorW.PrintWords Go.Proofs.YtgpgacnnkjiadaaGreatDoorW.PrintLast Go.Proofs.YtgpgacnnkjiadaaGreatDoorW.PrintMore Go.Proofs.YtgpgacnnkjiadaaGreatDoor.Dig
set_option linter.unusedVariables false
set_option linter.unusedSimpArgs false
/-- The words below n of a row, read from its block. -/
theorem take_C {w : World} {mb n : Nat} {X : List Int} {t : TypeId} (h : hp w mb = some (.cells (u64s X) t (0, 0))) (hn : n ≤ X.length) (hl : X.length ≤ 1000000) : Kd.C (Kd.int .u64) w (some ⟨mb, 0, none⟩) (X.take n).length (X.take n) := by
  refine blk_C _ h 0 (by rw [List.length_take]; omega) (fun i hi => ?_)
  rw [List.length_take] at hi
  rw [Nat.zero_add, u64s_get _ i (by omega)]
  simp [List.getD, List.getElem?_take_of_lt (show i < n by omega)]
theorem upd_take (Z : List Int) (n : Nat) (T : Int) (hn : n ≤ Z.length) : (upd Z 0 0 n T).take n = wn n T := by
  apply List.ext_getElem
  · simp [upd, wn]; omega
  · intro i h1 h2
    have hi : i < n := by simpa [wn] using h2
    simp only [List.getElem_take, upd, wn, List.getElem_map, List.getElem_range]
    rw [if_pos (by omega), Nat.sub_zero]
theorem upd_take1 (Z : List Int) (n : Nat) (T c : Int) (hn : n < Z.length) : ((upd Z 0 0 n T).set n c).take (n + 1) = wn n T ++ [c] := by
  have e : ((upd Z 0 0 n T).set n c).take (n + 1) = (upd Z 0 0 n T).take n ++ [c] := by
    apply List.ext_getElem?
    intro i
    by_cases h : i < n
    · rw [List.getElem?_take_of_lt (by omega), List.getElem?_set_ne (by omega), List.getElem?_append_left (by rw [List.length_take, upd_len]; omega), List.getElem?_take_of_lt h]
    · by_cases h2 : i = n
      · subst h2
        rw [List.getElem?_take_of_lt (by omega), List.getElem?_set_self (by rw [upd_len]; omega), List.getElem?_append_right (by rw [List.length_take, upd_len]; omega)]
        have : i - ((upd Z 0 0 i T).take i).length = 0 := by rw [List.length_take, upd_len]; omega
        rw [this]; rfl
      · rw [List.getElem?_eq_none (by rw [List.length_take, List.length_set, upd_len]; omega), List.getElem?_eq_none (by rw [List.length_append, List.length_take, upd_len]; simp; omega)]
  rw [e, upd_take _ _ _ (by omega)]
set_option maxHeartbeats 3200000 in
set_option maxRecDepth 100000 in
theorem natDivW_c (z x : Value) (S : Nat → Prop) (L : List Int) (y : Int) (w : World) (h : Dst w z S) (hr : Rd w S z x L) (h0 : 0 < L.length) (hbig : L.length ≤ 900000) (hy : 2 ≤ y ∧ y < BW) :
    Calls Tryz.prog 63 #[z, x, .int .u64 y] w fun e w' => ∃ q, e = .returned (.tuple #[q, .int .u64 (ev BW L % y)]) ∧ NR w' (fun k => S k ∨ w.heap.size ≤ k) q (ev BW L / y) ∧ Kept S w w' := by
  have HM := Aside0.mk (make2_c z S L.length w h h0 hbig)
  have HD := Aside0.mk h
  have HR := Aside0.mk hr
  obtain ⟨mx, ox, c, rfl, hlc, _, hok, _, _⟩ := hr
  have HOK := Aside0.mk hok
  have hy0 : (y == 0) = false := by rw [beq_eq_false_iff_ne]; omega
  have hy1 : (y == 1) = false := by rw [beq_eq_false_iff_ne]; omega
  have hl0 : ((L.length : Int) == 0) = false := by rw [beq_eq_false_iff_ne]; omega
  obtain ⟨A, nz, cz, rfl⟩ : ∃ A nz cz, z = .slice A nz cz := by
    rcases h with h | ⟨mz, nz, Z, h, _⟩
    · exact ⟨_, _, _, h⟩
    · exact ⟨_, _, _, h⟩
  clear h hok
  go_enter Tryz.func63, Tryz.ntmps63
  go_wp2_with (fail)
  refine (HM.out).mono ?_
  rintro e w1 hm
  obtain ⟨mb, Z, rfl, hn, hmax, hS, hz, hokZ, hb1, hmb⟩ := make_dst HD.out hm
  obtain ⟨mx', ox', c', e1, _, hlies, hmx⟩ := rd_lies HR.out hb1 hS hmb
  injection e1 with e1 e2 e3
  injection e1 with e1
  injection e1 with e1 e4
  subst e1 e4
  have HV := Aside0.mk (divWVW_c mb 0 Z.length mx ox c Z L y 67 w1 hz (by omega) hlies h0 (by omega) HOK.out (by omega) hy.2)
  have HB1 := Aside0.mk hb1
  have HS := Aside0.mk hS
  have HOZ := Aside0.mk hokZ
  have HMB := Aside0.mk hmb
  clear hm hS hz hokZ hb1 hmb hlies HM HR e2 e3
  go_wp2_with (fail)
  refine (HV.out).mono ?_
  rintro e w2 ⟨rfl, hz2, hk2⟩
  obtain ⟨T, hT⟩ : ∃ T, T = ev BW L / y := ⟨_, rfl⟩
  rw [← hT] at hz2
  have HT := Aside0.mk hT
  have hul : (upd Z 0 0 L.length T).length = Z.length := upd_len ..
  have HN := Aside0.mk (norm_w (some ⟨mb, 0, none⟩) Z.length ((upd Z 0 0 L.length T).take L.length) L.length w2 (take_C hz2 (by omega) (by omega)) (by rw [List.length_take]; omega) hn (by omega))
  have hTb : 0 ≤ T ∧ T < BW ^ L.length := by
    have h1 := ev_nonneg HOK.out BW_pos
    have h2 := ev_lt HOK.out BW_pos
    rw [hT]
    exact ⟨Int.ediv_nonneg h1 (by omega), Int.lt_of_le_of_lt (Int.ediv_le_self _ h1) h2⟩
  have HNR : Aside0 (NR w2 (fun k => S k ∨ w.heap.size ≤ k) (.slice (some ⟨mb, 0, none⟩) (strip ((upd Z 0 0 L.length T).take L.length)).length Z.length) T) := ⟨NR.of_strip hz2 (upd_ok HOZ.out _ _ _ _) (by omega) (by rw [upd_take _ _ _ hn, ev_wn_lt _ _ hTb.1 hTb.2]) (by rcases HS.out with h | h; exact .inl h; exact .inr (by omega)) hul.symm (by omega)⟩
  have HKK : Aside0 (Kept S w w2) := ⟨(Kept.of_below HB1.out).trans hk2 (fun i hi h => by
    obtain rfl : i = mb := h
    rcases HS.out with h | h
    · exact h
    · omega)⟩
  clear hz2 hk2 hT hTb HV hul
  go_wp2_with (fail)
  refine (HN.out).mono ?_
  rintro e w3 ⟨rfl, rfl⟩
  go_wp2_with (fail)
  go_ret2
  exact ⟨_, rfl, by rw [← HT.out]; exact HNR.out, HKK.out⟩
set_option maxHeartbeats 3200000 in
set_option maxRecDepth 100000 in
theorem mulAddWW_c (z x : Value) (S : Nat → Prop) (L : List Int) (y r : Int) (w : World) (h : Dst w z S) (hr : Rd w S z x L) (h0 : 0 < L.length) (hbig : L.length ≤ 800000) (hy : 0 < y ∧ y < BW) (hrr : 0 ≤ r ∧ r < BW) :
    Calls Tryz.prog 68 #[z, x, .int .u64 y, .int .u64 r] w fun e w' => ∃ q, e = .returned q ∧ NR w' (fun k => S k ∨ w.heap.size ≤ k) q (ev BW L * y + r) ∧ Kept S w w' := by
  have HM := Aside0.mk (make2_c z S (L.length + 1) w h (by omega) (by omega))
  have HD := Aside0.mk h
  have HR := Aside0.mk hr
  obtain ⟨mx, ox, c, rfl, hlc, _, hok, _, _⟩ := hr
  have HOK := Aside0.mk hok
  have hy0 : (y == 0) = false := by rw [beq_eq_false_iff_ne]; omega
  have hl0 : ((L.length : Int) == 0) = false := by rw [beq_eq_false_iff_ne]; omega
  have hl1 : IntKind.i64.wrap ((L.length : Int) + 1) = ((L.length + 1 : Nat) : Int) := by rw [IntWalk.i64_in _ (by omega)]; omega
  obtain ⟨A, nz, cz, rfl⟩ : ∃ A nz cz, z = .slice A nz cz := by
    rcases h with h | ⟨mz, nz, Z, h, _⟩
    · exact ⟨_, _, _, h⟩
    · exact ⟨_, _, _, h⟩
  clear h hok
  go_enter Tryz.func68, Tryz.ntmps68
  go_wp2_with (fail)
  refine (HM.out).mono ?_
  rintro e w1 hm
  obtain ⟨mb, Z, rfl, hn, hmax, hS, hz, hokZ, hb1, hmb⟩ := make_dst HD.out hm
  obtain ⟨mx', ox', c', e1, _, hlies, hmx⟩ := rd_lies HR.out hb1 hS hmb
  injection e1 with e1 e2 e3
  injection e1 with e1
  injection e1 with e1 e4
  subst e1 e4
  have HV := Aside0.mk (mulAddVWW_c mb 0 Z.length mx ox c Z L y r 67 w1 hz (by omega) hlies (by omega) HOK.out ⟨by omega, hy.2⟩ hrr)
  have HB1 := Aside0.mk hb1
  have HS := Aside0.mk hS
  have HOZ := Aside0.mk hokZ
  have hnl : L.length ≤ Z.length := by omega
  have hnl2 : L.length < Z.length := by omega
  clear hm hS hz hokZ hb1 hmb hlies HM HR e2 e3 hl1
  go_wp2_with (fail)
  refine (HV.out).mono ?_
  rintro e w2 ⟨rfl, hz2, hk2⟩
  obtain ⟨T, hT⟩ : ∃ T, T = ev BW L * y + r := ⟨_, rfl⟩
  rw [← hT] at hz2 ⊢
  have HT := Aside0.mk hT
  obtain ⟨cy', hcy⟩ : ∃ cy', cy' = T / BW ^ L.length := ⟨_, rfl⟩
  have hul : (upd Z 0 0 L.length T).length = Z.length := upd_len ..
  have c0 := (blk_cell hz2 L.length).trans (u64s_get _ L.length (by omega))
  have f0 := blk_frozen hz2 L.length
  have HZ2 := Aside0.mk hz2
  have HK2 := Aside0.mk hk2
  have hTb : 0 ≤ T ∧ T < BW ^ L.length * BW := by
    have h1 := ev_nonneg HOK.out BW_pos
    have h2 := ev_lt HOK.out BW_pos
    have h3 := Int.mul_nonneg h1 (show 0 ≤ y by omega)
    have h4 := Int.mul_le_mul_of_nonneg_right (show ev BW L ≤ BW ^ L.length - 1 by omega) (show 0 ≤ y by omega)
    have h5 := Int.mul_le_mul_of_nonneg_left (show y ≤ BW - 1 by omega) (show 0 ≤ BW ^ L.length - 1 by have := BWp L.length; omega)
    have h6 : (BW ^ L.length - 1) * (BW - 1) = BW ^ L.length * BW - BW ^ L.length - BW + 1 := by rw [Int.sub_mul, Int.mul_sub, Int.mul_one, Int.one_mul]; omega
    rw [hT]
    have := BWp L.length
    omega
  have hcb : 0 ≤ cy' ∧ cy' < BW := by
    rw [hcy]
    exact ⟨Int.ediv_nonneg hTb.1 (Int.le_of_lt (BWp _)), Int.ediv_lt_of_lt_mul (BWp _) (by rw [Int.mul_comm]; exact hTb.2)⟩
  have hev : ev BW (wn L.length T ++ [cy']) = T := by
    rw [ev_snoc, wn_len, ev_wn, hcy]
    exact Int.emod_add_mul_ediv T (BW ^ L.length)
  have HZ3 : Aside0 (hp (w2.setCell ⟨mb, L.length, none⟩ (.int .u64 cy')) mb = some (.cells (u64s ((upd Z 0 0 L.length T).set L.length cy')) 67 (0, 0))) := ⟨by
    rw [hp_here _ _ _ _ _ rfl, HZ2.out]
    simp only [Option.map_some, setObj_cells, u64s_set]⟩
  obtain ⟨X, hX⟩ : ∃ X, X = (upd Z 0 0 L.length T).set L.length cy' := ⟨_, rfl⟩
  have hXl : X.length = Z.length := by rw [hX, List.length_set, hul]
  have hXt : X.take (L.length + 1) = wn L.length T ++ [cy'] := by rw [hX]; exact upd_take1 Z L.length T cy' (by omega)
  have hXo : okd BW X := by rw [hX]; exact okd_set (upd_ok HOZ.out _ _ _ _) _ hcb.1 hcb.2
  rw [← hX] at HZ3
  have HN := Aside0.mk (norm_w (some ⟨mb, 0, none⟩) Z.length (X.take (L.length + 1)) (L.length + 1) (w2.setCell ⟨mb, L.length, none⟩ (.int .u64 cy')) (take_C HZ3.out (by omega) (by omega)) (by rw [List.length_take]; omega) hn (by omega))
  have HNR : Aside0 (NR (w2.setCell ⟨mb, L.length, none⟩ (.int .u64 cy')) (fun k => S k ∨ w.heap.size ≤ k) (.slice (some ⟨mb, 0, none⟩) (strip (X.take (L.length + 1))).length Z.length) T) := ⟨NR.of_strip HZ3.out hXo (by omega) (by rw [hXt, hev]) (by rcases HS.out with h | h; exact .inl h; exact .inr (by omega)) hXl.symm (by omega)⟩
  have HKK : Aside0 (Kept S w (w2.setCell ⟨mb, L.length, none⟩ (.int .u64 cy'))) := ⟨(Kept.of_below HB1.out).trans ((HK2.out).setCell (p := ⟨mb, L.length, none⟩) (.inl rfl) _) (fun i hi h => by
    obtain rfl : i = mb := h
    rcases HS.out with h | h
    · exact h
    · omega)⟩
  rw [← hcy]
  clear hz2 hk2 hT hTb HV hul hcy hcb hev hX hXl hXt hXo
  go_wp2_with (fail)
  refine (HN.out).mono ?_
  rintro e w3 ⟨rfl, rfl⟩
  go_wp2_with (fail)
  go_ret
  exact ⟨_, rfl, by rw [← HT.out]; exact HNR.out, HKK.out⟩
end Go.Proofs.YtgpgacnnkjiadaaGreatDoor.Sp
