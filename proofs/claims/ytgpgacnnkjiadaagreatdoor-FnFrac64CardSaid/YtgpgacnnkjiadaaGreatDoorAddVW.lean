/-
  CONTRACTS: math/bits.Add; a word is added to a row of words in place (addVW).
-/
import Derived.Test.YtgpgacnnkjiadaaGreatDoorBitsC
import Derived.Test.YtgpgacnnkjiadaaGreatDoorShift
namespace Go.Proofs.YtgpgacnnkjiadaaGreatDoor.Sp
open Go.RowKit Go.Proofs.YtgpgacnnkjiadaaGreatDoorW.PrintWords Go.Proofs.YtgpgacnnkjiadaaGreatDoorW.PrintLast Go.Proofs.YtgpgacnnkjiadaaGreatDoorW.PrintMore Go.Proofs.YtgpgacnnkjiadaaGreatDoor.Dig
set_option linter.unusedVariables false
set_option linter.unusedSimpArgs false

theorem upd_same {Z : List Int} {o lo hi n : Nat} {T : Int} (h : hi ≤ n) (hd : ∀ j, hi ≤ j → j < n → o + j < Z.length → dg T j = Z.getD (o + j) 0) (hl : lo ≤ hi) : upd Z o lo hi T = upd Z o lo n T := by
  apply List.ext_getElem
  · simp [upd]
  · intro i h1 h2
    simp only [upd, List.getElem_map, List.getElem_range]
    by_cases e : o + lo ≤ i ∧ i < o + hi
    · rw [if_pos e, if_pos (by omega)]
    · rw [if_neg e]
      by_cases e2 : o + lo ≤ i ∧ i < o + n
      · rw [if_pos e2]
        have := hd (i - o) (by omega) (by omega) (by rw [upd_len] at h1; omega)
        rw [this]
        congr 1
        omega
      · rw [if_neg e2]
theorem cy_zero {l : List Int} (h : okd BW l) {y : Int} {i : Nat} (h0 : cy l y i = 0) : ∀ j, i ≤ j → cy l y j = 0 := by
  intro j hj
  induction j with
  | zero => obtain rfl : i = 0 := by omega
            exact h0
  | succ j ih =>
    rcases Nat.lt_or_ge j i with h1 | h1
    · obtain rfl : i = j + 1 := by omega
      exact h0
    · have hg := okd_get h BW_pos j
      show (l.getD j 0 + cy l y j) / BW = 0
      rw [ih h1, Int.add_zero, Int.ediv_eq_zero_of_lt hg.1 hg.2]
theorem cy_rest {l R : List Int} (h : okd BW l) {y : Int} {i : Nat} (h0 : cy l y i = 0) (j : Nat) (hj : i ≤ j) (hjl : j < l.length) : dg (ev BW l + y) j = (l ++ R).getD (0 + j) 0 := by
  have hg := okd_get h BW_pos j
  rw [cy_dg h, cy_zero h h0 j hj, Int.add_zero, Int.emod_eq_of_lt hg.1 hg.2, Nat.zero_add]
  simp only [List.getD_eq_getElem?_getD, List.getElem?_append_left hjl]
theorem add64 (x y : Int) (hx : 0 ≤ x) (hy : 0 ≤ y) (w : World) : (callFunc 120 #[.int .u64 x, .int .u64 y, .int .u64 0]).run Tryz.prog w =
    .ok (.value (.tuple #[.int .u64 ((x + y) % 18446744073709551616), .int .u64 ((x + y) / 18446744073709551616)])) w := by
  obtain ⟨x, rfl⟩ := Int.eq_ofNat_of_zero_le hx
  obtain ⟨y, rfl⟩ := Int.eq_ofNat_of_zero_le hy
  refine (Sh.bits_Add64 x y 0 (by omega) w).trans ?_
  congr 5 <;> omega
set_option maxHeartbeats 800000 in
set_option maxRecDepth 100000 in
theorem bitsAdd_c (x y : Int) (w : World) (hx : 0 ≤ x) (hy : 0 ≤ y) : Calls Tryz.prog 105 #[.int .u64 x, .int .u64 y, .int .u64 0] w fun e w' => e = .returned (.tuple #[.int .u64 ((x + y) % BW), .int .u64 ((x + y) / BW)]) ∧ w = w' := by
  have h := add64 x y hx hy w
  rw [← BW_def] at h
  obtain ⟨a, ha⟩ : ∃ a, a = (x + y) % BW := ⟨_, rfl⟩
  obtain ⟨b, hb⟩ : ∃ b, b = (x + y) / BW := ⟨_, rfl⟩
  rw [← ha, ← hb] at h ⊢
  clear ha hb
  go_enter Tryz.func105, Tryz.ntmps105
  go_wp2
  go_ret2
  exact ⟨rfl, rfl⟩
set_option maxHeartbeats 3200000 in
set_option maxRecDepth 100000 in
theorem addVW_c (mz cz : Nat) (L R : List Int) (y : Int) (t : TypeId) (w : World) (hz : hp w mz = some (.cells (u64s (L ++ R)) t (0, 0))) (h0 : 0 < L.length) (hbig : L.length ≤ 100000000) (hok : okd BW L) (hy : 0 ≤ y ∧ y < BW) :
    Calls Tryz.prog 85 #[.slice (some ⟨mz, 0, none⟩) L.length cz, .slice (some ⟨mz, 0, none⟩) L.length cz, .int .u64 y] w (ShiftPost w mz 0 (L ++ R) L.length (ev BW L + y) (cy L y L.length) t) := by
  have hq := neq_same 126 67 Tryz.underlying126 infoWord ⟨mz, 0, none⟩
  have HZ := Aside0.mk hz
  have HOK := Aside0.mk hok
  obtain ⟨n, hn⟩ : ∃ n, n = L.length := ⟨_, rfl⟩
  have HN := Aside0.mk hn
  have hlen : n ≤ (L ++ R).length := by rw [List.length_append]; omega
  have hx0 := (blk_cell hz 0).trans (u64s_get _ 0 (by omega))
  have hf0 := blk_frozen hz 0
  have e0 : (L ++ R).getD 0 0 = L.getD 0 0 := by simp only [List.getD_eq_getElem?_getD, List.getElem?_append_left h0]
  rw [e0] at hx0
  have hg := okd_get hok BW_pos 0
  obtain ⟨x, hx⟩ : ∃ x, x = L.getD 0 0 := ⟨_, rfl⟩
  rw [← hx] at hx0 hg
  have hnb : ((n : Int) == 0) = false := by rw [beq_eq_false_iff_ne]; omega
  rw [← hn] at h0 hbig ⊢
  have hA := bitsAdd_c x y
  have HC1 : Aside0 ((x + y) / BW = cy L y 1) := ⟨by rw [hx]; rfl⟩
  have HD0 : Aside0 ((x + y) % BW = dg (ev BW L + y) 0) := ⟨by rw [cy_dg hok, ← hx]; rfl⟩
  have hc1 := cy_ok hok hy.1 hy.2 1
  have HY := Aside0.mk hy
  obtain ⟨k, rfl⟩ : ∃ k, n = k + 1 := ⟨n - 1, by omega⟩
  have H0 : Aside0 (∀ w', hp w' mz = some (.cells (u64s (L ++ R)) t (0, 0)) → hp (w'.setCell ⟨mz, 0, none⟩ (.int .u64 ((x + y) % BW))) mz = some (.cells (u64s (upd (L ++ R) 0 0 1 (ev BW L + y))) t (0, 0))) := ⟨fun w' hw' => by
    rw [hp_here _ _ _ _ _ rfl, hw']
    simp only [Option.map_some, setObj_cells, u64s_set]
    rw [HD0.out]
    have hu := upd_up (L ++ R) 0 0 0 (ev BW L + y) (Nat.le_refl _) (by omega)
    rw [upd_none _ _ _ _ _ (Nat.le_refl _)] at hu
    have hu' : (L ++ R).set 0 (dg (ev BW L + y) 0) = upd (L ++ R) 0 0 1 (ev BW L + y) := hu
    rw [hu']⟩
  have hxy := HY.out
  by_cases hc : (x + y) / BW = 0
  · have HE : Aside0 (upd (L ++ R) 0 0 1 (ev BW L + y) = upd (L ++ R) 0 0 (k + 1) (ev BW L + y)) := ⟨upd_same (by omega) (fun j h1 h2 _ => cy_rest hok (by rw [← HC1.out]; exact hc) j h1 (by omega)) (by omega)⟩
    have HF : Aside0 (cy L y (k + 1) = 0) := ⟨cy_zero hok (by rw [← HC1.out]; exact hc) _ (by omega)⟩
    obtain ⟨a, ha⟩ : ∃ a, a = (x + y) % BW := ⟨_, rfl⟩
    rw [← ha] at H0
    have hA' : ∀ w : World, Calls Tryz.prog 105 #[.int .u64 x, .int .u64 y, .int .u64 0] w fun e w' => e = .returned (.tuple #[.int .u64 a, .int .u64 0]) ∧ w = w' := fun w => by
      have := hA w hg.1 hxy.1
      rw [← ha, hc] at this
      exact this
    have HA := Aside0.mk hA'
    clear hA hA' ha hc hx hok e0 hz hn hc1 HC1 HD0 hg hxy hy
    go_enter Tryz.func85, Tryz.ntmps85
    go_wp2_with (go_at_call 105; refine (HA.out _).mono ?_; rintro e w' ⟨rfl, rfl⟩)
    go_region
    go_wp2_with (fail)
    go_ret
    refine ⟨by rw [HF.out]; rfl, ?_, ((Kept.refl (On mz) w).setCell (p := ⟨mz, 0, none⟩) (.inl rfl) _).drew⟩
    rw [hp_drew, H0.out _ HZ.out, HE.out]
  · have hc1' : (x + y) / BW = 1 := by have := hc1.2.2 (by omega); rw [← HC1.out] at this; have := hc1.1; rw [← HC1.out] at this; omega
    have HCY : Aside0 (cy L y 1 = 1) := ⟨by rw [← HC1.out]; exact hc1'⟩
    obtain ⟨a, ha⟩ : ∃ a, a = (x + y) % BW := ⟨_, rfl⟩
    rw [← ha] at H0
    have hA' : ∀ w : World, Calls Tryz.prog 105 #[.int .u64 x, .int .u64 y, .int .u64 0] w fun e w' => e = .returned (.tuple #[.int .u64 a, .int .u64 1]) ∧ w = w' := fun w => by
      have := hA w hg.1 hxy.1
      rw [← ha, hc1'] at this
      exact this
    have HA := Aside0.mk hA'
    have HM : Aside0 (∀ j, j < k + 1 → cy L y j = 1 → L.getD j 0 ≠ 18446744073709551615 → cy L y (j + 1) = 0 ∧ dg (ev BW L + y) j = L.getD j 0 + 1 ∧ L.getD j 0 + 1 < 18446744073709551616 ∧ 0 ≤ L.getD j 0) := ⟨fun j hj hcj hne => by
      have hgj := okd_get hok BW_pos j
      have e1 := BW_def
      refine ⟨?_, ?_, by omega, hgj.1⟩
      · show (L.getD j 0 + cy L y j) / BW = 0
        rw [hcj, Int.ediv_eq_zero_of_lt (by omega) (by omega)]
      · rw [cy_dg hok, hcj, Int.emod_eq_of_lt (by omega) (by omega)]⟩
    have HM2 : Aside0 (∀ j, j < k + 1 → cy L y j = 1 → L.getD j 0 = 18446744073709551615 → cy L y (j + 1) = 1 ∧ dg (ev BW L + y) j = 0) := ⟨fun j hj hcj he => by
      have e1 := BW_def
      constructor
      · show (L.getD j 0 + cy L y j) / BW = 1
        rw [hcj, he, e1]; rfl
      · rw [cy_dg hok, hcj, he, e1]; rfl⟩
    have HL : Aside0 (∀ j, j < k + 1 → (L ++ R).getD j 0 = L.getD j 0) := ⟨fun j hj => by simp only [List.getD_eq_getElem?_getD]; rw [List.getElem?_append_left (by omega)]⟩
    clear hA hA' ha hc hx hok e0 hz hn hc1 HC1 HD0 hg hxy hy hc1'
    go_enter Tryz.func85, Tryz.ntmps85
    go_wp2_with (go_at_call 105; refine (HA.out _).mono ?_; rintro e w' ⟨rfl, rfl⟩)
    go_loopw [9] (fun v9 wr => ∃ i : Nat, 0 < i ∧ i ≤ k + 1 ∧ v9 = .int .i64 (i : Int) ∧ Aside0 (cy L y i = 1) ∧ Aside0 (hp wr mz = some (.cells (u64s (upd (L ++ R) 0 0 i (ev BW L + y))) t (0, 0))) ∧ Aside0 (Kept (On mz) w wr)) (fun v _ => k + 1 - (intOf v).toNat)
    case atStart => exact ⟨1, by omega, by omega, rfl, HCY, ⟨H0.out _ HZ.out⟩, ⟨(Kept.refl (On mz) w).setCell (p := ⟨mz, 0, none⟩) (.inl rfl) _⟩⟩
    case round =>
      obtain ⟨i, hi0, hi, rfl, HCI, HO, HK⟩ := hrel
      by_cases hik : i = k + 1
      · subst hik
        go_wp2_with (fail)
        go_ret
        exact ⟨by rw [HCI.out]; rfl, HO.out, HK.out⟩
      · have hx1 := (blk_cell HO.out i).trans (u64s_get _ i (by rw [upd_len]; omega))
        rw [upd_get _ _ _ _ _ _ (by omega), if_neg (by omega), HL.out i (by omega)] at hx1
        have hf1 := blk_frozen HO.out i
        have hfz := blk_frozen HO.out 0
        obtain ⟨z, hz⟩ : ∃ z, z = L.getD i 0 := ⟨_, rfl⟩
        rw [← hz] at hx1
        have hlt : i < k + 1 := by omega
        by_cases hm : z = 18446744073709551615
        · have h2 := HM2.out i hlt HCI.out (by rw [← hz]; exact hm)
          have HC2 := Aside0.mk h2.1
          have HO2 : Aside0 (hp (wr.setCell ⟨mz, i, none⟩ (.int .u64 0)) mz = some (.cells (u64s (upd (L ++ R) 0 0 (i + 1) (ev BW L + y))) t (0, 0))) := ⟨by
            rw [hp_here _ _ _ _ _ rfl, HO.out]
            simp only [Option.map_some, setObj_cells, u64s_set]
            have hu := upd_up (L ++ R) 0 0 i (ev BW L + y) (Nat.zero_le _) (by omega)
            rw [h2.2, Nat.zero_add] at hu
            rw [hu]⟩
          subst hm
          clear h2 hz hik hi HCI
          go_wp2_with (fail)
          go_roundw
          case rel => exact ⟨i + 1, by omega, by omega, by simp, HC2, HO2, ⟨HK.out.setCell (p := ⟨mz, i, none⟩) (.inl rfl) _⟩⟩
          case measure => simp [intOf]; omega
        · have h2 := HM.out i hlt HCI.out (by rw [← hz]; exact hm)
          have HF : Aside0 (cy L y (k + 1) = 0) := ⟨cy_zero HOK.out h2.1 _ (by omega)⟩
          have HO2 : Aside0 (hp (wr.setCell ⟨mz, i, none⟩ (.int .u64 (z + 1))) mz = some (.cells (u64s (upd (L ++ R) 0 0 (k + 1) (ev BW L + y))) t (0, 0))) := ⟨by
            rw [hp_here _ _ _ _ _ rfl, HO.out]
            simp only [Option.map_some, setObj_cells, u64s_set]
            have hu := upd_up (L ++ R) 0 0 i (ev BW L + y) (Nat.zero_le _) (by omega)
            rw [h2.2.1, ← hz, Nat.zero_add] at hu
            rw [hu, upd_same (n := k + 1) (by omega) (fun j h3 h4 _ => cy_rest HOK.out h2.1 j h3 (by have := HN.out; omega)) (by omega)]⟩
          have hzb : (z != 18446744073709551615) = true := by rw [bne_iff_ne]; exact hm
          have hzb2 : (z == 18446744073709551615) = false := by rw [beq_eq_false_iff_ne]; exact hm
          have hzr : 0 ≤ z ∧ z + 1 < 18446744073709551616 := by rw [hz]; exact ⟨h2.2.2.2, h2.2.2.1⟩
          have hzw : IntKind.u64.wrap (z + 1) = z + 1 := by rw [IntKind.wrap_u64]; omega
          have HZR := Aside0.mk hzr
          clear h2 hz hik hi HCI hm hzr
          go_wp2_with (fail)
          go_region
          go_wp2_with (fail)
          go_ret
          exact ⟨by rw [HF.out]; rfl, by rw [hp_drew]; exact HO2.out, (HK.out.setCell (p := ⟨mz, i, none⟩) (.inl rfl) _).drew⟩
end Go.Proofs.YtgpgacnnkjiadaaGreatDoor.Sp
