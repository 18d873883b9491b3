/-
  MERGED BY PROGRAM (regroup.py): VwC, NatAdd, ShS.
-/
import Derived.Test.YtfnknldbjckgoaaGreatDoorZGdiv
import Derived.StillTailTactics
import Derived.Deep.CutBlock
import Derived.Test.YtfnknldbjckgoaaGreatDoorZGuto
/-! ## VwC -/
section
namespace Go.Proofs.YtfnknldbjckgoaaGreatDoor.Sp
open Go.RowKit Go.Proofs.YtfnknldbjckgoaaGreatDoorW.PrintWords Go.Proofs.YtfnknldbjckgoaaGreatDoorW.PrintLast Go.Proofs.YtfnknldbjckgoaaGreatDoorW.PrintMore Go.Proofs.YtfnknldbjckgoaaGreatDoor.Dig
set_option linter.unusedVariables false
set_option linter.unusedSimpArgs false
/-- Behind the last carry the words are as they were. -/
theorem cy_keep {l : List Int} (h : okd BW l) {y : Int} {i : Nat} (h0 : cy l y i = 0) (j : Nat) (hj : i ≤ j) : dg (ev BW l + y) j = l.getD j 0 := by
  have hg := okd_get h BW_pos j
  rw [cy_dg h, cy_zero h h0 j hj, Int.add_zero, Int.emod_eq_of_lt hg.1 hg.2]
theorem laid_upd {Z L : List Int} {o i n : Nat} {T : Int} (hn : L.length = n) (hi : i ≤ n) (hl : o + n ≤ Z.length) (hd : ∀ j, i ≤ j → dg T j = L.getD j 0) : laid (upd Z o 0 i T) (o + i) (L.drop i) = upd Z o 0 n T := by
  have hlen : (L.drop i).length = n - i := by rw [List.length_drop, hn]
  apply List.ext_getElem?
  intro j
  unfold laid
  by_cases h1 : j < o + i
  · rw [List.getElem?_append_left (by rw [List.length_take, upd_len]; omega), List.getElem?_take_of_lt h1]
    simp only [upd, List.getElem?_map, List.getElem?_range]
    by_cases hj : j < Z.length
    · rw [List.getElem?_range hj]
      simp only [Option.map_some]
      congr 1
      by_cases h2 : o + 0 ≤ j ∧ j < o + i
      · rw [if_pos h2, if_pos (by omega)]
      · rw [if_neg h2, if_neg (by omega)]
    · omega
  · rw [List.getElem?_append_right (by rw [List.length_take, upd_len]; omega)]
    have e1 : ((upd Z o 0 i T).take (o + i)).length = o + i := by rw [List.length_take, upd_len]; omega
    rw [e1]
    by_cases h2 : j < o + n
    · rw [List.getElem?_append_left (by rw [hlen]; omega), List.getElem?_drop]
      simp only [upd, List.getElem?_map]
      rw [List.getElem?_range (show j < Z.length by omega)]
      simp only [Option.map_some]
      rw [if_pos (by omega), hd (j - o) (by omega), show i + (j - (o + i)) = j - o by omega]
      simp [List.getD, List.getElem?_eq_getElem (show j - o < L.length by omega)]
    · rw [List.getElem?_append_right (by rw [hlen]; omega), List.getElem?_drop, hlen]
      rw [show o + i + (n - i) + (j - (o + i) - (n - i)) = j by omega]
      by_cases hj : j < Z.length
      · simp only [upd, List.getElem?_map]
        rw [List.getElem?_range hj]
        simp only [Option.map_some]
        rw [if_neg (by omega), if_neg (by omega)]
      · rw [List.getElem?_eq_none (by rw [upd_len]; omega), List.getElem?_eq_none (by rw [upd_len]; omega)]
theorem copy_tail {w : World} {X L : List Int} {mx ox J k : Nat} {tx : TypeId} (hX : hp w mx = some (.cells (u64s X) tx (0, 0))) (hXl : ox + (k + 1) ≤ X.length) (hXL : ∀ j, j < k + 1 → X.getD (ox + j) 0 = L.getD j 0) (hn : k + 1 = L.length) : ∀ j v, ((L.drop J).map (Value.int .u64))[j]? = some v → w.cell? ((⟨mx, ox + J, none⟩ : Addr).add j) = some v := by
  intro j v hv
  rw [List.getElem?_map, List.getElem?_drop] at hv
  cases e : L[J + j]? with
  | none => rw [e] at hv; cases hv
  | some q =>
    rw [e] at hv
    have hj := (List.getElem?_eq_some_iff.1 e).1
    rw [add_spot, (blk_cell hX _).trans (u64s_get _ (ox + J + j) (by omega)), Nat.add_assoc, hXL _ (by omega), List.getD_eq_getElem?_getD, e]
    exact hv
set_option maxHeartbeats 3200000 in
set_option maxRecDepth 100000 in
theorem addVW_o_c (mz oz cz mx ox cx : Nat) (Z L : List Int) (y : Int) (t : TypeId) (w : World) (hz : hp w mz = some (.cells (u64s Z) t (0, 0))) (hlen : oz + L.length ≤ Z.length) (X : List Int) (tx : TypeId) (hX : hp w mx = some (.cells (u64s X) tx (0, 0))) (hXl : ox + L.length ≤ X.length) (hXL : ∀ j, j < L.length → X.getD (ox + j) 0 = L.getD j 0) (hne : mx ≠ mz) (hlcx : L.length ≤ cx) (hlcz : L.length ≤ cz) (h0 : 0 < L.length) (hbig : L.length ≤ 100000000) (hok : okd BW L) (hy : 0 ≤ y ∧ y < BW) (n : Nat) (hn : n = L.length) :
    Calls Tryz.prog 113 #[.slice (some ⟨mz, oz, none⟩) n cz, .slice (some ⟨mx, ox, none⟩) n cx, .int .u64 y] w (ShiftPost w mz oz Z n (ev BW L + y) (cy L y n) t) := by
  have hq : ∀ W : World, (∃ cs ts, hp W mz = some (.cells cs ts (0, 0))) → (∃ cs ts, hp W mx = some (.cells cs ts (0, 0))) → (binOp .neq 145 (.pointer (some ⟨mz, oz, none⟩)) (.pointer (some ⟨mx, ox, none⟩))).run Tryz.prog W = .ok (.bool true) W := fun W h1 h2 => by
    obtain ⟨c1, t1, h1⟩ := h1
    obtain ⟨c2, t2, h2⟩ := h2
    exact neq_other 145 108 Tryz.underlying145 infoWord (by decide) (by intro e; injection e with e; exact hne e.symm) h1 h2
  have HQ := Aside0.mk hq
  clear hq
  have HZ := Aside0.mk hz
  have HOK := Aside0.mk hok
  have HN := Aside0.mk hn
  rw [← hn] at hlen h0 hbig hlcx hlcz
  have HX := Aside0.mk hX
  have HXL := Aside0.mk (fun j (h : j < n) => hXL j (by omega))
  rw [← hn] at hXl
  clear hX hXL
  have hc0 := (blk_cell hz oz).trans (u64s_get _ oz (by omega))
  have hf0 := blk_frozen hz oz
  have hg := okd_get hok BW_pos 0
  have hx0 := (blk_cell HX.out ox).trans (u64s_get _ ox (by omega))
  have e0 := HXL.out 0 (by omega)
  rw [Nat.add_zero] at e0
  rw [e0] at hx0
  obtain ⟨x, hx⟩ : ∃ x, x = L.getD 0 0 := ⟨_, rfl⟩
  rw [← hx] at hx0 hg
  have hnb : ((n : Int) == 0) = false := by rw [beq_eq_false_iff_ne]; omega
  obtain ⟨T, hT⟩ : ∃ T, T = ev BW L + y := ⟨_, rfl⟩
  obtain ⟨K, hK⟩ : ∃ K, K = cy L y := ⟨_, rfl⟩
  have hK1 : K 1 = (x + y) / BW := by rw [hK, hx]; show (L.getD 0 0 + y) / BW = _; congr 1; try omega
  have hd0 : dg T 0 = (x + y) % BW := by rw [hT, cy_dg hok, hx]; show (L.getD 0 0 + y) % BW = _; congr 1; try omega
  have HKEEP := Aside0.mk (fun i h j hj => cy_keep (y := y) hok (i := i) h j hj)
  have HZERO := Aside0.mk (fun i h => cy_zero (y := y) hok (i := i) h)
  have HS := Aside0.mk (fun i => show K (i + 1) = (L.getD i 0 + K i) / BW ∧ dg T i = (L.getD i 0 + K i) % BW from ⟨by rw [hK]; rfl, by rw [hT, hK, cy_dg hok]⟩)
  rw [← hT] at HKEEP ⊢
  rw [← hK] at HKEEP HZERO ⊢
  have hA := fun w => bitsAdd_c x y w hg.1 hy.1
  obtain ⟨a, ha⟩ : ∃ a, a = (x + y) % BW := ⟨_, rfl⟩
  obtain ⟨c, hc⟩ : ∃ c, c = ((x + y) / BW) := ⟨_, rfl⟩
  have hcr : c = 0 ∨ c = 1 := by
    rw [hc]
    have h1 : 0 ≤ (x + y) / BW := Int.ediv_nonneg (by omega) (Int.le_of_lt BW_pos)
    have h2 : (x + y) / BW < 2 := Int.ediv_lt_of_lt_mul BW_pos (by omega)
    omega
  have hc1 : K 1 = (c) := by rw [hK1, hc]; try omega
  rw [← ha] at hd0 hA
  rw [← hc] at hA
  have HA := Aside0.mk hA
  have HD0 := Aside0.mk hd0
  have hlen0 := hlen
  obtain ⟨k, rfl⟩ : ∃ k, n = k + 1 := ⟨n - 1, by omega⟩
  have H0 : Aside0 (hp (w.setCell ⟨mz, oz, none⟩ (.int .u64 a)) mz = some (.cells (u64s (upd Z oz 0 1 T)) t (0, 0))) := ⟨by
    rw [hp_here _ _ _ _ _ rfl, HZ.out]
    simp only [Option.map_some, setObj_cells, u64s_set]
    have hu := upd_up Z oz 0 0 T (Nat.le_refl _) (by omega)
    rw [upd_none _ _ _ _ _ (Nat.le_refl _), Nat.add_zero, hd0] at hu
    rw [hu]⟩
  have HK0 : Aside0 (Kept (On mz) w (w.setCell ⟨mz, oz, none⟩ (.int .u64 a))) := ⟨(Kept.refl (On mz) w).setCell (p := ⟨mz, oz, none⟩) (.inl rfl) _⟩
  have HC1 := Aside0.mk hc1
  clear hA ha hc hx hok hz hn hd0 hK1 hT hK hg hc1 hy
  rcases hcr with rfl | rfl
  · have hk0 : K 1 = 0 := by rw [HC1.out]; try rfl
    have HE : Aside0 (K (k + 1) = 0) := ⟨HZERO.out 1 hk0 _ (by omega)⟩
    have HKP := Aside0.mk (HKEEP.out 1 hk0)
    clear hk0
    go_enter Tryz.func113, Tryz.ntmps113
    go_wp2_with (go_at_call 135; refine (HA.out _).mono ?_; rintro e w' ⟨rfl, rfl⟩)
    have HX2 := Aside0.mk (hp_kept HX.out HK0.out (fun h => hne h))
    obtain ⟨w2, hw2⟩ : ∃ w2, w2 = w.setCell ⟨mz, oz, none⟩ (.int .u64 a) := ⟨_, rfl⟩
    rw [← hw2] at H0 HK0 HX2 ⊢
    clear hw2
    have hqq : ∀ W : World, W.heap = w2.heap → (binOp .neq 145 (.pointer (some ⟨mz, oz, none⟩)) (.pointer (some ⟨mx, ox, none⟩))).run Tryz.prog W = .ok (.bool true) W := fun W hW => HQ.out W ⟨_, _, by unfold hp; rw [hW]; exact H0.out⟩ ⟨_, _, by unfold hp; rw [hW]; exact HX2.out⟩
    have hq1 := hqq w2 rfl
    have hq2 := hqq w2.drew rfl
    have z0 := (blk_cell H0.out oz).trans (u64s_get _ oz (by rw [upd_len]; omega))
    have x0 := (blk_cell HX2.out ox).trans (u64s_get _ ox (by omega))
    clear hqq
    go_region
    have hJ1 : (1 : Int) ≤ (k : Int) + 1 := by omega
    have HSRC := Aside0.mk (copy_tail (J := 1) HX2.out hXl HXL.out HN.out)
    have HLEN : Aside0 (((L.drop 1).map (Value.int .u64)).length = k + 1 - 1) := ⟨by rw [List.length_map, List.length_drop, ← HN.out]⟩
    go_upto_region 9 with (fail)
    go_still_tail 4, (by kernel_rfl)
    refine wpList_copy_kept (w := w2.drew.drew) rfl _ _ 80 80 rfl 108 Tryz.underlying80 (by kernel_rfl) _ _ _ _ _ _ rfl rfl mz (oz + 1) ((upd Z oz 0 1 T).map (Value.int .u64)) t H0.out ((L.drop 1).map (Value.int .u64)) ?_ ?_ ?_ (fun v hv => copy_one v hv) ?_
    · rw [HLEN.out]; simp
    · intro h
      rw [HLEN.out] at h
      exact ⟨by rw [if_neg (by omega)], ⟨mx, ox + 1, none⟩, by rw [if_neg (by omega)], HSRC.out⟩
    · rw [HLEN.out, List.length_map, upd_len]; omega
    · intro w' hw' hk'
      have HW' := Aside0.mk hw'.out
      clear hw' HSRC HLEN
      go_wp2_with (fail)
      all_goals
        go_ret
        refine ⟨by rw [HE.out]; try rfl, ?_, (HK0.out.drew.drew).trans hk'.out (fun _ _ h => h)⟩
        have h2 : hp w' mz = _ := HW'.out
        rw [h2, laid_u64, laid_upd HN.out.symm (by omega) (by omega) HKP.out]
  · go_enter Tryz.func113, Tryz.ntmps113
    go_wp2_with (go_at_call 135; refine (HA.out _).mono ?_; rintro e w' ⟨rfl, rfl⟩)
    go_loopw [9] (fun v9 wr => ∃ i : Nat, 0 < i ∧ i ≤ k + 1 ∧ v9 = .int .i64 (i : Int) ∧ Aside0 (K i = (1)) ∧ Aside0 (hp wr mz = some (.cells (u64s (upd Z oz 0 i T)) t (0, 0))) ∧ Aside0 (Kept (On mz) w wr)) (fun v _ => k + 1 - (intOf v).toNat)
    case atStart => exact ⟨1, by omega, by omega, rfl, HC1, H0, HK0⟩
    case round =>
      obtain ⟨i, hi0, hi, rfl, HCI, HO, HK⟩ := hrel
      by_cases hik : i = k + 1
      · subst hik
        go_wp2_with (fail)
        go_ret
        exact ⟨by rw [HCI.out]; try rfl, HO.out, HK.out⟩
      · have hlt : i < k + 1 := by omega
        have HXI := Aside0.mk (hp_kept HX.out HK.out (fun h => hne h))
        have hxi := (blk_cell HXI.out (ox + i)).trans (u64s_get _ (ox + i) (by omega))
        rw [HXL.out i hlt] at hxi
        have hxi0 := (blk_cell HXI.out ox).trans (u64s_get _ ox (by omega))
        have hci := (blk_cell HO.out (oz + i)).trans (u64s_get _ (oz + i) (by rw [upd_len]; omega))
        have hfi := blk_frozen HO.out (oz + i)
        have hcz0 := (blk_cell HO.out oz).trans (u64s_get _ oz (by rw [upd_len]; omega))
        have hfz0 := blk_frozen HO.out oz
        have hgi := okd_get HOK.out BW_pos i
        have hsi := HS.out i
        rw [HCI.out] at hsi
        obtain ⟨z, hz⟩ : ∃ z, z = L.getD i 0 := ⟨_, rfl⟩
        rw [← hz] at hxi hgi hsi
        have hB := BW_def
        by_cases hm : z = 18446744073709551615
        · subst hm
          have HC2 : Aside0 (K (i + 1) = (1)) := ⟨by rw [hsi.1, hB]; rfl⟩
          have HO2 : Aside0 (hp (wr.setCell ⟨mz, oz + i, none⟩ (.int .u64 0)) mz = some (.cells (u64s (upd Z oz 0 (i + 1) T)) t (0, 0))) := ⟨by
            rw [hp_here _ _ _ _ _ rfl, HO.out]
            simp only [Option.map_some, setObj_cells, u64s_set]
            have hu := upd_up Z oz 0 i T (Nat.zero_le _) (by omega)
            rw [hsi.2, hB] at hu
            exact congrArg (fun q => some (Obj.cells (u64s q) t (0, 0))) hu⟩
          clear hsi hz hik hi HCI hgi hB
          go_wp2_with (fail)
          go_roundw
          case rel => exact ⟨i + 1, by omega, by omega, by simp, HC2, HO2, ⟨HK.out.setCell (p := ⟨mz, oz + i, none⟩) (.inl rfl) _⟩⟩
          case measure => simp [intOf]; omega
        · have hk1 : K (i + 1) = 0 := by rw [hsi.1, hB]; omega
          have hdi : dg T i = z + 1 := by rw [hsi.2, hB]; omega
          have HF : Aside0 (K (k + 1) = 0) := ⟨HZERO.out (i + 1) hk1 _ (by omega)⟩
          have HKP := Aside0.mk (HKEEP.out (i + 1) hk1)
          have hzb : (z != 18446744073709551615) = true := by rw [bne_iff_ne]; exact hm
          have hzb2 : (z == 18446744073709551615) = false := by rw [beq_eq_false_iff_ne]; exact hm
          have hzw : IntKind.u64.wrap (z + 1) = z + 1 := by rw [IntKind.wrap_u64]; omega
          obtain ⟨z1, hz1⟩ : ∃ z1, z1 = z + 1 := ⟨_, rfl⟩
          have hzq : IntKind.u64.wrap (z + 1) = z1 := by rw [hz1]; exact hzw
          rw [← hz1] at hzw hdi
          have HO2 : Aside0 (hp (wr.setCell ⟨mz, oz + i, none⟩ (.int .u64 z1)) mz = some (.cells (u64s (upd Z oz 0 (i + 1) T)) t (0, 0))) := ⟨by
            rw [hp_here _ _ _ _ _ rfl, HO.out]
            simp only [Option.map_some, setObj_cells, u64s_set]
            have hu := upd_up Z oz 0 i T (Nat.zero_le _) (by omega)
            rw [hdi] at hu
            rw [hu]⟩
          have HK2 : Aside0 (Kept (On mz) w (wr.setCell ⟨mz, oz + i, none⟩ (.int .u64 z1))) := ⟨HK.out.setCell (p := ⟨mz, oz + i, none⟩) (.inl rfl) _⟩
          clear hsi hz hik hi HCI hm hgi hB hk1 hdi hz1
          go_wp2_with (fail)
          obtain ⟨J, hJ⟩ : ∃ J, J = i + 1 := ⟨_, rfl⟩
          have hJw : IntKind.i64.wrap ((i : Int) + 1) = (J : Int) := by rw [hJ]; exact IntWalk.i64_in _ (by omega)
          rw [← hJ] at HO2 HKP
          have hJl : J ≤ k + 1 := by omega
          clear hJ
          have HX2 := Aside0.mk (hp_kept HX.out HK2.out (fun h => hne h))
          obtain ⟨w2, hw2⟩ : ∃ w2, w2 = wr.setCell ⟨mz, oz + i, none⟩ (.int .u64 z1) := ⟨_, rfl⟩
          rw [← hw2] at HO2 HK2 HX2 ⊢
          clear hw2
          have hqq : ∀ W : World, W.heap = w2.heap → (binOp .neq 145 (.pointer (some ⟨mz, oz, none⟩)) (.pointer (some ⟨mx, ox, none⟩))).run Tryz.prog W = .ok (.bool true) W := fun W hW => HQ.out W ⟨_, _, by unfold hp; rw [hW]; exact HO2.out⟩ ⟨_, _, by unfold hp; rw [hW]; exact HX2.out⟩
          have hq1 := hqq w2 rfl
          have hq2 := hqq w2.drew rfl
          have z0 := (blk_cell HO2.out oz).trans (u64s_get _ oz (by rw [upd_len]; omega))
          have x0 := (blk_cell HX2.out ox).trans (u64s_get _ ox (by omega))
          clear hqq
          go_region
          have hJ1 : (J : Int) ≤ (k : Int) + 1 := by omega
          have HSRC := Aside0.mk (copy_tail (J := J) HX2.out hXl HXL.out HN.out)
          have HLEN : Aside0 (((L.drop J).map (Value.int .u64)).length = k + 1 - J) := ⟨by rw [List.length_map, List.length_drop, ← HN.out]⟩
          go_upto_region 18 with (fail)
          go_still_tail 8, (by kernel_rfl)
          refine wpList_copy_kept (w := w2.drew.drew) rfl _ _ 80 80 rfl 108 Tryz.underlying80 (by kernel_rfl) _ _ _ _ _ _ rfl rfl mz (oz + J) ((upd Z oz 0 J T).map (Value.int .u64)) t HO2.out ((L.drop J).map (Value.int .u64)) ?_ ?_ ?_ (fun v hv => copy_one v hv) ?_
          · rw [HLEN.out]; simp
          · intro h
            rw [HLEN.out] at h
            exact ⟨by rw [if_neg (by omega)], ⟨mx, ox + J, none⟩, by rw [if_neg (by omega)], HSRC.out⟩
          · rw [HLEN.out, List.length_map, upd_len]; omega
          · intro w' hw' hk'
            have HW' := Aside0.mk hw'.out
            clear hw' HSRC HLEN
            go_wp2_with (fail)
            all_goals
              go_ret
              refine ⟨by rw [HF.out]; try rfl, ?_, (HK2.out.drew.drew).trans hk'.out (fun _ _ h => h)⟩
              have h2 : hp w' mz = _ := HW'.out
              rw [h2, laid_u64, laid_upd HN.out.symm (by omega) (by omega) HKP.out]
set_option maxHeartbeats 3200000 in
set_option maxRecDepth 100000 in
theorem subVW_o_c (mz oz cz mx ox cx : Nat) (Z L : List Int) (y : Int) (t : TypeId) (w : World) (hz : hp w mz = some (.cells (u64s Z) t (0, 0))) (hlen : oz + L.length ≤ Z.length) (X : List Int) (tx : TypeId) (hX : hp w mx = some (.cells (u64s X) tx (0, 0))) (hXl : ox + L.length ≤ X.length) (hXL : ∀ j, j < L.length → X.getD (ox + j) 0 = L.getD j 0) (hne : mx ≠ mz) (hlcx : L.length ≤ cx) (hlcz : L.length ≤ cz) (h0 : 0 < L.length) (hbig : L.length ≤ 100000000) (hok : okd BW L) (hy : 0 ≤ y ∧ y < BW) (n : Nat) (hn : n = L.length) :
    Calls Tryz.prog 111 #[.slice (some ⟨mz, oz, none⟩) n cz, .slice (some ⟨mx, ox, none⟩) n cx, .int .u64 y] w (ShiftPost w mz oz Z n (ev BW L + (-y)) (-cy L (-y) n) t) := by
  have hq : ∀ W : World, (∃ cs ts, hp W mz = some (.cells cs ts (0, 0))) → (∃ cs ts, hp W mx = some (.cells cs ts (0, 0))) → (binOp .neq 145 (.pointer (some ⟨mz, oz, none⟩)) (.pointer (some ⟨mx, ox, none⟩))).run Tryz.prog W = .ok (.bool true) W := fun W h1 h2 => by
    obtain ⟨c1, t1, h1⟩ := h1
    obtain ⟨c2, t2, h2⟩ := h2
    exact neq_other 145 108 Tryz.underlying145 infoWord (by decide) (by intro e; injection e with e; exact hne e.symm) h1 h2
  have HQ := Aside0.mk hq
  clear hq
  have HZ := Aside0.mk hz
  have HOK := Aside0.mk hok
  have HN := Aside0.mk hn
  rw [← hn] at hlen h0 hbig hlcx hlcz
  have HX := Aside0.mk hX
  have HXL := Aside0.mk (fun j (h : j < n) => hXL j (by omega))
  rw [← hn] at hXl
  clear hX hXL
  have hc0 := (blk_cell hz oz).trans (u64s_get _ oz (by omega))
  have hf0 := blk_frozen hz oz
  have hg := okd_get hok BW_pos 0
  have hx0 := (blk_cell HX.out ox).trans (u64s_get _ ox (by omega))
  have e0 := HXL.out 0 (by omega)
  rw [Nat.add_zero] at e0
  rw [e0] at hx0
  obtain ⟨x, hx⟩ : ∃ x, x = L.getD 0 0 := ⟨_, rfl⟩
  rw [← hx] at hx0 hg
  have hnb : ((n : Int) == 0) = false := by rw [beq_eq_false_iff_ne]; omega
  obtain ⟨T, hT⟩ : ∃ T, T = ev BW L + (-y) := ⟨_, rfl⟩
  obtain ⟨K, hK⟩ : ∃ K, K = cy L (-y) := ⟨_, rfl⟩
  have hK1 : K 1 = (x - y) / BW := by rw [hK, hx]; show (L.getD 0 0 + (-y)) / BW = _; congr 1; try omega
  have hd0 : dg T 0 = (x - y) % BW := by rw [hT, cy_dg hok, hx]; show (L.getD 0 0 + (-y)) % BW = _; congr 1; try omega
  have HKEEP := Aside0.mk (fun i h j hj => cy_keep (y := (-y)) hok (i := i) h j hj)
  have HZERO := Aside0.mk (fun i h => cy_zero (y := (-y)) hok (i := i) h)
  have HS := Aside0.mk (fun i => show K (i + 1) = (L.getD i 0 + K i) / BW ∧ dg T i = (L.getD i 0 + K i) % BW from ⟨by rw [hK]; rfl, by rw [hT, hK, cy_dg hok]⟩)
  rw [← hT] at HKEEP ⊢
  rw [← hK] at HKEEP HZERO ⊢
  have hA := fun w => bitsSub_c x y 0 _ _ w hg hy (by omega) rfl rfl
  obtain ⟨a, ha⟩ : ∃ a, a = (x - y - 0) % BW := ⟨_, rfl⟩
  obtain ⟨c, hc⟩ : ∃ c, c = -((x - y - 0) / BW) := ⟨_, rfl⟩
  have hcr : c = 0 ∨ c = 1 := by
    rw [hc, Int.sub_zero]
    have h1 : -1 ≤ (x - y) / BW := Int.le_ediv_of_mul_le BW_pos (by omega)
    have h2 : (x - y) / BW < 1 := Int.ediv_lt_of_lt_mul BW_pos (by omega)
    omega
  have hc1 : K 1 = -(c) := by rw [hK1, hc, Int.sub_zero]; omega
  rw [show x - y = x - y - 0 by omega, ← ha] at hd0
  rw [← ha] at hA
  rw [← hc] at hA
  have HA := Aside0.mk hA
  have HD0 := Aside0.mk hd0
  have hlen0 := hlen
  obtain ⟨k, rfl⟩ : ∃ k, n = k + 1 := ⟨n - 1, by omega⟩
  have H0 : Aside0 (hp (w.setCell ⟨mz, oz, none⟩ (.int .u64 a)) mz = some (.cells (u64s (upd Z oz 0 1 T)) t (0, 0))) := ⟨by
    rw [hp_here _ _ _ _ _ rfl, HZ.out]
    simp only [Option.map_some, setObj_cells, u64s_set]
    have hu := upd_up Z oz 0 0 T (Nat.le_refl _) (by omega)
    rw [upd_none _ _ _ _ _ (Nat.le_refl _), Nat.add_zero, hd0] at hu
    rw [hu]⟩
  have HK0 : Aside0 (Kept (On mz) w (w.setCell ⟨mz, oz, none⟩ (.int .u64 a))) := ⟨(Kept.refl (On mz) w).setCell (p := ⟨mz, oz, none⟩) (.inl rfl) _⟩
  have HC1 := Aside0.mk hc1
  clear hA ha hc hx hok hz hn hd0 hK1 hT hK hg hc1 hy
  rcases hcr with rfl | rfl
  · have hk0 : K 1 = 0 := by rw [HC1.out]; try rfl
    have HE : Aside0 (K (k + 1) = 0) := ⟨HZERO.out 1 hk0 _ (by omega)⟩
    have HKP := Aside0.mk (HKEEP.out 1 hk0)
    clear hk0
    go_enter Tryz.func111, Tryz.ntmps111
    go_wp2_with (go_at_call 133; refine (HA.out _).mono ?_; rintro e w' ⟨rfl, hw'⟩; obtain rfl := hw'.symm)
    have HX2 := Aside0.mk (hp_kept HX.out HK0.out (fun h => hne h))
    obtain ⟨w2, hw2⟩ : ∃ w2, w2 = w.setCell ⟨mz, oz, none⟩ (.int .u64 a) := ⟨_, rfl⟩
    rw [← hw2] at H0 HK0 HX2 ⊢
    clear hw2
    have hqq : ∀ W : World, W.heap = w2.heap → (binOp .neq 145 (.pointer (some ⟨mz, oz, none⟩)) (.pointer (some ⟨mx, ox, none⟩))).run Tryz.prog W = .ok (.bool true) W := fun W hW => HQ.out W ⟨_, _, by unfold hp; rw [hW]; exact H0.out⟩ ⟨_, _, by unfold hp; rw [hW]; exact HX2.out⟩
    have hq1 := hqq w2 rfl
    have hq2 := hqq w2.drew rfl
    have z0 := (blk_cell H0.out oz).trans (u64s_get _ oz (by rw [upd_len]; omega))
    have x0 := (blk_cell HX2.out ox).trans (u64s_get _ ox (by omega))
    clear hqq
    go_region
    have hJ1 : (1 : Int) ≤ (k : Int) + 1 := by omega
    have HSRC := Aside0.mk (copy_tail (J := 1) HX2.out hXl HXL.out HN.out)
    have HLEN : Aside0 (((L.drop 1).map (Value.int .u64)).length = k + 1 - 1) := ⟨by rw [List.length_map, List.length_drop, ← HN.out]⟩
    go_upto_region 9 with (fail)
    go_still_tail 4, (by kernel_rfl)
    refine wpList_copy_kept (w := w2.drew.drew) rfl _ _ 80 80 rfl 108 Tryz.underlying80 (by kernel_rfl) _ _ _ _ _ _ rfl rfl mz (oz + 1) ((upd Z oz 0 1 T).map (Value.int .u64)) t H0.out ((L.drop 1).map (Value.int .u64)) ?_ ?_ ?_ (fun v hv => copy_one v hv) ?_
    · rw [HLEN.out]; simp
    · intro h
      rw [HLEN.out] at h
      exact ⟨by rw [if_neg (by omega)], ⟨mx, ox + 1, none⟩, by rw [if_neg (by omega)], HSRC.out⟩
    · rw [HLEN.out, List.length_map, upd_len]; omega
    · intro w' hw' hk'
      have HW' := Aside0.mk hw'.out
      clear hw' HSRC HLEN
      go_wp2_with (fail)
      all_goals
        go_ret
        refine ⟨by rw [HE.out]; try rfl, ?_, (HK0.out.drew.drew).trans hk'.out (fun _ _ h => h)⟩
        have h2 : hp w' mz = _ := HW'.out
        rw [h2, laid_u64, laid_upd HN.out.symm (by omega) (by omega) HKP.out]
  · go_enter Tryz.func111, Tryz.ntmps111
    go_wp2_with (go_at_call 133; refine (HA.out _).mono ?_; rintro e w' ⟨rfl, hw'⟩; obtain rfl := hw'.symm)
    go_loopw [9] (fun v9 wr => ∃ i : Nat, 0 < i ∧ i ≤ k + 1 ∧ v9 = .int .i64 (i : Int) ∧ Aside0 (K i = -(1)) ∧ Aside0 (hp wr mz = some (.cells (u64s (upd Z oz 0 i T)) t (0, 0))) ∧ Aside0 (Kept (On mz) w wr)) (fun v _ => k + 1 - (intOf v).toNat)
    case atStart => exact ⟨1, by omega, by omega, rfl, HC1, H0, HK0⟩
    case round =>
      obtain ⟨i, hi0, hi, rfl, HCI, HO, HK⟩ := hrel
      by_cases hik : i = k + 1
      · subst hik
        go_wp2_with (fail)
        go_ret
        exact ⟨by rw [HCI.out]; try rfl, HO.out, HK.out⟩
      · have hlt : i < k + 1 := by omega
        have HXI := Aside0.mk (hp_kept HX.out HK.out (fun h => hne h))
        have hxi := (blk_cell HXI.out (ox + i)).trans (u64s_get _ (ox + i) (by omega))
        rw [HXL.out i hlt] at hxi
        have hxi0 := (blk_cell HXI.out ox).trans (u64s_get _ ox (by omega))
        have hci := (blk_cell HO.out (oz + i)).trans (u64s_get _ (oz + i) (by rw [upd_len]; omega))
        have hfi := blk_frozen HO.out (oz + i)
        have hcz0 := (blk_cell HO.out oz).trans (u64s_get _ oz (by rw [upd_len]; omega))
        have hfz0 := blk_frozen HO.out oz
        have hgi := okd_get HOK.out BW_pos i
        have hsi := HS.out i
        rw [HCI.out] at hsi
        obtain ⟨z, hz⟩ : ∃ z, z = L.getD i 0 := ⟨_, rfl⟩
        rw [← hz] at hxi hgi hsi
        have hB := BW_def
        by_cases hm : z = 0
        · subst hm
          have HC2 : Aside0 (K (i + 1) = -(1)) := ⟨by rw [hsi.1, hB]; rfl⟩
          have HO2 : Aside0 (hp (wr.setCell ⟨mz, oz + i, none⟩ (.int .u64 18446744073709551615)) mz = some (.cells (u64s (upd Z oz 0 (i + 1) T)) t (0, 0))) := ⟨by
            rw [hp_here _ _ _ _ _ rfl, HO.out]
            simp only [Option.map_some, setObj_cells, u64s_set]
            have hu := upd_up Z oz 0 i T (Nat.zero_le _) (by omega)
            rw [hsi.2, hB] at hu
            exact congrArg (fun q => some (Obj.cells (u64s q) t (0, 0))) hu⟩
          clear hsi hz hik hi HCI hgi hB
          go_wp2_with (fail)
          go_roundw
          case rel => exact ⟨i + 1, by omega, by omega, by simp, HC2, HO2, ⟨HK.out.setCell (p := ⟨mz, oz + i, none⟩) (.inl rfl) _⟩⟩
          case measure => simp [intOf]; omega
        · have hk1 : K (i + 1) = 0 := by rw [hsi.1, hB]; omega
          have hdi : dg T i = z - 1 := by rw [hsi.2, hB]; omega
          have HF : Aside0 (K (k + 1) = 0) := ⟨HZERO.out (i + 1) hk1 _ (by omega)⟩
          have HKP := Aside0.mk (HKEEP.out (i + 1) hk1)
          have hzb : (z != 0) = true := by rw [bne_iff_ne]; exact hm
          have hzb2 : (z == 0) = false := by rw [beq_eq_false_iff_ne]; exact hm
          have hzw : IntKind.u64.wrap (z - 1) = z - 1 := by rw [IntKind.wrap_u64]; omega
          obtain ⟨z1, hz1⟩ : ∃ z1, z1 = z - 1 := ⟨_, rfl⟩
          have hzq : IntKind.u64.wrap (z - 1) = z1 := by rw [hz1]; exact hzw
          rw [← hz1] at hzw hdi
          have HO2 : Aside0 (hp (wr.setCell ⟨mz, oz + i, none⟩ (.int .u64 z1)) mz = some (.cells (u64s (upd Z oz 0 (i + 1) T)) t (0, 0))) := ⟨by
            rw [hp_here _ _ _ _ _ rfl, HO.out]
            simp only [Option.map_some, setObj_cells, u64s_set]
            have hu := upd_up Z oz 0 i T (Nat.zero_le _) (by omega)
            rw [hdi] at hu
            rw [hu]⟩
          have HK2 : Aside0 (Kept (On mz) w (wr.setCell ⟨mz, oz + i, none⟩ (.int .u64 z1))) := ⟨HK.out.setCell (p := ⟨mz, oz + i, none⟩) (.inl rfl) _⟩
          clear hsi hz hik hi HCI hm hgi hB hk1 hdi hz1
          go_wp2_with (fail)
          obtain ⟨J, hJ⟩ : ∃ J, J = i + 1 := ⟨_, rfl⟩
          have hJw : IntKind.i64.wrap ((i : Int) + 1) = (J : Int) := by rw [hJ]; exact IntWalk.i64_in _ (by omega)
          rw [← hJ] at HO2 HKP
          have hJl : J ≤ k + 1 := by omega
          clear hJ
          have HX2 := Aside0.mk (hp_kept HX.out HK2.out (fun h => hne h))
          obtain ⟨w2, hw2⟩ : ∃ w2, w2 = wr.setCell ⟨mz, oz + i, none⟩ (.int .u64 z1) := ⟨_, rfl⟩
          rw [← hw2] at HO2 HK2 HX2 ⊢
          clear hw2
          have hqq : ∀ W : World, W.heap = w2.heap → (binOp .neq 145 (.pointer (some ⟨mz, oz, none⟩)) (.pointer (some ⟨mx, ox, none⟩))).run Tryz.prog W = .ok (.bool true) W := fun W hW => HQ.out W ⟨_, _, by unfold hp; rw [hW]; exact HO2.out⟩ ⟨_, _, by unfold hp; rw [hW]; exact HX2.out⟩
          have hq1 := hqq w2 rfl
          have hq2 := hqq w2.drew rfl
          have z0 := (blk_cell HO2.out oz).trans (u64s_get _ oz (by rw [upd_len]; omega))
          have x0 := (blk_cell HX2.out ox).trans (u64s_get _ ox (by omega))
          clear hqq
          go_region
          have hJ1 : (J : Int) ≤ (k : Int) + 1 := by omega
          have HSRC := Aside0.mk (copy_tail (J := J) HX2.out hXl HXL.out HN.out)
          have HLEN : Aside0 (((L.drop J).map (Value.int .u64)).length = k + 1 - J) := ⟨by rw [List.length_map, List.length_drop, ← HN.out]⟩
          go_upto_region 18 with (fail)
          go_still_tail 8, (by kernel_rfl)
          refine wpList_copy_kept (w := w2.drew.drew) rfl _ _ 80 80 rfl 108 Tryz.underlying80 (by kernel_rfl) _ _ _ _ _ _ rfl rfl mz (oz + J) ((upd Z oz 0 J T).map (Value.int .u64)) t HO2.out ((L.drop J).map (Value.int .u64)) ?_ ?_ ?_ (fun v hv => copy_one v hv) ?_
          · rw [HLEN.out]; simp
          · intro h
            rw [HLEN.out] at h
            exact ⟨by rw [if_neg (by omega)], ⟨mx, ox + J, none⟩, by rw [if_neg (by omega)], HSRC.out⟩
          · rw [HLEN.out, List.length_map, upd_len]; omega
          · intro w' hw' hk'
            have HW' := Aside0.mk hw'.out
            clear hw' HSRC HLEN
            go_wp2_with (fail)
            all_goals
              go_ret
              refine ⟨by rw [HF.out]; try rfl, ?_, (HK2.out.drew.drew).trans hk'.out (fun _ _ h => h)⟩
              have h2 : hp w' mz = _ := HW'.out
              rw [h2, laid_u64, laid_upd HN.out.symm (by omega) (by omega) HKP.out]
end Go.Proofs.YtfnknldbjckgoaaGreatDoor.Sp
end

/-! ## NatAdd -/
section
namespace Go.Proofs.YtfnknldbjckgoaaGreatDoor.Sp
open Go.RowKit Go.Proofs.YtfnknldbjckgoaaGreatDoorW.PrintWords Go.Proofs.YtfnknldbjckgoaaGreatDoorW.PrintLast Go.Proofs.YtfnknldbjckgoaaGreatDoorW.PrintMore Go.Proofs.YtfnknldbjckgoaaGreatDoor.Dig
set_option linter.unusedVariables false
set_option linter.unusedSimpArgs false
theorem dg_low (T1 H : Int) (n j : Nat) (hj : j < n) : dg T1 j = dg (T1 + BW ^ n * H) j := by
  unfold dg
  have hp : BW ^ j ≠ 0 := Int.ne_of_gt (Int.pow_pos BW_pos)
  have e : BW ^ n * H = BW ^ j * (BW * (BW ^ (n - j - 1) * H)) := by
    rw [← Int.mul_assoc, ← Int.mul_assoc, ← Int.pow_succ, ← Int.pow_add]
    congr 2
    omega
  rw [e, Int.add_mul_ediv_left _ _ hp, Int.add_mul_emod_self_left]
theorem dg_high (T1 H : Int) (n j : Nat) : dg (T1 / BW ^ n + H) j = dg (T1 + BW ^ n * H) (n + j) := by
  unfold dg
  have hp : BW ^ n ≠ 0 := Int.ne_of_gt (Int.pow_pos BW_pos)
  rw [← Int.add_mul_ediv_left _ _ hp, Int.pow_add, Int.ediv_ediv_of_nonneg (Int.le_of_lt (Int.pow_pos BW_pos))]
theorem upd_join (Z : List Int) (n k : Nat) (T1 H : Int) : upd (upd Z 0 0 n T1) n 0 k (T1 / BW ^ n + H) = upd Z 0 0 (n + k) (T1 + BW ^ n * H) := by
  rw [upd, upd_len]
  show _ = List.map _ _
  refine List.map_congr_left (fun j hj => ?_)
  have hjl : j < Z.length := List.mem_range.1 hj
  rw [upd_get Z 0 0 n T1 j hjl]
  by_cases h1 : j < n
  · rw [if_neg (by omega), if_pos (by omega), if_pos (by omega), Nat.sub_zero]
    exact dg_low T1 H n j h1
  · by_cases h2 : j < n + k
    · rw [if_pos (by omega), if_pos (by omega), dg_high, Nat.sub_zero]
      congr 1
      omega
    · rw [if_neg (by omega), if_neg (by omega), if_neg (by omega)]
theorem ev_cut (L : List Int) (n : Nat) (hn : n ≤ L.length) : ev BW L = ev BW (L.take n) + BW ^ n * ev BW (L.drop n) := ev_split BW L n hn
/-- The carry out of the upper words. -/
theorem cy_top {l : List Int} (h : okd BW l) (y : Int) : cy l y l.length = (ev BW l + y) / BW ^ l.length := by
  have h1 := cy_div h y l.length
  rw [Int.ediv_eq_zero_of_lt (ev_nonneg h BW_pos) (ev_lt h BW_pos)] at h1
  omega
theorem carry_end {T1 H T : Int} {n m : Nat} (hT : T = T1 + BW ^ n * H) (hnm : n ≤ m) (h0 : 0 ≤ T) (h1 : T < BW ^ m) : (H + T1 / BW ^ n) / BW ^ (m - n) = 0 := by
  have hp : BW ^ n ≠ 0 := Int.ne_of_gt (Int.pow_pos BW_pos)
  have e : H + T1 / BW ^ n = T / BW ^ n := by rw [hT, Int.add_mul_ediv_left _ _ hp, Int.add_comm]
  rw [e, Int.ediv_ediv_of_nonneg (Int.le_of_lt (Int.pow_pos BW_pos)), ← Int.pow_add, Nat.add_sub_cancel' hnm]
  exact Int.ediv_eq_zero_of_lt h0 h1
theorem row_lies {w W : World} {mz mx : Nat} {L R : List Int} {t : TypeId} (h : hp W mx = some (.cells (u64s (L ++ R)) t (0, 0))) (hne : mx ≠ mz) (n : Nat) (hn : n ≤ L.length) : Lies W mz 0 mx 0 (L.take n) := by
  refine ⟨fun j hj => ?_, .inl hne⟩
  rw [List.length_take] at hj
  rw [Nat.zero_add, row_at h j (by omega), List.getD_eq_getElem?_getD, List.getD_eq_getElem?_getD, List.getElem?_take, if_pos (by omega)]
theorem nr_end {w W : World} {mb m c : Nat} {Z : List Int} {T : Int} (h : hp W mb = some (.cells (u64s (upd Z 0 0 m T)) 108 (0, 0))) (hok : okd BW Z) (hm : m ≤ Z.length) (h0 : 0 ≤ T) (h1 : T < BW ^ m) (hP : w.heap.size ≤ mb) (hc : c = Z.length) (hl : Z.length ≤ 1000000) : NR W (fun k => w.heap.size ≤ k) (.slice (some ⟨mb, 0, none⟩) (strip (wn m T)).length c) T ∧ Kd.C (Kd.int .u64) W (some ⟨mb, 0, none⟩) (wn m T).length (wn m T) := by
  have hu := upd_take Z m T hm
  have h2 := NR.of_strip (P := fun k => w.heap.size ≤ k) (c := c) h (upd_ok hok 0 0 m T) (by rw [upd_len]; exact hm) (by rw [hu, ev_wn_lt m T h0 h1]) hP (by rw [upd_len]; exact hc) (by rw [upd_len]; exact hl)
  rw [hu] at h2
  refine ⟨h2, ?_⟩
  have e : upd Z 0 0 m T = wn m T ++ (upd Z 0 0 m T).drop m := by rw [← hu, List.take_append_drop]
  rw [e] at h
  exact row_C h (by rw [← e, upd_len]; exact hl)
set_option maxHeartbeats 6400000 in
set_option maxRecDepth 100000 in
theorem natSub_c (mx my cx0 cy0 : Nat) (L M RL RM : List Int) (w : World) (hx : hp w mx = some (.cells (u64s (L ++ RL)) 108 (0, 0))) (hy : hp w my = some (.cells (u64s (M ++ RM)) 108 (0, 0))) (hL : okd BW L) (hM : okd BW M) (hLR : (L ++ RL).length ≤ 1000000) (m n : Nat) (hm : L.length = m) (hn : M.length = n) (h0 : 0 < n) (hml : n ≤ m) (hb : m ≤ 100000) (hge : ev BW M ≤ ev BW L) (hcx : m ≤ cx0) (hcy : n ≤ cy0) :
    Calls Tryz.prog 79 #[.slice none 0 0, .slice (some ⟨mx, 0, none⟩) m cx0, .slice (some ⟨my, 0, none⟩) n cy0] w fun e w' => ∃ q, e = .returned q ∧ NR w' (fun k => w.heap.size ≤ k) q (ev BW L - ev BW M) ∧ Below w.heap.size w w' := by
  have hxl := hp_lt hx
  have hyl := hp_lt hy
  obtain ⟨T1, hT1⟩ : ∃ T1, T1 = ev BW (L.take n) - ev BW M := ⟨_, rfl⟩
  obtain ⟨H, hH⟩ : ∃ H, H = ev BW (L.drop n) := ⟨_, rfl⟩
  obtain ⟨T, hT⟩ : ∃ T, T = ev BW L - ev BW M := ⟨_, rfl⟩
  have hTT : T = T1 + BW ^ n * H := by rw [hT, ev_cut L n (by omega), hT1, hH]; omega
  have hTb : 0 ≤ T ∧ T < BW ^ m := by
    have h1 := ev_lt hL BW_pos
    have h2 := ev_nonneg hM BW_pos
    rw [hm] at h1
    omega
  have HTT := Aside0.mk hTT
  have HTB := Aside0.mk hTb
  have HH := Aside0.mk hH
  have HMK := Aside0.mk (make_c (.slice none 0 0) (fun _ => False) m w (.inl rfl) (by omega) (by omega))
  have HX := Aside0.mk hx
  have HY := Aside0.mk hy
  have HOL := Aside0.mk hL
  have HOM := Aside0.mk hM
  have HLN := Aside0.mk (show L.length = m ∧ M.length = n from ⟨hm, hn⟩)
  have HT1 := Aside0.mk hT1
  have HLR := Aside0.mk hLR
  rw [← hT]
  have hmb : ((m : Int) == 0) = false := by rw [beq_eq_false_iff_ne]; omega
  have hnb : ((n : Int) == 0) = false := by rw [beq_eq_false_iff_ne]; omega
  have hnl : ¬ (m : Int) < (n : Int) := by omega
  have hncx : n ≤ cx0 := by omega
  obtain ⟨C1, hC1⟩ : ∃ C1 : Int, C1 = -(T1 / BW ^ n) := ⟨_, rfl⟩
  have HC1 := Aside0.mk hC1
  clear hx hy hL hM hLR hT1 hH hT hTT hTb hge hC1 hm hn
  go_enter Tryz.func79, Tryz.ntmps79
  go_wp2_with (fail)
  refine (HMK.out).mono ?_
  rintro e w1 ⟨mb, Z, rfl, hnZ, hmax, hmb', hmz, hokZ, hk1⟩
  have hmb2 : mb = w.heap.size := by rcases hmb' with h | h; exact h.elim; exact h
  subst hmb2
  have HB1 := Aside0.mk (hk1.below (B := w.heap.size) (fun i h => h.elim) (Nat.le_refl _))
  have HX1 := Aside0.mk (hp_below HX.out HB1.out)
  have HY1 := Aside0.mk (hp_below HY.out HB1.out)
  have HMZ := Aside0.mk hmz
  have HOZ := Aside0.mk hokZ
  have hxz : mx ≠ w.heap.size := by omega
  have hyz : my ≠ w.heap.size := by omega
  have hnZ2 : n ≤ Z.length := by omega
  have HSV : Aside0 (Calls Tryz.prog 110 #[.slice (some ⟨w.heap.size, 0, none⟩) n Z.length, .slice (some ⟨mx, 0, none⟩) n cx0, .slice (some ⟨my, 0, none⟩) n cy0] w1.drew (ShiftPost w1.drew w.heap.size 0 Z n T1 C1 108)) := ⟨by
    have hl : (L.take n).length = n := by rw [List.length_take]; have := HLN.out; omega
    have h := subVV_c w.heap.size 0 Z.length mx 0 cx0 my 0 cy0 Z (L.take n) M 108 w1.drew HMZ.out (by omega) (by rw [hl, HLN.out.2]) (row_lies (w := w) (show hp w1.drew mx = _ from HX1.out) hxz n (by have := HLN.out; omega)) (by
      have h1 := row_lies (w := w) (show hp w1.drew my = _ from HY1.out) hyz n (by have := HLN.out; omega)
      rwa [List.take_of_length_le (by have := HLN.out; omega)] at h1) (by omega) (okd_take HOL.out n) HOM.out
    rw [hl, ← HT1.out, ← HC1.out] at h
    exact h⟩
  clear hmz hokZ hk1 hmb'
  go_upto_region 10 with (fail)
  refine start_ (n := 11) (S := fun w' => True) (ds := []) #[false, false, false, false, false, false, false, false, false, false, false] (by kernel_rfl) rfl rfl trivial (fun hHeld => ?_)
  refine pure_ (i := 0) (N := some 33) (v := ?_) (a' := ?_) #[true, false, false, false, false, false, false, false, false, false, false] rfl rfl (by kernel_rfl) (fun _ _ _ h => h) (Or.inl ⟨by rfl, ?_⟩) ?_ ?_
  rotate_left
  · intro w'
    go_simp
    with_reducible rfl
  rotate_left
  · simp only [Act.put, List.setIfInBounds_toArray, List.set_cons_zero, List.set_cons_succ, i64_w, i32_w]
    rfl
  refine pure_ (i := 1) (N := some 34) (v := ?_) (a' := ?_) #[true, true, false, false, false, false, false, false, false, false, false] rfl rfl (by kernel_rfl) (fun _ _ _ h => h) (Or.inl ⟨by rfl, ?_⟩) ?_ ?_
  rotate_left
  · intro w'
    go_simp
    with_reducible rfl
  rotate_left
  · simp only [Act.put, List.setIfInBounds_toArray, List.set_cons_zero, List.set_cons_succ, i64_w, i32_w]
    rfl
  refine pure_ (i := 2) (N := some 35) (v := ?_) (a' := ?_) #[true, true, true, false, false, false, false, false, false, false, false] rfl rfl (by kernel_rfl) (fun _ _ _ h => h) (Or.inl ⟨by rfl, ?_⟩) ?_ ?_
  rotate_left
  · intro w'
    go_simp
    with_reducible rfl
  rotate_left
  · simp only [Act.put, List.setIfInBounds_toArray, List.set_cons_zero, List.set_cons_succ, i64_w, i32_w]
    rfl
  refine pure_ (i := 3) (N := some 36) (v := ?_) (a' := ?_) #[true, true, true, true, false, false, false, false, false, false, false] rfl rfl (by kernel_rfl) (fun _ _ _ h => h) (Or.inl ⟨by rfl, ?_⟩) ?_ ?_
  rotate_left
  · intro w'
    go_simp
    with_reducible rfl
  rotate_left
  · simp only [Act.put, List.setIfInBounds_toArray, List.set_cons_zero, List.set_cons_succ, i64_w, i32_w]
    rfl
  refine pure_ (i := 4) (N := some 37) (v := ?_) (a' := ?_) #[true, true, true, true, true, false, false, false, false, false, false] rfl rfl (by kernel_rfl) (fun _ _ _ h => h) (Or.inl ⟨by rfl, ?_⟩) ?_ ?_
  rotate_left
  · intro w'
    go_simp
    with_reducible rfl
  rotate_left
  · simp only [Act.put, List.setIfInBounds_toArray, List.set_cons_zero, List.set_cons_succ, i64_w, i32_w]
    rfl
  refine pure_ (i := 5) (N := some 38) (v := ?_) (a' := ?_) #[true, true, true, true, true, true, false, false, false, false, false] rfl rfl (by kernel_rfl) (fun _ _ _ h => h) (Or.inl ⟨by rfl, ?_⟩) ?_ ?_
  rotate_left
  · intro w'
    go_simp
    with_reducible rfl
  rotate_left
  · simp only [Act.put, List.setIfInBounds_toArray, List.set_cons_zero, List.set_cons_succ, i64_w, i32_w]
    rfl
  refine pure_ (i := 6) (N := some 39) (v := ?_) (a' := ?_) #[true, true, true, true, true, true, true, false, false, false, false] rfl rfl (by kernel_rfl) (fun _ _ _ h => h) (Or.inl ⟨by rfl, ?_⟩) ?_ ?_
  rotate_left
  · intro w'
    go_simp
    with_reducible rfl
  rotate_left
  · simp only [Act.put, List.setIfInBounds_toArray, List.set_cons_zero, List.set_cons_succ, i64_w, i32_w]
    rfl
  refine pure_ (i := 7) (N := some 40) (v := ?_) (a' := ?_) #[true, true, true, true, true, true, true, true, false, false, false] rfl rfl (by kernel_rfl) (fun _ _ _ h => h) (Or.inl ⟨by rfl, ?_⟩) ?_ ?_
  rotate_left
  · intro w'
    go_simp
    with_reducible rfl
  rotate_left
  · simp only [Act.put, List.setIfInBounds_toArray, List.set_cons_zero, List.set_cons_succ, i64_w, i32_w]
    rfl
  refine pure_ (i := 8) (N := some 41) (v := ?_) (a' := ?_) #[true, true, true, true, true, true, true, true, true, false, false] rfl rfl (by kernel_rfl) (fun _ _ _ h => h) (Or.inl ⟨by rfl, ?_⟩) ?_ ?_
  rotate_left
  · intro w'
    go_simp
    with_reducible rfl
  rotate_left
  · simp only [Act.put, List.setIfInBounds_toArray, List.set_cons_zero, List.set_cons_succ, i64_w, i32_w]
    rfl
  refine one_ (i := 9) (N := some 42) #[true, true, true, true, true, true, true, true, true, true, false] rfl rfl (by kernel_rfl) (by decide) (fun K hK => ?_)
  refine goes_ Tryz.func110 (by kernel_rfl) rfl #[.slice (some ⟨w.heap.size, 0, none⟩) n Z.length, .slice (some ⟨mx, 0, none⟩) n cx0, .slice (some ⟨my, 0, none⟩) n cy0] (by rfl) rfl rfl (by simp only [List.map_toArray, List.map_cons, List.map_nil]; rfl) ?_
  with_reducible refine (HSV.out).mono ?_
  rintro e w2 ⟨rfl, h2, hk2⟩
  refine ⟨_, rfl, ?_⟩
  have H2 := Aside0.mk h2
  have HK2 := Aside0.mk hk2
  clear h2 hk2
  refine hK.out _ _ trivial (fun hHeld => ?_)
  clear hK K
  refine norm_ (a' := ?_) ?_ ?_
  rotate_left
  · show Act.put _ (some 42) _ = _
    simp only [Act.put, List.setIfInBounds_toArray, List.set_cons_zero, List.set_cons_succ, i64_w, i32_w]
    rfl
  refine pure_ (i := 10) (N := some 9) (v := ?_) (a' := ?_) #[true, true, true, true, true, true, true, true, true, true, true] rfl rfl (by kernel_rfl) (fun _ _ _ h => h) (Or.inl ⟨by rfl, ?_⟩) ?_ ?_
  rotate_left
  · intro w'
    go_simp
    with_reducible rfl
  rotate_left
  · simp only [Act.put, List.setIfInBounds_toArray, List.set_cons_zero, List.set_cons_succ, i64_w, i32_w]
    rfl
  refine done_ (by kernel_rfl) ?_
  have HB2 : Aside0 (Below w.heap.size w w2) := ⟨(HB1.out.trans (below_drew (Below.refl _ _))).trans (HK2.out.below (B := w.heap.size) (fun i h => by have h : i = w.heap.size := h; omega) HB1.out.size)⟩
  have HX2 := Aside0.mk (hp_kept (show hp w1.drew mx = _ from HX1.out) HK2.out hxz)
  by_cases hmn : n < m
  · have hmni : (n : Int) < (m : Int) := by omega
    have hcxn : ¬ cx0 = n := by omega
    have hZn : ¬ Z.length = n := by omega
    have hdl : (L.drop n).length = m - n := by rw [List.length_drop]; have := HLN.out; omega
    have HC0 : Aside0 (-cy (L.drop n) (-C1) (m - n) = 0) := ⟨by
      have h := cy_top (okd_drop HOL.out n) (-C1)
      rw [hdl, ← HH.out, HC1.out, Int.neg_neg, carry_end HTT.out hml HTB.out.1 HTB.out.2] at h
      rw [HC1.out, Int.neg_neg, h]; rfl⟩
    have hC1b : 0 ≤ C1 ∧ C1 < BW := by
      have hpp : (0 : Int) < BW ^ n := Int.pow_pos BW_pos
      have ha := ev_lt (okd_take HOL.out n) BW_pos
      have hb' := ev_nonneg (okd_take HOL.out n) BW_pos
      have hc := ev_lt HOM.out BW_pos
      have hd := ev_nonneg HOM.out BW_pos
      rw [show (L.take n).length = n by rw [List.length_take]; have := HLN.out; omega] at ha
      rw [HLN.out.2] at hc
      have h1 : -1 ≤ T1 / BW ^ n := (Int.le_ediv_iff_mul_le hpp).2 (by rw [HT1.out]; omega)
      have h2 : T1 / BW ^ n < 1 := (Int.ediv_lt_iff_lt_mul hpp).2 (by rw [HT1.out]; omega)
      have hB := BW_def
      rw [HC1.out]
      omega
    have HSW : Aside0 (Calls Tryz.prog 111 #[.slice (some ⟨w.heap.size, n, none⟩) (m - n) (Z.length - n), .slice (some ⟨mx, n, none⟩) (m - n) (cx0 - n), .int .u64 C1] w2.drew (ShiftPost w2.drew w.heap.size n (upd Z 0 0 n T1) (m - n) (T1 / BW ^ n + H) 0 108)) := ⟨by
      have h := subVW_o_c w.heap.size n (Z.length - n) mx n (cx0 - n) (upd Z 0 0 n T1) (L.drop n) C1 108 w2.drew H2.out (by rw [upd_len, hdl]; omega) (L ++ RL) 108 HX2.out (by rw [hdl, List.length_append]; have := HLN.out; omega) (fun j hj => by
        rw [hdl] at hj
        simp only [List.getD_eq_getElem?_getD]
        rw [List.getElem?_append_left (by have := HLN.out; omega), List.getElem?_drop]) hxz (by omega) (by omega) (by omega) (by omega) (okd_drop HOL.out n) hC1b (m - n) hdl.symm
      rw [HC0.out, ← HH.out, show H + -C1 = T1 / BW ^ n + H by rw [HC1.out]; omega] at h
      exact h⟩
    clear hdl hC1b
    go_upto_region 12 with (fail)
    refine start_ (n := 9) (S := fun w' => True) (ds := []) #[false, false, false, false, false, false, false, false, false] (by kernel_rfl) rfl rfl trivial (fun hHeld => ?_)
    refine pure_ (i := 0) (N := some 46) (v := ?_) (a' := ?_) #[true, false, false, false, false, false, false, false, false] rfl rfl (by kernel_rfl) (fun _ _ _ h => h) (Or.inl ⟨by rfl, ?_⟩) ?_ ?_
    rotate_left
    · intro w'
      go_simp
      with_reducible rfl
    rotate_left
    · simp only [Act.put, List.setIfInBounds_toArray, List.set_cons_zero, List.set_cons_succ, i64_w, i32_w]
      rfl
    refine pure_ (i := 1) (N := some 47) (v := ?_) (a' := ?_) #[true, true, false, false, false, false, false, false, false] rfl rfl (by kernel_rfl) (fun _ _ _ h => h) (Or.inl ⟨by rfl, ?_⟩) ?_ ?_
    rotate_left
    · intro w'
      go_simp
      with_reducible rfl
    rotate_left
    · simp only [Act.put, List.setIfInBounds_toArray, List.set_cons_zero, List.set_cons_succ, i64_w, i32_w]
      rfl
    refine pure_ (i := 2) (N := some 48) (v := ?_) (a' := ?_) #[true, true, true, false, false, false, false, false, false] rfl rfl (by kernel_rfl) (fun _ _ _ h => h) (Or.inl ⟨by rfl, ?_⟩) ?_ ?_
    rotate_left
    · intro w'
      go_simp
      with_reducible rfl
    rotate_left
    · simp only [Act.put, List.setIfInBounds_toArray, List.set_cons_zero, List.set_cons_succ, i64_w, i32_w]
      rfl
    refine pure_ (i := 3) (N := some 49) (v := ?_) (a' := ?_) #[true, true, true, true, false, false, false, false, false] rfl rfl (by kernel_rfl) (fun _ _ _ h => h) (Or.inl ⟨by rfl, ?_⟩) ?_ ?_
    rotate_left
    · intro w'
      go_simp
      with_reducible rfl
    rotate_left
    · simp only [Act.put, List.setIfInBounds_toArray, List.set_cons_zero, List.set_cons_succ, i64_w, i32_w]
      rfl
    refine pure_ (i := 4) (N := some 50) (v := ?_) (a' := ?_) #[true, true, true, true, true, false, false, false, false] rfl rfl (by kernel_rfl) (fun _ _ _ h => h) (Or.inl ⟨by rfl, ?_⟩) ?_ ?_
    rotate_left
    · intro w'
      go_simp
      with_reducible rfl
    rotate_left
    · simp only [Act.put, List.setIfInBounds_toArray, List.set_cons_zero, List.set_cons_succ, i64_w, i32_w]
      rfl
    refine pure_ (i := 5) (N := some 51) (v := ?_) (a' := ?_) #[true, true, true, true, true, true, false, false, false] rfl rfl (by kernel_rfl) (fun _ _ _ h => h) (Or.inl ⟨by rfl, ?_⟩) ?_ ?_
    rotate_left
    · intro w'
      go_simp
      with_reducible rfl
    rotate_left
    · simp only [Act.put, List.setIfInBounds_toArray, List.set_cons_zero, List.set_cons_succ, i64_w, i32_w]
      rfl
    refine pure_ (i := 6) (N := some 52) (v := ?_) (a' := ?_) #[true, true, true, true, true, true, true, false, false] rfl rfl (by kernel_rfl) (fun _ _ _ h => h) (Or.inl ⟨by rfl, ?_⟩) ?_ ?_
    rotate_left
    · intro w'
      go_simp
      with_reducible rfl
    rotate_left
    · simp only [Act.put, List.setIfInBounds_toArray, List.set_cons_zero, List.set_cons_succ, i64_w, i32_w]
      rfl
    refine one_ (i := 7) (N := some 53) #[true, true, true, true, true, true, true, true, false] rfl rfl (by kernel_rfl) (by decide) (fun K hK => ?_)
    refine goes_ Tryz.func111 (by kernel_rfl) rfl #[.slice (some ⟨w.heap.size, n, none⟩) (m - n) (Z.length - n), .slice (some ⟨mx, n, none⟩) (m - n) (cx0 - n), .int .u64 C1] (by rfl) rfl rfl (by simp only [List.map_toArray, List.map_cons, List.map_nil]; rfl) ?_
    with_reducible refine (HSW.out).mono ?_
    rintro e w3 ⟨rfl, h3, hk3⟩
    refine ⟨_, rfl, ?_⟩
    have H3 := Aside0.mk h3
    have HK3 := Aside0.mk hk3
    clear h3 hk3
    refine hK.out _ _ trivial (fun hHeld => ?_)
    clear hK K
    refine norm_ (a' := ?_) ?_ ?_
    rotate_left
    · show Act.put _ (some 53) _ = _
      simp only [Act.put, List.setIfInBounds_toArray, List.set_cons_zero, List.set_cons_succ, i64_w, i32_w]
      rfl
    refine pure_ (i := 8) (N := some 9) (v := ?_) (a' := ?_) #[true, true, true, true, true, true, true, true, true] rfl rfl (by kernel_rfl) (fun _ _ _ h => h) (Or.inl ⟨by rfl, ?_⟩) ?_ ?_
    rotate_left
    · intro w'
      go_simp
      with_reducible rfl
    rotate_left
    · simp only [Act.put, List.setIfInBounds_toArray, List.set_cons_zero, List.set_cons_succ, i64_w, i32_w]
      rfl
    refine done_ (by kernel_rfl) ?_
    have HE := Aside0.mk (nr_end (w := w) (c := Z.length) (by have h := H3.out; rw [upd_join, show n + (m - n) = m by omega, ← HTT.out] at h; exact h) HOZ.out (by omega) HTB.out.1 HTB.out.2 (Nat.le_refl _) rfl hmax)
    have HB3 : Aside0 (Below w.heap.size w w3) := ⟨(HB2.out.trans (below_drew (Below.refl _ _))).trans (HK3.out.below (B := w.heap.size) (fun i h => by have h : i = w.heap.size := h; omega) HB2.out.size)⟩
    have HNO := Aside0.mk (norm_w (some ⟨w.heap.size, 0, none⟩) Z.length (wn m T) m w3 HE.out.2 (wn_len m T) (by omega) (by omega))
    go_wp2_with (fail)
    refine HNO.out.mono ?_
    rintro e w4 ⟨rfl, rfl⟩
    go_wp2_with (fail)
    go_ret
    exact ⟨_, rfl, HE.out.1, HB3.out⟩
  · have hme : n = m := by omega
    have hmni : ¬ (n : Int) < (m : Int) := by omega
    have HT10 : Aside0 (T1 = T ∧ C1 = 0) := ⟨by
      have h1 : H = 0 := by rw [HH.out, List.drop_eq_nil_of_le (by have := HLN.out; omega)]; exact ev_nil _
      have h2 : T1 = T := by rw [HTT.out, h1]; omega
      refine ⟨h2, ?_⟩
      rw [HC1.out, h2, hme, Int.ediv_eq_zero_of_lt HTB.out.1 HTB.out.2]
      rfl⟩
    have hC10 : C1 = 0 := HT10.out.2
    subst hC10
    have HE := Aside0.mk (nr_end (w := w) (c := Z.length) (m := m) (T := T) (by have h := H2.out; rw [HT10.out.1, hme] at h; exact h) HOZ.out (by omega) HTB.out.1 HTB.out.2 (Nat.le_refl _) rfl hmax)
    have HNO := Aside0.mk (norm_w (some ⟨w.heap.size, 0, none⟩) Z.length (wn m T) m w2 HE.out.2 (wn_len m T) (by omega) (by omega))
    clear hme
    go_wp2_with (fail)
    refine HNO.out.mono ?_
    rintro e w4 ⟨rfl, rfl⟩
    go_wp2_with (fail)
    go_ret
    exact ⟨_, rfl, HE.out.1, HB2.out⟩
theorem carry_add {T1 H T : Int} {n m : Nat} (hT : T = T1 + BW ^ n * H) (hnm : n ≤ m) : (H + T1 / BW ^ n) / BW ^ (m - n) = T / BW ^ m := by
  have hp : BW ^ n ≠ 0 := Int.ne_of_gt (Int.pow_pos BW_pos)
  have e : H + T1 / BW ^ n = T / BW ^ n := by rw [hT, Int.add_mul_ediv_left _ _ hp, Int.add_comm]
  rw [e, Int.ediv_ediv_of_nonneg (Int.le_of_lt (Int.pow_pos BW_pos)), ← Int.pow_add, Nat.add_sub_cancel' hnm]
theorem carry_one {a b P : Int} (ha : 0 ≤ a ∧ a < P) (hb : 0 ≤ b ∧ b < P) : 0 ≤ (a + b) / P ∧ (a + b) / P ≤ 1 := by
  have hP : 0 < P := by omega
  refine ⟨Int.ediv_nonneg (by omega) (by omega), ?_⟩
  have : (a + b) / P < 2 := (Int.ediv_lt_iff_lt_mul hP).2 (by omega)
  omega
set_option maxHeartbeats 6400000 in
set_option maxRecDepth 100000 in
theorem natAdd_c (mx my cx0 cy0 : Nat) (L M RL RM : List Int) (w : World) (hx : hp w mx = some (.cells (u64s (L ++ RL)) 108 (0, 0))) (hy : hp w my = some (.cells (u64s (M ++ RM)) 108 (0, 0))) (hL : okd BW L) (hM : okd BW M) (hLR : (L ++ RL).length ≤ 1000000) (m n : Nat) (hm : L.length = m) (hn : M.length = n) (h0 : 0 < n) (hml : n ≤ m) (hb : m ≤ 100000) (hcx : m ≤ cx0) (hcy : n ≤ cy0) :
    Calls Tryz.prog 81 #[.slice none 0 0, .slice (some ⟨mx, 0, none⟩) m cx0, .slice (some ⟨my, 0, none⟩) n cy0] w fun e w' => ∃ q, e = .returned q ∧ NR w' (fun k => w.heap.size ≤ k) q (ev BW L + ev BW M) ∧ Below w.heap.size w w' := by
  have hxl := hp_lt hx
  have hyl := hp_lt hy
  obtain ⟨T1, hT1⟩ : ∃ T1, T1 = ev BW (L.take n) + ev BW M := ⟨_, rfl⟩
  obtain ⟨H, hH⟩ : ∃ H, H = ev BW (L.drop n) := ⟨_, rfl⟩
  obtain ⟨T, hT⟩ : ∃ T, T = ev BW L + ev BW M := ⟨_, rfl⟩
  have hTT : T = T1 + BW ^ n * H := by rw [hT, ev_cut L n (by omega), hT1, hH]; omega
  have hmono : BW ^ n ≤ BW ^ m := pow_mono BW_pos hml
  have hCT : 0 ≤ T / BW ^ m ∧ T / BW ^ m ≤ 1 := by
    have h1 := ev_lt hL BW_pos
    have h2 := ev_nonneg hM BW_pos
    have h3 := ev_lt hM BW_pos
    have h4 := ev_nonneg hL BW_pos
    rw [hm] at h1
    rw [hn] at h3
    rw [hT]
    exact carry_one ⟨h4, h1⟩ ⟨h2, by omega⟩
  have hTb : 0 ≤ T ∧ T < BW ^ (m + 1) := by
    have h1 := ev_lt hL BW_pos
    have h2 := ev_nonneg hM BW_pos
    have h3 := ev_lt hM BW_pos
    have h4 := ev_nonneg hL BW_pos
    rw [hm] at h1
    rw [hn] at h3
    have h5 : BW ^ m * 2 ≤ BW ^ m * BW := Int.mul_le_mul_of_nonneg_left (by rw [BW_def]; omega) (Int.le_of_lt (Int.pow_pos BW_pos))
    rw [Int.pow_succ]
    omega
  have hdg : dg T m = T / BW ^ m := by
    unfold dg
    exact Int.emod_eq_of_lt hCT.1 (by rw [BW_def]; rw [BW_def] at hCT; omega)
  have hC1b : 0 ≤ T1 / BW ^ n ∧ T1 / BW ^ n ≤ 1 := by
    have ha := ev_lt (okd_take hL n) BW_pos
    rw [show (L.take n).length = n by rw [List.length_take]; omega] at ha
    have hb' := ev_nonneg (okd_take hL n) BW_pos
    have hc := ev_lt hM BW_pos
    rw [hn] at hc
    rw [hT1]
    exact carry_one ⟨hb', ha⟩ ⟨ev_nonneg hM BW_pos, hc⟩
  have HTT := Aside0.mk hTT
  have HTB := Aside0.mk hTb
  have HH := Aside0.mk hH
  have HMK := Aside0.mk (make_c (.slice none 0 0) (fun _ => False) (m + 1) w (.inl rfl) (by omega) (by omega))
  have HX := Aside0.mk hx
  have HY := Aside0.mk hy
  have HOL := Aside0.mk hL
  have HOM := Aside0.mk hM
  have HLN := Aside0.mk (show L.length = m ∧ M.length = n from ⟨hm, hn⟩)
  have HT1 := Aside0.mk hT1
  have HDG := Aside0.mk hdg
  rw [← hT]
  have hmb : ((m : Int) == 0) = false := by rw [beq_eq_false_iff_ne]; omega
  have hnb : ((n : Int) == 0) = false := by rw [beq_eq_false_iff_ne]; omega
  have hnl : ¬ (m : Int) < (n : Int) := by omega
  have hncx : n ≤ cx0 := by omega
  obtain ⟨m1, hm1⟩ : ∃ m1, m1 = m + 1 := ⟨_, rfl⟩
  have hm1w : IntKind.i64.wrap ((m : Int) + 1) = (m1 : Int) := by rw [IntWalk.i64_in _ (by omega)]; omega
  have hm1e : (m : Int) + 1 = (m1 : Int) := by omega
  rw [← hm1] at HMK HTB
  have HM1 := Aside0.mk hm1
  obtain ⟨C1, hC1⟩ : ∃ C1 : Int, C1 = T1 / BW ^ n := ⟨_, rfl⟩
  obtain ⟨C2, hC2⟩ : ∃ C2 : Int, C2 = T / BW ^ m := ⟨_, rfl⟩
  rw [← hC1] at hC1b
  have HC1 := Aside0.mk hC1
  have HC2 := Aside0.mk hC2
  have HC1B := Aside0.mk hC1b
  have hmm1 : m < m1 := by omega
  clear hx hy hL hM hLR hT1 hH hT hTT hTb hC1 hm hn hdg hCT hmono hC2 hC1b hm1
  go_enter Tryz.func81, Tryz.ntmps81
  go_wp2_with (fail)
  refine (HMK.out).mono ?_
  rintro e w1 ⟨mb, Z, rfl, hnZ, hmax, hmb', hmz, hokZ, hk1⟩
  have hmb2 : mb = w.heap.size := by rcases hmb' with h | h; exact h.elim; exact h
  subst hmb2
  have HB1 := Aside0.mk (hk1.below (B := w.heap.size) (fun i h => h.elim) (Nat.le_refl _))
  have HX1 := Aside0.mk (hp_below HX.out HB1.out)
  have HY1 := Aside0.mk (hp_below HY.out HB1.out)
  have HMZ := Aside0.mk hmz
  have HOZ := Aside0.mk hokZ
  have hxz : mx ≠ w.heap.size := by omega
  have hyz : my ≠ w.heap.size := by omega
  have hnZ2 : n ≤ Z.length := by omega
  have hmZ : m ≤ Z.length := by omega
  have hmZ2 : m < Z.length := by omega
  have hnm1 : n ≤ m1 := by omega
  have HSV : Aside0 (Calls Tryz.prog 112 #[.slice (some ⟨w.heap.size, 0, none⟩) n Z.length, .slice (some ⟨mx, 0, none⟩) n cx0, .slice (some ⟨my, 0, none⟩) n cy0] w1.drew (ShiftPost w1.drew w.heap.size 0 Z n T1 C1 108)) := ⟨by
    have hl : (L.take n).length = n := by rw [List.length_take]; have := HLN.out; omega
    have h := addVV_c w.heap.size 0 Z.length mx 0 cx0 my 0 cy0 Z (L.take n) M 108 w1.drew HMZ.out (by omega) (by rw [hl, HLN.out.2]) (row_lies (w := w) (show hp w1.drew mx = _ from HX1.out) hxz n (by have := HLN.out; omega)) (by
      have h1 := row_lies (w := w) (show hp w1.drew my = _ from HY1.out) hyz n (by have := HLN.out; omega)
      rwa [List.take_of_length_le (by have := HLN.out; omega)] at h1) (by omega) (okd_take HOL.out n) HOM.out
    rw [hl, ← HT1.out, ← HC1.out] at h
    exact h⟩
  clear hmz hokZ hk1 hmb'
  go_upto_region 10 with (fail)
  refine start_ (n := 11) (S := fun w' => True) (ds := []) #[false, false, false, false, false, false, false, false, false, false, false] (by kernel_rfl) rfl rfl trivial (fun hHeld => ?_)
  refine pure_ (i := 0) (N := some 37) (v := ?_) (a' := ?_) #[true, false, false, false, false, false, false, false, false, false, false] rfl rfl (by kernel_rfl) (fun _ _ _ h => h) (Or.inl ⟨by rfl, ?_⟩) ?_ ?_
  rotate_left
  · intro w'
    go_simp
    with_reducible rfl
  rotate_left
  · simp only [Act.put, List.setIfInBounds_toArray, List.set_cons_zero, List.set_cons_succ, i64_w, i32_w]
    rfl
  refine pure_ (i := 1) (N := some 38) (v := ?_) (a' := ?_) #[true, true, false, false, false, false, false, false, false, false, false] rfl rfl (by kernel_rfl) (fun _ _ _ h => h) (Or.inl ⟨by rfl, ?_⟩) ?_ ?_
  rotate_left
  · intro w'
    go_simp
    with_reducible rfl
  rotate_left
  · simp only [Act.put, List.setIfInBounds_toArray, List.set_cons_zero, List.set_cons_succ, i64_w, i32_w]
    rfl
  refine pure_ (i := 2) (N := some 39) (v := ?_) (a' := ?_) #[true, true, true, false, false, false, false, false, false, false, false] rfl rfl (by kernel_rfl) (fun _ _ _ h => h) (Or.inl ⟨by rfl, ?_⟩) ?_ ?_
  rotate_left
  · intro w'
    go_simp
    with_reducible rfl
  rotate_left
  · simp only [Act.put, List.setIfInBounds_toArray, List.set_cons_zero, List.set_cons_succ, i64_w, i32_w]
    rfl
  refine pure_ (i := 3) (N := some 40) (v := ?_) (a' := ?_) #[true, true, true, true, false, false, false, false, false, false, false] rfl rfl (by kernel_rfl) (fun _ _ _ h => h) (Or.inl ⟨by rfl, ?_⟩) ?_ ?_
  rotate_left
  · intro w'
    go_simp
    with_reducible rfl
  rotate_left
  · simp only [Act.put, List.setIfInBounds_toArray, List.set_cons_zero, List.set_cons_succ, i64_w, i32_w]
    rfl
  refine pure_ (i := 4) (N := some 41) (v := ?_) (a' := ?_) #[true, true, true, true, true, false, false, false, false, false, false] rfl rfl (by kernel_rfl) (fun _ _ _ h => h) (Or.inl ⟨by rfl, ?_⟩) ?_ ?_
  rotate_left
  · intro w'
    go_simp
    with_reducible rfl
  rotate_left
  · simp only [Act.put, List.setIfInBounds_toArray, List.set_cons_zero, List.set_cons_succ, i64_w, i32_w]
    rfl
  refine pure_ (i := 5) (N := some 42) (v := ?_) (a' := ?_) #[true, true, true, true, true, true, false, false, false, false, false] rfl rfl (by kernel_rfl) (fun _ _ _ h => h) (Or.inl ⟨by rfl, ?_⟩) ?_ ?_
  rotate_left
  · intro w'
    go_simp
    with_reducible rfl
  rotate_left
  · simp only [Act.put, List.setIfInBounds_toArray, List.set_cons_zero, List.set_cons_succ, i64_w, i32_w]
    rfl
  refine pure_ (i := 6) (N := some 43) (v := ?_) (a' := ?_) #[true, true, true, true, true, true, true, false, false, false, false] rfl rfl (by kernel_rfl) (fun _ _ _ h => h) (Or.inl ⟨by rfl, ?_⟩) ?_ ?_
  rotate_left
  · intro w'
    go_simp
    with_reducible rfl
  rotate_left
  · simp only [Act.put, List.setIfInBounds_toArray, List.set_cons_zero, List.set_cons_succ, i64_w, i32_w]
    rfl
  refine pure_ (i := 7) (N := some 44) (v := ?_) (a' := ?_) #[true, true, true, true, true, true, true, true, false, false, false] rfl rfl (by kernel_rfl) (fun _ _ _ h => h) (Or.inl ⟨by rfl, ?_⟩) ?_ ?_
  rotate_left
  · intro w'
    go_simp
    with_reducible rfl
  rotate_left
  · simp only [Act.put, List.setIfInBounds_toArray, List.set_cons_zero, List.set_cons_succ, i64_w, i32_w]
    rfl
  refine pure_ (i := 8) (N := some 45) (v := ?_) (a' := ?_) #[true, true, true, true, true, true, true, true, true, false, false] rfl rfl (by kernel_rfl) (fun _ _ _ h => h) (Or.inl ⟨by rfl, ?_⟩) ?_ ?_
  rotate_left
  · intro w'
    go_simp
    with_reducible rfl
  rotate_left
  · simp only [Act.put, List.setIfInBounds_toArray, List.set_cons_zero, List.set_cons_succ, i64_w, i32_w]
    rfl
  refine one_ (i := 9) (N := some 46) #[true, true, true, true, true, true, true, true, true, true, false] rfl rfl (by kernel_rfl) (by decide) (fun K hK => ?_)
  refine goes_ Tryz.func112 (by kernel_rfl) rfl #[.slice (some ⟨w.heap.size, 0, none⟩) n Z.length, .slice (some ⟨mx, 0, none⟩) n cx0, .slice (some ⟨my, 0, none⟩) n cy0] (by rfl) rfl rfl (by simp only [List.map_toArray, List.map_cons, List.map_nil]; rfl) ?_
  with_reducible refine (HSV.out).mono ?_
  rintro e w2 ⟨rfl, h2, hk2⟩
  refine ⟨_, rfl, ?_⟩
  have H2 := Aside0.mk h2
  have HK2 := Aside0.mk hk2
  clear h2 hk2
  refine hK.out _ _ trivial (fun hHeld => ?_)
  clear hK K
  refine norm_ (a' := ?_) ?_ ?_
  rotate_left
  · show Act.put _ (some 46) _ = _
    simp only [Act.put, List.setIfInBounds_toArray, List.set_cons_zero, List.set_cons_succ, i64_w, i32_w]
    rfl
  refine pure_ (i := 10) (N := some 9) (v := ?_) (a' := ?_) #[true, true, true, true, true, true, true, true, true, true, true] rfl rfl (by kernel_rfl) (fun _ _ _ h => h) (Or.inl ⟨by rfl, ?_⟩) ?_ ?_
  rotate_left
  · intro w'
    go_simp
    with_reducible rfl
  rotate_left
  · simp only [Act.put, List.setIfInBounds_toArray, List.set_cons_zero, List.set_cons_succ, i64_w, i32_w]
    rfl
  refine done_ (by kernel_rfl) ?_
  have HB2 : Aside0 (Below w.heap.size w w2) := ⟨(HB1.out.trans (below_drew (Below.refl _ _))).trans (HK2.out.below (B := w.heap.size) (fun i h => by have h : i = w.heap.size := h; omega) HB1.out.size)⟩
  have HX2 := Aside0.mk (hp_kept (show hp w1.drew mx = _ from HX1.out) HK2.out hxz)
  have HST : Aside0 (∀ W, hp W w.heap.size = some (.cells (u64s (upd Z 0 0 m T)) 108 (0, 0)) → hp (W.setCell ⟨w.heap.size, m, none⟩ (.int .u64 C2)) w.heap.size = some (.cells (u64s (upd Z 0 0 m1 T)) 108 (0, 0))) := ⟨fun W h => by
    rw [hp_here _ _ _ _ _ rfl, h]
    simp only [Option.map_some, setObj_cells, u64s_set]
    have h2 := upd_up Z 0 0 m T (Nat.zero_le _) (by omega)
    rw [Nat.zero_add, HDG.out, ← HC2.out, ← HM1.out] at h2
    rw [h2]⟩
  by_cases hmn : n < m
  · have hmni : (n : Int) < (m : Int) := by omega
    have hcxn : ¬ cx0 = n := by omega
    have hZn : ¬ Z.length = n := by omega
    have hdl : (L.drop n).length = m - n := by rw [List.length_drop]; have := HLN.out; omega
    have HC0 : Aside0 (cy (L.drop n) C1 (m - n) = C2) := ⟨by
      have h := cy_top (okd_drop HOL.out n) C1
      rw [hdl, ← HH.out, HC1.out, carry_add HTT.out hml, ← HC2.out] at h
      rw [HC1.out, h]⟩
    have HSW : Aside0 (Calls Tryz.prog 113 #[.slice (some ⟨w.heap.size, n, none⟩) (m - n) (Z.length - n), .slice (some ⟨mx, n, none⟩) (m - n) (cx0 - n), .int .u64 C1] w2.drew (ShiftPost w2.drew w.heap.size n (upd Z 0 0 n T1) (m - n) (T1 / BW ^ n + H) C2 108)) := ⟨by
      have h := addVW_o_c w.heap.size n (Z.length - n) mx n (cx0 - n) (upd Z 0 0 n T1) (L.drop n) C1 108 w2.drew H2.out (by rw [upd_len, hdl]; omega) (L ++ RL) 108 HX2.out (by rw [hdl, List.length_append]; have := HLN.out; omega) (fun j hj => by
        rw [hdl] at hj
        simp only [List.getD_eq_getElem?_getD]
        rw [List.getElem?_append_left (by have := HLN.out; omega), List.getElem?_drop]) hxz (by omega) (by omega) (by omega) (by omega) (okd_drop HOL.out n) (by have := HC1B.out; have hB := BW_def; omega) (m - n) hdl.symm
      rw [HC0.out, ← HH.out, show H + C1 = T1 / BW ^ n + H by rw [HC1.out]; omega] at h
      exact h⟩
    clear hdl
    go_upto_region 12 with (fail)
    refine start_ (n := 10) (S := fun w' => True) (ds := []) #[false, false, false, false, false, false, false, false, false, false] (by kernel_rfl) rfl rfl trivial (fun hHeld => ?_)
    refine pure_ (i := 0) (N := some 50) (v := ?_) (a' := ?_) #[true, false, false, false, false, false, false, false, false, false] rfl rfl (by kernel_rfl) (fun _ _ _ h => h) (Or.inl ⟨by rfl, ?_⟩) ?_ ?_
    rotate_left
    · intro w'
      go_simp
      with_reducible rfl
    rotate_left
    · simp only [Act.put, List.setIfInBounds_toArray, List.set_cons_zero, List.set_cons_succ, i64_w, i32_w]
      rfl
    refine pure_ (i := 1) (N := some 51) (v := ?_) (a' := ?_) #[true, true, false, false, false, false, false, false, false, false] rfl rfl (by kernel_rfl) (fun _ _ _ h => h) (Or.inl ⟨by rfl, ?_⟩) ?_ ?_
    rotate_left
    · intro w'
      go_simp
      with_reducible rfl
    rotate_left
    · simp only [Act.put, List.setIfInBounds_toArray, List.set_cons_zero, List.set_cons_succ, i64_w, i32_w]
      rfl
    refine pure_ (i := 2) (N := some 52) (v := ?_) (a' := ?_) #[true, true, true, false, false, false, false, false, false, false] rfl rfl (by kernel_rfl) (fun _ _ _ h => h) (Or.inl ⟨by rfl, ?_⟩) ?_ ?_
    rotate_left
    · intro w'
      go_simp
      with_reducible rfl
    rotate_left
    · simp only [Act.put, List.setIfInBounds_toArray, List.set_cons_zero, List.set_cons_succ, i64_w, i32_w]
      rfl
    refine pure_ (i := 3) (N := some 53) (v := ?_) (a' := ?_) #[true, true, true, true, false, false, false, false, false, false] rfl rfl (by kernel_rfl) (fun _ _ _ h => h) (Or.inl ⟨by rfl, ?_⟩) ?_ ?_
    rotate_left
    · intro w'
      go_simp
      with_reducible rfl
    rotate_left
    · simp only [Act.put, List.setIfInBounds_toArray, List.set_cons_zero, List.set_cons_succ, i64_w, i32_w]
      rfl
    refine pure_ (i := 4) (N := some 54) (v := ?_) (a' := ?_) #[true, true, true, true, true, false, false, false, false, false] rfl rfl (by kernel_rfl) (fun _ _ _ h => h) (Or.inl ⟨by rfl, ?_⟩) ?_ ?_
    rotate_left
    · intro w'
      go_simp
      with_reducible rfl
    rotate_left
    · simp only [Act.put, List.setIfInBounds_toArray, List.set_cons_zero, List.set_cons_succ, i64_w, i32_w]
      rfl
    refine pure_ (i := 5) (N := some 55) (v := ?_) (a' := ?_) #[true, true, true, true, true, true, false, false, false, false] rfl rfl (by kernel_rfl) (fun _ _ _ h => h) (Or.inl ⟨by rfl, ?_⟩) ?_ ?_
    rotate_left
    · intro w'
      go_simp
      with_reducible rfl
    rotate_left
    · simp only [Act.put, List.setIfInBounds_toArray, List.set_cons_zero, List.set_cons_succ, i64_w, i32_w]
      rfl
    refine pure_ (i := 6) (N := some 56) (v := ?_) (a' := ?_) #[true, true, true, true, true, true, true, false, false, false] rfl rfl (by kernel_rfl) (fun _ _ _ h => h) (Or.inl ⟨by rfl, ?_⟩) ?_ ?_
    rotate_left
    · intro w'
      go_simp
      with_reducible rfl
    rotate_left
    · simp only [Act.put, List.setIfInBounds_toArray, List.set_cons_zero, List.set_cons_succ, i64_w, i32_w]
      rfl
    refine pure_ (i := 7) (N := some 57) (v := ?_) (a' := ?_) #[true, true, true, true, true, true, true, true, false, false] rfl rfl (by kernel_rfl) (fun _ _ _ h => h) (Or.inl ⟨by rfl, ?_⟩) ?_ ?_
    rotate_left
    · intro w'
      go_simp
      with_reducible rfl
    rotate_left
    · simp only [Act.put, List.setIfInBounds_toArray, List.set_cons_zero, List.set_cons_succ, i64_w, i32_w]
      rfl
    refine one_ (i := 8) (N := some 58) #[true, true, true, true, true, true, true, true, true, false] rfl rfl (by kernel_rfl) (by decide) (fun K hK => ?_)
    refine goes_ Tryz.func113 (by kernel_rfl) rfl #[.slice (some ⟨w.heap.size, n, none⟩) (m - n) (Z.length - n), .slice (some ⟨mx, n, none⟩) (m - n) (cx0 - n), .int .u64 C1] (by rfl) rfl rfl (by simp only [List.map_toArray, List.map_cons, List.map_nil]; rfl) ?_
    with_reducible refine (HSW.out).mono ?_
    rintro e w3 ⟨rfl, h3, hk3⟩
    refine ⟨_, rfl, ?_⟩
    have H3 := Aside0.mk h3
    have HK3 := Aside0.mk hk3
    clear h3 hk3
    refine hK.out _ _ trivial (fun hHeld => ?_)
    clear hK K
    refine norm_ (a' := ?_) ?_ ?_
    rotate_left
    · show Act.put _ (some 58) _ = _
      simp only [Act.put, List.setIfInBounds_toArray, List.set_cons_zero, List.set_cons_succ, i64_w, i32_w]
      rfl
    refine pure_ (i := 9) (N := some 9) (v := ?_) (a' := ?_) #[true, true, true, true, true, true, true, true, true, true] rfl rfl (by kernel_rfl) (fun _ _ _ h => h) (Or.inl ⟨by rfl, ?_⟩) ?_ ?_
    rotate_left
    · intro w'
      go_simp
      with_reducible rfl
    rotate_left
    · simp only [Act.put, List.setIfInBounds_toArray, List.set_cons_zero, List.set_cons_succ, i64_w, i32_w]
      rfl
    refine done_ (by kernel_rfl) ?_
    have HR3 : Aside0 (hp w3 w.heap.size = some (.cells (u64s (upd Z 0 0 m T)) 108 (0, 0))) := ⟨by have h := H3.out; rw [upd_join, show n + (m - n) = m by omega, ← HTT.out] at h; exact h⟩
    have HB3 : Aside0 (Below w.heap.size w (w3.setCell ⟨w.heap.size, m, none⟩ (.int .u64 C2))) := ⟨((HB2.out.trans (below_drew (Below.refl _ _))).trans (HK3.out.below (B := w.heap.size) (fun i h => by have h : i = w.heap.size := h; omega) HB2.out.size)).setCell (p := ⟨w.heap.size, m, none⟩) (Nat.le_refl _) _⟩
    obtain ⟨y0, hcm, hfm⟩ : ∃ y0, w3.cell? ⟨w.heap.size, m, none⟩ = some (.int .u64 y0) ∧ w3.frozen? ⟨w.heap.size, m, none⟩ = false := ⟨_, (blk_cell HR3.out m).trans (u64s_get _ m (by rw [upd_len]; exact hmZ2)), blk_frozen HR3.out m⟩
    have lg3 := hp_lt HR3.out
    have HE := Aside0.mk (nr_end (w := w) (c := Z.length) (HST.out w3 HR3.out) HOZ.out (by omega) HTB.out.1 HTB.out.2 (Nat.le_refl _) rfl hmax)
    have HNO := Aside0.mk (norm_w (some ⟨w.heap.size, 0, none⟩) Z.length (wn m1 T) m1 _ HE.out.2 (wn_len m1 T) (by omega) (by omega))
    go_wp2_with (fail)
    refine HNO.out.mono ?_
    rintro e w4 ⟨rfl, rfl⟩
    go_wp2_with (fail)
    go_ret
    exact ⟨_, rfl, HE.out.1, HB3.out⟩
  · have hmni : ¬ (n : Int) < (m : Int) := by omega
    have hme : n = m := by omega
    have HT10 : Aside0 (T1 = T ∧ C1 = C2) := ⟨by
      have h1 : H = 0 := by rw [HH.out, List.drop_eq_nil_of_le (by have := HLN.out; omega)]; exact ev_nil _
      have h2 : T1 = T := by rw [HTT.out, h1]; omega
      exact ⟨h2, by rw [HC1.out, HC2.out, h2, hme]⟩⟩
    have HR3 : Aside0 (hp w2 w.heap.size = some (.cells (u64s (upd Z 0 0 m T)) 108 (0, 0))) := ⟨by have h := H2.out; rw [HT10.out.1, hme] at h; exact h⟩
    have hC12 : C1 = C2 := HT10.out.2
    subst hC12
    have HB3 : Aside0 (Below w.heap.size w (w2.setCell ⟨w.heap.size, m, none⟩ (.int .u64 C1))) := ⟨HB2.out.setCell (p := ⟨w.heap.size, m, none⟩) (Nat.le_refl _) _⟩
    obtain ⟨y0, hcm, hfm⟩ : ∃ y0, w2.cell? ⟨w.heap.size, m, none⟩ = some (.int .u64 y0) ∧ w2.frozen? ⟨w.heap.size, m, none⟩ = false := ⟨_, (blk_cell HR3.out m).trans (u64s_get _ m (by rw [upd_len]; exact hmZ2)), blk_frozen HR3.out m⟩
    have lg3 := hp_lt HR3.out
    have HE := Aside0.mk (nr_end (w := w) (c := Z.length) (HST.out w2 HR3.out) HOZ.out (by omega) HTB.out.1 HTB.out.2 (Nat.le_refl _) rfl hmax)
    have HNO := Aside0.mk (norm_w (some ⟨w.heap.size, 0, none⟩) Z.length (wn m1 T) m1 _ HE.out.2 (wn_len m1 T) (by omega) (by omega))
    clear hme
    go_wp2_with (fail)
    refine HNO.out.mono ?_
    rintro e w4 ⟨rfl, rfl⟩
    go_wp2_with (fail)
    go_ret
    exact ⟨_, rfl, HE.out.1, HB3.out⟩
end Go.Proofs.YtfnknldbjckgoaaGreatDoor.Sp
end

/-! ## ShS -/
section
namespace Go.Proofs.YtfnknldbjckgoaaGreatDoor.Sp
open Go.RowKit Go.Proofs.YtfnknldbjckgoaaGreatDoorW.PrintWords Go.Proofs.YtfnknldbjckgoaaGreatDoorW.PrintLast Go.Proofs.YtfnknldbjckgoaaGreatDoorW.PrintMore Go.Proofs.YtfnknldbjckgoaaGreatDoor.Dig
set_option linter.unusedVariables false
set_option linter.unusedSimpArgs false
theorem makeIn_c (mz nz c n : Nat) (w : World) (h1 : 1 ≤ n) (hle : n ≤ c) (hc : c ≤ 1000000) (hn : nz ≤ c) : Calls Tryz.prog 94 #[.slice (some ⟨mz, 0, none⟩) nz c, .int .i64 (n : Int)] w fun e w' => e = .returned (.slice (some ⟨mz, 0, none⟩) n c) ∧ w = w' := by
  have hle2 : decide (n ≤ c) = true := decide_eq_true hle
  go_enter Tryz.func94, Tryz.ntmps94
  go_wp2_with (fail)
  go_ret
  exact ⟨rfl, rfl⟩
theorem natOne_c (w : World) : Calls Tryz.prog 80 #[] w fun e w' => e = .returned (.slice (some ⟨w.heap.size, 0, none⟩) 1 1) ∧ hp w' w.heap.size = some (.cells (u64s ([1] ++ [])) 108 (0, 0)) ∧ Below w.heap.size w w' := by
  have HK : Aside0 (hp (w.alloc (.cells #[.int .u64 1] 108)) w.heap.size = some (.cells (u64s ([1] ++ [])) 108 (0, 0))) := ⟨hp_new _ _ _ rfl⟩
  have HB := Aside0.mk (below_alloc (Below.refl w.heap.size w) (.cells #[.int .u64 1] 108))
  go_enter Tryz.func80, Tryz.ntmps80
  go_wp2_with (fail)
  go_ret
  exact ⟨rfl, HK.out, HB.out⟩
set_option maxHeartbeats 3200000 in
set_option maxRecDepth 100000 in
theorem rshS_c (z : Value) (P : Nat → Prop) (v : Int) (t : Nat) (w : World) (h : NR w P z v) (hv : 0 < v) (h0 : 0 < t) (ht : t < 64) (hvb : v < Lim) :
    Calls Tryz.prog 68 #[z, z, .int .u64 (t : Int)] w fun e w' => ∃ q, e = .returned q ∧ NR w' P q (v / 2 ^ t) ∧ Kept P w w' := by
  rcases h with ⟨_, h⟩ | ⟨mb, L, R, rfl, hb, hok, hcn, hev, hP, hlen⟩
  · omega
  have hl0 : 0 < L.length := by
    rcases Nat.eq_zero_or_pos L.length with h | h
    · rw [List.eq_nil_of_length_eq_zero h, ev_nil] at hev; omega
    · exact h
  obtain ⟨m, hm⟩ : ∃ m, m = L.length := ⟨_, rfl⟩
  obtain ⟨c, hc⟩ : ∃ c, c = (L ++ R).length := ⟨_, rfl⟩
  rw [← hc] at hlen
  have hmc : m ≤ c := by rw [hm, hc, List.length_append]; omega
  obtain ⟨T, hT⟩ : ∃ T, T = v / 2 ^ t := ⟨_, rfl⟩
  have hTb : 0 ≤ T ∧ T < BW ^ m := by
    have h1 := ev_lt hcn.ok BW_pos
    have h2 := ev_nonneg hcn.ok BW_pos
    rw [hev] at h1 h2
    rw [hT, hm]
    exact ⟨Int.ediv_nonneg h2 (Int.le_of_lt (tp _)), Int.lt_of_le_of_lt (Int.ediv_le_self _ h2) h1⟩
  have HMK := Aside0.mk (makeIn_c mb m c m w (by omega) hmc hlen hmc)
  have HSH : Aside0 (Calls Tryz.prog 97 #[.slice (some ⟨mb, 0, none⟩) m c, .slice (some ⟨mb, 0, none⟩) m c, .int .u64 (t : Int)] w (ShiftPost w mb 0 (L ++ R) m T (L.getD 0 0 * 2 ^ (64 - t) % BW) 108)) := ⟨by
    have h1 := rshVU_c mb 0 c mb 0 c (L ++ R) L t 108 w ⟨h0, ht⟩ hb (by rw [List.length_append]; omega) ⟨fun j hj => by rw [Nat.zero_add]; exact row_at hb j hj, .inr ⟨rfl, rfl⟩⟩ hl0 (by omega) hcn.ok
    rw [← hm, hev, ← hT] at h1
    exact h1⟩
  have HTB := Aside0.mk hTb
  have HOK := Aside0.mk hok
  have HP := Aside0.mk hP
  have HC := Aside0.mk hc
  have HM := Aside0.mk hm
  rw [← hT, ← hm, ← hc]
  have htI : ((t : Int) == 0) = false := by rw [beq_eq_false_iff_ne]; omega
  have hq : (t : Int) / 64 = 0 := by omega
  have hmd : (t : Int) % 64 = (t : Int) := by omega
  have hnd : decide ((m : Int) ≤ 0) = false := decide_eq_false (by omega)
  have hm0 : 0 < m := by omega
  clear hb hok hcn hev hP hT hTb hc hm hl0
  go_enter Tryz.func68, Tryz.ntmps68
  go_wp2_with (fail)
  refine (HMK.out).mono ?_
  rintro e w1 ⟨rfl, rfl⟩
  go_wp2_with (go_at_call 97; refine (HSH.out).mono ?_; rintro e w2 ⟨rfl, h1, h2⟩; have H1 := Aside0.mk h1; have H2 := Aside0.mk h2; clear h1 h2)
  have hle2 : m ≤ (L ++ R).length := by rw [← HC.out]; exact hmc
  have hNR := NR.of_strip (P := P) (c := c) H1.out (upd_ok HOK.out 0 0 m T) (by rw [upd_len]; exact hle2) (by rw [upd_take _ _ _ hle2, ev_wn_lt m T HTB.out.1 HTB.out.2]) HP.out (by rw [upd_len]; exact HC.out) (by rw [upd_len, ← HC.out]; exact hlen)
  rw [upd_take _ _ _ hle2] at hNR
  have HNR := Aside0.mk hNR
  have HROW : Aside0 (Kd.C (Kd.int .u64) w2 (some ⟨mb, 0, none⟩) (wn m T).length (wn m T)) := ⟨by
    have hu := upd_take (L ++ R) m T hle2
    have e : upd (L ++ R) 0 0 m T = wn m T ++ (upd (L ++ R) 0 0 m T).drop m := by rw [← hu, List.take_append_drop]
    have h := H1.out
    rw [e] at h
    exact row_C h (by rw [← e, upd_len, ← HC.out]; exact hlen)⟩
  have HNO := Aside0.mk (norm_w (some ⟨mb, 0, none⟩) c (wn m T) m w2 HROW.out (wn_len m T) hmc (by omega))
  clear hNR hle2
  go_wp2_with (fail)
  refine HNO.out.mono ?_
  rintro e w3 ⟨rfl, rfl⟩
  go_wp2_with (fail)
  go_ret
  exact ⟨_, rfl, HNR.out, H2.out.mono (fun i _ hi => by have h : i = mb := hi; rw [h]; exact HP.out)⟩
end Go.Proofs.YtfnknldbjckgoaaGreatDoor.Sp
end
