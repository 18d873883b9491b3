/-
  CONTRACTS: words are shifted (lshVU, rshVU), in place or into another row.
-/
import Derived.Test.YtgpgacnnkjiadaaGreatDoorKept
import Derived.RegionTactic
import Derived.BigRegion
namespace Go.Proofs.YtgpgacnnkjiadaaGreatDoor.Sp
open Go.RowKit Go.Proofs.YtgpgacnnkjiadaaGreatDoorW.PrintWords Go.Proofs.YtgpgacnnkjiadaaGreatDoorW.PrintLast Go.Proofs.YtgpgacnnkjiadaaGreatDoorW.PrintMore Go.Proofs.YtgpgacnnkjiadaaGreatDoor.Dig
set_option linter.unusedVariables false
set_option linter.unusedSimpArgs false

theorem and63 (s : Nat) (hs : s < 64) : Go.bits .and .u64 (s : Int) 63 = (s : Int) := by
  rw [u64_and _ _ (by omega) (by omega) (by omega) (by omega)]
  show (((s : Int).toNat &&& 63 : Nat) : Int) = s
  rw [nat_mask6]
  omega
/-- What a word is joined of: the higher bits of one, the lower ones of another. -/
theorem or_shl (a b : Int) (s : Nat) (hs : 0 < s ∧ s < 64) (ha : 0 ≤ a ∧ a < BW) (hb : 0 ≤ b ∧ b < BW) : Go.bits .or .u64 (IntKind.u64.wrap (a * 2 ^ s)) (b / 2 ^ (64 - s)) = a * 2 ^ s % BW + b / 2 ^ (64 - s) := by
  rw [IntKind.wrap_u64]
  have h64 := two64 s (by omega)
  have h1 : b / 2 ^ (64 - s) < 2 ^ s := by
    apply Int.ediv_lt_of_lt_mul (tp _)
    rw [h64]; exact hb.2
  have h0 : 0 ≤ b / 2 ^ (64 - s) := Int.ediv_nonneg hb.1 (Int.le_of_lt (tp _))
  have h2 : a * 2 ^ s % BW = 2 ^ s * (a % 2 ^ (64 - s)) := by rw [← h64, Int.mul_comm a, Int.mul_emod_mul_of_pos _ _ (tp s)]
  have h3 : (2 : Int) ^ s ≤ BW := by
    have := Int.mul_le_mul_of_nonneg_left (show (1 : Int) ≤ 2 ^ (64 - s) from tp _) (Int.le_of_lt (tp s))
    rw [h64] at this
    omega
  have h4 := Int.emod_nonneg (a * 2 ^ s) (Int.ne_of_gt BW_pos)
  have h5 := Int.emod_lt_of_pos (a * 2 ^ s) BW_pos
  rw [← BW_def] at *
  have e := BW_def
  rw [or64_comm _ _ h4 (by omega) h0 (by omega), or64_join s _ _ h4 (by rw [h2, Int.mul_emod_right]) (by omega) h0 h1 (by omega)]
  omega
theorem or_shr (a b : Int) (s : Nat) (hs : 0 < s ∧ s < 64) (ha : 0 ≤ a ∧ a < BW) (hb : 0 ≤ b ∧ b < BW) : Go.bits .or .u64 (a / 2 ^ s) (IntKind.u64.wrap (b * 2 ^ (64 - s))) = a / 2 ^ s + b * 2 ^ (64 - s) % BW := by
  have := or_shl b a (64 - s) (by omega) hb ha
  rw [IntKind.wrap_u64] at this ⊢
  rw [show 64 - (64 - s) = s by omega] at this
  have h4 := Int.emod_nonneg (b * 2 ^ (64 - s)) (show (18446744073709551616 : Int) ≠ 0 by omega)
  have h5 := Int.emod_lt_of_pos (b * 2 ^ (64 - s)) (show (0 : Int) < 18446744073709551616 by omega)
  have e := BW_def
  have h0 : 0 ≤ a / 2 ^ s := Int.ediv_nonneg ha.1 (Int.le_of_lt (tp _))
  have h1 : a / 2 ^ s ≤ a := Int.ediv_le_self _ ha.1
  rw [or64_comm _ _ h0 (by omega) h4 (by omega), this]
  omega

/-- Where the row that is read lies: in another block, or at the very place that is written. -/
def Lies (w : World) (mz oz mx ox : Nat) (L : List Int) : Prop := (∀ j, j < L.length → w.cell? ⟨mx, ox + j, none⟩ = some (.int .u64 (L.getD j 0))) ∧ (mx ≠ mz ∨ (mx = mz ∧ ox = oz))
theorem lies_down {w W : World} {mz oz mx ox : Nat} {L Z : List Int} {T : Int} {t : TypeId} (h : Lies w mz oz mx ox L) (hz : hp w mz = some (.cells (u64s Z) t (0, 0))) (hlen : oz + L.length ≤ Z.length) (hk : Kept (On mz) w W) {i : Nat} (hi : i < L.length) (hW : hp W mz = some (.cells (u64s (upd Z oz (i + 1) L.length T)) t (0, 0))) (j : Nat) (hj : j ≤ i) : W.cell? ⟨mx, ox + j, none⟩ = some (.int .u64 (L.getD j 0)) := by
  obtain ⟨h1, h2⟩ := h
  have h3 := h1 j (by omega)
  rcases h2 with h2 | ⟨rfl, rfl⟩
  · exact hk.cell h3 h2
  · rw [(blk_cell hW (ox + j)).trans (u64s_get _ (ox + j) (by rw [upd_len]; omega)), upd_get _ _ _ _ _ _ (by omega), if_neg (by omega)]
    have h4 := (blk_cell hz (ox + j)).trans (u64s_get _ (ox + j) (by omega))
    rw [h3] at h4
    rw [← Option.some.inj h4]
theorem lies_up {w W : World} {mz oz mx ox : Nat} {L Z : List Int} {T : Int} {t : TypeId} (h : Lies w mz oz mx ox L) (hz : hp w mz = some (.cells (u64s Z) t (0, 0))) (hlen : oz + L.length ≤ Z.length) (hk : Kept (On mz) w W) {i : Nat} (hW : hp W mz = some (.cells (u64s (upd Z oz 0 i T)) t (0, 0))) (j : Nat) (hj : i ≤ j) (hj2 : j < L.length) : W.cell? ⟨mx, ox + j, none⟩ = some (.int .u64 (L.getD j 0)) := by
  obtain ⟨h1, h2⟩ := h
  have h3 := h1 j (by omega)
  rcases h2 with h2 | ⟨rfl, rfl⟩
  · exact hk.cell h3 h2
  · rw [(blk_cell hW (ox + j)).trans (u64s_get _ (ox + j) (by rw [upd_len]; omega)), upd_get _ _ _ _ _ _ (by omega), if_neg (by omega)]
    have h4 := (blk_cell hz (ox + j)).trans (u64s_get _ (ox + j) (by omega))
    rw [h3] at h4
    rw [← Option.some.inj h4]
/-- What a shift leaves. -/
def ShiftPost (w : World) (mz oz : Nat) (Z : List Int) (n : Nat) (T c : Int) (t : TypeId) (e : Ending) (w' : World) : Prop :=
  e = .returned (.int .u64 c) ∧ hp w' mz = some (.cells (u64s (upd Z oz 0 n T)) t (0, 0)) ∧ Kept (On mz) w w'
set_option maxHeartbeats 3200000 in
set_option maxRecDepth 100000 in
theorem lshVU_g_c (mz oz cz mx ox cx : Nat) (Z L : List Int) (s : Nat) (t : TypeId) (w : World) (hs : 0 < s ∧ s < 64) (hz : hp w mz = some (.cells (u64s Z) t (0, 0))) (hlen : oz + L.length ≤ Z.length) (hx : Lies w mz oz mx ox L) (h0 : 0 < L.length) (hbig : L.length ≤ 100000000) (hok : okd BW L) :
    Calls Tryz.prog 97 #[.slice (some ⟨mz, oz, none⟩) L.length cz, .slice (some ⟨mx, ox, none⟩) L.length cx, .int .u64 (s : Int)] w (ShiftPost w mz oz Z L.length (ev BW L * 2 ^ s) (L.getD (L.length - 1) 0 / 2 ^ (64 - s)) t) := by
  have e1 := and63 s hs.2
  have e2 := and63 (64 - s) (by omega)
  have e0 : ((s : Int) == 0) = false := by rw [beq_eq_false_iff_ne]; omega
  have HX := Aside0.mk hx
  have HZ := Aside0.mk hz
  have hl := hx.1 (L.length - 1) (by omega)
  have HOK := Aside0.mk hok
  obtain ⟨n, hn⟩ : ∃ n, n = L.length := ⟨_, rfl⟩
  have HN := Aside0.mk hn
  obtain ⟨k, hk⟩ : ∃ k, n = k + 1 := ⟨n - 1, by omega⟩
  rw [← hn] at hl hlen h0 hbig ⊢
  clear hx hz hok hn
  subst hk
  rw [Nat.add_sub_cancel] at hl ⊢
  have e3 : (64 - (s : Int)) = ((64 - s : Nat) : Int) := by omega
  go_enter Tryz.func97, Tryz.ntmps97
  go_wp2_with (fail)
  go_loopw [8] (fun v8 wr => ∃ i : Nat, i ≤ k ∧ v8 = .int .i64 (i : Int) ∧ Aside0 (hp wr mz = some (.cells (u64s (upd Z oz (i + 1) (k + 1) (ev BW L * 2 ^ s))) t (0, 0))) ∧ Aside0 (Kept (On mz) w wr)) (fun v _ => (intOf v).toNat)
  case atStart => exact ⟨k, by omega, rfl, ⟨by rw [upd_none _ _ _ _ _ (Nat.le_refl _)]; exact HZ.out⟩, ⟨Kept.refl _ _⟩⟩
  case round =>
    obtain ⟨i, hi, rfl, HO, HK⟩ := hrel
    have hw := fun j hj => lies_down (T := ev BW L * 2 ^ s) HX.out HZ.out (by rw [← HN.out]; exact hlen) HK.out (i := i) (by rw [← HN.out]; omega) (by rw [← HN.out]; exact HO.out) j hj
    by_cases hi0 : i = 0
    · subst hi0
      have hx0 := hw 0 (Nat.le_refl _)
      have hc := (blk_cell HO.out (oz + 0)).trans (u64s_get _ (oz + 0) (by rw [upd_len]; omega))
      have hf := blk_frozen HO.out (oz + 0)
      rw [Nat.add_zero] at hx0 hc hf
      obtain ⟨a, ha⟩ : ∃ a, a = L.getD 0 0 := ⟨_, rfl⟩
      rw [← ha] at hx0
      have HD : Aside0 (IntKind.u64.wrap (a * 2 ^ s) = dg (ev BW L * 2 ^ s) 0) := ⟨by rw [dg_shl0, ev_dg HOK.out, ← ha, IntKind.wrap_u64, BW_def]⟩
      clear hw ha
      go_wp2_with (fail)
      go_ret
      refine ⟨rfl, ?_, HK.out.setCell (p := ⟨mz, oz, none⟩) (.inl rfl) _⟩
      rw [hp_here _ _ _ _ _ rfl, HO.out]
      simp only [Option.map_some, setObj_cells, u64s_set]
      have hu : (upd Z oz (0 + 1) (k + 1) (ev BW L * 2 ^ s)).set oz (dg (ev BW L * 2 ^ s) 0) = upd Z oz 0 (k + 1) (ev BW L * 2 ^ s) := upd_down Z oz 0 (k + 1) (ev BW L * 2 ^ s) (by omega) (by omega)
      rw [HD.out, hu]
    · obtain ⟨q, rfl⟩ : ∃ q, i = q + 1 := ⟨i - 1, by omega⟩
      have hx1 := hw (q + 1) (by omega)
      have hx0 := hw q (by omega)
      have hc := (blk_cell HO.out (oz + (q + 1))).trans (u64s_get _ (oz + (q + 1)) (by rw [upd_len]; omega))
      have hf := blk_frozen HO.out (oz + (q + 1))
      obtain ⟨a, ha⟩ : ∃ a, a = L.getD (q + 1) 0 := ⟨_, rfl⟩
      obtain ⟨b, hb⟩ : ∃ b, b = L.getD q 0 := ⟨_, rfl⟩
      rw [← ha] at hx1
      rw [← hb] at hx0
      obtain ⟨d, hd⟩ : ∃ d, d = dg (ev BW L * 2 ^ s) (q + 1) := ⟨_, rfl⟩
      have he : Go.bits .or .u64 (IntKind.u64.wrap (a * 2 ^ s)) (b / 2 ^ (64 - s)) = d := by
        rw [or_shl a b s hs (by rw [ha]; exact okd_get HOK.out BW_pos _) (by rw [hb]; exact okd_get HOK.out BW_pos _), hd, dg_shl _ _ hs.2, ev_dg HOK.out, ev_dg HOK.out, ← ha, ← hb]
      have HD := Aside0.mk hd
      clear hw ha hb hd
      go_wp2_with (fail)
      go_region
      all_goals
        go_wp2_with (fail)
        go_roundw
        case measure => simp [intOf]
        case rel =>
          refine ⟨q, by omega, rfl, ⟨?_⟩, ⟨?_⟩⟩
          · rw [hp_drew, hp_here _ _ _ _ _ rfl, HO.out]
            simp only [Option.map_some, setObj_cells, u64s_set]
            rw [HD.out, upd_down _ _ _ _ _ (by omega) (by omega)]
          · exact (HK.out.setCell (p := ⟨mz, oz + (q + 1), none⟩) (.inl rfl) _).drew
set_option maxHeartbeats 3200000 in
set_option maxRecDepth 100000 in
theorem rshVU_g_c (mz oz cz mx ox cx : Nat) (Z L : List Int) (s : Nat) (t : TypeId) (w : World) (hs : 0 < s ∧ s < 64) (hz : hp w mz = some (.cells (u64s Z) t (0, 0))) (hlen : oz + L.length ≤ Z.length) (hx : Lies w mz oz mx ox L) (h0 : 0 < L.length) (hbig : L.length ≤ 100000000) (hok : okd BW L) :
    Calls Tryz.prog 101 #[.slice (some ⟨mz, oz, none⟩) L.length cz, .slice (some ⟨mx, ox, none⟩) L.length cx, .int .u64 (s : Int)] w (ShiftPost w mz oz Z L.length (ev BW L / 2 ^ s) (L.getD 0 0 * 2 ^ (64 - s) % BW) t) := by
  have e1 := and63 s hs.2
  have e2 := and63 (64 - s) (by omega)
  have e0 : ((s : Int) == 0) = false := by rw [beq_eq_false_iff_ne]; omega
  have HX := Aside0.mk hx
  have HZ := Aside0.mk hz
  have hl := hx.1 0 (by omega)
  rw [Nat.add_zero] at hl
  have HOK := Aside0.mk hok
  have HW := Aside0.mk (show ∀ x : Int, IntKind.u64.wrap x = x % BW from fun x => by rw [IntKind.wrap_u64, BW_def])
  obtain ⟨n, hn⟩ : ∃ n, n = L.length := ⟨_, rfl⟩
  have HN := Aside0.mk hn
  obtain ⟨k, hk⟩ : ∃ k, n = k + 1 := ⟨n - 1, by omega⟩
  rw [← hn] at hlen h0 hbig ⊢
  rw [← HW.out]
  clear hx hz hok hn
  subst hk
  have e3 : (64 - (s : Int)) = ((64 - s : Nat) : Int) := by omega
  go_enter Tryz.func101, Tryz.ntmps101
  go_wp2_with (fail)
  go_loopw [8] (fun v8 wr => ∃ i : Nat, i ≤ k ∧ v8 = .int .i64 ((i : Int) + 1) ∧ Aside0 (hp wr mz = some (.cells (u64s (upd Z oz 0 i (ev BW L / 2 ^ s))) t (0, 0))) ∧ Aside0 (Kept (On mz) w wr)) (fun v _ => k + 1 - (intOf v).toNat)
  case atStart => exact ⟨0, by omega, rfl, ⟨by rw [upd_none _ _ _ _ _ (Nat.le_refl _)]; exact HZ.out⟩, ⟨Kept.refl _ _⟩⟩
  case round =>
    obtain ⟨i, hi, rfl, HO, HK⟩ := hrel
    have hw := fun j hj hj2 => lies_up (T := ev BW L / 2 ^ s) HX.out HZ.out (by rw [← HN.out]; exact hlen) HK.out HO.out j hj hj2
    by_cases hi0 : i = k
    · subst hi0
      have hx0 := hw i (Nat.le_refl _) (by rw [← HN.out]; omega)
      have hc := (blk_cell HO.out (oz + i)).trans (u64s_get _ (oz + i) (by rw [upd_len]; omega))
      have hf := blk_frozen HO.out (oz + i)
      obtain ⟨a, ha⟩ : ∃ a, a = L.getD i 0 := ⟨_, rfl⟩
      rw [← ha] at hx0
      have HD : Aside0 (a / 2 ^ s = dg (ev BW L / 2 ^ s) i) := ⟨by
        rw [dg_shr _ _ (by omega), ev_dg HOK.out, ev_dg HOK.out, ← ha]
        simp [List.getD, List.getElem?_eq_none (show L.length ≤ i + 1 by rw [← HN.out]; omega)]⟩
      clear hw ha
      go_wp2_with (fail)
      go_ret
      refine ⟨rfl, ?_, HK.out.setCell (p := ⟨mz, oz + i, none⟩) (.inl rfl) _⟩
      rw [hp_here _ _ _ _ _ rfl, HO.out]
      simp only [Option.map_some, setObj_cells, u64s_set]
      rw [HD.out, upd_up _ _ _ _ _ (by omega) (by omega)]
    · have hx1 := hw (i + 1) (by omega) (by rw [← HN.out]; omega)
      have hx0 := hw i (by omega) (by rw [← HN.out]; omega)
      have hc := (blk_cell HO.out (oz + i)).trans (u64s_get _ (oz + i) (by rw [upd_len]; omega))
      have hf := blk_frozen HO.out (oz + i)
      obtain ⟨a, ha⟩ : ∃ a, a = L.getD i 0 := ⟨_, rfl⟩
      obtain ⟨b, hb⟩ : ∃ b, b = L.getD (i + 1) 0 := ⟨_, rfl⟩
      rw [← hb] at hx1
      rw [← ha] at hx0
      obtain ⟨d, hd⟩ : ∃ d, d = dg (ev BW L / 2 ^ s) i := ⟨_, rfl⟩
      have he : Go.bits .or .u64 (a / 2 ^ s) (IntKind.u64.wrap (b * 2 ^ (64 - s))) = d := by
        rw [or_shr a b s hs (by rw [ha]; exact okd_get HOK.out BW_pos _) (by rw [hb]; exact okd_get HOK.out BW_pos _), hd, dg_shr _ _ (by omega), ev_dg HOK.out, ev_dg HOK.out, ← ha, ← hb]
      have HD := Aside0.mk hd
      have hlt : i < k := by omega
      clear hw ha hb hd hi0 hi
      go_wp2_with (fail)
      go_region
      all_goals
        go_wp2_with (fail)
        go_roundw
        case measure => simp [intOf]; omega
        case rel =>
          refine ⟨i + 1, by omega, by simp, ⟨?_⟩, ⟨?_⟩⟩
          · rw [hp_drew, hp_here _ _ _ _ _ rfl, HO.out]
            simp only [Option.map_some, setObj_cells, u64s_set]
            rw [HD.out, upd_up _ _ _ _ _ (by omega) (by omega)]
          · exact (HK.out.setCell (p := ⟨mz, oz + i, none⟩) (.inl rfl) _).drew
theorem lshVU_c (mz oz cz mx ox cx : Nat) (Z L : List Int) (s : Nat) (t : TypeId) (w : World) (hs : 0 < s ∧ s < 64) (hz : hp w mz = some (.cells (u64s Z) t (0, 0))) (hlen : oz + L.length ≤ Z.length) (hx : Lies w mz oz mx ox L) (h0 : 0 < L.length) (hbig : L.length ≤ 100000000) (hok : okd BW L) :
    Calls Tryz.prog 77 #[.slice (some ⟨mz, oz, none⟩) L.length cz, .slice (some ⟨mx, ox, none⟩) L.length cx, .int .u64 (s : Int)] w (ShiftPost w mz oz Z L.length (ev BW L * 2 ^ s) (L.getD (L.length - 1) 0 / 2 ^ (64 - s)) t) := by
  have H := Aside0.mk (lshVU_g_c mz oz cz mx ox cx Z L s t w hs hz hlen hx h0 hbig hok)
  obtain ⟨T, hT⟩ : ∃ T, T = ev BW L * 2 ^ s := ⟨_, rfl⟩
  obtain ⟨c, hc⟩ : ∃ c, c = L.getD (L.length - 1) 0 / 2 ^ (64 - s) := ⟨_, rfl⟩
  rw [← hT, ← hc] at H ⊢
  clear hT hc hz hx hok
  go_enter Tryz.func77, Tryz.ntmps77
  go_wp2_with (go_at_call 97; refine (H.out).mono ?_; rintro e w' ⟨rfl, h1, h2⟩; have H1 := Aside0.mk h1; have H2 := Aside0.mk h2; clear h1 h2)
  go_ret
  exact ⟨rfl, H1.out, H2.out⟩
theorem rshVU_c (mz oz cz mx ox cx : Nat) (Z L : List Int) (s : Nat) (t : TypeId) (w : World) (hs : 0 < s ∧ s < 64) (hz : hp w mz = some (.cells (u64s Z) t (0, 0))) (hlen : oz + L.length ≤ Z.length) (hx : Lies w mz oz mx ox L) (h0 : 0 < L.length) (hbig : L.length ≤ 100000000) (hok : okd BW L) :
    Calls Tryz.prog 81 #[.slice (some ⟨mz, oz, none⟩) L.length cz, .slice (some ⟨mx, ox, none⟩) L.length cx, .int .u64 (s : Int)] w (ShiftPost w mz oz Z L.length (ev BW L / 2 ^ s) (L.getD 0 0 * 2 ^ (64 - s) % BW) t) := by
  have H := Aside0.mk (rshVU_g_c mz oz cz mx ox cx Z L s t w hs hz hlen hx h0 hbig hok)
  obtain ⟨T, hT⟩ : ∃ T, T = ev BW L / 2 ^ s := ⟨_, rfl⟩
  obtain ⟨c, hc⟩ : ∃ c, c = L.getD 0 0 * 2 ^ (64 - s) % BW := ⟨_, rfl⟩
  rw [← hT, ← hc] at H ⊢
  clear hT hc hz hx hok
  go_enter Tryz.func81, Tryz.ntmps81
  go_wp2_with (go_at_call 101; refine (H.out).mono ?_; rintro e w' ⟨rfl, h1, h2⟩; have H1 := Aside0.mk h1; have H2 := Aside0.mk h2; clear h1 h2)
  go_ret
  exact ⟨rfl, H1.out, H2.out⟩
end Go.Proofs.YtgpgacnnkjiadaaGreatDoor.Sp
