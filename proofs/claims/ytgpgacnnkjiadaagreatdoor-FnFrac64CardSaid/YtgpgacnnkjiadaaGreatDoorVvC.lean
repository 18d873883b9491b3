/-
  CONTRACTS: rows of words added, subtracted, multiplied by a word, in place or into another row.
-/
import Derived.Test.YtgpgacnnkjiadaaGreatDoorAddVW
import Derived.Test.YtgpgacnnkjiadaaGreatDoorMVv
import Derived.BigQuiet
import Derived.Deep.QuietTactic
namespace Go.Proofs.YtgpgacnnkjiadaaGreatDoor.Sp
open Go.RowKit Go.Proofs.YtgpgacnnkjiadaaGreatDoorW.PrintWords Go.Proofs.YtgpgacnnkjiadaaGreatDoorW.PrintLast Go.Proofs.YtgpgacnnkjiadaaGreatDoorW.PrintMore Go.Proofs.YtgpgacnnkjiadaaGreatDoor.Dig
set_option linter.unusedVariables false
set_option linter.unusedSimpArgs false
theorem add64c (x y c : Int) (hx : 0 ≤ x) (hy : 0 ≤ y) (hc : 0 ≤ c ∧ c ≤ 1) (w : World) : (callFunc 120 #[.int .u64 x, .int .u64 y, .int .u64 c]).run Tryz.prog w =
    .ok (.value (.tuple #[.int .u64 ((x + y + c) % 18446744073709551616), .int .u64 ((x + y + c) / 18446744073709551616)])) w := by
  obtain ⟨x, rfl⟩ := Int.eq_ofNat_of_zero_le hx
  obtain ⟨y, rfl⟩ := Int.eq_ofNat_of_zero_le hy
  obtain ⟨c, rfl⟩ := Int.eq_ofNat_of_zero_le hc.1
  refine (Sh.bits_Add64 x y c (by omega) w).trans ?_
  congr 5 <;> omega
set_option maxHeartbeats 3200000 in
set_option maxRecDepth 100000 in
theorem bitsAddc_c (x y c d k : Int) (w : World) (hx : 0 ≤ x) (hy : 0 ≤ y) (hc : 0 ≤ c ∧ c ≤ 1) (hd : d = (x + y + c) % BW) (hk : k = (x + y + c) / BW) : Calls Tryz.prog 105 #[.int .u64 x, .int .u64 y, .int .u64 c] w fun e w' => e = .returned (.tuple #[.int .u64 d, .int .u64 k]) ∧ w' = w := by
  have h := add64c x y c hx hy hc w
  rw [← BW_def, ← hd, ← hk] at h
  clear hd hk
  go_enter Tryz.func105, Tryz.ntmps105
  go_wp2
  go_ret2
  exact ⟨rfl, rfl⟩
theorem sub64c (x y c : Int) (hx : 0 ≤ x ∧ x < BW) (hy : 0 ≤ y ∧ y < BW) (hc : 0 ≤ c ∧ c ≤ 1) (w : World) : (callFunc 122 #[.int .u64 x, .int .u64 y, .int .u64 c]).run Tryz.prog w =
    .ok (.value (.tuple #[.int .u64 ((x - y - c) % 18446744073709551616), .int .u64 (-((x - y - c) / 18446744073709551616))])) w := by
  obtain ⟨x, rfl⟩ := Int.eq_ofNat_of_zero_le hx.1
  obtain ⟨y, rfl⟩ := Int.eq_ofNat_of_zero_le hy.1
  obtain ⟨c, rfl⟩ := Int.eq_ofNat_of_zero_le hc.1
  have hb := BW_def
  have h1 : y + c ≤ x + 18446744073709551616 := by omega
  refine (Sh.bits_Sub64 x y c (by omega) w).trans ?_
  have e1 : (((x + 18446744073709551616 - y - c) % 18446744073709551616 : Nat) : Int) = ((x : Int) - y - c) % 18446744073709551616 := by omega
  have e2 : ((if x < y + c then 1 else 0 : Nat) : Int) = -(((x : Int) - y - c) / 18446744073709551616) := by split <;> omega
  rw [e1, e2]
set_option maxHeartbeats 3200000 in
set_option maxRecDepth 100000 in
theorem bitsSub_c (x y c d k : Int) (w : World) (hx : 0 ≤ x ∧ x < BW) (hy : 0 ≤ y ∧ y < BW) (hc : 0 ≤ c ∧ c ≤ 1) (hd : d = (x - y - c) % BW) (hk : k = -((x - y - c) / BW)) : Calls Tryz.prog 107 #[.int .u64 x, .int .u64 y, .int .u64 c] w fun e w' => e = .returned (.tuple #[.int .u64 d, .int .u64 k]) ∧ w' = w := by
  have h := sub64c x y c hx hy hc w
  rw [← BW_def, ← hd, ← hk] at h
  clear hd hk
  go_enter Tryz.func107, Tryz.ntmps107
  go_wp2
  go_ret2
  exact ⟨rfl, rfl⟩
set_option maxHeartbeats 3200000 in
set_option maxRecDepth 100000 in
theorem bitsMul_c (x y d k : Int) (w : World) (hx : 0 ≤ x ∧ x < BW) (hy : 0 ≤ y ∧ y < BW) (hd : d = x * y % BW) (hk : k = x * y / BW) : Calls Tryz.prog 114 #[.int .u64 x, .int .u64 y] w fun e w' => e = .returned (.tuple #[.int .u64 k, .int .u64 d]) ∧ w' = w := by
  obtain ⟨x, rfl⟩ := Int.eq_ofNat_of_zero_le hx.1
  obtain ⟨y, rfl⟩ := Int.eq_ofNat_of_zero_le hy.1
  have hb := BW_def
  have h := Sh.bits_Mul x y (by omega) (by omega) w
  rw [hd, hk, hb, ← Int.natCast_mul]
  simpa using h
set_option maxHeartbeats 3200000 in
set_option maxRecDepth 100000 in
theorem mulWW_c (x y d k : Int) (w : World) (hx : 0 ≤ x ∧ x < BW) (hy : 0 ≤ y ∧ y < BW) (hd : d = x * y % BW) (hk : k = x * y / BW) : Calls Tryz.prog 98 #[.int .u64 x, .int .u64 y] w fun e w' => e = .returned (.tuple #[.int .u64 k, .int .u64 d]) ∧ w' = w := by
  have hM := Aside0.mk (fun w => bitsMul_c x y d k w hx hy hd hk)
  clear hd hk hx hy
  go_enter Tryz.func98, Tryz.ntmps98
  go_wp2_with (go_at_call 114; refine (hM.out _).mono ?_; rintro e w' ⟨rfl, rfl⟩)
  go_ret2
  exact ⟨rfl, rfl⟩
theorem mul_word {x y c : Int} (hx : 0 ≤ x ∧ x < BW) (hy : 0 ≤ y ∧ y < BW) (hc : 0 ≤ c ∧ c < BW) : 0 ≤ x * y ∧ x * y + c < BW * BW ∧ 0 ≤ (x * y + c) / BW ∧ (x * y + c) / BW < BW := by
  have h0 := Int.mul_nonneg hx.1 hy.1
  have a := Int.mul_le_mul_of_nonneg_right (show x ≤ BW - 1 by omega) hy.1
  have b := Int.mul_le_mul_of_nonneg_left (show y ≤ BW - 1 by omega) (show 0 ≤ BW - 1 by have := BW_gt; omega)
  have h6 : (BW - 1) * (BW - 1) = BW * BW - BW - BW + 1 := by rw [Int.sub_mul, Int.mul_sub, Int.mul_one, Int.one_mul]; omega
  have h7 : x * y + c < BW * BW := by omega
  exact ⟨h0, h7, Int.ediv_nonneg (by omega) (Int.le_of_lt BW_pos), Int.ediv_lt_of_lt_mul BW_pos h7⟩
theorem c_parts (P c : Int) : (P % BW + c) % BW = (P + c) % BW ∧ P / BW + (P % BW + c) / BW = (P + c) / BW := by
  have h1 := Int.emod_add_mul_ediv P BW
  obtain ⟨q, hq⟩ : ∃ q, q = P / BW := ⟨_, rfl⟩
  obtain ⟨r, hr⟩ : ∃ r, r = P % BW := ⟨_, rfl⟩
  rw [← hq, ← hr] at h1
  rw [← hq, ← hr, ← h1, show r + BW * q + c = (r + c) + BW * q by omega, Int.add_mul_emod_self_left, Int.add_mul_ediv_left _ _ (Int.ne_of_gt BW_pos)]
  exact ⟨rfl, by omega⟩
theorem mul_word2 {x y c d : Int} (hx : 0 ≤ x ∧ x < BW) (hy : 0 ≤ y ∧ y < BW) (hc : 0 ≤ c ∧ c < BW) (hd : 0 ≤ d ∧ d < BW) : 0 ≤ (x * y + c + d) / BW ∧ (x * y + c + d) / BW < BW := by
  have h0 := Int.mul_nonneg hx.1 hy.1
  have a := Int.mul_le_mul_of_nonneg_right (show x ≤ BW - 1 by omega) hy.1
  have b := Int.mul_le_mul_of_nonneg_left (show y ≤ BW - 1 by omega) (show 0 ≤ BW - 1 by have := BW_gt; omega)
  have h6 : (BW - 1) * (BW - 1) = BW * BW - BW - BW + 1 := by rw [Int.sub_mul, Int.mul_sub, Int.mul_one, Int.one_mul]; omega
  exact ⟨Int.ediv_nonneg (by omega) (Int.le_of_lt BW_pos), Int.ediv_lt_of_lt_mul BW_pos (by omega)⟩
set_option maxHeartbeats 3200000 in
set_option maxRecDepth 100000 in
theorem mulAddWWW_c (x y c d k : Int) (w : World) (hx : 0 ≤ x ∧ x < BW) (hy : 0 ≤ y ∧ y < BW) (hc : 0 ≤ c ∧ c < BW) (hd : d = (x * y + c) % BW) (hk : k = (x * y + c) / BW) : Calls Tryz.prog 118 #[.int .u64 x, .int .u64 y, .int .u64 c] w fun e w' => e = .returned (.tuple #[.int .u64 k, .int .u64 d]) ∧ w' = w := by
  have hp := c_parts (x * y) c
  have hw := mul_word hx hy hc
  have h0 := mul_word hx hy (c := 0) ⟨Int.le_refl _, BW_pos⟩
  rw [Int.add_zero] at h0
  have hr0 := Int.emod_nonneg (x * y) (Int.ne_of_gt BW_pos)
  have hr1 := Int.emod_lt_of_pos (x * y) BW_pos
  obtain ⟨a, ha⟩ : ∃ a, a = x * y / BW := ⟨_, rfl⟩
  obtain ⟨b, hb⟩ : ∃ b, b = x * y % BW := ⟨_, rfl⟩
  have hM := Aside0.mk (fun w => bitsMul_c x y b a w hx hy hb ha)
  rw [← ha, ← hb, ← hd, ← hk] at hp
  rw [← hk] at hw
  rw [← ha] at h0
  rw [← hb] at hr0 hr1
  obtain ⟨f, hf⟩ : ∃ f, f = (b + c) / BW := ⟨_, rfl⟩
  have hA := Aside0.mk (fun w => bitsAdd_c b c w hr0 hc.1)
  rw [hp.1, ← hf] at hA
  rw [← hf] at hp
  have hs : IntKind.u64.wrap (a + f) = k := by rw [hp.2]; exact wrap_u64 hw.2.2.1 (by rw [← BW_def]; exact hw.2.2.2)
  clear hd hk hx hy hc hp hw h0 hr0 hr1 ha hb hf
  go_enter Tryz.func118, Tryz.ntmps118
  go_wp2_with (first | (go_at_call 114; refine (hM.out _).mono ?_; rintro e w' ⟨rfl, rfl⟩) | (go_at_call 105; refine (hA.out _).mono ?_; rintro e w' ⟨rfl, rfl⟩))
  go_ret2
  exact ⟨rfl, rfl⟩
theorem Kept.drewN {S : Nat → Prop} {a w : World} (h : Kept S a w) (n : Nat) : Kept S a (w.drewN n) := ⟨h.os, h.tape, h.output, h.size, h.block⟩
/-- What is left of a row that is read where the words below i of the row at its place were written. -/
theorem lies_at {w W : World} {mz oz mx ox : Nat} {L Z : List Int} {T : Int} {t : TypeId} (h : Lies w mz oz mx ox L) (hz : hp w mz = some (.cells (u64s Z) t (0, 0))) {n : Nat} (hn : L.length = n) (hlen : oz + n ≤ Z.length) (hk : Kept (On mz) w W) {i : Nat} (hW : hp W mz = some (.cells (u64s (upd Z oz 0 i T)) t (0, 0))) (hi : i < n) : W.cell? ⟨mx, ox + i, none⟩ = some (.int .u64 (L.getD i 0)) := by
  subst hn
  exact lies_up h hz hlen hk hW i (Nat.le_refl _) hi
set_option maxHeartbeats 3200000 in
set_option maxRecDepth 100000 in
theorem addVV_g_c (mz oz cz mx ox cx my oy cy' : Nat) (Z L M : List Int) (t : TypeId) (w : World) (hz : hp w mz = some (.cells (u64s Z) t (0, 0))) (hlen : oz + L.length ≤ Z.length) (hML : M.length = L.length) (hx : Lies w mz oz mx ox L) (hy : Lies w mz oz my oy M) (hbig : L.length ≤ 100000000) (hL : okd BW L) (hM : okd BW M) :
    Calls Tryz.prog 104 #[.slice (some ⟨mz, oz, none⟩) L.length cz, .slice (some ⟨mx, ox, none⟩) L.length cx, .slice (some ⟨my, oy, none⟩) L.length cy'] w (ShiftPost w mz oz Z L.length (ev BW L + ev BW M) ((ev BW L + ev BW M) / BW ^ L.length) t) := by
  have HT : Aside0 (ev BW L + ev BW M = ev BW (lin 1 L M) + 0) := ⟨by rw [lin_ev hML.symm]; omega⟩
  have HD : Aside0 (∀ i, i < L.length → dg (ev BW L + ev BW M) i = (L.getD i 0 + M.getD i 0 + cy (lin 1 L M) 0 i) % BW ∧ cy (lin 1 L M) 0 (i + 1) = ((L.getD i 0 + M.getD i 0 + cy (lin 1 L M) 0 i) / BW)) := ⟨fun i hi => by
    rw [HT.out, gy_dg, cy_s, lin_get hi (by omega)]
    constructor <;> (congr 1; try omega) <;> (try (congr 1; omega))⟩
  have HR := Aside0.mk (fun i => gy_add hL hM hML.symm i)
  have HE : Aside0 (cy (lin 1 L M) 0 (L.length) = (ev BW L + ev BW M) / BW ^ L.length) := ⟨by rw [HT.out]; have := gy_end (lin 1 L M) 0; rw [lin_len hML.symm] at this; rw [this]⟩
  have HX := Aside0.mk hx
  have HY := Aside0.mk hy
  have HZ := Aside0.mk hz
  have HLO := Aside0.mk hL
  have HMO := Aside0.mk hM
  have HML := Aside0.mk hML
  rw [← HE.out]
  obtain ⟨T, hT⟩ : ∃ T, T = ev BW L + ev BW M := ⟨_, rfl⟩
  rw [← hT] at HD ⊢
  obtain ⟨n, hn⟩ : ∃ n, n = L.length := ⟨_, rfl⟩
  have HN := Aside0.mk hn
  rw [← hn] at hlen hbig HD ⊢
  clear HT HE hx hy hz hL hM hML hT hn
  go_enter Tryz.func104, Tryz.ntmps104
  go_wp2_with (fail)
  go_loopw [6, 25] (fun v6 v25 wr => ∃ (i : Nat) (c : Int), i ≤ n ∧ v25 = .int .i64 (i : Int) ∧ v6 = .int .u64 c ∧ Aside0 (c = cy (lin 1 L M) 0 i) ∧ Aside0 (hp wr mz = some (.cells (u64s (upd Z oz 0 i T)) t (0, 0))) ∧ Aside0 (Kept (On mz) w wr)) (fun _ v _ => n - (intOf v).toNat)
  case atStart => exact ⟨0, 0, by omega, rfl, rfl, ⟨by simp [cy]⟩, ⟨by rw [upd_none _ _ _ _ _ (Nat.le_refl _)]; exact HZ.out⟩, ⟨Kept.refl _ _⟩⟩
  case round =>
    obtain ⟨i, c, hi, rfl, rfl, HC, HO, HK⟩ := hrel
    by_cases hik : i < n
    · have hx1 := lies_at HX.out HZ.out HN.out.symm hlen HK.out HO.out hik
      have hy1 := lies_at HY.out HZ.out (HML.out.trans HN.out.symm) hlen HK.out HO.out hik
      have hc1 := (blk_cell HO.out (oz + i)).trans (u64s_get _ (oz + i) (by rw [upd_len]; omega))
      have hf1 := blk_frozen HO.out (oz + i)
      have hd := HD.out i hik
      rw [← HC.out] at hd
      have hcr := HR.out i
      have hga := okd_get HLO.out BW_pos i
      have hgb := okd_get HMO.out BW_pos i
      obtain ⟨a, ha⟩ : ∃ a, a = L.getD i 0 := ⟨_, rfl⟩
      obtain ⟨b, hb⟩ : ∃ b, b = M.getD i 0 := ⟨_, rfl⟩
      obtain ⟨d, hdd⟩ : ∃ d, d = dg T i := ⟨_, rfl⟩
      obtain ⟨c2, hc2⟩ : ∃ c2, c2 = cy (lin 1 L M) 0 (i + 1) := ⟨_, rfl⟩
      rw [← ha] at hx1 hd hga
      rw [← hb] at hy1 hd hgb
      rw [← hdd, ← hc2] at hd
      have hA := Aside0.mk (fun w => bitsAddc_c a b c d c2 w hga.1 hgb.1 (by have := HC.out; omega) hd.1 hd.2)
      have HDD := Aside0.mk hdd
      have HC2 := Aside0.mk hc2
      have hnx : IntKind.i64.wrap ((i : Int) + 1) = (i : Int) + 1 := IntWalk.i64_in _ (by omega)
      clear hd hga hgb ha hb hdd hc2 hcr HC
      go_upto_region 6 with (fail)
      go_quiet ((go_at_call 105; exact Calls.quiet_of_same (hA.out _)))
      go_wp2_with (fail)
      go_roundw
      case measure => simp [intOf]; omega
      case rel =>
        refine ⟨i + 1, c2, by omega, by simp, rfl, HC2, ⟨?_⟩, ⟨?_⟩⟩
        · rw [hp_here _ _ _ _ _ rfl, hp_drewN, HO.out]
          simp only [Option.map_some, setObj_cells, u64s_set]
          rw [HDD.out, upd_up _ _ _ _ _ (by omega) (by omega)]
        · exact (Kept.drewN HK.out _).setCell (p := ⟨mz, oz + i, none⟩) (.inl rfl) _
    · obtain rfl : i = n := by omega
      clear hik
      go_wp2_with (fail)
      go_ret
      exact ⟨by rw [HC.out, HN.out]; rfl, HO.out, HK.out⟩
set_option maxHeartbeats 3200000 in
set_option maxRecDepth 100000 in
theorem subVV_g_c (mz oz cz mx ox cx my oy cy' : Nat) (Z L M : List Int) (t : TypeId) (w : World) (hz : hp w mz = some (.cells (u64s Z) t (0, 0))) (hlen : oz + L.length ≤ Z.length) (hML : M.length = L.length) (hx : Lies w mz oz mx ox L) (hy : Lies w mz oz my oy M) (hbig : L.length ≤ 100000000) (hL : okd BW L) (hM : okd BW M) :
    Calls Tryz.prog 106 #[.slice (some ⟨mz, oz, none⟩) L.length cz, .slice (some ⟨mx, ox, none⟩) L.length cx, .slice (some ⟨my, oy, none⟩) L.length cy'] w (ShiftPost w mz oz Z L.length (ev BW L - ev BW M) (-((ev BW L - ev BW M) / BW ^ L.length)) t) := by
  have HT : Aside0 (ev BW L - ev BW M = ev BW (lin (-1) L M) + 0) := ⟨by rw [lin_ev hML.symm]; omega⟩
  have HD : Aside0 (∀ i, i < L.length → dg (ev BW L - ev BW M) i = (L.getD i 0 - M.getD i 0 - -cy (lin (-1) L M) 0 i) % BW ∧ -cy (lin (-1) L M) 0 (i + 1) = -(((L.getD i 0 - M.getD i 0 - -cy (lin (-1) L M) 0 i) / BW))) := ⟨fun i hi => by
    rw [HT.out, gy_dg, cy_s, lin_get hi (by omega)]
    constructor <;> (congr 1; try omega) <;> (try (congr 1; omega))⟩
  have HR := Aside0.mk (fun i => gy_sub hL hM hML.symm i)
  have HE : Aside0 (-cy (lin (-1) L M) 0 (L.length) = -((ev BW L - ev BW M) / BW ^ L.length)) := ⟨by rw [HT.out]; have := gy_end (lin (-1) L M) 0; rw [lin_len hML.symm] at this; rw [this]⟩
  have HX := Aside0.mk hx
  have HY := Aside0.mk hy
  have HZ := Aside0.mk hz
  have HLO := Aside0.mk hL
  have HMO := Aside0.mk hM
  have HML := Aside0.mk hML
  rw [← HE.out]
  obtain ⟨T, hT⟩ : ∃ T, T = ev BW L - ev BW M := ⟨_, rfl⟩
  rw [← hT] at HD ⊢
  obtain ⟨n, hn⟩ : ∃ n, n = L.length := ⟨_, rfl⟩
  have HN := Aside0.mk hn
  rw [← hn] at hlen hbig HD ⊢
  clear HT HE hx hy hz hL hM hML hT hn
  go_enter Tryz.func106, Tryz.ntmps106
  go_wp2_with (fail)
  go_loopw [6, 25] (fun v6 v25 wr => ∃ (i : Nat) (c : Int), i ≤ n ∧ v25 = .int .i64 (i : Int) ∧ v6 = .int .u64 c ∧ Aside0 (c = -cy (lin (-1) L M) 0 i) ∧ Aside0 (hp wr mz = some (.cells (u64s (upd Z oz 0 i T)) t (0, 0))) ∧ Aside0 (Kept (On mz) w wr)) (fun _ v _ => n - (intOf v).toNat)
  case atStart => exact ⟨0, 0, by omega, rfl, rfl, ⟨by simp [cy]⟩, ⟨by rw [upd_none _ _ _ _ _ (Nat.le_refl _)]; exact HZ.out⟩, ⟨Kept.refl _ _⟩⟩
  case round =>
    obtain ⟨i, c, hi, rfl, rfl, HC, HO, HK⟩ := hrel
    by_cases hik : i < n
    · have hx1 := lies_at HX.out HZ.out HN.out.symm hlen HK.out HO.out hik
      have hy1 := lies_at HY.out HZ.out (HML.out.trans HN.out.symm) hlen HK.out HO.out hik
      have hc1 := (blk_cell HO.out (oz + i)).trans (u64s_get _ (oz + i) (by rw [upd_len]; omega))
      have hf1 := blk_frozen HO.out (oz + i)
      have hd := HD.out i hik
      rw [← HC.out] at hd
      have hcr := HR.out i
      have hga := okd_get HLO.out BW_pos i
      have hgb := okd_get HMO.out BW_pos i
      obtain ⟨a, ha⟩ : ∃ a, a = L.getD i 0 := ⟨_, rfl⟩
      obtain ⟨b, hb⟩ : ∃ b, b = M.getD i 0 := ⟨_, rfl⟩
      obtain ⟨d, hdd⟩ : ∃ d, d = dg T i := ⟨_, rfl⟩
      obtain ⟨c2, hc2⟩ : ∃ c2, c2 = -cy (lin (-1) L M) 0 (i + 1) := ⟨_, rfl⟩
      rw [← ha] at hx1 hd hga
      rw [← hb] at hy1 hd hgb
      rw [← hdd, ← hc2] at hd
      have hA := Aside0.mk (fun w => bitsSub_c a b c d c2 w hga hgb (by have := HC.out; omega) hd.1 hd.2)
      have HDD := Aside0.mk hdd
      have HC2 := Aside0.mk hc2
      have hnx : IntKind.i64.wrap ((i : Int) + 1) = (i : Int) + 1 := IntWalk.i64_in _ (by omega)
      clear hd hga hgb ha hb hdd hc2 hcr HC
      go_upto_region 6 with (fail)
      go_quiet ((go_at_call 107; exact Calls.quiet_of_same (hA.out _)))
      go_wp2_with (fail)
      go_roundw
      case measure => simp [intOf]; omega
      case rel =>
        refine ⟨i + 1, c2, by omega, by simp, rfl, HC2, ⟨?_⟩, ⟨?_⟩⟩
        · rw [hp_here _ _ _ _ _ rfl, hp_drewN, HO.out]
          simp only [Option.map_some, setObj_cells, u64s_set]
          rw [HDD.out, upd_up _ _ _ _ _ (by omega) (by omega)]
        · exact (Kept.drewN HK.out _).setCell (p := ⟨mz, oz + i, none⟩) (.inl rfl) _
    · obtain rfl : i = n := by omega
      clear hik
      go_wp2_with (fail)
      go_ret
      exact ⟨by rw [HC.out, HN.out]; rfl, HO.out, HK.out⟩
set_option maxHeartbeats 3200000 in
set_option maxRecDepth 100000 in
theorem mulAddVWW_g_c (mz oz cz mx ox cx : Nat) (Z L : List Int) (y r : Int) (t : TypeId) (w : World) (hz : hp w mz = some (.cells (u64s Z) t (0, 0))) (hlen : oz + L.length ≤ Z.length) (hx : Lies w mz oz mx ox L) (hbig : L.length ≤ 100000000) (hL : okd BW L) (hy : 0 ≤ y ∧ y < BW) (hr : 0 ≤ r ∧ r < BW) :
    Calls Tryz.prog 103 #[.slice (some ⟨mz, oz, none⟩) L.length cz, .slice (some ⟨mx, ox, none⟩) L.length cx, .int .u64 y, .int .u64 r] w (ShiftPost w mz oz Z L.length (ev BW L * y + r) ((ev BW L * y + r) / BW ^ L.length) t) := by
  have h0 : (List.replicate L.length (0 : Int)).length = L.length := List.length_replicate ..
  have HT : Aside0 (ev BW L * y + r = ev BW (lin y (List.replicate L.length 0) L) + r) := ⟨by rw [lin_ev h0, rep_ev, Int.mul_comm]; omega⟩
  have HD : Aside0 (∀ i, i < L.length → dg (ev BW L * y + r) i = (L.getD i 0 * y + cy (lin y (List.replicate L.length 0) L) r i) % BW ∧ cy (lin y (List.replicate L.length 0) L) r (i + 1) = (L.getD i 0 * y + cy (lin y (List.replicate L.length 0) L) r i) / BW) := ⟨fun i hi => by
    rw [HT.out, gy_dg, cy_s, lin_get (by rw [h0]; exact hi) hi]
    have e : (List.replicate L.length (0 : Int)).getD i 0 = 0 := by simp [List.getD, hi]
    rw [e, Int.zero_add, Int.mul_comm y]
    exact ⟨rfl, rfl⟩⟩
  have HR := Aside0.mk (fun i => gy_mul (okd_replicate L.length BW_pos) hL h0 hy hr i)
  have HE : Aside0 (cy (lin y (List.replicate L.length 0) L) r L.length = (ev BW L * y + r) / BW ^ L.length) := ⟨by rw [HT.out]; have := gy_end (lin y (List.replicate L.length 0) L) r; rw [lin_len h0, h0] at this; rw [this]⟩
  have HX := Aside0.mk hx
  have HZ := Aside0.mk hz
  have HLO := Aside0.mk hL
  have HY := Aside0.mk hy
  rw [← HE.out]
  obtain ⟨T, hT⟩ : ∃ T, T = ev BW L * y + r := ⟨_, rfl⟩
  rw [← hT] at HD ⊢
  obtain ⟨K, hK⟩ : ∃ K, K = cy (lin y (List.replicate L.length 0) L) r := ⟨_, rfl⟩
  rw [← hK] at HD HR HE ⊢
  have HK0 : Aside0 (r = K 0) := ⟨by rw [hK]; rfl⟩
  obtain ⟨n, hn⟩ : ∃ n, n = L.length := ⟨_, rfl⟩
  have HN := Aside0.mk hn
  rw [← hn] at hlen hbig HD ⊢
  clear HT HE hx hz hL hT hn hK h0 hy hr
  go_enter Tryz.func103, Tryz.ntmps103
  go_wp2_with (fail)
  go_loopw [8, 19] (fun v8 v19 wr => ∃ (i : Nat) (c : Int), i ≤ n ∧ v19 = .int .i64 (i : Int) ∧ v8 = .int .u64 c ∧ Aside0 (c = K i) ∧ Aside0 (hp wr mz = some (.cells (u64s (upd Z oz 0 i T)) t (0, 0))) ∧ Aside0 (Kept (On mz) w wr)) (fun _ v _ => n - (intOf v).toNat)
  case atStart => exact ⟨0, r, by omega, rfl, rfl, HK0, ⟨by rw [upd_none _ _ _ _ _ (Nat.le_refl _)]; exact HZ.out⟩, ⟨Kept.refl _ _⟩⟩
  case round =>
    obtain ⟨i, c, hi, rfl, rfl, HC, HO, HK⟩ := hrel
    by_cases hik : i < n
    · have hx1 := lies_at HX.out HZ.out HN.out.symm hlen HK.out HO.out hik
      have hc1 := (blk_cell HO.out (oz + i)).trans (u64s_get _ (oz + i) (by rw [upd_len]; omega))
      have hf1 := blk_frozen HO.out (oz + i)
      have hd := HD.out i hik
      rw [← HC.out] at hd
      have hcr := HR.out i
      rw [← HC.out] at hcr
      have hga := okd_get HLO.out BW_pos i
      obtain ⟨a, ha⟩ : ∃ a, a = L.getD i 0 := ⟨_, rfl⟩
      obtain ⟨d, hdd⟩ : ∃ d, d = dg T i := ⟨_, rfl⟩
      obtain ⟨c2, hc2⟩ : ∃ c2, c2 = K (i + 1) := ⟨_, rfl⟩
      rw [← ha] at hx1 hd hga
      rw [← hdd, ← hc2] at hd
      have hA := Aside0.mk (fun w => mulAddWWW_c a y c d c2 w hga HY.out hcr hd.1 hd.2)
      have HDD := Aside0.mk hdd
      have HC2 := Aside0.mk hc2
      have hnx : IntKind.i64.wrap ((i : Int) + 1) = (i : Int) + 1 := IntWalk.i64_in _ (by omega)
      clear hd hga ha hdd hc2 hcr HC
      go_wp2_with (go_at_call 118; refine (hA.out _).mono ?_; rintro e w' ⟨rfl, rfl⟩)
      go_roundw
      case measure => simp [intOf]; omega
      case rel =>
        refine ⟨i + 1, c2, by omega, by simp, rfl, HC2, ⟨?_⟩, ⟨?_⟩⟩
        · rw [hp_here _ _ _ _ _ rfl, HO.out]
          simp only [Option.map_some, setObj_cells, u64s_set]
          rw [HDD.out, upd_up _ _ _ _ _ (by omega) (by omega)]
        · exact HK.out.setCell (p := ⟨mz, oz + i, none⟩) (.inl rfl) _
    · obtain rfl : i = n := by omega
      clear hik
      go_wp2_with (fail)
      go_ret
      exact ⟨by rw [HC.out, HN.out]; rfl, HO.out, HK.out⟩
set_option maxHeartbeats 3200000 in
set_option maxRecDepth 100000 in
theorem addMulVVWW_g_c (mz oz cz mx ox cx my oy cy' : Nat) (Z L M : List Int) (y r : Int) (t : TypeId) (w : World) (hz : hp w mz = some (.cells (u64s Z) t (0, 0))) (hlen : oz + L.length ≤ Z.length) (hML : M.length = L.length) (hx : Lies w mz oz mx ox L) (hm : Lies w mz oz my oy M) (hbig : L.length ≤ 100000000) (hL : okd BW L) (hM : okd BW M) (hy : 0 ≤ y ∧ y < BW) (hr : 0 ≤ r ∧ r < BW) :
    Calls Tryz.prog 127 #[.slice (some ⟨mz, oz, none⟩) L.length cz, .slice (some ⟨mx, ox, none⟩) L.length cx, .slice (some ⟨my, oy, none⟩) L.length cy', .int .u64 y, .int .u64 r] w (ShiftPost w mz oz Z L.length (ev BW L + y * ev BW M + r) ((ev BW L + y * ev BW M + r) / BW ^ L.length) t) := by
  have HT : Aside0 (ev BW L + y * ev BW M + r = ev BW (lin y L M) + r) := ⟨by rw [lin_ev hML.symm]⟩
  have HD : Aside0 (∀ i, i < L.length → dg (ev BW L + y * ev BW M + r) i = (M.getD i 0 * y + L.getD i 0 + cy (lin y L M) r i) % BW ∧ cy (lin y L M) r (i + 1) = (M.getD i 0 * y + L.getD i 0 + cy (lin y L M) r i) / BW) := ⟨fun i hi => by
    rw [HT.out, gy_dg, cy_s, lin_get hi (by omega), Int.mul_comm y, Int.add_comm (L.getD i 0)]
    exact ⟨rfl, rfl⟩⟩
  have HR := Aside0.mk (fun i => gy_mul hL hM hML.symm hy hr i)
  have HE : Aside0 (cy (lin y L M) r L.length = (ev BW L + y * ev BW M + r) / BW ^ L.length) := ⟨by rw [HT.out]; have := gy_end (lin y L M) r; rw [lin_len hML.symm] at this; rw [this]⟩
  have HX := Aside0.mk hx
  have HMM := Aside0.mk hm
  have HZ := Aside0.mk hz
  have HLO := Aside0.mk hL
  have HMO := Aside0.mk hM
  have HML := Aside0.mk hML
  have HY := Aside0.mk hy
  rw [← HE.out]
  obtain ⟨T, hT⟩ : ∃ T, T = ev BW L + y * ev BW M + r := ⟨_, rfl⟩
  rw [← hT] at HD ⊢
  obtain ⟨K, hK⟩ : ∃ K, K = cy (lin y L M) r := ⟨_, rfl⟩
  rw [← hK] at HD HR HE ⊢
  have HK0 : Aside0 (r = K 0) := ⟨by rw [hK]; rfl⟩
  obtain ⟨n, hn⟩ : ∃ n, n = L.length := ⟨_, rfl⟩
  have HN := Aside0.mk hn
  rw [← hn] at hlen hbig HD ⊢
  clear HT HE hx hm hz hL hM hML hT hn hK hy hr
  go_enter Tryz.func127, Tryz.ntmps127
  go_wp2_with (fail)
  go_loopw [10, 32] (fun v10 v32 wr => ∃ (i : Nat) (c : Int), i ≤ n ∧ v32 = .int .i64 (i : Int) ∧ v10 = .int .u64 c ∧ Aside0 (c = K i) ∧ Aside0 (hp wr mz = some (.cells (u64s (upd Z oz 0 i T)) t (0, 0))) ∧ Aside0 (Kept (On mz) w wr)) (fun _ v _ => n - (intOf v).toNat)
  case atStart => exact ⟨0, r, by omega, rfl, rfl, HK0, ⟨by rw [upd_none _ _ _ _ _ (Nat.le_refl _)]; exact HZ.out⟩, ⟨Kept.refl _ _⟩⟩
  case round =>
    obtain ⟨i, c, hi, rfl, rfl, HC, HO, HK⟩ := hrel
    by_cases hik : i < n
    · have hx1 := lies_at HX.out HZ.out HN.out.symm hlen HK.out HO.out hik
      have hm1 := lies_at HMM.out HZ.out (HML.out.trans HN.out.symm) hlen HK.out HO.out hik
      have hc1 := (blk_cell HO.out (oz + i)).trans (u64s_get _ (oz + i) (by rw [upd_len]; omega))
      have hf1 := blk_frozen HO.out (oz + i)
      have hd := HD.out i hik
      rw [← HC.out] at hd
      have hcr := HR.out i
      rw [← HC.out] at hcr
      have hga := okd_get HLO.out BW_pos i
      have hgb := okd_get HMO.out BW_pos i
      obtain ⟨a, ha⟩ : ∃ a, a = L.getD i 0 := ⟨_, rfl⟩
      obtain ⟨b, hb⟩ : ∃ b, b = M.getD i 0 := ⟨_, rfl⟩
      obtain ⟨d, hdd⟩ : ∃ d, d = dg T i := ⟨_, rfl⟩
      obtain ⟨c2, hc2⟩ : ∃ c2, c2 = K (i + 1) := ⟨_, rfl⟩
      rw [← ha] at hx1 hd hga
      rw [← hb] at hm1 hd hgb
      rw [← hdd, ← hc2] at hd
      have hmw := mul_word hgb HY.out hga
      have hmw2 := mul_word2 hgb HY.out hga hcr
      rw [← hd.2] at hmw2
      have hpt := c_parts (b * y + a) c
      rw [← hd.1, ← hd.2] at hpt
      have hz0 := Int.emod_nonneg (b * y + a) (Int.ne_of_gt BW_pos)
      obtain ⟨z1, hz1⟩ : ∃ z1, z1 = (b * y + a) / BW := ⟨_, rfl⟩
      obtain ⟨z0, hz0'⟩ : ∃ z0, z0 = (b * y + a) % BW := ⟨_, rfl⟩
      have hA := Aside0.mk (fun w => mulAddWWW_c b y a z0 z1 w hgb HY.out hga hz0' hz1)
      rw [← hz1, ← hz0'] at hpt
      rw [← hz0'] at hz0
      have hB0 := fun w => bitsAdd_c z0 c w hz0 hcr.1
      obtain ⟨cc, hcc⟩ : ∃ cc, cc = (z0 + c) / BW := ⟨_, rfl⟩
      rw [hpt.1, ← hcc] at hB0
      have hB := Aside0.mk hB0
      rw [← hcc] at hpt
      have hsum : IntKind.u64.wrap (cc + z1) = c2 := by
        rw [show cc + z1 = c2 by rw [← hpt.2]; omega]
        exact wrap_u64 hmw2.1 (by rw [← BW_def]; exact hmw2.2)
      have HDD := Aside0.mk hdd
      have HC2 := Aside0.mk hc2
      have hnx : IntKind.i64.wrap ((i : Int) + 1) = (i : Int) + 1 := IntWalk.i64_in _ (by omega)
      clear hd hga hgb ha hb hdd hc2 hcr HC hmw hmw2 hpt hz0 hz1 hz0' hB0 hcc
      go_upto_region 7 with (fail)
      go_quiet ((go_at_call 118; exact Calls.quiet_of_same (hA.out _)))
      go_wp2_with (go_at_call 105; refine (hB.out _).mono ?_; rintro e w' ⟨rfl, rfl⟩)
      go_roundw
      case measure => simp [intOf]; omega
      case rel =>
        refine ⟨i + 1, c2, by omega, by simp, rfl, HC2, ⟨?_⟩, ⟨?_⟩⟩
        · rw [hp_here _ _ _ _ _ rfl, hp_drewN, HO.out]
          simp only [Option.map_some, setObj_cells, u64s_set]
          rw [HDD.out, upd_up _ _ _ _ _ (by omega) (by omega)]
        · exact (Kept.drewN HK.out _).setCell (p := ⟨mz, oz + i, none⟩) (.inl rfl) _
    · obtain rfl : i = n := by omega
      clear hik
      go_wp2_with (fail)
      go_ret
      exact ⟨by rw [HC.out, HN.out]; rfl, HO.out, HK.out⟩
theorem addVV_c (mz oz cz mx ox cx my oy cy' : Nat) (Z L M : List Int) (t : TypeId) (w : World) (hz : hp w mz = some (.cells (u64s Z) t (0, 0))) (hlen : oz + L.length ≤ Z.length) (hML : M.length = L.length) (hx : Lies w mz oz mx ox L) (hy : Lies w mz oz my oy M) (hbig : L.length ≤ 100000000) (hL : okd BW L) (hM : okd BW M) :
    Calls Tryz.prog 84 #[.slice (some ⟨mz, oz, none⟩) L.length cz, .slice (some ⟨mx, ox, none⟩) L.length cx, .slice (some ⟨my, oy, none⟩) L.length cy'] w (ShiftPost w mz oz Z L.length (ev BW L + ev BW M) ((ev BW L + ev BW M) / BW ^ L.length) t) := by
  have H := Aside0.mk (addVV_g_c mz oz cz mx ox cx my oy cy' Z L M t w hz hlen hML hx hy hbig hL hM)
  obtain ⟨T, hT⟩ : ∃ T, T = ev BW L + ev BW M := ⟨_, rfl⟩
  obtain ⟨C, hC⟩ : ∃ C, C = (ev BW L + ev BW M) / BW ^ L.length := ⟨_, rfl⟩
  rw [← hC, ← hT] at H ⊢
  clear hT hC hz hx
  go_enter Tryz.func84, Tryz.ntmps84
  go_wp2_with (go_at_call 104; refine (H.out).mono ?_; rintro e w' ⟨rfl, h1, h2⟩; have H1 := Aside0.mk h1; have H2 := Aside0.mk h2; clear h1 h2)
  go_ret
  exact ⟨rfl, H1.out, H2.out⟩
theorem subVV_c (mz oz cz mx ox cx my oy cy' : Nat) (Z L M : List Int) (t : TypeId) (w : World) (hz : hp w mz = some (.cells (u64s Z) t (0, 0))) (hlen : oz + L.length ≤ Z.length) (hML : M.length = L.length) (hx : Lies w mz oz mx ox L) (hy : Lies w mz oz my oy M) (hbig : L.length ≤ 100000000) (hL : okd BW L) (hM : okd BW M) :
    Calls Tryz.prog 86 #[.slice (some ⟨mz, oz, none⟩) L.length cz, .slice (some ⟨mx, ox, none⟩) L.length cx, .slice (some ⟨my, oy, none⟩) L.length cy'] w (ShiftPost w mz oz Z L.length (ev BW L - ev BW M) (-((ev BW L - ev BW M) / BW ^ L.length)) t) := by
  have H := Aside0.mk (subVV_g_c mz oz cz mx ox cx my oy cy' Z L M t w hz hlen hML hx hy hbig hL hM)
  obtain ⟨T, hT⟩ : ∃ T, T = ev BW L - ev BW M := ⟨_, rfl⟩
  obtain ⟨C, hC⟩ : ∃ C, C = -((ev BW L - ev BW M) / BW ^ L.length) := ⟨_, rfl⟩
  rw [← hC, ← hT] at H ⊢
  clear hT hC hz hx
  go_enter Tryz.func86, Tryz.ntmps86
  go_wp2_with (go_at_call 106; refine (H.out).mono ?_; rintro e w' ⟨rfl, h1, h2⟩; have H1 := Aside0.mk h1; have H2 := Aside0.mk h2; clear h1 h2)
  go_ret
  exact ⟨rfl, H1.out, H2.out⟩
theorem mulAddVWW_c (mz oz cz mx ox cx : Nat) (Z L : List Int) (y r : Int) (t : TypeId) (w : World) (hz : hp w mz = some (.cells (u64s Z) t (0, 0))) (hlen : oz + L.length ≤ Z.length) (hx : Lies w mz oz mx ox L) (hbig : L.length ≤ 100000000) (hL : okd BW L) (hy : 0 ≤ y ∧ y < BW) (hr : 0 ≤ r ∧ r < BW) :
    Calls Tryz.prog 83 #[.slice (some ⟨mz, oz, none⟩) L.length cz, .slice (some ⟨mx, ox, none⟩) L.length cx, .int .u64 y, .int .u64 r] w (ShiftPost w mz oz Z L.length (ev BW L * y + r) ((ev BW L * y + r) / BW ^ L.length) t) := by
  have H := Aside0.mk (mulAddVWW_g_c mz oz cz mx ox cx Z L y r t w hz hlen hx hbig hL hy hr)
  obtain ⟨T, hT⟩ : ∃ T, T = ev BW L * y + r := ⟨_, rfl⟩
  obtain ⟨C, hC⟩ : ∃ C, C = (ev BW L * y + r) / BW ^ L.length := ⟨_, rfl⟩
  rw [← hC, ← hT] at H ⊢
  clear hT hC hz hx
  go_enter Tryz.func83, Tryz.ntmps83
  go_wp2_with (go_at_call 103; refine (H.out).mono ?_; rintro e w' ⟨rfl, h1, h2⟩; have H1 := Aside0.mk h1; have H2 := Aside0.mk h2; clear h1 h2)
  go_ret
  exact ⟨rfl, H1.out, H2.out⟩
theorem addMulVVWW_c (mz oz cz mx ox cx my oy cy' : Nat) (Z L M : List Int) (y r : Int) (t : TypeId) (w : World) (hz : hp w mz = some (.cells (u64s Z) t (0, 0))) (hlen : oz + L.length ≤ Z.length) (hML : M.length = L.length) (hx : Lies w mz oz mx ox L) (hm : Lies w mz oz my oy M) (hbig : L.length ≤ 100000000) (hL : okd BW L) (hM : okd BW M) (hy : 0 ≤ y ∧ y < BW) (hr : 0 ≤ r ∧ r < BW) :
    Calls Tryz.prog 123 #[.slice (some ⟨mz, oz, none⟩) L.length cz, .slice (some ⟨mx, ox, none⟩) L.length cx, .slice (some ⟨my, oy, none⟩) L.length cy', .int .u64 y, .int .u64 r] w (ShiftPost w mz oz Z L.length (ev BW L + y * ev BW M + r) ((ev BW L + y * ev BW M + r) / BW ^ L.length) t) := by
  have H := Aside0.mk (addMulVVWW_g_c mz oz cz mx ox cx my oy cy' Z L M y r t w hz hlen hML hx hm hbig hL hM hy hr)
  obtain ⟨T, hT⟩ : ∃ T, T = ev BW L + y * ev BW M + r := ⟨_, rfl⟩
  obtain ⟨C, hC⟩ : ∃ C, C = (ev BW L + y * ev BW M + r) / BW ^ L.length := ⟨_, rfl⟩
  rw [← hC, ← hT] at H ⊢
  clear hT hC hz hx
  go_enter Tryz.func123, Tryz.ntmps123
  go_wp2_with (go_at_call 127; refine (H.out).mono ?_; rintro e w' ⟨rfl, h1, h2⟩; have H1 := Aside0.mk h1; have H2 := Aside0.mk h2; clear h1 h2)
  go_ret
  exact ⟨rfl, H1.out, H2.out⟩
end Go.Proofs.YtgpgacnnkjiadaaGreatDoor.Sp
