/-
  Several texts in one (merged by program).
-/
import Derived.Test.YtgpgacnnkjiadaaGreatDoorVvC
import Derived.Test.YtgpgacnnkjiadaaGreatDoorMVv
import Derived.Deep.DeepCutAuto
import Derived.Deep.CutBlock
import Derived.Test.YtgpgacnnkjiadaaGreatDoorNat2
/-! ## DivC -/
section
namespace Go.Proofs.YtgpgacnnkjiadaaGreatDoor.Sp
open Go.RowKit Go.Proofs.YtgpgacnnkjiadaaGreatDoorW.PrintWords Go.Proofs.YtgpgacnnkjiadaaGreatDoorW.PrintLast Go.Proofs.YtgpgacnnkjiadaaGreatDoorW.PrintMore Go.Proofs.YtgpgacnnkjiadaaGreatDoor.Dig
set_option linter.unusedVariables false
set_option linter.unusedSimpArgs false
theorem lz64_c (x : Int) (t : Nat) (w : World) (hx : 0 ≤ x ∧ x < BW) (ht : Bits x t) : Calls Tryz.prog 124 #[.int .u64 x] w fun e w' => e = .returned (.int .i64 ((64 - t : Nat) : Int)) ∧ w' = w := by
  have h1 := Sh.bits_LeadingZeros64 x w hx.1 (by have := BW_def; omega)
  have ht2 : Lib.bitLen x.toNat = t := (bitLen_int hx.1 hx.2).uniq ht
  have hle : t ≤ 64 := ht.le (by rw [← BW_two]; exact hx.2)
  rw [ht2, show (64 - (t : Int)) = ((64 - t : Nat) : Int) by omega] at h1
  exact h1
/-- What a word is joined of, where the shift may be none. -/
theorem or_shl' (a b : Int) (s : Nat) (hs : s < 64) (ha : 0 ≤ a ∧ a < BW) (hb : 0 ≤ b ∧ b < BW) (hab : a * 2 ^ s < BW) : Go.bits .or .u64 (IntKind.u64.wrap (a * 2 ^ s)) (b / 2 ^ (64 - s)) = a * 2 ^ s + b / 2 ^ (64 - s) := by
  by_cases h0 : s = 0
  · subst h0
    have e1 : b / 2 ^ (64 - 0) = 0 := by rw [Nat.sub_zero, ← BW_two]; exact Int.ediv_eq_zero_of_lt hb.1 hb.2
    rw [e1, Int.pow_zero, Int.mul_one, wrap_u64 ha.1 (by rw [← BW_def]; exact ha.2), Int.add_zero]
    have := or64_join 0 a 0 ha.1 (by simp [Int.emod_one]) (by rw [← BW_def]; exact ha.2) (Int.le_refl _) (by decide) (by decide)
    rw [or64_comm _ _ (Int.le_refl _) (by decide) ha.1 (by rw [← BW_def]; exact ha.2)] at this
    rw [this, Int.zero_add]
  · rw [or_shl a b s (by omega) ha hb, Int.emod_eq_of_lt (Int.mul_nonneg ha.1 (Int.le_of_lt (tp s))) hab]
theorem mask32 (x : Int) (h0 : 0 ≤ x) (h1 : x < BW) : Go.bits .and .u64 x 4294967295 = x % 4294967296 := by
  have := BW_def
  rw [u64_and _ _ (by omega) (by omega) (by omega) (by omega)]
  show ((x.toNat &&& 4294967295 : Nat) : Int) = _
  rw [nat_mask32]
  omega
theorem div64_scale {hi lo u l : Int} {s : Nat} (hs : s ≤ 64) (hu : u = hi * 2 ^ s + lo / 2 ^ (64 - s)) (hlw : l = lo * 2 ^ s % BW) : (hi * BW + lo) * 2 ^ s = u * BW + l := by
  have h1 := Int.emod_add_mul_ediv (lo * 2 ^ s) BW
  have h2 : lo * 2 ^ s / BW = lo / 2 ^ (64 - s) := by
    rw [← two64 s hs, Int.mul_comm (2 ^ s) (2 ^ (64 - s)), Int.mul_ediv_mul_of_pos_left _ _ (tp s)]
  rw [h2, ← hlw] at h1
  rw [Int.add_mul, ← h1, hu, Int.add_mul, Int.mul_right_comm, Int.mul_comm BW]
  omega
theorem div64_fin {hi lo y u l Y T1 T2 r1 : Int} {s : Nat} (hs : s ≤ 64) (hy : 0 < y) (hY : Y = y * 2 ^ s) (hu : u = hi * 2 ^ s + lo / 2 ^ (64 - s)) (hlw : l = lo * 2 ^ s % BW) (hl0 : 0 ≤ l)
    (hT1 : T1 = (u * 4294967296 + l / 4294967296) / Y) (hr1 : r1 = u * 4294967296 + l / 4294967296 - T1 * Y) (hT2 : T2 = (r1 * 4294967296 + l % 4294967296) / Y) :
    T1 * 4294967296 + T2 = (hi * BW + lo) / y ∧ r1 * 4294967296 + l % 4294967296 - T2 * Y = (hi * BW + lo) % y * 2 ^ s := by
  have hY0 : 0 < Y := by rw [hY]; exact Int.mul_pos hy (tp s)
  have h := two_steps (B := 4294967296) (u := u) (y := Y) (u1 := l / 4294967296) (u0 := l % 4294967296) (q1 := T1) (q0 := T2) (r1 := r1) (by omega) hY0 (by omega) hT1 hr1 hT2
  have e : u * 4294967296 * 4294967296 + l / 4294967296 * 4294967296 + l % 4294967296 = (hi * BW + lo) * 2 ^ s := by
    rw [div64_scale hs hu hlw, BW_def]
    omega
  rw [e, hY, Int.mul_ediv_mul_of_pos_left _ _ (tp s)] at h
  obtain ⟨z, hz⟩ : ∃ z, z = hi * BW + lo := ⟨_, rfl⟩
  rw [← hz] at h ⊢
  have e2 : z * 2 ^ s % (y * 2 ^ s) = z % y * 2 ^ s := by rw [Int.mul_comm z, Int.mul_comm y, Int.mul_emod_mul_of_pos _ _ (tp s), Int.mul_comm]
  rw [e2] at h
  rw [hY]
  exact ⟨h.1.symm, h.2.symm⟩
theorem est_w {u y1 y0 u1 : Int} (h : EstH 4294967296 u y1 y0 u1) : IntKind.u64.wrap (u - IntKind.u64.wrap (u / y1 * y1)) = u - u / y1 * y1 ∧ u - u / y1 * y1 < 4294967296 := by
  have hy1 : 0 < y1 := by have := h.y1h; omega
  have hm := Int.emod_add_mul_ediv u y1
  have hr0 := Int.emod_nonneg u (Int.ne_of_gt hy1)
  have hr1 := Int.emod_lt_of_pos u hy1
  have e1 : u / y1 * y1 = y1 * (u / y1) := Int.mul_comm ..
  have h1 := h.u0
  have h2 := h.ul
  have h3 := h.y1l
  have h4 := h.y0l
  have h5 : 0 ≤ u / y1 * y1 := Int.mul_nonneg (Int.ediv_nonneg h1 (Int.le_of_lt hy1)) (Int.le_of_lt hy1)
  have h6 : IntKind.u64.wrap (u / y1 * y1) = u / y1 * y1 := wrap_u64 h5 (by omega)
  rw [h6, wrap_u64 (by omega) (by omega)]
  exact ⟨rfl, by omega⟩
set_option maxHeartbeats 3200000 in
set_option maxRecDepth 100000 in
theorem bitsDiv64_c (hi lo y : Int) (w : World) (hh : 0 < hi ∧ hi < y) (hl : 0 ≤ lo ∧ lo < BW) (hy : y < BW) :
    Calls Tryz.prog 113 #[.int .u64 hi, .int .u64 lo, .int .u64 y] w fun e w' => e = .returned (.tuple #[.int .u64 ((hi * BW + lo) / y), .int .u64 ((hi * BW + lo) % y)]) ∧ w' = w := by
  obtain ⟨t, ht⟩ := Bits.exists y (by omega)
  have htp := ht.pos (by omega)
  have hle : t ≤ 64 := ht.le (by rw [← BW_two]; exact hy)
  obtain ⟨s, hs⟩ : ∃ s, s = 64 - t := ⟨_, rfl⟩
  have HLZ := Aside0.mk (fun w => lz64_c y t w ⟨by omega, hy⟩ ht)
  rw [← hs] at HLZ
  have hs64 : s < 64 := by omega
  obtain ⟨Y, hY⟩ : ∃ Y, Y = y * 2 ^ s := ⟨_, rfl⟩
  have hYl : Y < 18446744073709551616 := by
    have := Int.mul_lt_mul_of_pos_right ht.2.1 (tp s)
    rw [← Int.pow_add, show t + s = 64 by omega, ← BW_two, BW_def, ← hY] at this
    exact this
  have hYh : 9223372036854775808 ≤ Y := by
    rcases ht.2.2 with h | h
    · omega
    · have := Int.mul_le_mul_of_nonneg_right h (Int.le_of_lt (tp s))
      rw [← Int.pow_add, show t - 1 + s = 63 by omega, ← hY] at this
      exact this
  have hhy := Int.mul_le_mul_of_nonneg_right (show hi + 1 ≤ y by omega) (Int.le_of_lt (tp s))
  rw [Int.add_mul, Int.one_mul, ← hY] at hhy
  have hlo : lo / 2 ^ (64 - s) < 2 ^ s := by
    apply Int.ediv_lt_of_lt_mul (tp _)
    rw [two64 s (by omega)]; exact hl.2
  have hlo0 : 0 ≤ lo / 2 ^ (64 - s) := Int.ediv_nonneg hl.1 (Int.le_of_lt (tp _))
  have hB := BW_def
  have hor := or_shl' hi lo s hs64 ⟨by omega, by omega⟩ hl (by omega)
  obtain ⟨u, hu⟩ : ∃ u, u = hi * 2 ^ s + lo / 2 ^ (64 - s) := ⟨_, rfl⟩
  obtain ⟨l, hlw⟩ : ∃ l, l = lo * 2 ^ s % BW := ⟨_, rfl⟩
  have hwl : IntKind.u64.wrap (lo * 2 ^ s) = l := by rw [IntKind.wrap_u64, hlw, hB]
  have hwy : IntKind.u64.wrap (y * 2 ^ s) = Y := by rw [← hY]; exact wrap_u64 (by omega) hYl
  have hl0 : 0 ≤ l := by rw [hlw]; exact Int.emod_nonneg _ (by omega)
  have hl1 : l < BW := by rw [hlw]; exact Int.emod_lt_of_pos _ (by omega)
  have hu0 : 0 ≤ u := by rw [hu]; have := Int.mul_nonneg (show 0 ≤ hi by omega) (Int.le_of_lt (tp s)); omega
  have huY : u < Y := by rw [hu]; omega
  rw [← hu] at hor
  have hm1 := mask32 Y (by omega) (by omega)
  have hm2 := mask32 l hl0 hl1
  obtain ⟨y1, hy1⟩ : ∃ y1, y1 = Y / 4294967296 := ⟨_, rfl⟩
  obtain ⟨y0, hy0⟩ : ∃ y0, y0 = Y % 4294967296 := ⟨_, rfl⟩
  obtain ⟨l1, hl1'⟩ : ∃ l1, l1 = l / 4294967296 := ⟨_, rfl⟩
  obtain ⟨l0, hl0'⟩ : ∃ l0, l0 = l % 4294967296 := ⟨_, rfl⟩
  have hh0 : (hi == 0) = false := by rw [beq_eq_false_iff_ne]; omega
  have hyz : (y == 0) = false := by rw [beq_eq_false_iff_ne]; omega
  have HWL := Aside0.mk hlw
  have HU := Aside0.mk hu
  have HY := Aside0.mk hY
  clear hs ht htp hle hhy hlo hlo0 hlw hu hY hB
  have hd64 : (64 - (s : Int)) = ((64 - s : Nat) : Int) := by omega
  go_enter Tryz.func113, Tryz.ntmps113
  go_upto_block 0 with (go_at_call 124; refine (HLZ.out _).mono ?_; rintro e w' ⟨rfl, rfl⟩)
  have HH : Aside0 (EstH 4294967296 u (Y / 4294967296) (Y % 4294967296) (l / 4294967296)) := ⟨by have := BW_def; constructor <;> omega⟩
  have HS1 := Aside0.mk (Est.start HH.out)
  obtain ⟨T1, hT1⟩ : ∃ T1, T1 = (u * 4294967296 + l / 4294967296) / (Y / 4294967296 * 4294967296 + Y % 4294967296) := ⟨_, rfl⟩
  have HT1 := Aside0.mk hT1
  go_cut [15] (fun v15 wx => v15 = .int .u64 T1 ∧ w' = wx)
  case first =>
    go_wp2_with (fail)
    go_loop [15, 16] (fun v15 v16 => ∃ q r : Int, v15 = .int .u64 q ∧ v16 = .int .u64 r ∧ Aside0 (Est 4294967296 u (Y / 4294967296) (Y % 4294967296) (l / 4294967296) q r) ∧ r < 4294967296) (fun _ v => (4294967296 - intOf v).toNat)
    case atStart => exact ⟨_, _, rfl, rfl, ⟨by rw [(est_w HH.out).1]; exact HS1.out⟩, by rw [(est_w HH.out).1]; exact (est_w HH.out).2⟩
    case round =>
      obtain ⟨q, r, rfl, rfl, HE, hr⟩ := hrel
      have hsm := HE.out.small HH.out hr
      have hr0 := HE.out.r0
      have hqB := HE.out.le
      have hC1 : IntKind.u64.wrap (4294967296 * r) = 4294967296 * r := wrap_u64 (by omega) (by omega)
      have hC2 : IntKind.u64.wrap (4294967296 * r + (l / 4294967296)) = 4294967296 * r + (l / 4294967296) := wrap_u64 (by omega) (by omega)
      obtain ⟨a, ha⟩ : ∃ a, a = q * (Y % 4294967296) := ⟨_, rfl⟩
      rw [← ha] at hsm
      have hA1 : IntKind.u64.wrap (q * (Y % 4294967296)) = a := by rw [← ha]; exact wrap_u64 hsm.2.1 (by omega)
      have HA := Aside0.mk ha
      have hr3 : IntKind.u64.wrap (r + Y / 4294967296) = r + Y / 4294967296 := wrap_u64 (by omega) (by omega)
      by_cases hc : 4294967296 ≤ q ∨ 4294967296 * r + (l / 4294967296) < a
      · have HN := Aside0.mk (HE.out.next HH.out (by rcases hc with h | h; exact .inl h; exact .inr (by rw [← HA.out]; exact h)))
        have hq1 : IntKind.u64.wrap (q - 1) = q - 1 := wrap_u64 (by have := HN.out.ge; have := HH.out.q; omega) (by omega)
        clear hsm ha
        by_cases hb : 4294967296 ≤ r + Y / 4294967296
        · have HT := Aside0.mk (HN.out.brk HH.out (by omega) hb)
          rcases Int.lt_or_le q 4294967296 with hq | hq
          all_goals
            go_wp2_with (fail)
            all_goals first | (exfalso; omega) | skip
            go_meet
            case rel => exact ⟨by rw [HT.out, HT1.out], rfl⟩
        · rcases Int.lt_or_le q 4294967296 with hq | hq
          all_goals
            go_wp2_with (fail)
            all_goals first | (exfalso; omega) | skip
            go_round
            case rel => exact ⟨q - 1, r + Y / 4294967296, rfl, rfl, HN, by omega⟩
            case measure => simp [intOf]; omega
      · have HT := Aside0.mk (HE.out.stop HH.out (by rw [← HA.out]; omega))
        have hq : q < 4294967296 := by omega
        clear hsm ha
        go_wp2_with (fail)
        all_goals first | (exfalso; omega) | skip
        go_meet
        case rel => exact ⟨by rw [HT.out, HT1.out], rfl⟩
  case rest =>
    obtain ⟨rfl, rfl⟩ := hcut
    have hTq := HH.out.q
    have hTt := HH.out.t
    rw [← hT1] at hTq hTt
    have hYY : Y / 4294967296 * 4294967296 + Y % 4294967296 = Y := by omega
    rw [hYY] at hT1 hTt
    have hdm := Int.emod_add_mul_ediv (u * 4294967296 + l / 4294967296) Y
    have hdr := Int.emod_lt_of_pos (u * 4294967296 + l / 4294967296) (show 0 < Y by omega)
    rw [← hT1, Int.mul_comm Y T1] at hdm
    obtain ⟨r1, hr1⟩ : ∃ r1, r1 = u * 4294967296 + l / 4294967296 - T1 * Y := ⟨_, rfl⟩
    obtain ⟨a, ha⟩ : ∃ a, a = T1 * Y := ⟨_, rfl⟩
    rw [← ha] at hdm hr1 hTt
    have hr10 : 0 ≤ r1 ∧ r1 < Y := by omega
    have hw1 : IntKind.u64.wrap (IntKind.u64.wrap (IntKind.u64.wrap (u * 4294967296) + l / 4294967296) - IntKind.u64.wrap (T1 * Y)) = r1 := by
      rw [← ha]
      simp only [IntKind.wrap_u64]
      omega
    have HR1 := Aside0.mk hr1
    have HAA := Aside0.mk ha
    clear hdm hdr hTt hTq hT1 hr1 ha hYY HS1
    have HH2 : Aside0 (EstH 4294967296 r1 (Y / 4294967296) (Y % 4294967296) (l % 4294967296)) := ⟨by have := BW_def; constructor <;> omega⟩
    have HS2 := Aside0.mk (Est.start HH2.out)
    go_upto_block 2 with (fail)
    obtain ⟨T2, hT2⟩ : ∃ T2, T2 = (r1 * 4294967296 + l % 4294967296) / (Y / 4294967296 * 4294967296 + Y % 4294967296) := ⟨_, rfl⟩
    have HT2 := Aside0.mk hT2
    clear hT2
    go_cut [18] (fun v18 wx => v18 = .int .u64 T2 ∧ w' = wx)
    case first =>
      go_wp2_with (fail)
      go_loop [18, 16] (fun v18 v16 => ∃ q r : Int, v18 = .int .u64 q ∧ v16 = .int .u64 r ∧ Aside0 (Est 4294967296 r1 (Y / 4294967296) (Y % 4294967296) (l % 4294967296) q r) ∧ r < 4294967296) (fun _ v => (4294967296 - intOf v).toNat)
      case atStart => exact ⟨_, _, rfl, rfl, ⟨by rw [(est_w HH2.out).1]; exact HS2.out⟩, by rw [(est_w HH2.out).1]; exact (est_w HH2.out).2⟩
      case round =>
        obtain ⟨q, r, rfl, rfl, HE, hr⟩ := hrel
        have hsm := HE.out.small HH2.out hr
        have hr0 := HE.out.r0
        have hqB := HE.out.le
        have hC1 : IntKind.u64.wrap (4294967296 * r) = 4294967296 * r := wrap_u64 (by omega) (by omega)
        have hC2 : IntKind.u64.wrap (4294967296 * r + (l % 4294967296)) = 4294967296 * r + (l % 4294967296) := wrap_u64 (by omega) (by omega)
        obtain ⟨a, ha⟩ : ∃ a, a = q * (Y % 4294967296) := ⟨_, rfl⟩
        rw [← ha] at hsm
        have hA1 : IntKind.u64.wrap (q * (Y % 4294967296)) = a := by rw [← ha]; exact wrap_u64 hsm.2.1 (by omega)
        have HA := Aside0.mk ha
        have hr3 : IntKind.u64.wrap (r + Y / 4294967296) = r + Y / 4294967296 := wrap_u64 (by omega) (by omega)
        by_cases hc : 4294967296 ≤ q ∨ 4294967296 * r + (l % 4294967296) < a
        · have HN := Aside0.mk (HE.out.next HH2.out (by rcases hc with h | h; exact .inl h; exact .inr (by rw [← HA.out]; exact h)))
          have hq1 : IntKind.u64.wrap (q - 1) = q - 1 := wrap_u64 (by have := HN.out.ge; have := HH2.out.q; omega) (by omega)
          clear hsm ha
          by_cases hb : 4294967296 ≤ r + Y / 4294967296
          · have HT := Aside0.mk (HN.out.brk HH2.out (by omega) hb)
            rcases Int.lt_or_le q 4294967296 with hq | hq
            all_goals
              go_wp2_with (fail)
              all_goals first | (exfalso; omega) | skip
              go_meet
              case rel => exact ⟨by rw [HT.out, HT2.out], rfl⟩
          · rcases Int.lt_or_le q 4294967296 with hq | hq
            all_goals
              go_wp2_with (fail)
              all_goals first | (exfalso; omega) | skip
              go_round
              case rel => exact ⟨q - 1, r + Y / 4294967296, rfl, rfl, HN, by omega⟩
              case measure => simp [intOf]; omega
        · have HT := Aside0.mk (HE.out.stop HH2.out (by rw [← HA.out]; omega))
          have hq : q < 4294967296 := by omega
          clear hsm ha
          go_wp2_with (fail)
          all_goals first | (exfalso; omega) | skip
          go_meet
          case rel => exact ⟨by rw [HT.out, HT2.out], rfl⟩
    case rest =>
      obtain ⟨rfl, rfl⟩ := hcut
      go_wp2_with (fail)
      go_ret2
      have hyy : Y / 4294967296 * 4294967296 + Y % 4294967296 = Y := by omega
      have hT2q := HH2.out.q
      have hT2t := HH2.out.t
      have hT1q := HH.out.q
      have h1 := HT1.out
      have h2 := HT2.out
      rw [← h2] at hT2q hT2t
      rw [← h1] at hT1q
      rw [hyy] at h1 h2 hT2t
      have hf := div64_fin (hi := hi) (lo := lo) (y := y) (s := s) (by omega) (by omega) HY.out HU.out HWL.out hl0 h1 (by rw [← HAA.out]; exact HR1.out) h2
      have hrl : 0 ≤ (hi * BW + lo) % y * 2 ^ s := Int.mul_nonneg (Int.emod_nonneg _ (by omega)) (Int.le_of_lt (tp s))
      obtain ⟨b, hb⟩ : ∃ b, b = T2 * Y := ⟨_, rfl⟩
      rw [← hb] at hf hT2t
      have hr2 : r1 * 4294967296 + l % 4294967296 - b < Y := by
        have := Int.emod_lt_of_pos (r1 * 4294967296 + l % 4294967296) (show 0 < Y by omega)
        have e2 := Int.emod_add_mul_ediv (r1 * 4294967296 + l % 4294967296) Y
        rw [← h2, Int.mul_comm Y T2, ← hb] at e2
        omega
      have w1 : IntKind.u64.wrap (IntKind.u64.wrap (T1 * 4294967296) + T2) = T1 * 4294967296 + T2 := by
        simp only [IntKind.wrap_u64]
        omega
      have w2 : IntKind.u64.wrap (IntKind.u64.wrap (IntKind.u64.wrap (r1 * 4294967296) + l % 4294967296) - IntKind.u64.wrap (T2 * Y)) = r1 * 4294967296 + l % 4294967296 - b := by
        rw [← hb]
        simp only [IntKind.wrap_u64]
        omega
      refine ⟨?_, rfl⟩
      rw [← hf.1, ← w1, show (hi * BW + lo) % y = (r1 * 4294967296 + l % 4294967296 - b) / 2 ^ s by rw [hf.2, Int.mul_ediv_cancel _ (Int.ne_of_gt (tp s))], ← w2]
      rfl
/-! ### printed by gendivc.py -/
set_option maxHeartbeats 3200000 in
set_option maxRecDepth 100000 in
theorem bitsDiv64_0 (lo y : Int) (w : World) (hl : 0 ≤ lo ∧ lo < BW) (hy0 : 0 < y) (hy : y < BW) :
    Calls Tryz.prog 113 #[.int .u64 0, .int .u64 lo, .int .u64 y] w fun e w' => e = .returned (.tuple #[.int .u64 (lo / y), .int .u64 (lo % y)]) ∧ ∃ n, w' = w.drewN n := by
  have hyz : (y == 0) = false := by rw [beq_eq_false_iff_ne]; omega
  have hyl : decide (y ≤ 0) = false := decide_eq_false (by omega)
  have hl0 := hl.1
  have hqw : IntKind.u64.wrap (lo.tdiv y) = lo / y := by
    rw [Int.tdiv_eq_ediv_of_nonneg hl0]
    exact wrap_u64 (Int.ediv_nonneg hl0 (by omega)) (by have := Int.ediv_le_self y hl0; have := BW_def; omega)
  clear hl hy
  go_enter Tryz.func113, Tryz.ntmps113
  go_wp2_with (fail)
  go_quiet (fail)
  go_wp2_with (fail)
  go_ret2
  exact ⟨rfl, _, rfl⟩
set_option maxHeartbeats 3200000 in
set_option maxRecDepth 100000 in
theorem bitsDiv_c (hi lo y : Int) (w : World) (hh : 0 ≤ hi ∧ hi < y) (hl : 0 ≤ lo ∧ lo < BW) (hy : y < BW) :
    Calls Tryz.prog 90 #[.int .u64 hi, .int .u64 lo, .int .u64 y] w fun e w' => e = .returned (.tuple #[.int .u64 ((hi * BW + lo) / y), .int .u64 ((hi * BW + lo) % y)]) ∧ ∃ n, w' = w.drewN n := by
  have hB : Aside0 (∀ w, Calls Tryz.prog 113 #[.int .u64 hi, .int .u64 lo, .int .u64 y] w fun e w' => e = .returned (.tuple #[.int .u64 ((hi * BW + lo) / y), .int .u64 ((hi * BW + lo) % y)]) ∧ ∃ n, w' = w.drewN n) := ⟨fun w => by
    by_cases h0 : hi = 0
    · subst h0
      have := bitsDiv64_0 lo y w hl hh.2 hy
      rwa [Int.zero_mul, Int.zero_add]
    · refine (bitsDiv64_c hi lo y w ⟨by omega, hh.2⟩ hl hy).mono ?_
      rintro e w' ⟨he, rfl⟩
      exact ⟨he, 0, rfl⟩⟩
  obtain ⟨q, hq⟩ : ∃ q, q = (hi * BW + lo) / y := ⟨_, rfl⟩
  obtain ⟨r, hr⟩ : ∃ r, r = (hi * BW + lo) % y := ⟨_, rfl⟩
  rw [← hq, ← hr] at hB ⊢
  clear hq hr hh hl hy
  go_enter Tryz.func90, Tryz.ntmps90
  go_wp2_with (fail)
  refine (hB.out _).mono ?_
  rintro e w' ⟨rfl, n, rfl⟩
  go_wp2_with (fail)
  go_ret2
  exact ⟨rfl, n, rfl⟩
/-- The reciprocal of a word. -/
def recip (d : Int) : Int := (BW * BW - 1) / d - BW
theorem recip_b {d : Int} (h : BW ≤ 2 * d) (hd : d < BW) : 0 ≤ recip d ∧ recip d < BW := by
  have hB := BW_pos
  have hd0 : 0 < d := by omega
  have h1 : BW ≤ (BW * BW - 1) / d := by
    apply Int.le_ediv_of_mul_le hd0
    have := Int.mul_le_mul_of_nonneg_left (show d + 1 ≤ BW by omega) (Int.le_of_lt hB)
    rw [Int.mul_add, Int.mul_one] at this
    omega
  have h2 : (BW * BW - 1) / d < 2 * BW := by
    apply Int.ediv_lt_of_lt_mul hd0
    have := Int.mul_le_mul_of_nonneg_left h (Int.le_of_lt hB)
    rw [← Int.mul_assoc, Int.mul_comm BW 2] at this
    omega
  unfold recip
  omega
theorem norm_word {y : Int} {t : Nat} (hy0 : 0 < y) (hy : y < BW) (ht : Bits y t) : t ≤ 64 ∧ 1 ≤ t ∧ BW ≤ 2 * (y * 2 ^ (64 - t)) ∧ y * 2 ^ (64 - t) < BW := by
  have htp := ht.pos hy0
  have hle : t ≤ 64 := ht.le (by rw [← BW_two]; exact hy)
  have h1 := Int.mul_lt_mul_of_pos_right ht.2.1 (tp (64 - t))
  rw [← Int.pow_add, show t + (64 - t) = 64 by omega, ← BW_two] at h1
  have h2 : 2 ^ (t - 1) * 2 ^ (64 - t) ≤ y * 2 ^ (64 - t) := by
    rcases ht.2.2 with h | h
    · omega
    · exact Int.mul_le_mul_of_nonneg_right h (Int.le_of_lt (tp (64 - t)))
  rw [← Int.pow_add, show t - 1 + (64 - t) = 63 by omega] at h2
  have h3 : BW = 2 * 2 ^ 63 := by rw [BW_def]; decide
  exact ⟨hle, htp, by omega, h1⟩
theorem nat_not (n : Nat) (h : n < 18446744073709551616) : 18446744073709551615 ^^^ n = 18446744073709551615 - n := by
  have h1 : BitVec.allOnes 64 ^^^ BitVec.ofNat 64 n = ~~~ BitVec.ofNat 64 n := by
    apply BitVec.eq_of_getLsbD_eq
    intro i hi
    simp only [BitVec.getLsbD_xor, BitVec.getLsbD_allOnes, BitVec.getLsbD_not, hi, decide_true, Bool.true_xor, Bool.true_and]
  have h2 := congrArg BitVec.toNat h1
  rw [BitVec.toNat_xor, BitVec.toNat_not, BitVec.toNat_allOnes, BitVec.toNat_ofNat, Nat.mod_eq_of_lt h] at h2
  exact h2
theorem not_u64 (d : Int) (h0 : 0 ≤ d) (h1 : d < 18446744073709551616) : Go.bits .xor .u64 (if IntKind.u64.signed = true then -1 else IntKind.u64.max) d = 18446744073709551615 - d := by
  obtain ⟨n, rfl⟩ := Int.eq_ofNat_of_zero_le h0
  have h2 := u64_xor_nat 18446744073709551615 n (by omega) (by omega)
  rw [nat_not n (by omega)] at h2
  refine Eq.trans ?_ (h2.trans (by omega))
  rfl
set_option maxHeartbeats 3200000 in
set_option maxRecDepth 100000 in
theorem recip_c (y : Int) (t : Nat) (w : World) (hy0 : 0 < y) (hy : y < BW) (ht : Bits y t) :
    Calls Tryz.prog 91 #[.int .u64 y] w fun e w' => e = .returned (.int .u64 (recip (y * 2 ^ (64 - t)))) ∧ ∃ n, w' = w.drewN n := by
  obtain ⟨hle, htp, hdh, hdl⟩ := norm_word hy0 hy ht
  have HN := Aside0.mk (fun w => nlz_c y t w ⟨by omega, hy⟩ ht)
  obtain ⟨s, hs⟩ : ∃ s, s = 64 - t := ⟨_, rfl⟩
  rw [← hs] at HN hdh hdl ⊢
  have hs64 : s < 64 := by omega
  obtain ⟨d, hd⟩ : ∃ d, d = y * 2 ^ s := ⟨_, rfl⟩
  have hw : IntKind.u64.wrap (y * 2 ^ s) = d := by rw [hd]; exact wrap_u64 (Int.mul_nonneg (by omega) (Int.le_of_lt (tp s))) (by rw [← BW_def]; exact hdl)
  rw [← hd] at hdh hdl ⊢
  have hB := BW_def
  have HD := Aside0.mk (fun w => bitsDiv_c (18446744073709551615 - d) 18446744073709551615 d w (by omega) (by omega) hdl)
  have hr : ((18446744073709551615 - d) * BW + 18446744073709551615) / d = recip d := by
    unfold recip
    have e : (18446744073709551615 - d) * BW + 18446744073709551615 = (BW * BW - 1) + d * (-BW) := by
      rw [Int.sub_mul, Int.mul_neg, show (18446744073709551615 : Int) = BW - 1 by rw [BW_def]; rfl, Int.sub_mul, Int.one_mul]; omega
    rw [e, Int.add_mul_ediv_left _ _ (show d ≠ 0 by omega)]
    omega
  rw [hr] at HD
  obtain ⟨rc, hrc⟩ : ∃ rc, rc = recip d := ⟨_, rfl⟩
  obtain ⟨x, hx⟩ : ∃ x, x = ((18446744073709551615 - d) * BW + 18446744073709551615) % d := ⟨_, rfl⟩
  rw [← hrc, ← hx] at HD
  rw [← hrc]
  clear hs ht htp hle hd hr hx hrc
  have hd0 : 0 ≤ d := by omega
  have hd1 : d < 18446744073709551616 := by omega
  have hnx := not_u64 d hd0 hd1
  obtain ⟨nd, hnd⟩ : ∃ nd, nd = 18446744073709551615 - d := ⟨_, rfl⟩
  rw [← hnd] at HD hnx
  clear hdh hdl hB hnd
  go_enter Tryz.func91, Tryz.ntmps91
  go_wp2_with (go_at_call 66; refine (HN.out _).mono ?_; rintro e w' ⟨rfl, rfl⟩)
  refine (HD.out _).mono ?_
  rintro e w' ⟨rfl, n, rfl⟩
  go_wp2_with (fail)
  go_ret
  exact ⟨rfl, n, rfl⟩
end Go.Proofs.YtgpgacnnkjiadaaGreatDoor.Sp
end

/-! ## DivD -/
section
namespace Go.Proofs.YtgpgacnnkjiadaaGreatDoor.Sp
open Go.RowKit Go.Proofs.YtgpgacnnkjiadaaGreatDoorW.PrintWords Go.Proofs.YtgpgacnnkjiadaaGreatDoorW.PrintLast Go.Proofs.YtgpgacnnkjiadaaGreatDoorW.PrintMore Go.Proofs.YtgpgacnnkjiadaaGreatDoor.Dig
set_option linter.unusedVariables false
set_option linter.unusedSimpArgs false
/-- The digits that divWW reckons. -/
structure DivW (x1 x0 d m q r0 r1 b c t1 t0 e1 e0 : Int) : Prop where
  t1e : t1 = m * x1 / BW
  t0e : t0 = m * x1 % BW
  ce : c = (t0 + x0) / BW
  qe : q = (t1 + x1 + c) % BW
  e1e : e1 = d * q / BW
  e0e : e0 = d * q % BW
  r0e : r0 = (x0 - e0 - 0) % BW
  be : b = -((x0 - e0 - 0) / BW)
  r1e : r1 = (x1 - e1 - b) % BW
theorem divW_math {x1 x0 d m q r0 r1 b c t1 t0 e1 e0 : Int} (hd : BW ≤ 2 * d) (hdB : d < BW) (hm : m = recip d) (hx1 : 0 ≤ x1 ∧ x1 < d) (hx0 : 0 ≤ x0 ∧ x0 < BW) (h : DivW x1 x0 d m q r0 r1 b c t1 t0 e1 e0) :
    0 ≤ q ∧ q < BW ∧ 0 ≤ x1 * BW + x0 - d * q ∧ x1 * BW + x0 - d * q < BW + d ∧ r0 = (x1 * BW + x0 - d * q) % BW ∧ r1 = (x1 * BW + x0 - d * q) / BW ∧ 0 ≤ c ∧ c ≤ 1 ∧ 0 ≤ b ∧ b ≤ 1 := by
  have hB := BW_pos
  have hd0 : 0 < d := by omega
  have hg := rec_guess (K := (BW * BW - 1) / d) (q := ((BW * BW - 1) / d * x1 + x0) / BW) hB hd0 hdB rfl hx1 hx0 rfl
  have hK : (BW * BW - 1) / d = m + BW := by rw [hm]; unfold recip; omega
  rw [hK] at hg
  have hc := c_parts (m * x1) x0
  have hq1 : ((m + BW) * x1 + x0) / BW = t1 + x1 + c := by
    rw [Int.add_mul, show m * x1 + BW * x1 + x0 = (m * x1 + x0) + BW * x1 by omega, Int.add_mul_ediv_left _ _ (Int.ne_of_gt hB), ← hc.2, ← h.t1e, ← h.t0e, ← h.ce]
    omega
  rw [hq1] at hg
  have hq2 : q = t1 + x1 + c := by rw [h.qe, Int.emod_eq_of_lt hg.2.2.1 hg.2.2.2]
  rw [← hq2] at hg
  have ht0 := Int.emod_nonneg (m * x1) (Int.ne_of_gt hB)
  have ht1 := Int.emod_lt_of_pos (m * x1) hB
  rw [← h.t0e] at ht0 ht1
  have hc0 : 0 ≤ c := by rw [h.ce]; exact Int.ediv_nonneg (by omega) (Int.le_of_lt hB)
  have hc1 : c < 2 := by rw [h.ce]; exact Int.ediv_lt_of_lt_mul hB (by omega)
  have he := Int.emod_add_mul_ediv (d * q) BW
  rw [← h.e0e, ← h.e1e] at he
  have he0 := Int.emod_nonneg (d * q) (Int.ne_of_gt hB)
  have he1 := Int.emod_lt_of_pos (d * q) hB
  rw [← h.e0e] at he0 he1
  have hR : x1 * BW + x0 - d * q = (x0 - e0 - 0) + BW * (x1 - e1) := by rw [← he, Int.mul_sub, Int.mul_comm x1]; omega
  have hb0 : -1 ≤ (x0 - e0 - 0) / BW := Int.le_ediv_of_mul_le hB (by omega)
  have hb1 : (x0 - e0 - 0) / BW < 1 := Int.ediv_lt_of_lt_mul hB (by omega)
  have hbe := h.be
  have hr0 : r0 = (x1 * BW + x0 - d * q) % BW := by rw [h.r0e, hR, Int.add_mul_emod_self_left]
  have hr1 : (x1 * BW + x0 - d * q) / BW = x1 - e1 - b := by rw [hR, Int.add_mul_ediv_left _ _ (Int.ne_of_gt hB)]; omega
  have hr2 : 0 ≤ (x1 * BW + x0 - d * q) / BW := Int.ediv_nonneg hg.1 (Int.le_of_lt hB)
  have hr3 : (x1 * BW + x0 - d * q) / BW < 2 := Int.ediv_lt_of_lt_mul hB (by omega)
  refine ⟨hg.2.2.1, hg.2.2.2, hg.1, hg.2.1, hr0, ?_, hc0, by omega, by omega, by omega⟩
  rw [h.r1e, ← hr1, Int.emod_eq_of_lt hr2 (by have := BW_gt; omega)]
/-- What divWW ends with. -/
theorem divW_end {x1 x0 d q : Int} (hd : BW ≤ 2 * d) (hdB : d < BW) (hx1 : 0 ≤ x1 ∧ x1 < d) (hx0 : 0 ≤ x0 ∧ x0 < BW) (hq : 0 ≤ q ∧ q < BW) (h0 : 0 ≤ x1 * BW + x0 - d * q) (h1 : x1 * BW + x0 - d * q < BW + d) :
    (x1 * BW + x0) / d < BW ∧
    (BW ≤ x1 * BW + x0 - d * q → (x1 * BW + x0 - d * q - d < d → (x1 * BW + x0) / d = q + 1 ∧ (x1 * BW + x0) % d = x1 * BW + x0 - d * q - d) ∧ (d ≤ x1 * BW + x0 - d * q - d → (x1 * BW + x0) / d = q + 2 ∧ (x1 * BW + x0) % d = x1 * BW + x0 - d * q - d - d)) ∧
    (x1 * BW + x0 - d * q < BW → (x1 * BW + x0 - d * q < d → (x1 * BW + x0) / d = q ∧ (x1 * BW + x0) % d = x1 * BW + x0 - d * q) ∧ (d ≤ x1 * BW + x0 - d * q → (x1 * BW + x0) / d = q + 1 ∧ (x1 * BW + x0) % d = x1 * BW + x0 - d * q - d)) := by
  have hB := BW_pos
  have hd0 : 0 < d := by omega
  obtain ⟨x, hx⟩ : ∃ x, x = x1 * BW + x0 := ⟨_, rfl⟩
  obtain ⟨a, ha⟩ : ∃ a, a = d * q := ⟨_, rfl⟩
  rw [← hx, ← ha] at h0 h1
  rw [← hx, ← ha]
  have e1 : d * (q + 1) = a + d := by rw [Int.mul_add, Int.mul_one, ha]
  have e2 : d * (q + 2) = a + d + d := by rw [Int.mul_add, ha, Int.mul_comm d 2]; omega
  refine ⟨?_, fun h => ⟨fun g => ?_, fun g => ?_⟩, fun h => ⟨fun g => ?_, fun g => ?_⟩⟩
  · apply Int.ediv_lt_of_lt_mul hd0
    have := Int.mul_le_mul_of_nonneg_right (show x1 + 1 ≤ d by omega) (Int.le_of_lt hB)
    rw [Int.add_mul, Int.one_mul, Int.mul_comm d] at this
    omega
  · exact div_of hd0 (by omega) (by omega) (by omega)
  · exact div_of hd0 (by omega) (by omega) (by omega)
  · exact div_of hd0 (by omega) (by omega) (by omega)
  · exact div_of hd0 (by omega) (by omega) (by omega)
set_option maxHeartbeats 6400000 in
set_option maxRecDepth 100000 in
theorem divWW_c (x1 x0 y : Int) (t : Nat) (w : World) (hx1 : 0 ≤ x1 ∧ x1 < y) (hx0 : 0 ≤ x0 ∧ x0 < BW) (hy : y < BW) (ht : Bits y t) :
    Calls Tryz.prog 92 #[.int .u64 x1, .int .u64 x0, .int .u64 y, .int .u64 (recip (y * 2 ^ (64 - t)))] w fun e w' => e = .returned (.tuple #[.int .u64 ((x1 * BW + x0) / y), .int .u64 ((x1 * BW + x0) % y)]) ∧ w' = w := by
  have hy0 : 0 < y := by omega
  obtain ⟨hle, htp, hdh, hdl⟩ := norm_word hy0 hy ht
  have HN := Aside0.mk (fun w => nlz_c y t w ⟨by omega, hy⟩ ht)
  obtain ⟨s, hs⟩ : ∃ s, s = 64 - t := ⟨_, rfl⟩
  rw [← hs] at HN hdh hdl ⊢
  have hs64 : s < 64 := by omega
  clear hs ht hle htp
  by_cases hs0 : s = 0
  · subst hs0
    rw [Int.pow_zero, Int.mul_one] at hdh hdl ⊢
    have hX1 := hx1
    have hX0 := hx0
    obtain ⟨s, hs⟩ : ∃ s, s = 0 := ⟨_, rfl⟩
    have hE : (x1 * BW + x0) / y = (x1 * BW + x0) / y ∧ (x1 * BW + x0) % y = (x1 * BW + x0) % y * 2 ^ s := by
      rw [hs, Int.pow_zero, Int.mul_one]; exact ⟨rfl, rfl⟩
    obtain ⟨m, hm⟩ : ∃ m, m = recip y := ⟨_, rfl⟩
    have hmb := recip_b hdh hdl
    rw [← hm] at hmb ⊢
    obtain ⟨t1, ht1⟩ : ∃ t1, t1 = m * x1 / BW := ⟨_, rfl⟩
    obtain ⟨t0, ht0⟩ : ∃ t0, t0 = m * x1 % BW := ⟨_, rfl⟩
    obtain ⟨c, hc⟩ : ∃ c, c = (t0 + x0) / BW := ⟨_, rfl⟩
    obtain ⟨q, hq⟩ : ∃ q, q = (t1 + x1 + c) % BW := ⟨_, rfl⟩
    obtain ⟨e1, he1⟩ : ∃ e1, e1 = y * q / BW := ⟨_, rfl⟩
    obtain ⟨e0, he0⟩ : ∃ e0, e0 = y * q % BW := ⟨_, rfl⟩
    obtain ⟨r0, hr0⟩ : ∃ r0, r0 = (x0 - e0 - 0) % BW := ⟨_, rfl⟩
    obtain ⟨b, hb⟩ : ∃ b, b = -((x0 - e0 - 0) / BW) := ⟨_, rfl⟩
    obtain ⟨r1, hr1⟩ : ∃ r1, r1 = (x1 - e1 - b) % BW := ⟨_, rfl⟩
    have hD : DivW x1 x0 y m q r0 r1 b c t1 t0 e1 e0 := ⟨ht1, ht0, hc, hq, he1, he0, hr0, hb, hr1⟩
    have hmt := divW_math hdh hdl hm hX1 hX0 hD
    have hen := divW_end hdh hdl hX1 hX0 ⟨hmt.1, hmt.2.1⟩ hmt.2.2.1 hmt.2.2.2.1
    obtain ⟨R, hR⟩ : ∃ R, R = x1 * BW + x0 - y * q := ⟨_, rfl⟩
    rw [← hR] at hmt hen
    have hBp := BW_pos
    have hXB : 0 ≤ x1 ∧ x1 < BW := by omega
    have hdB2 : 0 ≤ y ∧ y < BW := by omega
    have hM1 := Aside0.mk (fun w => bitsMul_c m x1 t0 t1 w hmb hXB ht0 ht1)
    have ht0b : 0 ≤ t0 := by rw [ht0]; exact Int.emod_nonneg _ (Int.ne_of_gt hBp)
    have ht1b : 0 ≤ t1 := by rw [ht1]; exact (mul_word hmb hXB (c := 0) ⟨Int.le_refl _, hBp⟩).2.2.1 |> fun h => by rwa [Int.add_zero] at h
    have hA1' := fun w => bitsAdd_c t0 x0 w ht0b hX0.1
    obtain ⟨a0, ha0⟩ : ∃ a0, a0 = (t0 + x0) % BW := ⟨_, rfl⟩
    rw [← ha0, ← hc] at hA1'
    have hA1 := Aside0.mk hA1'
    have hA2 := Aside0.mk (fun w => bitsAddc_c t1 x1 c q _ w ht1b hX1.1 ⟨hmt.2.2.2.2.2.2.1, hmt.2.2.2.2.2.2.2.1⟩ hq rfl)
    have hM2 := Aside0.mk (fun w => bitsMul_c y q e0 e1 w hdB2 ⟨hmt.1, hmt.2.1⟩ he0 he1)
    have he0b : 0 ≤ e0 ∧ e0 < BW := by rw [he0]; exact ⟨Int.emod_nonneg _ (Int.ne_of_gt hBp), Int.emod_lt_of_pos _ hBp⟩
    have he1b : 0 ≤ e1 ∧ e1 < BW := by have := mul_word hdB2 ⟨hmt.1, hmt.2.1⟩ (c := 0) ⟨Int.le_refl _, hBp⟩; rw [Int.add_zero, ← he1] at this; exact this.2.2
    have hS1 := Aside0.mk (fun w => bitsSub_c x0 e0 0 r0 b w hX0 he0b (by omega) hr0 hb)
    have hS2 := Aside0.mk (fun w => bitsSub_c x1 e1 b r1 _ w hXB he1b ⟨hmt.2.2.2.2.2.2.2.2.1, hmt.2.2.2.2.2.2.2.2.2⟩ hr1 rfl)
    obtain ⟨k2, hk2⟩ : ∃ k2, k2 = (t1 + x1 + c) / BW := ⟨_, rfl⟩
    obtain ⟨b2, hb2⟩ : ∃ b2, b2 = -((x1 - e1 - b) / BW) := ⟨_, rfl⟩
    rw [← hk2] at hA2
    rw [← hb2] at hS2
    have hB := BW_def
    have hq0 := hmt.1
    have hR0 := hmt.2.2.1
    have hR1 := hmt.2.2.2.1
    have hr0e := hmt.2.2.2.2.1
    have hr1e := hmt.2.2.2.2.2.1
    rw [hB] at hr0e hr1e
    obtain ⟨Q, hQ⟩ : ∃ Q, Q = (x1 * BW + x0) / y := ⟨_, rfl⟩
    obtain ⟨V, hV⟩ : ∃ V, V = (x1 * BW + x0) % y := ⟨_, rfl⟩
    rw [← hQ] at hen ⊢
    rw [← hV] at hE hen ⊢
    have hE2 := hE.2
    rw [hE2] at hen
    have hVs : 0 ≤ V * 2 ^ s := Int.mul_nonneg (by rw [hV]; exact Int.emod_nonneg _ (by omega)) (Int.le_of_lt (tp s))
    have HVd := Aside0.mk (show V * 2 ^ s / 2 ^ s = V from Int.mul_ediv_cancel _ (Int.ne_of_gt (tp s)))
    obtain ⟨VS, hVS⟩ : ∃ VS, VS = V * 2 ^ s := ⟨_, rfl⟩
    rw [← hVS] at hen hVs HVd
    clear hm ht1 ht0 hc hq he1 he0 hr0 hb hr1 hD hmt hR ha0 hA1' hk2 hb2 hQ hV hE hE2 hVS hmb he0b he1b ht0b ht1b
    by_cases hc1 : BW ≤ R
    · obtain rfl : r1 = 1 := by omega
      by_cases hc2 : R - y < y
      · have ⟨hf1, hf2⟩ := (hen.2.1 hc1).1 hc2
        have hq1 : IntKind.u64.wrap (q + 1) = Q := by rw [hf1]; exact wrap_u64 (by omega) (by have := hen.1; omega)
        have hw1 : IntKind.u64.wrap (r0 - y) = VS := by rw [IntKind.wrap_u64]; omega
        have hlt : VS < y := by omega
        clear hf1 hf2 hen hr0e hr1e hB
        go_enter Tryz.func92, Tryz.ntmps92
        go_wp2_with (fail)
        refine (HN.out _).mono ?_; rintro e w' ⟨rfl, rfl⟩
        go_wp2_with (fail)
        refine (hM1.out _).mono ?_; rintro e w' ⟨rfl, rfl⟩
        go_wp2_with (fail)
        refine (hA1.out _).mono ?_; rintro e w' ⟨rfl, rfl⟩
        go_wp2_with (fail)
        refine (hA2.out _).mono ?_; rintro e w' ⟨rfl, rfl⟩
        go_wp2_with (fail)
        refine (hM2.out _).mono ?_; rintro e w' ⟨rfl, rfl⟩
        go_wp2_with (fail)
        refine (hS1.out _).mono ?_; rintro e w' ⟨rfl, rfl⟩
        go_wp2_with (fail)
        refine (hS2.out _).mono ?_; rintro e w' ⟨rfl, rfl⟩
        go_wp2_with (fail)
        go_ret2
        exact ⟨by rw [← HVd.out]; (simp [hs]), rfl⟩
      · replace hc2 : y ≤ R - y := by omega
        have ⟨hf1, hf2⟩ := (hen.2.1 hc1).2 hc2
        obtain ⟨z, hz⟩ : ∃ z, z = q + 1 := ⟨_, rfl⟩
        obtain ⟨v, hv⟩ : ∃ v, v = R - y := ⟨_, rfl⟩
        have hq1 : IntKind.u64.wrap (q + 1) = z := by rw [hz]; exact wrap_u64 (by omega) (by have := hen.1; omega)
        have hq2 : IntKind.u64.wrap (z + 1) = Q := by rw [show z + 1 = Q by omega]; exact wrap_u64 (by omega) (by have := hen.1; omega)
        have hw1 : IntKind.u64.wrap (r0 - y) = v := by rw [IntKind.wrap_u64]; omega
        have hw2 : IntKind.u64.wrap (v - y) = VS := by rw [IntKind.wrap_u64]; omega
        have hlt : y ≤ v := by omega
        clear hf1 hf2 hen hr0e hr1e hB hz hv
        go_enter Tryz.func92, Tryz.ntmps92
        go_wp2_with (fail)
        refine (HN.out _).mono ?_; rintro e w' ⟨rfl, rfl⟩
        go_wp2_with (fail)
        refine (hM1.out _).mono ?_; rintro e w' ⟨rfl, rfl⟩
        go_wp2_with (fail)
        refine (hA1.out _).mono ?_; rintro e w' ⟨rfl, rfl⟩
        go_wp2_with (fail)
        refine (hA2.out _).mono ?_; rintro e w' ⟨rfl, rfl⟩
        go_wp2_with (fail)
        refine (hM2.out _).mono ?_; rintro e w' ⟨rfl, rfl⟩
        go_wp2_with (fail)
        refine (hS1.out _).mono ?_; rintro e w' ⟨rfl, rfl⟩
        go_wp2_with (fail)
        refine (hS2.out _).mono ?_; rintro e w' ⟨rfl, rfl⟩
        go_wp2_with (fail)
        go_ret2
        exact ⟨by rw [← HVd.out]; (simp [hs]), rfl⟩
    · replace hc1 : R < BW := by omega
      obtain rfl : r1 = 0 := by omega
      by_cases hc2 : R < y
      · have ⟨hf1, hf2⟩ := (hen.2.2 hc1).1 hc2
        obtain rfl : r0 = VS := by omega
        obtain rfl : q = Q := by omega
        have hlt : r0 < y := by omega
        clear hf1 hf2 hen hr0e hr1e hB
        go_enter Tryz.func92, Tryz.ntmps92
        go_wp2_with (fail)
        refine (HN.out _).mono ?_; rintro e w' ⟨rfl, rfl⟩
        go_wp2_with (fail)
        refine (hM1.out _).mono ?_; rintro e w' ⟨rfl, rfl⟩
        go_wp2_with (fail)
        refine (hA1.out _).mono ?_; rintro e w' ⟨rfl, rfl⟩
        go_wp2_with (fail)
        refine (hA2.out _).mono ?_; rintro e w' ⟨rfl, rfl⟩
        go_wp2_with (fail)
        refine (hM2.out _).mono ?_; rintro e w' ⟨rfl, rfl⟩
        go_wp2_with (fail)
        refine (hS1.out _).mono ?_; rintro e w' ⟨rfl, rfl⟩
        go_wp2_with (fail)
        refine (hS2.out _).mono ?_; rintro e w' ⟨rfl, rfl⟩
        go_wp2_with (fail)
        go_ret2
        exact ⟨by rw [← HVd.out]; (simp [hs]), rfl⟩
      · replace hc2 : y ≤ R := by omega
        have ⟨hf1, hf2⟩ := (hen.2.2 hc1).2 hc2
        have hq1 : IntKind.u64.wrap (q + 1) = Q := by rw [hf1]; exact wrap_u64 (by omega) (by have := hen.1; omega)
        have hw1 : IntKind.u64.wrap (r0 - y) = VS := by rw [IntKind.wrap_u64]; omega
        have hlt : y ≤ r0 := by omega
        clear hf1 hf2 hen hr0e hr1e hB
        go_enter Tryz.func92, Tryz.ntmps92
        go_wp2_with (fail)
        refine (HN.out _).mono ?_; rintro e w' ⟨rfl, rfl⟩
        go_wp2_with (fail)
        refine (hM1.out _).mono ?_; rintro e w' ⟨rfl, rfl⟩
        go_wp2_with (fail)
        refine (hA1.out _).mono ?_; rintro e w' ⟨rfl, rfl⟩
        go_wp2_with (fail)
        refine (hA2.out _).mono ?_; rintro e w' ⟨rfl, rfl⟩
        go_wp2_with (fail)
        refine (hM2.out _).mono ?_; rintro e w' ⟨rfl, rfl⟩
        go_wp2_with (fail)
        refine (hS1.out _).mono ?_; rintro e w' ⟨rfl, rfl⟩
        go_wp2_with (fail)
        refine (hS2.out _).mono ?_; rintro e w' ⟨rfl, rfl⟩
        go_wp2_with (fail)
        go_ret2
        exact ⟨by rw [← HVd.out]; (simp [hs]), rfl⟩
  · obtain ⟨d, hd⟩ : ∃ d, d = y * 2 ^ s := ⟨_, rfl⟩
    rw [← hd] at hdh hdl ⊢
    obtain ⟨X1, hX1e⟩ : ∃ X1, X1 = x1 * 2 ^ s + x0 / 2 ^ (64 - s) := ⟨_, rfl⟩
    obtain ⟨X0, hX0e⟩ : ∃ X0, X0 = x0 * 2 ^ s % BW := ⟨_, rfl⟩
    have hlo : x0 / 2 ^ (64 - s) < 2 ^ s := by
      apply Int.ediv_lt_of_lt_mul (tp _)
      rw [two64 s (by omega)]; exact hx0.2
    have hlo0 : 0 ≤ x0 / 2 ^ (64 - s) := Int.ediv_nonneg hx0.1 (Int.le_of_lt (tp _))
    have hhy := Int.mul_le_mul_of_nonneg_right (show x1 + 1 ≤ y by omega) (Int.le_of_lt (tp s))
    rw [Int.add_mul, Int.one_mul, ← hd] at hhy
    have hx1s := Int.mul_nonneg hx1.1 (Int.le_of_lt (tp s))
    have hor := or_shl' x1 x0 s hs64 ⟨by omega, by omega⟩ hx0 (by omega)
    rw [← hX1e] at hor
    have hX1 : 0 ≤ X1 ∧ X1 < d := by omega
    have hX0 : 0 ≤ X0 ∧ X0 < BW := by rw [hX0e]; exact ⟨Int.emod_nonneg _ (Int.ne_of_gt BW_pos), Int.emod_lt_of_pos _ BW_pos⟩
    have hsc := div64_scale (by omega) hX1e hX0e
    have hE : (X1 * BW + X0) / d = (x1 * BW + x0) / y ∧ (X1 * BW + X0) % d = (x1 * BW + x0) % y * 2 ^ s := by
      rw [← hsc, hd]
      obtain ⟨z, hz⟩ : ∃ z, z = x1 * BW + x0 := ⟨_, rfl⟩
      rw [← hz]
      exact ⟨Int.mul_ediv_mul_of_pos_left _ _ (tp s), by rw [Int.mul_comm z, Int.mul_comm y, Int.mul_emod_mul_of_pos _ _ (tp s), Int.mul_comm]⟩
    have hwy : IntKind.u64.wrap (y * 2 ^ s) = d := by rw [← hd]; exact wrap_u64 (by have := BW_pos; omega) (by rw [← BW_def]; exact hdl)
    have hwx : IntKind.u64.wrap (x0 * 2 ^ s) = X0 := by rw [hX0e, IntKind.wrap_u64, BW_def]
    have hsb : ((s : Int) != 0) = true := by rw [bne_iff_ne]; omega
    have hsb2 : ((s : Int) == 0) = false := by rw [beq_eq_false_iff_ne]; omega
    have hd64 : (64 - (s : Int)) = ((64 - s : Nat) : Int) := by omega
    clear hd hX1e hX0e hlo hlo0 hhy hsc hs0 hx1s
    obtain ⟨m, hm⟩ : ∃ m, m = recip d := ⟨_, rfl⟩
    have hmb := recip_b hdh hdl
    rw [← hm] at hmb ⊢
    obtain ⟨t1, ht1⟩ : ∃ t1, t1 = m * X1 / BW := ⟨_, rfl⟩
    obtain ⟨t0, ht0⟩ : ∃ t0, t0 = m * X1 % BW := ⟨_, rfl⟩
    obtain ⟨c, hc⟩ : ∃ c, c = (t0 + X0) / BW := ⟨_, rfl⟩
    obtain ⟨q, hq⟩ : ∃ q, q = (t1 + X1 + c) % BW := ⟨_, rfl⟩
    obtain ⟨e1, he1⟩ : ∃ e1, e1 = d * q / BW := ⟨_, rfl⟩
    obtain ⟨e0, he0⟩ : ∃ e0, e0 = d * q % BW := ⟨_, rfl⟩
    obtain ⟨r0, hr0⟩ : ∃ r0, r0 = (X0 - e0 - 0) % BW := ⟨_, rfl⟩
    obtain ⟨b, hb⟩ : ∃ b, b = -((X0 - e0 - 0) / BW) := ⟨_, rfl⟩
    obtain ⟨r1, hr1⟩ : ∃ r1, r1 = (X1 - e1 - b) % BW := ⟨_, rfl⟩
    have hD : DivW X1 X0 d m q r0 r1 b c t1 t0 e1 e0 := ⟨ht1, ht0, hc, hq, he1, he0, hr0, hb, hr1⟩
    have hmt := divW_math hdh hdl hm hX1 hX0 hD
    have hen := divW_end hdh hdl hX1 hX0 ⟨hmt.1, hmt.2.1⟩ hmt.2.2.1 hmt.2.2.2.1
    obtain ⟨R, hR⟩ : ∃ R, R = X1 * BW + X0 - d * q := ⟨_, rfl⟩
    rw [← hR] at hmt hen
    rw [hE.1] at hen
    have hBp := BW_pos
    have hXB : 0 ≤ X1 ∧ X1 < BW := by omega
    have hdB2 : 0 ≤ d ∧ d < BW := by omega
    have hM1 := Aside0.mk (fun w => bitsMul_c m X1 t0 t1 w hmb hXB ht0 ht1)
    have ht0b : 0 ≤ t0 := by rw [ht0]; exact Int.emod_nonneg _ (Int.ne_of_gt hBp)
    have ht1b : 0 ≤ t1 := by rw [ht1]; exact (mul_word hmb hXB (c := 0) ⟨Int.le_refl _, hBp⟩).2.2.1 |> fun h => by rwa [Int.add_zero] at h
    have hA1' := fun w => bitsAdd_c t0 X0 w ht0b hX0.1
    obtain ⟨a0, ha0⟩ : ∃ a0, a0 = (t0 + X0) % BW := ⟨_, rfl⟩
    rw [← ha0, ← hc] at hA1'
    have hA1 := Aside0.mk hA1'
    have hA2 := Aside0.mk (fun w => bitsAddc_c t1 X1 c q _ w ht1b hX1.1 ⟨hmt.2.2.2.2.2.2.1, hmt.2.2.2.2.2.2.2.1⟩ hq rfl)
    have hM2 := Aside0.mk (fun w => bitsMul_c d q e0 e1 w hdB2 ⟨hmt.1, hmt.2.1⟩ he0 he1)
    have he0b : 0 ≤ e0 ∧ e0 < BW := by rw [he0]; exact ⟨Int.emod_nonneg _ (Int.ne_of_gt hBp), Int.emod_lt_of_pos _ hBp⟩
    have he1b : 0 ≤ e1 ∧ e1 < BW := by have := mul_word hdB2 ⟨hmt.1, hmt.2.1⟩ (c := 0) ⟨Int.le_refl _, hBp⟩; rw [Int.add_zero, ← he1] at this; exact this.2.2
    have hS1 := Aside0.mk (fun w => bitsSub_c X0 e0 0 r0 b w hX0 he0b (by omega) hr0 hb)
    have hS2 := Aside0.mk (fun w => bitsSub_c X1 e1 b r1 _ w hXB he1b ⟨hmt.2.2.2.2.2.2.2.2.1, hmt.2.2.2.2.2.2.2.2.2⟩ hr1 rfl)
    obtain ⟨k2, hk2⟩ : ∃ k2, k2 = (t1 + X1 + c) / BW := ⟨_, rfl⟩
    obtain ⟨b2, hb2⟩ : ∃ b2, b2 = -((X1 - e1 - b) / BW) := ⟨_, rfl⟩
    rw [← hk2] at hA2
    rw [← hb2] at hS2
    have hB := BW_def
    have hq0 := hmt.1
    have hR0 := hmt.2.2.1
    have hR1 := hmt.2.2.2.1
    have hr0e := hmt.2.2.2.2.1
    have hr1e := hmt.2.2.2.2.2.1
    rw [hB] at hr0e hr1e
    obtain ⟨Q, hQ⟩ : ∃ Q, Q = (x1 * BW + x0) / y := ⟨_, rfl⟩
    obtain ⟨V, hV⟩ : ∃ V, V = (x1 * BW + x0) % y := ⟨_, rfl⟩
    rw [← hQ] at hen ⊢
    rw [← hV] at hE ⊢
    have hE2 := hE.2
    rw [hE2] at hen
    have hVs : 0 ≤ V * 2 ^ s := Int.mul_nonneg (by rw [hV]; exact Int.emod_nonneg _ (by omega)) (Int.le_of_lt (tp s))
    have HVd := Aside0.mk (show V * 2 ^ s / 2 ^ s = V from Int.mul_ediv_cancel _ (Int.ne_of_gt (tp s)))
    obtain ⟨VS, hVS⟩ : ∃ VS, VS = V * 2 ^ s := ⟨_, rfl⟩
    rw [← hVS] at hen hVs HVd
    clear hm ht1 ht0 hc hq he1 he0 hr0 hb hr1 hD hmt hR ha0 hA1' hk2 hb2 hQ hV hE hE2 hVS hmb he0b he1b ht0b ht1b
    by_cases hc1 : BW ≤ R
    · obtain rfl : r1 = 1 := by omega
      by_cases hc2 : R - d < d
      · have ⟨hf1, hf2⟩ := (hen.2.1 hc1).1 hc2
        have hq1 : IntKind.u64.wrap (q + 1) = Q := by rw [hf1]; exact wrap_u64 (by omega) (by have := hen.1; omega)
        have hw1 : IntKind.u64.wrap (r0 - d) = VS := by rw [IntKind.wrap_u64]; omega
        have hlt : VS < d := by omega
        clear hf1 hf2 hen hr0e hr1e hB
        go_enter Tryz.func92, Tryz.ntmps92
        go_wp2_with (fail)
        refine (HN.out _).mono ?_; rintro e w' ⟨rfl, rfl⟩
        go_wp2_with (fail)
        refine (hM1.out _).mono ?_; rintro e w' ⟨rfl, rfl⟩
        go_wp2_with (fail)
        refine (hA1.out _).mono ?_; rintro e w' ⟨rfl, rfl⟩
        go_wp2_with (fail)
        refine (hA2.out _).mono ?_; rintro e w' ⟨rfl, rfl⟩
        go_wp2_with (fail)
        refine (hM2.out _).mono ?_; rintro e w' ⟨rfl, rfl⟩
        go_wp2_with (fail)
        refine (hS1.out _).mono ?_; rintro e w' ⟨rfl, rfl⟩
        go_wp2_with (fail)
        refine (hS2.out _).mono ?_; rintro e w' ⟨rfl, rfl⟩
        go_wp2_with (fail)
        go_ret2
        exact ⟨by rw [← HVd.out]; rfl, rfl⟩
      · replace hc2 : d ≤ R - d := by omega
        have ⟨hf1, hf2⟩ := (hen.2.1 hc1).2 hc2
        obtain ⟨z, hz⟩ : ∃ z, z = q + 1 := ⟨_, rfl⟩
        obtain ⟨v, hv⟩ : ∃ v, v = R - d := ⟨_, rfl⟩
        have hq1 : IntKind.u64.wrap (q + 1) = z := by rw [hz]; exact wrap_u64 (by omega) (by have := hen.1; omega)
        have hq2 : IntKind.u64.wrap (z + 1) = Q := by rw [show z + 1 = Q by omega]; exact wrap_u64 (by omega) (by have := hen.1; omega)
        have hw1 : IntKind.u64.wrap (r0 - d) = v := by rw [IntKind.wrap_u64]; omega
        have hw2 : IntKind.u64.wrap (v - d) = VS := by rw [IntKind.wrap_u64]; omega
        have hlt : d ≤ v := by omega
        clear hf1 hf2 hen hr0e hr1e hB hz hv
        go_enter Tryz.func92, Tryz.ntmps92
        go_wp2_with (fail)
        refine (HN.out _).mono ?_; rintro e w' ⟨rfl, rfl⟩
        go_wp2_with (fail)
        refine (hM1.out _).mono ?_; rintro e w' ⟨rfl, rfl⟩
        go_wp2_with (fail)
        refine (hA1.out _).mono ?_; rintro e w' ⟨rfl, rfl⟩
        go_wp2_with (fail)
        refine (hA2.out _).mono ?_; rintro e w' ⟨rfl, rfl⟩
        go_wp2_with (fail)
        refine (hM2.out _).mono ?_; rintro e w' ⟨rfl, rfl⟩
        go_wp2_with (fail)
        refine (hS1.out _).mono ?_; rintro e w' ⟨rfl, rfl⟩
        go_wp2_with (fail)
        refine (hS2.out _).mono ?_; rintro e w' ⟨rfl, rfl⟩
        go_wp2_with (fail)
        go_ret2
        exact ⟨by rw [← HVd.out]; rfl, rfl⟩
    · replace hc1 : R < BW := by omega
      obtain rfl : r1 = 0 := by omega
      by_cases hc2 : R < d
      · have ⟨hf1, hf2⟩ := (hen.2.2 hc1).1 hc2
        obtain rfl : r0 = VS := by omega
        obtain rfl : q = Q := by omega
        have hlt : r0 < d := by omega
        clear hf1 hf2 hen hr0e hr1e hB
        go_enter Tryz.func92, Tryz.ntmps92
        go_wp2_with (fail)
        refine (HN.out _).mono ?_; rintro e w' ⟨rfl, rfl⟩
        go_wp2_with (fail)
        refine (hM1.out _).mono ?_; rintro e w' ⟨rfl, rfl⟩
        go_wp2_with (fail)
        refine (hA1.out _).mono ?_; rintro e w' ⟨rfl, rfl⟩
        go_wp2_with (fail)
        refine (hA2.out _).mono ?_; rintro e w' ⟨rfl, rfl⟩
        go_wp2_with (fail)
        refine (hM2.out _).mono ?_; rintro e w' ⟨rfl, rfl⟩
        go_wp2_with (fail)
        refine (hS1.out _).mono ?_; rintro e w' ⟨rfl, rfl⟩
        go_wp2_with (fail)
        refine (hS2.out _).mono ?_; rintro e w' ⟨rfl, rfl⟩
        go_wp2_with (fail)
        go_ret2
        exact ⟨by rw [← HVd.out]; rfl, rfl⟩
      · replace hc2 : d ≤ R := by omega
        have ⟨hf1, hf2⟩ := (hen.2.2 hc1).2 hc2
        have hq1 : IntKind.u64.wrap (q + 1) = Q := by rw [hf1]; exact wrap_u64 (by omega) (by have := hen.1; omega)
        have hw1 : IntKind.u64.wrap (r0 - d) = VS := by rw [IntKind.wrap_u64]; omega
        have hlt : d ≤ r0 := by omega
        clear hf1 hf2 hen hr0e hr1e hB
        go_enter Tryz.func92, Tryz.ntmps92
        go_wp2_with (fail)
        refine (HN.out _).mono ?_; rintro e w' ⟨rfl, rfl⟩
        go_wp2_with (fail)
        refine (hM1.out _).mono ?_; rintro e w' ⟨rfl, rfl⟩
        go_wp2_with (fail)
        refine (hA1.out _).mono ?_; rintro e w' ⟨rfl, rfl⟩
        go_wp2_with (fail)
        refine (hA2.out _).mono ?_; rintro e w' ⟨rfl, rfl⟩
        go_wp2_with (fail)
        refine (hM2.out _).mono ?_; rintro e w' ⟨rfl, rfl⟩
        go_wp2_with (fail)
        refine (hS1.out _).mono ?_; rintro e w' ⟨rfl, rfl⟩
        go_wp2_with (fail)
        refine (hS2.out _).mono ?_; rintro e w' ⟨rfl, rfl⟩
        go_wp2_with (fail)
        go_ret2
        exact ⟨by rw [← HVd.out]; rfl, rfl⟩
end Go.Proofs.YtgpgacnnkjiadaaGreatDoor.Sp
end

/-! ## DivE -/
section
namespace Go.Proofs.YtgpgacnnkjiadaaGreatDoor.Sp
open Go.RowKit Go.Proofs.YtgpgacnnkjiadaaGreatDoorW.PrintWords Go.Proofs.YtgpgacnnkjiadaaGreatDoorW.PrintLast Go.Proofs.YtgpgacnnkjiadaaGreatDoorW.PrintMore Go.Proofs.YtgpgacnnkjiadaaGreatDoor.Dig
set_option linter.unusedVariables false
set_option linter.unusedSimpArgs false
/-- One digit of a quotient by a word. -/
theorem short_step {L : List Int} (hok : okd BW L) {y : Int} (hy0 : 0 < y) (hy : y < BW) {i : Nat} (hi : i < L.length) : (ev BW (L.drop (i + 1)) % y * BW + L.getD i 0) / y = dg (ev BW L / y) i ∧ (ev BW (L.drop (i + 1)) % y * BW + L.getD i 0) % y = ev BW (L.drop i) % y := by
  have hB := BW_pos
  have hd : L.drop i = L.getD i 0 :: L.drop (i + 1) := by
    rw [List.drop_eq_getElem_cons hi]
    simp [List.getD, List.getElem?_eq_getElem hi]
  have he : ev BW (L.drop i) = L.getD i 0 + BW * ev BW (L.drop (i + 1)) := by rw [hd, ev_cons]
  have hg := okd_get hok hB i
  have hdm := Int.emod_add_mul_ediv (ev BW (L.drop (i + 1))) y
  have hr0 := Int.emod_nonneg (ev BW (L.drop (i + 1))) (Int.ne_of_gt hy0)
  have hr1 := Int.emod_lt_of_pos (ev BW (L.drop (i + 1))) hy0
  obtain ⟨r, hr⟩ : ∃ r, r = ev BW (L.drop (i + 1)) % y := ⟨_, rfl⟩
  obtain ⟨q, hq⟩ : ∃ q, q = ev BW (L.drop (i + 1)) / y := ⟨_, rfl⟩
  rw [← hr] at hr0 hr1
  rw [← hr, ← hq] at hdm
  have he2 : ev BW (L.drop i) = (r * BW + L.getD i 0) + y * (BW * q) := by
    rw [he, ← hdm, Int.mul_add, Int.mul_comm BW r, Int.mul_left_comm BW y]
    omega
  have hb : (r * BW + L.getD i 0) / y < BW := by
    apply Int.ediv_lt_of_lt_mul hy0
    have := Int.mul_le_mul_of_nonneg_right (show r + 1 ≤ y by omega) (Int.le_of_lt hB)
    rw [Int.add_mul, Int.one_mul] at this
    rw [Int.mul_comm BW]
    omega
  have hb0 : 0 ≤ (r * BW + L.getD i 0) / y := Int.ediv_nonneg (by have := Int.mul_nonneg hr0 (Int.le_of_lt hB); omega) (Int.le_of_lt hy0)
  rw [← hr]
  constructor
  · unfold dg
    have e1 : ev BW L / y / BW ^ i = ev BW (L.drop i) / y := by
      rw [ev_div hok hB i (by omega), edd (Int.le_of_lt hy0), edd (Int.le_of_lt (BWp i)), Int.mul_comm]
    rw [e1, he2, Int.add_mul_ediv_left _ _ (Int.ne_of_gt hy0), Int.add_mul_emod_self_left, Int.emod_eq_of_lt hb0 hb]
  · rw [he2, Int.add_mul_emod_self_left]
set_option maxHeartbeats 3200000 in
set_option maxRecDepth 100000 in
theorem divWVW_c (mz oz cz mx ox cx : Nat) (Z L : List Int) (y : Int) (t : TypeId) (w : World) (hz : hp w mz = some (.cells (u64s Z) t (0, 0))) (hlen : oz + L.length ≤ Z.length) (hx : Lies w mz oz mx ox L) (h0 : 0 < L.length) (hbig : L.length ≤ 100000000) (hok : okd BW L) (hy0 : 0 < y) (hy : y < BW) :
    Calls Tryz.prog 72 #[.slice (some ⟨mz, oz, none⟩) L.length cz, .int .u64 0, .slice (some ⟨mx, ox, none⟩) L.length cx, .int .u64 y] w (ShiftPost w mz oz Z L.length (ev BW L / y) (ev BW L % y) t) := by
  have HX := Aside0.mk hx
  have HZ := Aside0.mk hz
  have HOK := Aside0.mk hok
  obtain ⟨b, hb⟩ := Bits.exists y (by omega)
  have HST := Aside0.mk (fun i hi => short_step hok hy0 hy (i := i) hi)
  obtain ⟨n, hn⟩ : ∃ n, n = L.length := ⟨_, rfl⟩
  have HN := Aside0.mk hn
  obtain ⟨T, hT⟩ : ∃ T, T = ev BW L / y := ⟨_, rfl⟩
  rw [← hT] at HST ⊢
  by_cases h1 : n = 1
  · have hx0 := hx.1 0 (by omega)
    rw [Nat.add_zero] at hx0
    have hc := (blk_cell hz oz).trans (u64s_get _ oz (by omega))
    have hf := blk_frozen hz oz
    have hg := okd_get hok BW_pos 0
    obtain ⟨a, ha⟩ : ∃ a, a = L.getD 0 0 := ⟨_, rfl⟩
    rw [← ha] at hx0 hg
    have hs := HST.out 0 (by omega)
    have hd1 : ev BW (L.drop (0 + 1)) = 0 := by rw [List.drop_eq_nil_of_le (by omega), ev_nil]
    rw [hd1, Int.zero_emod, Int.zero_mul, Int.zero_add, List.drop_zero, ← ha] at hs
    have HD := Aside0.mk (fun w => bitsDiv_c 0 a y w ⟨by omega, hy0⟩ hg hy)
    rw [Int.zero_mul, Int.zero_add] at HD
    obtain ⟨q, hq⟩ : ∃ q, q = a / y := ⟨_, rfl⟩
    obtain ⟨r, hr⟩ : ∃ r, r = a % y := ⟨_, rfl⟩
    rw [← hq, ← hr] at HD
    rw [← hq, ← hr] at hs
    have HS := Aside0.mk hs
    have HL := Aside0.mk (show oz + 0 < Z.length by omega)
    have hL1 : L.length = 1 := by omega
    rw [hL1]
    clear hx hz hok ha hg hs hd1 hn hT hb HST HX HN hq hr h1 hL1 hlen h0 hbig
    go_enter Tryz.func72, Tryz.ntmps72
    go_wp2_with (fail)
    refine (HD.out _).mono ?_
    rintro e w' ⟨rfl, k, rfl⟩
    go_wp2_with (fail)
    go_ret
    refine ⟨by rw [← HS.out.2]; rfl, ?_, ((Kept.refl (On mz) w).drewN k).setCell (p := ⟨mz, oz, none⟩) (.inl rfl) _⟩
    rw [hp_here _ _ _ _ _ rfl, hp_drewN, HZ.out]
    simp only [Option.map_some, setObj_cells, u64s_set]
    have hu := upd_up Z oz 0 0 T (Nat.le_refl _) HL.out
    rw [upd_none _ _ _ _ _ (Nat.le_refl _), Nat.add_zero, ← HS.out.1] at hu
    rw [hu]
  · have h1b : ((n : Int) == 1) = false := by rw [beq_eq_false_iff_ne]; omega
    have HRC := Aside0.mk (fun w => recip_c y b w hy0 hy hb)
    have HDW := Aside0.mk (fun (r a : Int) (w : World) (hr : 0 ≤ r ∧ r < y) (ha : 0 ≤ a ∧ a < BW) => divWW_c r a y b w hr ha hy hb)
    obtain ⟨rc, hrc⟩ : ∃ rc, rc = recip (y * 2 ^ (64 - b)) := ⟨_, rfl⟩
    rw [← hrc] at HRC HDW
    obtain ⟨k, rfl⟩ : ∃ k, n = k + 1 := ⟨n - 1, by omega⟩
    rw [← hn] at h0 hbig hlen ⊢
    clear hx hz hok hn hT hb hrc h1
    go_enter Tryz.func72, Tryz.ntmps72
    go_wp2_with (fail)
    refine (HRC.out _).mono ?_
    rintro e w' ⟨rfl, nd, rfl⟩
    go_wp2_with (fail)
    go_loopw [8, 12] (fun v8 v12 wr => ∃ (i : Nat) (r : Int), i ≤ k + 1 ∧ v12 = .int .i64 ((i : Int) - 1) ∧ v8 = .int .u64 r ∧ (0 ≤ r ∧ r < y) ∧ Aside0 (r = ev BW (L.drop i) % y) ∧ Aside0 (hp wr mz = some (.cells (u64s (upd Z oz i (k + 1) T)) t (0, 0))) ∧ Aside0 (Kept (On mz) w wr)) (fun _ v _ => ((intOf v) + 1).toNat)
    case atStart => exact ⟨k + 1, 0, by omega, by simp, rfl, ⟨by omega, hy0⟩, ⟨by rw [List.drop_eq_nil_of_le (by rw [← HN.out]; omega), ev_nil, Int.zero_emod]⟩, ⟨by rw [upd_none _ _ _ _ _ (Nat.le_refl _)]; exact HZ.out⟩, ⟨(Kept.refl _ _).drewN nd⟩⟩
    case round =>
      obtain ⟨i, r, hi, rfl, rfl, hr, HR, HO, HK⟩ := hrel
      by_cases hi0 : i = 0
      · subst hi0
        go_wp2_with (fail)
        go_ret
        exact ⟨by rw [HR.out]; rfl, HO.out, HK.out⟩
      · obtain ⟨q, rfl⟩ : ∃ q, i = q + 1 := ⟨i - 1, by omega⟩
        have hx0 := lies_down (T := T) HX.out HZ.out (by rw [← HN.out]; exact hlen) HK.out (i := q) (by rw [← HN.out]; omega) (by rw [← HN.out]; exact HO.out) q (Nat.le_refl _)
        have hc := (blk_cell HO.out (oz + q)).trans (u64s_get _ (oz + q) (by rw [upd_len]; omega))
        have hf := blk_frozen HO.out (oz + q)
        have hg := okd_get HOK.out BW_pos q
        have hs := HST.out q (by rw [← HN.out]; omega)
        rw [← HR.out] at hs
        obtain ⟨a, ha⟩ : ∃ a, a = L.getD q 0 := ⟨_, rfl⟩
        rw [← ha] at hx0 hs hg
        have hD := HDW.out r a
        obtain ⟨q1, hq1⟩ : ∃ q1, q1 = (r * BW + a) / y := ⟨_, rfl⟩
        obtain ⟨r1, hr1⟩ : ∃ r1, r1 = (r * BW + a) % y := ⟨_, rfl⟩
        rw [← hq1, ← hr1] at hs
        have HD : Aside0 (∀ w, Calls Tryz.prog 92 #[.int .u64 r, .int .u64 a, .int .u64 y, .int .u64 rc] w fun e w' => e = .returned (.tuple #[.int .u64 q1, .int .u64 r1]) ∧ w' = w) := ⟨fun w => by rw [hq1, hr1]; exact hD w hr hg⟩
        have hr1b : 0 ≤ r1 ∧ r1 < y := by rw [hr1]; exact ⟨Int.emod_nonneg _ (by omega), Int.emod_lt_of_pos _ (by omega)⟩
        have HS := Aside0.mk hs
        have hiq : ((q + 1 : Nat) : Int) - 1 = (q : Int) := by omega
        rw [hiq]
        clear hs hg ha hq1 hr1 hD hiq hr HR hi0
        go_wp2_with (go_at_call 92; refine (HD.out _).mono ?_; rintro e w' ⟨rfl, rfl⟩)
        go_roundw
        case measure => simp [intOf]
        case rel =>
          refine ⟨q, r1, by omega, rfl, rfl, hr1b, ⟨HS.out.2⟩, ⟨?_⟩, ⟨HK.out.setCell (p := ⟨mz, oz + q, none⟩) (.inl rfl) _⟩⟩
          rw [hp_here _ _ _ _ _ rfl, HO.out]
          simp only [Option.map_some, setObj_cells, u64s_set]
          rw [HS.out.1, upd_down _ _ _ _ _ (by omega) (by omega)]
end Go.Proofs.YtgpgacnnkjiadaaGreatDoor.Sp
end
