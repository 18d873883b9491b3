/-
  CONTRACT: natural numbers compared (nat.cmp).
-/
import Derived.Test.YtgpgacnnkjiadaaGreatDoorNat2
import Derived.BigQuiet
import Derived.Deep.QuietTactic
namespace Go.Proofs.YtgpgacnnkjiadaaGreatDoor.Sp
open Go.RowKit Go.Proofs.YtgpgacnnkjiadaaGreatDoorW.PrintWords Go.Proofs.YtgpgacnnkjiadaaGreatDoorW.PrintLast Go.Proofs.YtgpgacnnkjiadaaGreatDoorW.PrintMore Go.Proofs.YtgpgacnnkjiadaaGreatDoor.Dig
set_option linter.unusedVariables false
set_option linter.unusedSimpArgs false
theorem midw_lt {x y : List Int} (hx : okd BW x) (hy : okd BW y) {i : Nat} (h : i < x.length) (h' : i < y.length) (ht : x.drop (i + 1) = y.drop (i + 1)) (hlt : x.getD i 0 < y.getD i 0) : ev BW x < ev BW y := by
  have h1 := ev_mid BW x i h
  have h2 := ev_mid BW y i h'
  have h3 := ev_take_lt hx BW_pos i (by omega)
  have h4 := ev_take_lt hy BW_pos i (by omega)
  rw [ht] at h1
  have hp := pow_pos BW_pos i
  have h5 : BW ^ i * (x.getD i 0 + BW * ev BW (y.drop (i + 1)) + 1) ≤ BW ^ i * (y.getD i 0 + BW * ev BW (y.drop (i + 1))) := Int.mul_le_mul_of_nonneg_left (by omega) (Int.le_of_lt hp)
  rw [Int.mul_add _ _ 1, Int.mul_one] at h5
  omega
theorem lenw_lt {x y : List Int} (hx : Cn BW x) (hy : Cn BW y) (h : x.length < y.length) : ev BW x < ev BW y := by
  have h1 := ev_lt hx.ok BW_pos
  have h2 := Cn_len_ge hy BW_pos (by intro e; subst e; simp at h)
  have h3 : BW ^ x.length ≤ BW ^ (y.length - 1) := pow_mono BW_pos (by omega)
  omega
theorem drew3 (w : World) (a b c : Nat) : ((w.drewN a).drewN b).drewN c = w.drewN (a + b + c) := by simp only [World.drewN_drewN, Nat.add_assoc]
theorem drew4 (w : World) (a b c d : Nat) : (((w.drewN a).drewN b).drewN c).drewN d = w.drewN (a + b + c + d) := by simp only [World.drewN_drewN, Nat.add_assoc]
theorem cmpI_pos {a b : Int} (h : a < b) : cmpI a b = -1 ∧ cmpI b a = 1 := ⟨cmpI_lt h, cmpI_gt h⟩
set_option maxHeartbeats 3200000 in
set_option maxRecDepth 100000 in
theorem natCmp_c (A B : Option Addr) (c d : Nat) (L M : List Int) (w : World) (hx : Kd.C (Kd.int .u64) w A L.length L) (hy : Kd.C (Kd.int .u64) w B M.length M) (hL : Cn BW L) (hM : Cn BW M) (hl1 : L.length ≤ 100000000) (hl2 : M.length ≤ 100000000) :
    Calls Tryz.prog 52 #[.slice A L.length c, .slice B M.length d] w fun e w' => e = .returned (.int .i64 (cmpI (ev BW L) (ev BW M))) ∧ ∃ n, w' = w.drewN n := by
  by_cases hne : L.length = M.length
  · by_cases h0 : L.length = 0
    · have e1 : L = [] := List.eq_nil_of_length_eq_zero h0
      have e2 : M = [] := List.eq_nil_of_length_eq_zero (by omega)
      subst e1 e2
      rw [cmpI_self]
      clear hx hy hL hM
      go_enter Tryz.func52, Tryz.ntmps52
      go_wp2_with (fail)
      go_ret
      exact ⟨rfl, 0, rfl⟩
    · have HX := Aside0.mk hx
      have HY := Aside0.mk hy
      obtain ⟨m, hm⟩ : ∃ m, m = L.length := ⟨_, rfl⟩
      have hmM : M.length = m := by omega
      have HML := Aside0.mk hm
      have HMM := Aside0.mk hmM
      have HL := Aside0.mk hL
      have HM := Aside0.mk hM
      rw [hmM, ← hm]
      rw [← hm] at h0 hl1
      have hb1 : ((m : Int) != (m : Int)) = false := by simp
      have hb2 : ((m : Int) == 0) = false := by rw [beq_eq_false_iff_ne]; omega
      obtain ⟨k, rfl⟩ : ∃ k, m = k + 1 := ⟨m - 1, by omega⟩
      have hk1 : IntKind.i64.wrap (((k + 1 : Nat) : Int) - 1) = (k : Int) := by rw [IntWalk.i64_in _ (by omega)]; omega
      have hk2 : ((k + 1 : Nat) : Int) - 1 = (k : Int) := by omega
      clear hx hy hL hM hm hmM hne hl2
      go_enter Tryz.func52, Tryz.ntmps52
      go_wp2_with (fail)
      go_loopw [7] (fun v7 wr => ∃ i : Nat, i < k + 1 ∧ v7 = .int .i64 (i : Int) ∧ Aside0 (L.drop (i + 1) = M.drop (i + 1)) ∧ Aside0 (∃ n, wr = w.drewN n)) (fun v _ => (intOf v).toNat)
      case atStart => exact ⟨k, by omega, by first | rfl | (simp [hk2]; done), ⟨by rw [List.drop_eq_nil_of_le (by rw [← HML.out]; omega), List.drop_eq_nil_of_le (by rw [HMM.out]; omega)]⟩, ⟨0, rfl⟩⟩
      case round =>
        obtain ⟨i, hi, rfl, HD, HW⟩ := hrel
        obtain ⟨n0, rfl⟩ := HW.out
        obtain ⟨ax, e1, hx1⟩ := Kd.at_int HX.out (i : Int) (by omega) (by rw [← HML.out]; omega)
        obtain ⟨ay, e2, hy1⟩ := Kd.at_int HY.out (i : Int) (by omega) (by rw [HMM.out]; omega)
        cases e1
        cases e2
        rw [Int.toNat_natCast] at hx1 hy1
        rw [rd_nat] at hx1 hy1
        obtain ⟨a, ha⟩ : ∃ a, a = L.getD i 0 := ⟨_, rfl⟩
        obtain ⟨b, hb⟩ : ∃ b, b = M.getD i 0 := ⟨_, rfl⟩
        rw [← ha] at hx1
        rw [← hb] at hy1
        have HA := Aside0.mk ha
        have HB := Aside0.mk hb
        have hil : i < L.length := by rw [← HML.out]; exact hi
        have hil2 : i < M.length := by rw [HMM.out]; exact hi
        have hii : (i : Int) < ((k + 1 : Nat) : Int) := by omega
        rcases Int.lt_trichotomy a b with hab | hab | hab
        · have HR : Aside0 (cmpI (ev BW L) (ev BW M) = -1) := ⟨cmpI_lt (midw_lt HL.out.ok HM.out.ok hil hil2 HD.out (by rw [← HA.out, ← HB.out]; exact hab))⟩
          have hab1 : (a == b) = false := by rw [beq_eq_false_iff_ne]; omega
          have hab2 : decide (a < b) = true := decide_eq_true hab
          clear ha hb hil hil2
          by_cases hi0 : 0 < i
          all_goals
            go_upto_region 9 with (fail)
            go_quiet (fail)
            go_upto_region 11 with (fail)
            go_quiet (fail)
            go_wp2_with (fail)
            go_ret
            exact ⟨by rw [HR.out]; rfl, by first | exact ⟨_, drew4 _ _ _ _ _⟩ | exact ⟨_, drew3 _ _ _ _⟩ | exact ⟨_, World.drewN_drewN _ _ _⟩ | exact ⟨0, rfl⟩ | exact ⟨_, rfl⟩⟩
        · subst hab
          by_cases hi0 : 0 < i
          · obtain ⟨j, hj⟩ : ∃ j, i = j + 1 := ⟨i - 1, by omega⟩
            have hj1 : IntKind.i64.wrap ((i : Int) - 1) = (j : Int) := by rw [IntWalk.i64_in _ (by omega)]; omega
            have HJ := Aside0.mk hj
            have HD2 : Aside0 (L.drop (j + 1) = M.drop (j + 1)) := ⟨by
              rw [← hj, List.drop_eq_getElem_cons hil, List.drop_eq_getElem_cons hil2, HD.out]
              have h1 := HA.out
              rw [HB.out] at h1
              simp only [List.getD, List.getElem?_eq_getElem hil, List.getElem?_eq_getElem hil2, Option.getD_some] at h1
              rw [h1]⟩
            clear ha hb hil hil2 hj
            go_upto_region 9 with (fail)
            go_quiet (fail)
            go_wp2_with (fail)
            go_roundw
            case rel => exact ⟨j, by have := HJ.out; omega, by first | rfl | (simp [hj1]; done), HD2, ⟨by first | exact ⟨_, World.drewN_drewN _ _ _⟩ | exact ⟨_, rfl⟩⟩⟩
            case measure => have := HJ.out; simp [intOf, hj1]; omega
          · have HE := Aside0.mk (show i = 0 by omega)
            have HR : Aside0 (cmpI (ev BW L) (ev BW M) = 0) := ⟨by
              have : L = M := by
                have h1 := HA.out
                rw [HB.out] at h1
                simp only [List.getD, List.getElem?_eq_getElem hil, List.getElem?_eq_getElem hil2, Option.getD_some] at h1
                have e1 : L = L.drop 0 := rfl
                have e2 : M = M.drop 0 := rfl
                have h2 := List.drop_eq_getElem_cons hil
                have h3 := List.drop_eq_getElem_cons hil2
                rw [HD.out, ← h1, ← h3] at h2
                rw [HE.out] at h2
                rw [e1, e2, h2]
              rw [this, cmpI_self]⟩
            clear ha hb hil hil2
            have haa : decide (a < a) = false := decide_eq_false (by omega)
            go_upto_region 9 with (fail)
            go_quiet (fail)
            go_upto_region 11 with (fail)
            go_quiet (fail)
            go_upto_region 13 with (fail)
            go_quiet (fail)
            go_wp2_with (fail)
            go_ret
            exact ⟨by rw [HR.out]; rfl, by first | exact ⟨_, drew4 _ _ _ _ _⟩ | exact ⟨_, drew3 _ _ _ _⟩ | exact ⟨_, World.drewN_drewN _ _ _⟩ | exact ⟨0, rfl⟩ | exact ⟨_, rfl⟩⟩
        · have HR : Aside0 (cmpI (ev BW L) (ev BW M) = 1) := ⟨cmpI_gt (midw_lt HM.out.ok HL.out.ok hil2 hil HD.out.symm (by rw [← HA.out, ← HB.out]; exact hab))⟩
          have hab1 : (a == b) = false := by rw [beq_eq_false_iff_ne]; omega
          have hab2 : decide (a < b) = false := decide_eq_false (by omega)
          have hab3 : decide (b < a) = true := decide_eq_true hab
          clear ha hb hil hil2
          by_cases hi0 : 0 < i
          all_goals
            go_upto_region 9 with (fail)
            go_quiet (fail)
            go_upto_region 11 with (fail)
            go_quiet (fail)
            go_upto_region 13 with (fail)
            go_quiet (fail)
            go_wp2_with (fail)
            go_ret
            exact ⟨by rw [HR.out]; rfl, by first | exact ⟨_, drew4 _ _ _ _ _⟩ | exact ⟨_, drew3 _ _ _ _⟩ | exact ⟨_, World.drewN_drewN _ _ _⟩ | exact ⟨0, rfl⟩ | exact ⟨_, rfl⟩⟩
  · have hb1 : ((L.length : Int) != (M.length : Int)) = true := by rw [bne_iff_ne]; omega
    obtain ⟨r, hr⟩ : ∃ r, r = cmpI (ev BW L) (ev BW M) := ⟨_, rfl⟩
    by_cases hlt : L.length < M.length
    · have HR : Aside0 (r = -1) := ⟨by rw [hr, cmpI_lt (lenw_lt hL hM hlt)]⟩
      rw [← hr]
      have hd : decide ((L.length : Int) < (M.length : Int)) = true := decide_eq_true (by omega)
      clear hx hy hL hM hr
      go_enter Tryz.func52, Tryz.ntmps52
      go_wp2_with (fail)
      go_ret
      exact ⟨by rw [HR.out]; rfl, by first | exact ⟨0, rfl⟩ | exact ⟨_, rfl⟩⟩
    · have HR : Aside0 (r = 1) := ⟨by rw [hr, cmpI_gt (lenw_lt hM hL (by omega))]⟩
      rw [← hr]
      have hd : decide ((L.length : Int) < (M.length : Int)) = false := decide_eq_false (by omega)
      have hd2 : decide ((M.length : Int) < (L.length : Int)) = true := decide_eq_true (by omega)
      clear hx hy hL hM hr
      go_enter Tryz.func52, Tryz.ntmps52
      go_wp2_with (fail)
      go_ret
      exact ⟨by rw [HR.out]; rfl, by first | exact ⟨0, rfl⟩ | exact ⟨_, rfl⟩⟩
end Go.Proofs.YtgpgacnnkjiadaaGreatDoor.Sp
