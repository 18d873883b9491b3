/-
  CONTRACTS of the reference's rounding (split, Cut, Round).
-/
import Derived.Test.YtfnknldbjckgoaaGreatDoorGexa
import Derived.Test.YtfnknldbjckgoaaGreatDoorOddX
import Derived.Test.YtfnknldbjckgoaaGreatDoorGspt
import Derived.Test.YtfnknldbjckgoaaGreatDoorSpAll
namespace Go.Proofs.YtfnknldbjckgoaaGreatDoor.Sp
open Go.RowKit Go.Proofs.YtfnknldbjckgoaaGreatDoorW.PrintWords Go.Proofs.YtfnknldbjckgoaaGreatDoorW.PrintLast Go.Proofs.YtfnknldbjckgoaaGreatDoorW.PrintMore Go.Proofs.YtfnknldbjckgoaaGreatDoor.Dig
set_option linter.unusedVariables false
set_option linter.unusedSimpArgs false
set_option maxHeartbeats 800000 in
set_option maxRecDepth 100000 in
theorem bit_any (q s : Nat) (hs : s < 16) (hq : q ≤ 1000000000) (w : World) :
    Calls Tryz.prog 66 #[.int .i64 ((16 * q + s : Nat) : Int)] w fun e w' => ∃ r v, e = .returned v ∧ Kd.V (Kd.int .i64) 3 w' w.heap.size (fun k => w.heap.size ≤ k) v r ∧ Cn BH r ∧ ev BH r = 2 ^ (16 * q + s) ∧ Below w.heap.size w w' := by
  obtain ⟨i, hi⟩ : ∃ i : Int, i = ((16 * q + s : Nat) : Int) := ⟨_, rfl⟩
  rw [← hi]
  have d1 : i / 16 = (q : Int) := by omega
  have d2 : i % 16 = (s : Int) := by omega
  have d3 : 0 ≤ i := by omega
  have d4 : i ≤ 16000000015 := by omega
  clear hi
  have d5 : IntKind.i64.wrap ((q : Int) + 1) = ((q + 1 : Nat) : Int) := by rw [IntWalk.i64_in _ (by omega)]; omega
  have hmk := make_ints 28 3 .i64 8 Tryz.underlying28 info3 (by omega) ((q : Int) + 1) ((q : Int) + 1) (by omega) (by omega) (by omega)
  have d6 : (((q : Int) + 1).toNat) = q + 1 := by omega
  have d7 : (q : Int) < ((q + 1 : Nat) : Int) := by omega
  go_enter Tryz.func66, Tryz.ntmps66
  go_wp2
  go_ret
  have hp2 : (2 : Int) ^ s ≤ 2 ^ 15 := pow_mono (by omega) (by omega)
  have hp0 : (0 : Int) < 2 ^ s := Int.pow_pos (by omega)
  have h15 : (2 : Int) ^ 15 = 32768 := rfl
  have hw : wrap64 (2 ^ s) = 2 ^ s := w64 (by omega) (by omega)
  have hl : ((List.replicate q (0 : Int)) ++ [2 ^ s]).length = q + 1 := by simp
  refine ⟨List.replicate q 0 ++ [2 ^ s], _, rfl, ?_, ⟨okd_append.2 ⟨okd_replicate _ BH_pos, fun d hd => ?_⟩, fun d hd => ?_⟩, ?_, (Below.refl _ _).alloc (Nat.le_refl _) _⟩
  · refine blk_V (hp_new w _ _ rfl) hl (by omega) (Nat.le_refl _) (Nat.le_refl _) ?_
    intro i hi'
    rw [hw, Nat.zero_add, Array.getElem?_setIfInBounds]
    by_cases h : q = i
    · subst h
      simp
    · rw [if_neg h]
      simp [show i < q + 1 by omega, List.getD, List.getElem?_append, show i < q by omega]
  · simp at hd
    subst hd
    rw [BH_def]
    omega
  · simp at hd
    omega
  · rw [ev_snoc, ev_replicate, List.length_replicate, Int.pow_add, Int.pow_mul, BH_two]
    omega
theorem bit_c (n : Int) (h0 : 0 ≤ n) (h1 : n ≤ 1000000000) (w : World) : Calls Tryz.prog 66 #[.int .i64 n] w fun e w' => ∃ v, e = .returned v ∧ Dg w' v (2 ^ n.toNat) ∧ Below w.heap.size w w' := by
  have e : n = ((16 * (n.toNat / 16) + n.toNat % 16 : Nat) : Int) := by omega
  have e2 : 16 * (n.toNat / 16) + n.toNat % 16 = n.toNat := by omega
  have h := bit_any (n.toNat / 16) (n.toNat % 16) (by omega) (by omega) w
  rw [← e, e2] at h
  refine h.mono ?_
  rintro e w' ⟨r, v, rfl, hv, hc, he, hb⟩
  exact ⟨v, rfl, Dg.of_V hv hc he, hb⟩
/-- What is left of the next unit, as the reference tells it. -/
theorem left_cmp (V : Int) (d : Nat) (hV : 0 ≤ V) (hd : 0 < d) : left V d false = if V % 2 ^ d = 0 then 0 else 2 + cmpI (V % 2 ^ d + V % 2 ^ d) (2 ^ d) := by
  obtain ⟨j, rfl⟩ : ∃ j, d = j + 1 := ⟨d - 1, by omega⟩
  unfold left
  rw [if_neg (by omega), Nat.add_sub_cancel]
  have h1 : V % 2 ^ (j + 1) = V % 2 ^ j + 2 ^ j * (V / 2 ^ j % 2) := by rw [Int.pow_succ, mod_mul _ _ _ (tp j)]
  have h2 : (2 : Int) ^ (j + 1) = 2 ^ j + 2 ^ j := by rw [Int.pow_succ]; omega
  have h3 := Int.emod_nonneg V (Int.ne_of_gt (tp j))
  have h4 := Int.emod_lt_of_pos V (tp j)
  have h5 := tp j
  rw [h1, h2]
  obtain ⟨a, ha⟩ : ∃ a, a = V % 2 ^ j := ⟨_, rfl⟩
  obtain ⟨h, hh⟩ : ∃ h, h = (2 : Int) ^ j := ⟨_, rfl⟩
  rw [← ha] at h3 h4 ⊢
  rw [← hh] at h4 h5 ⊢
  clear h1 h2 ha hh
  rcases (by omega : V / h % 2 = 0 ∨ V / h % 2 = 1) with e | e
  · rw [e, Int.mul_zero, Int.mul_zero, Int.zero_add, Int.add_zero]
    by_cases a0 : a = 0
    · rw [if_pos a0, if_neg (by simp [a0])]
    · rw [if_neg a0, if_pos (.inl a0), cmpI_lt (by omega)]; omega
  · rw [e, Int.mul_one, Int.mul_one]
    by_cases a0 : a = 0
    · rw [if_neg (by simp [a0]), if_neg (by omega), a0, Int.zero_add, cmpI_self]
    · rw [if_pos (.inl a0), if_neg (by omega), cmpI_gt (by omega)]
theorem Dg.len0 {w : World} {A : Option Addr} {m c : Nat} {n : Int} (h : Dg w (.slice A m c) n) : m = 0 ↔ n = 0 := by
  obtain ⟨A', c', l, e, h2, h3, h4, h5⟩ := h
  injection e with e1 e2 e3
  subst h5
  rw [e2]
  constructor
  · intro h0
    rw [List.eq_nil_of_length_eq_zero h0, ev_nil]
  · intro h0
    rw [Cn_zero h4 BH_pos h0]; rfl
/-- Digits of a number, in blocks of P. -/
def Dq (w : World) (P : Nat → Prop) (v : Value) (n : Int) : Prop := ∃ l, Kd.V (Kd.int .i64) 3 w 0 P v l ∧ Cn BH l ∧ ev BH l = n
theorem Dq.dg {w : World} {P : Nat → Prop} {v : Value} {n : Int} (h : Dq w P v n) : Dg w v n := by
  obtain ⟨l, h1, h2, h3⟩ := h
  exact Dg.of_V h1 h2 h3
theorem Dq.below {w w1 : World} {P : Nat → Prop} {v : Value} {n : Int} (h : Dq w P v n) (hb : Below w.heap.size w w1) : Dq w1 P v n := by
  obtain ⟨l, h1, h2⟩ := h
  exact ⟨l, Kd.V_below h1 hb, h2⟩
theorem Dq.mono {w : World} {P Q : Nat → Prop} {v : Value} {n : Int} (h : Dq w P v n) (hQ : ∀ k, P k → Q k) : Dq w Q v n := by
  obtain ⟨l, h1, h2⟩ := h
  exact ⟨l, Kd.V_mono h1 hQ, h2⟩
theorem Dq.far {w : World} {P : Nat → Prop} {v : Value} {n : Int} (h : Dq w P v n) {p : Addr} (hp : ¬ P p.block) (u : Value) : Dq (w.setCell p u) P v n := by
  obtain ⟨l, h1, h2⟩ := h
  exact ⟨l, Kd.V_far h1 (fun k hk e => hp (by rw [← e]; exact hk)) u, h2⟩
theorem Dg.dq {w : World} {v : Value} {n : Int} (h : Dg w v n) : Dq w (fun k => k < w.heap.size) v n := by
  obtain ⟨A, c, l, rfl, h2, h3, h4⟩ := h
  exact ⟨l, Kd.V_mono (Kd.V_bound (V_of_C h3 h2)) (fun k hk => hk.2), h4⟩
theorem shr_c (v : Value) (a : Int) (n : Nat) (w : World) (h : Dg w v a) (ha : a < Lim) (hn : n < 1000000000) : Calls Tryz.prog 27 #[v, .int .i64 (n : Int)] w fun e w' => ∃ v, e = .returned v ∧ Dq w' (fun k => w.heap.size ≤ k) v (a / 2 ^ n) ∧ Below w.heap.size w w' := by
  obtain ⟨A, c, l, rfl, h2, h3, h4, h5⟩ := h
  subst h5
  have := Lim_len h4 ha
  obtain ⟨r, ⟨K, hK⟩, hc, he⟩ := shr_ev l h4.ok (by omega) n (by omega)
  refine (spec_Shr.calls K A c l n r w h3 h2 (hK K (Nat.le_refl _))).mono ?_
  rintro e w' ⟨v, rfl, hv, hb⟩
  exact ⟨v, rfl, ⟨r, hv, hc, he⟩, hb⟩
theorem addq_c (v u : Value) (a b : Int) (w : World) (h : Dg w v a) (h' : Dg w u b) (ha : a < Lim) (hb : b < Lim) : Calls Tryz.prog 47 #[v, u] w fun e w' => ∃ v, e = .returned v ∧ Dq w' (fun k => w.heap.size ≤ k) v (a + b) ∧ Below w.heap.size w w' := by
  obtain ⟨A, c, l, rfl, h2, h3, h4, h5⟩ := h
  obtain ⟨A', c', l', rfl, h2', h3', h4', h5'⟩ := h'
  subst h5 h5'
  have := Lim_len h4 ha
  have := Lim_len h4' hb
  obtain ⟨r, ⟨K, hK⟩, hc, he⟩ := add_ev l l' h4.ok h4'.ok (by omega) (by omega)
  refine (spec_Add.calls K A c l A' c' l' r w h3 h2 h3' h2' (hK K (Nat.le_refl _))).mono ?_
  rintro e w' ⟨v, rfl, hv, hb⟩
  exact ⟨v, rfl, ⟨r, hv, hc, he⟩, hb⟩
theorem shlq_c (P : Nat → Prop) (v : Value) (a n : Int) (w : World) (h : Dq w P v a) (ha : a < Lim) (h0 : 0 ≤ n) (h1 : n ≤ 1000000000) : Calls Tryz.prog 30 #[v, .int .i64 n] w fun e w' => ∃ v, e = .returned v ∧ Dq w' (fun k => P k ∨ w.heap.size ≤ k) v (a * 2 ^ n.toNat) ∧ Below w.heap.size w w' := by
  obtain ⟨l, hv, h4, h5⟩ := h
  obtain ⟨A, c, rfl⟩ := Kd.V_slice hv
  subst h5
  have := Lim_len h4 ha
  have e : n = ((16 * (n.toNat / 16) + n.toNat % 16 : Nat) : Int) := by omega
  have e2 : 16 * (n.toNat / 16) + n.toNat % 16 = n.toNat := by omega
  have h := shl_any P A c l (n.toNat / 16) (n.toNat % 16) (by omega) (by omega) h4 (by omega) w hv
  rw [← e, e2] at h
  refine h.mono ?_
  rintro e w' ⟨r, v, rfl, hv, hc, he, hb⟩
  exact ⟨v, rfl, ⟨r, hv, hc, he⟩, hb⟩
set_option maxHeartbeats 1600000 in
set_option maxRecDepth 100000 in
theorem split_c (v : Value) (V : Int) (d : Nat) (w : World) (h : Dg w v V) (hV : V < Lim) (hd0 : 0 < d) (hd : d ≤ 1000000) :
    Calls Tryz.prog 45 #[v, .int .i64 (d : Int)] w fun e w' => ∃ q, e = .returned (.tuple #[q, .int .i64 (left V d false)]) ∧ Dq w' (fun k => w.heap.size ≤ k) q (V / 2 ^ d) ∧ Below w.heap.size w w' := by
  have hV0 := h.nonneg
  have hq0 : 0 ≤ V / 2 ^ d := Int.ediv_nonneg hV0 (Int.le_of_lt (tp d))
  have hqL : V / 2 ^ d < Lim := Int.lt_of_le_of_lt (Int.ediv_le_self _ hV0) hV
  have hcut : V / 2 ^ d * 2 ^ d = V - V % 2 ^ d := by have := Int.emod_add_mul_ediv V (2 ^ d); rw [Int.mul_comm (V / 2 ^ d)]; omega
  have hr0 := Int.emod_nonneg V (Int.ne_of_gt (tp d))
  have hr1 := Int.emod_lt_of_pos V (tp d)
  have hdL : (2 : Int) ^ d < Lim := lt_Lim (d + 1) (by rw [Int.pow_succ]; have := tp d; omega) (by omega)
  have HL := Aside0.mk (left_cmp V d hV0 hd0)
  obtain ⟨r, hr⟩ : ∃ r, r = V % 2 ^ d := ⟨_, rfl⟩
  obtain ⟨q, hq⟩ : ∃ q, q = V / 2 ^ d := ⟨_, rfl⟩
  have H0 := Aside0.mk h
  have HS := Aside0.mk (shr_c v V d w h hV (by omega))
  have hcut2 : q * 2 ^ d = V - r := by rw [hq, hr]; exact hcut
  rw [← hq] at HS hq0 hqL ⊢
  rw [← hr] at hr0 hr1 HL
  have HC := Aside0.mk hcut2
  have HV := Aside0.mk hV
  have HQL := Aside0.mk hqL
  have HRL := Aside0.mk (show r < Lim by omega)
  have HRR := Aside0.mk (show r + r < Lim from lt_Lim (d + 1) (by rw [Int.pow_succ]; omega) (by omega))
  have HRV := Aside0.mk (show V - r ≤ V by omega)
  have HR0 := Aside0.mk hr0
  clear h hcut hcut2 hV0 hr1 hr hq hV hqL hdL
  go_enter Tryz.func45, Tryz.ntmps45
  go_wp2_with (fail)
  refine (HS.out).mono ?_
  rintro e w1 ⟨u, rfl, hu, hb1⟩
  have HU := Aside0.mk hu
  have HB1 := Aside0.mk hb1
  have HV1 := Aside0.mk (H0.out.below hb1)
  have HSH := Aside0.mk (shl_c u q (d : Int) w1 hu.dg HQL.out (by omega) (by omega))
  clear hu hb1 HS
  go_wp2_with (fail)
  refine (HSH.out).mono ?_
  rintro e w2 ⟨u2, rfl, hu2, hb2⟩
  rw [Int.toNat_natCast, HC.out] at hu2
  have HB2 := Aside0.mk (below_step HB1.out hb2)
  have HU2 := Aside0.mk (HU.out.below hb2)
  have HSU := Aside0.mk (sub_c v u2 V (V - r) w2 (HV1.out.below hb2) hu2 HV.out HRV.out)
  clear hu2 hb2 HSH
  go_wp2_with (fail)
  refine (HSU.out).mono ?_
  rintro e w3 ⟨u3, rfl, hu3, hb3⟩
  rw [show V - (V - r) = r by omega] at hu3
  obtain ⟨A3, m3, c3, rfl⟩ := hu3.slice
  have hm3 := hu3.len0
  have HB3 := Aside0.mk (below_step HB2.out hb3)
  have HQ3 := Aside0.mk (HU2.out.below hb3)
  have HU3 := Aside0.mk hu3
  clear hu3 hb3 HSU
  by_cases h0 : r = 0
  · have hb0 : ((m3 : Int) == 0) = true := by rw [beq_iff_eq]; have := hm3.2 h0; omega
    have HE : Aside0 (left V d false = 0) := ⟨by rw [HL.out, if_pos h0]⟩
    clear hm3 h0
    go_wp2_with (fail)
    go_ret2
    exact ⟨u, by rw [HE.out]; rfl, HQ3.out, HB3.out⟩
  · have hb0 : ((m3 : Int) == 0) = false := by rw [beq_eq_false_iff_ne]; have := mt hm3.1 h0; omega
    have HE : Aside0 (left V d false = 2 + cmpI (r + r) (2 ^ d)) := ⟨by rw [HL.out, if_neg h0]⟩
    have HAD := Aside0.mk (add_c (.slice A3 m3 c3) (.slice A3 m3 c3) r r w3 HU3.out HU3.out HRL.out HRL.out)
    clear hm3 h0
    go_wp2_with (fail)
    refine (HAD.out).mono ?_
    rintro e w4 ⟨u4, rfl, hu4, hb4⟩
    have HB4 := Aside0.mk (below_step HB3.out hb4)
    have HQ4 := Aside0.mk (HQ3.out.below hb4)
    have HU4 := Aside0.mk hu4
    have HBI := Aside0.mk (bit_c (d : Int) (by omega) (by omega) w4)
    clear hu4 hb4 HAD
    go_wp2_with (fail)
    refine (HBI.out).mono ?_
    rintro e w5 ⟨u5, rfl, hu5, hb5⟩
    rw [Int.toNat_natCast] at hu5
    have HB5 := Aside0.mk (below_step HB4.out hb5)
    have HQ5 := Aside0.mk (HQ4.out.below hb5)
    have HCM := Aside0.mk (cmp_c u4 u5 (r + r) (2 ^ d) w5 (HU4.out.below hb5) hu5 HRR.out)
    clear hu5 hb5 HBI
    go_wp2_with (fail)
    refine (HCM.out).mono ?_
    rintro e w6 ⟨rfl, hb6⟩
    have HB6 := Aside0.mk (below_step HB5.out hb6)
    have HQ6 := Aside0.mk (HQ5.out.below hb6)
    have hcm : -1 ≤ cmpI (r + r) (2 ^ d) ∧ cmpI (r + r) (2 ^ d) ≤ 1 := by unfold cmpI; split <;> (try split) <;> omega
    obtain ⟨k, hk⟩ : ∃ k, k = cmpI (r + r) (2 ^ d) := ⟨_, rfl⟩
    rw [← hk] at hcm HE ⊢
    clear hb6 HCM hk
    go_wp2_with (fail)
    go_ret2
    exact ⟨u, by rw [HE.out]; rfl, HQ6.out, HB6.out⟩
theorem away_up (neg odd : Bool) (l m : Int) : spec_away.f neg odd l m = some (up neg odd l m) := by
  unfold spec_away.f up
  by_cases h0 : m = 0
  · rw [if_pos h0, if_pos h0]
    by_cases h3 : l = 3
    · simp [h3]
    · by_cases h2 : l = 2
      · simp [h2]
      · simp [h2, h3]
  rw [if_neg h0, if_neg h0]
  by_cases h1 : m = 1
  · simp [h1]
  rw [if_neg h1, if_neg h1]
  by_cases h3 : m = 3
  · simp [h3]
  rw [if_neg h3, if_neg h3]
  by_cases h4 : m = 4
  · rw [if_pos h4, if_pos h4]; by_cases hl : 0 < l <;> simp [hl]
  rw [if_neg h4, if_neg h4]
  by_cases h5 : m = 5
  · rw [if_pos h5, if_pos h5]; by_cases hl : 0 < l <;> simp [hl]
  rw [if_neg h5, if_neg h5]
theorem away_c (neg odd : Bool) (l m : Int) (w : World) : Calls Tryz.prog 46 #[.bool neg, .bool odd, .int .i64 l, .int .i64 m] w fun e w' => e = .returned (.bool (up neg odd l m)) ∧ Below w.heap.size w w' := by
  refine (spec_away.calls neg odd l m _ w (away_up neg odd l m)).mono ?_
  rintro e w' ⟨rfl, hb⟩
  exact ⟨rfl, hb.below⟩
theorem hasb_c (v : Value) (a : Int) (n : Nat) (w : World) (h : Dg w v a) (ha : a < Lim) (hn : n < 1000000000) : Calls Tryz.prog 26 #[v, .int .i64 (n : Int)] w fun e w' => e = .returned (.bool (decide (a / 2 ^ n % 2 = 1))) ∧ Below w.heap.size w w' := by
  obtain ⟨A, c, l, rfl, h2, h3, h4, h5⟩ := h
  subst h5
  have := Lim_len h4 ha
  refine (spec_Has.calls A c l n _ w h3 h2 (has_f l h4.ok (by omega) n (by omega))).mono ?_
  rintro e w' ⟨rfl, hb⟩
  exact ⟨rfl, hb.below⟩
theorem rq_left0 (neg : Bool) (m V : Int) (d : Nat) (h : left V d false = 0) : rq neg m V d false = V / 2 ^ d ∧ rside neg m V d false = 0 := by
  unfold rq rside
  rw [h, up_zero, if_pos rfl]
  simp
set_option maxHeartbeats 1600000 in
set_option maxRecDepth 100000 in
theorem cut0_c (neg : Bool) (v : Value) (V m : Int) (P : Nat → Prop) (w : World) (h : Dq w P v V) (hV : V < Lim) :
    Calls Tryz.prog 34 #[.bool neg, v, .int .i64 0, .int .i64 m] w fun e w' => ∃ u, e = .returned (.tuple #[u, .int .i64 0]) ∧ Dq w' (fun k => P k ∨ w.heap.size ≤ k) u V ∧ Below w.heap.size w w' := by
  have HS := Aside0.mk (shlq_c P v V 0 w h hV (by omega) (by omega))
  clear h
  go_enter Tryz.func34, Tryz.ntmps34
  go_wp2_with (fail)
  refine (HS.out).mono ?_
  rintro e w1 ⟨u, rfl, hu, hb1⟩
  rw [show V * 2 ^ (0 : Int).toNat = V by simp] at hu
  have HU := Aside0.mk hu
  have HB := Aside0.mk hb1
  clear hu hb1
  go_wp2_with (fail)
  go_ret2
  exact ⟨u, rfl, HU.out, HB.out⟩
set_option maxHeartbeats 1600000 in
set_option maxRecDepth 100000 in
theorem cut_c (neg : Bool) (v : Value) (V m : Int) (d : Nat) (P : Nat → Prop) (w : World) (h : Dq w P v V) (hV : V + 1 < Lim) (hd : d ≤ 1000000) :
    Calls Tryz.prog 34 #[.bool neg, v, .int .i64 (d : Int), .int .i64 m] w fun e w' => ∃ u, e = .returned (.tuple #[u, .int .i64 (rside neg m V d false)]) ∧ Dq w' (fun k => P k ∨ w.heap.size ≤ k) u (rq neg m V d false) ∧ Below w.heap.size w w' := by
  by_cases hd0 : d = 0
  · subst hd0
    have e := rq_left0 neg m V 0 rfl
    rw [e.1, e.2, Int.pow_zero, Int.ediv_one]
    exact cut0_c neg v V m P w h (by omega)
  have hd1 : (0 : Int) < d := by omega
  have HS := Aside0.mk (split_c v V d w h.dg (by omega) (by omega) hd)
  have hV0 := h.dg.nonneg
  have hqL : V / 2 ^ d + 1 < Lim := by have := Int.ediv_le_self (2 ^ d) hV0; omega
  have hq0 : 0 ≤ V / 2 ^ d := Int.ediv_nonneg hV0 (Int.le_of_lt (tp d))
  have HZ := Aside0.mk (rq_left0 neg m V d)
  have HQ : Aside0 (rq neg m V d false = V / 2 ^ d + if up neg (decide (V / 2 ^ d / 2 ^ 0 % 2 = 1)) (left V d false) m then 1 else 0) := ⟨by rw [Int.pow_zero, Int.ediv_one]; rfl⟩
  have HR : Aside0 (left V d false ≠ 0 → rside neg m V d false = if up neg (decide (V / 2 ^ d / 2 ^ 0 % 2 = 1)) (left V d false) m != neg then 1 else -1) := ⟨fun hl => by rw [Int.pow_zero, Int.ediv_one]; unfold rside; rw [if_neg hl]⟩
  obtain ⟨q, hq⟩ : ∃ q, q = V / 2 ^ d := ⟨_, rfl⟩
  obtain ⟨lf, hlf⟩ : ∃ lf, lf = left V d false := ⟨_, rfl⟩
  obtain ⟨odd, hodd⟩ : ∃ odd, odd = decide (q / 2 ^ 0 % 2 = 1) := ⟨_, rfl⟩
  rw [← hq, ← hlf] at HS HZ
  rw [← hq, ← hlf, ← hodd] at HQ HR
  rw [← hq] at hqL hq0
  obtain ⟨rs, hrs⟩ : ∃ rs, rs = rside neg m V d false := ⟨_, rfl⟩
  obtain ⟨rr, hrr⟩ : ∃ rr, rr = rq neg m V d false := ⟨_, rfl⟩
  rw [← hrs] at HR HZ ⊢
  rw [← hrr] at HQ HZ ⊢
  have HQL := Aside0.mk hqL
  have HOD := Aside0.mk hodd
  clear h hV hd hd0 hV0 hqL hq hlf hodd hrs hrr
  go_enter Tryz.func34, Tryz.ntmps34
  go_wp2_with (fail)
  refine (HS.out).mono ?_
  rintro e w1 ⟨u, rfl, hu, hb1⟩
  have HU := Aside0.mk hu
  have HB := Aside0.mk hb1
  clear hu hb1 HS
  by_cases hl : lf = 0
  · subst hl
    have hz := HZ.out rfl
    have HZ1 := Aside0.mk hz.1
    have HZ2 := Aside0.mk hz.2
    clear hz
    go_wp2_with (fail)
    go_ret2
    exact ⟨u, by rw [HZ2.out]; rfl, by rw [HZ1.out]; exact HU.out.mono (fun k hk => .inr hk), HB.out⟩
  · have hlb : (lf == 0) = false := by rw [beq_eq_false_iff_ne]; exact hl
    have HR2 := Aside0.mk (HR.out hl)
    have HH := Aside0.mk (hasb_c u q 0 w1 HU.out.dg (by have := HQL.out; omega) (by omega))
    rw [← HOD.out] at HH
    clear hl HR HZ
    go_wp2_with (fail)
    refine (HH.out).mono ?_
    rintro e w2 ⟨rfl, hb2⟩
    have HB2 := Aside0.mk (below_step HB.out hb2)
    have HU2 := Aside0.mk (HU.out.below hb2)
    have HA := Aside0.mk (away_c neg odd lf m w2)
    obtain ⟨a, ha⟩ : ∃ a, a = up neg odd lf m := ⟨_, rfl⟩
    rw [← ha] at HA HQ HR2
    clear hb2 ha HH
    go_wp2_with (fail)
    refine (HA.out).mono ?_
    rintro e w3 ⟨rfl, hb3⟩
    have HB3 := Aside0.mk (below_step HB2.out hb3)
    have HU3 := Aside0.mk (HU2.out.below hb3)
    clear hb3 HA
    cases a
    · cases neg
      · have e1 : rs = -1 := by rw [HR2.out]; rfl
        subst e1
        go_wp2_with (fail)
        go_ret2
        exact ⟨u, rfl, by rw [HQ.out]; simpa using HU3.out.mono (fun k hk => .inr hk), HB3.out⟩
      · have e1 : rs = 1 := by rw [HR2.out]; rfl
        subst e1
        go_wp2_with (fail)
        go_ret2
        exact ⟨u, rfl, by rw [HQ.out]; simpa using HU3.out.mono (fun k hk => .inr hk), HB3.out⟩
    · have HSM := Aside0.mk (small_c 1 (by omega) (by omega) w3)
      go_wp2_with (fail)
      refine (HSM.out).mono ?_
      rintro e w4 ⟨u4, rfl, hu4, hb4⟩
      have HB4 := Aside0.mk (below_step HB3.out hb4)
      have HAD := Aside0.mk (addq_c u u4 q 1 w4 (HU3.out.below hb4).dg hu4 (by have := HQL.out; omega) (by have := HQL.out; omega))
      clear hu4 hb4 HSM
      go_wp2_with (fail)
      refine (HAD.out).mono ?_
      rintro e w5 ⟨u5, rfl, hu5, hb5⟩
      have HB5 := Aside0.mk (below_step HB4.out hb5)
      have HU5 := Aside0.mk hu5
      clear hu5 hb5 HAD
      cases neg
      · have e1 : rs = 1 := by rw [HR2.out]; rfl
        subst e1
        go_wp2_with (fail)
        go_ret2
        exact ⟨u5, rfl, by rw [HQ.out]; simpa using HU5.out.mono (fun k hk => .inr (Nat.le_trans HB4.out.size hk)), HB5.out⟩
      · have e1 : rs = -1 := by rw [HR2.out]; rfl
        subst e1
        go_wp2_with (fail)
        go_ret2
        exact ⟨u5, rfl, by rw [HQ.out]; simpa using HU5.out.mono (fun k hk => .inr (Nat.le_trans HB4.out.size hk)), HB5.out⟩
attribute [local go_sem] max2_int max_two
set_option maxHeartbeats 1600000 in
set_option maxRecDepth 100000 in
theorem roundQ_c (neg : Bool) (A : Option Addr) (mm cc : Nat) (V x m : Int) (b p : Nat) (P : Nat → Prop) (w : World) (h : Dq w P (.slice A mm cc) V) (hP : ∀ k, P k → k < w.heap.size) (hV : V + 1 < Lim) (hb : Bits V b) (hb2 : b ≤ 1000000) (hpp : p ≤ 1000000) (hx : -1000000000 ≤ x ∧ x ≤ 1000000000) :
    Calls Tryz.prog 17 #[.agg #[.bool neg, .slice A mm cc, .int .i64 x], .int .i64 (p : Int), .int .i64 m] w fun e w' => ∃ A' m' c', e = .returned (.tuple #[.agg #[.bool neg, .slice A' m' c', .int .i64 (x + (b - p : Nat))], .int .i64 (rside neg m V (b - p) false)]) ∧ Dq w' (fun k => P k ∨ w.heap.size ≤ k) (.slice A' m' c') (rq neg m V (b - p) false) ∧ Below w.heap.size w w' := by
  obtain ⟨k, hk⟩ : ∃ k, k = b - p := ⟨_, rfl⟩
  rw [← hk]
  have hcc := fun (u : Value) (W : World) (hu : Dq W P u V) => cut_c neg u V m k _ W hu hV (by omega)
  obtain ⟨rs, hrs⟩ : ∃ rs, rs = rside neg m V k false := ⟨_, rfl⟩
  obtain ⟨rr, hrr⟩ : ∃ rr, rr = rq neg m V k false := ⟨_, rfl⟩
  rw [← hrs, ← hrr] at hcc ⊢
  have HCC := Aside0.mk hcc
  obtain ⟨w0, hw0⟩ : ∃ w0, w0 = (w.alloc (.cells #[.bool neg, .slice A mm cc, .int .i64 x] 30)).alloc (.cells #[.bool false, .slice none 0 0, .int .i64 0] 30) := ⟨_, rfl⟩
  have hb0 : Below w.heap.size w w0 := by rw [hw0]; exact below_alloc (below_alloc (Below.refl _ _) _) _
  have hs0 : w0.heap.size = w.heap.size + 1 + 1 := by rw [hw0]; simp
  have KX := Aside0.mk (show hp w0 w.heap.size = some (.cells #[.bool neg, .slice A mm cc, .int .i64 x] 30 (0, 0)) from by rw [hw0]; exact (by simp (disch := first | omega | (simp; omega) | (simp; done) | fail) [hp_new, hp_old, hp_here, hp_other, setObj_cells, hp_drew, hp_drewN]))
  have KR := Aside0.mk (show hp w0 (w.heap.size + 1) = some (.cells #[.bool false, .slice none 0 0, .int .i64 0] 30 (0, 0)) from by rw [hw0]; exact (by simp (disch := first | omega | (simp; omega) | (simp; done) | fail) [hp_new, hp_old, hp_here, hp_other, setObj_cells, hp_drew, hp_drewN]))
  have HB0 := Aside0.mk hb0
  have HV0 := Aside0.mk (h.below hb0)
  have HPP := Aside0.mk hP
  have HL := Aside0.mk (len_c (.slice A mm cc) V w0 HV0.out.dg (by omega))
  have HBB := Aside0.mk hb
  have HW0 := Aside0.mk hw0
  have HK := Aside0.mk hk
  obtain ⟨c0, c1, c2, f0, f1, f2⟩ := blk3 KX.out
  rw [hw0] at c0 c1 c2
  have hzw : IntKind.i64.wrap ((b : Int) - (p : Int)) = (b : Int) - (p : Int) := IntWalk.i64_in _ (by omega)
  have hxw : IntKind.i64.wrap (x + (k : Int)) = x + (k : Int) := IntWalk.i64_in _ (by omega)
  clear h hP hV hb hk hcc hrs hrr hb0 hw0
  go_enter Tryz.func17, Tryz.ntmps17
  go_wp2_with (fail)
  rw [← HW0.out]
  refine (HL.out).mono ?_
  rintro e w1 ⟨n, rfl, hn, hn2, hb1⟩
  obtain rfl : n = b := hn.uniq HBB.out
  have KX1 := Aside0.mk (hp_below KX.out hb1)
  have KR1 := Aside0.mk (hp_below KR.out hb1)
  have HB1 := Aside0.mk (below_step HB0.out hb1)
  have hs1 : w0.heap.size ≤ w1.heap.size := hb1.size
  have HCT := Aside0.mk (HCC.out (.slice A mm cc) w1 (HV0.out.below hb1))
  clear c0 c1 c2 f0 f1 f2 hn hn2 hb1 HL KX KR HB0 HV0
  obtain ⟨c0, c1, c2, f0, f1, f2⟩ := blk3 KX1.out
  by_cases hlt : p < n
  · have hsub : (n : Int) - (p : Int) = (k : Int) := by have := HK.out; omega
    have hk0 : (0 : Int) < k := by omega
    rw [hsub] at hzw
    go_wp2_with (fail)
    refine (HCT.out).mono ?_
    rintro e w2 ⟨u, rfl, hu, hb2⟩
    obtain ⟨A', m', c', rfl⟩ := hu.dg.slice
    have KX2 := Aside0.mk (hp_below KX1.out hb2)
    have KR2 := Aside0.mk (hp_below KR1.out hb2)
    have HB2 := Aside0.mk (below_step HB1.out hb2)
    have hs2 : w1.heap.size ≤ w2.heap.size := hb2.size
    have HU2 := Aside0.mk hu
    clear c0 c1 c2 f0 f1 f2 hu hb2 HCT
    obtain ⟨c0, c1, c2, f0, f1, f2⟩ := blk3 KX2.out
    obtain ⟨d0, d1, d2, g0, g1, g2⟩ := blk3 KR2.out
    go_wp2_with (fail)
    obtain ⟨w6, hw6⟩ : ∃ w6, w6 = ((w2.setCell ⟨w.heap.size + 1, 0, none⟩ (.bool neg)).setCell ⟨w.heap.size + 1, 1, none⟩ (.slice A' m' c')).setCell ⟨w.heap.size + 1, 2, none⟩ (.int .i64 (x + (k : Int))) := ⟨_, rfl⟩
    have hk6 : hp w6 (w.heap.size + 1) = some (.cells #[.bool neg, .slice A' m' c', .int .i64 (x + (k : Int))] 30 (0, 0)) := by
      rw [hw6, hp_here _ _ _ _ _ rfl, hp_here _ _ _ _ _ rfl, hp_here _ _ _ _ _ rfl, KR2.out]
      rfl
    have hb6 : Below w.heap.size w w6 := by rw [hw6]; exact ((HB2.out.setCell (by simp) _).setCell (by simp) _).setCell (by simp) _
    have HU6 : Aside0 (Dq w6 (fun k => P k ∨ w.heap.size ≤ k) (.slice A' m' c') rr) := ⟨by
      rw [hw6]
      have hnP : ¬ (P (w.heap.size + 1) ∨ w1.heap.size ≤ w.heap.size + 1) := fun hk => by
        rcases hk with hk | hk
        · have := HPP.out _ hk; omega
        · omega
      exact (((HU2.out.far hnP _).far hnP _).far hnP _).mono (fun k hk => hk.imp id (fun h => by omega))⟩
    rw [← hw6]
    clear hw6 c0 c1 c2 f0 f1 f2 d0 d1 d2 g0 g1 g2
    obtain ⟨r0, r1, r2, _, _, _⟩ := blk3 hk6
    refine bodyPost_ret (v := .tuple #[.agg #[.bool neg, .slice A' m' c', .int .i64 (x + (k : Int))], .int .i64 rs]) (by simp [results, Tryz.results17, go_sem, r0, r1, r2]) rfl ?_
    exact ⟨A', m', c', by simp, HU6.out, hb6⟩
  · obtain ⟨z, hsub⟩ : ∃ z, (n : Int) - (p : Int) = z := ⟨_, rfl⟩
    have hz0 : z ≤ 0 := by omega
    obtain rfl : k = 0 := by have := HK.out; omega
    rw [hsub] at hzw
    go_wp2_with (fail)
    refine (HCT.out).mono ?_
    rintro e w2 ⟨u, rfl, hu, hb2⟩
    obtain ⟨A', m', c', rfl⟩ := hu.dg.slice
    have KX2 := Aside0.mk (hp_below KX1.out hb2)
    have KR2 := Aside0.mk (hp_below KR1.out hb2)
    have HB2 := Aside0.mk (below_step HB1.out hb2)
    have hs2 : w1.heap.size ≤ w2.heap.size := hb2.size
    have HU2 := Aside0.mk hu
    clear c0 c1 c2 f0 f1 f2 hu hb2 HCT
    obtain ⟨c0, c1, c2, f0, f1, f2⟩ := blk3 KX2.out
    obtain ⟨d0, d1, d2, g0, g1, g2⟩ := blk3 KR2.out
    go_wp2_with (fail)
    obtain ⟨w6, hw6⟩ : ∃ w6, w6 = ((w2.setCell ⟨w.heap.size + 1, 0, none⟩ (.bool neg)).setCell ⟨w.heap.size + 1, 1, none⟩ (.slice A' m' c')).setCell ⟨w.heap.size + 1, 2, none⟩ (.int .i64 x) := ⟨_, rfl⟩
    have hk6 : hp w6 (w.heap.size + 1) = some (.cells #[.bool neg, .slice A' m' c', .int .i64 x] 30 (0, 0)) := by
      rw [hw6, hp_here _ _ _ _ _ rfl, hp_here _ _ _ _ _ rfl, hp_here _ _ _ _ _ rfl, KR2.out]
      rfl
    have hb6 : Below w.heap.size w w6 := by rw [hw6]; exact ((HB2.out.setCell (by simp) _).setCell (by simp) _).setCell (by simp) _
    have HU6 : Aside0 (Dq w6 (fun k => P k ∨ w.heap.size ≤ k) (.slice A' m' c') rr) := ⟨by
      rw [hw6]
      have hnP : ¬ (P (w.heap.size + 1) ∨ w1.heap.size ≤ w.heap.size + 1) := fun hk => by
        rcases hk with hk | hk
        · have := HPP.out _ hk; omega
        · omega
      exact (((HU2.out.far hnP _).far hnP _).far hnP _).mono (fun k hk => hk.imp id (fun h => by omega))⟩
    rw [← hw6]
    clear hw6 c0 c1 c2 f0 f1 f2 d0 d1 d2 g0 g1 g2
    obtain ⟨r0, r1, r2, _, _, _⟩ := blk3 hk6
    refine bodyPost_ret (v := .tuple #[.agg #[.bool neg, .slice A' m' c', .int .i64 x], .int .i64 rs]) (by simp [results, Tryz.results17, go_sem, r0, r1, r2]) rfl ?_
    exact ⟨A', m', c', by simp, HU6.out, hb6⟩
theorem roundS_c (neg : Bool) (A : Option Addr) (mm cc : Nat) (V x m : Int) (b p : Nat) (w : World) (h : Dg w (.slice A mm cc) V) (hV : V + 1 < Lim) (hb : Bits V b) (hb2 : b ≤ 1000000) (hpp : p ≤ 1000000) (hx : -1000000000 ≤ x ∧ x ≤ 1000000000) :
    Calls Tryz.prog 17 #[.agg #[.bool neg, .slice A mm cc, .int .i64 x], .int .i64 (p : Int), .int .i64 m] w fun e w' => ∃ A' m' c', e = .returned (.tuple #[.agg #[.bool neg, .slice A' m' c', .int .i64 (x + (b - p : Nat))], .int .i64 (rside neg m V (b - p) false)]) ∧ Dg w' (.slice A' m' c') (rq neg m V (b - p) false) ∧ Below w.heap.size w w' :=
  (roundQ_c neg A mm cc V x m b p _ w h.dq (fun _ h => h) hV hb hb2 hpp hx).mono (by
    rintro e w' ⟨A', m', c', h1, h2, h3⟩
    exact ⟨A', m', c', h1, h2.dg, h3⟩)
end Go.Proofs.YtfnknldbjckgoaaGreatDoor.Sp
