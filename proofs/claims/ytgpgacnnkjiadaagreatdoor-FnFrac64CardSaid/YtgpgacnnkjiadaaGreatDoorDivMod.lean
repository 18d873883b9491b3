/-
  CONTRACTS of the reference: DivMod, Gcd.
-/
import Derived.Test.YtgpgacnnkjiadaaGreatDoorMSpec
namespace Go.Proofs.YtgpgacnnkjiadaaGreatDoor.Sp
open Go.RowKit Go.Proofs.YtgpgacnnkjiadaaGreatDoorW.PrintWords Go.Proofs.YtgpgacnnkjiadaaGreatDoorW.PrintLast Go.Proofs.YtgpgacnnkjiadaaGreatDoorW.PrintMore Go.Proofs.YtgpgacnnkjiadaaGreatDoor.Dig
set_option linter.unusedVariables false
set_option linter.unusedSimpArgs false

theorem Dg.empty (w : World) (A : Option Addr) (c : Nat) : Dg w (.slice A 0 c) 0 := ⟨A, c, [], rfl, Nat.zero_le _, ⟨rfl, by decide, fun h => absurd h (by decide)⟩, Cn_nil _, ev_nil _⟩
/-- What a round of the long division finds and leaves. -/
def DivInv (a b : Int) (la lb : Nat) (i q x : Int) : Prop := a = q * b + x ∧ 0 ≤ q ∧ 0 ≤ x ∧ x < b * 2 ^ (i + 1).toNat ∧ i ≤ (la : Int) - lb
theorem DivInv.start {a b : Int} {la lb : Nat} (ha : Bits a la) (hb : Bits b lb) (hb0 : 0 < b) : DivInv a b la lb ((la : Int) - lb) 0 a := by
  refine ⟨by simp, by omega, ha.1, ?_, Int.le_refl _⟩
  have h1 : (2 : Int) ^ (lb - 1) ≤ b := by
    rcases hb.2.2 with h | h
    · have := hb.pos hb0
      omega
    · exact h
  have h2 := hb.pos hb0
  have h3 : b ≤ b * 2 ^ ((la : Int) - lb + 1).toNat := by
    have h5 : (0 : Int) < 2 ^ ((la : Int) - lb + 1).toNat := Int.pow_pos (by omega)
    have := Int.mul_le_mul_of_nonneg_left (show (1 : Int) ≤ 2 ^ ((la : Int) - lb + 1).toNat by omega) (Int.le_of_lt hb0)
    omega
  rcases Nat.lt_or_ge la lb with h | h
  · have h4 : (2 : Int) ^ la ≤ 2 ^ (lb - 1) := pow_mono (by omega) (by omega)
    have := ha.2.1
    omega
  · have h4 : (2 : Int) ^ (lb - 1) * 2 ^ ((la : Int) - lb + 1).toNat ≤ b * 2 ^ ((la : Int) - lb + 1).toNat := Int.mul_le_mul_of_nonneg_right h1 (Int.le_of_lt (Int.pow_pos (by omega)))
    rw [← Int.pow_add, show lb - 1 + ((la : Int) - lb + 1).toNat = la by omega] at h4
    have := ha.2.1
    omega
theorem DivInv.top {a b : Int} {la lb : Nat} {i q x : Int} (h : DivInv a b la lb i q x) (hi : 0 ≤ i) (ha : Bits a la) (hb : Bits b lb) (hl : la ≤ 1600000) (hb0 : 0 < b) : b * 2 ^ i.toNat < Lim ∧ (2 : Int) ^ i.toNat < Lim ∧ q ≤ a ∧ x ≤ a ∧ i ≤ 1600000 := by
  obtain ⟨h1, h2, h3, h4, h5⟩ := h
  have hp : (0 : Int) < 2 ^ i.toNat := Int.pow_pos (by omega)
  have k1 : b * 2 ^ i.toNat < 2 ^ la := by
    have e1 : b * 2 ^ i.toNat < 2 ^ lb * 2 ^ i.toNat := Int.mul_lt_mul_of_pos_right hb.2.1 hp
    rw [← Int.pow_add] at e1
    have e2 : (2 : Int) ^ (lb + i.toNat) ≤ 2 ^ la := pow_mono (by omega) (by omega)
    omega
  have k2 : (2 : Int) ^ i.toNat ≤ 2 ^ la := pow_mono (by omega) (by omega)
  have k3 : 1 * 2 ^ i.toNat ≤ b * 2 ^ i.toNat := Int.mul_le_mul_of_nonneg_right (by omega) (Int.le_of_lt hp)
  have k4 : q * 1 ≤ q * b := Int.mul_le_mul_of_nonneg_left (by omega) h2
  have k5 : 0 ≤ q * b := Int.mul_nonneg h2 (by omega)
  exact ⟨lt_Lim la k1 hl, lt_Lim la (by omega) hl, by omega, by omega, by omega⟩
theorem DivInv.next {a b : Int} {la lb : Nat} {i q x : Int} (h : DivInv a b la lb i q x) (hi : 0 ≤ i) (hx : ¬ b * 2 ^ i.toNat ≤ x) : DivInv a b la lb (i - 1) q x := by
  obtain ⟨h1, h2, h3, h4, h5⟩ := h
  exact ⟨h1, h2, h3, by rw [show (i - 1 + 1).toNat = i.toNat by omega]; omega, by omega⟩
theorem DivInv.take {a b : Int} {la lb : Nat} {i q x : Int} (h : DivInv a b la lb i q x) (hi : 0 ≤ i) (hx : b * 2 ^ i.toNat ≤ x) : DivInv a b la lb (i - 1) (q + 2 ^ i.toNat) (x - b * 2 ^ i.toNat) := by
  obtain ⟨h1, h2, h3, h4, h5⟩ := h
  have hp : (0 : Int) < 2 ^ i.toNat := Int.pow_pos (by omega)
  refine ⟨?_, by omega, by omega, ?_, by omega⟩
  · generalize (2 : Int) ^ i.toNat = T
    clear h4 h5 hx hp
    grind
  · rw [show (i - 1 + 1).toNat = i.toNat by omega]
    rw [show (i + 1).toNat = i.toNat + 1 by omega, Int.pow_succ, ← Int.mul_assoc] at h4
    omega
theorem DivInv.done {a b : Int} {la lb : Nat} {i q x : Int} (h : DivInv a b la lb i q x) (hi : ¬ 0 ≤ i) : q = a / b ∧ x = a % b := by
  obtain ⟨h1, h2, h3, h4, h5⟩ := h
  rw [show (i + 1).toNat = 0 by omega] at h4
  simp at h4
  have hb : b ≠ 0 := by omega
  constructor
  · rw [h1, Int.add_comm, Int.add_mul_ediv_right _ _ hb, Int.ediv_eq_zero_of_lt h3 h4, Int.zero_add]
  · rw [h1, Int.add_comm, Int.add_mul_emod_self_right, Int.emod_eq_of_lt h3 h4]

set_option maxHeartbeats 1600000 in
set_option maxRecDepth 100000 in
theorem divmod_one (v : Value) (A : Addr) (c : Nat) (a b : Int) (w : World) (h : Dg w v a) (ha : a < Lim) (hb0 : 0 < b) (hb1 : b < 65536) (hx : w.cell? A = some (.int .i64 b)) :
    Calls Tryz.prog 29 #[v, .slice (some A) 1 c] w fun e w' => ∃ q r, e = .returned (.tuple #[q, r]) ∧ Dg w' q (a / b) ∧ Dg w' r (a % b) ∧ Below w.heap.size w w' := by
  have HA := Aside0.mk h
  have HL := Aside0.mk ha
  clear h ha
  go_enter Tryz.func29, Tryz.ntmps29
  go_wp2_with (fail)
  refine (dig_c v a b _ HA.out HL.out hb0 hb1).mono ?_
  rintro e w1 ⟨q, rfl, hq, hb⟩
  have HQ := Aside0.mk hq
  have HB := Aside0.mk hb
  have r0 := Int.emod_nonneg a (show b ≠ 0 by omega)
  have r1 := Int.emod_lt_of_pos a hb0
  obtain ⟨r, hr⟩ : ∃ r, r = a % b := ⟨_, rfl⟩
  rw [← hr] at r0 r1 ⊢
  have HR := Aside0.mk hr
  clear hq hb hr hx
  go_wp2_with (fail)
  refine (small_c r r0 (by omega) _).mono ?_
  rintro e w2 ⟨v2, rfl, hv2, hb2⟩
  have HV2 := Aside0.mk hv2
  have HB2 := Aside0.mk (below_step HB.out hb2)
  have HQ2 := Aside0.mk (HQ.out.below hb2)
  clear hv2 hb2 HB HQ
  go_wp2_with (fail)
  go_ret2
  exact ⟨q, v2, rfl, HQ2.out, by rw [← HR.out]; exact HV2.out, HB2.out⟩
set_option maxHeartbeats 1600000 in
set_option maxRecDepth 100000 in
theorem divmod_more (v : Value) (A : Option Addr) (n c : Nat) (a b : Int) (w : World) (h : Dg w v a) (h' : Dg w (.slice A n c) b) (ha : a < Lim) (hb : b < Lim) (hb0 : 0 < b) (hn : n ≠ 1) :
    Calls Tryz.prog 29 #[v, .slice A n c] w fun e w' => ∃ q r, e = .returned (.tuple #[q, r]) ∧ Dg w' q (a / b) ∧ Dg w' r (a % b) ∧ Below w.heap.size w w' := by
  have HA := Aside0.mk h
  have HB' := Aside0.mk h'
  have HL := Aside0.mk ha
  have HL' := Aside0.mk hb
  clear h h' ha hb
  have hb1 : ((n : Int) == 1) = false := by
    rw [beq_eq_false_iff_ne]
    omega
  go_enter Tryz.func29, Tryz.ntmps29
  go_wp2_with (fail)
  refine (len_c v a _ (HA.out.below ((Below.refl _ _).alloc (Nat.le_refl _) _)) HL.out).mono ?_
  rintro e w1 ⟨la, rfl, hla, hla2, hbl⟩
  have HLA := Aside0.mk hla
  have HB := Aside0.mk (below_step ((Below.refl w.heap.size w).alloc (Nat.le_refl _) (.cells #[] 3)) hbl)
  clear hla hbl
  go_wp2_with (fail)
  refine (len_c (.slice A n c) b _ (HB'.out.below HB.out) HL'.out).mono ?_
  rintro e w2 ⟨lb, rfl, hlb, hlb2, hbl⟩
  have HLB := Aside0.mk hlb
  have HB2 := Aside0.mk (below_step HB.out hbl)
  have hm := HB2.out.size
  have HD := Aside0.mk (DivInv.start HLA.out HLB.out hb0)
  clear hlb hbl HB
  go_wp2_with (fail)
  go_loopw [0, 8, 9] (fun v0 v8 v9 wr => ∃ i q x : Int, v9 = .int .i64 i ∧ -1600001 ≤ i ∧ i ≤ 1600000 ∧ Aside0 (DivInv a b la lb i q x ∧ Dg wr v0 x ∧ Dg wr v8 q) ∧ Aside0 (Below w.heap.size w wr)) (fun _ _ i _ => (intOf i + 1).toNat)
  case atStart => exact ⟨(la : Int) - lb, 0, a, rfl, by omega, by omega, ⟨HD.out, HA.out.below HB2.out, Dg.empty _ _ _⟩, HB2⟩
  case round =>
    clear HB2 HD hm
    obtain ⟨i, q, x, rfl, i0, i1, HD, HB⟩ := hrel
    by_cases hi : 0 ≤ i
    · obtain ⟨t1, t2, t3, t4, t5⟩ := HD.out.1.top hi HLA.out HLB.out hla2 hb0
      have T1 := Aside0.mk t1
      have T2 := Aside0.mk t2
      have T3 := Aside0.mk t3
      have T4 := Aside0.mk t4
      clear t1 t2 t3 t4
      go_wp2_with (fail)
      refine (shl_c (.slice A n c) b i _ (HB'.out.below HB.out) HL'.out hi (by omega)).mono ?_
      rintro e w3 ⟨d, rfl, hd, hb3⟩
      obtain ⟨y, hy⟩ : ∃ y, y = b * 2 ^ i.toNat := ⟨_, rfl⟩
      rw [← hy] at hd
      have HY := Aside0.mk hy
      have HD3 := Aside0.mk hd
      have HX3 := Aside0.mk (HD.out.2.1.below hb3)
      have HQ3 := Aside0.mk (HD.out.2.2.below hb3)
      have HB3 := Aside0.mk (below_step HB.out hb3)
      have HI := Aside0.mk HD.out.1
      clear hd hb3 HB hy HD
      go_wp2_with (fail)
      refine (cmp_c d u0 y x _ HD3.out HX3.out (by rw [HY.out]; exact T1.out)).mono ?_
      rintro e w4 ⟨rfl, hb4⟩
      have HD4 := Aside0.mk (HD3.out.below hb4)
      have HX4 := Aside0.mk (HX3.out.below hb4)
      have HQ4 := Aside0.mk (HQ3.out.below hb4)
      have HB4 := Aside0.mk (below_step HB3.out hb4)
      clear hb4 HD3 HX3 HQ3 HB3
      obtain ⟨cc, hcc⟩ : ∃ cc, cc = cmpI y x := ⟨_, rfl⟩
      rw [← hcc]
      by_cases hle : y ≤ x
      · have hc0 : cc ≤ 0 := by
          rw [hcc]
          unfold cmpI
          split
          · omega
          · split <;> omega
        have HLE := Aside0.mk hle
        clear hcc hle
        go_wp2_with (fail)
        refine (sub_c u0 d x y _ HX4.out HD4.out (by have := T4.out; have := HL.out; omega) HLE.out).mono ?_
        rintro e w5 ⟨v5, rfl, hv5, hb5⟩
        have HX5 := Aside0.mk hv5
        have HQ5 := Aside0.mk (HQ4.out.below hb5)
        have HB5 := Aside0.mk (below_step HB4.out hb5)
        clear hv5 hb5 HX4 HQ4 HB4 HD4
        go_wp2_with (fail)
        refine (bit_c i hi (by omega) _).mono ?_
        rintro e w6 ⟨v6, rfl, hv6, hb6⟩
        have HT6 := Aside0.mk hv6
        have HX6 := Aside0.mk (HX5.out.below hb6)
        have HQ6 := Aside0.mk (HQ5.out.below hb6)
        have HB6 := Aside0.mk (below_step HB5.out hb6)
        clear hv6 hb6 HX5 HQ5 HB5
        go_wp2_with (fail)
        refine (add_c u8 v6 q _ _ HQ6.out HT6.out (by have := T3.out; have := HL.out; omega) T2.out).mono ?_
        rintro e w7 ⟨v7, rfl, hv7, hb7⟩
        have HQ7 := Aside0.mk hv7
        have HX7 := Aside0.mk (HX6.out.below hb7)
        have HB7 := Aside0.mk (below_step HB6.out hb7)
        clear hv7 hb7 HX6 HQ6 HB6 HT6
        go_wp2_with (fail)
        go_roundw
        case rel => first | exact ⟨i - 1, _, _, rfl, by omega, by omega, ⟨HI.out.take hi (by rw [← HY.out]; exact HLE.out), by rw [← HY.out]; exact HX7.out, HQ7.out⟩, HB7⟩ | ((repeat apply Exists.intro); exact ⟨⟨i - 1, _, _, rfl, by omega, by omega, ⟨HI.out.take hi (by rw [← HY.out]; exact HLE.out), by rw [← HY.out]; exact HX7.out, HQ7.out⟩, HB7⟩, rfl⟩) | fail
        case measure => simp [intOf]; omega
      · have hc0 : 0 < cc := by
          rw [hcc, cmpI_gt (by omega)]
          omega
        have HLE := Aside0.mk hle
        clear hcc hle
        go_wp2_with (fail)
        go_roundw
        case rel => first | exact ⟨i - 1, _, _, rfl, by omega, by omega, ⟨HI.out.next hi (by rw [← HY.out]; have := HLE.out; omega), HX4.out, HQ4.out⟩, HB4⟩ | fail
        case measure => simp [intOf]; omega
    · have HI := Aside0.mk (HD.out.1.done hi)
      have HX := Aside0.mk HD.out.2.1
      have HQ := Aside0.mk HD.out.2.2
      clear HD
      go_wp2_with (fail)
      go_ret2
      exact ⟨_, _, rfl, by rw [← HI.out.1]; exact HQ.out, by rw [← HI.out.2]; exact HX.out, HB.out⟩
theorem divmod_c (v u : Value) (a b : Int) (w : World) (h : Dg w v a) (h' : Dg w u b) (ha : a < Lim) (hb : b < Lim) (hb0 : 0 < b) :
    Calls Tryz.prog 29 #[v, u] w fun e w' => ∃ q r, e = .returned (.tuple #[q, r]) ∧ Dg w' q (a / b) ∧ Dg w' r (a % b) ∧ Below w.heap.size w w' := by
  obtain ⟨A, c, l, rfl, h2, h3, h4, h5⟩ := h'
  by_cases hn : l.length = 1
  · obtain ⟨d, rfl⟩ : ∃ d, l = [d] := by
      match l, hn with
      | [d], _ => exact ⟨d, rfl⟩
    have hd := okd_cons.1 h4.ok
    rw [BH_def] at hd
    rw [ev_cons, ev_nil, Int.mul_zero, Int.add_zero] at h5
    subst h5
    obtain ⟨ad, e, hx⟩ := Kd.at_int h3 0 (by omega) (by simp)
    subst e
    exact divmod_one v ad c a d w h ha hb0 hd.1.2 (by simpa [Addr.add, rd] using hx)
  · exact divmod_more v A l.length c a b w h ⟨A, c, l, rfl, h2, h3, h4, h5⟩ ha hb hb0 hn

/-! ### Gcd -/
theorem gcd_step (x y : Int) (hx : 0 ≤ x) (hy : 0 < y) : Int.gcd y (x % y) = Int.gcd x y := by
  obtain ⟨m, rfl⟩ := Int.eq_ofNat_of_zero_le hx
  obtain ⟨n, rfl⟩ := Int.eq_ofNat_of_zero_le (Int.le_of_lt hy)
  rw [← Int.natCast_emod]
  simp only [Int.gcd, Int.natAbs_natCast]
  rw [Nat.gcd_comm m n, Nat.gcd_rec n m, Nat.gcd_comm]
set_option maxHeartbeats 1600000 in
set_option maxRecDepth 100000 in
theorem gcd_c (v u : Value) (a b : Int) (w : World) (h : Dg w v a) (h' : Dg w u b) (ha : a < Lim) (hb : b < Lim) :
    Calls Tryz.prog 28 #[v, u] w fun e w' => ∃ r, e = .returned r ∧ Dg w' r (Int.gcd a b) ∧ Below w.heap.size w w' := by
  have HA := Aside0.mk h
  have HB' := Aside0.mk h'
  have HL := Aside0.mk ha
  have HL' := Aside0.mk hb
  clear h h' ha hb
  go_enter Tryz.func28, Tryz.ntmps28
  go_wp2_with (fail)
  go_loopg [0, 1] b.toNat (fun kq v0 v1 wr => ∃ x y : Int, Aside0 (Dg wr v0 x ∧ Dg wr v1 y ∧ x < Lim ∧ y < Lim ∧ Int.gcd x y = Int.gcd a b ∧ y ≤ kq) ∧ Aside0 (Below w.heap.size w wr))
  case atStart => exact ⟨a, b, ⟨HA.out, HB'.out, HL.out, HL'.out, rfl, by omega⟩, ⟨Below.refl _ _⟩⟩
  case round =>
    obtain ⟨x, y, HD, HB⟩ := hrel
    obtain ⟨A, c, l, e1, h2, h3, h4, h5⟩ := HD.out.2.1
    subst e1
    by_cases hl : 0 < l.length
    · have hy : 0 < y := by
        rw [← h5]
        exact Cn_pos h4 BH_pos (List.length_pos_iff.1 hl)
      clear h2 h3 h4 h5
      go_wp2_with (fail)
      refine (divmod_c u0 (.slice A l.length c) x y _ HD.out.1 HD.out.2.1 HD.out.2.2.1 HD.out.2.2.2.1 hy).mono ?_
      rintro e w1 ⟨q, r, rfl, hq, hr, hb⟩
      have HR := Aside0.mk hr
      have HY := Aside0.mk (HD.out.2.1.below hb)
      have HB1 := Aside0.mk (below_step HB.out hb)
      have r1 := Int.emod_lt_of_pos x hy
      have r0 := Int.emod_nonneg x (show y ≠ 0 by omega)
      have HG := Aside0.mk (show Int.gcd y (x % y) = Int.gcd a b by rw [← HD.out.2.2.2.2.1]; exact gcd_step x y HD.out.1.nonneg hy)
      have HX := Aside0.mk (show x % y < Lim by have := HD.out.2.2.2.1; omega)
      have HY2 := Aside0.mk (show y < Lim ∧ y ≤ gk from ⟨HD.out.2.2.2.1, HD.out.2.2.2.2.2⟩)
      clear hq hr hb HD
      obtain ⟨z, hz⟩ : ∃ z, z = x % y := ⟨_, rfl⟩
      rw [← hz] at HR r0 r1 HG HX
      clear hz
      go_wp2_with (fail)
      go_roundg z.toNat
      case measure => have := HY2.out.2; omega
      case rel => exact ⟨y, z, ⟨HY.out, HR.out, HY2.out.1, HX.out, HG.out, by omega⟩, HB1⟩
    · have hl0 : l = [] := List.eq_nil_of_length_eq_zero (by omega)
      have hy : y = 0 := by rw [← h5, hl0, ev_nil]
      have HX := Aside0.mk (show Dg wr u0 (Int.gcd a b) by rw [← HD.out.2.2.2.2.1, hy, Int.gcd_zero_right]; have h6 := HD.out.1; rwa [show ((x.natAbs : Nat) : Int) = x by have := h6.nonneg; omega])
      clear h2 h3 h4 h5 HD
      go_wp2_with (fail)
      go_ret
      exact ⟨u0, rfl, HX.out, HB.out⟩
end Go.Proofs.YtgpgacnnkjiadaaGreatDoor.Sp
