/-
  FnFrac64 holds for every input.
-/
import Derived.Test.YtgpgacnnkjiadaaGreatDoorFracB
namespace Go.Proofs.YtgpgacnnkjiadaaGreatDoor.fnFrac64
open Go.RowKit Go.Proofs.YtgpgacnnkjiadaaGreatDoorW.PrintWords Go.Proofs.YtgpgacnnkjiadaaGreatDoorW.PrintLast Go.Proofs.YtgpgacnnkjiadaaGreatDoorW.PrintMore Go.Proofs.YtgpgacnnkjiadaaGreatDoor.Dig Go.Proofs.YtgpgacnnkjiadaaGreatDoor.Sp
set_option linter.unusedVariables false
set_option linter.unusedSimpArgs false
theorem isF_c (s neg : Bool) (A A2 A' A2' : Option Addr) (m c m2 c2 m' c' m2' c2' : Nat) (n d : Int) (w : World) (h : Wd w (.slice A m c) (n / Int.gcd n d)) (h2 : Wd w (.slice A2 m2 c2) (d / Int.gcd n d)) (h' : Dg w (.slice A' m' c') n) (h2' : Dg w (.slice A2' m2' c2') d) (hn : n < Lim) (hd : d < Lim) (hd0 : 0 < d) (hs : s = (neg && decide (0 < n))) :
    Calls Tryz.prog 7 #[.agg #[.bool s, .slice A m c, .slice A2 m2 c2], .bool neg, .slice A' m' c', .slice A2' m2' c2'] w fun e w' => e = .returned (.bool true) ∧ Below w.heap.size w w' := by
  obtain ⟨_, _, x, e, q2, q3, q4, q5⟩ := h
  injection e with e1 e2 e3
  subst e1 e2 e3
  obtain ⟨_, _, y, e, r2, r3, r4, r5⟩ := h2
  injection e with e1 e2 e3
  subst e1 e2 e3
  refine (is_c s neg A A2 A' A2' x.length c y.length c2 m' c' m2' c2' x y n d w ⟨_, _, rfl, q2, q3, q4.ok⟩ ⟨_, _, rfl, r2, r3, r4.ok⟩ h' h2' hn hd hd0).mono ?_
  rintro e w' ⟨r, rfl, hr, hb⟩
  have : r = true := hr.2 ⟨⟨hs, q4, q5⟩, r4, r5⟩
  subst this
  exact ⟨rfl, hb⟩
set_option maxHeartbeats 3200000 in
set_option maxRecDepth 100000 in
theorem walk (a : Int) (ha : (Lit.int .i64 a).wf = true) (b : Int) (hb : (Lit.int .i64 b).wf = true) (w : World) :
    Calls Tryz.prog 3 #[.int .i64 a, .int .i64 b] w fun e w' => e = .returned (.bool true) ∧ Below w.heap.size w w' := by
  have hu := Tryz.underlying26
  by_cases hbz : b = 0
  · subst hbz
    have HF := Aside0.mk (frac64_z a w)
    clear ha hb
    go_enter Tryz.func3, Tryz.ntmps3
    go_wp2_with (fail)
    refine (HF.out).mono ?_
    rintro e w1 ⟨rfl, hb1⟩
    have HB1 := Aside0.mk hb1
    clear hb1
    go_wp2_with (fail)
    refine (newFrac_z a _).mono ?_
    rintro e w2 ⟨rfl, hb2⟩
    have HB2 := Aside0.mk (below_step (below_alloc HB1.out (.cells #[.bool false, .slice none 0 0, .slice none 0 0] 26)) hb2)
    clear hb2
    go_wp2_with (fail)
    go_ret
    exact ⟨rfl, below_alloc HB2.out _⟩
  · have HA := Aside0.mk ha
    have HBb := Aside0.mk hb
    have hra := wf_i64 ha
    have hrb := wf_i64 hb
    have HF := Aside0.mk (frac64_c a b w ha hb hbz)
    clear ha hb
    go_enter Tryz.func3, Tryz.ntmps3
    go_wp2_with (fail)
    refine (HF.out).mono ?_
    rintro e w1 ⟨A, m, c, A2, m2, c2, rfl, hv1, hv2, hb1⟩
    have HB1 := Aside0.mk hb1
    have HV1 := Aside0.mk hv1
    have HV2 := Aside0.mk hv2
    obtain ⟨s, hs⟩ : ∃ s, s = ((decide (a < 0) != decide (b < 0)) && decide (a ≠ 0)) := ⟨_, rfl⟩
    have HS : Aside0 (s = ((decide (a < 0) != decide (b < 0)) && decide (0 < (a.natAbs : Int)))) := ⟨by
      rw [hs, show decide (a ≠ 0) = decide (0 < (a.natAbs : Int)) from by
        by_cases h : a = 0
        · subst h; rfl
        · rw [decide_eq_true h, decide_eq_true (by omega)]]⟩
    rw [← hs]
    have HF2 := Aside0.mk (fun W => newFrac_c a b W HA.out HBb.out hbz)
    rw [← hs] at HF2
    have HLA := Aside0.mk (word_Lim (x := (a.natAbs : Int)) (by omega))
    have HLB := Aside0.mk (word_Lim (x := (b.natAbs : Int)) (by omega))
    have HB0 := Aside0.mk (show 0 < (b.natAbs : Int) by omega)
    obtain ⟨ng, hng⟩ : ∃ ng, ng = (decide (a < 0) != decide (b < 0)) := ⟨_, rfl⟩
    rw [← hng] at HS
    have HNG := Aside0.mk hng
    clear hb1 hv1 hv2 hs hng hra hrb HF
    go_wp2_with (fail)
    obtain ⟨w2, hw2⟩ : ∃ w2, w2 = w1.alloc (.cells #[.bool s, .slice A m c, .slice A2 m2 c2] 26) := ⟨_, rfl⟩
    have hb2 : Below w1.heap.size w1 w2 := by rw [hw2]; exact below_alloc (Below.refl _ _) _
    have KX2 := Aside0.mk (show hp w2 w1.heap.size = some (.cells #[.bool s, .slice A m c, .slice A2 m2 c2] 26 (0, 0)) from by rw [hw2]; exact hp_new _ _ _ rfl)
    have HV12 := Aside0.mk (HV1.out.below hb2)
    have HV22 := Aside0.mk (HV2.out.below hb2)
    have HB2 := Aside0.mk (below_step HB1.out hb2)
    rw [← hw2]
    clear hw2 hb2 HB1 HV1 HV2
    refine (HF2.out _).mono ?_
    rintro e w3 ⟨A', m', c', A2', m2', c2', rfl, hu1, hu2, hb3⟩
    have HU1 := Aside0.mk hu1
    have HU2 := Aside0.mk hu2
    have KX3 := Aside0.mk (hp_below KX2.out hb3)
    have HV13 := Aside0.mk (HV12.out.below hb3)
    have HV23 := Aside0.mk (HV22.out.below hb3)
    have HB3 := Aside0.mk (below_step HB2.out hb3)
    clear hu1 hu2 hb3 KX2 HV12 HV22 HB2 HF2
    go_wp2_with (fail)
    obtain ⟨w4, hw4⟩ : ∃ w4, w4 = w3.alloc (.cells #[.bool s, .slice A' m' c', .slice A2' m2' c2'] 26) := ⟨_, rfl⟩
    have hb4 : Below w3.heap.size w3 w4 := by rw [hw4]; exact below_alloc (Below.refl _ _) _
    have KY4 := Aside0.mk (show hp w4 w3.heap.size = some (.cells #[.bool s, .slice A' m' c', .slice A2' m2' c2'] 26 (0, 0)) from by rw [hw4]; exact hp_new _ _ _ rfl)
    have KX4 := Aside0.mk (hp_below KX3.out hb4)
    have HV14 := Aside0.mk (HV13.out.below hb4)
    have HV24 := Aside0.mk (HV23.out.below hb4)
    have HU14 := Aside0.mk (HU1.out.below hb4)
    have HU24 := Aside0.mk (HU2.out.below hb4)
    have HB4 := Aside0.mk (below_step HB3.out hb4)
    rw [← hw4]
    clear hw4 hb4 HB3 HV13 HV23 HU1 HU2 KX3
    refine (whole_c a HA.out _).mono ?_
    rintro e w5 ⟨An, mn, cn, rfl, hn, hb5⟩
    have HN5 := Aside0.mk hn
    have KX5 := Aside0.mk (hp_below KX4.out hb5)
    have KY5 := Aside0.mk (hp_below KY4.out hb5)
    have HV15 := Aside0.mk (HV14.out.below hb5)
    have HV25 := Aside0.mk (HV24.out.below hb5)
    have HU15 := Aside0.mk (HU14.out.below hb5)
    have HU25 := Aside0.mk (HU24.out.below hb5)
    have HB5 := Aside0.mk (below_step HB4.out hb5)
    clear hn hb5 KX4 KY4 HV14 HV24 HU14 HU24 HB4
    go_wp2_with (fail)
    refine (whole_c b HBb.out _).mono ?_
    rintro e w6 ⟨Ad, md, cd, rfl, hd, hb6⟩
    have HD6 := Aside0.mk hd
    have HN6 := Aside0.mk (HN5.out.below hb6)
    have KX6 := Aside0.mk (hp_below KX5.out hb6)
    have KY6 := Aside0.mk (hp_below KY5.out hb6)
    have HV16 := Aside0.mk (HV15.out.below hb6)
    have HV26 := Aside0.mk (HV25.out.below hb6)
    have HU16 := Aside0.mk (HU15.out.below hb6)
    have HU26 := Aside0.mk (HU25.out.below hb6)
    have HB6 := Aside0.mk (below_step HB5.out hb6)
    clear hd hb6 KX5 KY5 HV15 HV25 HU15 HU25 HB5 HN5
    obtain ⟨x0, x1, x2, _, _, _⟩ := blk3 KX6.out
    obtain ⟨y0, y1, y2, _, _, _⟩ := blk3 KY6.out
    go_wp2_with (fail)
    refine (isF_c s _ A A2 An Ad m c m2 c2 mn cn md cd a.natAbs b.natAbs w6 HV16.out HV26.out HN6.out HD6.out HLA.out HLB.out HB0.out (by rw [HS.out, HNG.out]; rfl)).mono ?_
    rintro e w7 ⟨rfl, hb7⟩
    have HN7 := Aside0.mk (HN6.out.below hb7)
    have HD7 := Aside0.mk (HD6.out.below hb7)
    have KY7 := Aside0.mk (hp_below KY6.out hb7)
    have HU17 := Aside0.mk (HU16.out.below hb7)
    have HU27 := Aside0.mk (HU26.out.below hb7)
    have HB7 := Aside0.mk (below_step HB6.out hb7)
    clear hb7 KX6 KY6 HV16 HV26 HU16 HU26 HB6 HN6 HD6 x0 x1 x2 y0 y1 y2
    obtain ⟨y0, y1, y2, _, _, _⟩ := blk3 KY7.out
    go_wp2_with (fail)
    refine (isF_c s _ A' A2' An Ad m' c' m2' c2' mn cn md cd a.natAbs b.natAbs w7 HU17.out HU27.out HN7.out HD7.out HLA.out HLB.out HB0.out (by rw [HS.out, HNG.out]; rfl)).mono ?_
    rintro e w8 ⟨rfl, hb8⟩
    have HB8 := Aside0.mk (below_step HB7.out hb8)
    clear hb8
    go_wp2_with (fail)
    go_ret
    exact ⟨rfl, HB8.out⟩
end Go.Proofs.YtgpgacnnkjiadaaGreatDoor.fnFrac64
