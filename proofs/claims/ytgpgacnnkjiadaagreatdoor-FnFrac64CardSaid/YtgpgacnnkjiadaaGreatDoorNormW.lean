/-
  CONTRACT of Rat.norm where numerator and denominator are of one word each.
-/
import Derived.Test.YtgpgacnnkjiadaaGreatDoorNormA
import Derived.Test.YtgpgacnnkjiadaaGreatDoorRatImpl
namespace Go.Proofs.YtgpgacnnkjiadaaGreatDoor.Sp
open Go.RowKit Go.Proofs.YtgpgacnnkjiadaaGreatDoorW.PrintWords Go.Proofs.YtgpgacnnkjiadaaGreatDoorW.PrintLast Go.Proofs.YtgpgacnnkjiadaaGreatDoorW.PrintMore Go.Proofs.YtgpgacnnkjiadaaGreatDoor.Dig
set_option linter.unusedVariables false
set_option linter.unusedSimpArgs false
def On3 (g a b : Nat) : Nat → Prop := fun k => k = g ∨ k = a ∨ k = b
set_option maxHeartbeats 3200000 in
set_option maxRecDepth 100000 in
theorem newInt0_c (w : World) : Calls Tryz.prog 34 #[.int .i64 0] w fun e w' => e = .returned (.pointer (some ⟨w.heap.size, 0, none⟩)) ∧ w' = w.alloc (.cells #[.bool false, .slice none 0 0] 38) := by
  go_enter Tryz.func34, Tryz.ntmps34
  go_wp2
  go_ret
  exact ⟨rfl, rfl⟩
set_option maxHeartbeats 3200000 in
set_option maxRecDepth 100000 in
/-- The numerator is 0. -/
theorem normZ_c (g mb : Nat) (A : Option Addr) (ca : Nat) (na nb : Bool) (vb : Value) (d : Int) (w : World) (hg : hp w g = some (.cells #[.bool na, .slice A 0 ca, .bool nb, vb] 40 (0, 0))) (hb : One w mb vb d) (hne : g ≠ mb) :
    Calls Tryz.prog 20 #[.pointer (some ⟨g, 0, none⟩)] w fun e w' => e = .returned (.pointer (some ⟨g, 0, none⟩)) ∧ hp w' g = some (.cells #[.bool false, .slice A 0 ca, .bool nb, vb] 40 (0, 0)) ∧ One w' mb vb 1 ∧ Kept (On2 g mb) w w' := by
  have HG := Aside0.mk hg
  have HO := Aside0.mk hb
  have lg := hp_lt hg
  obtain ⟨c, rfl, hc⟩ := hb.slice
  obtain ⟨c0, c1, c2, c3, f0, f1, f2, f3⟩ := blk4 hg
  obtain ⟨w1, hw1⟩ : ∃ w1, w1 = w.setCell ⟨g, 0, none⟩ (.bool false) := ⟨_, rfl⟩
  have hg1 : hp w1 g = some (.cells #[.bool false, .slice A 0 ca, .bool nb, .slice (some ⟨mb, 0, none⟩) 1 c] 40 (0, 0)) := by rw [hw1, hp_here _ _ _ _ _ rfl, hg]; rfl
  have HS := Aside0.mk (setWord1_c mb _ d 1 w1 (by rw [hw1]; exact hb.set (by simp [hne]) _) (by rw [BW_def]; decide))
  have HG1 := Aside0.mk hg1
  have HK1 := Aside0.mk (show Kept (On2 g mb) w w1 from by rw [hw1]; exact (Kept.refl (On2 g mb) w).setCell (p := ⟨g, 0, none⟩) (.inl (.inl rfl)) _)
  have HW1 := Aside0.mk hw1
  clear hg hb hg1 hw1
  go_enter_defers Tryz.func20, Tryz.ntmps20
  go_wp2_with (fail)
  rw [← HW1.out]
  refine (HS.out).mono ?_
  rintro e w2 ⟨rfl, ho, hk⟩
  have HO2 := Aside0.mk ho
  have HK2 := Aside0.mk (HK1.out.trans hk (fun i hi h => .inr h))
  have hg2 := hp_kept HG1.out hk (show ¬ On mb g from fun h => hne h)
  have HG2 := Aside0.mk hg2
  clear c0 c1 c2 c3 f0 f1 f2 f3 ho hk
  obtain ⟨c0, c1, c2, c3, f0, f1, f2, f3⟩ := blk4 hg2
  clear hg2
  go_wp2_with (fail)
  have hg3 : hp (w2.setCell ⟨g, 3, none⟩ (.slice (some ⟨mb, 0, none⟩) 1 c)) g = some (.cells #[.bool false, .slice A 0 ca, .bool nb, .slice (some ⟨mb, 0, none⟩) 1 c] 40 (0, 0)) := by rw [hp_here _ _ _ _ _ rfl, HG2.out]; rfl
  simp [bodyPostD, Leaves, settle, results, Tryz.results20, go_sem]
  exact ⟨hg3, HO2.out.set (by simp [hne]) _, HK2.out.setCell (p := ⟨g, 3, none⟩) (.inl (.inl rfl)) _⟩
set_option maxHeartbeats 3200000 in
set_option maxRecDepth 100000 in
/-- Neither of them is 0. -/
theorem normP_c (g ma mb : Nat) (na nb : Bool) (va vb : Value) (n d : Int) (w : World) (hg : hp w g = some (.cells #[.bool na, va, .bool nb, vb] 40 (0, 0))) (ha : One w ma va n) (hb : One w mb vb d) (hga : g ≠ ma) (hgb : g ≠ mb) (hab : ma ≠ mb) (hn0 : 0 < n) (hd0 : 0 < d) :
    Calls Tryz.prog 20 #[.pointer (some ⟨g, 0, none⟩)] w fun e w' => e = .returned (.pointer (some ⟨g, 0, none⟩)) ∧ RatB w' g na (n / Int.gcd n d) (d / Int.gcd n d) ∧ Kept (On3 g ma mb) w w' := by
  obtain ⟨f, hf⟩ : ∃ f : Int, f = Int.gcd n d := ⟨_, rfl⟩
  rw [← hf]
  have hf0 : 0 < f := by have := Int.gcd_pos_of_ne_zero_right n (show d ≠ 0 by omega); omega
  have hfn : n % f = 0 := by rw [hf]; exact Int.emod_eq_zero_of_dvd (Int.gcd_dvd_left n d)
  have hfd : d % f = 0 := by rw [hf]; exact Int.emod_eq_zero_of_dvd (Int.gcd_dvd_right n d)
  have hfl : f ≤ n ∧ f ≤ d := by rw [hf]; exact ⟨Int.le_of_dvd hn0 (Int.gcd_dvd_left n d), Int.le_of_dvd hd0 (Int.gcd_dvd_right n d)⟩
  have HFQ := Aside0.mk hf
  clear hf
  have no := ha.ok
  have dO := hb.ok
  have HG := Aside0.mk hg
  have HA := Aside0.mk ha
  have HBd := Aside0.mk hb
  have lg := hp_lt hg
  have la := ha.lt
  have lb := hb.lt
  obtain ⟨c0, c1, c2, c3, f0, f1, f2, f3⟩ := blk4 hg
  obtain ⟨ca, rfl, hca⟩ := ha.slice
  obtain ⟨cb, rfl, hcb⟩ := hb.slice
  clear hg ha hb
  go_enter_defers Tryz.func20, Tryz.ntmps20
  go_wp2_with ((fail_if_success go_at_call 35); go_in)
  obtain ⟨w1, hw1⟩ : ∃ w1, w1 = ((w.setCell ⟨g, 0, none⟩ (.bool false)).setCell ⟨g, 2, none⟩ (.bool false)).alloc (.cells #[.pointer none] 87) := ⟨_, rfl⟩
  have hs1 : w.heap.size < w1.heap.size := by rw [hw1]; simp
  have hb0 := below_alloc (Below.refl ((w.setCell ⟨g, 0, none⟩ (.bool false)).setCell ⟨g, 2, none⟩ (.bool false)).heap.size ((w.setCell ⟨g, 0, none⟩ (.bool false)).setCell ⟨g, 2, none⟩ (.bool false))) (.cells #[.pointer none] 87)
  have HG1 := Aside0.mk (show hp w1 g = some (.cells #[.bool false, .slice (some ⟨ma, 0, none⟩) 1 ca, .bool false, .slice (some ⟨mb, 0, none⟩) 1 cb] 40 (0, 0)) from by rw [hw1, hp_old _ _ _ (by simpa using lg), hp_here _ _ _ _ _ rfl, hp_here _ _ _ _ _ rfl, HG.out]; rfl)
  have HT1 := Aside0.mk (show hp w1 w.heap.size = some (.cells #[.pointer none] 87 (0, 0)) from by rw [hw1]; exact hp_new _ _ _ (by simp))
  have HA1 := Aside0.mk (show One w1 ma (.slice (some ⟨ma, 0, none⟩) 1 ca) n from by rw [hw1]; exact ((HA.out.set (by simp [hga]) _).set (by simp [hga]) _).below hb0)
  have HB1 := Aside0.mk (show One w1 mb (.slice (some ⟨mb, 0, none⟩) 1 cb) d from by rw [hw1]; exact ((HBd.out.set (by simp [hgb]) _).set (by simp [hgb]) _).below hb0)
  have HK1 := Aside0.mk (show Kept (On3 g ma mb) w w1 from by rw [hw1]; exact (((Kept.refl (On3 g ma mb) w).setCell (p := ⟨g, 0, none⟩) (.inl (.inl rfl)) _).setCell (p := ⟨g, 2, none⟩) (.inl (.inl rfl)) _).alloc _)
  rw [← hw1]
  clear hw1 hb0 c0 c1 c2 c3 f0 f1 f2 f3
  obtain ⟨c0, c1, c2, c3, f0, f1, f2, f3⟩ := blk4 HG1.out
  refine start_ (n := 9) (S := fun w' => w'.cell? ⟨g, 0, none⟩ = some (.bool false)) (ds := []) #[false, false, false, false, false, false, false, false, false] (by kernel_rfl) rfl rfl ((by go_simp)) (fun hHeld => ?_)
  refine pure_ (i := 1) (N := some 52) (v := ?_) (a' := ?_) #[false, true, false, false, false, false, false, false, false] rfl rfl (by kernel_rfl) (fun _ _ _ h => norm_put (by decide) h) (Or.inl ⟨by rfl, ?_⟩) ?_ ?_
  rotate_left
  · intro w'
    go_simp
    with_reducible rfl
  rotate_left
  · simp only [Act.put, List.setIfInBounds_toArray, List.set_cons_zero, List.set_cons_succ, i64_w, i32_w]
    rfl
  refine pure_ (i := 2) (N := some 53) (v := ?_) (a' := ?_) #[false, true, true, false, false, false, false, false, false] rfl rfl (by kernel_rfl) (fun _ _ _ h => norm_put (by decide) h) (Or.inl ⟨by rfl, ?_⟩) ?_ ?_
  rotate_left
  · intro w'
    go_simp
    with_reducible rfl
  rotate_left
  · simp only [Act.put, List.setIfInBounds_toArray, List.set_cons_zero, List.set_cons_succ, i64_w, i32_w]
    rfl
  refine pure_ (i := 3) (N := some 54) (v := ?_) (a' := ?_) #[false, true, true, true, false, false, false, false, false] rfl rfl (by kernel_rfl) (fun _ _ _ h => norm_put (by decide) h) (Or.inl ⟨by rfl, ?_⟩) ?_ ?_
  rotate_left
  · intro w'
    go_simp
    with_reducible rfl
  rotate_left
  · simp only [Act.put, List.setIfInBounds_toArray, List.set_cons_zero, List.set_cons_succ, i64_w, i32_w]
    rfl
  refine pure_ (i := 4) (N := some 55) (v := ?_) (a' := ?_) #[false, true, true, true, true, false, false, false, false] rfl rfl (by kernel_rfl) (fun _ _ _ h => norm_put (by decide) h) (Or.inl ⟨by rfl, ?_⟩) ?_ ?_
  rotate_left
  · intro w'
    go_simp
    with_reducible rfl
  rotate_left
  · simp only [Act.put, List.setIfInBounds_toArray, List.set_cons_zero, List.set_cons_succ, i64_w, i32_w]
    rfl
  refine pure_ (i := 5) (N := some 56) (v := ?_) (a' := ?_) #[false, true, true, true, true, true, false, false, false] rfl rfl (by kernel_rfl) (fun _ _ _ h => norm_put (by decide) h) (Or.inl ⟨by rfl, ?_⟩) ?_ ?_
  rotate_left
  · intro w'
    go_simp
    with_reducible rfl
  rotate_left
  · simp only [Act.put, List.setIfInBounds_toArray, List.set_cons_zero, List.set_cons_succ, i64_w, i32_w]
    rfl
  refine pure_ (i := 6) (N := some 57) (v := ?_) (a' := ?_) #[false, true, true, true, true, true, true, false, false] rfl rfl (by kernel_rfl) (fun _ _ _ h => norm_put (by decide) h) (Or.inl ⟨by rfl, ?_⟩) ?_ ?_
  rotate_left
  · intro w'
    go_simp
    with_reducible rfl
  rotate_left
  · simp only [Act.put, List.setIfInBounds_toArray, List.set_cons_zero, List.set_cons_succ, i64_w, i32_w]
    rfl
  refine one_ (i := 0) (N := some 51) #[true, true, true, true, true, true, true, false, false] rfl rfl (by kernel_rfl) (by decide) (fun K hK => ?_)
  refine goes_ Tryz.func34 (by kernel_rfl) rfl #[.int .i64 0] (by rfl) rfl rfl (by simp only [List.map_toArray, List.map_cons, List.map_nil]; rfl) ?_
  with_reducible refine (newInt0_c _).mono ?_
  rintro e w2 ⟨rfl, hw2⟩
  refine ⟨_, rfl, ?_⟩
  have hs2 : w1.heap.size < w2.heap.size := by rw [hw2]; simp
  have hb2 : Below w1.heap.size w1 w2 := by rw [hw2]; exact below_alloc (Below.drew (Below.refl _ _)) _
  have q0 := (hb2.cell (p := ⟨g, 0, none⟩) (hp_lt HG1.out)).trans c0
  have HI2 := Aside0.mk (show hp w2 w1.heap.size = some (.cells #[.bool false, .slice none 0 0] 38 (0, 0)) from by rw [hw2]; exact hp_new _ _ _ rfl)
  have HG2 := Aside0.mk (hp_below HG1.out hb2)
  have HT2 := Aside0.mk (hp_below HT1.out hb2)
  have HA2 := Aside0.mk (HA1.out.below hb2)
  have HB2 := Aside0.mk (HB1.out.below hb2)
  have HK2 := Aside0.mk (HK1.out.trans (Kept.of_below (S := On3 g ma mb) hb2) (fun i hi h => h))
  clear hw2 hb2 HG1 HT1 HA1 HB1 HK1
  refine hK.out _ _ (q0) (fun hHeld => ?_)
  clear hK K
  refine norm_ (a' := ?_) ?_ ?_
  rotate_left
  · show Act.put _ (some 51) _ = _
    simp only [Act.put, List.setIfInBounds_toArray, List.set_cons_zero, List.set_cons_succ, i64_w, i32_w]
    rfl
  refine one_ (i := 7) (N := some 58) #[true, true, true, true, true, true, true, true, false] rfl rfl (by kernel_rfl) (by decide) (fun K hK => ?_)
  refine goes_ Tryz.func35 (by kernel_rfl) rfl #[.pointer (some ⟨w1.heap.size, 0, none⟩), .pointer none, .pointer none, .pointer (some ⟨g, 0, none⟩), .pointer (some ⟨g, 2, none⟩)] (by rfl) rfl rfl (by simp only [List.map_toArray, List.map_cons, List.map_nil]; rfl) ?_
  with_reducible refine (gcdW_c g w1.heap.size ma mb _ _ n d w2 HG2.out HI2.out (by omega) HA2.out HB2.out hn0 hd0 (by omega) (by omega)).mono ?_
  rintro e w3 ⟨rfl, mf, cf, hf3, ho3, hm3, hk3⟩
  refine ⟨_, rfl, ?_⟩
  have q1 := hk3.cell q0 (show ¬ On w1.heap.size g from fun h => by have : g = w1.heap.size := h; omega)
  rw [← HFQ.out] at ho3
  have HF3 := Aside0.mk hf3
  have HO3 := Aside0.mk ho3
  have HG3 := Aside0.mk (hp_kept HG2.out hk3 (show ¬ On w1.heap.size g from fun h => by have : g = w1.heap.size := h; omega))
  have HT3 := Aside0.mk (hp_kept HT2.out hk3 (show ¬ On w1.heap.size w.heap.size from fun h => by have : w.heap.size = w1.heap.size := h; omega))
  have HA3 := Aside0.mk (HA2.out.kept hk3 (show ¬ On w1.heap.size ma from fun h => by have : ma = w1.heap.size := h; omega))
  have HB3 := Aside0.mk (HB2.out.kept hk3 (show ¬ On w1.heap.size mb from fun h => by have : mb = w1.heap.size := h; omega))
  have HK3 := Aside0.mk (HK2.out.trans hk3 (fun i hi h => by have : i = w1.heap.size := h; omega))
  have hs3 := hk3.size
  clear hf3 ho3 hk3 HG2 HT2 HA2 HB2 HK2 q0 HI2
  refine hK.out _ _ (q1) (fun hHeld => ?_)
  clear hK K
  refine norm_ (a' := ?_) ?_ ?_
  rotate_left
  · show Act.put _ (some 58) _ = _
    simp only [Act.put, List.setIfInBounds_toArray, List.set_cons_zero, List.set_cons_succ, i64_w, i32_w]
    rfl
  refine pure_ (i := 8) (N := some 5) (v := ?_) (a' := ?_) #[true, true, true, true, true, true, true, true, true] rfl rfl (by kernel_rfl) (fun _ _ _ h => norm_put (by decide) h) (Or.inl ⟨by rfl, ?_⟩) ?_ ?_
  rotate_left
  · intro w'
    go_simp
    with_reducible rfl
  rotate_left
  · simp only [Act.put, List.setIfInBounds_toArray, List.set_cons_zero, List.set_cons_succ, i64_w, i32_w]
    rfl
  refine done_ (by kernel_rfl) ?_
  obtain ⟨w4, hw4⟩ : ∃ w4, w4 = (w3.alloc (.cells #[.int .u64 1] 67)).alloc (.cells #[.bool false, .slice (some ⟨w3.heap.size, 0, none⟩) 1 1] 38) := ⟨_, rfl⟩
  have hs4 : w3.heap.size + 1 < w4.heap.size := by rw [hw4]; simp
  have hb4 : Below w3.heap.size w3 w4 := by rw [hw4]; exact below_alloc (below_alloc (Below.refl _ _) _) _
  have HC := Aside0.mk (intCmp1_c w1.heap.size (w3.heap.size + 1) mf w3.heap.size (.slice (some ⟨mf, 0, none⟩) 1 cf) (.slice (some ⟨w3.heap.size, 0, none⟩) 1 1) f 1 w4 (hp_below HF3.out hb4) (by rw [hw4]; exact hp_new _ _ _ (by simp)) (by omega) (HO3.out.below hb4) ⟨[], rfl, by rw [hw4, hp_old _ _ _ (by simp)]; exact hp_new _ _ _ rfl, okd_cons.2 ⟨by rw [BW_def]; decide, okd_nil _⟩, by simp⟩ hf0 (by decide))
  have HG4 := Aside0.mk (hp_below HG3.out hb4)
  have HT4 := Aside0.mk (hp_below HT3.out hb4)
  have HF4 := Aside0.mk (hp_below HF3.out hb4)
  have HO4 := Aside0.mk (HO3.out.below hb4)
  have HA4 := Aside0.mk (HA3.out.below hb4)
  have HB4 := Aside0.mk (HB3.out.below hb4)
  have HK4 := Aside0.mk (HK3.out.trans (Kept.of_below (S := On3 g ma mb) hb4) (fun i hi h => h))
  have HW4 := Aside0.mk hw4
  clear hw4 hb4 c0 c1 c2 c3 f0 f1 f2 f3 q1 HG3 HT3 HF3 HO3 HA3 HB3 HK3
  go_wp2_with ((fail_if_success go_at_call 36); go_in)
  rw [← HW4.out]
  refine (HC.out).mono ?_
  rintro e w5 ⟨rfl, hb5⟩
  have hs5 := hb5.size
  have HG5 := Aside0.mk (hp_below HG4.out hb5)
  have HT5 := Aside0.mk (hp_below HT4.out hb5)
  have HF5 := Aside0.mk (hp_below HF4.out hb5)
  have HO5 := Aside0.mk (HO4.out.below hb5)
  have HA5 := Aside0.mk (HA4.out.below hb5)
  have HB5 := Aside0.mk (HB4.out.below hb5)
  have HK5 := Aside0.mk (HK4.out.trans (Kept.of_below (S := On3 g ma mb) hb5) (fun i hi h => h))
  clear hb5 HG4 HT4 HF4 HO4 HA4 HB4 HK4 HC HW4
  obtain ⟨c0, c1, c2, c3, f0, f1, f2, f3⟩ := blk4 HG5.out
  by_cases hf1 : f = 1
  · subst hf1
    have hc : cmpI (1 : Int) 1 = 0 := cmpI_self 1
    rw [hc]
    go_wp2_with (fail)
    have hr9 : RatB (w5.setCell ⟨g, 0, none⟩ (.bool na)) g na (n / 1) (d / 1) := by
      rw [Int.ediv_one, Int.ediv_one]
      exact ⟨_, _, false, by rw [hp_here _ _ _ _ _ rfl, HG5.out]; rfl, ((HA5.out.set (by simp [hga]) _).nr hn0).wd, ((HB5.out.set (by simp [hgb]) _).nr hd0).wd⟩
    have hr8 : RatB (w5.setCell ⟨g, 0, none⟩ (.bool na)) g na n d := by
      rw [Int.ediv_one, Int.ediv_one] at hr9
      exact hr9
    refine leaves_cons (f := 33) (args := #[.pointer (some ⟨w.heap.size, 0, none⟩)]) (by simp) (by simp [go_sem]) ?_
    refine (free_d w.heap.size _ _ (by rw [hp_other _ _ _ _ (by simp; omega)]; exact HT5.out)).mono ?_
    rintro e u' w'' ⟨rfl, rfl, rfl⟩
    simp [Leaves, settle, results, Tryz.results20, go_sem]
    exact ⟨by first | exact hr9 | exact hr8, HK5.out.setCell (p := ⟨g, 0, none⟩) (.inl (.inl rfl)) _⟩
  · have hc : cmpI f 1 = 1 := cmpI_gt (by omega)
    rw [hc]
    go_wp2_with (fail)
    have hf2 : 2 ≤ f := by omega
    have hmf : mf ≠ ma ∧ mf ≠ mb ∧ mf ≠ g ∧ mf ≠ w.heap.size := by omega
    have hbw : (BW : Int) ≤ BW ^ 100000 := by
      have h := pow_mono BW_pos (show 1 ≤ 100000 by omega)
      rwa [Int.pow_one] at h
    have hmf1 : ¬ On ma mf := fun h => hmf.1 h
    have hmf2 : ¬ On mb mf := fun h => hmf.2.1 h
    obtain ⟨fb0, fb1, ff0, ff1⟩ := blk2 HF5.out
    refine start_ (n := 24) (S := fun w' => w'.cell? ⟨g, 1, none⟩ = some (.slice (some ⟨ma, 0, none⟩) 1 ca) ∧ w'.cell? ⟨w1.heap.size, 1, none⟩ = some (.slice (some ⟨mf, 0, none⟩) 1 cf)) (ds := [23]) #[false, false, false, false, false, false, false, false, false, false, false, false, false, false, false, false, false, false, false, false, false, false, false, false] (by kernel_rfl) rfl rfl ⟨(by go_simp), (by go_simp)⟩ (fun hHeld => ?_)
    refine pure_ (i := 0) (N := some 64) (v := ?_) (a' := ?_) #[true, false, false, false, false, false, false, false, false, false, false, false, false, false, false, false, false, false, false, false, false, false, false, false] rfl rfl (by kernel_rfl) (fun _ _ _ h => norm_put (by decide) h) (Or.inl ⟨by rfl, ?_⟩) ?_ ?_
    rotate_left
    · intro w'
      go_simp
      with_reducible rfl
    rotate_left
    · simp only [Act.put, List.setIfInBounds_toArray, List.set_cons_zero, List.set_cons_succ, i64_w, i32_w]
      rfl
    refine pure_ (i := 1) (N := some 65) (v := ?_) (a' := ?_) #[true, true, false, false, false, false, false, false, false, false, false, false, false, false, false, false, false, false, false, false, false, false, false, false] rfl rfl (by kernel_rfl) (fun _ _ _ h => norm_put (by decide) h) (Or.inl ⟨by rfl, ?_⟩) ?_ ?_
    rotate_left
    · intro w'
      go_simp
      with_reducible rfl
    rotate_left
    · simp only [Act.put, List.setIfInBounds_toArray, List.set_cons_zero, List.set_cons_succ, i64_w, i32_w]
      rfl
    refine pure_ (i := 2) (N := some 66) (v := ?_) (a' := ?_) #[true, true, true, false, false, false, false, false, false, false, false, false, false, false, false, false, false, false, false, false, false, false, false, false] rfl rfl (by kernel_rfl) (fun _ _ _ h => norm_put (by decide) h) (Or.inl ⟨by rfl, ?_⟩) ?_ ?_
    rotate_left
    · intro w'
      go_simp
      with_reducible rfl
    rotate_left
    · simp only [Act.put, List.setIfInBounds_toArray, List.set_cons_zero, List.set_cons_succ, i64_w, i32_w]
      rfl
    refine pure_ (i := 3) (N := some 67) (v := ?_) (a' := ?_) #[true, true, true, true, false, false, false, false, false, false, false, false, false, false, false, false, false, false, false, false, false, false, false, false] rfl rfl (by kernel_rfl) (fun _ _ _ h => norm_put (by decide) h) (Or.inl ⟨by rfl, ?_⟩) ?_ ?_
    rotate_left
    · intro w'
      go_simp
      with_reducible rfl
    rotate_left
    · simp only [Act.put, List.setIfInBounds_toArray, List.set_cons_zero, List.set_cons_succ, i64_w, i32_w]
      rfl
    refine pure_ (i := 4) (N := some 68) (v := ?_) (a' := ?_) #[true, true, true, true, true, false, false, false, false, false, false, false, false, false, false, false, false, false, false, false, false, false, false, false] rfl rfl (by kernel_rfl) (fun _ _ _ h => norm_put (by decide) h) (Or.inl ⟨by rfl, ?_⟩) ?_ ?_
    rotate_left
    · intro w'
      go_simp
      with_reducible rfl
    rotate_left
    · simp only [Act.put, List.setIfInBounds_toArray, List.set_cons_zero, List.set_cons_succ, i64_w, i32_w]
      rfl
    refine pure_ (i := 6) (N := some 70) (v := ?_) (a' := ?_) #[true, true, true, true, true, false, true, false, false, false, false, false, false, false, false, false, false, false, false, false, false, false, false, false] rfl rfl (by kernel_rfl) (fun _ _ _ h => norm_put (by decide) h) (Or.inl ⟨by rfl, ?_⟩) ?_ ?_
    rotate_left
    · intro w'
      go_simp
      with_reducible rfl
    rotate_left
    · simp only [Act.put, List.setIfInBounds_toArray, List.set_cons_zero, List.set_cons_succ, i64_w, i32_w]
      rfl
    refine pure_ (i := 7) (N := some 71) (v := ?_) (a' := ?_) #[true, true, true, true, true, false, true, true, false, false, false, false, false, false, false, false, false, false, false, false, false, false, false, false] rfl rfl (by kernel_rfl) (fun _ _ _ h => norm_put (by decide) h) (Or.inl ⟨by rfl, ?_⟩) ?_ ?_
    rotate_left
    · intro w'
      go_simp
      with_reducible rfl
    rotate_left
    · simp only [Act.put, List.setIfInBounds_toArray, List.set_cons_zero, List.set_cons_succ, i64_w, i32_w]
      rfl
    refine pure_ (i := 8) (N := some 72) (v := ?_) (a' := ?_) #[true, true, true, true, true, false, true, true, true, false, false, false, false, false, false, false, false, false, false, false, false, false, false, false] rfl rfl (by kernel_rfl) (fun _ _ _ h => norm_put (by decide) h) (Or.inl ⟨by rfl, ?_⟩) ?_ ?_
    rotate_left
    · intro w'
      go_simp
      with_reducible rfl
    rotate_left
    · simp only [Act.put, List.setIfInBounds_toArray, List.set_cons_zero, List.set_cons_succ, i64_w, i32_w]
      rfl
    refine pure_ (i := 9) (N := some 73) (v := ?_) (a' := ?_) #[true, true, true, true, true, false, true, true, true, true, false, false, false, false, false, false, false, false, false, false, false, false, false, false] rfl rfl (by kernel_rfl) (fun _ _ _ h => norm_put (by decide) h) (Or.inl ⟨by rfl, ?_⟩) ?_ ?_
    rotate_left
    · intro w'
      go_simp
      with_reducible rfl
    rotate_left
    · simp only [Act.put, List.setIfInBounds_toArray, List.set_cons_zero, List.set_cons_succ, i64_w, i32_w]
      rfl
    refine pure_ (i := 10) (N := some 74) (v := ?_) (a' := ?_) #[true, true, true, true, true, false, true, true, true, true, true, false, false, false, false, false, false, false, false, false, false, false, false, false] rfl rfl (by kernel_rfl) (fun _ _ _ h => norm_put (by decide) h) (Or.inl ⟨by rfl, ?_⟩) ?_ ?_
    rotate_left
    · intro w'
      go_simp
      with_reducible rfl
    rotate_left
    · simp only [Act.put, List.setIfInBounds_toArray, List.set_cons_zero, List.set_cons_succ, i64_w, i32_w]
      rfl
    refine pure_ (i := 12) (N := some 76) (v := ?_) (a' := ?_) #[true, true, true, true, true, false, true, true, true, true, true, false, true, false, false, false, false, false, false, false, false, false, false, false] rfl rfl (by kernel_rfl) (fun _ _ _ h => norm_put (by decide) h) (Or.inl ⟨by rfl, ?_⟩) ?_ ?_
    rotate_left
    · intro w'
      go_simp
      with_reducible rfl
    rotate_left
    · simp only [Act.put, List.setIfInBounds_toArray, List.set_cons_zero, List.set_cons_succ, i64_w, i32_w]
      rfl
    refine pure_ (i := 13) (N := some 77) (v := ?_) (a' := ?_) #[true, true, true, true, true, false, true, true, true, true, true, false, true, true, false, false, false, false, false, false, false, false, false, false] rfl rfl (by kernel_rfl) (fun _ _ _ h => norm_put (by decide) h) (Or.inl ⟨by rfl, ?_⟩) ?_ ?_
    rotate_left
    · intro w'
      go_simp
      with_reducible rfl
    rotate_left
    · simp only [Act.put, List.setIfInBounds_toArray, List.set_cons_zero, List.set_cons_succ, i64_w, i32_w]
      rfl
    refine pure_ (i := 14) (N := some 78) (v := ?_) (a' := ?_) #[true, true, true, true, true, false, true, true, true, true, true, false, true, true, true, false, false, false, false, false, false, false, false, false] rfl rfl (by kernel_rfl) (fun _ _ _ h => norm_put (by decide) h) (Or.inl ⟨by rfl, ?_⟩) ?_ ?_
    rotate_left
    · intro w'
      go_simp
      with_reducible rfl
    rotate_left
    · simp only [Act.put, List.setIfInBounds_toArray, List.set_cons_zero, List.set_cons_succ, i64_w, i32_w]
      rfl
    refine take_ (i := 5) (N := some 69) (v := ?_) (a' := ?_) #[true, true, true, true, true, true, true, true, true, true, true, false, true, true, true, false, false, false, false, false, false, false, false, false] rfl rfl (by kernel_rfl) (fun _ _ _ h => norm_put (by decide) h) (Or.inl ⟨by rfl, ?_⟩) hHeld ?_ ?_
    rotate_left
    · rintro w' ⟨s0, s1⟩
      go_simp
      with_reducible rfl
    rotate_left
    · simp only [Act.put, List.setIfInBounds_toArray, List.set_cons_zero, List.set_cons_succ, i64_w, i32_w]
      rfl
    refine take_ (i := 11) (N := some 75) (v := ?_) (a' := ?_) #[true, true, true, true, true, true, true, true, true, true, true, true, true, true, true, false, false, false, false, false, false, false, false, false] rfl rfl (by kernel_rfl) (fun _ _ _ h => norm_put (by decide) h) (Or.inl ⟨by rfl, ?_⟩) hHeld ?_ ?_
    rotate_left
    · rintro w' ⟨s0, s1⟩
      go_simp
      with_reducible rfl
    rotate_left
    · simp only [Act.put, List.setIfInBounds_toArray, List.set_cons_zero, List.set_cons_succ, i64_w, i32_w]
      rfl
    refine take_ (i := 15) (N := some 79) (v := ?_) (a' := ?_) #[true, true, true, true, true, true, true, true, true, true, true, true, true, true, true, true, false, false, false, false, false, false, false, false] rfl rfl (by kernel_rfl) (fun _ _ _ h => norm_put (by decide) h) (Or.inl ⟨by rfl, ?_⟩) hHeld ?_ ?_
    rotate_left
    · rintro w' ⟨s0, s1⟩
      go_simp
      with_reducible rfl
    rotate_left
    · simp only [Act.put, List.setIfInBounds_toArray, List.set_cons_zero, List.set_cons_succ, i64_w, i32_w]
      rfl
    refine one_ (i := 16) (N := some 80) #[true, true, true, true, true, true, true, true, true, true, true, true, true, true, true, true, true, false, false, false, false, false, false, false] rfl rfl (by kernel_rfl) (by decide) (fun K hK => ?_)
    refine goes_ Tryz.func38 (by kernel_rfl) rfl #[.slice (some ⟨ma, 0, none⟩) 1 ca, .pointer (some ⟨w.heap.size, 0, none⟩), .slice none 0 0, .slice (some ⟨ma, 0, none⟩) 1 ca, .slice (some ⟨mf, 0, none⟩) 1 cf] (by rfl) rfl rfl (by simp only [List.map_toArray, List.map_cons, List.map_nil]; rfl) ?_
    with_reducible refine (natDiv1_c 0 mf (.pointer (some ⟨w.heap.size, 0, none⟩)) (.slice (some ⟨ma, 0, none⟩) 1 ca) (.slice (some ⟨mf, 0, none⟩) 1 cf) (On ma) n f _ ((HA5.out.below (below_drew (Below.refl _ _))).nr hn0) hn0 (HO5.out.below (below_drew (Below.refl _ _))) hf2 hfn hmf1 (by omega)).mono ?_
    rintro e w6 ⟨q6, rfl, hq6, hk6'⟩
    refine ⟨_, rfl, ?_⟩
    have hk6 : Kept (On ma) w5 w6 := (Kept.of_below (S := On ma) (below_drew (Below.refl _ _))).trans hk6' (fun i hi h => h)
    obtain ⟨A6, n6, c6, rfl⟩ := hq6.slice
    have HQ6 := Aside0.mk (show NR w6 (fun i => On ma i ∨ w5.heap.size ≤ i) (.slice A6 n6 c6) (n / f) from hq6)
    have HG6 := Aside0.mk (hp_kept HG5.out hk6 (show ¬ On ma g from fun h => hga h))
    have HT6 := Aside0.mk (hp_kept HT5.out hk6 (show ¬ On ma w.heap.size from fun h => by have : w.heap.size = ma := h; omega))
    have HF6 := Aside0.mk (hp_kept HF5.out hk6 (show ¬ On ma w1.heap.size from fun h => by have : w1.heap.size = ma := h; omega))
    have HO6 := Aside0.mk (HO5.out.kept hk6 (show ¬ On ma mf from fun h => hmf.1 h))
    have HB6 := Aside0.mk (HB5.out.kept hk6 (show ¬ On ma mb from fun h => hab h.symm))
    have HK6 := Aside0.mk (HK5.out.trans hk6 (fun i hi h => .inr (.inl h)))
    have hs6 := hk6.size
    obtain ⟨_, q1, _, _, _, g1, _, _⟩ := blk4 HG6.out
    obtain ⟨_, q2, _, _⟩ := blk2 HF6.out
    clear hk6 hk6' hq6 c0 c1 c2 c3 f0 f1 f2 f3 fb0 fb1 ff0 ff1
    refine hK.out _ _ ⟨q1, q2⟩ (fun hHeld => ?_)
    clear hK K
    refine norm_ (a' := ?_) ?_ ?_
    rotate_left
    · show Act.put _ (some 80) _ = _
      simp only [Act.put, List.setIfInBounds_toArray, List.set_cons_zero, List.set_cons_succ, i64_w, i32_w]
      rfl
    refine pure_ (i := 17) (N := some 63) (v := ?_) (a' := ?_) #[true, true, true, true, true, true, true, true, true, true, true, true, true, true, true, true, true, true, false, false, false, false, false, false] rfl rfl (by kernel_rfl) (fun _ _ _ h => norm_put (by decide) h) (Or.inl ⟨by rfl, ?_⟩) ?_ ?_
    rotate_left
    · intro w'
      go_simp
      with_reducible rfl
    rotate_left
    · simp only [Act.put, List.setIfInBounds_toArray, List.set_cons_zero, List.set_cons_succ, i64_w, i32_w]
      rfl
    refine pure_ (i := 18) (N := some 81) (v := ?_) (a' := ?_) #[true, true, true, true, true, true, true, true, true, true, true, true, true, true, true, true, true, true, true, false, false, false, false, false] rfl rfl (by kernel_rfl) (fun _ _ _ h => norm_put (by decide) h) (Or.inl ⟨by rfl, ?_⟩) ?_ ?_
    rotate_left
    · intro w'
      go_simp
      with_reducible rfl
    rotate_left
    · simp only [Act.put, List.setIfInBounds_toArray, List.set_cons_zero, List.set_cons_succ, i64_w, i32_w]
      rfl
    refine pure_ (i := 19) (N := some 82) (v := ?_) (a' := ?_) #[true, true, true, true, true, true, true, true, true, true, true, true, true, true, true, true, true, true, true, true, false, false, false, false] rfl rfl (by kernel_rfl) (fun _ _ _ h => norm_put (by decide) h) (Or.inl ⟨by rfl, ?_⟩) ?_ ?_
    rotate_left
    · intro w'
      go_simp
      with_reducible rfl
    rotate_left
    · simp only [Act.put, List.setIfInBounds_toArray, List.set_cons_zero, List.set_cons_succ, i64_w, i32_w]
      rfl
    refine pure_ (i := 20) (N := some 83) (v := ?_) (a' := ?_) #[true, true, true, true, true, true, true, true, true, true, true, true, true, true, true, true, true, true, true, true, true, false, false, false] rfl rfl (by kernel_rfl) (fun _ _ _ h => norm_put (by decide) h) (Or.inl ⟨by rfl, ?_⟩) ?_ ?_
    rotate_left
    · intro w'
      go_simp
      with_reducible rfl
    rotate_left
    · simp only [Act.put, List.setIfInBounds_toArray, List.set_cons_zero, List.set_cons_succ, i64_w, i32_w]
      rfl
    refine pure_ (i := 21) (N := some 84) (v := ?_) (a' := ?_) #[true, true, true, true, true, true, true, true, true, true, true, true, true, true, true, true, true, true, true, true, true, true, false, false] rfl rfl (by kernel_rfl) (fun _ _ _ h => norm_put (by decide) h) (Or.inl ⟨by rfl, ?_⟩) ?_ ?_
    rotate_left
    · intro w'
      go_simp
      with_reducible rfl
    rotate_left
    · simp only [Act.put, List.setIfInBounds_toArray, List.set_cons_zero, List.set_cons_succ, i64_w, i32_w]
      rfl
    refine pure_ (i := 22) (N := some 85) (v := ?_) (a' := ?_) #[true, true, true, true, true, true, true, true, true, true, true, true, true, true, true, true, true, true, true, true, true, true, true, false] rfl rfl (by kernel_rfl) (fun _ _ _ h => norm_put (by decide) h) (Or.inl ⟨by rfl, ?_⟩) ?_ ?_
    rotate_left
    · intro w'
      go_simp
      with_reducible rfl
    rotate_left
    · simp only [Act.put, List.setIfInBounds_toArray, List.set_cons_zero, List.set_cons_succ, i64_w, i32_w]
      rfl
    refine last_ (i := 23) (N := none) #[true, true, true, true, true, true, true, true, true, true, true, true, true, true, true, true, true, true, true, true, true, true, true, true] rfl rfl (by kernel_rfl) (by decide) (fun K hK => ?_)
    refine skip_ (w1 := ?_) (by rfl) rfl ?_ ?_
    rotate_left
    · go_simp
      rfl
    refine hK.out _ _ ?_
    clear hK K
    refine done_ (by kernel_rfl) ?_
    obtain ⟨w7, hw7⟩ : ∃ w7, w7 = w6.setCell ⟨g, 1, none⟩ (.slice A6 n6 c6) := ⟨_, rfl⟩
    have hs7 : w7.heap.size = w6.heap.size := by rw [hw7]; simp
    have hgn : ∀ i, (On ma i ∨ w5.heap.size ≤ i) → i ≠ g ∧ i ≠ mb ∧ i ≠ w.heap.size := fun i h => by
      rcases h with h | h
      · have : i = ma := h; omega
      · omega
    have HQ7 := Aside0.mk (show NR w7 (fun i => On ma i ∨ w5.heap.size ≤ i) (.slice A6 n6 c6) (n / f) from by rw [hw7]; exact HQ6.out.set (fun h => (hgn g h).1 rfl) _)
    have HG7 := Aside0.mk (show hp w7 g = some (.cells #[.bool false, .slice A6 n6 c6, .bool false, .slice (some ⟨mb, 0, none⟩) 1 cb] 40 (0, 0)) from by rw [hw7, hp_here _ _ _ _ _ rfl, HG6.out]; rfl)
    have HT7 := Aside0.mk (show hp w7 w.heap.size = some (.cells #[.pointer none] 87 (0, 0)) from by rw [hw7, hp_other _ _ _ _ (by simp; omega)]; exact HT6.out)
    have HF7 := Aside0.mk (show hp w7 w1.heap.size = some (.cells #[.bool false, .slice (some ⟨mf, 0, none⟩) 1 cf] 38 (0, 0)) from by rw [hw7, hp_other _ _ _ _ (by simp; omega)]; exact HF6.out)
    have HO7 := Aside0.mk (show One w7 mf (.slice (some ⟨mf, 0, none⟩) 1 cf) f from by rw [hw7]; exact HO6.out.set (by simp; omega) _)
    have HB7 := Aside0.mk (show One w7 mb (.slice (some ⟨mb, 0, none⟩) 1 cb) d from by rw [hw7]; exact HB6.out.set (by simp [hgb]) _)
    have HK7 := Aside0.mk (show Kept (On3 g ma mb) w w7 from by rw [hw7]; exact HK6.out.setCell (p := ⟨g, 1, none⟩) (.inl (.inl rfl)) _)
    have HS7 := Aside0.mk hs7
    rw [← hw7]
    clear hw7 hs7 HQ6 HG6 HT6 HF6 HO6 HB6 HK6 q1 q2 g1 HG5 HT5 HF5 HO5 HA5 HB5 HK5
    go_wp2_with (fail)
    obtain ⟨d0, d1, d2, d3, e0, e1, e2, e3⟩ := blk4 HG7.out
    obtain ⟨fb0, fb1, ff0, ff1⟩ := blk2 HF7.out
    refine start_ (n := 24) (S := fun w' => w'.cell? ⟨g, 3, none⟩ = some (.slice (some ⟨mb, 0, none⟩) 1 cb) ∧ w'.cell? ⟨w1.heap.size, 1, none⟩ = some (.slice (some ⟨mf, 0, none⟩) 1 cf)) (ds := [23]) #[false, false, false, false, false, false, false, false, false, false, false, false, false, false, false, false, false, false, false, false, false, false, false, false] (by kernel_rfl) rfl rfl ⟨(by go_simp), (by go_simp)⟩ (fun hHeld => ?_)
    refine pure_ (i := 0) (N := some 87) (v := ?_) (a' := ?_) #[true, false, false, false, false, false, false, false, false, false, false, false, false, false, false, false, false, false, false, false, false, false, false, false] rfl rfl (by kernel_rfl) (fun _ _ _ h => norm_put (by decide) h) (Or.inl ⟨by rfl, ?_⟩) ?_ ?_
    rotate_left
    · intro w'
      go_simp
      with_reducible rfl
    rotate_left
    · simp only [Act.put, List.setIfInBounds_toArray, List.set_cons_zero, List.set_cons_succ, i64_w, i32_w]
      rfl
    refine pure_ (i := 1) (N := some 88) (v := ?_) (a' := ?_) #[true, true, false, false, false, false, false, false, false, false, false, false, false, false, false, false, false, false, false, false, false, false, false, false] rfl rfl (by kernel_rfl) (fun _ _ _ h => norm_put (by decide) h) (Or.inl ⟨by rfl, ?_⟩) ?_ ?_
    rotate_left
    · intro w'
      go_simp
      with_reducible rfl
    rotate_left
    · simp only [Act.put, List.setIfInBounds_toArray, List.set_cons_zero, List.set_cons_succ, i64_w, i32_w]
      rfl
    refine pure_ (i := 2) (N := some 89) (v := ?_) (a' := ?_) #[true, true, true, false, false, false, false, false, false, false, false, false, false, false, false, false, false, false, false, false, false, false, false, false] rfl rfl (by kernel_rfl) (fun _ _ _ h => norm_put (by decide) h) (Or.inl ⟨by rfl, ?_⟩) ?_ ?_
    rotate_left
    · intro w'
      go_simp
      with_reducible rfl
    rotate_left
    · simp only [Act.put, List.setIfInBounds_toArray, List.set_cons_zero, List.set_cons_succ, i64_w, i32_w]
      rfl
    refine pure_ (i := 3) (N := some 90) (v := ?_) (a' := ?_) #[true, true, true, true, false, false, false, false, false, false, false, false, false, false, false, false, false, false, false, false, false, false, false, false] rfl rfl (by kernel_rfl) (fun _ _ _ h => norm_put (by decide) h) (Or.inl ⟨by rfl, ?_⟩) ?_ ?_
    rotate_left
    · intro w'
      go_simp
      with_reducible rfl
    rotate_left
    · simp only [Act.put, List.setIfInBounds_toArray, List.set_cons_zero, List.set_cons_succ, i64_w, i32_w]
      rfl
    refine pure_ (i := 4) (N := some 91) (v := ?_) (a' := ?_) #[true, true, true, true, true, false, false, false, false, false, false, false, false, false, false, false, false, false, false, false, false, false, false, false] rfl rfl (by kernel_rfl) (fun _ _ _ h => norm_put (by decide) h) (Or.inl ⟨by rfl, ?_⟩) ?_ ?_
    rotate_left
    · intro w'
      go_simp
      with_reducible rfl
    rotate_left
    · simp only [Act.put, List.setIfInBounds_toArray, List.set_cons_zero, List.set_cons_succ, i64_w, i32_w]
      rfl
    refine pure_ (i := 6) (N := some 93) (v := ?_) (a' := ?_) #[true, true, true, true, true, false, true, false, false, false, false, false, false, false, false, false, false, false, false, false, false, false, false, false] rfl rfl (by kernel_rfl) (fun _ _ _ h => norm_put (by decide) h) (Or.inl ⟨by rfl, ?_⟩) ?_ ?_
    rotate_left
    · intro w'
      go_simp
      with_reducible rfl
    rotate_left
    · simp only [Act.put, List.setIfInBounds_toArray, List.set_cons_zero, List.set_cons_succ, i64_w, i32_w]
      rfl
    refine pure_ (i := 7) (N := some 94) (v := ?_) (a' := ?_) #[true, true, true, true, true, false, true, true, false, false, false, false, false, false, false, false, false, false, false, false, false, false, false, false] rfl rfl (by kernel_rfl) (fun _ _ _ h => norm_put (by decide) h) (Or.inl ⟨by rfl, ?_⟩) ?_ ?_
    rotate_left
    · intro w'
      go_simp
      with_reducible rfl
    rotate_left
    · simp only [Act.put, List.setIfInBounds_toArray, List.set_cons_zero, List.set_cons_succ, i64_w, i32_w]
      rfl
    refine pure_ (i := 8) (N := some 95) (v := ?_) (a' := ?_) #[true, true, true, true, true, false, true, true, true, false, false, false, false, false, false, false, false, false, false, false, false, false, false, false] rfl rfl (by kernel_rfl) (fun _ _ _ h => norm_put (by decide) h) (Or.inl ⟨by rfl, ?_⟩) ?_ ?_
    rotate_left
    · intro w'
      go_simp
      with_reducible rfl
    rotate_left
    · simp only [Act.put, List.setIfInBounds_toArray, List.set_cons_zero, List.set_cons_succ, i64_w, i32_w]
      rfl
    refine pure_ (i := 9) (N := some 96) (v := ?_) (a' := ?_) #[true, true, true, true, true, false, true, true, true, true, false, false, false, false, false, false, false, false, false, false, false, false, false, false] rfl rfl (by kernel_rfl) (fun _ _ _ h => norm_put (by decide) h) (Or.inl ⟨by rfl, ?_⟩) ?_ ?_
    rotate_left
    · intro w'
      go_simp
      with_reducible rfl
    rotate_left
    · simp only [Act.put, List.setIfInBounds_toArray, List.set_cons_zero, List.set_cons_succ, i64_w, i32_w]
      rfl
    refine pure_ (i := 10) (N := some 97) (v := ?_) (a' := ?_) #[true, true, true, true, true, false, true, true, true, true, true, false, false, false, false, false, false, false, false, false, false, false, false, false] rfl rfl (by kernel_rfl) (fun _ _ _ h => norm_put (by decide) h) (Or.inl ⟨by rfl, ?_⟩) ?_ ?_
    rotate_left
    · intro w'
      go_simp
      with_reducible rfl
    rotate_left
    · simp only [Act.put, List.setIfInBounds_toArray, List.set_cons_zero, List.set_cons_succ, i64_w, i32_w]
      rfl
    refine pure_ (i := 12) (N := some 99) (v := ?_) (a' := ?_) #[true, true, true, true, true, false, true, true, true, true, true, false, true, false, false, false, false, false, false, false, false, false, false, false] rfl rfl (by kernel_rfl) (fun _ _ _ h => norm_put (by decide) h) (Or.inl ⟨by rfl, ?_⟩) ?_ ?_
    rotate_left
    · intro w'
      go_simp
      with_reducible rfl
    rotate_left
    · simp only [Act.put, List.setIfInBounds_toArray, List.set_cons_zero, List.set_cons_succ, i64_w, i32_w]
      rfl
    refine pure_ (i := 13) (N := some 100) (v := ?_) (a' := ?_) #[true, true, true, true, true, false, true, true, true, true, true, false, true, true, false, false, false, false, false, false, false, false, false, false] rfl rfl (by kernel_rfl) (fun _ _ _ h => norm_put (by decide) h) (Or.inl ⟨by rfl, ?_⟩) ?_ ?_
    rotate_left
    · intro w'
      go_simp
      with_reducible rfl
    rotate_left
    · simp only [Act.put, List.setIfInBounds_toArray, List.set_cons_zero, List.set_cons_succ, i64_w, i32_w]
      rfl
    refine pure_ (i := 14) (N := some 101) (v := ?_) (a' := ?_) #[true, true, true, true, true, false, true, true, true, true, true, false, true, true, true, false, false, false, false, false, false, false, false, false] rfl rfl (by kernel_rfl) (fun _ _ _ h => norm_put (by decide) h) (Or.inl ⟨by rfl, ?_⟩) ?_ ?_
    rotate_left
    · intro w'
      go_simp
      with_reducible rfl
    rotate_left
    · simp only [Act.put, List.setIfInBounds_toArray, List.set_cons_zero, List.set_cons_succ, i64_w, i32_w]
      rfl
    refine take_ (i := 5) (N := some 92) (v := ?_) (a' := ?_) #[true, true, true, true, true, true, true, true, true, true, true, false, true, true, true, false, false, false, false, false, false, false, false, false] rfl rfl (by kernel_rfl) (fun _ _ _ h => norm_put (by decide) h) (Or.inl ⟨by rfl, ?_⟩) hHeld ?_ ?_
    rotate_left
    · rintro w' ⟨s0, s1⟩
      go_simp
      with_reducible rfl
    rotate_left
    · simp only [Act.put, List.setIfInBounds_toArray, List.set_cons_zero, List.set_cons_succ, i64_w, i32_w]
      rfl
    refine take_ (i := 11) (N := some 98) (v := ?_) (a' := ?_) #[true, true, true, true, true, true, true, true, true, true, true, true, true, true, true, false, false, false, false, false, false, false, false, false] rfl rfl (by kernel_rfl) (fun _ _ _ h => norm_put (by decide) h) (Or.inl ⟨by rfl, ?_⟩) hHeld ?_ ?_
    rotate_left
    · rintro w' ⟨s0, s1⟩
      go_simp
      with_reducible rfl
    rotate_left
    · simp only [Act.put, List.setIfInBounds_toArray, List.set_cons_zero, List.set_cons_succ, i64_w, i32_w]
      rfl
    refine take_ (i := 15) (N := some 102) (v := ?_) (a' := ?_) #[true, true, true, true, true, true, true, true, true, true, true, true, true, true, true, true, false, false, false, false, false, false, false, false] rfl rfl (by kernel_rfl) (fun _ _ _ h => norm_put (by decide) h) (Or.inl ⟨by rfl, ?_⟩) hHeld ?_ ?_
    rotate_left
    · rintro w' ⟨s0, s1⟩
      go_simp
      with_reducible rfl
    rotate_left
    · simp only [Act.put, List.setIfInBounds_toArray, List.set_cons_zero, List.set_cons_succ, i64_w, i32_w]
      rfl
    refine one_ (i := 16) (N := some 103) #[true, true, true, true, true, true, true, true, true, true, true, true, true, true, true, true, true, false, false, false, false, false, false, false] rfl rfl (by kernel_rfl) (by decide) (fun K hK => ?_)
    refine goes_ Tryz.func38 (by kernel_rfl) rfl #[.slice (some ⟨mb, 0, none⟩) 1 cb, .pointer (some ⟨w.heap.size, 0, none⟩), .slice none 0 0, .slice (some ⟨mb, 0, none⟩) 1 cb, .slice (some ⟨mf, 0, none⟩) 1 cf] (by rfl) rfl rfl (by simp only [List.map_toArray, List.map_cons, List.map_nil]; rfl) ?_
    with_reducible refine (natDiv1_c 0 mf (.pointer (some ⟨w.heap.size, 0, none⟩)) (.slice (some ⟨mb, 0, none⟩) 1 cb) (.slice (some ⟨mf, 0, none⟩) 1 cf) (On mb) d f _ ((HB7.out.below (below_drew (Below.refl _ _))).nr hd0) hd0 (HO7.out.below (below_drew (Below.refl _ _))) hf2 hfd hmf2 (by omega)).mono ?_
    rintro e w8 ⟨q8, rfl, hq8, hk8'⟩
    refine ⟨_, rfl, ?_⟩
    have hk8 : Kept (On mb) w7 w8 := (Kept.of_below (S := On mb) (below_drew (Below.refl _ _))).trans hk8' (fun i hi h => h)
    obtain ⟨A8, n8, c8, rfl⟩ := hq8.slice
    have HR8 := Aside0.mk (show NR w8 (fun i => On mb i ∨ w7.heap.size ≤ i) (.slice A8 n8 c8) (d / f) from hq8)
    have HQ8 := Aside0.mk (HQ7.out.kept hk8 (fun i h h2 => (hgn i h).2.1 h2))
    have HG8 := Aside0.mk (hp_kept HG7.out hk8 (show ¬ On mb g from fun h => hgb h))
    have HT8 := Aside0.mk (hp_kept HT7.out hk8 (show ¬ On mb w.heap.size from fun h => by have : w.heap.size = mb := h; omega))
    have HK8 := Aside0.mk (HK7.out.trans hk8 (fun i hi h => .inr (.inr h)))
    obtain ⟨_, _, _, q1, _, _, _, g3⟩ := blk4 HG8.out
    have q2 := hk8.cell fb1 (show ¬ On mb w1.heap.size from fun h => by have : w1.heap.size = mb := h; omega)
    clear hk8 hk8' hq8 d0 d1 d2 d3 e0 e1 e2 e3 fb0 fb1 ff0 ff1
    refine hK.out _ _ ⟨q1, q2⟩ (fun hHeld => ?_)
    clear hK K
    refine norm_ (a' := ?_) ?_ ?_
    rotate_left
    · show Act.put _ (some 103) _ = _
      simp only [Act.put, List.setIfInBounds_toArray, List.set_cons_zero, List.set_cons_succ, i64_w, i32_w]
      rfl
    refine pure_ (i := 17) (N := some 86) (v := ?_) (a' := ?_) #[true, true, true, true, true, true, true, true, true, true, true, true, true, true, true, true, true, true, false, false, false, false, false, false] rfl rfl (by kernel_rfl) (fun _ _ _ h => norm_put (by decide) h) (Or.inl ⟨by rfl, ?_⟩) ?_ ?_
    rotate_left
    · intro w'
      go_simp
      with_reducible rfl
    rotate_left
    · simp only [Act.put, List.setIfInBounds_toArray, List.set_cons_zero, List.set_cons_succ, i64_w, i32_w]
      rfl
    refine pure_ (i := 18) (N := some 104) (v := ?_) (a' := ?_) #[true, true, true, true, true, true, true, true, true, true, true, true, true, true, true, true, true, true, true, false, false, false, false, false] rfl rfl (by kernel_rfl) (fun _ _ _ h => norm_put (by decide) h) (Or.inl ⟨by rfl, ?_⟩) ?_ ?_
    rotate_left
    · intro w'
      go_simp
      with_reducible rfl
    rotate_left
    · simp only [Act.put, List.setIfInBounds_toArray, List.set_cons_zero, List.set_cons_succ, i64_w, i32_w]
      rfl
    refine pure_ (i := 19) (N := some 105) (v := ?_) (a' := ?_) #[true, true, true, true, true, true, true, true, true, true, true, true, true, true, true, true, true, true, true, true, false, false, false, false] rfl rfl (by kernel_rfl) (fun _ _ _ h => norm_put (by decide) h) (Or.inl ⟨by rfl, ?_⟩) ?_ ?_
    rotate_left
    · intro w'
      go_simp
      with_reducible rfl
    rotate_left
    · simp only [Act.put, List.setIfInBounds_toArray, List.set_cons_zero, List.set_cons_succ, i64_w, i32_w]
      rfl
    refine pure_ (i := 20) (N := some 106) (v := ?_) (a' := ?_) #[true, true, true, true, true, true, true, true, true, true, true, true, true, true, true, true, true, true, true, true, true, false, false, false] rfl rfl (by kernel_rfl) (fun _ _ _ h => norm_put (by decide) h) (Or.inl ⟨by rfl, ?_⟩) ?_ ?_
    rotate_left
    · intro w'
      go_simp
      with_reducible rfl
    rotate_left
    · simp only [Act.put, List.setIfInBounds_toArray, List.set_cons_zero, List.set_cons_succ, i64_w, i32_w]
      rfl
    refine pure_ (i := 21) (N := some 107) (v := ?_) (a' := ?_) #[true, true, true, true, true, true, true, true, true, true, true, true, true, true, true, true, true, true, true, true, true, true, false, false] rfl rfl (by kernel_rfl) (fun _ _ _ h => norm_put (by decide) h) (Or.inl ⟨by rfl, ?_⟩) ?_ ?_
    rotate_left
    · intro w'
      go_simp
      with_reducible rfl
    rotate_left
    · simp only [Act.put, List.setIfInBounds_toArray, List.set_cons_zero, List.set_cons_succ, i64_w, i32_w]
      rfl
    refine pure_ (i := 22) (N := some 108) (v := ?_) (a' := ?_) #[true, true, true, true, true, true, true, true, true, true, true, true, true, true, true, true, true, true, true, true, true, true, true, false] rfl rfl (by kernel_rfl) (fun _ _ _ h => norm_put (by decide) h) (Or.inl ⟨by rfl, ?_⟩) ?_ ?_
    rotate_left
    · intro w'
      go_simp
      with_reducible rfl
    rotate_left
    · simp only [Act.put, List.setIfInBounds_toArray, List.set_cons_zero, List.set_cons_succ, i64_w, i32_w]
      rfl
    refine last_ (i := 23) (N := none) #[true, true, true, true, true, true, true, true, true, true, true, true, true, true, true, true, true, true, true, true, true, true, true, true] rfl rfl (by kernel_rfl) (by decide) (fun K hK => ?_)
    refine skip_ (w1 := ?_) (by rfl) rfl ?_ ?_
    rotate_left
    · go_simp
      rfl
    refine hK.out _ _ ?_
    clear hK K
    refine done_ (by kernel_rfl) ?_
    obtain ⟨w9, hw9⟩ : ∃ w9, w9 = w8.setCell ⟨g, 3, none⟩ (.slice A8 n8 c8) := ⟨_, rfl⟩
    have hs7 := HS7.out
    have hgm : ∀ i, (On mb i ∨ w7.heap.size ≤ i) → i ≠ g := fun i h => by
      rcases h with h | h
      · have : i = mb := h; omega
      · omega
    have HR9 := Aside0.mk (show NR w9 (fun i => On mb i ∨ w7.heap.size ≤ i) (.slice A8 n8 c8) (d / f) from by rw [hw9]; exact HR8.out.set (fun h => hgm g h rfl) _)
    have HQ9 := Aside0.mk (show NR w9 (fun i => On ma i ∨ w5.heap.size ≤ i) (.slice A6 n6 c6) (n / f) from by rw [hw9]; exact HQ8.out.set (fun h => (hgn g h).1 rfl) _)
    have HG9 := Aside0.mk (show hp w9 g = some (.cells #[.bool false, .slice A6 n6 c6, .bool false, .slice A8 n8 c8] 40 (0, 0)) from by rw [hw9, hp_here _ _ _ _ _ rfl, HG8.out]; rfl)
    have HT9 := Aside0.mk (show hp w9 w.heap.size = some (.cells #[.pointer none] 87 (0, 0)) from by rw [hw9, hp_other _ _ _ _ (by simp; omega)]; exact HT8.out)
    have HK9 := Aside0.mk (show Kept (On3 g ma mb) w w9 from by rw [hw9]; exact HK8.out.setCell (p := ⟨g, 3, none⟩) (.inl (.inl rfl)) _)
    rw [← hw9]
    clear hw9 hs7 HR8 HQ8 HG8 HT8 HK8 q1 q2 g3 HG7 HT7 HF7 HO7 HB7 HK7 HQ7
    obtain ⟨c0, c1, c2, c3, f0, f1, f2, f3⟩ := blk4 HG9.out
    go_wp2_with (fail)
    refine leaves_cons (f := 33) (args := #[.pointer (some ⟨w.heap.size, 0, none⟩)]) (by simp) (by simp [go_sem]) ?_
    refine (free_d w.heap.size _ _ (by rw [hp_other _ _ _ _ (by simp; omega)]; exact HT9.out)).mono ?_
    rintro e u' w'' ⟨rfl, rfl, rfl⟩
    simp [Leaves, settle, results, Tryz.results20, go_sem]
    exact ⟨⟨_, _, false, by rw [hp_here _ _ _ _ _ rfl, HG9.out]; rfl, (HQ9.out.set (fun h => (hgn g h).1 rfl) _).wd, (HR9.out.set (fun h => hgm g h rfl) _).wd⟩, HK9.out.setCell (p := ⟨g, 0, none⟩) (.inl (.inl rfl)) _⟩
end Go.Proofs.YtgpgacnnkjiadaaGreatDoor.Sp
