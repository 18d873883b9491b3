/-
  CONTRACT: the greatest common divisor of two numbers of one word each (Int.lehmerGCD without cofactors).
-/
import Derived.Test.YtgpgacnnkjiadaaGreatDoorGcdA
import Derived.Test.YtgpgacnnkjiadaaGreatDoorDivMod
import Derived.LoopN
namespace Go.Proofs.YtgpgacnnkjiadaaGreatDoor.Sp
open Go.RowKit Go.Proofs.YtgpgacnnkjiadaaGreatDoorW.PrintWords Go.Proofs.YtgpgacnnkjiadaaGreatDoorW.PrintLast Go.Proofs.YtgpgacnnkjiadaaGreatDoorW.PrintMore Go.Proofs.YtgpgacnnkjiadaaGreatDoor.Dig
set_option linter.unusedVariables false
set_option linter.unusedSimpArgs false
theorem ev_one (x : Int) : ev BW [x] = x := by rw [ev_cons, ev_nil]; simp
theorem cn_one {x : Int} (h0 : 0 < x) (h1 : x < BW) : Cn BW [x] := ⟨okd_cons.2 ⟨⟨by omega, h1⟩, okd_nil _⟩, fun d hd => by simp at hd; omega⟩
theorem One.set {w : World} {k : Nat} {v : Value} {x : Int} (h : One w k v x) {p : Addr} (hp : p.block ≠ k) (u : Value) : One (w.setCell p u) k v x := by
  obtain ⟨R, h1, h2, h3, h4⟩ := h
  exact ⟨R, h1, by rw [hp_other _ _ _ _ hp]; exact h2, h3, h4⟩
theorem One.put {w : World} {k : Nat} {v : Value} {x : Int} (h : One w k v x) (y : Int) (hy : 0 ≤ y ∧ y < BW) : One (w.setCell ⟨k, 0, none⟩ (.int .u64 y)) k v y := by
  obtain ⟨R, h1, h2, h3, h4⟩ := h
  refine ⟨R, h1, ?_, ?_, h4⟩
  · rw [hp_here _ _ _ _ _ rfl, h2]
    simp [setObj_cells, u64s]
  · exact okd_cons.2 ⟨hy, (okd_cons.1 h3).2⟩
theorem One.cell {w : World} {k : Nat} {v : Value} {x : Int} (h : One w k v x) : w.cell? ⟨k, 0, none⟩ = some (.int .u64 x) ∧ w.frozen? ⟨k, 0, none⟩ = false := by
  obtain ⟨R, h1, h2, h3, h4⟩ := h
  exact ⟨(blk_cell h2 0).trans (by simp [u64s]), blk_frozen h2 0⟩
set_option maxHeartbeats 3200000 in
set_option maxRecDepth 100000 in
theorem gcdW_c (g gz ma mb : Nat) (va vb : Value) (x y : Int) (w : World) (hg : hp w g = some (.cells #[.bool false, va, .bool false, vb] 40 (0, 0))) (hz : hp w gz = some (.cells #[.bool false, .slice none 0 0] 38 (0, 0))) (hne : g ≠ gz) (hx : One w ma va x) (hy : One w mb vb y) (hx0 : 0 < x) (hy0 : 0 < y) (hma : ma ≠ gz) (hmb : mb ≠ gz) :
    Calls Tryz.prog 35 #[.pointer (some ⟨gz, 0, none⟩), .pointer none, .pointer none, .pointer (some ⟨g, 0, none⟩), .pointer (some ⟨g, 2, none⟩)] w fun e w' => e = .returned (.pointer (some ⟨gz, 0, none⟩)) ∧ ∃ m c, hp w' gz = some (.cells #[.bool false, .slice (some ⟨m, 0, none⟩) 1 c] 38 (0, 0)) ∧ One w' m (.slice (some ⟨m, 0, none⟩) 1 c) (Int.gcd x y) ∧ w.heap.size ≤ m ∧ Kept (On gz) w w' := by
  have lg := hp_lt hg
  have lz := hp_lt hz
  have la := hx.lt
  have lb := hy.lt
  have xo := hx.ok
  have yo := hy.ok
  obtain ⟨w0, hw0⟩ : ∃ w0, w0 = w.alloc (.cells #[.bool false, .slice none 0 0] 38) := ⟨_, rfl⟩
  have hs0 : w.heap.size < w0.heap.size := by rw [hw0]; simp
  have hb0 : Below w.heap.size w w0 := by rw [hw0]; exact below_alloc (Below.refl _ _) _
  have HA := Aside0.mk (abs1_c w.heap.size g 0 ma false false va x _ _ w0 (by rw [hw0]; exact hp_new _ _ _ rfl) (hp_below hg hb0) (by omega) rfl rfl (hx.below hb0))
  have HG0 := Aside0.mk (hp_below hg hb0)
  have HZ0 := Aside0.mk (hp_below hz hb0)
  have HG := Aside0.mk hg
  have HY0 := Aside0.mk (hy.below hb0)
  have HB0 := Aside0.mk hb0
  have HW0 := Aside0.mk hw0
  clear hg hz hx hy hb0 hw0
  go_enter Tryz.func35, Tryz.ntmps35
  go_wp2_with (fail)
  rw [← HW0.out]
  refine (HA.out).mono ?_
  rintro e w1 ⟨rfl, ca, hA1, hX1, hk1⟩
  have s1 := hk1.size
  have lA1 := hX1.lt
  obtain ⟨w2, hw2⟩ : ∃ w2, w2 = w1.alloc (.cells #[.bool false, .slice none 0 0] 38) := ⟨_, rfl⟩
  have hs2 : w1.heap.size < w2.heap.size := by rw [hw2]; simp
  have hb2 : Below w1.heap.size w1 w2 := by rw [hw2]; exact below_alloc (Below.refl _ _) _
  have HG1 := hp_kept HG0.out hk1 (show ¬ On w.heap.size g from fun h => by have : g = w.heap.size := h; omega)
  have HZ1 := hp_kept HZ0.out hk1 (show ¬ On w.heap.size gz from fun h => by have : gz = w.heap.size := h; omega)
  have HY1 := HY0.out.kept hk1 (show ¬ On w.heap.size mb from fun h => by have : mb = w.heap.size := h; omega)
  have HBB := Aside0.mk (abs1_c w1.heap.size g 2 mb false false vb y _ _ w2 (by rw [hw2]; exact hp_new _ _ _ rfl) (hp_below HG1 hb2) (by omega) rfl rfl (HY1.below hb2))
  have HZ2 := Aside0.mk (hp_below HZ1 hb2)
  have HA2 := Aside0.mk (hp_below hA1 hb2)
  have HX2 := Aside0.mk (hX1.below hb2)
  have HK2 := Aside0.mk (((Kept.of_below (S := On gz) HB0.out).trans hk1 (fun i hi h => by have : i = w.heap.size := h; omega)).trans (Kept.of_below (S := On gz) hb2) (fun i hi h => h))
  have HW2 := Aside0.mk hw2
  clear hb2 hA1 hX1 hk1 HG1 HZ1 HY1 HG0 HZ0 HY0 HB0 HA HW0 hw2
  go_wp2_with (fail)
  rw [← HW2.out]
  refine (HBB.out).mono ?_
  rintro e w3 ⟨rfl, cb, hB3, hY3, hk3⟩
  have s3 := hk3.size
  have lB3 := hY3.lt
  have HA3 := Aside0.mk (hp_kept HA2.out hk3 (show ¬ On w1.heap.size w.heap.size from fun h => by have : w.heap.size = w1.heap.size := h; omega))
  have HX3 := Aside0.mk (HX2.out.kept hk3 (show ¬ On w1.heap.size w0.heap.size from fun h => by have : w0.heap.size = w1.heap.size := h; omega))
  have HZ3 := Aside0.mk (hp_kept HZ2.out hk3 (show ¬ On w1.heap.size gz from fun h => by have : gz = w1.heap.size := h; omega))
  have HB3 := Aside0.mk hB3
  have HY3 := Aside0.mk hY3
  have HK3 := Aside0.mk (HK2.out.trans hk3 (fun i hi h => by have : i = w1.heap.size := h; omega))
  clear hB3 hY3 hk3 HA2 HX2 HZ2 HK2 HBB HW2
  go_wp2_with (fail)
  obtain ⟨w4, hw4⟩ : ∃ w4, w4 = (w3.alloc (.cells #[.bool false, .slice none 0 0] 38)).alloc (.cells #[.bool false, .slice none 0 0] 38) := ⟨_, rfl⟩
  have hs4 : w3.heap.size < w4.heap.size := by rw [hw4]; simp; omega
  have hb4 : Below w3.heap.size w3 w4 := by rw [hw4]; exact below_alloc (below_alloc (Below.refl _ _) _) _
  have HA4 := Aside0.mk (hp_below HA3.out hb4)
  have HB4 := Aside0.mk (hp_below HB3.out hb4)
  have HZ4 := Aside0.mk (hp_below HZ3.out hb4)
  have HX4 := Aside0.mk (HX3.out.below hb4)
  have HY4 := Aside0.mk (HY3.out.below hb4)
  have HK4 := Aside0.mk (HK3.out.trans (Kept.of_below (S := On gz) hb4) (fun i hi h => h))
  have HG4 := Aside0.mk (hp_kept HG.out HK4.out (show ¬ On gz g from fun h => by have : g = gz := h; omega))
  rw [← hw4]
  obtain ⟨a0, a1, _, _⟩ := blk2 HA4.out
  obtain ⟨b0, b1, _, _⟩ := blk2 HB4.out
  have HC := Aside0.mk (show Calls Tryz.prog 52 #[.slice (some ⟨w0.heap.size, 0, none⟩) 1 ca, .slice (some ⟨w2.heap.size, 0, none⟩) 1 cb] w4.drew fun e w' => e = .returned (.int .i64 (cmpI x y)) ∧ ∃ n, w' = w4.drew.drewN n from by
    have h := natCmp_c (some ⟨w0.heap.size, 0, none⟩) (some ⟨w2.heap.size, 0, none⟩) ca cb [x] [y] w4.drew (HX4.out.below (below_drew (Below.refl _ _))).C (HY4.out.below (below_drew (Below.refl _ _))).C (cn_one hx0 xo.2) (cn_one hy0 yo.2) (by simp) (by simp)
    rw [ev_one, ev_one] at h
    exact h)
  clear hw4 hb4 HA3 HB3 HZ3 HX3 HY3 HK3 HG
  refine start_ (n := 10) (S := fun w' => w'.cell? ⟨w.heap.size, 1, none⟩ = some (.slice (some ⟨w0.heap.size, 0, none⟩) 1 ca) ∧ w'.cell? ⟨w1.heap.size, 1, none⟩ = some (.slice (some ⟨w2.heap.size, 0, none⟩) 1 cb)) (ds := []) #[false, false, false, false, false, false, false, false, false, false] (by kernel_rfl) rfl rfl ⟨(by go_simp), (by go_simp)⟩ (fun hHeld => ?_)
  refine pure_ (i := 0) (N := some 51) (v := ?_) (a' := ?_) #[true, false, false, false, false, false, false, false, false, false] rfl rfl (by kernel_rfl) (fun _ _ _ h => h) (Or.inl ⟨by rfl, ?_⟩) ?_ ?_
  rotate_left
  · intro w'
    go_simp
    with_reducible rfl
  rotate_left
  · simp only [Act.put, List.setIfInBounds_toArray, List.set_cons_zero, List.set_cons_succ, i64_w, i32_w]
    rfl
  refine pure_ (i := 1) (N := some 52) (v := ?_) (a' := ?_) #[true, true, false, false, false, false, false, false, false, false] rfl rfl (by kernel_rfl) (fun _ _ _ h => h) (Or.inl ⟨by rfl, ?_⟩) ?_ ?_
  rotate_left
  · intro w'
    go_simp
    with_reducible rfl
  rotate_left
  · simp only [Act.put, List.setIfInBounds_toArray, List.set_cons_zero, List.set_cons_succ, i64_w, i32_w]
    rfl
  refine pure_ (i := 2) (N := some 53) (v := ?_) (a' := ?_) #[true, true, true, false, false, false, false, false, false, false] rfl rfl (by kernel_rfl) (fun _ _ _ h => h) (Or.inl ⟨by rfl, ?_⟩) ?_ ?_
  rotate_left
  · intro w'
    go_simp
    with_reducible rfl
  rotate_left
  · simp only [Act.put, List.setIfInBounds_toArray, List.set_cons_zero, List.set_cons_succ, i64_w, i32_w]
    rfl
  refine pure_ (i := 4) (N := some 55) (v := ?_) (a' := ?_) #[true, true, true, false, true, false, false, false, false, false] rfl rfl (by kernel_rfl) (fun _ _ _ h => h) (Or.inl ⟨by rfl, ?_⟩) ?_ ?_
  rotate_left
  · intro w'
    go_simp
    with_reducible rfl
  rotate_left
  · simp only [Act.put, List.setIfInBounds_toArray, List.set_cons_zero, List.set_cons_succ, i64_w, i32_w]
    rfl
  refine pure_ (i := 5) (N := some 56) (v := ?_) (a' := ?_) #[true, true, true, false, true, true, false, false, false, false] rfl rfl (by kernel_rfl) (fun _ _ _ h => h) (Or.inl ⟨by rfl, ?_⟩) ?_ ?_
  rotate_left
  · intro w'
    go_simp
    with_reducible rfl
  rotate_left
  · simp only [Act.put, List.setIfInBounds_toArray, List.set_cons_zero, List.set_cons_succ, i64_w, i32_w]
    rfl
  refine pure_ (i := 6) (N := some 57) (v := ?_) (a' := ?_) #[true, true, true, false, true, true, true, false, false, false] rfl rfl (by kernel_rfl) (fun _ _ _ h => h) (Or.inl ⟨by rfl, ?_⟩) ?_ ?_
  rotate_left
  · intro w'
    go_simp
    with_reducible rfl
  rotate_left
  · simp only [Act.put, List.setIfInBounds_toArray, List.set_cons_zero, List.set_cons_succ, i64_w, i32_w]
    rfl
  refine take_ (i := 3) (N := some 54) (v := ?_) (a' := ?_) #[true, true, true, true, true, true, true, false, false, false] rfl rfl (by kernel_rfl) (fun _ _ _ h => h) (Or.inl ⟨by rfl, ?_⟩) hHeld ?_ ?_
  rotate_left
  · rintro w' ⟨s0, s1⟩
    go_simp
    with_reducible rfl
  rotate_left
  · simp only [Act.put, List.setIfInBounds_toArray, List.set_cons_zero, List.set_cons_succ, i64_w, i32_w]
    rfl
  refine take_ (i := 7) (N := some 58) (v := ?_) (a' := ?_) #[true, true, true, true, true, true, true, true, false, false] rfl rfl (by kernel_rfl) (fun _ _ _ h => h) (Or.inl ⟨by rfl, ?_⟩) hHeld ?_ ?_
  rotate_left
  · rintro w' ⟨s0, s1⟩
    go_simp
    with_reducible rfl
  rotate_left
  · simp only [Act.put, List.setIfInBounds_toArray, List.set_cons_zero, List.set_cons_succ, i64_w, i32_w]
    rfl
  refine one_ (i := 8) (N := some 59) #[true, true, true, true, true, true, true, true, true, false] rfl rfl (by kernel_rfl) (by decide) (fun K hK => ?_)
  refine goes_ Tryz.func52 (by kernel_rfl) rfl #[.slice (some ⟨w0.heap.size, 0, none⟩) 1 ca, .slice (some ⟨w2.heap.size, 0, none⟩) 1 cb] (by rfl) rfl rfl (by simp only [List.map_toArray, List.map_cons, List.map_nil]; rfl) ?_
  with_reducible refine (HC.out).mono ?_
  rintro e w5 ⟨rfl, hn⟩
  refine ⟨_, rfl, ?_⟩
  have hb5 : Below w4.heap.size w4 w5 := by obtain ⟨n, rfl⟩ := hn; exact ⟨rfl, rfl, rfl, Nat.le_refl _, fun _ _ => rfl⟩
  have q0 := (hb5.cell (p := ⟨w.heap.size, 1, none⟩) (hp_lt HA4.out)).trans a1
  have q1 := (hb5.cell (p := ⟨w1.heap.size, 1, none⟩) (hp_lt HB4.out)).trans b1
  clear hn HC
  refine hK.out _ _ ⟨q0, q1⟩ (fun hHeld => ?_)
  clear hK K
  refine norm_ (a' := ?_) ?_ ?_
  rotate_left
  · show Act.put _ (some 59) _ = _
    simp only [Act.put, List.setIfInBounds_toArray, List.set_cons_zero, List.set_cons_succ, i64_w, i32_w]
    rfl
  refine pure_ (i := 9) (N := some 60) (v := ?_) (a' := ?_) #[true, true, true, true, true, true, true, true, true, true] rfl rfl (by kernel_rfl) (fun _ _ _ h => h) (Or.inl ⟨by rfl, ?_⟩) ?_ ?_
  rotate_left
  · intro w'
    go_simp
    with_reducible rfl
  rotate_left
  · simp only [Act.put, List.setIfInBounds_toArray, List.set_cons_zero, List.set_cons_succ, i64_w, i32_w]
    rfl
  refine done_ (by kernel_rfl) ?_
  have HA5 := Aside0.mk (hp_below HA4.out hb5)
  have HB5 := Aside0.mk (hp_below HB4.out hb5)
  have HZ5 := Aside0.mk (hp_below HZ4.out hb5)
  have HX5 := Aside0.mk (HX4.out.below hb5)
  have HY5 := Aside0.mk (HY4.out.below hb5)
  have HG5 := Aside0.mk (hp_below HG4.out hb5)
  have HK5 := Aside0.mk (HK4.out.trans (Kept.of_below (S := On gz) hb5) (fun i hi h => h))
  have s5 := hb5.size
  clear hb5 HA4 HB4 HZ4 HX4 HY4 HK4 HG4 q0 q1 a0 a1 b0 b1
  go_upto_if 60 with (fail)
  go_cut [11, 12, 13, 14] (fun v11 v12 v13 v14 wx => w5 = wx ∧ ∃ (α β mα mβ cα cβ : Nat) (p q : Int), v11 = .pointer (some ⟨α, 0, none⟩) ∧ v12 = .pointer (some ⟨β, 0, none⟩) ∧ v13 = .pointer none ∧ v14 = .pointer none ∧ Aside0 (hp wx α = some (.cells #[.bool false, .slice (some ⟨mα, 0, none⟩) 1 cα] 38 (0, 0)) ∧ hp wx β = some (.cells #[.bool false, .slice (some ⟨mβ, 0, none⟩) 1 cβ] 38 (0, 0)) ∧ One wx mα (.slice (some ⟨mα, 0, none⟩) 1 cα) p ∧ One wx mβ (.slice (some ⟨mβ, 0, none⟩) 1 cβ) q ∧ Int.gcd p q = Int.gcd x y ∧ 0 < p ∧ 0 < q ∧ w.heap.size ≤ α ∧ w.heap.size ≤ mα ∧ α ≠ mα))
  case first =>
    by_cases hlt : x < y
    · have hc : cmpI x y < 0 := by rw [cmpI_lt hlt]; decide
      go_wp2_with (fail)
      go_meet
      case rel => exact ⟨rfl, w1.heap.size, w.heap.size, w2.heap.size, w0.heap.size, cb, ca, y, x, rfl, rfl, rfl, rfl, ⟨HB5.out, HA5.out, HY5.out, HX5.out, Int.gcd_comm y x, hy0, hx0, by omega, by omega, by omega⟩⟩
    · have hc : 0 ≤ cmpI x y := by
        rcases Int.lt_trichotomy x y with h | h | h
        · omega
        · rw [h, cmpI_self]; decide
        · rw [cmpI_gt h]; decide
      go_wp2_with (fail)
      go_meet
      case rel => exact ⟨rfl, w.heap.size, w1.heap.size, w0.heap.size, w2.heap.size, ca, cb, x, y, rfl, rfl, rfl, rfl, ⟨HA5.out, HB5.out, HX5.out, HY5.out, rfl, hx0, hy0, by omega, by omega, by omega⟩⟩
  case rest =>
    obtain ⟨rfl, α, β, mα, mβ, cα, cβ, p, q, rfl, rfl, rfl, rfl, HH⟩ := hcut
    have hP := HH.out.2.2.1.ok
    have hQ := HH.out.2.2.2.1.ok
    obtain ⟨a0, a1, fa0, fa1⟩ := blk2 HH.out.1
    obtain ⟨b0, b1, fb0, fb1⟩ := blk2 HH.out.2.1
    obtain ⟨pc, pf⟩ := HH.out.2.2.1.cell
    obtain ⟨qc, qf⟩ := HH.out.2.2.2.1.cell
    have hp0 := HH.out.2.2.2.2.2.1
    have hq0 := HH.out.2.2.2.2.2.2.1
    go_wp2_with (fail)
    refine wp_loop_rounds 1 ?_
    rw [rounds_succ]
    go_wp2_with (fail)
    go_quiet (fail)
    go_wp2_with (fail)
    go_loopw [23, 24] (fun v23 v24 wr => ∃ a b : Int, v23 = .int .u64 a ∧ v24 = .int .u64 b ∧ 0 < a ∧ a < 18446744073709551616 ∧ 0 ≤ b ∧ b < 18446744073709551616 ∧ Aside0 (Int.gcd a b = Int.gcd x y) ∧ Aside0 (∃ n, wr = w5.drewN n)) (fun v23 v24 _ => (intOf v24).toNat)
    case atStart => exact ⟨p, q, rfl, rfl, hp0, by have := BW_def; omega, by omega, by have := BW_def; omega, ⟨HH.out.2.2.2.2.1⟩, ⟨_, rfl⟩⟩
    case round =>
      obtain ⟨a, b, rfl, rfl, ha0, ha1, hb0, hb1, HGC, HW⟩ := hrel
      obtain ⟨n0, rfl⟩ := HW.out
      by_cases hb : 0 < b
      · have hbn : b ≠ 0 := by omega
        go_upto_region 40 with (fail)
        go_quiet (fail)
        go_wp2_with (fail)
        go_roundw
        case rel => exact ⟨b, a % b, rfl, rfl, hb, hb1, Int.emod_nonneg a hbn, by have := Int.emod_lt_of_pos a hb; omega, ⟨(gcd_step a b (by omega) hb).trans HGC.out⟩, ⟨_, World.drewN_drewN _ _ _⟩⟩
        case measure =>
          have h1 := Int.emod_lt_of_pos a hb
          have h2 := Int.emod_nonneg a hbn
          simp [intOf]
          omega
      · obtain rfl : b = 0 := by omega
        have hga : a = Int.gcd x y := by
          rw [← HGC.out, Int.gcd_zero_right]
          omega
        obtain ⟨w6, hw6⟩ : ∃ w6, w6 = (w5.drewN n0).setCell ⟨mα, 0, none⟩ (.int .u64 a) := ⟨_, rfl⟩
        have hmA := HH.out.2.2.2.2.2.2.2.2.1
        have hAA := HH.out.2.2.2.2.2.2.2.1
        have hAM := HH.out.2.2.2.2.2.2.2.2.2
        have hb6 : Below w5.heap.size w5 (w5.drewN n0) := ⟨rfl, rfl, rfl, Nat.le_refl _, fun _ _ => rfl⟩
        have hz6 : hp w6 gz = some (.cells #[.bool false, .slice none 0 0] 38 (0, 0)) := by rw [hw6, hp_other _ _ _ _ (by simp; omega)]; exact hp_below HZ5.out hb6
        have hA6 : hp w6 α = some (.cells #[.bool false, .slice (some ⟨mα, 0, none⟩) 1 cα] 38 (0, 0)) := by rw [hw6, hp_other _ _ _ _ (by simp; omega)]; exact hp_below HH.out.1 hb6
        have hX6 : One w6 mα (.slice (some ⟨mα, 0, none⟩) 1 cα) a := by rw [hw6]; exact (HH.out.2.2.1.below hb6).put a ⟨by omega, by have := BW_def; omega⟩
        have HK6 : Aside0 (Kept (On gz) w w6) := ⟨by rw [hw6]; exact (HK5.out.trans (Kept.of_below (S := On gz) hb6) (fun i hi h => h)).setCell (p := ⟨mα, 0, none⟩) (.inr hmA) _⟩
        have HS := Aside0.mk (intSet1_c gz α 0 mα false false _ a _ _ w6 hz6 hA6 (by omega) rfl rfl hX6)
        have HW6 := Aside0.mk hw6
        have HGA := Aside0.mk hga
        have hs6 : w.heap.size ≤ w6.heap.size := HK6.out.size
        have hmg : mα ≠ g := by omega
        obtain ⟨g0, _, _, _, _, _, _, _⟩ := blk4 HG5.out
        clear hw6 hz6 hA6 hX6 hb6 hga
        go_wp2_with (fail)
        rw [← HW6.out]
        refine (HS.out).mono ?_
        rintro e w7 ⟨rfl, c7, h1, h2, h3⟩
        have H1 := Aside0.mk h1
        have H2 := Aside0.mk h2
        have H3 := Aside0.mk h3
        clear h1 h2 h3
        go_wp2_with (fail)
        go_ret
        exact ⟨rfl, _, c7, H1.out, by rw [← HGA.out]; exact H2.out, hs6, HK6.out.trans H3.out (fun i hi h => h)⟩
end Go.Proofs.YtgpgacnnkjiadaaGreatDoor.Sp
