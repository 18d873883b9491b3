/-
  FnBits holds for every input.
-/
import Derived.Test.YtglikgjaobedbaaDoorFromB
import Derived.Test.YtglikgjaobedbaaDoorOfBits
import Derived.Test.YtglikgjaobedbaaDoorGlaw
namespace Go.Proofs.YtglikgjaobedbaaDoor.fnBits
open Go.RowKit Go.Proofs.YtglikgjaobedbaaDoorW.PrintWords Go.Proofs.YtglikgjaobedbaaDoorW.PrintLast Go.Proofs.YtglikgjaobedbaaDoorW.PrintMore Go.Proofs.YtglikgjaobedbaaDoor.Dig Go.Proofs.YtglikgjaobedbaaDoor.Sp Go.Proofs.YtglikgjaobedbaaDoor.Flo
set_option linter.unusedVariables false
set_option linter.unusedSimpArgs false
set_option maxHeartbeats 6400000 in
set_option maxRecDepth 100000 in
theorem walk (a : Int) (ha : (Lit.int .u64 a).wf = true) (w : World) (hT : Tb w) :
    Calls Tryd.prog 4 #[.int .u64 a] w fun e w' => e = .returned (.bool true) ∧ Below w.heap.size w w' := by
  have ha2 := wf_u64 ha
  clear ha
  obtain ⟨N, rfl⟩ := Int.eq_ofNat_of_zero_le ha2.1
  have hN : N < 18446744073709551616 := by omega
  have hu := Tryd.underlying28
  have hsg := sg_int N hN
  have hax := and_exp2 N hN
  have haf := and_frac N hN
  clear ha2
  rcases Nat.lt_trichotomy (N % 9223372036854775808) 9218868437227405312 with hfin | hinf | hnan
  · have hx1 : N / 4503599627370496 % 2048 < 2047 := by omega
    generalize N / 4503599627370496 % 2048 = x at hax hx1
    generalize N % 4503599627370496 = F at haf
    have hxb : ((x : Int) == 2047) = false := by rw [beq_eq_false_iff_ne]; omega
    rcases Nat.eq_zero_or_pos (N % 9223372036854775808) with h0 | h0
    · have hsf : sf N = 0 := if_pos h0
      have hmg : ((mg N : Nat) : Int) = 0 := by unfold mg; rw [if_pos (by omega), h0]; rfl
      have hfb := fromB_spc N w hN (.inl h0)
      rw [hsf] at hfb
      have HFB := Aside0.mk hfb
      clear hfb hsf
      go_enter Tryd.func4, Tryd.ntmps4
      go_wp2_with ((fail_if_success go_at_call 14); go_in)
      refine (HFB.out).mono ?_
      rintro e w1 ⟨A', cc', rfl, hb1⟩
      have HB1 := Aside0.mk hb1
      have hs1 : w.heap.size ≤ w1.heap.size := hb1.size
      have HWD : Aside0 (Wd w1 (.slice A' 0 cc') 0) := ⟨⟨A', cc', [], rfl, Nat.zero_le _, ⟨rfl, by simp, fun h => absurd h (Nat.lt_irrefl 0)⟩, Cn_nil _, ev_nil _⟩⟩
      have HMG := Aside0.mk hmg
      clear hb1 HFB hmg
      have KZ := Aside0.mk (show hp (w1.alloc (.cells #[.int .u64 53, .int .i64 0, .int .i64 0, .bool (sg N), .slice A' 0 cc', .int .i64 0] 28)) w1.heap.size = some (.cells #[.int .u64 53, .int .i64 0, .int .i64 0, .bool (sg N), .slice A' 0 cc', .int .i64 0] 28 (0, 0)) from (by simp (disch := first | omega | (simp; omega) | (simp; done) | fail) [hp_new, hp_old, hp_here, hp_other, setObj_cells, hp_drew, hp_drewN]))
      have HZ0 := Aside0.mk (below_alloc (Below.refl w1.heap.size w1) (.cells #[.int .u64 53, .int .i64 0, .int .i64 0, .bool (sg N), .slice A' 0 cc', .int .i64 0] 28))
      go_upto_region 9 with ((fail_if_success go_at_call 14); go_in)
      obtain ⟨w2, hw2⟩ : ∃ w2, w2 = w1.alloc (.cells #[.int .u64 53, .int .i64 0, .int .i64 0, .bool (sg N), .slice A' 0 cc', .int .i64 0] 28) := ⟨_, rfl⟩
      rw [← hw2] at KZ HZ0 ⊢
      clear hw2
      have HB2 := Aside0.mk (HB1.out.trans (HZ0.out.mono hs1))
      have HBD := Aside0.mk (below_drew1 HB2.out)
      have HW2 := Aside0.mk (HWD.out.below HZ0.out)
      have HOR := Aside0.mk (ofBits_c N hN hfin w2.drew)
      have lz := hp_lt KZ.out
      obtain ⟨c0, c1, c2, c3, c4, c5, f0, f1, f2, f3, f4, f5⟩ := blk6 KZ.out
      refine start_ (n := 11) (S := fun w' => w'.cell? ⟨w1.heap.size, 0, none⟩ = some (.int .u64 53) ∧ w'.cell? ⟨w1.heap.size, 1, none⟩ = some (.int .i64 0) ∧ w'.cell? ⟨w1.heap.size, 2, none⟩ = some (.int .i64 0) ∧ w'.cell? ⟨w1.heap.size, 3, none⟩ = some (.bool (sg N)) ∧ w'.cell? ⟨w1.heap.size, 4, none⟩ = some (.slice A' 0 cc') ∧ w'.cell? ⟨w1.heap.size, 5, none⟩ = some (.int .i64 0)) (ds := []) #[false, false, false, false, false, false, false, false, false, false, false] (by kernel_rfl) rfl rfl ⟨(by go_simp), (by go_simp), (by go_simp), (by go_simp), (by go_simp), (by go_simp)⟩ (fun hHeld => ?_)
      refine pure_ (i := 1) (N := some 64) (v := ?_) (a' := ?_) #[false, true, false, false, false, false, false, false, false, false, false] rfl rfl (by kernel_rfl) (fun _ _ _ h => h) (Or.inl ⟨by rfl, ?_⟩) ?_ ?_
      rotate_left
      · intro w'
        go_simp
        with_reducible rfl
      rotate_left
      · simp only [Act.put, List.setIfInBounds_toArray, List.set_cons_zero, List.set_cons_succ, i64_w, i32_w]
        rfl
      refine take_ (i := 0) (N := some 63) (v := ?_) (a' := ?_) #[true, true, false, false, false, false, false, false, false, false, false] rfl rfl (by kernel_rfl) (fun _ _ _ h => h) (Or.inl ⟨by rfl, ?_⟩) hHeld ?_ ?_
      rotate_left
      · rintro w' ⟨s0, s1, s2, s3, s4, s5⟩
        go_simp
        with_reducible rfl
      rotate_left
      · simp only [Act.put, List.setIfInBounds_toArray, List.set_cons_zero, List.set_cons_succ, i64_w, i32_w]
        rfl
      refine one_ (i := 2) (N := some 65) #[true, true, true, false, false, false, false, false, false, false, false] rfl rfl (by kernel_rfl) (by decide) (fun K hK => ?_)
      refine goes_ Tryd.func17 (by kernel_rfl) rfl #[.int .u64 (N : Int)] (by rfl) rfl rfl (by simp only [List.map_toArray, List.map_cons, List.map_nil]; rfl) ?_
      with_reducible refine (HOR.out).mono ?_
      rintro e wo ⟨A9, m9, k9, rfl, hd, hb4⟩
      refine ⟨_, rfl, ?_⟩
      have HD := Aside0.mk hd
      have HW4 := Aside0.mk ((HW2.out.below (below_drew (Below.refl _ _))).below hb4)
      have HB4 := Aside0.mk (below_step HBD.out hb4)
      have KZ4 := Aside0.mk (hp_below (show hp w2.drew w1.heap.size = _ from KZ.out) hb4)
      obtain ⟨q0, q1, q2, q3, q4, q5, _, _, _, _, _, _⟩ := blk6 KZ4.out
      clear hd hb4
      refine hK.out _ _ ⟨q0, q1, q2, q3, q4, q5⟩ (fun hHeld => ?_)
      clear hK K
      refine norm_ (a' := ?_) ?_ ?_
      rotate_left
      · show Act.put _ (some 65) _ = _
        simp only [Act.put, List.setIfInBounds_toArray, List.set_cons_zero, List.set_cons_succ, i64_w, i32_w]
        rfl
      refine one_ (i := 3) (N := some 66) #[true, true, true, true, false, false, false, false, false, false, false] rfl rfl (by kernel_rfl) (by decide) (fun K hK => ?_)
      refine goes_ Tryd.func16 (by kernel_rfl) rfl #[.agg #[.int .u64 53, .int .i64 0, .int .i64 0, .bool (sg N), .slice A' 0 cc', .int .i64 0], .int .u64 53, .int .i64 0, .agg #[.bool (sg N), .slice A9 m9 k9, .int .i64 (ex N)]] (by rfl) rfl rfl (by simp only [List.map_toArray, List.map_cons, List.map_nil]; rfl) ?_
      with_reducible refine (isReal0_c 53 0 (ex N) (sg N) (sg N) A' A9 cc' m9 k9 wo HW4.out (by have := HD.out; rwa [HMG.out] at this)).mono ?_
      rintro e wp ⟨rfl, hb5⟩
      refine ⟨_, rfl, ?_⟩
      have HB5 := Aside0.mk (below_step HB4.out hb5)
      obtain ⟨q0, q1, q2, q3, q4, q5, _, _, _, _, _, _⟩ := blk6 (hp_below KZ4.out hb5)
      clear hb5
      refine hK.out _ _ ⟨q0, q1, q2, q3, q4, q5⟩ (fun hHeld => ?_)
      clear hK K
      refine norm_ (a' := ?_) ?_ ?_
      rotate_left
      · show Act.put _ (some 66) _ = _
        simp only [Act.put, List.setIfInBounds_toArray, List.set_cons_zero, List.set_cons_succ, i64_w, i32_w]
        rfl
      refine pure_ (i := 4) (N := some 67) (v := ?_) (a' := ?_) #[true, true, true, true, true, false, false, false, false, false, false] rfl rfl (by kernel_rfl) (fun _ _ _ h => h) (Or.inl ⟨by rfl, ?_⟩) ?_ ?_
      rotate_left
      · intro w'
        go_simp
        with_reducible rfl
      rotate_left
      · simp only [Act.put, List.setIfInBounds_toArray, List.set_cons_zero, List.set_cons_succ, i64_w, i32_w]
        rfl
      refine pure_ (i := 5) (N := some 68) (v := ?_) (a' := ?_) #[true, true, true, true, true, true, false, false, false, false, false] rfl rfl (by kernel_rfl) (fun _ _ _ h => h) (Or.inl ⟨by rfl, ?_⟩) ?_ ?_
      rotate_left
      · intro w'
        go_simp
        with_reducible rfl
      rotate_left
      · simp only [Act.put, List.setIfInBounds_toArray, List.set_cons_zero, List.set_cons_succ, i64_w, i32_w]
        rfl
      refine pure_ (i := 7) (N := some 70) (v := ?_) (a' := ?_) #[true, true, true, true, true, true, false, true, false, false, false] rfl rfl (by kernel_rfl) (fun _ _ _ h => h) (Or.inl ⟨by rfl, ?_⟩) ?_ ?_
      rotate_left
      · intro w'
        go_simp
        with_reducible rfl
      rotate_left
      · simp only [Act.put, List.setIfInBounds_toArray, List.set_cons_zero, List.set_cons_succ, i64_w, i32_w]
        rfl
      refine take_ (i := 6) (N := some 69) (v := ?_) (a' := ?_) #[true, true, true, true, true, true, true, true, false, false, false] rfl rfl (by kernel_rfl) (fun _ _ _ h => h) (Or.inl ⟨by rfl, ?_⟩) hHeld ?_ ?_
      rotate_left
      · rintro w' ⟨s0, s1, s2, s3, s4, s5⟩
        go_simp
        with_reducible rfl
      rotate_left
      · simp only [Act.put, List.setIfInBounds_toArray, List.set_cons_zero, List.set_cons_succ, i64_w, i32_w]
        rfl
      refine pure_ (i := 8) (N := some 71) (v := ?_) (a' := ?_) #[true, true, true, true, true, true, true, true, true, false, false] rfl rfl (by kernel_rfl) (fun _ _ _ h => h) (Or.inl ⟨by rfl, ?_⟩) ?_ ?_
      rotate_left
      · intro w'
        go_simp
        with_reducible rfl
      rotate_left
      · simp only [Act.put, List.setIfInBounds_toArray, List.set_cons_zero, List.set_cons_succ, i64_w, i32_w]
        rfl
      refine pure_ (i := 9) (N := some 72) (v := ?_) (a' := ?_) #[true, true, true, true, true, true, true, true, true, true, false] rfl rfl (by kernel_rfl) (fun _ _ _ h => h) (Or.inl ⟨by rfl, ?_⟩) ?_ ?_
      rotate_left
      · intro w'
        go_simp
        with_reducible rfl
      rotate_left
      · simp only [Act.put, List.setIfInBounds_toArray, List.set_cons_zero, List.set_cons_succ, i64_w, i32_w]
        rfl
      refine pure_ (i := 10) (N := some 2) (v := ?_) (a' := ?_) #[true, true, true, true, true, true, true, true, true, true, true] rfl rfl (by kernel_rfl) (fun _ _ _ h => h) (Or.inl ⟨by rfl, ?_⟩) ?_ ?_
      rotate_left
      · intro w'
        go_simp
        with_reducible rfl
      rotate_left
      · simp only [Act.put, List.setIfInBounds_toArray, List.set_cons_zero, List.set_cons_succ, i64_w, i32_w]
        rfl
      refine done_ (by kernel_rfl) ?_
      go_wp2_with (fail)
      go_ret
      exact ⟨rfl, HB5.out⟩
    · have hmp : (0 : Int) < mg N := by have := mg_pos N h0; omega
      obtain ⟨n, ht⟩ := Tz.exists hmp
      obtain ⟨y, hy⟩ : ∃ y, y = ex N + n := ⟨_, rfl⟩
      have hfb := fromB_fin N w hN h0 hfin n ht hT
      rw [← hy] at hfb
      have HFB := Aside0.mk hfb
      have HYX := Aside0.mk hy
      have HTZ := Aside0.mk ht
      have hexb : -1000000000000 ≤ ex N ∧ ex N ≤ 1000000000000 := by unfold ex; split <;> omega
      have HML : Aside0 ((mg N : Int) < Lim) := ⟨lt_Lim 53 (by have := mg_bits N h0; exact Int.lt_of_lt_of_le this.2.1 (pow_mono (by omega) (bl_le N h0).2)) (by omega)⟩
      clear hfb hy ht hT
      go_enter Tryd.func4, Tryd.ntmps4
      go_wp2_with ((fail_if_success go_at_call 14); go_in)
      refine (HFB.out).mono ?_
      rintro e w1 ⟨A', mm', cc', rfl, hv, hb1⟩
      have HB1 := Aside0.mk hb1
      have hs1 : w.heap.size ≤ w1.heap.size := hb1.size
      have HWD := Aside0.mk hv.wd
      clear hb1 HFB hv
      have KZ := Aside0.mk (show hp (w1.alloc (.cells #[.int .u64 53, .int .i64 0, .int .i64 1, .bool (sg N), .slice A' mm' cc', .int .i64 y] 28)) w1.heap.size = some (.cells #[.int .u64 53, .int .i64 0, .int .i64 1, .bool (sg N), .slice A' mm' cc', .int .i64 y] 28 (0, 0)) from (by simp (disch := first | omega | (simp; omega) | (simp; done) | fail) [hp_new, hp_old, hp_here, hp_other, setObj_cells, hp_drew, hp_drewN]))
      have HZ0 := Aside0.mk (below_alloc (Below.refl w1.heap.size w1) (.cells #[.int .u64 53, .int .i64 0, .int .i64 1, .bool (sg N), .slice A' mm' cc', .int .i64 y] 28))
      go_upto_region 9 with ((fail_if_success go_at_call 14); go_in)
      obtain ⟨w2, hw2⟩ : ∃ w2, w2 = w1.alloc (.cells #[.int .u64 53, .int .i64 0, .int .i64 1, .bool (sg N), .slice A' mm' cc', .int .i64 y] 28) := ⟨_, rfl⟩
      rw [← hw2] at KZ HZ0 ⊢
      clear hw2
      have HB2 := Aside0.mk (HB1.out.trans (HZ0.out.mono hs1))
      have HBD := Aside0.mk (below_drew1 HB2.out)
      have HW2 := Aside0.mk (HWD.out.below HZ0.out)
      have HOR := Aside0.mk (ofBits_c N hN hfin w2.drew)
      have lz := hp_lt KZ.out
      obtain ⟨c0, c1, c2, c3, c4, c5, f0, f1, f2, f3, f4, f5⟩ := blk6 KZ.out
      refine start_ (n := 11) (S := fun w' => w'.cell? ⟨w1.heap.size, 0, none⟩ = some (.int .u64 53) ∧ w'.cell? ⟨w1.heap.size, 1, none⟩ = some (.int .i64 0) ∧ w'.cell? ⟨w1.heap.size, 2, none⟩ = some (.int .i64 1) ∧ w'.cell? ⟨w1.heap.size, 3, none⟩ = some (.bool (sg N)) ∧ w'.cell? ⟨w1.heap.size, 4, none⟩ = some (.slice A' mm' cc') ∧ w'.cell? ⟨w1.heap.size, 5, none⟩ = some (.int .i64 y)) (ds := []) #[false, false, false, false, false, false, false, false, false, false, false] (by kernel_rfl) rfl rfl ⟨(by go_simp), (by go_simp), (by go_simp), (by go_simp), (by go_simp), (by go_simp)⟩ (fun hHeld => ?_)
      refine pure_ (i := 1) (N := some 64) (v := ?_) (a' := ?_) #[false, true, false, false, false, false, false, false, false, false, false] rfl rfl (by kernel_rfl) (fun _ _ _ h => h) (Or.inl ⟨by rfl, ?_⟩) ?_ ?_
      rotate_left
      · intro w'
        go_simp
        with_reducible rfl
      rotate_left
      · simp only [Act.put, List.setIfInBounds_toArray, List.set_cons_zero, List.set_cons_succ, i64_w, i32_w]
        rfl
      refine take_ (i := 0) (N := some 63) (v := ?_) (a' := ?_) #[true, true, false, false, false, false, false, false, false, false, false] rfl rfl (by kernel_rfl) (fun _ _ _ h => h) (Or.inl ⟨by rfl, ?_⟩) hHeld ?_ ?_
      rotate_left
      · rintro w' ⟨s0, s1, s2, s3, s4, s5⟩
        go_simp
        with_reducible rfl
      rotate_left
      · simp only [Act.put, List.setIfInBounds_toArray, List.set_cons_zero, List.set_cons_succ, i64_w, i32_w]
        rfl
      refine one_ (i := 2) (N := some 65) #[true, true, true, false, false, false, false, false, false, false, false] rfl rfl (by kernel_rfl) (by decide) (fun K hK => ?_)
      refine goes_ Tryd.func17 (by kernel_rfl) rfl #[.int .u64 (N : Int)] (by rfl) rfl rfl (by simp only [List.map_toArray, List.map_cons, List.map_nil]; rfl) ?_
      with_reducible refine (HOR.out).mono ?_
      rintro e wo ⟨A9, m9, k9, rfl, hd, hb4⟩
      refine ⟨_, rfl, ?_⟩
      have HD := Aside0.mk hd
      have HW4 := Aside0.mk ((HW2.out.below (below_drew (Below.refl _ _))).below hb4)
      have HB4 := Aside0.mk (below_step HBD.out hb4)
      have KZ4 := Aside0.mk (hp_below (show hp w2.drew w1.heap.size = _ from KZ.out) hb4)
      obtain ⟨q0, q1, q2, q3, q4, q5, _, _, _, _, _, _⟩ := blk6 KZ4.out
      clear hd hb4
      refine hK.out _ _ ⟨q0, q1, q2, q3, q4, q5⟩ (fun hHeld => ?_)
      clear hK K
      refine norm_ (a' := ?_) ?_ ?_
      rotate_left
      · show Act.put _ (some 65) _ = _
        simp only [Act.put, List.setIfInBounds_toArray, List.set_cons_zero, List.set_cons_succ, i64_w, i32_w]
        rfl
      refine one_ (i := 3) (N := some 66) #[true, true, true, true, false, false, false, false, false, false, false] rfl rfl (by kernel_rfl) (by decide) (fun K hK => ?_)
      refine goes_ Tryd.func16 (by kernel_rfl) rfl #[.agg #[.int .u64 53, .int .i64 0, .int .i64 1, .bool (sg N), .slice A' mm' cc', .int .i64 y], .int .u64 53, .int .i64 0, .agg #[.bool (sg N), .slice A9 m9 k9, .int .i64 (ex N)]] (by rfl) rfl rfl (by simp only [List.map_toArray, List.map_cons, List.map_nil]; rfl) ?_
      with_reducible refine (isReal_c 53 0 y (ex N) (sg N) A' A9 mm' cc' m9 k9 (mg N) n wo HW4.out HD.out hmp HML.out HTZ.out HYX.out hexb).mono ?_
      rintro e wp ⟨rfl, hb5⟩
      refine ⟨_, rfl, ?_⟩
      have HB5 := Aside0.mk (below_step HB4.out hb5)
      obtain ⟨q0, q1, q2, q3, q4, q5, _, _, _, _, _, _⟩ := blk6 (hp_below KZ4.out hb5)
      clear hb5
      refine hK.out _ _ ⟨q0, q1, q2, q3, q4, q5⟩ (fun hHeld => ?_)
      clear hK K
      refine norm_ (a' := ?_) ?_ ?_
      rotate_left
      · show Act.put _ (some 66) _ = _
        simp only [Act.put, List.setIfInBounds_toArray, List.set_cons_zero, List.set_cons_succ, i64_w, i32_w]
        rfl
      refine pure_ (i := 4) (N := some 67) (v := ?_) (a' := ?_) #[true, true, true, true, true, false, false, false, false, false, false] rfl rfl (by kernel_rfl) (fun _ _ _ h => h) (Or.inl ⟨by rfl, ?_⟩) ?_ ?_
      rotate_left
      · intro w'
        go_simp
        with_reducible rfl
      rotate_left
      · simp only [Act.put, List.setIfInBounds_toArray, List.set_cons_zero, List.set_cons_succ, i64_w, i32_w]
        rfl
      refine pure_ (i := 5) (N := some 68) (v := ?_) (a' := ?_) #[true, true, true, true, true, true, false, false, false, false, false] rfl rfl (by kernel_rfl) (fun _ _ _ h => h) (Or.inl ⟨by rfl, ?_⟩) ?_ ?_
      rotate_left
      · intro w'
        go_simp
        with_reducible rfl
      rotate_left
      · simp only [Act.put, List.setIfInBounds_toArray, List.set_cons_zero, List.set_cons_succ, i64_w, i32_w]
        rfl
      refine pure_ (i := 7) (N := some 70) (v := ?_) (a' := ?_) #[true, true, true, true, true, true, false, true, false, false, false] rfl rfl (by kernel_rfl) (fun _ _ _ h => h) (Or.inl ⟨by rfl, ?_⟩) ?_ ?_
      rotate_left
      · intro w'
        go_simp
        with_reducible rfl
      rotate_left
      · simp only [Act.put, List.setIfInBounds_toArray, List.set_cons_zero, List.set_cons_succ, i64_w, i32_w]
        rfl
      refine take_ (i := 6) (N := some 69) (v := ?_) (a' := ?_) #[true, true, true, true, true, true, true, true, false, false, false] rfl rfl (by kernel_rfl) (fun _ _ _ h => h) (Or.inl ⟨by rfl, ?_⟩) hHeld ?_ ?_
      rotate_left
      · rintro w' ⟨s0, s1, s2, s3, s4, s5⟩
        go_simp
        with_reducible rfl
      rotate_left
      · simp only [Act.put, List.setIfInBounds_toArray, List.set_cons_zero, List.set_cons_succ, i64_w, i32_w]
        rfl
      refine pure_ (i := 8) (N := some 71) (v := ?_) (a' := ?_) #[true, true, true, true, true, true, true, true, true, false, false] rfl rfl (by kernel_rfl) (fun _ _ _ h => h) (Or.inl ⟨by rfl, ?_⟩) ?_ ?_
      rotate_left
      · intro w'
        go_simp
        with_reducible rfl
      rotate_left
      · simp only [Act.put, List.setIfInBounds_toArray, List.set_cons_zero, List.set_cons_succ, i64_w, i32_w]
        rfl
      refine pure_ (i := 9) (N := some 72) (v := ?_) (a' := ?_) #[true, true, true, true, true, true, true, true, true, true, false] rfl rfl (by kernel_rfl) (fun _ _ _ h => h) (Or.inl ⟨by rfl, ?_⟩) ?_ ?_
      rotate_left
      · intro w'
        go_simp
        with_reducible rfl
      rotate_left
      · simp only [Act.put, List.setIfInBounds_toArray, List.set_cons_zero, List.set_cons_succ, i64_w, i32_w]
        rfl
      refine pure_ (i := 10) (N := some 2) (v := ?_) (a' := ?_) #[true, true, true, true, true, true, true, true, true, true, true] rfl rfl (by kernel_rfl) (fun _ _ _ h => h) (Or.inl ⟨by rfl, ?_⟩) ?_ ?_
      rotate_left
      · intro w'
        go_simp
        with_reducible rfl
      rotate_left
      · simp only [Act.put, List.setIfInBounds_toArray, List.set_cons_zero, List.set_cons_succ, i64_w, i32_w]
        rfl
      refine done_ (by kernel_rfl) ?_
      go_wp2_with (fail)
      go_ret
      exact ⟨rfl, HB5.out⟩
  · have hx1 : N / 4503599627370496 % 2048 = 2047 := by omega
    rw [hx1] at hax
    have hf1 : N % 4503599627370496 = 0 := by omega
    rw [hf1] at haf
    have hsf : sf N = 2 := if_neg (by omega)
    have hfb := fromB_spc N w hN (.inr hinf)
    rw [hsf] at hfb
    have HFB := Aside0.mk hfb
    clear hfb hsf hx1 hf1 hinf
    go_enter Tryd.func4, Tryd.ntmps4
    go_wp2_with ((fail_if_success go_at_call 14); go_in)
    refine (HFB.out).mono ?_
    rintro e w1 ⟨A', cc', rfl, hb1⟩
    have HB1 := Aside0.mk hb1
    clear hb1
    go_wp2_with ((fail_if_success go_at_call 14); go_in)
    go_ret
    exact ⟨rfl, below_alloc HB1.out _⟩
  · have hx1 : N / 4503599627370496 % 2048 = 2047 := by omega
    rw [hx1] at hax
    have hf1 : 0 < N % 4503599627370496 := by omega
    generalize N % 4503599627370496 = F at haf hf1
    have hfb : decide ((0 : Int) < (F : Int)) = true := decide_eq_true (by omega)
    have HFB := Aside0.mk (fromB_nan N w hN hnan)
    clear hx1 hnan
    go_enter Tryd.func4, Tryd.ntmps4
    go_wp2_with ((fail_if_success go_at_call 14); go_in)
    refine (HFB.out).mono ?_
    rintro e w1 ⟨rfl, hb1⟩
    have HB1 := Aside0.mk hb1
    clear hb1
    go_wp2_with ((fail_if_success go_at_call 14); go_in)
    go_ret
    exact ⟨rfl, below_alloc (below_alloc HB1.out _) _⟩
end Go.Proofs.YtglikgjaobedbaaDoor.fnBits
