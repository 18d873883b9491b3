/-
  FnPutBits WALKED.
-/
import Derived.Test.YtglikgjaobedbaaDoorGput
import Derived.Test.YtglikgjaobedbaaDoorGrnd
import Derived.Test.YtglikgjaobedbaaDoorSpLTarget
namespace Go.Proofs.YtglikgjaobedbaaDoor.fnPutBits
open Go.RowKit Go.Proofs.YtglikgjaobedbaaDoorW.PrintWords Go.Proofs.YtglikgjaobedbaaDoorW.PrintLast Go.Proofs.YtglikgjaobedbaaDoorW.PrintMore Go.Proofs.YtglikgjaobedbaaDoor.Dig Go.Proofs.YtglikgjaobedbaaDoor.Sp Go.Proofs.YtglikgjaobedbaaDoor.Flo
set_option linter.unusedVariables false
set_option linter.unusedSimpArgs false
theorem target_c (a b : Nat) (w : World) : Calls Tryd.prog 12 #[.int .u16 (a : Int), .int .u8 (b : Int)] w fun e w' => e = .returned (.tuple #[.int .u64 ((a % 301 : Nat) : Int), .int .i64 ((b % 6 : Nat) : Int)]) ∧ Below w.heap.size w w' := by
  have e1 : IntKind.u64.wrap (Int.tmod (a : Int) 301) = ((a % 301 : Nat) : Int) := by rw [Int.tmod_eq_emod_of_nonneg (by omega), IntKind.wrap_u64]; omega
  have e2 : wrap64 (Int.tmod (b : Int) 6) = ((b % 6 : Nat) : Int) := by rw [Int.tmod_eq_emod_of_nonneg (by omega), w64 (by omega) (by omega)]; omega
  refine (laws_target.calls a b _ _ w (by unfold laws_target.f; rw [e1, e2])).mono ?_
  rintro e w' ⟨rfl, hb⟩
  exact ⟨rfl, hb.below⟩
set_option maxHeartbeats 6400000 in
set_option maxRecDepth 100000 in
theorem walk (a : Int) (ha : (Lit.int .u16 a).wf = true) (b : Int) (hb : (Lit.int .u8 b).wf = true) (c : Int) (hc : (Lit.int .u64 c).wf = true) (w : World) (hT : Tb w) :
    Calls Tryd.prog 5 #[.int .u16 a, .int .u8 b, .int .u64 c] w fun e w' => e = .returned (.bool true) ∧ Below w.heap.size w w' := by
  have ha2 := wf_u16 ha
  have hb2 := wf_u8 hb
  have hc2 := wf_u64 hc
  clear ha hb hc
  obtain ⟨a, rfl⟩ := Int.eq_ofNat_of_zero_le ha2.1
  obtain ⟨b, rfl⟩ := Int.eq_ofNat_of_zero_le hb2.1
  obtain ⟨N, rfl⟩ := Int.eq_ofNat_of_zero_le hc2.1
  have hN : N < 18446744073709551616 := by omega
  have hu := Tryd.underlying28
  have hsg := sg_int N hN
  have hax := and_exp2 N hN
  have haf := and_frac N hN
  have HTG := Aside0.mk (target_c a b w)
  obtain ⟨p, hp⟩ : ∃ p, p = a % 301 := ⟨_, rfl⟩
  obtain ⟨M, hM⟩ : ∃ M, M = ((b % 6 : Nat) : Int) := ⟨_, rfl⟩
  rw [← hp, ← hM] at HTG
  have hp2 : p ≤ 300 := by omega
  have hM2 : 0 ≤ M ∧ M < 6 := by omega
  have hgT : 2 < w.heap.size := hT.2
  have HT := Aside0.mk hT
  clear ha2 hb2 hc2 hp hM hT
  obtain ⟨P, hP⟩ : ∃ P, P = if p = 0 then 53 else p := ⟨_, rfl⟩
  have hP1 : 1 ≤ P ∧ P ≤ 300 := by rw [hP]; split <;> omega
  rcases Nat.lt_trichotomy (N % 9223372036854775808) 9218868437227405312 with hfin | hinf | hnan
  · have hx1 : N / 4503599627370496 % 2048 < 2047 := by omega
    generalize N / 4503599627370496 % 2048 = X at hax hx1
    generalize N % 4503599627370496 = F at haf
    have hxb : ((X : Int) == 2047) = false := by rw [beq_eq_false_iff_ne]; omega
    have hex : -1074 ≤ ex N ∧ ex N ≤ 971 := by unfold ex; split <;> omega
    rcases Nat.eq_zero_or_pos (N % 9223372036854775808) with h0 | h0
    · have hsf : sf N = 0 := if_pos h0
      have hmg : ((mg N : Nat) : Int) = 0 := by unfold mg; rw [if_pos (by omega), h0]; rfl
      have hz0 := rq_exact (sg N) M 0 0 rfl
      have hset : ∀ g W, hp W g = some (.cells #[.int .u32 p, .int .u8 M, .int .i8 0, .int .u8 0, .bool false, .slice none 0 0, .int .i32 0] 91 (0, 0)) → Calls Tryd.prog 45 #[.pointer (some ⟨g, 0, none⟩), .float .f64 N] W fun e w' => e = .returned (.pointer (some ⟨g, 0, none⟩)) ∧ (TF (fun i => i = g ∨ W.heap.size ≤ i) w' g P M 0 0 (sg N) 0 0 ∧ Kept (On g) W w') := fun g W hg => by
        refine (setF_spc g p M N W hg hN (.inl h0)).mono ?_
        rintro e w' ⟨he, h1, h2⟩
        rw [hsf, ← hP] at h1
        exact ⟨he, ⟨.inl rfl, by omega, .inr ⟨.inl rfl, rfl, rfl, _, _, h1⟩⟩, h2⟩
      have HPB := Aside0.mk (fun W hT => putB_ret p M N P 0 0 0 0 (sg N) W hT (by omega) (by omega) hM2 hset)
      have HMG := Aside0.mk hmg
      have HOB := Aside0.mk (fun W => ofBits_c N hN hfin W)
      clear hset hsf hmg h0 hfin
      by_cases hp0 : p = 0
      · obtain rfl : P = 53 := by rw [hP, if_pos hp0]
        subst hp0
        clear hP
        go_enter Tryd.func5, Tryd.ntmps5
        go_wp2_with (fail)
        refine (HTG.out).mono ?_
        rintro e w0 ⟨rfl, hb0⟩
        have HB0 := Aside0.mk hb0
        have HT0 := Aside0.mk (HT.out.below hb0 hgT)
        clear hb0 HTG HT
        go_wp2_with (fail)
        refine (HPB.out w0 HT0.out).mono ?_
        rintro e w1 ⟨A', mm', cc', rfl, hv, hb1⟩
        have HB1 := Aside0.mk (below_step HB0.out hb1)
        have hs1 : w.heap.size ≤ w1.heap.size := HB1.out.size
        have HWD := Aside0.mk hv.wd
        have HMM : Aside0 (mm' = 0) := ⟨by
          obtain ⟨_, _, l, e1, _, _, h4, h5⟩ := hv.wd
          injection e1 with e1 e2 e3
          rw [e2, Cn_zero h4 BW_pos h5]
          rfl⟩
        clear hb1 HPB HB0 HT0 hv
        have KZ := Aside0.mk (show hp (w1.alloc (.cells #[.int .u64 53, .int .i64 M, .int .i64 0, .bool (sg N), .slice A' mm' cc', .int .i64 0] 28)) w1.heap.size = some (.cells #[.int .u64 53, .int .i64 M, .int .i64 0, .bool (sg N), .slice A' mm' cc', .int .i64 0] 28 (0, 0)) from (by simp (disch := first | omega | (simp; omega) | (simp; done) | fail) [hp_new, hp_old, hp_here, hp_other, setObj_cells, hp_drew, hp_drewN]))
        have HZ0 := Aside0.mk (below_alloc (Below.refl w1.heap.size w1) (.cells #[.int .u64 53, .int .i64 M, .int .i64 0, .bool (sg N), .slice A' mm' cc', .int .i64 0] 28))
        go_upto_region 12 with (fail)
        obtain ⟨w2, hw2⟩ : ∃ w2, w2 = w1.alloc (.cells #[.int .u64 53, .int .i64 M, .int .i64 0, .bool (sg N), .slice A' mm' cc', .int .i64 0] 28) := ⟨_, rfl⟩
        rw [← hw2] at KZ HZ0 ⊢
        clear hw2
        have HB2 := Aside0.mk (HB1.out.trans (HZ0.out.mono hs1))
        have HBD := Aside0.mk (below_drew1 HB2.out)
        have HW2 := Aside0.mk (HWD.out.below HZ0.out)
        have HOR := Aside0.mk (HOB.out w2.drew)
        have lz := hp_lt KZ.out
        obtain ⟨c0, c1, c2, c3, c4, c5, f0, f1, f2, f3, f4, f5⟩ := blk6 KZ.out
        refine start_ (n := 8) (S := fun w' => w'.cell? ⟨w1.heap.size, 0, none⟩ = some (.int .u64 53) ∧ w'.cell? ⟨w1.heap.size, 1, none⟩ = some (.int .i64 M) ∧ w'.cell? ⟨w1.heap.size, 2, none⟩ = some (.int .i64 0) ∧ w'.cell? ⟨w1.heap.size, 3, none⟩ = some (.bool (sg N)) ∧ w'.cell? ⟨w1.heap.size, 4, none⟩ = some (.slice A' mm' cc') ∧ w'.cell? ⟨w1.heap.size, 5, none⟩ = some (.int .i64 0)) (ds := []) #[false, false, false, false, false, false, false, false] (by kernel_rfl) rfl rfl ⟨(by go_simp), (by go_simp), (by go_simp), (by go_simp), (by go_simp), (by go_simp)⟩ (fun hHeld => ?_)
        refine pure_ (i := 1) (N := some 76) (v := ?_) (a' := ?_) #[false, true, false, false, false, false, false, false] rfl rfl (by kernel_rfl) (fun _ _ _ h => h) (Or.inl ⟨by rfl, ?_⟩) ?_ ?_
        rotate_left
        · intro w'
          go_simp
          with_reducible rfl
        rotate_left
        · simp only [Act.put, List.setIfInBounds_toArray, List.set_cons_zero, List.set_cons_succ, i64_w, i32_w]
          rfl
        refine pure_ (i := 2) (N := some 77) (v := ?_) (a' := ?_) #[false, true, true, false, false, false, false, false] rfl rfl (by kernel_rfl) (fun _ _ _ h => h) (Or.inl ⟨by rfl, ?_⟩) ?_ ?_
        rotate_left
        · intro w'
          go_simp
          with_reducible rfl
        rotate_left
        · simp only [Act.put, List.setIfInBounds_toArray, List.set_cons_zero, List.set_cons_succ, i64_w, i32_w]
          rfl
        refine pure_ (i := 4) (N := some 79) (v := ?_) (a' := ?_) #[false, true, true, false, true, false, false, false] rfl rfl (by kernel_rfl) (fun _ _ _ h => h) (Or.inl ⟨by rfl, ?_⟩) ?_ ?_
        rotate_left
        · intro w'
          go_simp
          with_reducible rfl
        rotate_left
        · simp only [Act.put, List.setIfInBounds_toArray, List.set_cons_zero, List.set_cons_succ, i64_w, i32_w]
          rfl
        refine pure_ (i := 5) (N := some 80) (v := ?_) (a' := ?_) #[false, true, true, false, true, true, false, false] rfl rfl (by kernel_rfl) (fun _ _ _ h => h) (Or.inl ⟨by rfl, ?_⟩) ?_ ?_
        rotate_left
        · intro w'
          go_simp
          with_reducible rfl
        rotate_left
        · simp only [Act.put, List.setIfInBounds_toArray, List.set_cons_zero, List.set_cons_succ, i64_w, i32_w]
          rfl
        refine take_ (i := 0) (N := some 75) (v := ?_) (a' := ?_) #[true, true, true, false, true, true, false, false] rfl rfl (by kernel_rfl) (fun _ _ _ h => h) (Or.inl ⟨by rfl, ?_⟩) hHeld ?_ ?_
        rotate_left
        · rintro w' ⟨s0, s1, s2, s3, s4, s5⟩
          go_simp
          with_reducible rfl
        rotate_left
        · simp only [Act.put, List.setIfInBounds_toArray, List.set_cons_zero, List.set_cons_succ, i64_w, i32_w]
          rfl
        refine one_ (i := 3) (N := some 78) #[true, true, true, true, true, true, false, false] rfl rfl (by kernel_rfl) (by decide) (fun K hK => ?_)
        refine goes_ Tryd.func17 (by kernel_rfl) rfl #[.int .u64 (N : Int)] (by rfl) rfl rfl (by simp only [List.map_toArray, List.map_cons, List.map_nil]; rfl) ?_
        with_reducible refine (HOR.out).mono ?_
        rintro e wo ⟨A9, m9, k9, rfl, hd, hb4⟩
        refine ⟨_, rfl, ?_⟩
        have HD := Aside0.mk hd
        have HW4 := Aside0.mk ((HW2.out.below (below_drew (Below.refl _ _))).below hb4)
        have HB4 := Aside0.mk (below_step HBD.out hb4)
        have KZ4 := Aside0.mk (hp_below (show hp w2.drew w1.heap.size = _ from KZ.out) hb4)
        obtain ⟨q0, q1, q2, q3, q4, q5, _, _, _, _, _, _⟩ := blk6 KZ4.out
        clear hd hb4
        refine hK.out _ _ ⟨q0, q1, q2, q3, q4, q5⟩ (fun hHeld => ?_)
        clear hK K
        refine norm_ (a' := ?_) ?_ ?_
        rotate_left
        · show Act.put _ (some 78) _ = _
          simp only [Act.put, List.setIfInBounds_toArray, List.set_cons_zero, List.set_cons_succ, i64_w, i32_w]
          rfl
        refine one_ (i := 6) (N := some 81) #[true, true, true, true, true, true, true, false] rfl rfl (by kernel_rfl) (by decide) (fun K hK => ?_)
        refine goes_ Tryd.func19 (by kernel_rfl) rfl #[.agg #[.int .u64 53, .int .i64 M, .int .i64 0, .bool (sg N), .slice A' mm' cc', .int .i64 0], .int .i64 0, .agg #[.bool (sg N), .slice A9 m9 k9, .int .i64 (ex N)], .int .u64 53, .int .i64 M] (by rfl) rfl rfl (by simp only [List.map_toArray, List.map_cons, List.map_nil]; rfl) ?_
        with_reducible refine (rounds53_c M 0 0 0 0 (ex N) 0 0 (sg N) (sg N) A' A9 mm' cc' m9 k9 0 wo HW4.out (by have := HD.out; rwa [HMG.out] at this) Bits.zero (lt_Lim 1 (by decide) (by omega)) (by omega) (by omega) (by rw [Nat.zero_sub]; exact hz0.2.symm) (by rw [Nat.zero_sub]; exact (hz0.1.trans (by simp)).symm) (fun A2 m2 c2 W hz hq => by obtain rfl : mm' = 0 := HMM.out; exact isReal0_c 53 M (ex N + ((0 - 53 : Nat) : Int)) (sg N) (sg N) A' A2 cc' m2 c2 W hz hq)).mono ?_
        rintro e wp ⟨rfl, hb5⟩
        refine ⟨_, rfl, ?_⟩
        have HB5 := Aside0.mk (below_step HB4.out hb5)
        obtain ⟨q0, q1, q2, q3, q4, q5, _, _, _, _, _, _⟩ := blk6 (hp_below KZ4.out hb5)
        clear hb5
        refine hK.out _ _ ⟨q0, q1, q2, q3, q4, q5⟩ (fun hHeld => ?_)
        clear hK K
        refine norm_ (a' := ?_) ?_ ?_
        rotate_left
        · show Act.put _ (some 81) _ = _
          simp only [Act.put, List.setIfInBounds_toArray, List.set_cons_zero, List.set_cons_succ, i64_w, i32_w]
          rfl
        refine pure_ (i := 7) (N := some 6) (v := ?_) (a' := ?_) #[true, true, true, true, true, true, true, true] rfl rfl (by kernel_rfl) (fun _ _ _ h => h) (Or.inl ⟨by rfl, ?_⟩) ?_ ?_
        rotate_left
        · intro w'
          go_simp
          with_reducible rfl
        rotate_left
        · simp only [Act.put, List.setIfInBounds_toArray, List.set_cons_zero, List.set_cons_succ, i64_w, i32_w]
          rfl
        refine done_ (by kernel_rfl) ?_
        go_wp2_with (fail)
        go_ret
        exact ⟨rfl, HB5.out⟩
      · obtain rfl : P = p := by rw [hP, if_neg hp0]
        have hpb : ((P : Int) == 0) = false := by rw [beq_eq_false_iff_ne]; omega
        clear hP hp0
        go_enter Tryd.func5, Tryd.ntmps5
        go_wp2_with (fail)
        refine (HTG.out).mono ?_
        rintro e w0 ⟨rfl, hb0⟩
        have HB0 := Aside0.mk hb0
        have HT0 := Aside0.mk (HT.out.below hb0 hgT)
        clear hb0 HTG HT
        go_wp2_with (fail)
        refine (HPB.out w0 HT0.out).mono ?_
        rintro e w1 ⟨A', mm', cc', rfl, hv, hb1⟩
        have HB1 := Aside0.mk (below_step HB0.out hb1)
        have hs1 : w.heap.size ≤ w1.heap.size := HB1.out.size
        have HWD := Aside0.mk hv.wd
        have HMM : Aside0 (mm' = 0) := ⟨by
          obtain ⟨_, _, l, e1, _, _, h4, h5⟩ := hv.wd
          injection e1 with e1 e2 e3
          rw [e2, Cn_zero h4 BW_pos h5]
          rfl⟩
        clear hb1 HPB HB0 HT0 hv
        have KZ := Aside0.mk (show hp (w1.alloc (.cells #[.int .u64 P, .int .i64 M, .int .i64 0, .bool (sg N), .slice A' mm' cc', .int .i64 0] 28)) w1.heap.size = some (.cells #[.int .u64 P, .int .i64 M, .int .i64 0, .bool (sg N), .slice A' mm' cc', .int .i64 0] 28 (0, 0)) from (by simp (disch := first | omega | (simp; omega) | (simp; done) | fail) [hp_new, hp_old, hp_here, hp_other, setObj_cells, hp_drew, hp_drewN]))
        have HZ0 := Aside0.mk (below_alloc (Below.refl w1.heap.size w1) (.cells #[.int .u64 P, .int .i64 M, .int .i64 0, .bool (sg N), .slice A' mm' cc', .int .i64 0] 28))
        go_upto_region 12 with (fail)
        obtain ⟨w2, hw2⟩ : ∃ w2, w2 = w1.alloc (.cells #[.int .u64 P, .int .i64 M, .int .i64 0, .bool (sg N), .slice A' mm' cc', .int .i64 0] 28) := ⟨_, rfl⟩
        rw [← hw2] at KZ HZ0 ⊢
        clear hw2
        have HB2 := Aside0.mk (HB1.out.trans (HZ0.out.mono hs1))
        have HBD := Aside0.mk (below_drew1 HB2.out)
        have HW2 := Aside0.mk (HWD.out.below HZ0.out)
        have HOR := Aside0.mk (HOB.out w2.drew)
        have lz := hp_lt KZ.out
        obtain ⟨c0, c1, c2, c3, c4, c5, f0, f1, f2, f3, f4, f5⟩ := blk6 KZ.out
        refine start_ (n := 8) (S := fun w' => w'.cell? ⟨w1.heap.size, 0, none⟩ = some (.int .u64 P) ∧ w'.cell? ⟨w1.heap.size, 1, none⟩ = some (.int .i64 M) ∧ w'.cell? ⟨w1.heap.size, 2, none⟩ = some (.int .i64 0) ∧ w'.cell? ⟨w1.heap.size, 3, none⟩ = some (.bool (sg N)) ∧ w'.cell? ⟨w1.heap.size, 4, none⟩ = some (.slice A' mm' cc') ∧ w'.cell? ⟨w1.heap.size, 5, none⟩ = some (.int .i64 0)) (ds := []) #[false, false, false, false, false, false, false, false] (by kernel_rfl) rfl rfl ⟨(by go_simp), (by go_simp), (by go_simp), (by go_simp), (by go_simp), (by go_simp)⟩ (fun hHeld => ?_)
        refine pure_ (i := 1) (N := some 76) (v := ?_) (a' := ?_) #[false, true, false, false, false, false, false, false] rfl rfl (by kernel_rfl) (fun _ _ _ h => h) (Or.inl ⟨by rfl, ?_⟩) ?_ ?_
        rotate_left
        · intro w'
          go_simp
          with_reducible rfl
        rotate_left
        · simp only [Act.put, List.setIfInBounds_toArray, List.set_cons_zero, List.set_cons_succ, i64_w, i32_w]
          rfl
        refine pure_ (i := 2) (N := some 77) (v := ?_) (a' := ?_) #[false, true, true, false, false, false, false, false] rfl rfl (by kernel_rfl) (fun _ _ _ h => h) (Or.inl ⟨by rfl, ?_⟩) ?_ ?_
        rotate_left
        · intro w'
          go_simp
          with_reducible rfl
        rotate_left
        · simp only [Act.put, List.setIfInBounds_toArray, List.set_cons_zero, List.set_cons_succ, i64_w, i32_w]
          rfl
        refine pure_ (i := 4) (N := some 79) (v := ?_) (a' := ?_) #[false, true, true, false, true, false, false, false] rfl rfl (by kernel_rfl) (fun _ _ _ h => h) (Or.inl ⟨by rfl, ?_⟩) ?_ ?_
        rotate_left
        · intro w'
          go_simp
          with_reducible rfl
        rotate_left
        · simp only [Act.put, List.setIfInBounds_toArray, List.set_cons_zero, List.set_cons_succ, i64_w, i32_w]
          rfl
        refine pure_ (i := 5) (N := some 80) (v := ?_) (a' := ?_) #[false, true, true, false, true, true, false, false] rfl rfl (by kernel_rfl) (fun _ _ _ h => h) (Or.inl ⟨by rfl, ?_⟩) ?_ ?_
        rotate_left
        · intro w'
          go_simp
          with_reducible rfl
        rotate_left
        · simp only [Act.put, List.setIfInBounds_toArray, List.set_cons_zero, List.set_cons_succ, i64_w, i32_w]
          rfl
        refine take_ (i := 0) (N := some 75) (v := ?_) (a' := ?_) #[true, true, true, false, true, true, false, false] rfl rfl (by kernel_rfl) (fun _ _ _ h => h) (Or.inl ⟨by rfl, ?_⟩) hHeld ?_ ?_
        rotate_left
        · rintro w' ⟨s0, s1, s2, s3, s4, s5⟩
          go_simp
          with_reducible rfl
        rotate_left
        · simp only [Act.put, List.setIfInBounds_toArray, List.set_cons_zero, List.set_cons_succ, i64_w, i32_w]
          rfl
        refine one_ (i := 3) (N := some 78) #[true, true, true, true, true, true, false, false] rfl rfl (by kernel_rfl) (by decide) (fun K hK => ?_)
        refine goes_ Tryd.func17 (by kernel_rfl) rfl #[.int .u64 (N : Int)] (by rfl) rfl rfl (by simp only [List.map_toArray, List.map_cons, List.map_nil]; rfl) ?_
        with_reducible refine (HOR.out).mono ?_
        rintro e wo ⟨A9, m9, k9, rfl, hd, hb4⟩
        refine ⟨_, rfl, ?_⟩
        have HD := Aside0.mk hd
        have HW4 := Aside0.mk ((HW2.out.below (below_drew (Below.refl _ _))).below hb4)
        have HB4 := Aside0.mk (below_step HBD.out hb4)
        have KZ4 := Aside0.mk (hp_below (show hp w2.drew w1.heap.size = _ from KZ.out) hb4)
        obtain ⟨q0, q1, q2, q3, q4, q5, _, _, _, _, _, _⟩ := blk6 KZ4.out
        clear hd hb4
        refine hK.out _ _ ⟨q0, q1, q2, q3, q4, q5⟩ (fun hHeld => ?_)
        clear hK K
        refine norm_ (a' := ?_) ?_ ?_
        rotate_left
        · show Act.put _ (some 78) _ = _
          simp only [Act.put, List.setIfInBounds_toArray, List.set_cons_zero, List.set_cons_succ, i64_w, i32_w]
          rfl
        refine one_ (i := 6) (N := some 81) #[true, true, true, true, true, true, true, false] rfl rfl (by kernel_rfl) (by decide) (fun K hK => ?_)
        refine goes_ Tryd.func19 (by kernel_rfl) rfl #[.agg #[.int .u64 P, .int .i64 M, .int .i64 0, .bool (sg N), .slice A' mm' cc', .int .i64 0], .int .i64 0, .agg #[.bool (sg N), .slice A9 m9 k9, .int .i64 (ex N)], .int .u64 P, .int .i64 M] (by rfl) rfl rfl (by simp only [List.map_toArray, List.map_cons, List.map_nil]; rfl) ?_
        with_reducible refine (rounds_c P M 0 0 0 0 (ex N) 0 0 (sg N) (sg N) A' A9 mm' cc' m9 k9 0 wo HW4.out (by have := HD.out; rwa [HMG.out] at this) Bits.zero (lt_Lim 1 (by decide) (by omega)) (by omega) (by omega) (by omega) (by rw [Nat.zero_sub]; exact hz0.2.symm) (by rw [Nat.zero_sub]; exact (hz0.1.trans (by simp)).symm) (fun A2 m2 c2 W hz hq => by obtain rfl : mm' = 0 := HMM.out; exact isReal0_c P M (ex N + ((0 - P : Nat) : Int)) (sg N) (sg N) A' A2 cc' m2 c2 W hz hq)).mono ?_
        rintro e wp ⟨rfl, hb5⟩
        refine ⟨_, rfl, ?_⟩
        have HB5 := Aside0.mk (below_step HB4.out hb5)
        obtain ⟨q0, q1, q2, q3, q4, q5, _, _, _, _, _, _⟩ := blk6 (hp_below KZ4.out hb5)
        clear hb5
        refine hK.out _ _ ⟨q0, q1, q2, q3, q4, q5⟩ (fun hHeld => ?_)
        clear hK K
        refine norm_ (a' := ?_) ?_ ?_
        rotate_left
        · show Act.put _ (some 81) _ = _
          simp only [Act.put, List.setIfInBounds_toArray, List.set_cons_zero, List.set_cons_succ, i64_w, i32_w]
          rfl
        refine pure_ (i := 7) (N := some 6) (v := ?_) (a' := ?_) #[true, true, true, true, true, true, true, true] rfl rfl (by kernel_rfl) (fun _ _ _ h => h) (Or.inl ⟨by rfl, ?_⟩) ?_ ?_
        rotate_left
        · intro w'
          go_simp
          with_reducible rfl
        rotate_left
        · simp only [Act.put, List.setIfInBounds_toArray, List.set_cons_zero, List.set_cons_succ, i64_w, i32_w]
          rfl
        refine done_ (by kernel_rfl) ?_
        go_wp2_with (fail)
        go_ret
        exact ⟨rfl, HB5.out⟩
    · have hmp : (0 : Int) < mg N := by have := mg_pos N h0; omega
      have hbl := bl_le N h0
      have hmb := mg_bits N h0
      obtain ⟨acc, hacc⟩ : ∃ acc, acc = rside (sg N) M (mg N) (bl N - P) false := ⟨_, rfl⟩
      obtain ⟨Q, hQ⟩ : ∃ Q, Q = rq (sg N) M (mg N) (bl N - P) false := ⟨_, rfl⟩
      have hQ0 : 0 < Q := by rw [hQ]; exact rq_pos hmb hmp hP1.1
      obtain ⟨n, hn⟩ := Tz.exists hQ0
      obtain ⟨y, hy⟩ : ∃ y, y = ex N + ((bl N - P : Nat) : Int) + n := ⟨_, rfl⟩
      have hset : ∀ g W, hp W g = some (.cells #[.int .u32 p, .int .u8 M, .int .i8 0, .int .u8 0, .bool false, .slice none 0 0, .int .i32 0] 91 (0, 0)) → Calls Tryd.prog 45 #[.pointer (some ⟨g, 0, none⟩), .float .f64 N] W fun e w' => e = .returned (.pointer (some ⟨g, 0, none⟩)) ∧ (TF (fun i => i = g ∨ W.heap.size ≤ i) w' g P M acc 1 (sg N) (Q / 2 ^ n) y ∧ Kept (On g) W w') := fun g W hg => by
        refine (setF_c g p M N W hg (by omega) hM2 hN h0 hfin).mono ?_
        rintro e w' h
        rw [← hP] at h
        obtain ⟨he, hk, n', hn', ht⟩ := setF_tf hN h0 hfin h hP1.1 (hp_lt hg)
        rw [← hQ] at hn' ht
        rw [← hacc] at ht
        obtain rfl : n' = n := hn'.uniq hn
        rw [← hy] at ht
        exact ⟨he, ht, hk⟩
      have HPB := Aside0.mk (fun W hT => putB_ret p M N P acc 1 (Q / 2 ^ n) y (sg N) W hT (by omega) (by omega) hM2 hset)
      have HOB := Aside0.mk (fun W => ofBits_c N hN hfin W)
      have hmlt : (mg N : Int) + 1 < 2 ^ 54 := by
        have h1 := hmb.2.1
        have h2 : (2 : Int) ^ bl N ≤ 2 ^ 53 := pow_mono (by omega) (by omega)
        have h3 : (2 : Int) ^ 54 = 2 ^ 53 + 2 ^ 53 := by decide
        omega
      have HML : Aside0 ((mg N : Int) + 1 < Lim) := ⟨lt_Lim 54 hmlt (by omega)⟩
      have hqle : Q ≤ mg N + 1 := by
        have h1 := Int.ediv_le_self (2 ^ (bl N - P)) (Int.le_of_lt hmp)
        rw [hQ]; unfold rq; split <;> omega
      have HQL : Aside0 (Q < Lim) := ⟨by have := HML.out; omega⟩
      have HMB := Aside0.mk hmb
      have HACC := Aside0.mk hacc
      have HQ := Aside0.mk hQ
      have HN := Aside0.mk hn
      have HY := Aside0.mk hy
      have HQ0 := Aside0.mk hQ0
      have HBL := Aside0.mk hbl
      clear hset hfin hmb hacc hQ hn hy hmlt hqle hQ0 hmp hbl
      by_cases hp0 : p = 0
      · obtain rfl : P = 53 := by rw [hP, if_pos hp0]
        subst hp0
        clear hP
        go_enter Tryd.func5, Tryd.ntmps5
        go_wp2_with (fail)
        refine (HTG.out).mono ?_
        rintro e w0 ⟨rfl, hb0⟩
        have HB0 := Aside0.mk hb0
        have HT0 := Aside0.mk (HT.out.below hb0 hgT)
        clear hb0 HTG HT
        go_wp2_with (fail)
        refine (HPB.out w0 HT0.out).mono ?_
        rintro e w1 ⟨A', mm', cc', rfl, hv, hb1⟩
        have HB1 := Aside0.mk (below_step HB0.out hb1)
        have hs1 : w.heap.size ≤ w1.heap.size := HB1.out.size
        have HWD := Aside0.mk hv.wd
        clear hb1 HPB HB0 HT0 hv
        have KZ := Aside0.mk (show hp (w1.alloc (.cells #[.int .u64 53, .int .i64 M, .int .i64 1, .bool (sg N), .slice A' mm' cc', .int .i64 y] 28)) w1.heap.size = some (.cells #[.int .u64 53, .int .i64 M, .int .i64 1, .bool (sg N), .slice A' mm' cc', .int .i64 y] 28 (0, 0)) from (by simp (disch := first | omega | (simp; omega) | (simp; done) | fail) [hp_new, hp_old, hp_here, hp_other, setObj_cells, hp_drew, hp_drewN]))
        have HZ0 := Aside0.mk (below_alloc (Below.refl w1.heap.size w1) (.cells #[.int .u64 53, .int .i64 M, .int .i64 1, .bool (sg N), .slice A' mm' cc', .int .i64 y] 28))
        go_upto_region 12 with (fail)
        obtain ⟨w2, hw2⟩ : ∃ w2, w2 = w1.alloc (.cells #[.int .u64 53, .int .i64 M, .int .i64 1, .bool (sg N), .slice A' mm' cc', .int .i64 y] 28) := ⟨_, rfl⟩
        rw [← hw2] at KZ HZ0 ⊢
        clear hw2
        have HB2 := Aside0.mk (HB1.out.trans (HZ0.out.mono hs1))
        have HBD := Aside0.mk (below_drew1 HB2.out)
        have HW2 := Aside0.mk (HWD.out.below HZ0.out)
        have HOR := Aside0.mk (HOB.out w2.drew)
        have lz := hp_lt KZ.out
        obtain ⟨c0, c1, c2, c3, c4, c5, f0, f1, f2, f3, f4, f5⟩ := blk6 KZ.out
        refine start_ (n := 8) (S := fun w' => w'.cell? ⟨w1.heap.size, 0, none⟩ = some (.int .u64 53) ∧ w'.cell? ⟨w1.heap.size, 1, none⟩ = some (.int .i64 M) ∧ w'.cell? ⟨w1.heap.size, 2, none⟩ = some (.int .i64 1) ∧ w'.cell? ⟨w1.heap.size, 3, none⟩ = some (.bool (sg N)) ∧ w'.cell? ⟨w1.heap.size, 4, none⟩ = some (.slice A' mm' cc') ∧ w'.cell? ⟨w1.heap.size, 5, none⟩ = some (.int .i64 y)) (ds := []) #[false, false, false, false, false, false, false, false] (by kernel_rfl) rfl rfl ⟨(by go_simp), (by go_simp), (by go_simp), (by go_simp), (by go_simp), (by go_simp)⟩ (fun hHeld => ?_)
        refine pure_ (i := 1) (N := some 76) (v := ?_) (a' := ?_) #[false, true, false, false, false, false, false, false] rfl rfl (by kernel_rfl) (fun _ _ _ h => h) (Or.inl ⟨by rfl, ?_⟩) ?_ ?_
        rotate_left
        · intro w'
          go_simp
          with_reducible rfl
        rotate_left
        · simp only [Act.put, List.setIfInBounds_toArray, List.set_cons_zero, List.set_cons_succ, i64_w, i32_w]
          rfl
        refine pure_ (i := 2) (N := some 77) (v := ?_) (a' := ?_) #[false, true, true, false, false, false, false, false] rfl rfl (by kernel_rfl) (fun _ _ _ h => h) (Or.inl ⟨by rfl, ?_⟩) ?_ ?_
        rotate_left
        · intro w'
          go_simp
          with_reducible rfl
        rotate_left
        · simp only [Act.put, List.setIfInBounds_toArray, List.set_cons_zero, List.set_cons_succ, i64_w, i32_w]
          rfl
        refine pure_ (i := 4) (N := some 79) (v := ?_) (a' := ?_) #[false, true, true, false, true, false, false, false] rfl rfl (by kernel_rfl) (fun _ _ _ h => h) (Or.inl ⟨by rfl, ?_⟩) ?_ ?_
        rotate_left
        · intro w'
          go_simp
          with_reducible rfl
        rotate_left
        · simp only [Act.put, List.setIfInBounds_toArray, List.set_cons_zero, List.set_cons_succ, i64_w, i32_w]
          rfl
        refine pure_ (i := 5) (N := some 80) (v := ?_) (a' := ?_) #[false, true, true, false, true, true, false, false] rfl rfl (by kernel_rfl) (fun _ _ _ h => h) (Or.inl ⟨by rfl, ?_⟩) ?_ ?_
        rotate_left
        · intro w'
          go_simp
          with_reducible rfl
        rotate_left
        · simp only [Act.put, List.setIfInBounds_toArray, List.set_cons_zero, List.set_cons_succ, i64_w, i32_w]
          rfl
        refine take_ (i := 0) (N := some 75) (v := ?_) (a' := ?_) #[true, true, true, false, true, true, false, false] rfl rfl (by kernel_rfl) (fun _ _ _ h => h) (Or.inl ⟨by rfl, ?_⟩) hHeld ?_ ?_
        rotate_left
        · rintro w' ⟨s0, s1, s2, s3, s4, s5⟩
          go_simp
          with_reducible rfl
        rotate_left
        · simp only [Act.put, List.setIfInBounds_toArray, List.set_cons_zero, List.set_cons_succ, i64_w, i32_w]
          rfl
        refine one_ (i := 3) (N := some 78) #[true, true, true, true, true, true, false, false] rfl rfl (by kernel_rfl) (by decide) (fun K hK => ?_)
        refine goes_ Tryd.func17 (by kernel_rfl) rfl #[.int .u64 (N : Int)] (by rfl) rfl rfl (by simp only [List.map_toArray, List.map_cons, List.map_nil]; rfl) ?_
        with_reducible refine (HOR.out).mono ?_
        rintro e wo ⟨A9, m9, k9, rfl, hd, hb4⟩
        refine ⟨_, rfl, ?_⟩
        have HD := Aside0.mk hd
        have HW4 := Aside0.mk ((HW2.out.below (below_drew (Below.refl _ _))).below hb4)
        have HB4 := Aside0.mk (below_step HBD.out hb4)
        have KZ4 := Aside0.mk (hp_below (show hp w2.drew w1.heap.size = _ from KZ.out) hb4)
        obtain ⟨q0, q1, q2, q3, q4, q5, _, _, _, _, _, _⟩ := blk6 KZ4.out
        clear hd hb4
        refine hK.out _ _ ⟨q0, q1, q2, q3, q4, q5⟩ (fun hHeld => ?_)
        clear hK K
        refine norm_ (a' := ?_) ?_ ?_
        rotate_left
        · show Act.put _ (some 78) _ = _
          simp only [Act.put, List.setIfInBounds_toArray, List.set_cons_zero, List.set_cons_succ, i64_w, i32_w]
          rfl
        refine one_ (i := 6) (N := some 81) #[true, true, true, true, true, true, true, false] rfl rfl (by kernel_rfl) (by decide) (fun K hK => ?_)
        refine goes_ Tryd.func19 (by kernel_rfl) rfl #[.agg #[.int .u64 53, .int .i64 M, .int .i64 1, .bool (sg N), .slice A' mm' cc', .int .i64 y], .int .i64 acc, .agg #[.bool (sg N), .slice A9 m9 k9, .int .i64 (ex N)], .int .u64 53, .int .i64 M] (by rfl) rfl rfl (by simp only [List.map_toArray, List.map_cons, List.map_nil]; rfl) ?_
        with_reducible refine (rounds53_c M 1 y (Q / 2 ^ n) acc (ex N) (mg N) Q (sg N) (sg N) A' A9 mm' cc' m9 k9 (bl N) wo HW4.out HD.out HMB.out HML.out (by have := HBL.out; omega) (by omega) HACC.out HQ.out (fun A2 m2 c2 W hz hq => isReal_c 53 M y (ex N + ((bl N - 53 : Nat) : Int)) (sg N) A' A2 mm' cc' m2 c2 Q n W hz hq HQ0.out HQL.out HN.out HY.out (by have := HBL.out; omega))).mono ?_
        rintro e wp ⟨rfl, hb5⟩
        refine ⟨_, rfl, ?_⟩
        have HB5 := Aside0.mk (below_step HB4.out hb5)
        obtain ⟨q0, q1, q2, q3, q4, q5, _, _, _, _, _, _⟩ := blk6 (hp_below KZ4.out hb5)
        clear hb5
        refine hK.out _ _ ⟨q0, q1, q2, q3, q4, q5⟩ (fun hHeld => ?_)
        clear hK K
        refine norm_ (a' := ?_) ?_ ?_
        rotate_left
        · show Act.put _ (some 81) _ = _
          simp only [Act.put, List.setIfInBounds_toArray, List.set_cons_zero, List.set_cons_succ, i64_w, i32_w]
          rfl
        refine pure_ (i := 7) (N := some 6) (v := ?_) (a' := ?_) #[true, true, true, true, true, true, true, true] rfl rfl (by kernel_rfl) (fun _ _ _ h => h) (Or.inl ⟨by rfl, ?_⟩) ?_ ?_
        rotate_left
        · intro w'
          go_simp
          with_reducible rfl
        rotate_left
        · simp only [Act.put, List.setIfInBounds_toArray, List.set_cons_zero, List.set_cons_succ, i64_w, i32_w]
          rfl
        refine done_ (by kernel_rfl) ?_
        go_wp2_with (fail)
        go_ret
        exact ⟨rfl, HB5.out⟩
      · obtain rfl : P = p := by rw [hP, if_neg hp0]
        have hpb : ((P : Int) == 0) = false := by rw [beq_eq_false_iff_ne]; omega
        clear hP hp0
        go_enter Tryd.func5, Tryd.ntmps5
        go_wp2_with (fail)
        refine (HTG.out).mono ?_
        rintro e w0 ⟨rfl, hb0⟩
        have HB0 := Aside0.mk hb0
        have HT0 := Aside0.mk (HT.out.below hb0 hgT)
        clear hb0 HTG HT
        go_wp2_with (fail)
        refine (HPB.out w0 HT0.out).mono ?_
        rintro e w1 ⟨A', mm', cc', rfl, hv, hb1⟩
        have HB1 := Aside0.mk (below_step HB0.out hb1)
        have hs1 : w.heap.size ≤ w1.heap.size := HB1.out.size
        have HWD := Aside0.mk hv.wd
        clear hb1 HPB HB0 HT0 hv
        have KZ := Aside0.mk (show hp (w1.alloc (.cells #[.int .u64 P, .int .i64 M, .int .i64 1, .bool (sg N), .slice A' mm' cc', .int .i64 y] 28)) w1.heap.size = some (.cells #[.int .u64 P, .int .i64 M, .int .i64 1, .bool (sg N), .slice A' mm' cc', .int .i64 y] 28 (0, 0)) from (by simp (disch := first | omega | (simp; omega) | (simp; done) | fail) [hp_new, hp_old, hp_here, hp_other, setObj_cells, hp_drew, hp_drewN]))
        have HZ0 := Aside0.mk (below_alloc (Below.refl w1.heap.size w1) (.cells #[.int .u64 P, .int .i64 M, .int .i64 1, .bool (sg N), .slice A' mm' cc', .int .i64 y] 28))
        go_upto_region 12 with (fail)
        obtain ⟨w2, hw2⟩ : ∃ w2, w2 = w1.alloc (.cells #[.int .u64 P, .int .i64 M, .int .i64 1, .bool (sg N), .slice A' mm' cc', .int .i64 y] 28) := ⟨_, rfl⟩
        rw [← hw2] at KZ HZ0 ⊢
        clear hw2
        have HB2 := Aside0.mk (HB1.out.trans (HZ0.out.mono hs1))
        have HBD := Aside0.mk (below_drew1 HB2.out)
        have HW2 := Aside0.mk (HWD.out.below HZ0.out)
        have HOR := Aside0.mk (HOB.out w2.drew)
        have lz := hp_lt KZ.out
        obtain ⟨c0, c1, c2, c3, c4, c5, f0, f1, f2, f3, f4, f5⟩ := blk6 KZ.out
        refine start_ (n := 8) (S := fun w' => w'.cell? ⟨w1.heap.size, 0, none⟩ = some (.int .u64 P) ∧ w'.cell? ⟨w1.heap.size, 1, none⟩ = some (.int .i64 M) ∧ w'.cell? ⟨w1.heap.size, 2, none⟩ = some (.int .i64 1) ∧ w'.cell? ⟨w1.heap.size, 3, none⟩ = some (.bool (sg N)) ∧ w'.cell? ⟨w1.heap.size, 4, none⟩ = some (.slice A' mm' cc') ∧ w'.cell? ⟨w1.heap.size, 5, none⟩ = some (.int .i64 y)) (ds := []) #[false, false, false, false, false, false, false, false] (by kernel_rfl) rfl rfl ⟨(by go_simp), (by go_simp), (by go_simp), (by go_simp), (by go_simp), (by go_simp)⟩ (fun hHeld => ?_)
        refine pure_ (i := 1) (N := some 76) (v := ?_) (a' := ?_) #[false, true, false, false, false, false, false, false] rfl rfl (by kernel_rfl) (fun _ _ _ h => h) (Or.inl ⟨by rfl, ?_⟩) ?_ ?_
        rotate_left
        · intro w'
          go_simp
          with_reducible rfl
        rotate_left
        · simp only [Act.put, List.setIfInBounds_toArray, List.set_cons_zero, List.set_cons_succ, i64_w, i32_w]
          rfl
        refine pure_ (i := 2) (N := some 77) (v := ?_) (a' := ?_) #[false, true, true, false, false, false, false, false] rfl rfl (by kernel_rfl) (fun _ _ _ h => h) (Or.inl ⟨by rfl, ?_⟩) ?_ ?_
        rotate_left
        · intro w'
          go_simp
          with_reducible rfl
        rotate_left
        · simp only [Act.put, List.setIfInBounds_toArray, List.set_cons_zero, List.set_cons_succ, i64_w, i32_w]
          rfl
        refine pure_ (i := 4) (N := some 79) (v := ?_) (a' := ?_) #[false, true, true, false, true, false, false, false] rfl rfl (by kernel_rfl) (fun _ _ _ h => h) (Or.inl ⟨by rfl, ?_⟩) ?_ ?_
        rotate_left
        · intro w'
          go_simp
          with_reducible rfl
        rotate_left
        · simp only [Act.put, List.setIfInBounds_toArray, List.set_cons_zero, List.set_cons_succ, i64_w, i32_w]
          rfl
        refine pure_ (i := 5) (N := some 80) (v := ?_) (a' := ?_) #[false, true, true, false, true, true, false, false] rfl rfl (by kernel_rfl) (fun _ _ _ h => h) (Or.inl ⟨by rfl, ?_⟩) ?_ ?_
        rotate_left
        · intro w'
          go_simp
          with_reducible rfl
        rotate_left
        · simp only [Act.put, List.setIfInBounds_toArray, List.set_cons_zero, List.set_cons_succ, i64_w, i32_w]
          rfl
        refine take_ (i := 0) (N := some 75) (v := ?_) (a' := ?_) #[true, true, true, false, true, true, false, false] rfl rfl (by kernel_rfl) (fun _ _ _ h => h) (Or.inl ⟨by rfl, ?_⟩) hHeld ?_ ?_
        rotate_left
        · rintro w' ⟨s0, s1, s2, s3, s4, s5⟩
          go_simp
          with_reducible rfl
        rotate_left
        · simp only [Act.put, List.setIfInBounds_toArray, List.set_cons_zero, List.set_cons_succ, i64_w, i32_w]
          rfl
        refine one_ (i := 3) (N := some 78) #[true, true, true, true, true, true, false, false] rfl rfl (by kernel_rfl) (by decide) (fun K hK => ?_)
        refine goes_ Tryd.func17 (by kernel_rfl) rfl #[.int .u64 (N : Int)] (by rfl) rfl rfl (by simp only [List.map_toArray, List.map_cons, List.map_nil]; rfl) ?_
        with_reducible refine (HOR.out).mono ?_
        rintro e wo ⟨A9, m9, k9, rfl, hd, hb4⟩
        refine ⟨_, rfl, ?_⟩
        have HD := Aside0.mk hd
        have HW4 := Aside0.mk ((HW2.out.below (below_drew (Below.refl _ _))).below hb4)
        have HB4 := Aside0.mk (below_step HBD.out hb4)
        have KZ4 := Aside0.mk (hp_below (show hp w2.drew w1.heap.size = _ from KZ.out) hb4)
        obtain ⟨q0, q1, q2, q3, q4, q5, _, _, _, _, _, _⟩ := blk6 KZ4.out
        clear hd hb4
        refine hK.out _ _ ⟨q0, q1, q2, q3, q4, q5⟩ (fun hHeld => ?_)
        clear hK K
        refine norm_ (a' := ?_) ?_ ?_
        rotate_left
        · show Act.put _ (some 78) _ = _
          simp only [Act.put, List.setIfInBounds_toArray, List.set_cons_zero, List.set_cons_succ, i64_w, i32_w]
          rfl
        refine one_ (i := 6) (N := some 81) #[true, true, true, true, true, true, true, false] rfl rfl (by kernel_rfl) (by decide) (fun K hK => ?_)
        refine goes_ Tryd.func19 (by kernel_rfl) rfl #[.agg #[.int .u64 P, .int .i64 M, .int .i64 1, .bool (sg N), .slice A' mm' cc', .int .i64 y], .int .i64 acc, .agg #[.bool (sg N), .slice A9 m9 k9, .int .i64 (ex N)], .int .u64 P, .int .i64 M] (by rfl) rfl rfl (by simp only [List.map_toArray, List.map_cons, List.map_nil]; rfl) ?_
        with_reducible refine (rounds_c P M 1 y (Q / 2 ^ n) acc (ex N) (mg N) Q (sg N) (sg N) A' A9 mm' cc' m9 k9 (bl N) wo HW4.out HD.out HMB.out HML.out (by have := HBL.out; omega) (by omega) (by omega) HACC.out HQ.out (fun A2 m2 c2 W hz hq => isReal_c P M y (ex N + ((bl N - P : Nat) : Int)) (sg N) A' A2 mm' cc' m2 c2 Q n W hz hq HQ0.out HQL.out HN.out HY.out (by have := HBL.out; omega))).mono ?_
        rintro e wp ⟨rfl, hb5⟩
        refine ⟨_, rfl, ?_⟩
        have HB5 := Aside0.mk (below_step HB4.out hb5)
        obtain ⟨q0, q1, q2, q3, q4, q5, _, _, _, _, _, _⟩ := blk6 (hp_below KZ4.out hb5)
        clear hb5
        refine hK.out _ _ ⟨q0, q1, q2, q3, q4, q5⟩ (fun hHeld => ?_)
        clear hK K
        refine norm_ (a' := ?_) ?_ ?_
        rotate_left
        · show Act.put _ (some 81) _ = _
          simp only [Act.put, List.setIfInBounds_toArray, List.set_cons_zero, List.set_cons_succ, i64_w, i32_w]
          rfl
        refine pure_ (i := 7) (N := some 6) (v := ?_) (a' := ?_) #[true, true, true, true, true, true, true, true] rfl rfl (by kernel_rfl) (fun _ _ _ h => h) (Or.inl ⟨by rfl, ?_⟩) ?_ ?_
        rotate_left
        · intro w'
          go_simp
          with_reducible rfl
        rotate_left
        · simp only [Act.put, List.setIfInBounds_toArray, List.set_cons_zero, List.set_cons_succ, i64_w, i32_w]
          rfl
        refine done_ (by kernel_rfl) ?_
        go_wp2_with (fail)
        go_ret
        exact ⟨rfl, HB5.out⟩
  · have hx1 : N / 4503599627370496 % 2048 = 2047 := by omega
    rw [hx1] at hax
    have hf1 : N % 4503599627370496 = 0 := by omega
    rw [hf1] at haf
    have hsf : sf N = 2 := if_neg (by omega)
    have hset : ∀ g W, hp W g = some (.cells #[.int .u32 p, .int .u8 M, .int .i8 0, .int .u8 0, .bool false, .slice none 0 0, .int .i32 0] 91 (0, 0)) → Calls Tryd.prog 45 #[.pointer (some ⟨g, 0, none⟩), .float .f64 N] W fun e w' => e = .returned (.pointer (some ⟨g, 0, none⟩)) ∧ (TF (fun i => i = g ∨ W.heap.size ≤ i) w' g P M 0 2 (sg N) 0 0 ∧ Kept (On g) W w') := fun g W hg => by
      refine (setF_spc g p M N W hg hN (.inr hinf)).mono ?_
      rintro e w' ⟨he, h1, h2⟩
      rw [hsf, ← hP] at h1
      exact ⟨he, ⟨.inl rfl, by omega, .inr ⟨.inr rfl, rfl, rfl, _, _, h1⟩⟩, h2⟩
    have HPB := Aside0.mk (fun W hT => putB_ret p M N P 0 2 0 0 (sg N) W hT (by omega) (by omega) hM2 hset)
    clear hset hsf hx1 hf1 hinf
    by_cases hp0 : p = 0
    · obtain rfl : P = 53 := by rw [hP, if_pos hp0]
      subst hp0
      clear hP
      go_enter Tryd.func5, Tryd.ntmps5
      go_wp2_with (fail)
      refine (HTG.out).mono ?_
      rintro e w0 ⟨rfl, hb0⟩
      have HB0 := Aside0.mk hb0
      have HT0 := Aside0.mk (HT.out.below hb0 hgT)
      clear hb0 HTG HT
      go_wp2_with (fail)
      refine (HPB.out w0 HT0.out).mono ?_
      rintro e w1 ⟨A', mm', cc', rfl, hv, hb1⟩
      have HB1 := Aside0.mk (below_step HB0.out hb1)
      have hs1 : w.heap.size ≤ w1.heap.size := HB1.out.size
      have HWD := Aside0.mk hv.wd
      clear hb1 HPB HB0 HT0 hv
      go_wp2_with (fail)
      go_ret
      exact ⟨rfl, below_alloc HB1.out _⟩
    · obtain rfl : P = p := by rw [hP, if_neg hp0]
      have hpb : ((P : Int) == 0) = false := by rw [beq_eq_false_iff_ne]; omega
      clear hP hp0
      go_enter Tryd.func5, Tryd.ntmps5
      go_wp2_with (fail)
      refine (HTG.out).mono ?_
      rintro e w0 ⟨rfl, hb0⟩
      have HB0 := Aside0.mk hb0
      have HT0 := Aside0.mk (HT.out.below hb0 hgT)
      clear hb0 HTG HT
      go_wp2_with (fail)
      refine (HPB.out w0 HT0.out).mono ?_
      rintro e w1 ⟨A', mm', cc', rfl, hv, hb1⟩
      have HB1 := Aside0.mk (below_step HB0.out hb1)
      have hs1 : w.heap.size ≤ w1.heap.size := HB1.out.size
      have HWD := Aside0.mk hv.wd
      clear hb1 HPB HB0 HT0 hv
      go_wp2_with (fail)
      go_ret
      exact ⟨rfl, below_alloc HB1.out _⟩
  · have hx1 : N / 4503599627370496 % 2048 = 2047 := by omega
    rw [hx1] at hax
    have hf1 : 0 < N % 4503599627370496 := by omega
    generalize N % 4503599627370496 = F at haf hf1
    have hfb : decide ((0 : Int) < (F : Int)) = true := decide_eq_true (by omega)
    have hset : ∀ g W, hp W g = some (.cells #[.int .u32 p, .int .u8 M, .int .i8 0, .int .u8 0, .bool false, .slice none 0 0, .int .i32 0] 91 (0, 0)) → Calls Tryd.prog 45 #[.pointer (some ⟨g, 0, none⟩), .float .f64 N] W fun e w' => (∃ s, e = .panicked (nanChain s false)) ∧ Kept (On g) W w' := fun g W hg => setF_nan g p M N W hg hnan
    have HPB := Aside0.mk (fun W => putB_nan p M N W (by omega) hM2 hset)
    clear hset hx1 hnan HT hP hP1
    go_enter Tryd.func5, Tryd.ntmps5
    go_wp2_with (fail)
    refine (HTG.out).mono ?_
    rintro e w0 ⟨rfl, hb0⟩
    have HB0 := Aside0.mk hb0
    clear hb0 HTG
    go_wp2_with (fail)
    refine (HPB.out w0).mono ?_
    rintro e w1 ⟨rfl, hb1⟩
    have HB1 := Aside0.mk (below_step HB0.out hb1)
    clear hb1 HPB HB0
    go_wp2_with (go_in)
    go_ret
    exact ⟨rfl, below_alloc (below_alloc HB1.out _) _⟩
end Go.Proofs.YtglikgjaobedbaaDoor.fnPutBits
