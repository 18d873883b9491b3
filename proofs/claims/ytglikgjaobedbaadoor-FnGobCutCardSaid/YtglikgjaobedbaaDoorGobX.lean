/-
  CONTRACT of Float.GobDecode at a finite value.
-/
import Derived.Test.YtglikgjaobedbaaDoorGobV
namespace Go.Proofs.YtglikgjaobedbaaDoor.Sp
open Go.RowKit Go.Proofs.YtglikgjaobedbaaDoorW.PrintWords Go.Proofs.YtglikgjaobedbaaDoorW.PrintLast Go.Proofs.YtglikgjaobedbaaDoorW.PrintMore Go.Proofs.YtglikgjaobedbaaDoor.Dig
set_option linter.unusedVariables false
set_option linter.unusedSimpArgs false
theorem gob_dF {m : Int} (neg : Bool) (hm : 0 ≤ m ∧ m < 6) : Go.bits .and .u8 (gobB m 1 neg / 32) 7 = m ∧ IntKind.i8.wrap (IntKind.i8.wrap (Go.bits .and .u8 (gobB m 1 neg / 8) 3) - 1) = 0 ∧ Go.bits .and .u8 (gobB m 1 neg / 2) 3 = 1 ∧ (Go.bits .and .u8 (gobB m 1 neg) 1 != 0) = neg := by
  have h : m = 0 ∨ m = 1 ∨ m = 2 ∨ m = 3 ∨ m = 4 ∨ m = 5 := by omega
  rcases h with rfl | rfl | rfl | rfl | rfl | rfl <;> cases neg <;> exact ⟨rfl, rfl, rfl, rfl⟩
theorem be4_ok (n : Int) : okd 256 (be4 n) := by
  intro d hd
  simp [be4] at hd
  rcases hd with rfl | rfl | rfl | rfl <;> omega
theorem encF_t2 (p : Nat) (m : Int) (neg : Bool) (E : Int) (L : List Int) : (encF p m neg E L).drop 2 = be4 p ++ (be4 (E % 4294967296) ++ (le L).reverse) := by simp [encF]
theorem encF_t6 (p : Nat) (m : Int) (neg : Bool) (E : Int) (L : List Int) : (encF p m neg E L).drop 6 = be4 (E % 4294967296) ++ (le L).reverse := by simp [encF, be4]
theorem rev_ok (L : List Int) : okd 256 (le L).reverse := fun d hd => le_ok L d (List.mem_reverse.1 hd)
theorem C_tail {w : World} {g2 : Nat} {l : List Int} {N : Nat} (hC : Kd.C (Kd.int .u8) w (some ⟨g2, 0, none⟩) l.length l) (hN : l.length = N) (i : Nat) (hi : i ≤ N) : Kd.C (Kd.int .u8) w (some ⟨g2, i, none⟩) (l.drop i).length (l.drop i) := by
  have h := C_sub hC i (N - i) (by omega)
  rw [add_spot, List.take_of_length_le (by rw [List.length_drop]; omega), Nat.zero_add] at h
  exact h
set_option maxHeartbeats 6400000 in
set_option maxRecDepth 100000 in
theorem gobDec_fin (g g2 c p : Nat) (m : Int) (neg : Bool) (E : Int) (L : List Int) (N : Nat) (w : World) (hz : hp w g = some (.cells #[.int .u32 0, .int .u8 0, .int .i8 0, .int .u8 0, .bool false, .slice none 0 0, .int .i32 0] 91 (0, 0))) (hC : Kd.C (Kd.int .u8) w (some ⟨g2, 0, none⟩) (encF p m neg E L).length (encF p m neg E L)) (hN : N = (encF p m neg E L).length) (hc : N ≤ c) (hcan : Canon p L) (hp1 : 1 ≤ p ∧ p ≤ 600000) (hm : 0 ≤ m ∧ m < 6) (hE : -2147483648 ≤ E ∧ E < 2147483648) :
    Calls Tryd.prog 56 #[.pointer (some ⟨g, 0, none⟩), .slice (some ⟨g2, 0, none⟩) N c] w fun e w' => e = .returned .nilIface ∧ Kept (On g) w w' ∧ ∃ mb R c', w.heap.size ≤ mb ∧ (L ++ R).length = c' ∧ Flt w' g mb p m 0 1 neg L.length c' E (L ++ R) := by
  have hlN := encF_len p m neg E L
  have hlen := hcan.len
  have hl0 := hcan.pos
  have h0 := C_at hC 0 (by omega)
  have h1 := C_at hC 1 (by omega)
  rw [add_spot] at h0 h1
  have b0 : w.cell? ⟨g2, 0, none⟩ = some (.int .u8 1) := h0
  have b1 : w.cell? ⟨g2, 1, none⟩ = some (.int .u8 (gobB m 1 neg)) := h1
  obtain ⟨b, hb⟩ : ∃ b, b = gobB m 1 neg := ⟨_, rfl⟩
  obtain ⟨d1, d2, d3, d4⟩ := gob_dF neg hm
  rw [← hb] at b1 d1 d2 d3 d4
  obtain ⟨c0, c1, c2, c3, c4, c5, c6, f0, f1, f2, f3, f4, f5, f6⟩ := blk7 hz
  have lg := hp_lt hz
  have HZ := Aside0.mk hz
  have HC := Aside0.mk hC
  have HCAN := Aside0.mk hcan
  have hgg : g2 ≠ g := not_block b0 hz (by intro u hu; simp at hu; rcases hu with rfl | rfl | rfl | rfl | rfl | rfl | rfl <;> simp)
  have hNN : N = 10 + 8 * L.length := by omega
  have HN := Aside0.mk hN
  have HNN := Aside0.mk hNN
  have e1 : ((N : Int) == 0) = false := by rw [beq_eq_false_iff_ne]; omega
  have e2 : decide ((N : Int) < 6) = false := decide_eq_false (by omega)
  have e3 : decide ((N : Int) < 10) = false := decide_eq_false (by omega)
  have i0 : (0 : Int) < (N : Int) := by omega
  have i1 : (1 : Int) < (N : Int) := by omega
  have i2 : (2 : Int) ≤ (N : Int) := by omega
  have i6 : (6 : Int) ≤ (N : Int) := by omega
  have i10 : (10 : Int) ≤ (N : Int) := by omega
  have j2 : ¬ c = 2 := by omega
  have j6 : ¬ c = 6 := by omega
  have j10 : ¬ c = 10 := by omega
  have HCC := Aside0.mk hc
  have hEw : IntKind.i32.wrap (E % 4294967296) = E := by rw [IntKind.wrap_i32]; omega
  have hbe2 : ∀ W, Kept (On g) w W → Calls Tryd.prog 85 #[.slice (some ⟨g2, 2, none⟩) (N - 2) (c - 2)] W fun e w' => e = .returned (.int .u32 p) ∧ Below W.heap.size W w' := fun W hk => by
    have h := C_tail (C_kept hk HC.out (fun _ e => hgg e)) HN.out.symm 2 (by omega)
    rw [encF_t2] at h
    have hl : (be4 p ++ (be4 (E % 4294967296) ++ (le L).reverse)).length = N - 2 := by rw [← encF_t2 p m neg, List.length_drop, ← HN.out]
    have hr := be32_c (some ⟨g2, 2, none⟩) (c - 2) _ W h (by rw [hl]; omega) (by simp [be4]) (okd_append.2 ⟨be4_ok _, okd_append.2 ⟨be4_ok _, rev_ok L⟩⟩)
    rw [hl, be4_b32 p (by omega) (by omega)] at hr
    exact hr
  have hbe6 : ∀ W, Kept (On g) w W → Calls Tryd.prog 85 #[.slice (some ⟨g2, 6, none⟩) (N - 6) (c - 6)] W fun e w' => e = .returned (.int .u32 (E % 4294967296)) ∧ Below W.heap.size W w' := fun W hk => by
    have h := C_tail (C_kept hk HC.out (fun _ e => hgg e)) HN.out.symm 6 (by omega)
    rw [encF_t6] at h
    have hl : (be4 (E % 4294967296) ++ (le L).reverse).length = N - 6 := by rw [← encF_t6 p m neg, List.length_drop, ← HN.out]
    have hr := be32_c (some ⟨g2, 6, none⟩) (c - 6) _ W h (by rw [hl]; omega) (by simp [be4]) (okd_append.2 ⟨be4_ok _, rev_ok L⟩)
    rw [hl, be4_b32 (E % 4294967296) (by omega) (by omega)] at hr
    exact hr
  have hset : ∀ W, Kept (On g) w W → Calls Tryd.prog 86 #[.slice none 0 0, .slice (some ⟨g2, 10, none⟩) (N - 10) (c - 10)] W fun e w' => ∃ R cc, e = .returned (.slice (some ⟨W.heap.size, 0, none⟩) L.length cc) ∧ (L ++ R).length = cc ∧ hp w' W.heap.size = some (.cells (u64s (L ++ R)) 139 (0, 0)) ∧ okd BW (L ++ R) ∧ cc ≤ 1000000 ∧ Below W.heap.size W w' := fun W hk => by
    have h := C_tail (C_kept hk HC.out (fun _ e => hgg e)) HN.out.symm 10 (by omega)
    rw [encF_10] at h
    have hl : (le L).reverse.length = N - 10 := by rw [← encF_10 p m neg E, List.length_drop, ← HN.out]
    have hr := setBytes_b ⟨g2, 10, none⟩ (c - 10) (le L).reverse W h (by rw [hl]; omega) (by rw [hl]; omega) (by rw [hl]; omega) (rev_ok L)
    rw [hl] at hr
    refine hr.mono ?_
    rintro e w' ⟨l, R, cc, rfl, a1, a2, a3, a4, a5, a6, a7⟩
    rw [List.reverse_reverse, le_ev L HCAN.out.ok] at a5
    have hll : l = L := Cn_inj a3 HCAN.out.cn BW_pos a5
    rw [hll] at a1 a2 a4 ⊢
    exact ⟨R, cc, rfl, a1, a2, a4, a6, a7⟩
  have HB2 := Aside0.mk hbe2
  have HB6 := Aside0.mk hbe6
  have HST := Aside0.mk hset
  clear hz hC h0 h1 hb hN hNN hlN hc hcan hbe2 hbe6 hset hlen hl0
  go_enter Tryd.func56, Tryd.ntmps56
  go_wp2_with (fail)
  obtain ⟨w1, hw1⟩ : ∃ w1, w1 = (((w.setCell ⟨g, 1, none⟩ (.int .u8 m)).setCell ⟨g, 2, none⟩ (.int .i8 0)).setCell ⟨g, 3, none⟩ (.int .u8 1)).setCell ⟨g, 4, none⟩ (.bool neg) := ⟨_, rfl⟩
  have HK1 : Aside0 (Kept (On g) w w1) := ⟨by rw [hw1]; exact ((((Kept.refl (On g) w).setCell (p := ⟨g, 1, none⟩) (.inl rfl) _).setCell (p := ⟨g, 2, none⟩) (.inl rfl) _).setCell (p := ⟨g, 3, none⟩) (.inl rfl) _).setCell (p := ⟨g, 4, none⟩) (.inl rfl) _⟩
  have HG1 : Aside0 (hp w1 g = some (.cells #[.int .u32 0, .int .u8 m, .int .i8 0, .int .u8 1, .bool neg, .slice none 0 0, .int .i32 0] 91 (0, 0))) := ⟨by rw [hw1, hp_here _ _ _ _ _ rfl, hp_here _ _ _ _ _ rfl, hp_here _ _ _ _ _ rfl, hp_here _ _ _ _ _ rfl, HZ.out]; rfl⟩
  rw [← hw1]
  clear hw1
  refine (HB2.out _ HK1.out).mono ?_
  rintro e w2 ⟨rfl, hb2⟩
  have HG2 := Aside0.mk (hp_below HG1.out hb2)
  have HK2 := Aside0.mk (HK1.out.trans (Kept.of_below (S := fun _ => False) hb2) (fun _ _ h => h.elim))
  clear b0 b1 hb2 HB2 c0 c1 c2 c3 c4 c5 c6 f0 f1 f2 f3 f4 f5 f6
  obtain ⟨c0, c1, c2, c3, c4, c5, c6, f0, f1, f2, f3, f4, f5, f6⟩ := blk7 HG2.out
  have lg2 := hp_lt HG2.out
  go_wp2_with (fail)
  obtain ⟨w3, hw3⟩ : ∃ w3, w3 = w2.setCell ⟨g, 0, none⟩ (.int .u32 p) := ⟨_, rfl⟩
  have HK3 : Aside0 (Kept (On g) w w3) := ⟨by rw [hw3]; exact HK2.out.setCell (p := ⟨g, 0, none⟩) (.inl rfl) _⟩
  have HG3 : Aside0 (hp w3 g = some (.cells #[.int .u32 p, .int .u8 m, .int .i8 0, .int .u8 1, .bool neg, .slice none 0 0, .int .i32 0] 91 (0, 0))) := ⟨by rw [hw3, hp_here _ _ _ _ _ rfl, HG2.out]; rfl⟩
  rw [← hw3]
  clear hw3
  refine (HB6.out _ HK3.out).mono ?_
  rintro e w4 ⟨rfl, hb4⟩
  have HG4 := Aside0.mk (hp_below HG3.out hb4)
  have HK4 := Aside0.mk (HK3.out.trans (Kept.of_below (S := fun _ => False) hb4) (fun _ _ h => h.elim))
  clear hb4 HB6 HG1 HG2 HG3 HK1 HK2 HK3 c0 c1 c2 c3 c4 c5 c6 f0 f1 f2 f3 f4 f5 f6
  obtain ⟨c0, c1, c2, c3, c4, c5, c6, f0, f1, f2, f3, f4, f5, f6⟩ := blk7 HG4.out
  have lg4 := hp_lt HG4.out
  go_upto_region 20 with (fail)
  obtain ⟨w5, hw5⟩ : ∃ w5, w5 = w4.setCell ⟨g, 6, none⟩ (.int .i32 E) := ⟨_, rfl⟩
  have HK5 : Aside0 (Kept (On g) w w5) := ⟨by rw [hw5]; exact HK4.out.setCell (p := ⟨g, 6, none⟩) (.inl rfl) _⟩
  have HG5 : Aside0 (hp w5 g = some (.cells #[.int .u32 p, .int .u8 m, .int .i8 0, .int .u8 1, .bool neg, .slice none 0 0, .int .i32 E] 91 (0, 0))) := ⟨by rw [hw5, hp_here _ _ _ _ _ rfl, HG4.out]; rfl⟩
  rw [← hw5]
  clear hw5 HG4 HK4 c0 c1 c2 c3 c4 c5 c6 f0 f1 f2 f3 f4 f5 f6
  obtain ⟨c0, c1, c2, c3, c4, c5, c6, f0, f1, f2, f3, f4, f5, f6⟩ := blk7 HG5.out
  have lg5 := hp_lt HG5.out
  have hs5 : w.heap.size ≤ w5.heap.size := HK5.out.size
  refine start_ (n := 11) (S := fun w' => w'.cell? ⟨g, 5, none⟩ = some (.slice none 0 0)) (ds := [10]) #[false, false, false, false, false, false, false, false, false, false, false] (by kernel_rfl) rfl rfl ((by go_simp)) (fun hHeld => ?_)
  refine pure_ (i := 0) (N := some 83) (v := ?_) (a' := ?_) #[true, false, false, false, false, false, false, false, false, false, false] rfl rfl (by kernel_rfl) (fun _ _ _ h => h) (Or.inl ⟨by rfl, ?_⟩) ?_ ?_
  rotate_left
  · intro w'
    go_simp
    with_reducible rfl
  rotate_left
  · simp only [Act.put, List.setIfInBounds_toArray, List.set_cons_zero, List.set_cons_succ, i64_w, i32_w]
    rfl
  refine pure_ (i := 1) (N := some 84) (v := ?_) (a' := ?_) #[true, true, false, false, false, false, false, false, false, false, false] rfl rfl (by kernel_rfl) (fun _ _ _ h => h) (Or.inl ⟨by rfl, ?_⟩) ?_ ?_
  rotate_left
  · intro w'
    go_simp
    with_reducible rfl
  rotate_left
  · simp only [Act.put, List.setIfInBounds_toArray, List.set_cons_zero, List.set_cons_succ, i64_w, i32_w]
    rfl
  refine pure_ (i := 2) (N := some 85) (v := ?_) (a' := ?_) #[true, true, true, false, false, false, false, false, false, false, false] rfl rfl (by kernel_rfl) (fun _ _ _ h => h) (Or.inl ⟨by rfl, ?_⟩) ?_ ?_
  rotate_left
  · intro w'
    go_simp
    with_reducible rfl
  rotate_left
  · simp only [Act.put, List.setIfInBounds_toArray, List.set_cons_zero, List.set_cons_succ, i64_w, i32_w]
    rfl
  refine pure_ (i := 3) (N := some 86) (v := ?_) (a' := ?_) #[true, true, true, true, false, false, false, false, false, false, false] rfl rfl (by kernel_rfl) (fun _ _ _ h => h) (Or.inl ⟨by rfl, ?_⟩) ?_ ?_
  rotate_left
  · intro w'
    go_simp
    with_reducible rfl
  rotate_left
  · simp only [Act.put, List.setIfInBounds_toArray, List.set_cons_zero, List.set_cons_succ, i64_w, i32_w]
    rfl
  refine pure_ (i := 5) (N := some 88) (v := ?_) (a' := ?_) #[true, true, true, true, false, true, false, false, false, false, false] rfl rfl (by kernel_rfl) (fun _ _ _ h => h) (Or.inl ⟨by rfl, ?_⟩) ?_ ?_
  rotate_left
  · intro w'
    go_simp
    with_reducible rfl
  rotate_left
  · simp only [Act.put, List.setIfInBounds_toArray, List.set_cons_zero, List.set_cons_succ, i64_w, i32_w]
    rfl
  refine pure_ (i := 6) (N := some 89) (v := ?_) (a' := ?_) #[true, true, true, true, false, true, true, false, false, false, false] rfl rfl (by kernel_rfl) (fun _ _ _ h => h) (Or.inl ⟨by rfl, ?_⟩) ?_ ?_
  rotate_left
  · intro w'
    go_simp
    with_reducible rfl
  rotate_left
  · simp only [Act.put, List.setIfInBounds_toArray, List.set_cons_zero, List.set_cons_succ, i64_w, i32_w]
    rfl
  refine take_ (i := 4) (N := some 87) (v := ?_) (a' := ?_) #[true, true, true, true, true, true, true, false, false, false, false] rfl rfl (by kernel_rfl) (fun _ _ _ h => h) (Or.inl ⟨by rfl, ?_⟩) hHeld ?_ ?_
  rotate_left
  · intro w' s0
    go_simp
    with_reducible rfl
  rotate_left
  · simp only [Act.put, List.setIfInBounds_toArray, List.set_cons_zero, List.set_cons_succ, i64_w, i32_w]
    rfl
  refine one_ (i := 7) (N := some 90) #[true, true, true, true, true, true, true, true, false, false, false] rfl rfl (by kernel_rfl) (by decide) (fun K hK => ?_)
  refine goes_ Tryd.func86 (by kernel_rfl) rfl #[.slice none 0 0, .slice (some ⟨g2, 10, none⟩) (N - 10) (c - 10)] (by rfl) rfl rfl (by simp only [List.map_toArray, List.map_cons, List.map_nil]; rfl) ?_
  with_reducible refine (HST.out w5.drew HK5.out.drew).mono ?_
  rintro e w6 ⟨R, cc, rfl, hlR, hmb, hokR, hcm, hb6⟩
  refine ⟨_, rfl, ?_⟩
  have HG6 := Aside0.mk (hp_below (show hp w5.drew g = _ from HG5.out) hb6)
  have HMB := Aside0.mk hmb
  have HOR := Aside0.mk hokR
  have HLR := Aside0.mk hlR
  have HK6 := Aside0.mk (HK5.out.drew.trans (Kept.of_below (S := fun _ => False) hb6) (fun _ _ h => h.elim))
  clear c0 c1 c2 c3 c4 c5 c6 f0 f1 f2 f3 f4 f5 f6
  obtain ⟨q0, q1, q2, q3, q4, q5, q6, r0, r1, r2, r3, r4, r5, r6⟩ := blk7 HG6.out
  have lg6 := hp_lt HG6.out
  clear hlR hmb hokR hb6
  refine hK.out _ _ (q5) (fun hHeld => ?_)
  clear hK K
  refine norm_ (a' := ?_) ?_ ?_
  rotate_left
  · show Act.put _ (some 90) _ = _
    simp only [Act.put, List.setIfInBounds_toArray, List.set_cons_zero, List.set_cons_succ, i64_w, i32_w]
    rfl
  refine pure_ (i := 8) (N := some 91) (v := ?_) (a' := ?_) #[true, true, true, true, true, true, true, true, true, false, false] rfl rfl (by kernel_rfl) (fun _ _ _ h => h) (Or.inl ⟨by rfl, ?_⟩) ?_ ?_
  rotate_left
  · intro w'
    go_simp
    with_reducible rfl
  rotate_left
  · simp only [Act.put, List.setIfInBounds_toArray, List.set_cons_zero, List.set_cons_succ, i64_w, i32_w]
    rfl
  refine pure_ (i := 9) (N := some 92) (v := ?_) (a' := ?_) #[true, true, true, true, true, true, true, true, true, true, false] rfl rfl (by kernel_rfl) (fun _ _ _ h => h) (Or.inl ⟨by rfl, ?_⟩) ?_ ?_
  rotate_left
  · intro w'
    go_simp
    with_reducible rfl
  rotate_left
  · simp only [Act.put, List.setIfInBounds_toArray, List.set_cons_zero, List.set_cons_succ, i64_w, i32_w]
    rfl
  refine last_ (i := 10) (N := none) #[true, true, true, true, true, true, true, true, true, true, true] rfl rfl (by kernel_rfl) (by decide) (fun K hK => ?_)
  refine skip_ (w1 := ?_) (by rfl) rfl ?_ ?_
  rotate_left
  · go_simp
    rfl
  refine hK.out _ _ ?_
  clear hK K
  refine done_ (by kernel_rfl) ?_
  obtain ⟨w7, hw7⟩ : ∃ w7, w7 = w6.setCell ⟨g, 5, none⟩ (.slice (some ⟨w5.heap.size, 0, none⟩) L.length cc) := ⟨_, rfl⟩
  have hgm : g ≠ w5.heap.size := by omega
  have HK7 : Aside0 (Kept (On g) w w7) := ⟨by rw [hw7]; exact HK6.out.setCell (p := ⟨g, 5, none⟩) (.inl rfl) _⟩
  have HF7 : Aside0 (Flt w7 g w5.heap.size p m 0 1 neg L.length cc E (L ++ R)) := ⟨by
    rw [hw7]
    exact ⟨by rw [hp_here _ _ _ _ _ rfl, HG6.out]; rfl, by rw [hp_other _ _ _ _ hgm]; exact HMB.out, hgm, HOR.out, by simp, by rw [← HLR.out]; simp, by rw [HLR.out]; exact hcm⟩⟩
  rw [← hw7]
  clear hw7 HG6 HMB HK6 q0 q1 q2 q3 q4 q5 q6 r0 r1 r2 r3 r4 r5 r6 HST
  obtain ⟨c0, c1, c2, c3, c4, c5, c6, f0, f1, f2, f3, f4, f5, f6⟩ := blk7 HF7.out.flt
  have lg7 := hp_lt HF7.out.flt
  have HV := Aside0.mk (valid_c g w5.heap.size p m 0 neg cc E L R w7 HF7.out HCAN.out hp1.1 (by have := HCAN.out.len; omega))
  go_wp2_with (go_at_call 87; refine (HV.out).mono ?_; rintro e w' ⟨rfl, rfl⟩)
  go_ret
  exact ⟨rfl, HK7.out, _, R, cc, hs5, HLR.out, HF7.out⟩
end Go.Proofs.YtglikgjaobedbaaDoor.Sp
