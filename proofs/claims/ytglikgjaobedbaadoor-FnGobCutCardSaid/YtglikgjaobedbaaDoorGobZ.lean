/-
  CONTRACT of the thin package's 'GobBack' at bytes that are cut.
-/
import Derived.Test.YtglikgjaobedbaaDoorGobY
namespace Go.Proofs.YtglikgjaobedbaaDoor.Sp
open Go.RowKit Go.Proofs.YtglikgjaobedbaaDoorW.PrintWords Go.Proofs.YtglikgjaobedbaaDoorW.PrintLast Go.Proofs.YtglikgjaobedbaaDoorW.PrintMore Go.Proofs.YtglikgjaobedbaaDoor.Dig
set_option linter.unusedVariables false
set_option linter.unusedSimpArgs false
theorem encF_ok (p : Nat) (m : Int) (hm : 0 ≤ m ∧ m < 6) (neg : Bool) (E : Int) (L : List Int) : okd 256 (encF p m neg E L) := by
  refine okd_cons.2 ⟨by omega, okd_cons.2 ⟨?_, okd_append.2 ⟨be4_ok _, okd_append.2 ⟨be4_ok _, rev_ok L⟩⟩⟩⟩
  unfold gobB
  cases neg <;> simp <;> omega
set_option maxHeartbeats 3200000 in
set_option maxRecDepth 100000 in
theorem gobBack_cut1 (gb n N : Nat) (bs : List Int) (w : World) (hcg : Kd.C (Kd.int .u8) w (some ⟨gb, 0, none⟩) bs.length bs) (hnl : n = bs.length) (hn1 : 1 ≤ n) (hn6 : n < 6) (hNN : n ≤ N) :
    Calls Tryd.prog 30 #[.int .u64 0, .int .i64 0, .slice (some ⟨gb, 0, none⟩) n N] w fun e w' => e = .returned (.tuple #[.agg #[.int .u64 0, .int .i64 0, .int .i64 0, .bool false, .slice none 0 0, .int .i64 0], .int .i64 0, .bool false]) ∧ Below w.heap.size w w' := by
  have HNL := Aside0.mk hnl
  clear hnl
  have hu := Tryd.underlying28
  have HB0 := Aside0.mk (below_alloc (Below.refl w.heap.size w) (.cells #[.int .u64 0, .int .i64 0, .int .i64 0, .bool false, .slice none 0 0, .int .i64 0] 28))
  have HCG := Aside0.mk hcg
  clear hcg
  go_enter Tryd.func30, Tryd.ntmps30
  go_wp2_with (fail)
  refine (fresh_c 0 0 _ (by omega) (by omega)).mono ?_
  rintro e w1 ⟨rfl, hz, hb1⟩
  have hs0 : (w.alloc (.cells #[.int .u64 0, .int .i64 0, .int .i64 0, .bool false, .slice none 0 0, .int .i64 0] 28)).heap.size = w.heap.size + 1 := by simp
  rw [hs0] at hz hb1 ⊢
  have KR := Aside0.mk (hp_bel2 (show hp (w.alloc (.cells #[.int .u64 0, .int .i64 0, .int .i64 0, .bool false, .slice none 0 0, .int .i64 0] 28)) w.heap.size = some (.cells #[.int .u64 0, .int .i64 0, .int .i64 0, .bool false, .slice none 0 0, .int .i64 0] 28 (0, 0)) from hp_new _ _ _ rfl) hb1 (by omega))
  have HB1 := Aside0.mk (HB0.out.trans (hb1.mono (by omega)))
  have HZ := Aside0.mk hz
  have hsz1 : w.heap.size + 1 < w1.heap.size := hp_lt hz
  obtain ⟨w0, hw0⟩ : ∃ w0, w0 = w1.alloc (.cells #[] 5) := ⟨_, rfl⟩
  have hb0 : Below w1.heap.size w1 w0 := by rw [hw0]; exact below_alloc (Below.refl _ _) _
  have HC := Aside0.mk (Kd.C_below (Kd.C_below HCG.out ((HB1.out).mono (Nat.le_refl _))) hb0)
  have HO : Aside0 (Kd.R (Kd.int .u8) 5 w0 w1.heap.size (fun k => w1.heap.size ≤ k) (.slice (some ⟨w1.heap.size, 0, none⟩) 0 0) []) := ⟨R_empty .u8 (by rw [hw0]; exact hp_new _ _ _ (by simp)) (Nat.le_refl _)⟩
  have hsz : w0.heap.size = w1.heap.size + 1 := by rw [hw0]; simp
  have HBB := Aside0.mk hb0
  have HW0 := Aside0.mk hw0
  clear hz hb1 hb0 hw0
  go_wp2_with ((with_reducible refine gate_builtin (b := .append) (xs := #[.tmp 16, .tmp 17]) rfl ?_); at_builtin; rw [← HW0.out]; go_must (refine Kd.R_append_row (Value.int .u8) (0 : Int) (w0 := w0) w1.heap.size rfl (.tmp 16) (.tmp 17) 56 5 (.int .u8 0) 1 rfl Tryd.underlying56 infoU8 rfl (by decide) (.slice (some ⟨w1.heap.size, 0, none⟩) 0 0) [] (bs) (some ⟨gb, 0, none⟩) n N (fun k => w1.heap.size ≤ k) rfl rfl (fun k hk => by omega) HO.out (by first | exact HC.out | (rw [HNL.out]; exact HC.out) | fail) (Below.refl _ _) (by omega) (by first | (simp; done) | (simp; omega) | fail) ?_); intro v1 w2 ho hb hg hat)
  have ho : Kd.R (Kd.int .u8) 5 w2 w1.heap.size (fun k => w1.heap.size ≤ k) v1 (bs) := ho
  have hb12 : Below w1.heap.size w1 w2 := HBB.out.trans hb
  have hz2 := hp_bel2 HZ.out hb12 (by omega)
  have KR2 := Aside0.mk (hp_bel2 KR.out hb12 (by omega))
  have HB2 := Aside0.mk (HB1.out.trans (hb12.mono (by omega)))
  obtain ⟨inner, ho2⟩ := Kd.R_own ho
  have hne : bs.length ≠ 0 := by have := HNL.out; omega
  obtain ⟨g2, c2, e2, _, _⟩ := ho2.form (by omega)
  obtain ⟨A3, c3, e3, q3, r3⟩ := Kd.R_reads ho
  rw [e2] at e3
  injection e3 with e31 e32 e33
  subst e31 e33
  subst e2
  have hs2 : w.heap.size + 1 < w2.heap.size := hp_lt hz2
  have e1 : ((n : Int) == 0) = false := by rw [beq_eq_false_iff_ne]; omega
  have e2 : decide ((n : Int) < 6) = true := decide_eq_true (by omega)
  rw [← HNL.out]
  have hs2' : w.heap.size < w2.heap.size := by omega
  obtain ⟨a0, a1, a2, a3, a4, a5, f0, f1, f2, f3, f4, f5⟩ := blk6 KR2.out
  clear ho ho2 hb hg hat hb12 HC HO HBB HW0 HZ KR HB1 HCG hsz HB0 r3 q3 hne hz2
  go_wp2_with (go_in)
  have KRW := KR2
  have HBW := HB2
  obtain ⟨w5, hw5⟩ : ∃ w5, w5 = (((((w2.setCell ⟨w.heap.size, 0, none⟩ (.int .u64 0)).setCell ⟨w.heap.size, 1, none⟩ (.int .i64 0)).setCell ⟨w.heap.size, 2, none⟩ (.int .i64 0)).setCell ⟨w.heap.size, 3, none⟩ (.bool false)).setCell ⟨w.heap.size, 4, none⟩ (.slice none 0 0)).setCell ⟨w.heap.size, 5, none⟩ (.int .i64 0) := ⟨_, rfl⟩
  have hk5 : hp w5 w.heap.size = some (.cells #[.int .u64 0, .int .i64 0, .int .i64 0, .bool false, .slice none 0 0, .int .i64 0] 28 (0, 0)) := by
    rw [hw5, hp_here _ _ _ _ _ rfl, hp_here _ _ _ _ _ rfl, hp_here _ _ _ _ _ rfl, hp_here _ _ _ _ _ rfl, hp_here _ _ _ _ _ rfl, hp_here _ _ _ _ _ rfl, KRW.out]
    rfl
  have hb5 : Below w.heap.size w w5 := by rw [hw5]; exact (((((HBW.out.setCell (by simp) _).setCell (by simp) _).setCell (by simp) _).setCell (by simp) _).setCell (by simp) _).setCell (by simp) _
  rw [← hw5]
  clear hw5 a0 a1 a2 a3 a4 a5 f0 f1 f2 f3 f4 f5
  obtain ⟨r0, r1, r2, r3, r4, r5, _, _, _, _, _, _⟩ := blk6 hk5
  have hs5 := hp_lt hk5
  refine bodyPost_ret (v := .tuple #[.agg #[.int .u64 0, .int .i64 0, .int .i64 0, .bool false, .slice none 0 0, .int .i64 0], .int .i64 0, .bool false]) (by simp [results, Tryd.results30, go_sem, World.cell?_alloc_past _ _ _ (show w.heap.size < w5.heap.size from hs5), r0, r1, r2, r3, r4, r5]) rfl ?_
  exact ⟨rfl, below_alloc hb5 _⟩
set_option maxHeartbeats 3200000 in
set_option maxRecDepth 100000 in
theorem gobBack_cut2 (gb n N : Nat) (m : Int) (neg : Bool) (bs : List Int) (w : World) (hcg : Kd.C (Kd.int .u8) w (some ⟨gb, 0, none⟩) bs.length bs) (hnl : n = bs.length) (hn1 : 6 ≤ n) (hn6 : n < 10) (hNN : n ≤ N) (hb0 : bs.getD 0 0 = 1) (hb1 : bs.getD 1 0 = gobB m 1 neg) (hok : okd 256 bs) (hm : 0 ≤ m ∧ m < 6) :
    Calls Tryd.prog 30 #[.int .u64 0, .int .i64 0, .slice (some ⟨gb, 0, none⟩) n N] w fun e w' => e = .returned (.tuple #[.agg #[.int .u64 0, .int .i64 0, .int .i64 0, .bool false, .slice none 0 0, .int .i64 0], .int .i64 0, .bool false]) ∧ Below w.heap.size w w' := by
  have HNL := Aside0.mk hnl
  have HB00 := Aside0.mk hb0
  have HB11 := Aside0.mk hb1
  have HOK := Aside0.mk hok
  clear hnl hb0 hb1 hok
  have hu := Tryd.underlying28
  have HB0 := Aside0.mk (below_alloc (Below.refl w.heap.size w) (.cells #[.int .u64 0, .int .i64 0, .int .i64 0, .bool false, .slice none 0 0, .int .i64 0] 28))
  have HCG := Aside0.mk hcg
  clear hcg
  go_enter Tryd.func30, Tryd.ntmps30
  go_wp2_with (fail)
  refine (fresh_c 0 0 _ (by omega) (by omega)).mono ?_
  rintro e w1 ⟨rfl, hz, hb1⟩
  have hs0 : (w.alloc (.cells #[.int .u64 0, .int .i64 0, .int .i64 0, .bool false, .slice none 0 0, .int .i64 0] 28)).heap.size = w.heap.size + 1 := by simp
  rw [hs0] at hz hb1 ⊢
  have KR := Aside0.mk (hp_bel2 (show hp (w.alloc (.cells #[.int .u64 0, .int .i64 0, .int .i64 0, .bool false, .slice none 0 0, .int .i64 0] 28)) w.heap.size = some (.cells #[.int .u64 0, .int .i64 0, .int .i64 0, .bool false, .slice none 0 0, .int .i64 0] 28 (0, 0)) from hp_new _ _ _ rfl) hb1 (by omega))
  have HB1 := Aside0.mk (HB0.out.trans (hb1.mono (by omega)))
  have HZ := Aside0.mk hz
  have hsz1 : w.heap.size + 1 < w1.heap.size := hp_lt hz
  obtain ⟨w0, hw0⟩ : ∃ w0, w0 = w1.alloc (.cells #[] 5) := ⟨_, rfl⟩
  have hb0 : Below w1.heap.size w1 w0 := by rw [hw0]; exact below_alloc (Below.refl _ _) _
  have HC := Aside0.mk (Kd.C_below (Kd.C_below HCG.out ((HB1.out).mono (Nat.le_refl _))) hb0)
  have HO : Aside0 (Kd.R (Kd.int .u8) 5 w0 w1.heap.size (fun k => w1.heap.size ≤ k) (.slice (some ⟨w1.heap.size, 0, none⟩) 0 0) []) := ⟨R_empty .u8 (by rw [hw0]; exact hp_new _ _ _ (by simp)) (Nat.le_refl _)⟩
  have hsz : w0.heap.size = w1.heap.size + 1 := by rw [hw0]; simp
  have HBB := Aside0.mk hb0
  have HW0 := Aside0.mk hw0
  clear hz hb1 hb0 hw0
  go_wp2_with ((with_reducible refine gate_builtin (b := .append) (xs := #[.tmp 16, .tmp 17]) rfl ?_); at_builtin; rw [← HW0.out]; go_must (refine Kd.R_append_row (Value.int .u8) (0 : Int) (w0 := w0) w1.heap.size rfl (.tmp 16) (.tmp 17) 56 5 (.int .u8 0) 1 rfl Tryd.underlying56 infoU8 rfl (by decide) (.slice (some ⟨w1.heap.size, 0, none⟩) 0 0) [] (bs) (some ⟨gb, 0, none⟩) n N (fun k => w1.heap.size ≤ k) rfl rfl (fun k hk => by omega) HO.out (by first | exact HC.out | (rw [HNL.out]; exact HC.out) | fail) (Below.refl _ _) (by omega) (by first | (simp; done) | (simp; omega) | fail) ?_); intro v1 w2 ho hb hg hat)
  have ho : Kd.R (Kd.int .u8) 5 w2 w1.heap.size (fun k => w1.heap.size ≤ k) v1 (bs) := ho
  have hb12 : Below w1.heap.size w1 w2 := HBB.out.trans hb
  have hz2 := hp_bel2 HZ.out hb12 (by omega)
  have KR2 := Aside0.mk (hp_bel2 KR.out hb12 (by omega))
  have HB2 := Aside0.mk (HB1.out.trans (hb12.mono (by omega)))
  obtain ⟨inner, ho2⟩ := Kd.R_own ho
  have hne : bs.length ≠ 0 := by have := HNL.out; omega
  obtain ⟨g2, c2, e2, _, _⟩ := ho2.form (by omega)
  obtain ⟨A3, c3, e3, q3, r3⟩ := Kd.R_reads ho
  rw [e2] at e3
  injection e3 with e31 e32 e33
  subst e31 e33
  subst e2
  have hs2 : w.heap.size + 1 < w2.heap.size := hp_lt hz2
  have e1 : ((n : Int) == 0) = false := by rw [beq_eq_false_iff_ne]; omega
  have e2' : decide ((n : Int) < 6) = false := decide_eq_false (by omega)
  have e3' : decide ((n : Int) < 10) = true := decide_eq_true (by omega)
  have i0 : (0 : Int) < (n : Int) := by omega
  have i1 : (1 : Int) < (n : Int) := by omega
  have i2 : (2 : Int) ≤ (n : Int) := by omega
  have hc2 : ¬ c2 = 2 := by have := HNL.out; omega
  have h0 := C_at r3 0 (by have := HNL.out; omega)
  have h1 := C_at r3 1 (by have := HNL.out; omega)
  rw [add_spot] at h0 h1
  rw [HB00.out] at h0
  rw [HB11.out] at h1
  have b0 : w2.cell? ⟨g2, 0, none⟩ = some (.int .u8 1) := h0
  have b1 : w2.cell? ⟨g2, 1, none⟩ = some (.int .u8 (gobB m 1 neg)) := h1
  obtain ⟨b, hbx⟩ : ∃ b, b = gobB m 1 neg := ⟨_, rfl⟩
  obtain ⟨d1, d2, d3, d4⟩ := gob_dF neg hm
  rw [← hbx] at b1 d1 d2 d3 d4
  clear hbx
  have hgg : g2 ≠ w.heap.size + 1 := not_block b0 hz2 (by intro u hu; simp at hu; rcases hu with rfl | rfl | rfl | rfl | rfl | rfl | rfl <;> simp)
  have HZ2 := Aside0.mk hz2
  have HR3 := Aside0.mk r3
  have HQ3 := Aside0.mk q3
  obtain ⟨z0, z1, z2, z3, z4, z5, z6, y0, y1, y2, y3, y4, y5, y6⟩ := blk7 hz2
  rw [← HNL.out]
  clear ho ho2 hg hat hb12 HC HO HBB HW0 HZ KR HB1 HCG hsz HB0 r3 q3 hne hz2 h0 h1
  go_wp2_with ((fail_if_success go_at_call 85); go_in)
  obtain ⟨w3, hw3⟩ : ∃ w3, w3 = (((w2.setCell ⟨w.heap.size + 1, 1, none⟩ (.int .u8 m)).setCell ⟨w.heap.size + 1, 2, none⟩ (.int .i8 0)).setCell ⟨w.heap.size + 1, 3, none⟩ (.int .u8 1)).setCell ⟨w.heap.size + 1, 4, none⟩ (.bool neg) := ⟨_, rfl⟩
  have HK3 : Aside0 (Kept (On (w.heap.size + 1)) w2 w3) := ⟨by rw [hw3]; exact ((((Kept.refl (On (w.heap.size + 1)) w2).setCell (p := ⟨w.heap.size + 1, 1, none⟩) (.inl rfl) _).setCell (p := ⟨w.heap.size + 1, 2, none⟩) (.inl rfl) _).setCell (p := ⟨w.heap.size + 1, 3, none⟩) (.inl rfl) _).setCell (p := ⟨w.heap.size + 1, 4, none⟩) (.inl rfl) _⟩
  have HG3 : Aside0 (hp w3 (w.heap.size + 1) = some (.cells #[.int .u32 0, .int .u8 m, .int .i8 0, .int .u8 1, .bool neg, .slice none 0 0, .int .i32 0] 91 (0, 0))) := ⟨by rw [hw3, hp_here _ _ _ _ _ rfl, hp_here _ _ _ _ _ rfl, hp_here _ _ _ _ _ rfl, hp_here _ _ _ _ _ rfl, HZ2.out]; rfl⟩
  rw [← hw3]
  clear hw3 z0 z1 z2 z3 z4 z5 z6 y0 y1 y2 y3 y4 y5 y6 b0 b1
  have hbe := be32_c (some ⟨g2, 2, none⟩) (c2 - 2) (bs.drop 2) w3 (C_tail (C_kept HK3.out HR3.out (fun _ e => hgg e)) HNL.out.symm 2 (by omega)) (by have := HQ3.out; have := HNL.out; rw [List.length_drop]; omega) (by have := HNL.out; rw [List.length_drop]; omega) (okd_drop HOK.out 2)
  rw [List.length_drop, ← HNL.out] at hbe
  refine hbe.mono ?_
  rintro e w4 ⟨rfl, hb4⟩
  obtain ⟨rr, hrr⟩ : ∃ rr, rr = b32 (bs.drop 2) := ⟨_, rfl⟩
  rw [← hrr]
  have HG4 := Aside0.mk (hp_below HG3.out hb4)
  have KR4 := Aside0.mk (hp_below (hp_kept KR2.out HK3.out (fun h => by have : w.heap.size = w.heap.size + 1 := h; omega)) hb4)
  have HB4 := Aside0.mk (below_step (HB2.out.trans (HK3.out.below (B := w.heap.size) (by intro i h; have : i = w.heap.size + 1 := h; omega) (by omega))) hb4)
  obtain ⟨z0, z1, z2, z3, z4, z5, z6, y0, y1, y2, y3, y4, y5, y6⟩ := blk7 HG4.out
  obtain ⟨a0, a1, a2, a3, a4, a5, f0, f1, f2, f3, f4, f5⟩ := blk6 KR4.out
  have lz4 := hp_lt HG4.out
  have lr4 := hp_lt KR4.out
  clear hb4 hbe hrr HG3 HK3 HB2 KR2 HZ2 HR3 HQ3
  go_wp2_with (go_in)
  have KRW : Aside0 (hp (w4.setCell ⟨w.heap.size + 1, 0, none⟩ (.int .u32 rr)) w.heap.size = some (.cells #[.int .u64 0, .int .i64 0, .int .i64 0, .bool false, .slice none 0 0, .int .i64 0] 28 (0, 0))) := ⟨by rw [hp_other _ _ _ _ (by simp)]; exact KR4.out⟩
  have HBW : Aside0 (Below w.heap.size w (w4.setCell ⟨w.heap.size + 1, 0, none⟩ (.int .u32 rr))) := ⟨HB4.out.setCell (p := ⟨w.heap.size + 1, 0, none⟩) (by simp) _⟩
  obtain ⟨w5, hw5⟩ : ∃ w5, w5 = ((((((w4.setCell ⟨w.heap.size + 1, 0, none⟩ (.int .u32 rr)).setCell ⟨w.heap.size, 0, none⟩ (.int .u64 0)).setCell ⟨w.heap.size, 1, none⟩ (.int .i64 0)).setCell ⟨w.heap.size, 2, none⟩ (.int .i64 0)).setCell ⟨w.heap.size, 3, none⟩ (.bool false)).setCell ⟨w.heap.size, 4, none⟩ (.slice none 0 0)).setCell ⟨w.heap.size, 5, none⟩ (.int .i64 0) := ⟨_, rfl⟩
  have hk5 : hp w5 w.heap.size = some (.cells #[.int .u64 0, .int .i64 0, .int .i64 0, .bool false, .slice none 0 0, .int .i64 0] 28 (0, 0)) := by
    rw [hw5, hp_here _ _ _ _ _ rfl, hp_here _ _ _ _ _ rfl, hp_here _ _ _ _ _ rfl, hp_here _ _ _ _ _ rfl, hp_here _ _ _ _ _ rfl, hp_here _ _ _ _ _ rfl, KRW.out]
    rfl
  have hb5 : Below w.heap.size w w5 := by rw [hw5]; exact (((((HBW.out.setCell (by simp) _).setCell (by simp) _).setCell (by simp) _).setCell (by simp) _).setCell (by simp) _).setCell (by simp) _
  rw [← hw5]
  clear hw5 a0 a1 a2 a3 a4 a5 f0 f1 f2 f3 f4 f5
  obtain ⟨r0, r1, r2, r3, r4, r5, _, _, _, _, _, _⟩ := blk6 hk5
  have hs5 := hp_lt hk5
  refine bodyPost_ret (v := .tuple #[.agg #[.int .u64 0, .int .i64 0, .int .i64 0, .bool false, .slice none 0 0, .int .i64 0], .int .i64 0, .bool false]) (by simp [results, Tryd.results30, go_sem, World.cell?_alloc_past _ _ _ (show w.heap.size < w5.heap.size from hs5), r0, r1, r2, r3, r4, r5]) rfl ?_
  exact ⟨rfl, below_alloc hb5 _⟩
end Go.Proofs.YtglikgjaobedbaaDoor.Sp
