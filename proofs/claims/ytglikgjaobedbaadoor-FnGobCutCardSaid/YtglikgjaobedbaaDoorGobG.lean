/-
  CONTRACT of the thin package's 'GobBack' at noughts and infinities.
-/
import Derived.Test.YtglikgjaobedbaaDoorGobF
namespace Go.Proofs.YtglikgjaobedbaaDoor.Sp
open Go.RowKit Go.Proofs.YtglikgjaobedbaaDoorW.PrintWords Go.Proofs.YtglikgjaobedbaaDoorW.PrintLast Go.Proofs.YtglikgjaobedbaaDoorW.PrintMore Go.Proofs.YtglikgjaobedbaaDoor.Dig
set_option linter.unusedVariables false
set_option linter.unusedSimpArgs false
set_option maxHeartbeats 3200000 in
set_option maxRecDepth 100000 in
theorem gobBack_spc (gb p : Nat) (m f : Int) (neg : Bool) (w : World) (hg : hp w gb = some (.cells (u8s (1 :: gobB m f neg :: be4 p)) 5 (0, 0))) (hf : f = 0 ∨ f = 2) (hpx : p ≤ 600000) (hm : 0 ≤ m ∧ m < 6) :
    Calls Tryd.prog 30 #[.int .u64 0, .int .i64 0, .slice (some ⟨gb, 0, none⟩) 6 6] w fun e w' => ∃ A mm cc, e = .returned (.tuple #[.agg #[.int .u64 p, .int .i64 m, .int .i64 f, .bool neg, .slice A mm cc, .int .i64 0], .int .i64 0, .bool true]) ∧ Below w.heap.size w w' := by
  have hu := Tryd.underlying28
  have HB0 := Aside0.mk (below_alloc (Below.refl w.heap.size w) (.cells #[.int .u64 0, .int .i64 0, .int .i64 0, .bool false, .slice none 0 0, .int .i64 0] 28))
  have HCG := Aside0.mk (enc_C (w := w) 0 (1 :: gobB m f neg :: be4 p) hg (by simp [be4]))
  clear hg
  go_enter Tryd.func30, Tryd.ntmps30
  go_wp2_with (fail)
  refine (fresh_c 0 0 _ (by omega) (by omega)).mono ?_
  rintro e w1 ⟨rfl, hz, hb1⟩
  have hs0 : (w.alloc (.cells #[.int .u64 0, .int .i64 0, .int .i64 0, .bool false, .slice none 0 0, .int .i64 0] 28)).heap.size = w.heap.size + 1 := by simp
  rw [hs0] at hz hb1 ⊢
  have KR := Aside0.mk (hp_bel2 (show hp (w.alloc (.cells #[.int .u64 0, .int .i64 0, .int .i64 0, .bool false, .slice none 0 0, .int .i64 0] 28)) w.heap.size = some (.cells #[.int .u64 0, .int .i64 0, .int .i64 0, .bool false, .slice none 0 0, .int .i64 0] 28 (0, 0)) from hp_new _ _ _ rfl) hb1 (by omega))
  have HB1 := Aside0.mk (HB0.out.trans (hb1.mono (by omega)))
  have HZ := Aside0.mk hz
  have hsz1 : w.heap.size + 1 < w1.heap.size := hp_lt hz
  obtain ⟨w0, hw0⟩ : ∃ w0, w0 = w1.alloc (.cells #[] 5) := ⟨_, rfl⟩
  have hb0 : Below w1.heap.size w1 w0 := by rw [hw0]; exact below_alloc (Below.refl _ _) _
  have HC := Aside0.mk (Kd.C_below (Kd.C_below HCG.out ((HB1.out).mono (Nat.le_refl _))) hb0)
  have HO : Aside0 (Kd.R (Kd.int .u8) 5 w0 w1.heap.size (fun k => w1.heap.size ≤ k) (.slice (some ⟨w1.heap.size, 0, none⟩) 0 0) []) := ⟨R_empty .u8 (by rw [hw0]; exact hp_new _ _ _ (by simp)) (Nat.le_refl _)⟩
  have hsz : w0.heap.size = w1.heap.size + 1 := by rw [hw0]; simp
  have HBB := Aside0.mk hb0
  have HW0 := Aside0.mk hw0
  clear hz hb1 hb0 hw0
  go_wp2_with ((with_reducible refine gate_builtin (b := .append) (xs := #[.tmp 16, .tmp 17]) rfl ?_); at_builtin; rw [← HW0.out]; go_must (refine Kd.R_append_row (Value.int .u8) (0 : Int) (w0 := w0) w1.heap.size rfl (.tmp 16) (.tmp 17) 56 5 (.int .u8 0) 1 rfl Tryd.underlying56 infoU8 rfl (by decide) (.slice (some ⟨w1.heap.size, 0, none⟩) 0 0) [] (1 :: gobB m f neg :: be4 p) (some ⟨gb, 0, none⟩) 6 6 (fun k => w1.heap.size ≤ k) rfl rfl (fun k hk => by omega) HO.out HC.out (Below.refl _ _) (by omega) (by first | (simp; done) | (simp; omega) | fail) ?_); intro v1 w2 ho hb hg hat)
  have ho : Kd.R (Kd.int .u8) 5 w2 w1.heap.size (fun k => w1.heap.size ≤ k) v1 (1 :: gobB m f neg :: be4 p) := ho
  have hb12 : Below w1.heap.size w1 w2 := HBB.out.trans hb
  have hz2 := hp_bel2 HZ.out hb12 (by omega)
  have KR2 := Aside0.mk (hp_bel2 KR.out hb12 (by omega))
  have HB2 := Aside0.mk (HB1.out.trans (hb12.mono (by omega)))
  obtain ⟨inner, ho2⟩ := Kd.R_own ho
  obtain ⟨g2, c2, e2, _, _⟩ := ho2.form (by simp)
  obtain ⟨A3, c3, e3, q3, r3⟩ := Kd.R_reads ho
  rw [e2] at e3
  injection e3 with e31 e32 e33
  subst e31 e33
  subst e2
  have hs2 : w.heap.size + 1 < w2.heap.size := hp_lt hz2
  clear ho ho2 hb hg hat hb12 HC HO HBB HW0 HZ KR HB1 HCG hsz HB0
  refine (gobDec_spc (w.heap.size + 1) g2 c2 p m f neg w2 hz2 r3 q3 hf hpx hm).mono ?_
  rintro e w3 ⟨rfl, hS, hk⟩
  have HS := Aside0.mk hS
  have KR3 := Aside0.mk (hp_kept KR2.out hk (fun h => by have : w.heap.size = w.heap.size + 1 := h; omega))
  have HB3 := Aside0.mk (HB2.out.trans (hk.below (B := w.heap.size) (by intro i h; have : i = w.heap.size + 1 := h; omega) (by omega)))
  have hs3 : w.heap.size < w3.heap.size := hp_lt KR3.out
  have hba := below_alloc (Below.refl w3.heap.size w3) (.cells #[.int .u64 0, .int .i64 0, .int .i64 0, .bool false, .slice none 0 0, .int .i64 0] 28)
  have HBO := Aside0.mk (both_c (w.heap.size + 1) p m 0 f neg _ _ p m f 0 0 neg w3 hS.blk (real_rp0 (w.heap.size + 1) p m f neg _ (hp_below (show hp w3 _ = _ from hS) hba) hf (by omega) (by omega)) (by omega))
  clear hS hk hz2 r3 q3 KR2 HB2 hba
  go_wp2_with (fail)
  refine (HBO.out).mono ?_
  rintro e w4 ⟨A, mm, cc, rfl, hv, hb4⟩
  have KR4 := Aside0.mk (hp_below KR3.out hb4)
  have HB4 := Aside0.mk (below_step HB3.out hb4)
  have hs4 : w.heap.size < w4.heap.size := hp_lt KR4.out
  obtain ⟨a0, a1, a2, a3, a4, a5, f0, f1, f2, f3, f4, f5⟩ := blk6 KR4.out
  clear hv hb4 HBO KR3 HB3
  go_wp2_with (fail)
  obtain ⟨w5, hw5⟩ : ∃ w5, w5 = (((((w4.setCell ⟨w.heap.size, 0, none⟩ (.int .u64 p)).setCell ⟨w.heap.size, 1, none⟩ (.int .i64 m)).setCell ⟨w.heap.size, 2, none⟩ (.int .i64 f)).setCell ⟨w.heap.size, 3, none⟩ (.bool neg)).setCell ⟨w.heap.size, 4, none⟩ (.slice A mm cc)).setCell ⟨w.heap.size, 5, none⟩ (.int .i64 0) := ⟨_, rfl⟩
  have hk5 : hp w5 w.heap.size = some (.cells #[.int .u64 p, .int .i64 m, .int .i64 f, .bool neg, .slice A mm cc, .int .i64 0] 28 (0, 0)) := by
    rw [hw5, hp_here _ _ _ _ _ rfl, hp_here _ _ _ _ _ rfl, hp_here _ _ _ _ _ rfl, hp_here _ _ _ _ _ rfl, hp_here _ _ _ _ _ rfl, hp_here _ _ _ _ _ rfl, KR4.out]
    rfl
  have hb5 : Below w.heap.size w w5 := by rw [hw5]; exact (((((HB4.out.setCell (by simp) _).setCell (by simp) _).setCell (by simp) _).setCell (by simp) _).setCell (by simp) _).setCell (by simp) _
  rw [← hw5]
  clear hw5 a0 a1 a2 a3 a4 a5 f0 f1 f2 f3 f4 f5
  have hba := below_alloc (Below.refl w5.heap.size w5) (.cells #[.int .u64 p, .int .i64 m, .int .i64 f, .bool neg, .slice A mm cc, .int .i64 0] 28)
  obtain ⟨w6, hw6⟩ : ∃ w6, w6 = w5.alloc (.cells #[.int .u64 p, .int .i64 m, .int .i64 f, .bool neg, .slice A mm cc, .int .i64 0] 28) := ⟨_, rfl⟩
  rw [← hw6] at hba ⊢
  clear hw6
  obtain ⟨r0, r1, r2, r3, r4, r5, _, _, _, _, _, _⟩ := blk6 (hp_below hk5 hba)
  refine bodyPost_ret (v := .tuple #[.agg #[.int .u64 p, .int .i64 m, .int .i64 f, .bool neg, .slice A mm cc, .int .i64 0], .int .i64 0, .bool true]) (by simp [results, Tryd.results30, go_sem, r0, r1, r2, r3, r4, r5]) rfl ?_
  exact ⟨A, mm, cc, rfl, hb5.trans (hba.mono hb5.size)⟩
end Go.Proofs.YtglikgjaobedbaaDoor.Sp
