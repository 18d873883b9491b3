/-
  CONTRACT of the thin package's 'Op' at Quo where one is a nought or an infinity.
-/
import Derived.Test.YtglikgjaobedbaaGreatDoorOp1
namespace Go.Proofs.YtglikgjaobedbaaGreatDoor.Sp
open Go.RowKit Go.Proofs.YtglikgjaobedbaaGreatDoorW.PrintWords Go.Proofs.YtglikgjaobedbaaGreatDoorW.PrintLast Go.Proofs.YtglikgjaobedbaaGreatDoorW.PrintMore Go.Proofs.YtglikgjaobedbaaGreatDoor.Dig
set_option linter.unusedVariables false
set_option linter.unusedSimpArgs false
set_option maxHeartbeats 6400000 in
set_option maxRecDepth 100000 in
theorem op_c (p px : Nat) (m mx fx fy : Int) (nx ny : Bool) (A : Option Addr) (mm cc : Nat) (ex v : Int) (b n : Nat) (X : List Int) (w : World) (h : ROk w px mx fx A mm cc ex v b n X) (hff : (fx = 0 ∧ fy = 2) ∨ (fx = 1 ∧ fy = 0) ∨ (fx = 1 ∧ fy = 2)) (hp1 : p ≤ 10000) (hp2 : px ≤ 10000) (hm : 0 ≤ m ∧ m < 6) :
    Calls Tryz.prog 13 #[.int .u64 p, .int .i64 m, .int .i64 3, .agg #[.int .u64 px, .int .i64 mx, .int .i64 fx, .bool nx, .slice A mm cc, .int .i64 ex], .agg #[.int .u64 5, .int .i64 0, .int .i64 fy, .bool ny, .slice none 0 0, .int .i64 0]] w fun e w' => ∃ (P' : Nat) (A' : Option Addr) (cc' : Nat), e = .returned (.tuple #[.agg #[.int .u64 P', .int .i64 m, .int .i64 (qf fx fy), .bool (nx != ny), .slice A' 0 cc', .int .i64 0], .int .i64 0, .int .i64 0]) ∧ Below w.heap.size w w' := by
  have hu := Tryz.underlying26
  have hmf : ∀ (fn : Fn) (first cap : Array Value) (w : World), (Instr.makeFunc fn first cap).run Tryz.prog w = .ok (.func fn first cap) w := fun _ _ _ _ => rfl
  obtain ⟨w0, hw0⟩ : ∃ w0, w0 = (((w.alloc (.cells #[.int .i64 3] 3)).alloc (.cells #[.int .u64 px, .int .i64 mx, .int .i64 fx, .bool nx, .slice A mm cc, .int .i64 ex] 26)).alloc (.cells #[.int .u64 5, .int .i64 0, .int .i64 fy, .bool ny, .slice none 0 0, .int .i64 0] 26)).alloc (.cells #[.int .u64 0, .int .i64 0, .int .i64 0, .bool false, .slice none 0 0, .int .i64 0] 26) := ⟨_, rfl⟩
  have hs0 : w0.heap.size = w.heap.size + 1 + 1 + 1 + 1 := by rw [hw0]; simp
  have hb0 : Below w.heap.size w w0 := by rw [hw0]; exact below_alloc (below_alloc (below_alloc (below_alloc (Below.refl _ _) _) _) _) _
  have KO := Aside0.mk (show hp w0 w.heap.size = some (.cells #[.int .i64 3] 3 (0, 0)) from by rw [hw0]; exact (by simp (disch := first | omega | (simp; omega) | (simp; done) | fail) [hp_new, hp_old, hp_here, hp_other, setObj_cells, hp_drew, hp_drewN]))
  have KX := Aside0.mk (show hp w0 (w.heap.size + 1) = some (.cells #[.int .u64 px, .int .i64 mx, .int .i64 fx, .bool nx, .slice A mm cc, .int .i64 ex] 26 (0, 0)) from by rw [hw0]; exact (by simp (disch := first | omega | (simp; omega) | (simp; done) | fail) [hp_new, hp_old, hp_here, hp_other, setObj_cells, hp_drew, hp_drewN]))
  have KY := Aside0.mk (show hp w0 (w.heap.size + 1 + 1) = some (.cells #[.int .u64 5, .int .i64 0, .int .i64 fy, .bool ny, .slice none 0 0, .int .i64 0] 26 (0, 0)) from by rw [hw0]; exact (by simp (disch := first | omega | (simp; omega) | (simp; done) | fail) [hp_new, hp_old, hp_here, hp_other, setObj_cells, hp_drew, hp_drewN]))
  have KR := Aside0.mk (show hp w0 (w.heap.size + 1 + 1 + 1) = some (.cells #[.int .u64 0, .int .i64 0, .int .i64 0, .bool false, .slice none 0 0, .int .i64 0] 26 (0, 0)) from by rw [hw0]; exact (by simp (disch := first | omega | (simp; omega) | (simp; done) | fail) [hp_new, hp_old, hp_here, hp_other, setObj_cells, hp_drew, hp_drewN]))
  have HB0 := Aside0.mk hb0
  have HRK := Aside0.mk (h.below hb0)
  have hfr := fresh_z p m w0 (by omega) hm
  have HFR := Aside0.mk hfr
  have HW0 := Aside0.mk hw0
  clear h hb0 hfr hw0
  go_enter Tryz.func13, Tryz.ntmps13
  go_wp2_with (fail)
  rw [← HW0.out]
  refine (HFR.out).mono ?_
  rintro e w1 ⟨rfl, hz, hb1⟩
  rw [hs0] at hz
  have KO1 := Aside0.mk (hp_below KO.out hb1)
  have KX1 := Aside0.mk (hp_below KX.out hb1)
  have KY1 := Aside0.mk (hp_below KY.out hb1)
  have KR1 := Aside0.mk (hp_below KR.out hb1)
  have HZ1 := Aside0.mk hz
  have HB1 := Aside0.mk (below_step HB0.out hb1)
  have HRK1 := Aside0.mk (HRK.out.below hb1)
  have hs1 : (w.heap.size + 1 + 1 + 1 + 1) < w1.heap.size := hp_lt hz
  obtain ⟨w2, hw2⟩ : ∃ w2, w2 = w1.alloc (.cells #[.pointer (some ⟨(w.heap.size + 1 + 1 + 1 + 1), 0, none⟩)] 44) := ⟨_, rfl⟩
  have hb2 : Below w1.heap.size w1 w2 := by rw [hw2]; exact below_alloc (Below.refl _ _) _
  have hs2 : w2.heap.size = w1.heap.size + 1 := by rw [hw2]; simp
  have KV2 := Aside0.mk (show hp w2 w1.heap.size = some (.cells #[.pointer (some ⟨(w.heap.size + 1 + 1 + 1 + 1), 0, none⟩)] 44 (0, 0)) from by rw [hw2]; exact hp_new _ _ _ rfl)
  have hb3 := below_alloc (Below.refl w2.heap.size w2) (.cells #[.int .i64 0] 3)
  have h23 : Below w1.heap.size w1 (w2.alloc (.cells #[.int .i64 0] 3)) := hb2.trans (hb3.mono (by omega))
  have HEN := Aside0.mk (ended_Op #[.pointer (some ⟨w.heap.size + 1, 0, none⟩), .pointer (some ⟨w.heap.size + 1 + 1, 0, none⟩), .pointer (some ⟨w.heap.size, 0, none⟩), .pointer (some ⟨w1.heap.size, 0, none⟩)] w2 (On (w.heap.size + 1 + 1 + 1 + 1)) (fun W => ∃ P' : Nat, P' ≤ 100000 ∧ Spc W (w.heap.size + 1 + 1 + 1 + 1) P' m (qf fx fy) (nx != ny)) (fun e => by have : w2.heap.size = (w.heap.size + 1 + 1 + 1 + 1) := e; omega)
    (op1_c (w.heap.size + 1) (w.heap.size + 1 + 1) w.heap.size w1.heap.size (w.heap.size + 1 + 1 + 1 + 1) p m px mx fx fy nx ny A mm cc ex v b n X _ (hp_below KX1.out h23) (hp_below KY1.out h23) (hp_below KO1.out h23) (hp_below KV2.out hb3) (hp_below HZ1.out h23) (HRK1.out.below h23) hff hp1 hp2))
  have HB2 := Aside0.mk (HB1.out.trans (hb2.mono (by omega)))
  have KO2 := Aside0.mk (hp_below KO1.out hb2)
  have KR2 := Aside0.mk (hp_below KR1.out hb2)
  have HW2 := Aside0.mk hw2
  clear hz hb1 hb2 hb3 h23 hw2 KO1 KX1 KY1 KR1 HZ1 HRK1 HB1 KO KX KY KR HRK HB0 HFR HW0
  go_wp2_with (fail)
  rw [← HW2.out]
  refine (HEN.out).mono ?_
  rintro e w3 ⟨rfl, w4, ⟨P', hP', hsp⟩, hk4, hw3⟩
  have hb3 := below_alloc (Below.refl w2.heap.size w2) (.cells #[.int .i64 0] 3)
  have hk3 : Kept (fun i => i = (w.heap.size + 1 + 1 + 1 + 1) ∨ i = w2.heap.size) w2 w3 := by
    rw [hw3]
    exact ((Kept.of_below hb3).trans hk4 (fun i _ h => .inl h)).setCell (p := ⟨w2.heap.size, 0, none⟩) (.inl (.inr rfl)) _
  have HS3 := Aside0.mk (show Spc w3 (w.heap.size + 1 + 1 + 1 + 1) P' m (qf fx fy) (nx != ny) from by rw [hw3]; exact (hp_other _ _ _ _ (show w2.heap.size ≠ (w.heap.size + 1 + 1 + 1 + 1) by omega)).trans hsp)
  have KV3 := Aside0.mk (hp_kept KV2.out hk3 (fun h => by rcases h with h | h <;> omega))
  have KO3 := Aside0.mk (hp_kept KO2.out hk3 (fun h => by rcases h with h | h <;> omega))
  have KR3 := Aside0.mk (hp_kept KR2.out hk3 (fun h => by rcases h with h | h <;> omega))
  have HB3 := Aside0.mk (HB2.out.trans (hk3.below (B := w.heap.size) (by rintro i (h | h) <;> omega) (by omega)))
  obtain ⟨o0, _⟩ := blk1 KO3.out
  obtain ⟨v0, _⟩ := blk1 KV3.out
  clear hb3 hk3 hk4 hw3 hsp HEN KV2 KO2 KR2 HB2 HW2
  go_wp2_with (fail)
  have hba := below_alloc (Below.refl w3.heap.size w3) (.cells #[.int .u64 0, .int .i64 0, .int .i64 0, .bool false, .slice none 0 0, .int .i64 0] 26)
  have hqf : qf fx fy = 0 ∨ qf fx fy = 2 := by unfold qf; split <;> simp
  refine (both_c (w.heap.size + 1 + 1 + 1 + 1) P' m 0 (qf fx fy) (nx != ny) _ _ P' m (qf fx fy) 0 0 (nx != ny) w3 HS3.out.blk (real_rp0 (w.heap.size + 1 + 1 + 1 + 1) P' m (qf fx fy) (nx != ny) _ (hp_below (show hp w3 _ = _ from HS3.out) hba) hqf (by omega) (by omega)) (by omega)).mono ?_
  rintro e w5 ⟨A', mm', cc', rfl, hv, hb5⟩
  have KR5 := Aside0.mk (hp_below KR3.out hb5)
  have HB5 := Aside0.mk (below_step HB3.out hb5)
  have hs5 : w.heap.size + 1 + 1 + 1 < w5.heap.size := hp_lt KR5.out
  obtain rfl : mm' = 0 := by
    obtain ⟨_, _, l, e1, _, _, h4, h5⟩ := hv.wd
    injection e1 with e1 e2 e3
    rw [e2, Cn_zero h4 BW_pos h5]
    rfl
  obtain ⟨a0, a1, a2, a3, a4, a5, f0, f1, f2, f3, f4, f5⟩ := blk6 KR5.out
  clear hv hb5 KR3 HB3 HS3 KV3 KO3 o0 v0 hba
  go_wp2_with (fail)
  obtain ⟨w6, hw6⟩ : ∃ w6, w6 = (((((w5.setCell ⟨w.heap.size + 1 + 1 + 1, 0, none⟩ (.int .u64 P')).setCell ⟨w.heap.size + 1 + 1 + 1, 1, none⟩ (.int .i64 m)).setCell ⟨w.heap.size + 1 + 1 + 1, 2, none⟩ (.int .i64 (qf fx fy))).setCell ⟨w.heap.size + 1 + 1 + 1, 3, none⟩ (.bool (nx != ny))).setCell ⟨w.heap.size + 1 + 1 + 1, 4, none⟩ (.slice A' 0 cc')).setCell ⟨w.heap.size + 1 + 1 + 1, 5, none⟩ (.int .i64 0) := ⟨_, rfl⟩
  have hk6 : hp w6 (w.heap.size + 1 + 1 + 1) = some (.cells #[.int .u64 P', .int .i64 m, .int .i64 (qf fx fy), .bool (nx != ny), .slice A' 0 cc', .int .i64 0] 26 (0, 0)) := by
    rw [hw6, hp_here _ _ _ _ _ rfl, hp_here _ _ _ _ _ rfl, hp_here _ _ _ _ _ rfl, hp_here _ _ _ _ _ rfl, hp_here _ _ _ _ _ rfl, hp_here _ _ _ _ _ rfl, KR5.out]
    rfl
  have hb6 : Below w.heap.size w w6 := by rw [hw6]; exact (((((HB5.out.setCell (by simp; omega) _).setCell (by simp; omega) _).setCell (by simp; omega) _).setCell (by simp; omega) _).setCell (by simp; omega) _).setCell (by simp; omega) _
  rw [← hw6]
  clear hw6 a0 a1 a2 a3 a4 a5 f0 f1 f2 f3 f4 f5
  have hba := below_alloc (Below.refl w6.heap.size w6) (.cells #[.int .u64 P', .int .i64 m, .int .i64 (qf fx fy), .bool (nx != ny), .slice A' 0 cc', .int .i64 0] 26)
  obtain ⟨w7, hw7⟩ : ∃ w7, w7 = w6.alloc (.cells #[.int .u64 P', .int .i64 m, .int .i64 (qf fx fy), .bool (nx != ny), .slice A' 0 cc', .int .i64 0] 26) := ⟨_, rfl⟩
  rw [← hw7] at hba ⊢
  clear hw7
  obtain ⟨r0, r1, r2, r3, r4, r5, _, _, _, _, _, _⟩ := blk6 (hp_below hk6 hba)
  refine bodyPost_ret (v := .tuple #[.agg #[.int .u64 P', .int .i64 m, .int .i64 (qf fx fy), .bool (nx != ny), .slice A' 0 cc', .int .i64 0], .int .i64 0, .int .i64 0]) (by simp [results, Tryz.results13, go_sem, r0, r1, r2, r3, r4, r5]) rfl ?_
  exact ⟨P', A', cc', rfl, hb6.trans (hba.mono hb6.size)⟩
end Go.Proofs.YtglikgjaobedbaaGreatDoor.Sp
