/-
  CONTRACTS of the thin package's 'FromBits'.
-/
import Derived.Test.YtglikgjaobedbaaDoorSetF2
import Derived.Test.YtglikgjaobedbaaDoorEnded
namespace Go.Proofs.YtglikgjaobedbaaDoor.Sp
open Go.RowKit Go.Proofs.YtglikgjaobedbaaDoorW.PrintWords Go.Proofs.YtglikgjaobedbaaDoorW.PrintLast Go.Proofs.YtglikgjaobedbaaDoorW.PrintMore Go.Proofs.YtglikgjaobedbaaDoor.Dig Go.Proofs.YtglikgjaobedbaaDoor.Flo
set_option linter.unusedVariables false
set_option linter.unusedSimpArgs false
theorem Own.kept {S : Nat → Prop} {w0 w w' : World} {g p : Nat} {m : Int} {neg : Bool} {v x : Int} {b : Nat} (h : Own w0 w g p m neg v x b) (hk : Kept S w w') (hS : ∀ i, w0.heap.size ≤ i → ¬ S i) : Own w0 w' g p m neg v x b := by
  obtain ⟨mb, L, R, c, h1, h2, h3, h4, h5⟩ := h
  exact ⟨mb, L, R, c, h1, h2, h3, h4.kept hk (hS _ h1) (hS _ h2), h5⟩
set_option maxHeartbeats 3200000 in
set_option maxRecDepth 100000 in
theorem from1_nan (bb bz N : Nat) (w : World) (hN : N < 18446744073709551616) (h0 : 9218868437227405312 < N % 9223372036854775808) (kb : hp w bb = some (.cells #[.int .u64 (N : Int)] 32 (0, 0))) (kz : hp w bz = some (.cells #[.pointer none] 62 (0, 0))) :
    Calls Tryd.prog 37 #[.pointer (some ⟨bb, 0, none⟩), .pointer (some ⟨bz, 0, none⟩)] w fun e w' => (∃ s, e = .panicked (nanChain s false)) ∧ Kept (fun _ => False) w w' := by
  have HC := Aside0.mk (newF_nan N w h0)
  have hfr := f64from N
  obtain ⟨b0, _⟩ := blk1 kb
  obtain ⟨z0, e0⟩ := blk1 kz
  have lz := hp_lt kz
  have KZ := Aside0.mk kz
  clear kb kz h0
  go_enter Tryd.func37, Tryd.ntmps37
  go_wp2_with (fail)
  refine (HC.out).mono ?_
  rintro e w1 ⟨⟨s, rfl⟩, rfl⟩
  exact ⟨rfl, ⟨s, rfl⟩, Kept.refl _ _⟩
set_option maxHeartbeats 3200000 in
set_option maxRecDepth 100000 in
theorem from1_spc (bb bz N : Nat) (w : World) (hN : N < 18446744073709551616) (h0 : N % 9223372036854775808 = 0 ∨ N % 9223372036854775808 = 9218868437227405312) (kb : hp w bb = some (.cells #[.int .u64 (N : Int)] 32 (0, 0))) (kz : hp w bz = some (.cells #[.pointer none] 62 (0, 0))) :
    Calls Tryd.prog 37 #[.pointer (some ⟨bb, 0, none⟩), .pointer (some ⟨bz, 0, none⟩)] w fun e w' => e = .returned (.tuple #[]) ∧ (∃ g, w.heap.size ≤ g ∧ Spc w' g 53 0 (sf N) (sg N) ∧ hp w' bz = some (.cells #[.pointer (some ⟨g, 0, none⟩)] 62 (0, 0))) ∧ Kept (On bz) w w' := by
  have HC := Aside0.mk (newF_spc N w hN h0)
  have hfr := f64from N
  obtain ⟨b0, _⟩ := blk1 kb
  obtain ⟨z0, e0⟩ := blk1 kz
  have lz := hp_lt kz
  have KZ := Aside0.mk kz
  clear kb kz h0
  go_enter Tryd.func37, Tryd.ntmps37
  go_wp2_with (fail)
  refine (HC.out).mono ?_
  rintro e w1 ⟨rfl, hs, hb⟩
  have KZ1 := Aside0.mk (hp_below KZ.out hb)
  have HS := Aside0.mk hs
  have HB := Aside0.mk hb
  have hs1 : w.heap.size ≤ w1.heap.size := hb.size
  clear hs hb z0 e0 HC
  obtain ⟨z0, e0⟩ := blk1 KZ1.out
  have hk1 : Kept (On bz) w1 (w1.setCell ⟨bz, 0, none⟩ (.pointer (some ⟨w.heap.size, 0, none⟩))) := (Kept.refl (On bz) w1).setCell (p := ⟨bz, 0, none⟩) (.inl rfl) _
  have HK1 := Aside0.mk hk1
  clear hk1
  go_wp2_with (fail)
  refine bodyPost_end (v := .tuple #[]) (by simp [results, Tryd.results37, go_sem]) rfl ?_
  refine ⟨rfl, ⟨w.heap.size, Nat.le_refl _, (hp_other _ _ _ _ (show bz ≠ w.heap.size by omega)).trans HS.out, by rw [hp_here _ _ _ _ _ rfl, KZ1.out]; rfl⟩, (Kept.of_below (S := On bz) HB.out).trans HK1.out (fun _ _ h => h)⟩
set_option maxHeartbeats 3200000 in
set_option maxRecDepth 100000 in
theorem from1_fin (bb bz N : Nat) (w : World) (hN : N < 18446744073709551616) (h0 : 0 < N % 9223372036854775808) (h2 : N % 9223372036854775808 < 9218868437227405312) (kb : hp w bb = some (.cells #[.int .u64 (N : Int)] 32 (0, 0))) (kz : hp w bz = some (.cells #[.pointer none] 62 (0, 0))) :
    Calls Tryd.prog 37 #[.pointer (some ⟨bb, 0, none⟩), .pointer (some ⟨bz, 0, none⟩)] w fun e w' => e = .returned (.tuple #[]) ∧ (∃ g, Own w w' g 53 0 (sg N) (mg N) (ex N) (bl N) ∧ hp w' bz = some (.cells #[.pointer (some ⟨g, 0, none⟩)] 62 (0, 0))) ∧ Kept (On bz) w w' := by
  have HC := Aside0.mk (newF_fin N w hN h0 h2)
  have hfr := f64from N
  obtain ⟨b0, _⟩ := blk1 kb
  obtain ⟨z0, e0⟩ := blk1 kz
  have lz := hp_lt kz
  have KZ := Aside0.mk kz
  clear kb kz h0
  go_enter Tryd.func37, Tryd.ntmps37
  go_wp2_with (fail)
  refine (HC.out).mono ?_
  rintro e w1 ⟨rfl, hs, hb⟩
  have KZ1 := Aside0.mk (hp_below KZ.out hb)
  have HS := Aside0.mk hs
  have HB := Aside0.mk hb
  have hs1 : w.heap.size ≤ w1.heap.size := hb.size
  clear hs hb z0 e0 HC
  obtain ⟨z0, e0⟩ := blk1 KZ1.out
  have hk1 : Kept (On bz) w1 (w1.setCell ⟨bz, 0, none⟩ (.pointer (some ⟨w.heap.size, 0, none⟩))) := (Kept.refl (On bz) w1).setCell (p := ⟨bz, 0, none⟩) (.inl rfl) _
  have HK1 := Aside0.mk hk1
  clear hk1
  go_wp2_with (fail)
  refine bodyPost_end (v := .tuple #[]) (by simp [results, Tryd.results37, go_sem]) rfl ?_
  refine ⟨rfl, ⟨w.heap.size, HS.out.kept HK1.out (fun i hi h => by have : i = bz := h; omega), by rw [hp_here _ _ _ _ _ rfl, KZ1.out]; rfl⟩, (Kept.of_below (S := On bz) HB.out).trans HK1.out (fun _ _ h => h)⟩
set_option maxHeartbeats 3200000 in
set_option maxRecDepth 100000 in
theorem fromB_nan (N : Nat) (w : World) (hN : N < 18446744073709551616) (h0 : 9218868437227405312 < N % 9223372036854775808) :
    Calls Tryd.prog 14 #[.int .u64 (N : Int)] w fun e w' => e = .returned (.tuple #[.agg #[.int .u64 0, .int .i64 0, .int .i64 0, .bool false, .slice none 0 0, .int .i64 0], .int .i64 0, .int .i64 1]) ∧ Below w.heap.size w w' := by
  have hu := Tryd.underlying28
  have hmf : ∀ (fn : Fn) (first cap : Array Value) (w : World), (Instr.makeFunc fn first cap).run Tryd.prog w = .ok (.func fn first cap) w := fun _ _ _ _ => rfl
  obtain ⟨w0, hw0⟩ : ∃ w0, w0 = ((w.alloc (.cells #[.int .u64 (N : Int)] 32)).alloc (.cells #[.int .u64 0, .int .i64 0, .int .i64 0, .bool false, .slice none 0 0, .int .i64 0] 28)).alloc (.cells #[.pointer none] 62) := ⟨_, rfl⟩
  have hs0 : w0.heap.size = w.heap.size + 1 + 1 + 1 := by rw [hw0]; simp
  have hb0 : Below w.heap.size w w0 := by rw [hw0]; exact below_alloc (below_alloc (below_alloc (Below.refl _ _) _) _) _
  have KB := Aside0.mk (show hp w0 w.heap.size = some (.cells #[.int .u64 (N : Int)] 32 (0, 0)) from by rw [hw0]; exact (by simp (disch := first | omega | (simp; omega) | (simp; done) | fail) [hp_new, hp_old, hp_here, hp_other, setObj_cells, hp_drew, hp_drewN]))
  have KR := Aside0.mk (show hp w0 (w.heap.size + 1) = some (.cells #[.int .u64 0, .int .i64 0, .int .i64 0, .bool false, .slice none 0 0, .int .i64 0] 28 (0, 0)) from by rw [hw0]; exact (by simp (disch := first | omega | (simp; omega) | (simp; done) | fail) [hp_new, hp_old, hp_here, hp_other, setObj_cells, hp_drew, hp_drewN]))
  have KZ := Aside0.mk (show hp w0 (w.heap.size + 1 + 1) = some (.cells #[.pointer none] 62 (0, 0)) from by rw [hw0]; exact (by simp (disch := first | omega | (simp; omega) | (simp; done) | fail) [hp_new, hp_old, hp_here, hp_other, setObj_cells, hp_drew, hp_drewN]))
  have HB0 := Aside0.mk hb0
  have HW0 := Aside0.mk hw0
  have hba := below_alloc (Below.refl w0.heap.size w0) (.cells #[.int .i64 0] 3)
  have HEN := Aside0.mk (endedNaN_FromBits #[.pointer (some ⟨w.heap.size, 0, none⟩), .pointer (some ⟨w.heap.size + 1 + 1, 0, none⟩)] w0 (fun _ => False) (fun _ => True) (fun h => h)
    ((from1_nan w.heap.size (w.heap.size + 1 + 1) N _ hN h0 (hp_below KB.out hba) (hp_below KZ.out hba)).mono fun e w' h => ⟨h.1, trivial, h.2⟩))
  clear hba hb0 hw0
  go_enter Tryd.func14, Tryd.ntmps14
  go_wp2_with (fail)
  rw [← HW0.out]
  refine (HEN.out).mono ?_
  rintro e w5 ⟨rfl, w4, _, hk4, hk5⟩
  have hk3 : Kept (fun i => i = w0.heap.size) w0 w5 := ((Kept.of_below (S := fun i => i = w0.heap.size) (below_alloc (Below.refl w0.heap.size w0) _)).trans hk4 (fun i _ h => h.elim)).trans hk5 (fun i _ h => h)
  have KR5 := Aside0.mk (hp_kept KR.out hk3 (fun h => by omega))
  have HB5 := Aside0.mk (HB0.out.trans (hk3.below (B := w.heap.size) (by rintro i h; omega) (by omega)))
  have hs5 : w.heap.size + 1 < w5.heap.size := hp_lt KR5.out
  obtain ⟨a0, a1, a2, a3, a4, a5, f0, f1, f2, f3, f4, f5⟩ := blk6 KR5.out
  clear hk3 hk4 hk5 HEN KB KR KZ HB0 HW0
  go_wp2_with (fail)
  obtain ⟨w6, hw6⟩ : ∃ w6, w6 = ((((((w5.setCell ⟨w.heap.size + 1, 0, none⟩ (.int .u64 0)).setCell ⟨w.heap.size + 1, 1, none⟩ (.int .i64 0)).setCell ⟨w.heap.size + 1, 2, none⟩ (.int .i64 0)).setCell ⟨w.heap.size + 1, 3, none⟩ (.bool false)).setCell ⟨w.heap.size + 1, 4, none⟩ (.slice none 0 0)).setCell ⟨w.heap.size + 1, 5, none⟩ (.int .i64 0)) := ⟨_, rfl⟩
  have hk6 : hp w6 (w.heap.size + 1) = some (.cells #[.int .u64 0, .int .i64 0, .int .i64 0, .bool false, .slice none 0 0, .int .i64 0] 28 (0, 0)) := by
    rw [hw6, hp_here _ _ _ _ _ rfl, hp_here _ _ _ _ _ rfl, hp_here _ _ _ _ _ rfl, hp_here _ _ _ _ _ rfl, hp_here _ _ _ _ _ rfl, hp_here _ _ _ _ _ rfl, KR5.out]
    rfl
  have hb6 : Below w.heap.size w w6 := by rw [hw6]; exact (((((HB5.out.setCell (by simp) _).setCell (by simp) _).setCell (by simp) _).setCell (by simp) _).setCell (by simp) _).setCell (by simp) _
  rw [← hw6]
  clear hw6 a0 a1 a2 a3 a4 a5 f0 f1 f2 f3 f4 f5
  obtain ⟨r0, r1, r2, r3, r4, r5, _, _, _, _, _, _⟩ := blk6 hk6
  refine bodyPost_ret (v := .tuple #[.agg #[.int .u64 0, .int .i64 0, .int .i64 0, .bool false, .slice none 0 0, .int .i64 0], .int .i64 0, .int .i64 1]) (by simp [results, Tryd.results14, go_sem, r0, r1, r2, r3, r4, r5]) rfl ?_
  exact ⟨rfl, hb6⟩
set_option maxHeartbeats 3200000 in
set_option maxRecDepth 100000 in
theorem fromB_spc (N : Nat) (w : World) (hN : N < 18446744073709551616) (h0 : N % 9223372036854775808 = 0 ∨ N % 9223372036854775808 = 9218868437227405312) :
    Calls Tryd.prog 14 #[.int .u64 (N : Int)] w fun e w' => ∃ (A' : Option Addr) (cc' : Nat), e = .returned (.tuple #[.agg #[.int .u64 53, .int .i64 0, .int .i64 (sf N), .bool (sg N), .slice A' 0 cc', .int .i64 0], .int .i64 0, .int .i64 0]) ∧ Below w.heap.size w w' := by
  have hu := Tryd.underlying28
  have hmf : ∀ (fn : Fn) (first cap : Array Value) (w : World), (Instr.makeFunc fn first cap).run Tryd.prog w = .ok (.func fn first cap) w := fun _ _ _ _ => rfl
  obtain ⟨w0, hw0⟩ : ∃ w0, w0 = ((w.alloc (.cells #[.int .u64 (N : Int)] 32)).alloc (.cells #[.int .u64 0, .int .i64 0, .int .i64 0, .bool false, .slice none 0 0, .int .i64 0] 28)).alloc (.cells #[.pointer none] 62) := ⟨_, rfl⟩
  have hs0 : w0.heap.size = w.heap.size + 1 + 1 + 1 := by rw [hw0]; simp
  have hb0 : Below w.heap.size w w0 := by rw [hw0]; exact below_alloc (below_alloc (below_alloc (Below.refl _ _) _) _) _
  have KB := Aside0.mk (show hp w0 w.heap.size = some (.cells #[.int .u64 (N : Int)] 32 (0, 0)) from by rw [hw0]; exact (by simp (disch := first | omega | (simp; omega) | (simp; done) | fail) [hp_new, hp_old, hp_here, hp_other, setObj_cells, hp_drew, hp_drewN]))
  have KR := Aside0.mk (show hp w0 (w.heap.size + 1) = some (.cells #[.int .u64 0, .int .i64 0, .int .i64 0, .bool false, .slice none 0 0, .int .i64 0] 28 (0, 0)) from by rw [hw0]; exact (by simp (disch := first | omega | (simp; omega) | (simp; done) | fail) [hp_new, hp_old, hp_here, hp_other, setObj_cells, hp_drew, hp_drewN]))
  have KZ := Aside0.mk (show hp w0 (w.heap.size + 1 + 1) = some (.cells #[.pointer none] 62 (0, 0)) from by rw [hw0]; exact (by simp (disch := first | omega | (simp; omega) | (simp; done) | fail) [hp_new, hp_old, hp_here, hp_other, setObj_cells, hp_drew, hp_drewN]))
  have HB0 := Aside0.mk hb0
  have HW0 := Aside0.mk hw0
  have hba := below_alloc (Below.refl w0.heap.size w0) (.cells #[.int .i64 0] 3)
  have HEN := Aside0.mk (ended_FromBits #[.pointer (some ⟨w.heap.size, 0, none⟩), .pointer (some ⟨w.heap.size + 1 + 1, 0, none⟩)] w0 (On (w.heap.size + 1 + 1)) (fun W => ∃ g, w0.heap.size + 1 ≤ g ∧ Spc W g 53 0 (sf N) (sg N) ∧ hp W (w.heap.size + 1 + 1) = some (.cells #[.pointer (some ⟨g, 0, none⟩)] 62 (0, 0))) (fun h => by have : w0.heap.size = w.heap.size + 1 + 1 := h; omega)
    ((from1_spc w.heap.size (w.heap.size + 1 + 1) N _ hN h0 (hp_below KB.out hba) (hp_below KZ.out hba)).mono fun e w' h => ⟨h.1, by obtain ⟨g, h1, h2⟩ := h.2.1; exact ⟨g, by simpa using h1, h2⟩, h.2.2⟩))
  clear hba hb0 hw0
  go_enter Tryd.func14, Tryd.ntmps14
  go_wp2_with (fail)
  rw [← HW0.out]
  refine (HEN.out).mono ?_
  rintro e w3 ⟨rfl, w4, ⟨g, hg, hsp, hz⟩, hk4, hw3⟩
  have hk3 : Kept (fun i => i = w.heap.size + 1 + 1 ∨ i = w0.heap.size) w0 w3 := by
    rw [hw3]
    exact ((Kept.of_below (below_alloc (Below.refl w0.heap.size w0) _)).trans hk4 (fun i _ h => .inl h)).setCell (p := ⟨w0.heap.size, 0, none⟩) (.inl (.inr rfl)) _
  have hkx : Kept (On w0.heap.size) w4 w3 := by rw [hw3]; exact (Kept.refl (On w0.heap.size) w4).setCell (p := ⟨w0.heap.size, 0, none⟩) (.inl rfl) _
  have KZ3 := Aside0.mk (hp_kept hz hkx (fun h => by have : w.heap.size + 1 + 1 = w0.heap.size := h; omega))
  have KR3 := Aside0.mk (hp_kept KR.out hk3 (fun h => by rcases h with h | h <;> omega))
  have HB3 := Aside0.mk (HB0.out.trans (hk3.below (B := w.heap.size) (by rintro i (h | h) <;> omega) (by omega)))
  obtain ⟨z0, _⟩ := blk1 KZ3.out
  have hs3 : w.heap.size + 1 < w3.heap.size := hp_lt KR3.out
  have hsp3 : Spc w3 g 53 0 (sf N) (sg N) := hp_kept hsp hkx (fun h => by have : g = w0.heap.size := h; omega)
  have hsf : sf N = 0 ∨ sf N = 2 := by unfold sf; split <;> simp
  have HBO := Aside0.mk (both_c g 53 0 0 (sf N) (sg N) _ _ 53 0 (sf N) 0 0 (sg N) w3 hsp3 (real_rp0 g 53 0 (sf N) (sg N) _ (hp_below (show hp w3 _ = _ from hsp3) (below_alloc (Below.refl w3.heap.size w3) _)) hsf (by omega) (by omega)) (by omega))
  clear hk3 hk4 hw3 hkx hsp hsp3 hz HEN KB KR KZ HB0 HW0
  go_wp2_with (fail)
  refine (HBO.out).mono ?_
  rintro e w5 ⟨A', mm', cc', rfl, hv, hb5⟩
  have KR5 := Aside0.mk (hp_below KR3.out hb5)
  have HB5 := Aside0.mk (below_step HB3.out hb5)
  have hs5 : w.heap.size + 1 < w5.heap.size := hp_lt KR5.out
  obtain rfl : mm' = 0 := by
    obtain ⟨_, _, l, e1, _, _, h4, h5⟩ := hv.wd
    injection e1 with e1 e2 e3
    rw [e2, Cn_zero h4 BW_pos h5]
    rfl
  clear hv
  obtain ⟨a0, a1, a2, a3, a4, a5, f0, f1, f2, f3, f4, f5⟩ := blk6 KR5.out
  clear hb5 KR3 HB3 KZ3 z0 HBO
  go_wp2_with (fail)
  obtain ⟨w6, hw6⟩ : ∃ w6, w6 = ((((((w5.setCell ⟨w.heap.size + 1, 0, none⟩ (.int .u64 53)).setCell ⟨w.heap.size + 1, 1, none⟩ (.int .i64 0)).setCell ⟨w.heap.size + 1, 2, none⟩ (.int .i64 (sf N))).setCell ⟨w.heap.size + 1, 3, none⟩ (.bool (sg N))).setCell ⟨w.heap.size + 1, 4, none⟩ (.slice A' 0 cc')).setCell ⟨w.heap.size + 1, 5, none⟩ (.int .i64 0)) := ⟨_, rfl⟩
  have hk6 : hp w6 (w.heap.size + 1) = some (.cells #[.int .u64 53, .int .i64 0, .int .i64 (sf N), .bool (sg N), .slice A' 0 cc', .int .i64 0] 28 (0, 0)) := by
    rw [hw6, hp_here _ _ _ _ _ rfl, hp_here _ _ _ _ _ rfl, hp_here _ _ _ _ _ rfl, hp_here _ _ _ _ _ rfl, hp_here _ _ _ _ _ rfl, hp_here _ _ _ _ _ rfl, KR5.out]
    rfl
  have hb6 : Below w.heap.size w w6 := by rw [hw6]; exact (((((HB5.out.setCell (by simp) _).setCell (by simp) _).setCell (by simp) _).setCell (by simp) _).setCell (by simp) _).setCell (by simp) _
  rw [← hw6]
  clear hw6 a0 a1 a2 a3 a4 a5 f0 f1 f2 f3 f4 f5
  have hba := below_alloc (Below.refl w6.heap.size w6) (.cells #[.int .u64 53, .int .i64 0, .int .i64 (sf N), .bool (sg N), .slice A' 0 cc', .int .i64 0] 28)
  obtain ⟨w7, hw7⟩ : ∃ w7, w7 = w6.alloc (.cells #[.int .u64 53, .int .i64 0, .int .i64 (sf N), .bool (sg N), .slice A' 0 cc', .int .i64 0] 28) := ⟨_, rfl⟩
  rw [← hw7] at hba ⊢
  clear hw7
  obtain ⟨r0, r1, r2, r3, r4, r5, _, _, _, _, _, _⟩ := blk6 (hp_below hk6 hba)
  refine bodyPost_ret (v := .tuple #[.agg #[.int .u64 53, .int .i64 0, .int .i64 (sf N), .bool (sg N), .slice A' 0 cc', .int .i64 0], .int .i64 0, .int .i64 0]) (by simp [results, Tryd.results14, go_sem, r0, r1, r2, r3, r4, r5]) rfl ?_
  exact ⟨A', cc', rfl, hb6.trans (hba.mono hb6.size)⟩
set_option maxHeartbeats 3200000 in
set_option maxRecDepth 100000 in
theorem fromB_fin (N : Nat) (w : World) (hN : N < 18446744073709551616) (h0 : 0 < N % 9223372036854775808) (h2 : N % 9223372036854775808 < 9218868437227405312) (n : Nat) (ht : Tz (mg N : Int) n) (hT : Tb w) :
    Calls Tryd.prog 14 #[.int .u64 (N : Int)] w fun e w' => ∃ (A' : Option Addr) (mm' cc' : Nat), e = .returned (.tuple #[.agg #[.int .u64 53, .int .i64 0, .int .i64 1, .bool (sg N), .slice A' mm' cc', .int .i64 (ex N + n)], .int .i64 0, .int .i64 0]) ∧ Wf w' w.heap.size (.slice A' mm' cc') ((mg N : Int) / 2 ^ n) ∧ Below w.heap.size w w' := by
  have hu := Tryd.underlying28
  have hmf : ∀ (fn : Fn) (first cap : Array Value) (w : World), (Instr.makeFunc fn first cap).run Tryd.prog w = .ok (.func fn first cap) w := fun _ _ _ _ => rfl
  obtain ⟨w0, hw0⟩ : ∃ w0, w0 = ((w.alloc (.cells #[.int .u64 (N : Int)] 32)).alloc (.cells #[.int .u64 0, .int .i64 0, .int .i64 0, .bool false, .slice none 0 0, .int .i64 0] 28)).alloc (.cells #[.pointer none] 62) := ⟨_, rfl⟩
  have hs0 : w0.heap.size = w.heap.size + 1 + 1 + 1 := by rw [hw0]; simp
  have hb0 : Below w.heap.size w w0 := by rw [hw0]; exact below_alloc (below_alloc (below_alloc (Below.refl _ _) _) _) _
  have KB := Aside0.mk (show hp w0 w.heap.size = some (.cells #[.int .u64 (N : Int)] 32 (0, 0)) from by rw [hw0]; exact (by simp (disch := first | omega | (simp; omega) | (simp; done) | fail) [hp_new, hp_old, hp_here, hp_other, setObj_cells, hp_drew, hp_drewN]))
  have KR := Aside0.mk (show hp w0 (w.heap.size + 1) = some (.cells #[.int .u64 0, .int .i64 0, .int .i64 0, .bool false, .slice none 0 0, .int .i64 0] 28 (0, 0)) from by rw [hw0]; exact (by simp (disch := first | omega | (simp; omega) | (simp; done) | fail) [hp_new, hp_old, hp_here, hp_other, setObj_cells, hp_drew, hp_drewN]))
  have KZ := Aside0.mk (show hp w0 (w.heap.size + 1 + 1) = some (.cells #[.pointer none] 62 (0, 0)) from by rw [hw0]; exact (by simp (disch := first | omega | (simp; omega) | (simp; done) | fail) [hp_new, hp_old, hp_here, hp_other, setObj_cells, hp_drew, hp_drewN]))
  have HB0 := Aside0.mk hb0
  have HW0 := Aside0.mk hw0
  have hba := below_alloc (Below.refl w0.heap.size w0) (.cells #[.int .i64 0] 3)
  have HEN := Aside0.mk (ended_FromBits #[.pointer (some ⟨w.heap.size, 0, none⟩), .pointer (some ⟨w.heap.size + 1 + 1, 0, none⟩)] w0 (On (w.heap.size + 1 + 1)) (fun W => ∃ g, Own (w0.alloc (.cells #[.int .i64 0] 3)) W g 53 0 (sg N) (mg N) (ex N) (bl N) ∧ hp W (w.heap.size + 1 + 1) = some (.cells #[.pointer (some ⟨g, 0, none⟩)] 62 (0, 0))) (fun h => by have : w0.heap.size = w.heap.size + 1 + 1 := h; omega)
    (from1_fin w.heap.size (w.heap.size + 1 + 1) N _ hN h0 h2 (hp_below KB.out hba) (hp_below KZ.out hba)))
  have HT0 := Aside0.mk (hT.below hb0 hT.2)
  have hgT : 2 < w.heap.size := hT.2
  clear hT
  clear hba hb0 hw0
  go_enter Tryd.func14, Tryd.ntmps14
  go_wp2_with (fail)
  rw [← HW0.out]
  refine (HEN.out).mono ?_
  rintro e w3 ⟨rfl, w4, ⟨g, hown, hz⟩, hk4, hw3⟩
  have hk3 : Kept (fun i => i = w.heap.size + 1 + 1 ∨ i = w0.heap.size) w0 w3 := by
    rw [hw3]
    exact ((Kept.of_below (below_alloc (Below.refl w0.heap.size w0) _)).trans hk4 (fun i _ h => .inl h)).setCell (p := ⟨w0.heap.size, 0, none⟩) (.inl (.inr rfl)) _
  have hkx : Kept (On w0.heap.size) w4 w3 := by rw [hw3]; exact (Kept.refl (On w0.heap.size) w4).setCell (p := ⟨w0.heap.size, 0, none⟩) (.inl rfl) _
  have KZ3 := Aside0.mk (hp_kept hz hkx (fun h => by have : w.heap.size + 1 + 1 = w0.heap.size := h; omega))
  have KR3 := Aside0.mk (hp_kept KR.out hk3 (fun h => by rcases h with h | h <;> omega))
  have HB3 := Aside0.mk (HB0.out.trans (hk3.below (B := w.heap.size) (by rintro i (h | h) <;> omega) (by omega)))
  obtain ⟨z0, _⟩ := blk1 KZ3.out
  have hs3 : w.heap.size + 1 < w3.heap.size := hp_lt KR3.out
  have hown3 := hown.kept hkx (fun i hi h => by have : i = w0.heap.size := h; simp at hi; omega)
  have hTb3 : Tb w3 := (HT0.out.below (hk3.below (B := w.heap.size) (by rintro i (h | h) <;> omega) (by omega)) hgT)
  have hbl := bl_le N h0
  have hex : -1074 ≤ ex N ∧ ex N ≤ 971 := by unfold ex; split <;> omega
  have hba3 := below_alloc (Below.refl w3.heap.size w3) (.cells #[.int .u64 0, .int .i64 0, .int .i64 0, .bool false, .slice none 0 0, .int .i64 0] 28)
  have hrl := real_own (w0 := w0.alloc (.cells #[.int .i64 0] 3)) (w := w3.alloc (.cells #[.int .u64 0, .int .i64 0, .int .i64 0, .bool false, .slice none 0 0, .int .i64 0] 28)) (g := g) (p := 53) (m := 0) (neg := sg N) (v := mg N) (x := ex N) (b := bl N) 0 n (hown3.below hba3) (hTb3.below hba3 hTb3.2) ht (mg_bits N h0) (by have := mg_pos N h0; omega) (by omega) (by omega) (by omega)
  obtain ⟨V, E, hcs⟩ : ∃ V E, hp w3 g = some (.cells #[.int .u32 53, .int .u8 0, .int .i8 0, .int .u8 1, .bool (sg N), V, .int .i32 E] 91 (0, 0)) := by
    obtain ⟨mb, L, R, c, _, _, _, h4, _⟩ := hown3
    exact ⟨_, _, h4.flt⟩
  have HBO := Aside0.mk (both_c g 53 0 0 1 (sg N) V E 53 0 1 ((mg N : Int) / 2 ^ n) (ex N + n) (sg N) w3 hcs hrl (by omega))
  clear hk3 hk4 hw3 hkx hown hown3 hz hTb3 hba3 hrl hcs HEN KB KR KZ HB0 HW0 HT0 ht h0 h2
  go_wp2_with (fail)
  refine (HBO.out).mono ?_
  rintro e w5 ⟨A', mm', cc', rfl, hv, hb5⟩
  have KR5 := Aside0.mk (hp_below KR3.out hb5)
  have HB5 := Aside0.mk (below_step HB3.out hb5)
  have hs5 : w.heap.size + 1 < w5.heap.size := hp_lt KR5.out
  have HV := Aside0.mk hv
  have hs35 : w3.heap.size ≤ w5.heap.size := hb5.size
  clear hv
  obtain ⟨a0, a1, a2, a3, a4, a5, f0, f1, f2, f3, f4, f5⟩ := blk6 KR5.out
  clear hb5 KR3 HB3 KZ3 z0 HBO
  go_wp2_with (fail)
  obtain ⟨w6, hw6⟩ : ∃ w6, w6 = ((((((w5.setCell ⟨w.heap.size + 1, 0, none⟩ (.int .u64 53)).setCell ⟨w.heap.size + 1, 1, none⟩ (.int .i64 0)).setCell ⟨w.heap.size + 1, 2, none⟩ (.int .i64 1)).setCell ⟨w.heap.size + 1, 3, none⟩ (.bool (sg N))).setCell ⟨w.heap.size + 1, 4, none⟩ (.slice A' mm' cc')).setCell ⟨w.heap.size + 1, 5, none⟩ (.int .i64 (ex N + n))) := ⟨_, rfl⟩
  have hk6 : hp w6 (w.heap.size + 1) = some (.cells #[.int .u64 53, .int .i64 0, .int .i64 1, .bool (sg N), .slice A' mm' cc', .int .i64 (ex N + n)] 28 (0, 0)) := by
    rw [hw6, hp_here _ _ _ _ _ rfl, hp_here _ _ _ _ _ rfl, hp_here _ _ _ _ _ rfl, hp_here _ _ _ _ _ rfl, hp_here _ _ _ _ _ rfl, hp_here _ _ _ _ _ rfl, KR5.out]
    rfl
  have hb6 : Below w.heap.size w w6 := by rw [hw6]; exact (((((HB5.out.setCell (by simp) _).setCell (by simp) _).setCell (by simp) _).setCell (by simp) _).setCell (by simp) _).setCell (by simp) _
  have HV6 : Aside0 (Wf w6 w.heap.size (.slice A' mm' cc') ((mg N : Int) / 2 ^ n)) := ⟨by
    rw [hw6]
    have hw := HV.out
    refine Wf.mono (B := w3.heap.size) ?_ (by omega)
    exact (((((hw.far (by simpa using hs3) _).far (by simpa using hs3) _).far (by simpa using hs3) _).far (by simpa using hs3) _).far (by simpa using hs3) _).far (by simpa using hs3) _⟩
  rw [← hw6]
  clear hw6 a0 a1 a2 a3 a4 a5 f0 f1 f2 f3 f4 f5
  have hba := below_alloc (Below.refl w6.heap.size w6) (.cells #[.int .u64 53, .int .i64 0, .int .i64 1, .bool (sg N), .slice A' mm' cc', .int .i64 (ex N + n)] 28)
  obtain ⟨w7, hw7⟩ : ∃ w7, w7 = w6.alloc (.cells #[.int .u64 53, .int .i64 0, .int .i64 1, .bool (sg N), .slice A' mm' cc', .int .i64 (ex N + n)] 28) := ⟨_, rfl⟩
  rw [← hw7] at hba ⊢
  clear hw7
  obtain ⟨r0, r1, r2, r3, r4, r5, _, _, _, _, _, _⟩ := blk6 (hp_below hk6 hba)
  refine bodyPost_ret (v := .tuple #[.agg #[.int .u64 53, .int .i64 0, .int .i64 1, .bool (sg N), .slice A' mm' cc', .int .i64 (ex N + n)], .int .i64 0, .int .i64 0]) (by simp [results, Tryd.results14, go_sem, r0, r1, r2, r3, r4, r5]) rfl ?_
  exact ⟨A', mm', cc', rfl, HV6.out.below hba, hb6.trans (hba.mono hb6.size)⟩
end Go.Proofs.YtglikgjaobedbaaDoor.Sp
