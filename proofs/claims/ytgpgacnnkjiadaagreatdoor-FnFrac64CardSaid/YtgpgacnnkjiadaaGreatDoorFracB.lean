/-
  CONTRACTS of the thin package's Frac64 and NewFrac.
-/
import Derived.Test.YtgpgacnnkjiadaaGreatDoorFracA
import Derived.Test.YtgpgacnnkjiadaaGreatDoorMEnd
namespace Go.Proofs.YtgpgacnnkjiadaaGreatDoor.Sp
open Go.RowKit Go.Proofs.YtgpgacnnkjiadaaGreatDoorW.PrintWords Go.Proofs.YtgpgacnnkjiadaaGreatDoorW.PrintLast Go.Proofs.YtgpgacnnkjiadaaGreatDoorW.PrintMore Go.Proofs.YtgpgacnnkjiadaaGreatDoor.Dig
set_option linter.unusedVariables false
set_option linter.unusedSimpArgs false
/-- What is told of a fraction in memory: in lowest terms, its sign. -/
def FrB (w : World) (g : Nat) (a b : Int) : Prop := ∃ ng, RatB w g ng ((a.natAbs : Int) / Int.gcd a.natAbs b.natAbs) ((b.natAbs : Int) / Int.gcd a.natAbs b.natAbs) ∧ (ng && decide (a ≠ 0)) = ((decide (a < 0) != decide (b < 0)) && decide (a ≠ 0))
theorem FrB.below {w w' : World} {g : Nat} {a b : Int} (h : FrB w g a b) (hb : Below w.heap.size w w') : FrB w' g a b := by
  obtain ⟨ng, h1, h2⟩ := h
  exact ⟨ng, h1.below hb, h2⟩
/-- A store to a cell that holds no word changes no row of words. -/
theorem C_setI {w : World} {k : IntKind} {A : Option Addr} {l : List Int} (h : Kd.C (Kd.int k) w A l.length l) {p : Addr} {u : Value} (hu : w.cell? p = some u) (hn : ∀ x, u ≠ .int k x) (u' : Value) : Kd.C (Kd.int k) (w.setCell p u') A l.length l := by
  obtain ⟨h1, h2, h3⟩ := h
  refine ⟨h1, h2, fun h0 => ?_⟩
  obtain ⟨ad, e, hc⟩ := h3 h0
  refine ⟨ad, e, fun j q hj => ?_⟩
  obtain ⟨cs, g1, g2, g3⟩ := hc j q hj
  refine ⟨cs, g1, g2, fun i v hv => ?_⟩
  have g4 := g3 i v hv
  rw [World.cell?_setCell_other _ _ _ _ ?_]
  · exact g4
  · intro e2
    have g5 : cs = [.int k q] := g2
    rw [g5] at hv
    have hv2 : v = .int k q := by
      cases i with
      | zero => simpa using hv.symm
      | succ i => simp at hv
    rw [← e2, hu, hv2] at g4
    exact hn _ (Option.some.inj g4)
theorem Wd.setI {w : World} {v : Value} {n : Int} (h : Wd w v n) {p : Addr} {u : Value} (hu : w.cell? p = some u) (hn : ∀ x, u ≠ .int .u64 x) (u' : Value) : Wd (w.setCell p u') v n := by
  obtain ⟨A, c, l, h1, h2, h3, h4⟩ := h
  exact ⟨A, c, l, h1, h2, C_setI h3 hu hn u', h4⟩
theorem FrB.setI {w : World} {g : Nat} {a b : Int} (h : FrB w g a b) {p : Addr} {u : Value} (hp : p.block ≠ g) (hu : w.cell? p = some u) (hn : ∀ x, u ≠ .int .u64 x) (u' : Value) : FrB (w.setCell p u') g a b := by
  obtain ⟨ng, ⟨va, vb, nb, h1, h2, h3⟩, h4⟩ := h
  exact ⟨ng, ⟨va, vb, nb, by rw [hp_other _ _ _ _ hp]; exact h1, h2.setI hu hn u', h3.setI hu hn u'⟩, h4⟩
set_option maxHeartbeats 800000 in
set_option maxRecDepth 100000 in
theorem setFrac64_panics (g : Nat) (a : Int) (w : World) :
    Calls Tryz.prog 10 #[.pointer (some ⟨g, 0, none⟩), .int .i64 a, .int .i64 0] w fun e w' => (∃ s, e = .panicked (strChain s false)) ∧ w = w' := by
  go_enter Tryz.func10, Tryz.ntmps10
  go_wp2_with (fail)
  exact ⟨rfl, ⟨_, rfl⟩, rfl⟩
set_option maxHeartbeats 800000 in
set_option maxRecDepth 100000 in
theorem frac1_ret (bz ba bb g : Nat) (a b : Int) (w : World) (R : World → Prop) (kz : hp w bz = some (.cells #[.pointer (some ⟨g, 0, none⟩)] 34 (0, 0))) (ka : hp w ba = some (.cells #[.int .i64 a] 2 (0, 0))) (kb : hp w bb = some (.cells #[.int .i64 b] 2 (0, 0))) (hs : Calls Tryz.prog 10 #[.pointer (some ⟨g, 0, none⟩), .int .i64 a, .int .i64 b] w fun e w' => e = .returned (.pointer (some ⟨g, 0, none⟩)) ∧ R w') :
    Calls Tryz.prog 9 #[.pointer (some ⟨bz, 0, none⟩), .pointer (some ⟨ba, 0, none⟩), .pointer (some ⟨bb, 0, none⟩)] w fun e w' => e = .returned (.tuple #[]) ∧ R w' := by
  have HC := Aside0.mk hs
  obtain ⟨z0, _⟩ := blk1 kz
  obtain ⟨a0, _⟩ := blk1 ka
  obtain ⟨b0, _⟩ := blk1 kb
  clear kz ka kb hs
  go_enter Tryz.func9, Tryz.ntmps9
  go_wp2_with (fail)
  refine (HC.out).mono ?_
  rintro e w1 ⟨rfl, hr⟩
  have HR := Aside0.mk hr
  clear hr
  go_wp2_with (fail)
  refine bodyPost_end (v := .tuple #[]) (by simp [results, Tryz.results9, go_sem]) rfl ?_
  exact ⟨rfl, HR.out⟩
set_option maxHeartbeats 800000 in
set_option maxRecDepth 100000 in
theorem frac1_str (bz ba bb g : Nat) (a b : Int) (w : World) (R : World → Prop) (kz : hp w bz = some (.cells #[.pointer (some ⟨g, 0, none⟩)] 34 (0, 0))) (ka : hp w ba = some (.cells #[.int .i64 a] 2 (0, 0))) (kb : hp w bb = some (.cells #[.int .i64 b] 2 (0, 0))) (hs : Calls Tryz.prog 10 #[.pointer (some ⟨g, 0, none⟩), .int .i64 a, .int .i64 b] w fun e w' => (∃ s, e = .panicked (strChain s false)) ∧ R w') :
    Calls Tryz.prog 9 #[.pointer (some ⟨bz, 0, none⟩), .pointer (some ⟨ba, 0, none⟩), .pointer (some ⟨bb, 0, none⟩)] w fun e w' => (∃ s, e = .panicked (strChain s false)) ∧ R w' := by
  have HC := Aside0.mk hs
  obtain ⟨z0, _⟩ := blk1 kz
  obtain ⟨a0, _⟩ := blk1 ka
  obtain ⟨b0, _⟩ := blk1 kb
  clear kz ka kb hs
  go_enter Tryz.func9, Tryz.ntmps9
  go_wp2_with (fail)
  refine (HC.out).mono ?_
  rintro e w1 ⟨⟨s, rfl⟩, hr⟩
  exact ⟨rfl, ⟨s, rfl⟩, hr⟩
set_option maxHeartbeats 800000 in
set_option maxRecDepth 100000 in
theorem newFrac1_ret (bz ba bb : Nat) (a b : Int) (w : World) (ha : (Lit.int .i64 a).wf = true) (hb : (Lit.int .i64 b).wf = true) (hb0 : b ≠ 0) (kz : hp w bz = some (.cells #[.pointer none] 34 (0, 0))) (ka : hp w ba = some (.cells #[.int .i64 a] 2 (0, 0))) (kb : hp w bb = some (.cells #[.int .i64 b] 2 (0, 0))) :
    Calls Tryz.prog 12 #[.pointer (some ⟨ba, 0, none⟩), .pointer (some ⟨bb, 0, none⟩), .pointer (some ⟨bz, 0, none⟩)] w fun e w' => e = .returned (.tuple #[]) ∧ (hp w' bz = some (.cells #[.pointer (some ⟨w.heap.size, 0, none⟩)] 34 (0, 0)) ∧ FrB w' w.heap.size a b) ∧ Kept (On bz) w w' := by
  have lz := hp_lt kz
  have hbe := below_alloc (Below.refl w.heap.size w) (.cells #[.bool false, .slice none 0 0, .bool false, .slice none 0 0] 40)
  have HC := Aside0.mk (setFrac64_c w.heap.size a b (w.alloc (.cells #[.bool false, .slice none 0 0, .bool false, .slice none 0 0] 40)) ha hb hb0 (hp_new _ _ _ rfl))
  have HZ := Aside0.mk (hp_below kz hbe)
  obtain ⟨z0, fz⟩ := blk1 kz
  obtain ⟨a0, _⟩ := blk1 ka
  obtain ⟨b0, _⟩ := blk1 kb
  clear kz ka kb ha hb hbe
  go_enter Tryz.func12, Tryz.ntmps12
  go_wp2_with ((fail_if_success go_at_call 10); go_in)
  refine (HC.out).mono ?_
  rintro e w1 ⟨rfl, hr, hk⟩
  have hz1 := hp_kept HZ.out hk (show ¬ On w.heap.size bz from fun h => by have : bz = w.heap.size := h; omega)
  have HR := Aside0.mk hr
  have HZ1 := Aside0.mk hz1
  have HK := Aside0.mk (((Kept.refl (On bz) w).alloc (.cells #[.bool false, .slice none 0 0, .bool false, .slice none 0 0] 40)).trans hk (fun i hi h => by have : i = w.heap.size := h; omega))
  obtain ⟨z1, fz1⟩ := blk1 hz1
  clear hr hk hz1 z0 fz
  go_wp2_with (fail)
  refine bodyPost_end (v := .tuple #[]) (by simp [results, Tryz.results12, go_sem]) rfl ?_
  refine ⟨rfl, ⟨?_, ?_⟩, HK.out.setCell (p := ⟨bz, 0, none⟩) (.inl rfl) _⟩
  · rw [hp_here _ _ _ _ _ rfl, HZ1.out]
    rfl
  · exact FrB.setI (show FrB w1 w.heap.size a b from HR.out) (by simp; omega) z1 (by simp) _
set_option maxHeartbeats 800000 in
set_option maxRecDepth 100000 in
theorem newFrac1_str (bz ba bb : Nat) (a : Int) (w : World) (kz : hp w bz = some (.cells #[.pointer none] 34 (0, 0))) (ka : hp w ba = some (.cells #[.int .i64 a] 2 (0, 0))) (kb : hp w bb = some (.cells #[.int .i64 0] 2 (0, 0))) :
    Calls Tryz.prog 12 #[.pointer (some ⟨ba, 0, none⟩), .pointer (some ⟨bb, 0, none⟩), .pointer (some ⟨bz, 0, none⟩)] w fun e w' => (∃ s, e = .panicked (strChain s false)) ∧ True ∧ Kept (On bz) w w' := by
  have HC := Aside0.mk (setFrac64_panics w.heap.size a (w.alloc (.cells #[.bool false, .slice none 0 0, .bool false, .slice none 0 0] 40)))
  obtain ⟨z0, fz⟩ := blk1 kz
  obtain ⟨a0, _⟩ := blk1 ka
  obtain ⟨b0, _⟩ := blk1 kb
  clear kz ka kb
  go_enter Tryz.func12, Tryz.ntmps12
  go_wp2_with ((fail_if_success go_at_call 10); go_in)
  refine (HC.out).mono ?_
  rintro e w1 ⟨⟨s, rfl⟩, rfl⟩
  exact ⟨rfl, rfl, ⟨s, rfl⟩, trivial, (Kept.refl (On bz) w).alloc _⟩
set_option maxHeartbeats 3200000 in
set_option maxRecDepth 100000 in
theorem frac64_c (a b : Int) (w : World) (ha : (Lit.int .i64 a).wf = true) (hb : (Lit.int .i64 b).wf = true) (hbz : b ≠ 0) :
    Calls Tryz.prog 4 #[.int .i64 a, .int .i64 b] w fun e w' => ∃ A m c A2 m2 c2, e = .returned (.tuple #[.agg #[.bool ((decide (a < 0) != decide (b < 0)) && decide (a ≠ 0)), .slice A m c, .slice A2 m2 c2], .int .i64 0]) ∧ Wd w' (.slice A m c) ((a.natAbs : Int) / Int.gcd a.natAbs b.natAbs) ∧ Wd w' (.slice A2 m2 c2) ((b.natAbs : Int) / Int.gcd a.natAbs b.natAbs) ∧ Below w.heap.size w w' := by
  have hra := wf_i64 ha
  have hrb := wf_i64 hb
  have hu := Tryz.underlying26
  have hmf : ∀ (fn : Fn) (first cap : Array Value) (w : World), (Instr.makeFunc fn first cap).run Tryz.prog w = .ok (.func fn first cap) w := fun _ _ _ _ => rfl
  obtain ⟨w0, hw0⟩ : ∃ w0, w0 = ((((w.alloc (.cells #[.int .i64 a] 2)).alloc (.cells #[.int .i64 b] 2)).alloc (.cells #[.bool false, .slice none 0 0, .slice none 0 0] 26)).alloc (.cells #[.bool false, .slice none 0 0, .bool false, .slice none 0 0] 40)).alloc (.cells #[.pointer (some ⟨w.heap.size + 1 + 1 + 1, 0, none⟩)] 34) := ⟨_, rfl⟩
  have hs0 : w.heap.size + 1 + 1 + 1 + 1 < w0.heap.size := by rw [hw0]; simp
  have hb0 : Below w.heap.size w w0 := by rw [hw0]; exact below_alloc (below_alloc (below_alloc (below_alloc (below_alloc (Below.refl _ _) _) _) _) _) _
  have KA := Aside0.mk (show hp w0 w.heap.size = some (.cells #[.int .i64 a] 2 (0, 0)) from by rw [hw0]; exact (by simp (disch := first | omega | (simp; omega) | (simp; done) | fail) [hp_new, hp_old, hp_here, hp_other, setObj_cells, hp_drew, hp_drewN]))
  have KB := Aside0.mk (show hp w0 (w.heap.size + 1) = some (.cells #[.int .i64 b] 2 (0, 0)) from by rw [hw0]; exact (by simp (disch := first | omega | (simp; omega) | (simp; done) | fail) [hp_new, hp_old, hp_here, hp_other, setObj_cells, hp_drew, hp_drewN]))
  have KR := Aside0.mk (show hp w0 (w.heap.size + 1 + 1) = some (.cells #[.bool false, .slice none 0 0, .slice none 0 0] 26 (0, 0)) from by rw [hw0]; exact (by simp (disch := first | omega | (simp; omega) | (simp; done) | fail) [hp_new, hp_old, hp_here, hp_other, setObj_cells, hp_drew, hp_drewN]))
  have KZ := Aside0.mk (show hp w0 (w.heap.size + 1 + 1 + 1 + 1) = some (.cells #[.pointer (some ⟨w.heap.size + 1 + 1 + 1, 0, none⟩)] 34 (0, 0)) from by rw [hw0]; exact (by simp (disch := first | omega | (simp; omega) | (simp; done) | fail) [hp_new, hp_old, hp_here, hp_other, setObj_cells, hp_drew, hp_drewN]))
  have KG := Aside0.mk (show hp w0 (w.heap.size + 1 + 1 + 1) = some (.cells #[.bool false, .slice none 0 0, .bool false, .slice none 0 0] 40 (0, 0)) from by rw [hw0]; exact (by simp (disch := first | omega | (simp; omega) | (simp; done) | fail) [hp_new, hp_old, hp_here, hp_other, setObj_cells, hp_drew, hp_drewN]))
  have HB0 := Aside0.mk hb0
  have hba := below_alloc (Below.refl w0.heap.size w0) (.cells #[.int .i64 0] 3)
  have HEN := Aside0.mk (ended_Frac64 #[.pointer (some ⟨w.heap.size + 1 + 1 + 1 + 1, 0, none⟩), .pointer (some ⟨w.heap.size, 0, none⟩), .pointer (some ⟨w.heap.size + 1, 0, none⟩)] w0 (On (w.heap.size + 1 + 1 + 1)) (fun W => FrB W (w.heap.size + 1 + 1 + 1) a b) (fun h => by have : w0.heap.size = w.heap.size + 1 + 1 + 1 := h; omega) ((frac1_ret (w.heap.size + 1 + 1 + 1 + 1) w.heap.size (w.heap.size + 1) (w.heap.size + 1 + 1 + 1) a b (w0.alloc (.cells #[.int .i64 0] 3)) (fun W => FrB W (w.heap.size + 1 + 1 + 1) a b ∧ Kept (On (w.heap.size + 1 + 1 + 1)) (w0.alloc (.cells #[.int .i64 0] 3)) W) (hp_below KZ.out hba) (hp_below KA.out hba) (hp_below KB.out hba) ((setFrac64_c (w.heap.size + 1 + 1 + 1) a b (w0.alloc (.cells #[.int .i64 0] 3)) ha hb hbz (hp_below KG.out hba)).mono fun e w' h => ⟨h.1, h.2.1, h.2.2⟩)).mono fun e w' h => ⟨h.1, h.2.1, h.2.2⟩))
  have HW0 := Aside0.mk hw0
  clear hw0 hb0 ha hb hba
  go_enter Tryz.func4, Tryz.ntmps4
  go_wp2_with (fail)
  rw [← HW0.out]
  refine (HEN.out).mono ?_
  rintro e w2 ⟨rfl, w1, hr, hk, hw2⟩
  have k1 : hp w1 w0.heap.size = some (.cells #[.int .i64 0] 3 (0, 0)) := hp_kept (hp_new _ _ _ rfl) hk (fun h => by have : w0.heap.size = w.heap.size + 1 + 1 + 1 := h; omega)
  obtain ⟨i1, _⟩ := blk1 k1
  have l1 := hp_lt k1
  have hk2 : Kept (On w0.heap.size) w1 w2 := by rw [hw2]; exact (Kept.refl (On w0.heap.size) w1).setCell (p := ⟨w0.heap.size, 0, none⟩) (.inl rfl) _
  have hk02 : Kept (fun i => i = w.heap.size + 1 + 1 + 1 ∨ i = w0.heap.size) w0 w2 := ((Kept.of_below (below_alloc (Below.refl w0.heap.size w0) _)).trans hk (fun i _ h => .inl h)).trans hk2 (fun i _ h => .inr h)
  have HF2 := Aside0.mk (show FrB w2 (w.heap.size + 1 + 1 + 1) a b from by rw [hw2]; exact FrB.setI hr (by simp; omega) i1 (by simp) _)
  have KZ2 := Aside0.mk (hp_kept KZ.out hk02 (fun h => by rcases h with h | h <;> omega))
  have KR2 := Aside0.mk (hp_kept KR.out hk02 (fun h => by rcases h with h | h <;> omega))
  have HB2 := Aside0.mk (HB0.out.trans (hk02.below (B := w.heap.size) (by rintro i (h | h) <;> omega) (by omega)))
  obtain ⟨z2, _⟩ := blk1 KZ2.out
  have lr2 := hp_lt KR2.out
  clear hr hk hw2 k1 i1 hk2 hk02 KA KB KR KZ KG HB0 HEN HW0
  go_wp2_with ((fail_if_success go_at_call 11); go_in)
  obtain ⟨ng, hrb, hsg⟩ := HF2.out
  have HSG := Aside0.mk hsg
  have hgp : 0 < (Int.gcd a.natAbs b.natAbs : Int) := by have := Int.gcd_pos_of_ne_zero_right (a.natAbs : Int) (show (b.natAbs : Int) ≠ 0 by omega); omega
  have HD := Aside0.mk (show 0 < (b.natAbs : Int) / Int.gcd a.natAbs b.natAbs from Int.ediv_pos_of_pos_of_dvd (by omega) (by omega) (Int.gcd_dvd_right _ _))
  have HN := Aside0.mk (show (decide (0 < (a.natAbs : Int) / Int.gcd a.natAbs b.natAbs)) = decide (a ≠ 0) from by
    by_cases h : a = 0
    · subst h; simp
    · have : 0 < (a.natAbs : Int) / Int.gcd a.natAbs b.natAbs := Int.ediv_pos_of_pos_of_dvd (by omega) (by omega) (Int.gcd_dvd_left _ _)
      rw [decide_eq_true this, decide_eq_true h])
  refine (fraction_c (w.heap.size + 1 + 1 + 1) ng _ _ _ hrb (by have := Int.ediv_le_self (Int.gcd a.natAbs b.natAbs : Int) (show 0 ≤ (a.natAbs : Int) by omega); have := word_Lim (x := (a.natAbs : Int)) (by omega); omega) (by have := Int.ediv_le_self (Int.gcd a.natAbs b.natAbs : Int) (show 0 ≤ (b.natAbs : Int) by omega); have := word_Lim (x := (b.natAbs : Int)) (by omega); omega) HD.out).mono ?_
  rintro e w3 ⟨A1, m1, cc1, A2, m2, cc2, rfl, hv1, hv2, hb3⟩
  have k3 := hp_below KR2.out hb3
  have HB3 := Aside0.mk (below_step HB2.out hb3)
  obtain ⟨d0, d1, d2, f0, f1, f2⟩ := blk3 k3
  obtain ⟨s, hs⟩ : ∃ s, s = (ng && decide (0 < (a.natAbs : Int) / Int.gcd a.natAbs b.natAbs)) := ⟨_, rfl⟩
  have HS : Aside0 (s = ((decide (a < 0) != decide (b < 0)) && decide (a ≠ 0))) := ⟨by rw [hs, HN.out, HSG.out]⟩
  rw [← hs]
  have hset : ∀ {u : Value} {z : Int}, Wd w3 u z → Wd (((w3.setCell ⟨w.heap.size + 1 + 1, 0, none⟩ (.bool s)).setCell ⟨w.heap.size + 1 + 1, 1, none⟩ (.slice A1 m1 cc1)).setCell ⟨w.heap.size + 1 + 1, 2, none⟩ (.slice A2 m2 cc2)) u z := by
    intro u z hz
    refine Wd.set (Wd.set (Wd.set hz d0 (by simp) _) (u := .slice none 0 0) ?_ (by simp) _) (u := .slice none 0 0) ?_ (by simp) _
    · rw [World.cell?_setCell_other _ _ _ _ (by simp)]; exact d1
    · rw [World.cell?_setCell_other _ _ _ _ (by simp), World.cell?_setCell_other _ _ _ _ (by simp)]; exact d2
  have HV1 := Aside0.mk (hset hv1)
  have HV2 := Aside0.mk (hset hv2)
  have HB4 := Aside0.mk (((HB3.out.setCell (p := ⟨w.heap.size + 1 + 1, 0, none⟩) (by first | (simp; done) | (simp; omega)) (.bool s)).setCell (p := ⟨w.heap.size + 1 + 1, 1, none⟩) (by first | (simp; done) | (simp; omega)) (.slice A1 m1 cc1)).setCell (p := ⟨w.heap.size + 1 + 1, 2, none⟩) (by first | (simp; done) | (simp; omega)) (.slice A2 m2 cc2))
  clear hset hv1 hv2 hb3 hrb hsg k3 hs
  go_wp2_with (fail)
  refine bodyPost_ret (v := .tuple #[.agg #[.bool s, .slice A1 m1 cc1, .slice A2 m2 cc2], .int .i64 0]) (by simp [results, Tryz.results4, go_sem, d0, d1, d2, f0, f1, f2]) rfl ?_
  exact ⟨_, _, _, _, _, _, by rw [HS.out], HV1.out, HV2.out, HB4.out⟩
set_option maxHeartbeats 3200000 in
set_option maxRecDepth 100000 in
theorem frac64_z (a : Int) (w : World) :
    Calls Tryz.prog 4 #[.int .i64 a, .int .i64 0] w fun e w' => e = .returned (.tuple #[.agg #[.bool false, .slice none 0 0, .slice none 0 0], .int .i64 2]) ∧ Below w.heap.size w w' := by
  have hu := Tryz.underlying26
  have hmf : ∀ (fn : Fn) (first cap : Array Value) (w : World), (Instr.makeFunc fn first cap).run Tryz.prog w = .ok (.func fn first cap) w := fun _ _ _ _ => rfl
  obtain ⟨w0, hw0⟩ : ∃ w0, w0 = ((((w.alloc (.cells #[.int .i64 a] 2)).alloc (.cells #[.int .i64 0] 2)).alloc (.cells #[.bool false, .slice none 0 0, .slice none 0 0] 26)).alloc (.cells #[.bool false, .slice none 0 0, .bool false, .slice none 0 0] 40)).alloc (.cells #[.pointer (some ⟨w.heap.size + 1 + 1 + 1, 0, none⟩)] 34) := ⟨_, rfl⟩
  have hs0 : w.heap.size + 1 + 1 + 1 + 1 < w0.heap.size := by rw [hw0]; simp
  have hb0 : Below w.heap.size w w0 := by rw [hw0]; exact below_alloc (below_alloc (below_alloc (below_alloc (below_alloc (Below.refl _ _) _) _) _) _) _
  have KA := Aside0.mk (show hp w0 w.heap.size = some (.cells #[.int .i64 a] 2 (0, 0)) from by rw [hw0]; exact (by simp (disch := first | omega | (simp; omega) | (simp; done) | fail) [hp_new, hp_old, hp_here, hp_other, setObj_cells, hp_drew, hp_drewN]))
  have KB := Aside0.mk (show hp w0 (w.heap.size + 1) = some (.cells #[.int .i64 0] 2 (0, 0)) from by rw [hw0]; exact (by simp (disch := first | omega | (simp; omega) | (simp; done) | fail) [hp_new, hp_old, hp_here, hp_other, setObj_cells, hp_drew, hp_drewN]))
  have KR := Aside0.mk (show hp w0 (w.heap.size + 1 + 1) = some (.cells #[.bool false, .slice none 0 0, .slice none 0 0] 26 (0, 0)) from by rw [hw0]; exact (by simp (disch := first | omega | (simp; omega) | (simp; done) | fail) [hp_new, hp_old, hp_here, hp_other, setObj_cells, hp_drew, hp_drewN]))
  have KZ := Aside0.mk (show hp w0 (w.heap.size + 1 + 1 + 1 + 1) = some (.cells #[.pointer (some ⟨w.heap.size + 1 + 1 + 1, 0, none⟩)] 34 (0, 0)) from by rw [hw0]; exact (by simp (disch := first | omega | (simp; omega) | (simp; done) | fail) [hp_new, hp_old, hp_here, hp_other, setObj_cells, hp_drew, hp_drewN]))
  have KG := Aside0.mk (show hp w0 (w.heap.size + 1 + 1 + 1) = some (.cells #[.bool false, .slice none 0 0, .bool false, .slice none 0 0] 40 (0, 0)) from by rw [hw0]; exact (by simp (disch := first | omega | (simp; omega) | (simp; done) | fail) [hp_new, hp_old, hp_here, hp_other, setObj_cells, hp_drew, hp_drewN]))
  have HB0 := Aside0.mk hb0
  have hba := below_alloc (Below.refl w0.heap.size w0) (.cells #[.int .i64 0] 3)
  have HEN := Aside0.mk (endedStr_Frac64 #[.pointer (some ⟨w.heap.size + 1 + 1 + 1 + 1, 0, none⟩), .pointer (some ⟨w.heap.size, 0, none⟩), .pointer (some ⟨w.heap.size + 1, 0, none⟩)] w0 (On (w.heap.size + 1 + 1 + 1)) (fun _ => True) (fun h => by have : w0.heap.size = w.heap.size + 1 + 1 + 1 := h; omega) ((frac1_str (w.heap.size + 1 + 1 + 1 + 1) w.heap.size (w.heap.size + 1) (w.heap.size + 1 + 1 + 1) a 0 (w0.alloc (.cells #[.int .i64 0] 3)) (fun W => Kept (On (w.heap.size + 1 + 1 + 1)) (w0.alloc (.cells #[.int .i64 0] 3)) W) (hp_below KZ.out hba) (hp_below KA.out hba) (hp_below KB.out hba) ((setFrac64_panics (w.heap.size + 1 + 1 + 1) a (w0.alloc (.cells #[.int .i64 0] 3))).mono fun e w' h => ⟨h.1, by rw [← h.2]; exact Kept.refl _ _⟩)).mono fun e w' h => ⟨h.1, trivial, h.2⟩))
  have HW0 := Aside0.mk hw0
  clear hw0 hb0 hba
  go_enter Tryz.func4, Tryz.ntmps4
  go_wp2_with (fail)
  rw [← HW0.out]
  refine (HEN.out).mono ?_
  rintro e w2 ⟨rfl, w1, _, hk, hk2⟩
  have hk02 : Kept (fun i => i = w.heap.size + 1 + 1 + 1 ∨ i = w0.heap.size) w0 w2 := ((Kept.of_below (below_alloc (Below.refl w0.heap.size w0) _)).trans hk (fun i _ h => .inl h)).trans hk2 (fun i _ h => .inr h)
  have KR2 := Aside0.mk (hp_kept KR.out hk02 (fun h => by rcases h with h | h <;> omega))
  have HB2 := Aside0.mk (HB0.out.trans (hk02.below (B := w.heap.size) (by rintro i (h | h) <;> omega) (by omega)))
  obtain ⟨d0, d1, d2, f0, f1, f2⟩ := blk3 KR2.out
  have lr2 := hp_lt KR2.out
  clear hk hk2 hk02 KA KB KR KZ KG HB0 HEN HW0
  have HB4 := Aside0.mk (((HB2.out.setCell (p := ⟨w.heap.size + 1 + 1, 0, none⟩) (by first | (simp; done) | (simp; omega)) (.bool false)).setCell (p := ⟨w.heap.size + 1 + 1, 1, none⟩) (by first | (simp; done) | (simp; omega)) (.slice none 0 0)).setCell (p := ⟨w.heap.size + 1 + 1, 2, none⟩) (by first | (simp; done) | (simp; omega)) (.slice none 0 0))
  go_wp2_with (fail)
  refine bodyPost_ret (v := .tuple #[.agg #[.bool false, .slice none 0 0, .slice none 0 0], .int .i64 2]) (by simp [results, Tryz.results4, go_sem, d0, d1, d2, f0, f1, f2]) rfl ?_
  exact ⟨rfl, HB4.out⟩
set_option maxHeartbeats 3200000 in
set_option maxRecDepth 100000 in
theorem newFrac_c (a b : Int) (w : World) (ha : (Lit.int .i64 a).wf = true) (hb : (Lit.int .i64 b).wf = true) (hbz : b ≠ 0) :
    Calls Tryz.prog 5 #[.int .i64 a, .int .i64 b] w fun e w' => ∃ A m c A2 m2 c2, e = .returned (.tuple #[.agg #[.bool ((decide (a < 0) != decide (b < 0)) && decide (a ≠ 0)), .slice A m c, .slice A2 m2 c2], .int .i64 0]) ∧ Wd w' (.slice A m c) ((a.natAbs : Int) / Int.gcd a.natAbs b.natAbs) ∧ Wd w' (.slice A2 m2 c2) ((b.natAbs : Int) / Int.gcd a.natAbs b.natAbs) ∧ Below w.heap.size w w' := by
  have hra := wf_i64 ha
  have hrb := wf_i64 hb
  have hu := Tryz.underlying26
  have hmf : ∀ (fn : Fn) (first cap : Array Value) (w : World), (Instr.makeFunc fn first cap).run Tryz.prog w = .ok (.func fn first cap) w := fun _ _ _ _ => rfl
  obtain ⟨w0, hw0⟩ : ∃ w0, w0 = (((w.alloc (.cells #[.int .i64 a] 2)).alloc (.cells #[.int .i64 b] 2)).alloc (.cells #[.bool false, .slice none 0 0, .slice none 0 0] 26)).alloc (.cells #[.pointer none] 34) := ⟨_, rfl⟩
  have hs0 : w.heap.size + 1 + 1 + 1 < w0.heap.size := by rw [hw0]; simp
  have hb0 : Below w.heap.size w w0 := by rw [hw0]; exact below_alloc (below_alloc (below_alloc (below_alloc (Below.refl _ _) _) _) _) _
  have KA := Aside0.mk (show hp w0 w.heap.size = some (.cells #[.int .i64 a] 2 (0, 0)) from by rw [hw0]; exact (by simp (disch := first | omega | (simp; omega) | (simp; done) | fail) [hp_new, hp_old, hp_here, hp_other, setObj_cells, hp_drew, hp_drewN]))
  have KB := Aside0.mk (show hp w0 (w.heap.size + 1) = some (.cells #[.int .i64 b] 2 (0, 0)) from by rw [hw0]; exact (by simp (disch := first | omega | (simp; omega) | (simp; done) | fail) [hp_new, hp_old, hp_here, hp_other, setObj_cells, hp_drew, hp_drewN]))
  have KR := Aside0.mk (show hp w0 (w.heap.size + 1 + 1) = some (.cells #[.bool false, .slice none 0 0, .slice none 0 0] 26 (0, 0)) from by rw [hw0]; exact (by simp (disch := first | omega | (simp; omega) | (simp; done) | fail) [hp_new, hp_old, hp_here, hp_other, setObj_cells, hp_drew, hp_drewN]))
  have KZ := Aside0.mk (show hp w0 (w.heap.size + 1 + 1 + 1) = some (.cells #[.pointer none] 34 (0, 0)) from by rw [hw0]; exact (by simp (disch := first | omega | (simp; omega) | (simp; done) | fail) [hp_new, hp_old, hp_here, hp_other, setObj_cells, hp_drew, hp_drewN]))
  have HB0 := Aside0.mk hb0
  have hba := below_alloc (Below.refl w0.heap.size w0) (.cells #[.int .i64 0] 3)
  have HEN := Aside0.mk (ended_NewFrac #[.pointer (some ⟨w.heap.size, 0, none⟩), .pointer (some ⟨w.heap.size + 1, 0, none⟩), .pointer (some ⟨w.heap.size + 1 + 1 + 1, 0, none⟩)] w0 (On (w.heap.size + 1 + 1 + 1)) (fun W => hp W (w.heap.size + 1 + 1 + 1) = some (.cells #[.pointer (some ⟨w0.heap.size + 1, 0, none⟩)] 34 (0, 0)) ∧ FrB W (w0.heap.size + 1) a b) (fun h => by have : w0.heap.size = w.heap.size + 1 + 1 + 1 := h; omega) (by have h := newFrac1_ret (w.heap.size + 1 + 1 + 1) w.heap.size (w.heap.size + 1) a b (w0.alloc (.cells #[.int .i64 0] 3)) ha hb hbz (hp_below KZ.out hba) (hp_below KA.out hba) (hp_below KB.out hba); rw [show (w0.alloc (.cells #[.int .i64 0] 3)).heap.size = w0.heap.size + 1 from by simp] at h; exact h))
  have HW0 := Aside0.mk hw0
  clear hw0 hb0 ha hb hba
  go_enter Tryz.func5, Tryz.ntmps5
  go_wp2_with (fail)
  rw [← HW0.out]
  refine (HEN.out).mono ?_
  rintro e w2 ⟨rfl, w1, hr, hk, hw2⟩
  have k1 : hp w1 w0.heap.size = some (.cells #[.int .i64 0] 3 (0, 0)) := hp_kept (hp_new _ _ _ rfl) hk (fun h => by have : w0.heap.size = w.heap.size + 1 + 1 + 1 := h; omega)
  obtain ⟨i1, _⟩ := blk1 k1
  have l1 := hp_lt k1
  have hk2 : Kept (On w0.heap.size) w1 w2 := by rw [hw2]; exact (Kept.refl (On w0.heap.size) w1).setCell (p := ⟨w0.heap.size, 0, none⟩) (.inl rfl) _
  have hk02 : Kept (fun i => i = w.heap.size + 1 + 1 + 1 ∨ i = w0.heap.size) w0 w2 := ((Kept.of_below (below_alloc (Below.refl w0.heap.size w0) _)).trans hk (fun i _ h => .inl h)).trans hk2 (fun i _ h => .inr h)
  have HF2 := Aside0.mk (show FrB w2 (w0.heap.size + 1) a b from by rw [hw2]; exact FrB.setI hr.2 (by simp) i1 (by simp) _)
  have KZ2 := Aside0.mk (hp_kept hr.1 hk2 (fun h => by have : w.heap.size + 1 + 1 + 1 = w0.heap.size := h; omega))
  have KR2 := Aside0.mk (hp_kept KR.out hk02 (fun h => by rcases h with h | h <;> omega))
  have HB2 := Aside0.mk (HB0.out.trans (hk02.below (B := w.heap.size) (by rintro i (h | h) <;> omega) (by omega)))
  obtain ⟨z2, _⟩ := blk1 KZ2.out
  have lr2 := hp_lt KR2.out
  clear hr hk hw2 k1 i1 hk2 hk02 KA KB KR KZ HB0 HEN HW0
  go_wp2_with ((fail_if_success go_at_call 11); go_in)
  obtain ⟨ng, hrb, hsg⟩ := HF2.out
  have HSG := Aside0.mk hsg
  have hgp : 0 < (Int.gcd a.natAbs b.natAbs : Int) := by have := Int.gcd_pos_of_ne_zero_right (a.natAbs : Int) (show (b.natAbs : Int) ≠ 0 by omega); omega
  have HD := Aside0.mk (show 0 < (b.natAbs : Int) / Int.gcd a.natAbs b.natAbs from Int.ediv_pos_of_pos_of_dvd (by omega) (by omega) (Int.gcd_dvd_right _ _))
  have HN := Aside0.mk (show (decide (0 < (a.natAbs : Int) / Int.gcd a.natAbs b.natAbs)) = decide (a ≠ 0) from by
    by_cases h : a = 0
    · subst h; simp
    · have : 0 < (a.natAbs : Int) / Int.gcd a.natAbs b.natAbs := Int.ediv_pos_of_pos_of_dvd (by omega) (by omega) (Int.gcd_dvd_left _ _)
      rw [decide_eq_true this, decide_eq_true h])
  refine (fraction_c (w0.heap.size + 1) ng _ _ _ hrb (by have := Int.ediv_le_self (Int.gcd a.natAbs b.natAbs : Int) (show 0 ≤ (a.natAbs : Int) by omega); have := word_Lim (x := (a.natAbs : Int)) (by omega); omega) (by have := Int.ediv_le_self (Int.gcd a.natAbs b.natAbs : Int) (show 0 ≤ (b.natAbs : Int) by omega); have := word_Lim (x := (b.natAbs : Int)) (by omega); omega) HD.out).mono ?_
  rintro e w3 ⟨A1, m1, cc1, A2, m2, cc2, rfl, hv1, hv2, hb3⟩
  have k3 := hp_below KR2.out hb3
  have HB3 := Aside0.mk (below_step HB2.out hb3)
  obtain ⟨d0, d1, d2, f0, f1, f2⟩ := blk3 k3
  obtain ⟨s, hs⟩ : ∃ s, s = (ng && decide (0 < (a.natAbs : Int) / Int.gcd a.natAbs b.natAbs)) := ⟨_, rfl⟩
  have HS : Aside0 (s = ((decide (a < 0) != decide (b < 0)) && decide (a ≠ 0))) := ⟨by rw [hs, HN.out, HSG.out]⟩
  rw [← hs]
  have hset : ∀ {u : Value} {z : Int}, Wd w3 u z → Wd (((w3.setCell ⟨w.heap.size + 1 + 1, 0, none⟩ (.bool s)).setCell ⟨w.heap.size + 1 + 1, 1, none⟩ (.slice A1 m1 cc1)).setCell ⟨w.heap.size + 1 + 1, 2, none⟩ (.slice A2 m2 cc2)) u z := by
    intro u z hz
    refine Wd.set (Wd.set (Wd.set hz d0 (by simp) _) (u := .slice none 0 0) ?_ (by simp) _) (u := .slice none 0 0) ?_ (by simp) _
    · rw [World.cell?_setCell_other _ _ _ _ (by simp)]; exact d1
    · rw [World.cell?_setCell_other _ _ _ _ (by simp), World.cell?_setCell_other _ _ _ _ (by simp)]; exact d2
  have HV1 := Aside0.mk (hset hv1)
  have HV2 := Aside0.mk (hset hv2)
  have HB4 := Aside0.mk (((HB3.out.setCell (p := ⟨w.heap.size + 1 + 1, 0, none⟩) (by first | (simp; done) | (simp; omega)) (.bool s)).setCell (p := ⟨w.heap.size + 1 + 1, 1, none⟩) (by first | (simp; done) | (simp; omega)) (.slice A1 m1 cc1)).setCell (p := ⟨w.heap.size + 1 + 1, 2, none⟩) (by first | (simp; done) | (simp; omega)) (.slice A2 m2 cc2))
  clear hset hv1 hv2 hb3 hrb hsg k3 hs
  go_wp2_with (fail)
  refine bodyPost_ret (v := .tuple #[.agg #[.bool s, .slice A1 m1 cc1, .slice A2 m2 cc2], .int .i64 0]) (by simp [results, Tryz.results5, go_sem, d0, d1, d2, f0, f1, f2]) rfl ?_
  exact ⟨_, _, _, _, _, _, by rw [HS.out], HV1.out, HV2.out, HB4.out⟩
set_option maxHeartbeats 3200000 in
set_option maxRecDepth 100000 in
theorem newFrac_z (a : Int) (w : World) :
    Calls Tryz.prog 5 #[.int .i64 a, .int .i64 0] w fun e w' => e = .returned (.tuple #[.agg #[.bool false, .slice none 0 0, .slice none 0 0], .int .i64 2]) ∧ Below w.heap.size w w' := by
  have hu := Tryz.underlying26
  have hmf : ∀ (fn : Fn) (first cap : Array Value) (w : World), (Instr.makeFunc fn first cap).run Tryz.prog w = .ok (.func fn first cap) w := fun _ _ _ _ => rfl
  obtain ⟨w0, hw0⟩ : ∃ w0, w0 = (((w.alloc (.cells #[.int .i64 a] 2)).alloc (.cells #[.int .i64 0] 2)).alloc (.cells #[.bool false, .slice none 0 0, .slice none 0 0] 26)).alloc (.cells #[.pointer none] 34) := ⟨_, rfl⟩
  have hs0 : w.heap.size + 1 + 1 + 1 < w0.heap.size := by rw [hw0]; simp
  have hb0 : Below w.heap.size w w0 := by rw [hw0]; exact below_alloc (below_alloc (below_alloc (below_alloc (Below.refl _ _) _) _) _) _
  have KA := Aside0.mk (show hp w0 w.heap.size = some (.cells #[.int .i64 a] 2 (0, 0)) from by rw [hw0]; exact (by simp (disch := first | omega | (simp; omega) | (simp; done) | fail) [hp_new, hp_old, hp_here, hp_other, setObj_cells, hp_drew, hp_drewN]))
  have KB := Aside0.mk (show hp w0 (w.heap.size + 1) = some (.cells #[.int .i64 0] 2 (0, 0)) from by rw [hw0]; exact (by simp (disch := first | omega | (simp; omega) | (simp; done) | fail) [hp_new, hp_old, hp_here, hp_other, setObj_cells, hp_drew, hp_drewN]))
  have KR := Aside0.mk (show hp w0 (w.heap.size + 1 + 1) = some (.cells #[.bool false, .slice none 0 0, .slice none 0 0] 26 (0, 0)) from by rw [hw0]; exact (by simp (disch := first | omega | (simp; omega) | (simp; done) | fail) [hp_new, hp_old, hp_here, hp_other, setObj_cells, hp_drew, hp_drewN]))
  have KZ := Aside0.mk (show hp w0 (w.heap.size + 1 + 1 + 1) = some (.cells #[.pointer none] 34 (0, 0)) from by rw [hw0]; exact (by simp (disch := first | omega | (simp; omega) | (simp; done) | fail) [hp_new, hp_old, hp_here, hp_other, setObj_cells, hp_drew, hp_drewN]))
  have HB0 := Aside0.mk hb0
  have hba := below_alloc (Below.refl w0.heap.size w0) (.cells #[.int .i64 0] 3)
  have HEN := Aside0.mk (endedStr_NewFrac #[.pointer (some ⟨w.heap.size, 0, none⟩), .pointer (some ⟨w.heap.size + 1, 0, none⟩), .pointer (some ⟨w.heap.size + 1 + 1 + 1, 0, none⟩)] w0 (On (w.heap.size + 1 + 1 + 1)) (fun _ => True) (fun h => by have : w0.heap.size = w.heap.size + 1 + 1 + 1 := h; omega) (newFrac1_str (w.heap.size + 1 + 1 + 1) w.heap.size (w.heap.size + 1) a (w0.alloc (.cells #[.int .i64 0] 3)) (hp_below KZ.out hba) (hp_below KA.out hba) (hp_below KB.out hba)))
  have HW0 := Aside0.mk hw0
  clear hw0 hb0 hba
  go_enter Tryz.func5, Tryz.ntmps5
  go_wp2_with (fail)
  rw [← HW0.out]
  refine (HEN.out).mono ?_
  rintro e w2 ⟨rfl, w1, _, hk, hk2⟩
  have hk02 : Kept (fun i => i = w.heap.size + 1 + 1 + 1 ∨ i = w0.heap.size) w0 w2 := ((Kept.of_below (below_alloc (Below.refl w0.heap.size w0) _)).trans hk (fun i _ h => .inl h)).trans hk2 (fun i _ h => .inr h)
  have KR2 := Aside0.mk (hp_kept KR.out hk02 (fun h => by rcases h with h | h <;> omega))
  have HB2 := Aside0.mk (HB0.out.trans (hk02.below (B := w.heap.size) (by rintro i (h | h) <;> omega) (by omega)))
  obtain ⟨d0, d1, d2, f0, f1, f2⟩ := blk3 KR2.out
  have lr2 := hp_lt KR2.out
  clear hk hk2 hk02 KA KB KR KZ HB0 HEN HW0
  have HB4 := Aside0.mk (((HB2.out.setCell (p := ⟨w.heap.size + 1 + 1, 0, none⟩) (by first | (simp; done) | (simp; omega)) (.bool false)).setCell (p := ⟨w.heap.size + 1 + 1, 1, none⟩) (by first | (simp; done) | (simp; omega)) (.slice none 0 0)).setCell (p := ⟨w.heap.size + 1 + 1, 2, none⟩) (by first | (simp; done) | (simp; omega)) (.slice none 0 0))
  go_wp2_with (fail)
  refine bodyPost_ret (v := .tuple #[.agg #[.bool false, .slice none 0 0, .slice none 0 0], .int .i64 2]) (by simp [results, Tryz.results5, go_sem, d0, d1, d2, f0, f1, f2]) rfl ?_
  exact ⟨rfl, HB4.out⟩
end Go.Proofs.YtgpgacnnkjiadaaGreatDoor.Sp
