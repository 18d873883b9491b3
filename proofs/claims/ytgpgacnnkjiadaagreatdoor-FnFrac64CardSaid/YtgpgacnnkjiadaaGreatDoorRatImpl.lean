/-
  CONTRACTS of the thin package on fractions: told, wordsOf, fraction, of, RatInt64, RatUint64, RatInt.
-/
import Derived.Test.YtgpgacnnkjiadaaGreatDoorNat
import Derived.Test.YtgpgacnnkjiadaaGreatDoorWordsOf
namespace Go.Proofs.YtgpgacnnkjiadaaGreatDoor.Sp
open Go.RowKit Go.Proofs.YtgpgacnnkjiadaaGreatDoorW.PrintWords Go.Proofs.YtgpgacnnkjiadaaGreatDoorW.PrintLast Go.Proofs.YtgpgacnnkjiadaaGreatDoorW.PrintMore Go.Proofs.YtgpgacnnkjiadaaGreatDoor.Dig
set_option linter.unusedVariables false
set_option linter.unusedSimpArgs false

theorem Lim_lenW {l : List Int} (h : Cn BW l) (hl : ev BW l < Lim) : l.length ≤ 25000 := by
  rw [Lim_def, show (100000 : Nat) = 4 * 25000 from rfl, pow16] at hl
  exact Cn_len_le h BW_gt _ hl
theorem Wd.of_R {w : World} {v : Value} {r : List Int} {n : Int} {e base : Nat} {ok : Nat → Prop} (h : Kd.R (Kd.int .u64) e w base ok v r) (hc : Cn BW r) (he : ev BW r = n) : Wd w v n := by
  obtain ⟨A, c, h1, h2, h3⟩ := Kd.R_reads h
  exact ⟨A, c, r, h1, h2, h3, hc, he⟩
theorem Wd.slice {w : World} {v : Value} {n : Int} (h : Wd w v n) : ∃ A m c, v = .slice A m c := by
  obtain ⟨A, c, l, h1, _⟩ := h
  exact ⟨A, _, c, h1⟩
theorem Wd.nonneg {w : World} {v : Value} {n : Int} (h : Wd w v n) : 0 ≤ n := by
  obtain ⟨A, c, l, h1, h2, h3, h4, h5⟩ := h
  rw [← h5]
  exact ev_nonneg h4.ok BW_pos
theorem Cn_empty_iff {l : List Int} (h : Cn BW l) : (!l.isEmpty) = decide (0 < ev BW l) := by
  by_cases h0 : l = []
  · subst h0; rw [ev_nil]; rfl
  · rw [decide_eq_true (Cn_pos h BW_pos h0)]
    cases l with
    | nil => exact absurd rfl h0
    | cons x l => rfl
theorem wordsOf_c (b o : Nat) (v : Value) (n : Int) (w : World) (hz : w.cell? ⟨b, o + 1, none⟩ = some v) (h : Wd w v n) (hn : n < Lim) :
    Calls Tryz.prog 23 #[.pointer (some ⟨b, o, none⟩)] w fun e w' => ∃ A m c, e = .returned (.slice A m c) ∧ Wd w' (.slice A m c) n ∧ Below w.heap.size w w' := by
  obtain ⟨A, c, l, rfl, h2, h3, h4, h5⟩ := h
  have := Lim_lenW h4 (by rw [h5]; exact hn)
  refine (wordsOf_any b o A c l w hz h3 (by omega)).mono ?_
  rintro e w' ⟨v, rfl, hv, hb⟩
  obtain ⟨A1, m1, c1, rfl⟩ := (Wd.of_R hv h4 h5).slice
  exact ⟨_, _, _, rfl, Wd.of_R hv h4 h5, hb⟩
theorem told_c (b o : Nat) (neg : Bool) (v : Value) (n : Int) (w : World) (hz0 : w.cell? ⟨b, o, none⟩ = some (.bool neg)) (hz : w.cell? ⟨b, o + 1, none⟩ = some v) (h : Wd w v n) (hn : n < Lim) (hb : b < w.heap.size) :
    Calls Tryz.prog 21 #[.pointer (some ⟨b, o, none⟩)] w fun e w' => ∃ A m c, e = .returned (.agg #[.bool (neg && decide (0 < n)), .slice A m c]) ∧ Wd w' (.slice A m c) n ∧ Below w.heap.size w w' := by
  obtain ⟨A, c, l, rfl, h2, h3, h4, h5⟩ := h
  have := Lim_lenW h4 (by rw [h5]; exact hn)
  refine (told_any b o neg A c l w hz0 hz h3 (by omega) hb).mono ?_
  rintro e w' ⟨v, rfl, hv, hb⟩
  obtain ⟨A1, m1, c1, rfl⟩ := (Wd.of_R hv h4 h5).slice
  exact ⟨_, _, _, by rw [Cn_empty_iff h4, h5], Wd.of_R hv h4 h5, hb⟩
/-- A Rat in memory: signs, words. -/
def RatB (w : World) (g : Nat) (neg : Bool) (n d : Int) : Prop := ∃ va vb nb, hp w g = some (.cells #[.bool neg, va, .bool nb, vb] 40 (0, 0)) ∧ Wd w va n ∧ Wd w vb d
theorem RatB.below {w w1 : World} {g : Nat} {neg : Bool} {n d : Int} (h : RatB w g neg n d) (hb : Below w.heap.size w w1) : RatB w1 g neg n d := by
  obtain ⟨va, vb, nb, h1, h2, h3⟩ := h
  exact ⟨va, vb, nb, hp_below h1 hb, h2.below hb, h3.below hb⟩
set_option maxHeartbeats 800000 in
set_option maxRecDepth 100000 in
theorem fraction_c (g : Nat) (neg : Bool) (n d : Int) (w : World) (h : RatB w g neg n d) (hn : n < Lim) (hd : d < Lim) (hd0 : 0 < d) :
    Calls Tryz.prog 11 #[.pointer (some ⟨g, 0, none⟩)] w fun e w' => ∃ A m c A2 m2 c2, e = .returned (.agg #[.bool (neg && decide (0 < n)), .slice A m c, .slice A2 m2 c2]) ∧ Wd w' (.slice A m c) n ∧ Wd w' (.slice A2 m2 c2) d ∧ Below w.heap.size w w' := by
  obtain ⟨va, vb, nb, h1, h2, h3⟩ := h
  obtain ⟨Ab, cb, lb, e1, k2, k3, k4, k5⟩ := h3
  subst e1
  have hb0 : ((lb.length : Int) == 0) = false := by
    rw [beq_eq_false_iff_ne]
    intro h0
    have : lb = [] := List.eq_nil_of_length_eq_zero (by omega)
    rw [this, ev_nil] at k5
    omega
  have hb : Below w.heap.size w (w.alloc (.cells #[.bool false, .slice none 0 0, .slice none 0 0] 26)) := below_alloc (Below.refl _ _) _
  have HA := Aside0.mk (h2.below hb)
  have HBW := Aside0.mk ((show Wd w (.slice Ab lb.length cb) d from ⟨Ab, cb, lb, rfl, k2, k3, k4, k5⟩).below hb)
  have HL := Aside0.mk hn
  have HL2 := Aside0.mk hd
  have HB := Aside0.mk hb
  have hg := hp_lt h1
  obtain ⟨c0, c1, c2, c3, _, _, _, _⟩ := blk4 h1
  have K := Aside0.mk h1
  clear h2 k2 k3 k4 k5 hn hd hb h1
  go_enter Tryz.func11, Tryz.ntmps11
  go_wp2_with ((fail_if_success go_at_call 21); (fail_if_success go_at_call 23); go_in)
  refine (told_c g 0 neg va n _ (by go_simp) (by go_simp) HA.out HL.out (by simp; omega)).mono ?_
  rintro e w1 ⟨A1, m1, cc1, rfl, hv, hb1⟩
  have k1 := hp_below (show hp _ g = some (.cells #[.bool neg, va, .bool nb, .slice Ab lb.length cb] 40 (0, 0)) from (by simp (disch := first | omega | (simp; omega) | (simp; done) | fail) [hp_new, hp_old, hp_here, hp_other, setObj_cells, hp_drew, hp_drewN, K.out])) hb1
  have k0 := hp_below (show hp _ w.heap.size = some (.cells #[.bool false, .slice none 0 0, .slice none 0 0] 26 (0, 0)) from (by simp (disch := first | omega | (simp; omega) | (simp; done) | fail) [hp_new, hp_old, hp_here, hp_other, setObj_cells, hp_drew, hp_drewN])) hb1
  have HA1 := Aside0.mk hv
  have HBW1 := Aside0.mk (HBW.out.below hb1)
  have HB1 := Aside0.mk (below_step HB.out hb1)
  have K0 := Aside0.mk k0
  have hs := HB1.out.size
  clear hv hb1 HA HBW HB c0 c1 c2 c3 K
  obtain ⟨c0, c1, c2, c3, _, _, _, _⟩ := blk4 k1
  clear k1 k0
  go_wp2_with ((fail_if_success go_at_call 21); (fail_if_success go_at_call 23); go_in)
  refine (wordsOf_c g 2 (.slice Ab lb.length cb) d _ (by go_simp) HBW1.out HL2.out).mono ?_
  rintro e w2 ⟨A2, m2, cc2, rfl, hv, hb2⟩
  have k0 := hp_below K0.out hb2
  have HA2 := Aside0.mk (HA1.out.below hb2)
  have HB2 := Aside0.mk (below_step HB1.out hb2)
  obtain ⟨d0, d1, d2, f0, f1, f2⟩ := blk3 k0
  have hset : ∀ {u : Value} {z : Int} {s : Bool}, Wd w2 u z → Wd (((w2.setCell ⟨w.heap.size, 0, none⟩ (.bool s)).setCell ⟨w.heap.size, 1, none⟩ (.slice A1 m1 cc1)).setCell ⟨w.heap.size, 2, none⟩ (.slice A2 m2 cc2)) u z := by
    intro u z s hz
    refine Wd.set (Wd.set (Wd.set hz d0 (by simp) _) (u := .slice none 0 0) ?_ (by simp) _) (u := .slice none 0 0) ?_ (by simp) _
    · rw [World.cell?_setCell_other _ _ _ _ (by simp)]; exact d1
    · rw [World.cell?_setCell_other _ _ _ _ (by simp), World.cell?_setCell_other _ _ _ _ (by simp)]; exact d2
  have HV1 := Aside0.mk (hset (s := neg && decide (0 < n)) HA2.out)
  have HV2 := Aside0.mk (hset (s := neg && decide (0 < n)) hv)
  have HB3 := Aside0.mk (((HB2.out.setCell (p := ⟨w.heap.size, 0, none⟩) (Nat.le_refl _) (.bool (neg && decide (0 < n)))).setCell (p := ⟨w.heap.size, 1, none⟩) (Nat.le_refl _) (.slice A1 m1 cc1)).setCell (p := ⟨w.heap.size, 2, none⟩) (Nat.le_refl _) (.slice A2 m2 cc2))
  obtain ⟨s, hs0⟩ : ∃ s, s = (neg && decide (0 < n)) := ⟨_, rfl⟩
  have HS := Aside0.mk hs0
  rw [← hs0] at HV1 HV2 HB3 ⊢
  clear hset hv hb2 HA1 HA2 HB1 HB2 k0 K0 HBW1 hs0
  go_wp2_with (fail)
  refine bodyPost_ret (v := .agg #[.bool s, .slice A1 m1 cc1, .slice A2 m2 cc2]) (by simp [results, Tryz.results11, go_sem, d0, d1, d2, f0, f1, f2]) rfl ?_
  exact ⟨_, _, _, _, _, _, by rw [HS.out], HV1.out, HV2.out, HB3.out⟩

/-! ### RatInt64, RatUint64 -/
theorem one_wd {w : World} {g : Nat} {x : Int} (h : hp w g = some (.cells #[.int .u64 x] 67 (0, 0))) (h0 : 0 < x) (h1 : x < 18446744073709551616) : Wd w (.slice (some ⟨g, 0, none⟩) 1 1) x :=
  ⟨_, 1, [x], rfl, by simp, lit1_C g _ _ _ h, ⟨okd_cons.2 ⟨⟨by omega, by rw [BW_def]; exact h1⟩, okd_nil _⟩, fun d hd => by simp at hd; omega⟩, by rw [ev_cons, ev_nil]; simp⟩
theorem one_Lim : (1 : Int) < Lim := lt_Lim 1 (by decide) (by omega)
theorem word_Lim {x : Int} (h : x < 18446744073709551616) : x < Lim := lt_Lim 64 (by simpa using h) (by omega)
end Go.Proofs.YtgpgacnnkjiadaaGreatDoor.Sp
