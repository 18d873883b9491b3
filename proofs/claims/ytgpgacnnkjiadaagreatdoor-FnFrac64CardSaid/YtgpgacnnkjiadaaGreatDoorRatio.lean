/-
  CONTRACTS of the reference on fractions: IsNumber, IsFraction, Over.
-/
import Derived.Test.YtgpgacnnkjiadaaGreatDoorDivMod
import Derived.WideLaws
namespace Go.Proofs.YtgpgacnnkjiadaaGreatDoor.Sp
open Go.RowKit Go.Proofs.YtgpgacnnkjiadaaGreatDoorW.PrintWords Go.Proofs.YtgpgacnnkjiadaaGreatDoorW.PrintLast Go.Proofs.YtgpgacnnkjiadaaGreatDoorW.PrintMore Go.Proofs.YtgpgacnnkjiadaaGreatDoor.Dig
set_option linter.unusedVariables false
set_option linter.unusedSimpArgs false

theorem Dg.pos_iff {w : World} {A : Option Addr} {m c : Nat} {n : Int} (h : Dg w (.slice A m c) n) : 0 < m ↔ 0 < n := by
  obtain ⟨A', c', l, e, h2, h3, h4, h5⟩ := h
  injection e with e1 e2 e3
  subst e2 h5
  constructor
  · intro h; exact Cn_pos h4 BH_pos (List.length_pos_iff.1 h)
  · intro h
    rcases Nat.eq_zero_or_pos l.length with h0 | h0
    · rw [List.eq_nil_of_length_eq_zero h0, ev_nil] at h; omega
    · exact h0
set_option maxHeartbeats 1600000 in
set_option maxRecDepth 100000 in
theorem isNumber_c (b neg : Bool) (A A' : Option Addr) (m c m' c' : Nat) (x : List Int) (n : Int) (w : World) (h : Ws w (.slice A m c) x) (h' : Dg w (.slice A' m' c') n) (hn : n < Lim) :
    Calls Tryz.prog 26 #[.agg #[.bool b, .slice A m c], .bool neg, .slice A' m' c'] w fun e w' => ∃ r, e = .returned (.bool r) ∧ (r = true ↔ b = (neg && decide (0 < n)) ∧ Cn BW x ∧ ev BW x = n) ∧ Below w.heap.size w w' := by
  have HX := Aside0.mk (h.below (below_alloc (Below.refl _ _) (.cells #[.bool b, .slice A m c] 24)))
  have HN := Aside0.mk (h'.below (below_alloc (Below.refl _ _) (.cells #[.bool b, .slice A m c] 24)))
  have HL := Aside0.mk hn
  have hp := h'.pos_iff
  have HB := Aside0.mk ((Below.refl w.heap.size w).alloc (Nat.le_refl _) (.cells #[.bool b, .slice A m c] 24))
  have hu := Tryz.underlying24
  have hg := h'.nonneg
  clear h h' hn
  by_cases hm : 0 < m'
  · have hn : decide (0 < n) = true := decide_eq_true (hp.1 hm)
    have HNN := Aside0.mk hn
    clear hn hp
    cases neg <;> cases b
    all_goals
      go_enter Tryz.func26, Tryz.ntmps26
      go_wp2_with (fail)
      first
      | (refine (has_c (.slice A m c) (.slice A' m' c') x n _ HX.out HN.out HL.out).mono ?_
         rintro e w1 ⟨r, rfl, hr, hb⟩
         have HR := Aside0.mk hr
         have HB1 := Aside0.mk (below_step HB.out hb)
         clear hr hb
         go_wp2_with (fail)
         go_ret
         refine ⟨_, rfl, ?_, HB1.out⟩
         rw [HR.out, HNN.out]
         simp)
      | (go_ret
         refine ⟨_, rfl, ?_, HB.out⟩
         rw [HNN.out]
         simp)
  · have hn : decide (0 < n) = false := decide_eq_false (fun h => hm (hp.2 h))
    have HNN := Aside0.mk hn
    have hm0 : m' = 0 := by omega
    subst hm0
    clear hn hp hm
    cases neg <;> cases b
    all_goals
      go_enter Tryz.func26, Tryz.ntmps26
      go_wp2_with (fail)
      first
      | (refine (has_c (.slice A m c) (.slice A' 0 c') x n _ HX.out HN.out HL.out).mono ?_
         rintro e w1 ⟨r, rfl, hr, hb⟩
         have HR := Aside0.mk hr
         have HB1 := Aside0.mk (below_step HB.out hb)
         clear hr hb
         go_wp2_with (fail)
         go_ret
         refine ⟨_, rfl, ?_, HB1.out⟩
         rw [HR.out, HNN.out]
         simp)
      | (go_ret
         refine ⟨_, rfl, ?_, HB.out⟩
         rw [HNN.out]
         simp)

set_option maxHeartbeats 1600000 in
set_option maxRecDepth 100000 in
/-- A fraction, as told: sign, words, words; against a value: sign, digits, digits. -/
theorem isFraction_c (b neg : Bool) (A A2 A' A2' : Option Addr) (m c m2 c2 m' c' m2' c2' : Nat) (x y : List Int) (n d : Int) (w : World) (h : Ws w (.slice A m c) x) (h2 : Ws w (.slice A2 m2 c2) y) (h' : Dg w (.slice A' m' c') n) (h2' : Dg w (.slice A2' m2' c2') d) (hn : n < Lim) (hd : d < Lim) :
    Calls Tryz.prog 15 #[.agg #[.bool b, .slice A m c, .slice A2 m2 c2], .agg #[.bool neg, .slice A' m' c', .slice A2' m2' c2']] w fun e w' => ∃ r, e = .returned (.bool r) ∧ (r = true ↔ (b = (neg && decide (0 < n)) ∧ Cn BW x ∧ ev BW x = n) ∧ Cn BW y ∧ ev BW y = d) ∧ Below w.heap.size w w' := by
  obtain ⟨o1, ho1⟩ : ∃ o, o = Obj.cells #[.bool b, .slice A m c, .slice A2 m2 c2] 26 := ⟨_, rfl⟩
  obtain ⟨o2, ho2⟩ : ∃ o, o = Obj.cells #[.bool neg, .slice A' m' c', .slice A2' m2' c2'] 48 := ⟨_, rfl⟩
  have hb : Below w.heap.size w ((w.alloc o1).alloc o2) := below_alloc (below_alloc (Below.refl _ _) o1) o2
  rw [ho1, ho2] at hb
  have HX := Aside0.mk (h.below hb)
  have HY := Aside0.mk (h2.below hb)
  have HN := Aside0.mk (h'.below hb)
  have HD := Aside0.mk (h2'.below hb)
  have HB := Aside0.mk hb
  have HL := Aside0.mk hn
  have HL2 := Aside0.mk hd
  have hu := Tryz.underlying26
  have hu2 := Tryz.underlying48
  have hu3 := Tryz.underlying24
  clear h h2 h' h2' hn hd hb ho1 ho2
  go_enter Tryz.func15, Tryz.ntmps15
  go_wp2_with (fail)
  refine (isNumber_c b neg A A' m c m' c' x n _ HX.out HN.out HL.out).mono ?_
  rintro e w1 ⟨r, rfl, hr, hb1⟩
  have HR := Aside0.mk hr
  have HY1 := Aside0.mk (HY.out.below hb1)
  have HD1 := Aside0.mk (HD.out.below hb1)
  have HB1 := Aside0.mk (below_step HB.out hb1)
  have k1 := hp_below (show hp _ w.heap.size = some (.cells #[.bool b, .slice A m c, .slice A2 m2 c2] 26 (0, 0)) from (by simp (disch := first | omega | (simp; omega) | (simp; done) | fail) [hp_new, hp_old, hp_here, hp_other, setObj_cells, hp_drew, hp_drewN])) hb1
  have k2 := hp_below (show hp _ (w.heap.size + 1) = some (.cells #[.bool neg, .slice A' m' c', .slice A2' m2' c2'] 48 (0, 0)) from (by simp (disch := first | omega | (simp; omega) | (simp; done) | fail) [hp_new, hp_old, hp_here, hp_other, setObj_cells, hp_drew, hp_drewN])) hb1
  obtain ⟨c10, c11, c12, _, _, _⟩ := blk3 k1
  obtain ⟨c20, c21, c22, _, _, _⟩ := blk3 k2
  clear hr hb1 HY HD HB k1 k2
  cases r with
  | false =>
    go_wp2_with (fail)
    go_ret
    refine ⟨_, rfl, ?_, HB1.out⟩
    rw [← HR.out]
    simp
  | true =>
    go_wp2_with (fail)
    refine (has_c (.slice A2 m2 c2) (.slice A2' m2' c2') y d _ HY1.out HD1.out HL2.out).mono ?_
    rintro e w2 ⟨r2, rfl, hr2, hb2⟩
    have HR2 := Aside0.mk hr2
    have HB2 := Aside0.mk (below_step HB1.out hb2)
    clear hr2 hb2 c10 c11 c12 c20 c21 c22
    go_wp2_with (fail)
    go_ret
    refine ⟨_, rfl, ?_, HB2.out⟩
    rw [← HR.out, HR2.out]
    simp

set_option maxHeartbeats 1600000 in
set_option maxRecDepth 100000 in
/-- The fraction of two numbers in lowest terms. -/
theorem over_c (neg : Bool) (A A' : Option Addr) (m c m' c' : Nat) (n d : Int) (w : World) (h : Dg w (.slice A m c) n) (h' : Dg w (.slice A' m' c') d) (hn : n < Lim) (hd : d < Lim) (hd0 : 0 < d) :
    Calls Tryz.prog 16 #[.bool neg, .slice A m c, .slice A' m' c'] w fun e w' => ∃ A1 m1 c1 A2 m2 c2, e = .returned (.agg #[.bool (neg && decide (0 < n)), .slice A1 m1 c1, .slice A2 m2 c2]) ∧ Dg w' (.slice A1 m1 c1) (n / Int.gcd n d) ∧ Dg w' (.slice A2 m2 c2) (d / Int.gcd n d) ∧ Below w.heap.size w w' := by
  have hg0 : 0 < (Int.gcd n d : Int) := by
    have := Int.gcd_pos_of_ne_zero_right n (show d ≠ 0 by omega)
    omega
  have hgd : (Int.gcd n d : Int) ≤ d := Int.le_of_dvd hd0 (Int.gcd_dvd_right n d)
  obtain ⟨g, hg⟩ : ∃ g : Int, g = Int.gcd n d := ⟨_, rfl⟩
  rw [← hg] at hg0 hgd
  have HG := Aside0.mk hg
  have hb : Below w.heap.size w (w.alloc (.cells #[.bool false, .slice none 0 0, .slice none 0 0] 48)) := below_alloc (Below.refl _ _) _
  have HN := Aside0.mk (h.below hb)
  have HD := Aside0.mk (h'.below hb)
  have HB := Aside0.mk hb
  have HL := Aside0.mk hn
  have HL2 := Aside0.mk hd
  have hpi := h.pos_iff
  have hgt : Aside0 (decide (0 < m) = decide (0 < n)) := ⟨by simp [hpi]⟩
  have hu2 := Tryz.underlying48
  clear h h' hn hd hb hpi
  go_enter Tryz.func16, Tryz.ntmps16
  go_wp2_with (fail)
  refine (gcd_c _ _ n d _ HN.out HD.out HL.out HL2.out).mono ?_
  rintro e w1 ⟨r, rfl, hr, hb1⟩
  rw [← hg] at hr
  have HR := Aside0.mk hr
  have HN1 := Aside0.mk (HN.out.below hb1)
  have HD1 := Aside0.mk (HD.out.below hb1)
  have HB1 := Aside0.mk (below_step HB.out hb1)
  have k1 := hp_below (show hp _ w.heap.size = some (.cells #[.bool false, .slice none 0 0, .slice none 0 0] 48 (0, 0)) from (by simp (disch := first | omega | (simp; omega) | (simp; done) | fail) [hp_new, hp_old, hp_here, hp_other, setObj_cells, hp_drew, hp_drewN])) hb1
  have K1 := Aside0.mk k1
  have HLG := Aside0.mk (show g < Lim by have := HL2.out; omega)
  clear hr hb1 HN HD HB k1 hg
  go_wp2_with (fail)
  refine (divmod_c _ _ n g _ HN1.out HR.out HL.out HLG.out hg0).mono ?_
  rintro e w2 ⟨q, r2, rfl, hq, hr2, hb2⟩
  have HQ := Aside0.mk hq
  have HR2 := Aside0.mk (HR.out.below hb2)
  have HD2 := Aside0.mk (HD1.out.below hb2)
  have HB2 := Aside0.mk (below_step HB1.out hb2)
  have K2 := Aside0.mk (hp_below K1.out hb2)
  clear hq hr2 hb2 HN1 HD1 HB1 HR K1
  go_wp2_with (fail)
  refine (divmod_c _ _ d g _ HD2.out HR2.out HL2.out HLG.out hg0).mono ?_
  rintro e w3 ⟨q2, r3, rfl, hq2, hr3, hb3⟩
  have HQ2 := Aside0.mk hq2
  have HQ1 := Aside0.mk (HQ.out.below hb3)
  have HB3 := Aside0.mk (below_step HB2.out hb3)
  have K3 := hp_below K2.out hb3
  obtain ⟨A1, m1, c1, e1⟩ := HQ1.out.slice
  obtain ⟨A2, m2, c2, e2⟩ := HQ2.out.slice
  subst e1 e2
  clear hq2 hr3 hb3 HQ HD2 HB2 HR2 K2
  have hlt := hp_lt K3
  have HB4 := Aside0.mk (((HB3.out.setCell (p := ⟨w.heap.size, 0, none⟩) (Nat.le_refl _) (.bool (neg && decide (0 < n)))).setCell (p := ⟨w.heap.size, 1, none⟩) (Nat.le_refl _) (.slice A1 m1 c1)).setCell (p := ⟨w.heap.size, 2, none⟩) (Nat.le_refl _) (.slice A2 m2 c2))
  obtain ⟨c10, c11, c12, f10, f11, f12⟩ := blk3 K3
  have hset : ∀ {v : Value} {z : Int}, Dg w3 v z → Dg (((w3.setCell ⟨w.heap.size, 0, none⟩ (.bool (neg && decide (0 < n)))).setCell ⟨w.heap.size, 1, none⟩ (.slice A1 m1 c1)).setCell ⟨w.heap.size, 2, none⟩ (.slice A2 m2 c2)) v z := by
    intro v z hz
    refine Dg.set (Dg.set (Dg.set hz c10 (by simp) _) (u := .slice none 0 0) ?_ (by simp) _) (u := .slice none 0 0) ?_ (by simp) _
    · rw [World.cell?_setCell_other _ _ _ _ (by simp)]; exact c11
    · rw [World.cell?_setCell_other _ _ _ _ (by simp), World.cell?_setCell_other _ _ _ _ (by simp)]; exact c12
  have HQ1' := Aside0.mk (hset HQ1.out)
  have HQ2' := Aside0.mk (hset HQ2.out)
  clear hset HQ1 HQ2 K3 HL HL2
  cases neg with
  | false =>
    go_wp2_with (fail)
    refine bodyPost_ret (v := .agg #[.bool false, .slice A1 m1 c1, .slice A2 m2 c2]) (by simp [results, Tryz.results16, go_sem, c10, c11, c12, f10, f11, f12]) rfl ?_
    rw [← HG.out]
    exact ⟨_, _, _, _, _, _, rfl, HQ1'.out, HQ2'.out, HB4.out⟩
  | true =>
    obtain ⟨s, hs⟩ : ∃ s, decide (0 < m) = s := ⟨_, rfl⟩
    have hgt2 : decide (0 < n) = s := by rw [← hs, hgt.out]
    rw [hgt2] at HQ1' HQ2' HB4
    have HGT := Aside0.mk hgt2
    clear hgt2 hgt
    cases s with
    | false =>
      go_wp2_with (fail)
      refine bodyPost_ret (v := .agg #[.bool false, .slice A1 m1 c1, .slice A2 m2 c2]) (by simp [results, Tryz.results16, go_sem, c10, c11, c12, f10, f11, f12]) rfl ?_
      rw [← HG.out]
      exact ⟨_, _, _, _, _, _, by rw [HGT.out]; rfl, HQ1'.out, HQ2'.out, HB4.out⟩
    | true =>
      go_wp2_with (fail)
      refine bodyPost_ret (v := .agg #[.bool true, .slice A1 m1 c1, .slice A2 m2 c2]) (by simp [results, Tryz.results16, go_sem, c10, c11, c12, f10, f11, f12]) rfl ?_
      rw [← HG.out]
      exact ⟨_, _, _, _, _, _, by rw [HGT.out]; rfl, HQ1'.out, HQ2'.out, HB4.out⟩
end Go.Proofs.YtgpgacnnkjiadaaGreatDoor.Sp
