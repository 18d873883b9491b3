/-
  CONTRACT of the statements' 'is': a Fraction is what is told of a quotient.
-/
import Derived.Test.YtgpgacnnkjiadaaGreatDoorRatio
import Derived.Test.YtgpgacnnkjiadaaGreatDoorWLast
import Derived.Deep.RegionHeld3
namespace Go.Proofs.YtgpgacnnkjiadaaGreatDoor.Sp
open Go.RowKit Go.Proofs.YtgpgacnnkjiadaaGreatDoorW.PrintWords Go.Proofs.YtgpgacnnkjiadaaGreatDoorW.PrintLast Go.Proofs.YtgpgacnnkjiadaaGreatDoorW.PrintMore Go.Proofs.YtgpgacnnkjiadaaGreatDoor.Dig
set_option linter.unusedVariables false
set_option linter.unusedSimpArgs false

set_option maxHeartbeats 1600000 in
set_option maxRecDepth 100000 in
theorem is_c (b neg : Bool) (A A2 A' A2' : Option Addr) (m c m2 c2 m' c' m2' c2' : Nat) (x y : List Int) (n d : Int) (w : World) (h : Ws w (.slice A m c) x) (h2 : Ws w (.slice A2 m2 c2) y) (h' : Dg w (.slice A' m' c') n) (h2' : Dg w (.slice A2' m2' c2') d) (hn : n < Lim) (hd : d < Lim) (hd0 : 0 < d) :
    Calls Tryz.prog 7 #[.agg #[.bool b, .slice A m c, .slice A2 m2 c2], .bool neg, .slice A' m' c', .slice A2' m2' c2'] w fun e w' => ∃ r, e = .returned (.bool r) ∧ (r = true ↔ (b = (neg && decide (0 < n)) ∧ Cn BW x ∧ ev BW x = n / Int.gcd n d) ∧ Cn BW y ∧ ev BW y = d / Int.gcd n d) ∧ Below w.heap.size w w' := by
  have hb : Below w.heap.size w ((w.alloc (.cells #[.bool b, .slice A m c, .slice A2 m2 c2] 26)).drew) := (below_alloc (Below.refl _ _) _).drew
  have HX := Aside0.mk (h.below hb)
  have HY := Aside0.mk (h2.below hb)
  have HN := Aside0.mk (h'.below hb)
  have HD := Aside0.mk (h2'.below hb)
  have HB := Aside0.mk hb
  have HL := Aside0.mk hn
  have HL2 := Aside0.mk hd
  have hu := Tryz.underlying26
  have hgt : Aside0 (decide (0 < m') = decide (0 < n)) := ⟨by simp [h'.pos_iff]⟩
  have h0 := h'.nonneg
  have HQ := Aside0.mk (show n / Int.gcd n d < Lim ∧ d / Int.gcd n d < Lim from ⟨by have := Int.ediv_le_self (Int.gcd n d : Int) h0; omega, by have := Int.ediv_le_self (Int.gcd n d : Int) (Int.le_of_lt hd0); omega⟩)
  clear h h2 h' h2' hn hd hb
  cases neg with
  | false =>
    go_enter Tryz.func7, Tryz.ntmps7
    go_wp2_with (fail)
    refine start_ (n := 12) (S := fun w' => w'.cell? ⟨w.heap.size, 0, none⟩ = some (.bool b) ∧ w'.cell? ⟨w.heap.size, 1, none⟩ = some (.slice A m c) ∧ w'.cell? ⟨w.heap.size, 2, none⟩ = some (.slice A2 m2 c2)) (ds := []) #[false, false, false, false, false, false, false, false, false, false, false, false] (by kernel_rfl) rfl rfl ⟨(by go_simp), (by go_simp), (by go_simp)⟩ (fun hHeld => ?_)
    refine pure_ (i := 1) (N := some 10) (v := ?_) (a' := ?_) #[false, true, false, false, false, false, false, false, false, false, false, false] rfl rfl (by kernel_rfl) (fun _ _ _ h => h) (Or.inl ⟨by rfl, ?_⟩) ?_ ?_
    rotate_left
    · intro w'
      go_simp
      with_reducible rfl
    rotate_left
    · simp only [Act.put, List.setIfInBounds_toArray, List.set_cons_zero, List.set_cons_succ, i64_w, i32_w]
      rfl
    refine pure_ (i := 2) (N := some 11) (v := ?_) (a' := ?_) #[false, true, true, false, false, false, false, false, false, false, false, false] rfl rfl (by kernel_rfl) (fun _ _ _ h => h) (Or.inl ⟨by rfl, ?_⟩) ?_ ?_
    rotate_left
    · intro w'
      go_simp
      with_reducible rfl
    rotate_left
    · simp only [Act.put, List.setIfInBounds_toArray, List.set_cons_zero, List.set_cons_succ, i64_w, i32_w]
      rfl
    refine pure_ (i := 3) (N := some 12) (v := undef) (a' := ?_) #[false, true, true, true, false, false, false, false, false, false, false, false] rfl rfl (by kernel_rfl) (fun _ _ _ h => h) (Or.inr ⟨by rfl, rfl⟩) ?_ ?_
    rotate_left
    · simp only [Act.put, List.setIfInBounds_toArray, List.set_cons_zero, List.set_cons_succ, i64_w, i32_w]
      rfl
    refine pure_ (i := 4) (N := some 13) (v := undef) (a' := ?_) #[false, true, true, true, true, false, false, false, false, false, false, false] rfl rfl (by kernel_rfl) (fun _ _ _ h => h) (Or.inr ⟨by rfl, rfl⟩) ?_ ?_
    rotate_left
    · simp only [Act.put, List.setIfInBounds_toArray, List.set_cons_zero, List.set_cons_succ, i64_w, i32_w]
      rfl
    refine pure_ (i := 5) (N := some 14) (v := undef) (a' := ?_) #[false, true, true, true, true, true, false, false, false, false, false, false] rfl rfl (by kernel_rfl) (fun _ _ _ h => h) (Or.inr ⟨by rfl, rfl⟩) ?_ ?_
    rotate_left
    · simp only [Act.put, List.setIfInBounds_toArray, List.set_cons_zero, List.set_cons_succ, i64_w, i32_w]
      rfl
    refine pure_ (i := 6) (N := some 15) (v := ?_) (a' := ?_) #[false, true, true, true, true, true, true, false, false, false, false, false] rfl rfl (by kernel_rfl) (fun _ _ _ h => h) (Or.inl ⟨by rfl, ?_⟩) ?_ ?_
    rotate_left
    · intro w'
      go_simp
      with_reducible rfl
    rotate_left
    · simp only [Act.put, List.setIfInBounds_toArray, List.set_cons_zero, List.set_cons_succ, i64_w, i32_w]
      rfl
    refine pure_ (i := 7) (N := some 16) (v := ?_) (a' := ?_) #[false, true, true, true, true, true, true, true, false, false, false, false] rfl rfl (by kernel_rfl) (fun _ _ _ h => h) (Or.inl ⟨by rfl, ?_⟩) ?_ ?_
    rotate_left
    · intro w'
      go_simp
      with_reducible rfl
    rotate_left
    · simp only [Act.put, List.setIfInBounds_toArray, List.set_cons_zero, List.set_cons_succ, i64_w, i32_w]
      rfl
    refine pure_ (i := 8) (N := some 17) (v := ?_) (a' := ?_) #[false, true, true, true, true, true, true, true, true, false, false, false] rfl rfl (by kernel_rfl) (fun _ _ _ h => h) (Or.inl ⟨by rfl, ?_⟩) ?_ ?_
    rotate_left
    · intro w'
      go_simp
      with_reducible rfl
    rotate_left
    · simp only [Act.put, List.setIfInBounds_toArray, List.set_cons_zero, List.set_cons_succ, i64_w, i32_w]
      rfl
    refine take_ (i := 0) (N := some 9) (v := ?_) (a' := ?_) #[true, true, true, true, true, true, true, true, true, false, false, false] rfl rfl (by kernel_rfl) (fun _ _ _ h => h) (Or.inl ⟨by rfl, ?_⟩) hHeld ?_ ?_
    rotate_left
    · rintro w' ⟨s0, s1, s2⟩
      go_simp
      with_reducible rfl
    rotate_left
    · simp only [Act.put, List.setIfInBounds_toArray, List.set_cons_zero, List.set_cons_succ, i64_w, i32_w]
      rfl
    refine one_ (i := 9) (N := some 18) #[true, true, true, true, true, true, true, true, true, true, false, false] rfl rfl (by kernel_rfl) (by decide) (fun K hK => ?_)
    refine goes_ Tryz.func16 (by kernel_rfl) rfl #[.bool false, .slice A' m' c', .slice A2' m2' c2'] (by rfl) rfl rfl (by simp only [List.map_toArray, List.map_cons, List.map_nil]; rfl) ?_
    with_reducible refine (over_c false A' A2' m' c' m2' c2' n d _ HN.out HD.out HL.out HL2.out hd0).mono ?_
    rintro e w1 ⟨A1, m1, c1, A3, m3, c3, rfl, hq, hr, hb1⟩
    refine ⟨_, rfl, ?_⟩
    have HQ1 := Aside0.mk hq
    have HR1 := Aside0.mk hr
    have HX1 := Aside0.mk (HX.out.below hb1)
    have HY1 := Aside0.mk (HY.out.below hb1)
    have HB1 := Aside0.mk (below_step HB.out hb1)
    have hq0 := (hb1.cell (p := ⟨w.heap.size, 0, none⟩) (by simp)).trans hHeld.1
    have hq1 := (hb1.cell (p := ⟨w.heap.size, 1, none⟩) (by simp)).trans hHeld.2.1
    have hq2 := (hb1.cell (p := ⟨w.heap.size, 2, none⟩) (by simp)).trans hHeld.2.2
    clear hq hr hb1 HX HY HB
    refine hK.out _ _ ⟨hq0, hq1, hq2⟩ (fun hHeld => ?_)
    clear hK K
    refine norm_ (a' := ?_) ?_ ?_
    rotate_left
    · show Act.put _ (some 18) _ = _
      simp only [Act.put, List.setIfInBounds_toArray, List.set_cons_zero, List.set_cons_succ, i64_w, i32_w]
      rfl
    refine one_ (i := 10) (N := some 19) #[true, true, true, true, true, true, true, true, true, true, true, false] rfl rfl (by kernel_rfl) (by decide) (fun K hK => ?_)
    refine goes_ Tryz.func15 (by kernel_rfl) rfl #[.agg #[.bool b, .slice A m c, .slice A2 m2 c2], .agg #[.bool (false && decide (0 < n)), .slice A1 m1 c1, .slice A3 m3 c3]] (by rfl) rfl rfl (by simp only [List.map_toArray, List.map_cons, List.map_nil]; rfl) ?_
    with_reducible refine (isFraction_c b (false && decide (0 < n)) A A2 A1 A3 m c m2 c2 m1 c1 m3 c3 x y _ _ _ HX1.out HY1.out HQ1.out HR1.out HQ.out.1 HQ.out.2).mono ?_
    rintro e w2 ⟨r, rfl, hr, hb1⟩
    refine ⟨_, rfl, ?_⟩
    have HR2 := Aside0.mk hr
    have HB2 := Aside0.mk (below_step HB1.out hb1)
    have hz := below_size HB1.out
    have hq0 := (hb1.cell (p := ⟨w.heap.size, 0, none⟩) (show w.heap.size < _ from World.block_lt_of_cell? _ _ hHeld.1)).trans hHeld.1
    have hq1 := (hb1.cell (p := ⟨w.heap.size, 1, none⟩) (show w.heap.size < _ from World.block_lt_of_cell? _ _ hHeld.1)).trans hHeld.2.1
    have hq2 := (hb1.cell (p := ⟨w.heap.size, 2, none⟩) (show w.heap.size < _ from World.block_lt_of_cell? _ _ hHeld.1)).trans hHeld.2.2
    clear hr hb1
    refine hK.out _ _ ⟨hq0, hq1, hq2⟩ (fun hHeld => ?_)
    clear hK K
    refine norm_ (a' := ?_) ?_ ?_
    rotate_left
    · show Act.put _ (some 19) _ = _
      simp only [Act.put, List.setIfInBounds_toArray, List.set_cons_zero, List.set_cons_succ, i64_w, i32_w]
      rfl
    refine pure_ (i := 11) (N := some 8) (v := ?_) (a' := ?_) #[true, true, true, true, true, true, true, true, true, true, true, true] rfl rfl (by kernel_rfl) (fun _ _ _ h => h) (Or.inl ⟨by rfl, ?_⟩) ?_ ?_
    rotate_left
    · intro w'
      go_simp
      with_reducible rfl
    rotate_left
    · simp only [Act.put, List.setIfInBounds_toArray, List.set_cons_zero, List.set_cons_succ, i64_w, i32_w]
      rfl
    refine done_ (by kernel_rfl) ?_
    go_wp2_with (fail)
    go_ret
    exact ⟨r, rfl, HR2.out, HB2.out⟩
  | true =>
    have HE := Aside0.mk (show ((decide (0 < m') && decide (0 < n)) && decide (0 < n / Int.gcd n d)) = (true && decide (0 < n)) by
      rw [hgt.out]
      by_cases hn : 0 < n
      · have h1 : 0 < n / Int.gcd n d := Int.ediv_pos_of_pos_of_dvd hn (by omega) (Int.gcd_dvd_left n d)
        rw [decide_eq_true hn, decide_eq_true h1]
        rfl
      · rw [decide_eq_false hn]
        rfl)
    go_enter Tryz.func7, Tryz.ntmps7
    go_wp2_with (fail)
    refine start_ (n := 12) (S := fun w' => w'.cell? ⟨w.heap.size, 0, none⟩ = some (.bool b) ∧ w'.cell? ⟨w.heap.size, 1, none⟩ = some (.slice A m c) ∧ w'.cell? ⟨w.heap.size, 2, none⟩ = some (.slice A2 m2 c2)) (ds := []) #[false, false, false, false, false, false, false, false, false, false, false, false] (by kernel_rfl) rfl rfl ⟨(by go_simp), (by go_simp), (by go_simp)⟩ (fun hHeld => ?_)
    refine pure_ (i := 1) (N := some 10) (v := ?_) (a' := ?_) #[false, true, false, false, false, false, false, false, false, false, false, false] rfl rfl (by kernel_rfl) (fun _ _ _ h => h) (Or.inl ⟨by rfl, ?_⟩) ?_ ?_
    rotate_left
    · intro w'
      go_simp
      with_reducible rfl
    rotate_left
    · simp only [Act.put, List.setIfInBounds_toArray, List.set_cons_zero, List.set_cons_succ, i64_w, i32_w]
      rfl
    refine pure_ (i := 2) (N := some 11) (v := ?_) (a' := ?_) #[false, true, true, false, false, false, false, false, false, false, false, false] rfl rfl (by kernel_rfl) (fun _ _ _ h => h) (Or.inl ⟨by rfl, ?_⟩) ?_ ?_
    rotate_left
    · intro w'
      go_simp
      with_reducible rfl
    rotate_left
    · simp only [Act.put, List.setIfInBounds_toArray, List.set_cons_zero, List.set_cons_succ, i64_w, i32_w]
      rfl
    refine pure_ (i := 3) (N := some 12) (v := ?_) (a' := ?_) #[false, true, true, true, false, false, false, false, false, false, false, false] rfl rfl (by kernel_rfl) (fun _ _ _ h => h) (Or.inl ⟨by rfl, ?_⟩) ?_ ?_
    rotate_left
    · intro w'
      go_simp
      with_reducible rfl
    rotate_left
    · simp only [Act.put, List.setIfInBounds_toArray, List.set_cons_zero, List.set_cons_succ, i64_w, i32_w]
      rfl
    refine pure_ (i := 4) (N := some 13) (v := ?_) (a' := ?_) #[false, true, true, true, true, false, false, false, false, false, false, false] rfl rfl (by kernel_rfl) (fun _ _ _ h => h) (Or.inl ⟨by rfl, ?_⟩) ?_ ?_
    rotate_left
    · intro w'
      go_simp
      with_reducible rfl
    rotate_left
    · simp only [Act.put, List.setIfInBounds_toArray, List.set_cons_zero, List.set_cons_succ, i64_w, i32_w]
      rfl
    refine pure_ (i := 5) (N := some 14) (v := ?_) (a' := ?_) #[false, true, true, true, true, true, false, false, false, false, false, false] rfl rfl (by kernel_rfl) (fun _ _ _ h => h) (Or.inl ⟨by rfl, ?_⟩) ?_ ?_
    rotate_left
    · intro w'
      go_simp
      with_reducible rfl
    rotate_left
    · simp only [Act.put, List.setIfInBounds_toArray, List.set_cons_zero, List.set_cons_succ, i64_w, i32_w]
      rfl
    refine pure_ (i := 6) (N := some 15) (v := ?_) (a' := ?_) #[false, true, true, true, true, true, true, false, false, false, false, false] rfl rfl (by kernel_rfl) (fun _ _ _ h => h) (Or.inl ⟨by rfl, ?_⟩) ?_ ?_
    rotate_left
    · intro w'
      go_simp
      with_reducible rfl
    rotate_left
    · simp only [Act.put, List.setIfInBounds_toArray, List.set_cons_zero, List.set_cons_succ, i64_w, i32_w]
      rfl
    refine pure_ (i := 7) (N := some 16) (v := ?_) (a' := ?_) #[false, true, true, true, true, true, true, true, false, false, false, false] rfl rfl (by kernel_rfl) (fun _ _ _ h => h) (Or.inl ⟨by rfl, ?_⟩) ?_ ?_
    rotate_left
    · intro w'
      go_simp
      with_reducible rfl
    rotate_left
    · simp only [Act.put, List.setIfInBounds_toArray, List.set_cons_zero, List.set_cons_succ, i64_w, i32_w]
      rfl
    refine pure_ (i := 8) (N := some 17) (v := ?_) (a' := ?_) #[false, true, true, true, true, true, true, true, true, false, false, false] rfl rfl (by kernel_rfl) (fun _ _ _ h => h) (Or.inl ⟨by rfl, ?_⟩) ?_ ?_
    rotate_left
    · intro w'
      go_simp
      with_reducible rfl
    rotate_left
    · simp only [Act.put, List.setIfInBounds_toArray, List.set_cons_zero, List.set_cons_succ, i64_w, i32_w]
      rfl
    refine take_ (i := 0) (N := some 9) (v := ?_) (a' := ?_) #[true, true, true, true, true, true, true, true, true, false, false, false] rfl rfl (by kernel_rfl) (fun _ _ _ h => h) (Or.inl ⟨by rfl, ?_⟩) hHeld ?_ ?_
    rotate_left
    · rintro w' ⟨s0, s1, s2⟩
      go_simp
      with_reducible rfl
    rotate_left
    · simp only [Act.put, List.setIfInBounds_toArray, List.set_cons_zero, List.set_cons_succ, i64_w, i32_w]
      rfl
    refine one_ (i := 9) (N := some 18) #[true, true, true, true, true, true, true, true, true, true, false, false] rfl rfl (by kernel_rfl) (by decide) (fun K hK => ?_)
    refine goes_ Tryz.func16 (by kernel_rfl) rfl #[.bool (decide (0 < m')), .slice A' m' c', .slice A2' m2' c2'] (by rfl) rfl rfl (by simp only [List.map_toArray, List.map_cons, List.map_nil]; rfl) ?_
    with_reducible refine (over_c (decide (0 < m')) A' A2' m' c' m2' c2' n d _ HN.out HD.out HL.out HL2.out hd0).mono ?_
    rintro e w1 ⟨A1, m1, c1, A3, m3, c3, rfl, hq, hr, hb1⟩
    refine ⟨_, rfl, ?_⟩
    have HQ1 := Aside0.mk hq
    have HR1 := Aside0.mk hr
    have HX1 := Aside0.mk (HX.out.below hb1)
    have HY1 := Aside0.mk (HY.out.below hb1)
    have HB1 := Aside0.mk (below_step HB.out hb1)
    have hq0 := (hb1.cell (p := ⟨w.heap.size, 0, none⟩) (by simp)).trans hHeld.1
    have hq1 := (hb1.cell (p := ⟨w.heap.size, 1, none⟩) (by simp)).trans hHeld.2.1
    have hq2 := (hb1.cell (p := ⟨w.heap.size, 2, none⟩) (by simp)).trans hHeld.2.2
    clear hq hr hb1 HX HY HB
    refine hK.out _ _ ⟨hq0, hq1, hq2⟩ (fun hHeld => ?_)
    clear hK K
    refine norm_ (a' := ?_) ?_ ?_
    rotate_left
    · show Act.put _ (some 18) _ = _
      simp only [Act.put, List.setIfInBounds_toArray, List.set_cons_zero, List.set_cons_succ, i64_w, i32_w]
      rfl
    refine one_ (i := 10) (N := some 19) #[true, true, true, true, true, true, true, true, true, true, true, false] rfl rfl (by kernel_rfl) (by decide) (fun K hK => ?_)
    refine goes_ Tryz.func15 (by kernel_rfl) rfl #[.agg #[.bool b, .slice A m c, .slice A2 m2 c2], .agg #[.bool (decide (0 < m') && decide (0 < n)), .slice A1 m1 c1, .slice A3 m3 c3]] (by rfl) rfl rfl (by simp only [List.map_toArray, List.map_cons, List.map_nil]; rfl) ?_
    with_reducible refine (isFraction_c b (decide (0 < m') && decide (0 < n)) A A2 A1 A3 m c m2 c2 m1 c1 m3 c3 x y _ _ _ HX1.out HY1.out HQ1.out HR1.out HQ.out.1 HQ.out.2).mono ?_
    rintro e w2 ⟨r, rfl, hr, hb1⟩
    refine ⟨_, rfl, ?_⟩
    have HR2 := Aside0.mk hr
    have HB2 := Aside0.mk (below_step HB1.out hb1)
    have hz := below_size HB1.out
    have hq0 := (hb1.cell (p := ⟨w.heap.size, 0, none⟩) (show w.heap.size < _ from World.block_lt_of_cell? _ _ hHeld.1)).trans hHeld.1
    have hq1 := (hb1.cell (p := ⟨w.heap.size, 1, none⟩) (show w.heap.size < _ from World.block_lt_of_cell? _ _ hHeld.1)).trans hHeld.2.1
    have hq2 := (hb1.cell (p := ⟨w.heap.size, 2, none⟩) (show w.heap.size < _ from World.block_lt_of_cell? _ _ hHeld.1)).trans hHeld.2.2
    clear hr hb1
    refine hK.out _ _ ⟨hq0, hq1, hq2⟩ (fun hHeld => ?_)
    clear hK K
    refine norm_ (a' := ?_) ?_ ?_
    rotate_left
    · show Act.put _ (some 19) _ = _
      simp only [Act.put, List.setIfInBounds_toArray, List.set_cons_zero, List.set_cons_succ, i64_w, i32_w]
      rfl
    refine pure_ (i := 11) (N := some 8) (v := ?_) (a' := ?_) #[true, true, true, true, true, true, true, true, true, true, true, true] rfl rfl (by kernel_rfl) (fun _ _ _ h => h) (Or.inl ⟨by rfl, ?_⟩) ?_ ?_
    rotate_left
    · intro w'
      go_simp
      with_reducible rfl
    rotate_left
    · simp only [Act.put, List.setIfInBounds_toArray, List.set_cons_zero, List.set_cons_succ, i64_w, i32_w]
      rfl
    refine done_ (by kernel_rfl) ?_
    go_wp2_with (fail)
    go_ret
    exact ⟨r, rfl, by rw [HR2.out, HE.out], HB2.out⟩
end Go.Proofs.YtgpgacnnkjiadaaGreatDoor.Sp
